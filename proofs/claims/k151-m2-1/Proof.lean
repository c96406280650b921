import JvmDerived
import JvmDerived.Pilot.@@N@@Statement
import JvmDerived.Pilot.@@N@@Code
set_option linter.unusedVariables false
set_option linter.unusedSimpArgs false
namespace Jvm.RoadKit
open Sem ClassFile Op Lib Jvm.Stand Jvm.Free Jvm.LawKit
section New
variable {p : Program} {l : Launch} {e : Env} {R : Room} {s : State} {m : MethodId} {args : Array Value} {below : List Frame} {meth : Method} {c : Code} {T : State} {locs : List Loc} {cells slots : Nat}
theorem retI (X : Stand p l e R s m args below meth c T locs cells slots) (hx : p.tables.exec = Jvm.exec) {pc : Nat} {Ls : Array Slot} {z : Int32} {rest : List Value} (hret : meth.sig.returnType = some .int) (hd : decode c.code pc = .ok (.ireturn, 1)) {fs : List Frame}
    (hl : ∀ (f : JFrame) (acts : List Action), f.method = m → f.locked = none → f.entered = [] → (doReturn e (T.setTop f) acts (some (.int z))).1 = T.setFrames fs) : Steps p.tables e below (T.setTop (mkF m pc Ls (.int z :: rest))) (T.setFrames fs) := by
  have hm' : T.vm.method? m = some meth := X.method'
  have hn : narrow .int (.int z) = .int z := rfl
  show Steps p.tables e below (T.setTop { method := m, pc := pc, locals := Ls, stack := _ :: rest, locked := none }) _
  jvm_step X.here [X.here.top, hx, hd, hm', hret, hn]
  first | (intro acts; rw [hl _ acts rfl rfl rfl]) | rw [hl _ _ rfl rfl rfl]
  exact Steps.refl _
end New
end Jvm.RoadKit
namespace Jvm.Pilot.@@N@@
open Jvm Jvm.ClassFile Sem Op Lib Jvm.Free Jvm.Stand Jvm.LawKit Jvm.RoadKit Bundle Jvm.Pilot.@@N@@.Jvm.D
theorem tk {L : List Jvm.Cond} {d : Jvm.Cond} (i : Nat) (h : L[i]? = some d) : d ∈ L := List.mem_of_getElem? h
/-! own small facts: what the case says of a pinned static's field -/
theorem own_fld {args : Array Value} {s : State} {t : Term} {C n d : String} {w : Addr} {k : Int32} (ht : t.eval args s none [] s = some (.ref w)) (h : (Cond.eq (.field t C n d) (.int k)).value args s none s [] = some true) : Fld s s.heap w C n d (.int k) := by
  obtain ⟨x, y, hx, hy, -, kin⟩ := cmp_v (Or.inl h)
  obtain rfl : Value.int k = y := Option.some.inj hy
  obtain ⟨z, rfl⟩ := kin
  have e : z = k := by simpa [Cond.value, hx, hy] using h
  subst e
  exact Fld.start ((fld_at ht).symm.trans hx)
theorem own_fldN {args : Array Value} {s : State} {t : Term} {C n d : String} {w : Addr} (ht : t.eval args s none [] s = some (.ref w)) (h : (Cond.eq (.field t C n d) .null).value args s none s [] = some true) : Fld s s.heap w C n d .null :=
  Fld.start ((fld_at ht).symm.trans (null_v h))
theorem own_nsroot {Z : State} {a0 : Array Value} {O K : String} {n : Nat} (w : (Cond.noSuperclass O).before a0 Z = true) (wk : (Cond.instantiable K n).before a0 Z = true) (hn : O ≠ K) : NS Z O K := by
  obtain ⟨c, k, h1, h2, h3, -, -⟩ := Cond.noSuperclass_spec w
  obtain ⟨t, -, g1, -⟩ := Cond.instantiable_spec wk
  have ne := ids_ne h1 g1 hn
  refine ⟨c, t, h1, g1, fun fuel => ?_⟩
  cases fuel with
  | zero => rfl
  | succ f => simp [Vm.isSubclassAux, ne, h2, h3]
theorem own_nsno {Z : State} {a0 : Array Value} {C S K : String} {n : Nat} (w : (Cond.superclass C S).before a0 Z = true) (wk : (Cond.instantiable K n).before a0 Z = true) (ns : NS Z C K) (hn : C ≠ K) : ∃ c t, Z.vm.findClass C = some c ∧ Z.vm.findClass K = some t ∧ Z.vm.assignable c t = false := by
  obtain ⟨c, t, h0, g0, n3⟩ := ns
  obtain ⟨p, k, kp, h1, h2, h3, h4, h5, -, h7⟩ := Cond.superclass_spec h0 w
  obtain ⟨t', k', g1, g2, g3, g4, -⟩ := Cond.instantiable_spec wk
  cases g0.symm.trans g1
  have ne := ids_ne h0 g0 hn
  have g5 : k'.isInterface = false := (Bool.or_eq_false_iff.mp g4).1
  refine ⟨c, t, h0, g0, ?_⟩
  show Z.vm.assignableAux (255 + 1) c t = false
  simp [Vm.assignableAux, ne, h2, g2, h5, g3, g5, Vm.isSubclass, n3]
theorem own_nar {v : Value} {C : String} (h : v.isRef = true) : narrow (.object C) v = v := by rcases ref_cases h with rfl | ⟨a, rfl⟩ <;> rfl
theorem own_fit {v : Value} {C : String} (h : v.isRef = true) : fits (.object C) v = true := by rcases ref_cases h with rfl | ⟨a, rfl⟩ <;> rfl
theorem own_refof {v : Value} (h : v.isRef = true) (n : ¬ v = .null) : ∃ a, v = .ref a := (ref_cases h).elim (fun q => absurd q n) id
theorem own_sint {args : Array Value} {s : State} {t : Term} {k : Int32} (h : (Cond.eq t (.int k)).value args s none s [] = some true) : t.eval args s none [] s = some (.int k) := by
  obtain ⟨x, y, hx, hy, -, kin⟩ := cmp_v (Or.inl h)
  obtain rfl : Value.int k = y := Option.some.inj hy
  obtain ⟨z, rfl⟩ := kin
  have e : z = k := by simpa [Cond.value, hx, hy] using h
  subst e; exact hx
theorem own_snot {args : Array Value} {s : State} {t : Term} {k z : Int32} (ht : t.eval args s none [] s = some (.int z)) (h : (Cond.not (Cond.eq t (.int k))).value args s none s [] = some true) : ¬ z = k := by
  have := not_v h
  intro e
  subst e
  simp [Cond.value, ht, Term.eval] at this
theorem own_seq {args : Array Value} {s : State} {t u : Term} {a b : Addr} (ht : t.eval args s none [] s = some (.ref a)) (hu : u.eval args s none [] s = some (.ref b)) (h : (Cond.eq t u).value args s none s [] = some true) : b = a := by
  have e : a = b := by simpa [Cond.value, ht, hu] using h
  exact e.symm
theorem own_len {args : Array Value} {s : State} {t : Term} {a : Addr} {c : Cell} {ty : FieldType} {n : Int32} (ht : t.eval args s none [] s = some (.ref a)) (A : Arr s s.heap a c ty) (h : (Cond.eq (.length t) (.int n)).value args s none s [] = some true) : c.slots.size < 2 ^ 31 ∧ c.slots.size.toInt32 = n := by
  have e0 := own_sint h
  have hfin := A.fin (Vm.Alike.refl _)
  by_cases hl : c.slots.size < 2 ^ 31
  · rw [len_f ht hfin hl] at e0
    exact ⟨hl, Value.int.inj (Option.some.inj e0)⟩
  · exfalso
    simp [Term.eval, ht, hfin, hl] at e0
theorem own_elem {args : Array Value} {s : State} {t u : Term} {a w : Addr} {c : Cell} {i : Int32} (ht : t.eval args s none [] s = some (.ref a)) (hc : s.heap[a]? = some c) (hu : u.eval args s none [] s = some (.ref w)) (h : (Cond.eq (.elem t (.int i)) u).value args s none s [] = some true) : c.slots[i.toNatClampNeg]? = some (.ref w) := by
  obtain ⟨x, y, hx, hy, k1, k2⟩ := cmp_v (Or.inl h)
  obtain rfl : Value.ref w = y := Option.some.inj (hu.symm.trans hy)
  have e := gotT (eq_R hx hu k2.2 rfl) h
  rw [e] at hx
  exact (elem_in hx ht (Term.int_eval i) hc).2
theorem own_ldcF {p : Program} {l : Launch} {e : Env} {R : Room} {s : State} {m : MethodId} {args : Array Value} {below : List Frame} {meth : Method} {c : Code} {T : State} {locs : List Loc} {cells slots : Nat}
    (X : Stand p l e R s m args below meth c T locs cells slots) (hx : p.tables.exec = Jvm.exec) {own : String} {index : Nat} {b : UInt32} (hown : s.vm.findClass own = some m.cls) (w : (Cond.constantFloat own index b).before args s = true) {g : JFrame} (hg : g.method = m) (hd : decode c.code g.pc = .ok (.ldc index, 2)) :
    ∀ target, Steps p.tables e below (T.setTop { g with pc := g.pc + 2, stack := .float b :: g.stack }) target → Steps p.tables e below (T.setTop g) target := by
  obtain ⟨k, cf, h1, h2, h3⟩ := Cond.constantFloat_spec hown w
  exact X.ldcFloat hx h1 h2 h3 hg hd
theorem own_iteR {c : Prop} [Decidable c] {a b : Value} (ha : a.isRef = true) (hb : b.isRef = true) : (if c then a else b).isRef = true := by split <;> assumption
theorem own_iteE {c P : Prop} [Decidable c] {a b : Value} {x : Addr} (h : (if c then a else b) = .ref x) (ha : a = .ref x → P) (hb : b = .ref x → P) : P := by
  split at h
  · exact ha h
  · exact hb h
theorem own_old {Z : State} {n0 : Nat} {h : Heap} (O : Old Z n0 h) : n0 ≤ h.size := O.1 ▸ O.2.1
theorem own_rand (x m : Int32) (n : Int) (h0 : 0 ≤ m.toInt) (h1 : m.toInt < n) : 0 ≤ (x &&& m).toInt ∧ (x &&& m).toInt < n := by
  have := c_and x m h0; omega
theorem own_rrem (x y : Int32) (n : Int) (h0 : 0 ≤ x.toInt) (hy : y.toInt = n) (hn : 0 < n) : 0 ≤ (x % y).toInt ∧ (x % y).toInt < n := by
  rw [(c_irem x y n hy).1 h0]; exact ⟨Int.emod_nonneg _ (by omega), Int.emod_lt_of_pos _ hn⟩
theorem own_rshr (x q : Int32) (k : Nat) (m : Int) {n : Int} (r : 0 ≤ x.toInt ∧ x.toInt < n) (hk : q.toBitVec.toNat % 32 = k) (hm : (n - 1) / ((2 ^ k : Nat) : Int) < m) : 0 ≤ (x >>> (q &&& 31)).toInt ∧ (x >>> (q &&& 31)).toInt < m := by
  rw [c_ishr x q k hk]
  have hp : (0 : Int) < ((2 ^ k : Nat) : Int) := by exact_mod_cast Nat.two_pow_pos k
  exact ⟨Int.ediv_nonneg r.1 (Int.le_of_lt hp), Int.lt_of_le_of_lt (Int.ediv_le_ediv hp (by omega)) hm⟩
theorem own_off {e c : Int32} {n : Int} (r : 0 ≤ e.toInt ∧ e.toInt < n) (h : decide (n ≤ c.toInt ∨ c.toInt < 0) = true) : ¬ e = c := fun z => by
  subst z
  have := of_decide_eq_true h
  omega
theorem own_below {e c : Int32} {n : Int} (r : 0 ≤ e.toInt ∧ e.toInt < n) (h : n ≤ c.toInt) : e < c := by rw [Int32.lt_iff_toInt_lt]; omega
theorem own_notbelow {e c : Int32} {n : Int} (r : 0 ≤ e.toInt ∧ e.toInt < n) (h : c.toInt ≤ 0) : ¬ e < c := by rw [Int32.lt_iff_toInt_lt]; omega
theorem own_notabove {e c : Int32} {n : Int} (r : 0 ≤ e.toInt ∧ e.toInt < n) (h : n - 1 ≤ c.toInt) : ¬ c < e := by rw [Int32.lt_iff_toInt_lt]; omega
theorem own_above {e c : Int32} {n : Int} (r : 0 ≤ e.toInt ∧ e.toInt < n) (h : c.toInt < 0) : c < e := by rw [Int32.lt_iff_toInt_lt]; omega
theorem own_lt {a b : Int32} {n : Int} (h : a < b) (e : b.toInt = n) : a.toInt < n := by rw [← e]; exact Int32.lt_iff_toInt_lt.mp h
theorem own_ne {a b : Int32} {n : Int} (h : ¬ a = b) (e : b.toInt = n) : a.toInt ≠ n := fun z => h (Int32.toInt_inj.mp (z.trans e.symm))
theorem own_eq {a b : Int32} {n : Int} (e : b.toInt = n) (h : a.toInt = n) : a = b := Int32.toInt_inj.mp (h.trans e.symm)
abbrev Sp (p : Program) (e : Env) (below : List Frame) (T : State) (f : JFrame) (t : State) : Prop := Steps p.tables e below (T.setTop f) t
abbrev Cm (p : Program) (e : Env) (below : List Frame) (E a : State) : Prop := ∀ t, Steps p.tables e below a t → Steps p.tables e below E t
abbrev lt1 (a0 : Int32) (a1 : Int32) (a2 : Int32) (a3 : Int32) (a4 : Int32) : Array Slot := #[.val (.int a0), .val (.int a1), .val (.int a2), .val (.int a3), .val (.int a4), .unset, .unset, .unset, .unset, .unset, .unset, .unset, .unset, .unset]
abbrev lt2 (a0 : Int32) (a1 : Int32) (a2 : Int32) (a3 : Int32) (a4 : Int32) (a5 : Int32) : Array Slot := #[.val (.int a0), .val (.int a1), .val (.int a2), .val (.int a3), .val (.int a4), .val (.int a5), .unset, .unset, .unset, .unset, .unset, .unset, .unset, .unset]
abbrev lt3 (a0 : Int32) (a1 : Int32) (a2 : Int32) (a3 : Int32) (a4 : Int32) (a5 : Int32) (a6 : Addr) : Array Slot := #[.val (.int a0), .val (.int a1), .val (.int a2), .val (.int a3), .val (.int a4), .val (.int a5), .val (.ref a6), .unset, .unset, .unset, .unset, .unset, .unset, .unset]
theorem d1_0 : decode method_2_code 0 = .ok (.iload_n 0, 1) := by decide +kernel
abbrev lt4 (a0 : Int32) (a1 : Int32) (a2 : Int32) : Array Slot := #[.val (.int a0), .val (.int a1), .val (.int a2)]
theorem d1_1 : decode method_2_code 1 = .ok (.iload_n 1, 1) := by decide +kernel
theorem d1_2 : decode method_2_code 2 = .ok (.iushr, 1) := by decide +kernel
theorem d1_3 : decode method_2_code 3 = .ok (.iconst 1, 1) := by decide +kernel
theorem d1_4 : decode method_2_code 4 = .ok (.iand, 1) := by decide +kernel
theorem d1_5 : decode method_2_code 5 = .ok (.ifCond .eq 8, 3) := by decide +kernel
theorem d1_13 : decode method_2_code 13 = .ok (.iload_n 2, 1) := by decide +kernel
theorem d1_14 : decode method_2_code 14 = .ok (.i2b, 1) := by decide +kernel
theorem d1_15 : decode method_2_code 15 = .ok (.ireturn, 1) := by decide +kernel
theorem d1_8 : decode method_2_code 8 = .ok (.bipush 13, 2) := by decide +kernel
theorem d1_10 : decode method_2_code 10 = .ok (.goto 5, 3) := by decide +kernel
abbrev Y4 : MethodName := (⟨"com/example/bristlecone/bristlecone/io/HttpLineIsEmptyPinLaw", "pick", "(III)B"⟩ : MethodName)
theorem pd_0 : parseMethodDescriptor "(III)B" = some ⟨[.int, .int, .int], some .byte⟩ := by decide +kernel
abbrev lt5 (a0 : Int32) (a1 : Int32) (a2 : Int32) (a3 : Int32) (a4 : Int32) (a5 : Int32) (a6 : Addr) (a7 : Int32) : Array Slot := #[.val (.int a0), .val (.int a1), .val (.int a2), .val (.int a3), .val (.int a4), .val (.int a5), .val (.ref a6), .val (.int a7), .unset, .unset, .unset, .unset, .unset, .unset]
abbrev lt6 (a0 : Int32) (a1 : Int32) (a2 : Int32) (a3 : Int32) (a4 : Int32) (a5 : Int32) (a6 : Addr) (a7 : Int32) (a8 : Int32) : Array Slot := #[.val (.int a0), .val (.int a1), .val (.int a2), .val (.int a3), .val (.int a4), .val (.int a5), .val (.ref a6), .val (.int a7), .val (.int a8), .unset, .unset, .unset, .unset, .unset]
abbrev lt7 (a0 : Int32) (a1 : Int32) (a2 : Int32) (a3 : Int32) (a4 : Int32) (a5 : Int32) (a6 : Addr) (a7 : Int32) (a8 : Int32) (a9 : Int32) : Array Slot := #[.val (.int a0), .val (.int a1), .val (.int a2), .val (.int a3), .val (.int a4), .val (.int a5), .val (.ref a6), .val (.int a7), .val (.int a8), .val (.int a9), .unset, .unset, .unset, .unset]
abbrev lt8 (a0 : Int32) (a1 : Int32) (a2 : Int32) (a3 : Int32) (a4 : Int32) (a5 : Int32) (a6 : Addr) (a7 : Int32) (a8 : Int32) (a9 : Int32) (a10 : Int32) : Array Slot := #[.val (.int a0), .val (.int a1), .val (.int a2), .val (.int a3), .val (.int a4), .val (.int a5), .val (.ref a6), .val (.int a7), .val (.int a8), .val (.int a9), .val (.int a10), .unset, .unset, .unset]
abbrev lt9 (a0 : Int32) (a1 : Int32) (a2 : Int32) (a3 : Int32) (a4 : Int32) (a5 : Int32) (a6 : Addr) (a7 : Int32) (a8 : Int32) (a9 : Int32) (a10 : Int32) (a11 : Int32) : Array Slot := #[.val (.int a0), .val (.int a1), .val (.int a2), .val (.int a3), .val (.int a4), .val (.int a5), .val (.ref a6), .val (.int a7), .val (.int a8), .val (.int a9), .val (.int a10), .val (.int a11), .unset, .unset]
theorem d2_0 : decode prog_8_method_3_code 0 = .ok (.aload_n 0, 1) := by decide +kernel
abbrev lt10 (a0 : Addr) : Array Slot := #[.val (.ref a0)]
theorem d2_1 : decode prog_8_method_3_code 1 = .ok (.arraylength, 1) := by decide +kernel
theorem d2_2 : decode prog_8_method_3_code 2 = .ok (.iconst 1, 1) := by decide +kernel
theorem d2_3 : decode prog_8_method_3_code 3 = .ok (.if_icmp .eq 17, 3) := by decide +kernel
theorem d2_20 : decode prog_8_method_3_code 20 = .ok (.iconst 1, 1) := by decide +kernel
theorem d2_21 : decode prog_8_method_3_code 21 = .ok (.goto 4, 3) := by decide +kernel
theorem d2_25 : decode prog_8_method_3_code 25 = .ok (.ireturn, 1) := by decide +kernel
abbrev Y11 : MethodName := (⟨"com/example/bristlecone/bristlecone/io/HttpLine", "isEmpty", "([B)Z"⟩ : MethodName)
theorem pd_1 : parseMethodDescriptor "([B)Z" = some ⟨[(.array .byte)], some .boolean⟩ := by decide +kernel
abbrev lt11 (a0 : Int32) (a1 : Int32) (a2 : Int32) (a3 : Int32) (a4 : Int32) (a5 : Int32) (a6 : Addr) (a7 : Int32) (a8 : Int32) (a9 : Int32) (a10 : Int32) (a11 : Int32) (a12 : Int32) : Array Slot := #[.val (.int a0), .val (.int a1), .val (.int a2), .val (.int a3), .val (.int a4), .val (.int a5), .val (.ref a6), .val (.int a7), .val (.int a8), .val (.int a9), .val (.int a10), .val (.int a11), .val (.int a12), .unset]
theorem d3_0 : decode prog_8_method_4_code 0 = .ok (.aload_n 0, 1) := by decide +kernel
abbrev lt12 (a0 : Addr) : Array Slot := #[.val (.ref a0), .unset]
theorem d3_1 : decode prog_8_method_4_code 1 = .ok (.arraylength, 1) := by decide +kernel
theorem d3_2 : decode prog_8_method_4_code 2 = .ok (.iconst 1, 1) := by decide +kernel
theorem d3_3 : decode prog_8_method_4_code 3 = .ok (.isub, 1) := by decide +kernel
theorem d3_4 : decode prog_8_method_4_code 4 = .ok (.istore_n 1, 1) := by decide +kernel
abbrev lt13 (a0 : Addr) (a1 : Int32) : Array Slot := #[.val (.ref a0), .val (.int a1)]
theorem d3_5 : decode prog_8_method_4_code 5 = .ok (.iload_n 1, 1) := by decide +kernel
theorem d3_6 : decode prog_8_method_4_code 6 = .ok (.ifCond .le 16, 3) := by decide +kernel
theorem d3_22 : decode prog_8_method_4_code 22 = .ok (.new 42, 3) := by decide +kernel
theorem d3_25 : decode prog_8_method_4_code 25 = .ok (.dup, 1) := by decide +kernel
theorem d3_26 : decode prog_8_method_4_code 26 = .ok (.aload_n 0, 1) := by decide +kernel
theorem d3_27 : decode prog_8_method_4_code 27 = .ok (.iconst 0, 1) := by decide +kernel
theorem d3_28 : decode prog_8_method_4_code 28 = .ok (.iload_n 1, 1) := by decide +kernel
theorem d3_29 : decode prog_8_method_4_code 29 = .ok (.getstatic 44, 3) := by decide +kernel
theorem d3_32 : decode prog_8_method_4_code 32 = .ok (.invokespecial 50, 3) := by decide +kernel
theorem d4_0 : decode jdk_42_method_10_code 0 = .ok (.aload_n 0, 1) := by decide +kernel
abbrev lt14 (a0 : Addr) (a1 : Addr) (a2 : Int32) (a3 : Int32) (a4 : Addr) : Array Slot := #[.val (.ref a0), .val (.ref a1), .val (.int a2), .val (.int a3), .val (.ref a4)]
theorem d4_1 : decode jdk_42_method_10_code 1 = .ok (.aload 4, 2) := by decide +kernel
theorem d4_3 : decode jdk_42_method_10_code 3 = .ok (.invokestatic 78, 3) := by decide +kernel
theorem d5_0 : decode jdk_31_method_10_code 0 = .ok (.aload_n 0, 1) := by decide +kernel
theorem d5_1 : decode jdk_31_method_10_code 1 = .ok (.ifnonnull 11, 3) := by decide +kernel
theorem d5_12 : decode jdk_31_method_10_code 12 = .ok (.aload_n 0, 1) := by decide +kernel
theorem d5_13 : decode jdk_31_method_10_code 13 = .ok (.areturn, 1) := by decide +kernel
abbrev Y16 : MethodName := (⟨"java/util/Objects", "requireNonNull", "(Ljava/lang/Object;)Ljava/lang/Object;"⟩ : MethodName)
theorem pd_2 : parseMethodDescriptor "(Ljava/lang/Object;)Ljava/lang/Object;" = some ⟨[(.object "java/lang/Object")], some (.object "java/lang/Object")⟩ := by decide +kernel
theorem d4_6 : decode jdk_42_method_10_code 6 = .ok (.checkcast 84, 3) := by decide +kernel
theorem d4_9 : decode jdk_42_method_10_code 9 = .ok (.aload_n 1, 1) := by decide +kernel
theorem d4_10 : decode jdk_42_method_10_code 10 = .ok (.iload_n 2, 1) := by decide +kernel
theorem d4_11 : decode jdk_42_method_10_code 11 = .ok (.iload_n 3, 1) := by decide +kernel
theorem d4_12 : decode jdk_42_method_10_code 12 = .ok (.aload_n 1, 1) := by decide +kernel
theorem d4_13 : decode jdk_42_method_10_code 13 = .ok (.arraylength, 1) := by decide +kernel
theorem d4_14 : decode jdk_42_method_10_code 14 = .ok (.invokestatic 34, 3) := by decide +kernel
theorem d6_0 : decode jdk_42_method_157_code 0 = .ok (.iload_n 0, 1) := by decide +kernel
theorem d6_1 : decode jdk_42_method_157_code 1 = .ok (.iload_n 1, 1) := by decide +kernel
theorem d6_2 : decode jdk_42_method_157_code 2 = .ok (.iload_n 2, 1) := by decide +kernel
theorem d6_3 : decode jdk_42_method_157_code 3 = .ok (.getstatic 1053, 3) := by decide +kernel
theorem d6_6 : decode jdk_42_method_157_code 6 = .ok (.invokestatic 1065, 3) := by decide +kernel
theorem d7_0 : decode jdk_41_method_13_code 0 = .ok (.iload_n 2, 1) := by decide +kernel
abbrev lt15 (a0 : Int32) (a1 : Int32) (a2 : Int32) (a3 : Value) : Array Slot := #[.val (.int a0), .val (.int a1), .val (.int a2), .val a3]
theorem d7_1 : decode jdk_41_method_13_code 1 = .ok (.iload_n 0, 1) := by decide +kernel
theorem d7_2 : decode jdk_41_method_13_code 2 = .ok (.ior, 1) := by decide +kernel
theorem d7_3 : decode jdk_41_method_13_code 3 = .ok (.iload_n 1, 1) := by decide +kernel
theorem d7_4 : decode jdk_41_method_13_code 4 = .ok (.ior, 1) := by decide +kernel
theorem d7_5 : decode jdk_41_method_13_code 5 = .ok (.ifCond .lt 10, 3) := by decide +kernel
theorem d7_8 : decode jdk_41_method_13_code 8 = .ok (.iload_n 1, 1) := by decide +kernel
theorem d7_9 : decode jdk_41_method_13_code 9 = .ok (.iload_n 2, 1) := by decide +kernel
theorem d7_10 : decode jdk_41_method_13_code 10 = .ok (.iload_n 0, 1) := by decide +kernel
theorem d7_11 : decode jdk_41_method_13_code 11 = .ok (.isub, 1) := by decide +kernel
theorem d7_12 : decode jdk_41_method_13_code 12 = .ok (.if_icmp .le 11, 3) := by decide +kernel
theorem d7_23 : decode jdk_41_method_13_code 23 = .ok (.iload_n 0, 1) := by decide +kernel
theorem d7_24 : decode jdk_41_method_13_code 24 = .ok (.ireturn, 1) := by decide +kernel
abbrev Y18 : MethodName := (⟨"jdk/internal/util/Preconditions", "checkFromIndexSize", "(IIILjava/util/function/BiFunction;)I"⟩ : MethodName)
theorem pd_3 : parseMethodDescriptor "(IIILjava/util/function/BiFunction;)I" = some ⟨[.int, .int, .int, (.object "java/util/function/BiFunction")], some .int⟩ := by decide +kernel
theorem d6_9 : decode jdk_42_method_157_code 9 = .ok (.ireturn, 1) := by decide +kernel
abbrev Y19 : MethodName := (⟨"java/lang/String", "checkBoundsOffCount", "(III)I"⟩ : MethodName)
theorem pd_4 : parseMethodDescriptor "(III)I" = some ⟨[.int, .int, .int], some .int⟩ := by decide +kernel
theorem d4_17 : decode jdk_42_method_10_code 17 = .ok (.iload_n 3, 1) := by decide +kernel
theorem d4_18 : decode jdk_42_method_10_code 18 = .ok (.invokespecial 75, 3) := by decide +kernel
theorem d8_0 : decode jdk_42_method_11_code 0 = .ok (.aload_n 0, 1) := by decide +kernel
abbrev lt16 (a0 : Addr) (a1 : Addr) (a2 : Addr) (a3 : Int32) (a4 : Int32) : Array Slot := #[.val (.ref a0), .val (.ref a1), .val (.ref a2), .val (.int a3), .val (.int a4), .unset, .unset, .unset, .unset, .unset, .unset]
theorem d8_1 : decode jdk_42_method_11_code 1 = .ok (.invokespecial 1, 3) := by decide +kernel
theorem d8_4 : decode jdk_42_method_11_code 4 = .ok (.iload 4, 2) := by decide +kernel
theorem d8_6 : decode jdk_42_method_11_code 6 = .ok (.ifCond .ne 24, 3) := by decide +kernel
theorem d8_9 : decode jdk_42_method_11_code 9 = .ok (.aload_n 0, 1) := by decide +kernel
theorem d8_10 : decode jdk_42_method_11_code 10 = .ok (.ldc 7, 2) := by decide +kernel
theorem d8_12 : decode jdk_42_method_11_code 12 = .ok (.getfield 9, 3) := by decide +kernel
theorem d8_15 : decode jdk_42_method_11_code 15 = .ok (.putfield 9, 3) := by decide +kernel
theorem d8_18 : decode jdk_42_method_11_code 18 = .ok (.aload_n 0, 1) := by decide +kernel
theorem d8_19 : decode jdk_42_method_11_code 19 = .ok (.ldc 7, 2) := by decide +kernel
theorem d8_21 : decode jdk_42_method_11_code 21 = .ok (.getfield 15, 3) := by decide +kernel
theorem d8_24 : decode jdk_42_method_11_code 24 = .ok (.putfield 15, 3) := by decide +kernel
theorem d8_27 : decode jdk_42_method_11_code 27 = .ok (.goto 852, 3) := by decide +kernel
theorem d8_879 : decode jdk_42_method_11_code 879 = .ok (.return_, 1) := by decide +kernel
abbrev Y21 : MethodName := (⟨"java/lang/String", "<init>", "(Ljava/nio/charset/Charset;[BII)V"⟩ : MethodName)
theorem pd_5 : parseMethodDescriptor "(Ljava/nio/charset/Charset;[BII)V" = some ⟨[(.object "java/nio/charset/Charset"), (.array .byte), .int, .int], none⟩ := by decide +kernel
theorem d4_21 : decode jdk_42_method_10_code 21 = .ok (.return_, 1) := by decide +kernel
abbrev Y22 : MethodName := (⟨"java/lang/String", "<init>", "([BIILjava/nio/charset/Charset;)V"⟩ : MethodName)
theorem pd_6 : parseMethodDescriptor "([BIILjava/nio/charset/Charset;)V" = some ⟨[(.array .byte), .int, .int, (.object "java/nio/charset/Charset")], none⟩ := by decide +kernel
theorem d3_35 : decode prog_8_method_4_code 35 = .ok (.areturn, 1) := by decide +kernel
abbrev Y23 : MethodName := (⟨"com/example/bristlecone/bristlecone/io/HttpLine", "text", "([B)Ljava/lang/String;"⟩ : MethodName)
theorem pd_7 : parseMethodDescriptor "([B)Ljava/lang/String;" = some ⟨[(.array .byte)], some (.object "java/lang/String")⟩ := by decide +kernel
theorem d10_0 : decode jdk_42_method_55_code 0 = .ok (.aload_n 0, 1) := by decide +kernel
theorem d10_1 : decode jdk_42_method_55_code 1 = .ok (.getfield 9, 3) := by decide +kernel
theorem d10_4 : decode jdk_42_method_55_code 4 = .ok (.arraylength, 1) := by decide +kernel
theorem d10_5 : decode jdk_42_method_55_code 5 = .ok (.ifCond .ne 7, 3) := by decide +kernel
theorem d10_8 : decode jdk_42_method_55_code 8 = .ok (.iconst 1, 1) := by decide +kernel
theorem d10_9 : decode jdk_42_method_55_code 9 = .ok (.goto 4, 3) := by decide +kernel
theorem d10_13 : decode jdk_42_method_55_code 13 = .ok (.ireturn, 1) := by decide +kernel
abbrev Y24 : MethodName := (⟨"java/lang/String", "isEmpty", "()Z"⟩ : MethodName)
theorem pd_8 : parseMethodDescriptor "()Z" = some ⟨[], some .boolean⟩ := by decide +kernel
abbrev lt17 (a0 : Int32) (a1 : Int32) (a2 : Int32) (a3 : Int32) (a4 : Int32) (a5 : Int32) (a6 : Addr) (a7 : Int32) (a8 : Int32) (a9 : Int32) (a10 : Int32) (a11 : Int32) (a12 : Int32) (a13 : Int32) : Array Slot := #[.val (.int a0), .val (.int a1), .val (.int a2), .val (.int a3), .val (.int a4), .val (.int a5), .val (.ref a6), .val (.int a7), .val (.int a8), .val (.int a9), .val (.int a10), .val (.int a11), .val (.int a12), .val (.int a13)]
theorem d2_6 : decode prog_8_method_3_code 6 = .ok (.aload_n 0, 1) := by decide +kernel
theorem d2_7 : decode prog_8_method_3_code 7 = .ok (.arraylength, 1) := by decide +kernel
theorem d2_8 : decode prog_8_method_3_code 8 = .ok (.iconst 2, 1) := by decide +kernel
theorem d2_9 : decode prog_8_method_3_code 9 = .ok (.if_icmp .ne 15, 3) := by decide +kernel
theorem d2_12 : decode prog_8_method_3_code 12 = .ok (.aload_n 0, 1) := by decide +kernel
theorem d2_13 : decode prog_8_method_3_code 13 = .ok (.iconst 0, 1) := by decide +kernel
theorem d2_14 : decode prog_8_method_3_code 14 = .ok (.baload, 1) := by decide +kernel
theorem d2_15 : decode prog_8_method_3_code 15 = .ok (.bipush 13, 2) := by decide +kernel
theorem d2_17 : decode prog_8_method_3_code 17 = .ok (.if_icmp .ne 7, 3) := by decide +kernel
theorem d2_24 : decode prog_8_method_3_code 24 = .ok (.iconst 0, 1) := by decide +kernel
theorem d3_9 : decode prog_8_method_4_code 9 = .ok (.aload_n 0, 1) := by decide +kernel
theorem d3_10 : decode prog_8_method_4_code 10 = .ok (.iload_n 1, 1) := by decide +kernel
theorem d3_11 : decode prog_8_method_4_code 11 = .ok (.iconst 1, 1) := by decide +kernel
theorem d3_12 : decode prog_8_method_4_code 12 = .ok (.isub, 1) := by decide +kernel
theorem d3_13 : decode prog_8_method_4_code 13 = .ok (.baload, 1) := by decide +kernel
theorem d3_14 : decode prog_8_method_4_code 14 = .ok (.bipush 13, 2) := by decide +kernel
theorem d3_16 : decode prog_8_method_4_code 16 = .ok (.if_icmp .ne 6, 3) := by decide +kernel
theorem d3_19 : decode prog_8_method_4_code 19 = .ok (.iinc 1 (-1), 3) := by decide +kernel
theorem d8_30 : decode jdk_42_method_11_code 30 = .ok (.aload_n 1, 1) := by decide +kernel
theorem d8_31 : decode jdk_42_method_11_code 31 = .ok (.getstatic 86, 3) := by decide +kernel
theorem d8_34 : decode jdk_42_method_11_code 34 = .ok (.if_acmp .ne 312, 3) := by decide +kernel
theorem d8_346 : decode jdk_42_method_11_code 346 = .ok (.aload_n 1, 1) := by decide +kernel
theorem d8_347 : decode jdk_42_method_11_code 347 = .ok (.getstatic 116, 3) := by decide +kernel
theorem d8_350 : decode jdk_42_method_11_code 350 = .ok (.if_acmp .ne 49, 3) := by decide +kernel
theorem d8_353 : decode jdk_42_method_11_code 353 = .ok (.getstatic 38, 3) := by decide +kernel
theorem d8_356 : decode jdk_42_method_11_code 356 = .ok (.ifCond .eq 24, 3) := by decide +kernel
theorem d8_359 : decode jdk_42_method_11_code 359 = .ok (.aload_n 0, 1) := by decide +kernel
theorem d8_360 : decode jdk_42_method_11_code 360 = .ok (.aload_n 2, 1) := by decide +kernel
theorem d8_361 : decode jdk_42_method_11_code 361 = .ok (.iload_n 3, 1) := by decide +kernel
theorem d8_362 : decode jdk_42_method_11_code 362 = .ok (.iload_n 3, 1) := by decide +kernel
theorem d8_363 : decode jdk_42_method_11_code 363 = .ok (.iload 4, 2) := by decide +kernel
theorem d8_365 : decode jdk_42_method_11_code 365 = .ok (.iadd, 1) := by decide +kernel
theorem d8_366 : decode jdk_42_method_11_code 366 = .ok (.invokestatic 54, 3) := by decide +kernel
theorem d11_0 : decode jdk_65_method_132_code 0 = .ok (.iload_n 1, 1) := by decide +kernel
abbrev lt18 (a0 : Addr) (a1 : Int32) (a2 : Int32) : Array Slot := #[.val (.ref a0), .val (.int a1), .val (.int a2)]
theorem d11_1 : decode jdk_65_method_132_code 1 = .ok (.ifCond .ne 9, 3) := by decide +kernel
theorem d11_4 : decode jdk_65_method_132_code 4 = .ok (.iload_n 2, 1) := by decide +kernel
theorem d11_5 : decode jdk_65_method_132_code 5 = .ok (.aload_n 0, 1) := by decide +kernel
theorem d11_6 : decode jdk_65_method_132_code 6 = .ok (.arraylength, 1) := by decide +kernel
theorem d11_7 : decode jdk_65_method_132_code 7 = .ok (.if_icmp .eq 10, 3) := by decide +kernel
theorem d11_10 : decode jdk_65_method_132_code 10 = .ok (.aload_n 0, 1) := by decide +kernel
theorem d11_11 : decode jdk_65_method_132_code 11 = .ok (.iload_n 1, 1) := by decide +kernel
theorem d11_12 : decode jdk_65_method_132_code 12 = .ok (.iload_n 2, 1) := by decide +kernel
theorem d11_13 : decode jdk_65_method_132_code 13 = .ok (.invokestatic 339, 3) := by decide +kernel
theorem d12_0 : decode jdk_65_method_133_code 0 = .ok (.iload_n 1, 1) := by decide +kernel
abbrev lt19 (a0 : Addr) (a1 : Int32) (a2 : Int32) : Array Slot := #[.val (.ref a0), .val (.int a1), .val (.int a2), .unset, .unset]
theorem d12_1 : decode jdk_65_method_133_code 1 = .ok (.iload_n 2, 1) := by decide +kernel
theorem d12_2 : decode jdk_65_method_133_code 2 = .ok (.invokestatic 343, 3) := by decide +kernel
theorem d13_0 : decode jdk_65_method_131_code 0 = .ok (.iload_n 1, 1) := by decide +kernel
abbrev lt20 (a0 : Int32) (a1 : Int32) : Array Slot := #[.val (.int a0), .val (.int a1)]
theorem d13_1 : decode jdk_65_method_131_code 1 = .ok (.iload_n 0, 1) := by decide +kernel
theorem d13_2 : decode jdk_65_method_131_code 2 = .ok (.if_icmp .ge 35, 3) := by decide +kernel
theorem d13_37 : decode jdk_65_method_131_code 37 = .ok (.return_, 1) := by decide +kernel
abbrev Y29 : MethodName := (⟨"java/util/Arrays", "checkLength", "(II)V"⟩ : MethodName)
theorem pd_9 : parseMethodDescriptor "(II)V" = some ⟨[.int, .int], none⟩ := by decide +kernel
theorem d12_5 : decode jdk_65_method_133_code 5 = .ok (.iload_n 2, 1) := by decide +kernel
theorem d12_6 : decode jdk_65_method_133_code 6 = .ok (.iload_n 1, 1) := by decide +kernel
theorem d12_7 : decode jdk_65_method_133_code 7 = .ok (.isub, 1) := by decide +kernel
theorem d12_8 : decode jdk_65_method_133_code 8 = .ok (.istore_n 3, 1) := by decide +kernel
abbrev lt21 (a0 : Addr) (a1 : Int32) (a2 : Int32) (a3 : Int32) : Array Slot := #[.val (.ref a0), .val (.int a1), .val (.int a2), .val (.int a3), .unset]
theorem d12_9 : decode jdk_65_method_133_code 9 = .ok (.iload_n 3, 1) := by decide +kernel
theorem d12_10 : decode jdk_65_method_133_code 10 = .ok (.newarray .byte, 2) := by decide +kernel
theorem d12_12 : decode jdk_65_method_133_code 12 = .ok (.astore 4, 2) := by decide +kernel
abbrev lt22 (a0 : Addr) (a1 : Int32) (a2 : Int32) (a3 : Int32) (a4 : Addr) : Array Slot := #[.val (.ref a0), .val (.int a1), .val (.int a2), .val (.int a3), .val (.ref a4)]
theorem d12_14 : decode jdk_65_method_133_code 14 = .ok (.aload_n 0, 1) := by decide +kernel
theorem d12_15 : decode jdk_65_method_133_code 15 = .ok (.iload_n 1, 1) := by decide +kernel
theorem d12_16 : decode jdk_65_method_133_code 16 = .ok (.aload 4, 2) := by decide +kernel
theorem d12_18 : decode jdk_65_method_133_code 18 = .ok (.iconst 0, 1) := by decide +kernel
theorem d12_19 : decode jdk_65_method_133_code 19 = .ok (.aload_n 0, 1) := by decide +kernel
theorem d12_20 : decode jdk_65_method_133_code 20 = .ok (.arraylength, 1) := by decide +kernel
theorem d12_21 : decode jdk_65_method_133_code 21 = .ok (.iload_n 1, 1) := by decide +kernel
theorem d12_22 : decode jdk_65_method_133_code 22 = .ok (.isub, 1) := by decide +kernel
theorem d12_23 : decode jdk_65_method_133_code 23 = .ok (.iload_n 3, 1) := by decide +kernel
theorem d12_24 : decode jdk_65_method_133_code 24 = .ok (.invokestatic 304, 3) := by decide +kernel
theorem d14_0 : decode jdk_29_method_69_code 0 = .ok (.iload_n 0, 1) := by decide +kernel
theorem d14_1 : decode jdk_29_method_69_code 1 = .ok (.iload_n 1, 1) := by decide +kernel
theorem d14_2 : decode jdk_29_method_69_code 2 = .ok (.if_icmp .gt 7, 3) := by decide +kernel
theorem d14_9 : decode jdk_29_method_69_code 9 = .ok (.iload_n 1, 1) := by decide +kernel
theorem d14_10 : decode jdk_29_method_69_code 10 = .ok (.ireturn, 1) := by decide +kernel
theorem d14_5 : decode jdk_29_method_69_code 5 = .ok (.iload_n 0, 1) := by decide +kernel
theorem d14_6 : decode jdk_29_method_69_code 6 = .ok (.goto 4, 3) := by decide +kernel
abbrev Y32 : MethodName := (⟨"java/lang/Math", "min", "(II)I"⟩ : MethodName)
theorem pd_10 : parseMethodDescriptor "(II)I" = some ⟨[.int, .int], some .int⟩ := by decide +kernel
theorem d12_27 : decode jdk_65_method_133_code 27 = .ok (.invokestatic 150, 3) := by decide +kernel
theorem d12_30 : decode jdk_65_method_133_code 30 = .ok (.aload 4, 2) := by decide +kernel
theorem d12_32 : decode jdk_65_method_133_code 32 = .ok (.areturn, 1) := by decide +kernel
abbrev Y33 : MethodName := (⟨"java/util/Arrays", "copyOfRangeByte", "([BII)[B"⟩ : MethodName)
theorem pd_11 : parseMethodDescriptor "([BII)[B" = some ⟨[(.array .byte), .int, .int], some (.array .byte)⟩ := by decide +kernel
theorem d11_16 : decode jdk_65_method_132_code 16 = .ok (.areturn, 1) := by decide +kernel
abbrev Y34 : MethodName := (⟨"java/util/Arrays", "copyOfRange", "([BII)[B"⟩ : MethodName)
theorem d8_369 : decode jdk_42_method_11_code 369 = .ok (.putfield 9, 3) := by decide +kernel
theorem d8_372 : decode jdk_42_method_11_code 372 = .ok (.aload_n 0, 1) := by decide +kernel
theorem d8_373 : decode jdk_42_method_11_code 373 = .ok (.iconst 0, 1) := by decide +kernel
theorem d8_374 : decode jdk_42_method_11_code 374 = .ok (.putfield 15, 3) := by decide +kernel
theorem d8_377 : decode jdk_42_method_11_code 377 = .ok (.goto 502, 3) := by decide +kernel
theorem d10_12 : decode jdk_42_method_55_code 12 = .ok (.iconst 0, 1) := by decide +kernel
def EL1 : List (String × Nat) := consts_1
theorem own_wrsz {h h' : Heap} {a : Addr} {sl : Nat} {v : Value} (W : Wr h h' a sl v) : h.size ≤ h'.size := by obtain ⟨c0, -, -, -, rfl⟩ := W; simp
theorem own_safe0 {Z : State} {EL : List (String × Nat)} {vm : Vm} {h : Heap} {x : Addr} (hal : Z.vm.Alike vm) (E : Exa Z h x "java/lang/String") (F : Fld Z h x "java/lang/String" "value" "[B" .null) : Safe Z EL vm h x := fun B => by
  obtain ⟨p, hp, u, a, hb, q, hq, G, rfl | rfl⟩ := B
  · obtain ⟨cell, c1, k1, i1, f1, g1, g2, g3, -, -, -, g7⟩ := F
    cases (show h[q.sa]? = some q.sC from G.ha).symm.trans g1
    obtain ⟨cS, ⟨⟨-, -, -, ⟨c2, k2, i2, f2, -⟩, -, -, -, v2, -⟩, -⟩, -⟩ := G
    obtain ⟨k3, e3, -⟩ := State.fieldFound?_setVm (s := Z) hal g2
    have e4 := (show (Wst Z vm h).fieldFound? _ _ _ = _ from e3).symm.trans f2
    simp only [Option.some.injEq, Prod.mk.injEq] at e4
    rw [← e4.2.2.2] at v2
    have := g7.symm.trans v2
    cases this
  · obtain ⟨cell, k, e1, e2, e3, -, -⟩ := E
    cases (show h[q.sd]? = some q.SA from G.hd).symm.trans e1
    obtain ⟨cS, -, -, f, -⟩ := G
    have f : vm.findClass "[B" = some q.SA.cls := f
    rw [hal.findClass] at f
    obtain ⟨k1, q1, q2⟩ := Vm.findClass_spec f
    obtain ⟨k2, q3, q4⟩ := Vm.findClass_spec e2
    cases q1.symm.trans q3
    exact absurd (q2.symm.trans q4) (by decide)
/-- a state that a callee has left, put together again: the caller's frame on top, the callee's heap, tables and use of slots -/
theorem own_left {U s₂ : State} {g : JFrame} {mk : MethodId} {a : Array Value} {below : List Frame} {c : Code} {ig : Instr} {len : Nat} {L : List Loc} {k n : Nat} {v : Option Value}
    (h : At U g.method c below) (hd : decode c.code g.pc = .ok (ig, len)) (hen : Ended s₂ (U.setTop g).frames (.returned v)) (F : ReturnedEndW (U.calling g mk a) (.returned v) s₂ L k n) :
    s₂ = (({ U with heap := s₂.heap, slotsUsed := s₂.slotsUsed } : State).setVm s₂.vm).setTop { g with pc := g.pc + len, stack := v.toList ++ g.stack } ∧ U.Warmed39 s₂.vm ∧ U.sameButNew ({ U with heap := s₂.heap, slotsUsed := s₂.slotsUsed } : State) L k n := by
  obtain ⟨-, W, -, q1, q2, q3, q4, q5, q6⟩ := F
  have W : U.Warmed39 s₂.vm := W
  obtain ⟨g0, hg0⟩ := Option.isSome_iff_exists.mp h.top
  obtain ⟨r, hr⟩ := State.topJava?_eq_some.mp hg0
  rw [State.frames_setTop' g h.top] at hen
  obtain ⟨c', i', len', hc', hd', hf'⟩ := hen
  obtain rfl : c' = c := Option.some.inj (hc'.symm.trans ((by rw [State.code?_eq, State.code?_eq, W.alike.method?] : s₂.code? g.method = U.code? g.method).trans h.code))
  obtain ⟨-, rfl⟩ := Prod.mk.inj (Except.ok.inj (hd'.symm.trans hd))
  refine ⟨?_, W, ?_, q2, q3, q4, q5, q6⟩
  · have q0 : s₂ = State.setVm { (U.calling g mk a).setFrames s₂.frames with heap := s₂.heap, slotsUsed := s₂.slotsUsed } s₂.vm := by
      have z := congrArg (fun z : State => z.setVm s₂.vm) q1
      exact z
    refine q0.trans ?_
    rw [hf', State.calling_eq h.top, State.setTop_of_frames (s := ({ U with heap := s₂.heap, slotsUsed := s₂.slotsUsed } : State).setVm s₂.vm) _ hr, hr]
    show State.setVm { ((U.setFrames _).setFrames _) with heap := _, slotsUsed := _ } _ = _
    rw [State.setFrames_setFrames]
    rfl
  · obtain ⟨t, ht, -⟩ := State.frames_cons hr
    show _ = { U.setFrames U.frames with heap := s₂.heap, slotsUsed := s₂.slotsUsed }
    rw [State.setFrames_self ht]
theorem own_backSZH {p : Program} {l : Launch} {e : Env} {R : Room} {s : State} {args : Array Value} {below : List Frame} {Z : State} {a0 : Array Value} {EL : List (String × Nat)} {h : Heap} {y : MethodName} {bytes : ByteArray} {maxL : Nat} {ret : Option FieldType} {hs : List (Nat × Nat × Nat × Nat)} {rm : Room} {len W : Nat} {as' : Array Value} {Q : Option Value → Heap → List Loc → Prop}
    (hM : MetFree l y (head1 [Cond.codeWith y bytes maxL ret hs] rm) (fun a U => a = as' ∧ Z.Warmed39 U.vm ∧ U.heap = h ∧ CHv Z EL U.vm Z.heap) (fun _ _ _ _ _ => True) (fun _ U o U' => ∃ v L, o = .returned v ∧ Q v U'.heap L ∧ ReturnedEndW U o U' L rm.cells rm.slots))
    (hZ : Z.Warmed39 s.vm) (wc : (Cond.codeWith y bytes maxL ret hs).before a0 Z = true) (wz : (Cond.initialized y.cls).before a0 Z = true) (hf : rm.frames + 1 ≤ R.frames) (hl : W + (maxL + 11) + rm.locals ≤ R.locals) (hEL : EW Z a0 EL) (H : CHv Z EL s.vm Z.heap) :
    BackS l R p e below s args y len W (fun A a => a = as' ∧ A.U.heap = h ∧ A.cells + rm.cells ≤ R.cells ∧ A.slots + rm.slots ≤ R.slots)
      (fun A _ v B => ∃ L, Q v B.U.heap L ∧ B.locs = A.locs ++ L ∧ B.cells = A.cells + rm.cells ∧ B.slots = A.slots + rm.slots) := by
  rintro m meth c ⟨U, Ls, c0, s0⟩ g ig mk a X rfl hsz hd hW hn ⟨rfl, hh, hc, hsl⟩
  have hU : Z.Warmed39 U.vm := wtrans hZ X.warmed
  obtain ⟨mk', mY, cY, hn', hmY, hcY, -, hlY, -⟩ := Cond.codeWith_spec (mv (args := a) hU wc)
  obtain rfl : mk' = mk := Option.some.inj (hn'.symm.trans hn)
  obtain ⟨kY, hkY, -⟩ := className_of_methodNamed hn
  dsimp only [Pt.U, Pt.locs, Pt.cells, Pt.slots] at X hn hh hc hsl hkY hmY hn' ⊢
  have at0 : At U g.method c below := X.here
  obtain ⟨mid, hmid⟩ := at0.above
  have happ := Spec.appliesLoose_calling (S := head1 [Cond.codeWith y bytes maxL ret hs] rm) (g := g) (args := a) at0 hd hn hkY (Cond.initialized_spec (findClass_of_methodNamed hn) hkY (mv (args := a) hU wz)) (X.room_calling (g := g) (R' := rm) hsz hmY hcY hf (by rw [hlY]; omega) hc hsl) (by show (Cond.and _ .tt).before a U = true; rw [Cond.before_and, mv hU wc]; rfl)
  obtain ⟨o, s₂, st, -, hen, v, L, rfl, hQ, F⟩ := Steps.callFree hM p X.admits X.cas X.clock (acts := []) (s := U.setTop g) (mid := .java g :: mid) (below := below) (by rw [State.frames_setTop' g at0.top, hmid]; rfl) happ ⟨rfl, hU, hh, (CHv.at (s := s) (vm0 := s.vm) X hZ hEL H).1⟩ trivial
  obtain ⟨e1, hW2, hsame⟩ := own_left at0 hd hen F
  obtain ⟨X', hS⟩ := X.movedW (T₂ := (({ U with heap := s₂.heap, slotsUsed := s₂.slotsUsed } : State).setVm s₂.vm)) ((X.here.setHeapUsed s₂.heap s₂.slotsUsed).setVm hW2.alike) X.tail rfl rfl hW2 F.2.2.1 hsame
  exact ⟨v, ⟨(({ U with heap := s₂.heap, slotsUsed := s₂.slotsUsed } : State).setVm s₂.vm), Ls ++ L, c0 + rm.cells, s0 + rm.slots⟩, X', hS, hsame.2.1, ⟨L, hQ, rfl, rfl, rfl⟩, e1 ▸ st⟩
theorem own_specialSH {p : Program} {l : Launch} {e : Env} {R : Room} {s : State} {m : MethodId} {args : Array Value} {below : List Frame} {meth : Method} {c : Code} {T : State} {locs : List Loc} {cells slots : Nat}
    (X : Stand p l e R s m args below meth c T locs cells slots) (hx : p.tables.exec = Jvm.exec) {own : String} {index : Nat} {y : MethodName} (hy1 : y.name = "<init>")
    (hown : s.vm.findClass own = some m.cls) (hlink : (Cond.methodLink own index y).before args s = true) (hinst : (Cond.instanceMethod y).before args s = true)
    {bytes : ByteArray} {maxL : Nat} {hs : List (Nat × Nat × Nat × Nat)} (hcode : (Cond.codeWith y bytes maxL none hs).before args s = true)
    (hy : y.cls ≠ "java/lang/invoke/MethodHandle" ∧ y.cls ≠ "java/lang/invoke/VarHandle")
    {W : Nat} {Pre : Pt → Array Value → Prop} {Post : Pt → Array Value → Option Value → Pt → Prop} (hK : BackS l R p e below s args y 3 W Pre Post)
    {g : JFrame} (hg : g.method = m) (hsize : g.locals.size = c.maxLocals) {s₀ : State} (hcome : Steps p.tables e below s₀ (T.setTop g)) {a : Addr} {argsL rest : List Value}
    (hlen : ∀ sig, parseMethodDescriptor y.desc = some sig → argsL.length = sig.parameters.length) (hstack : g.stack = argsL.reverse ++ .ref a :: rest) (hW : 2 * g.monitorRoom + (rest.map fun v => v.category).sum ≤ W)
    (hdg : decode c.code g.pc = .ok (.invokespecial index, 3)) (hpre : ∀ vm₁, s.WarmedH vm₁ → Pre ⟨T.setVm vm₁, locs, cells, slots⟩ (.ref a :: argsL).toArray) :
    ∃ (v : Option Value) (vm₁ : Vm) (B : Pt), s.WarmedH vm₁ ∧ Stand p l e R (s.setVm B.U.vm) m args below meth c B.U B.locs B.cells B.slots ∧ s.Since B.U.vm B.U.heap.size ∧ T.heap.size ≤ B.U.heap.size ∧ Post ⟨T.setVm vm₁, locs, cells, slots⟩ (.ref a :: argsL).toArray v B ∧
      Steps p.tables e below s₀ (B.U.setTop { g with pc := g.pc + 3, stack := v.toList ++ rest }) := by
  obtain ⟨mk, -, -, -, vm₁, hn, -, -, -, -, -, -, -, hW₁, st⟩ := Steps.initColdArgsH (e := e) X.here hx X.warmed (by rw [X.admits.platform]) hown hy1 hy hlink hinst hcode (f := g) hg hlen hstack hdg
  obtain ⟨v, B, Y, hS, hgr, hpost, hs⟩ := hK m meth c ⟨T.setVm vm₁, locs, cells, slots⟩ { g with stack := rest } _ mk _ (X.noted hW₁) hg hsize hdg hW ((X.noted hW₁).named hn) (hpre vm₁ hW₁)
  exact ⟨v, vm₁, B, hW₁, Y, hS, hgr, hpost, (hcome.trans (st _ fun acts => by rw [doInvoke_state]; exact Steps.refl _)).trans hs⟩
theorem own_backSZ {p : Program} {l : Launch} {e : Env} {R : Room} {s : State} {args : Array Value} {below : List Frame} {Z : State} {a0 : Array Value} {EL : List (String × Nat)} {h : Heap} {y : MethodName} {bytes : ByteArray} {maxL : Nat} {ret : Option FieldType} {rm : Room} {len W : Nat} {as' : Array Value} {Q : Option Value → Heap → List Loc → Prop}
    (hM : MetFree l y (head1 [Cond.code y bytes maxL ret] rm) (fun a U => a = as' ∧ Z.Warmed39 U.vm ∧ U.heap = h ∧ CHv Z EL U.vm Z.heap) (fun _ _ _ _ _ => True) (fun _ U o U' => ∃ v L, o = .returned v ∧ Q v U'.heap L ∧ ReturnedEndW U o U' L rm.cells rm.slots))
    (hZ : Z.Warmed39 s.vm) (wc : (Cond.code y bytes maxL ret).before a0 Z = true) (wz : (Cond.initialized y.cls).before a0 Z = true) (hf : rm.frames + 1 ≤ R.frames) (hl : W + (maxL + 11) + rm.locals ≤ R.locals) (hEL : EW Z a0 EL) (H : CHv Z EL s.vm Z.heap) :
    BackS l R p e below s args y len W (fun A a => a = as' ∧ A.U.heap = h ∧ A.cells + rm.cells ≤ R.cells ∧ A.slots + rm.slots ≤ R.slots)
      (fun A _ v B => ∃ L, Q v B.U.heap L ∧ B.locs = A.locs ++ L ∧ B.cells = A.cells + rm.cells ∧ B.slots = A.slots + rm.slots) :=
  BackS.of_freeW (bytes := bytes) (maxL := maxL) (ret := ret) (E := fun _ _ o t L k n => k = rm.cells ∧ n = rm.slots ∧ ∃ v, o = .returned v ∧ Q v t.heap L) hM hf hl
    (fun m meth c A a Y hp => have hU : Z.Warmed39 A.U.vm := wtrans hZ Y.warmed
      ⟨by show (Cond.and _ .tt).before a A.U = true; rw [Cond.before_and, mv hU wc]; rfl, mv hU wc, mv hU wz, hp.2.2.1, hp.2.2.2⟩)
    (fun m meth c A a g mk Y hp => ⟨hp.1, wtrans hZ Y.warmed, hp.2.1, (CHv.at (s := s) (vm0 := s.vm) Y hZ hEL H).1⟩) (fun _ _ _ _ _ _ _ _ _ => trivial)
    (fun _ _ _ _ ⟨v, L, h1, h2, h3⟩ => ⟨L, _, _, h3, rfl, rfl, v, h1, h2⟩)
    (fun m meth c A a g mk v t L k n Y hp _ _ ⟨e1, e2, v', e3, e4⟩ => by cases e3; subst e1 e2; exact ⟨L, e4, rfl, rfl, rfl⟩)

def StF (Z : State) (w_1 : Addr) (w_2 : Addr) (w_4 : Int32) (w_5 : Value) : Prop :=
  Sta Z Z.heap "java/nio/charset/StandardCharsets" "ISO_8859_1" "Ljava/nio/charset/Charset;" (.ref w_1) ∧
  Exa Z Z.heap w_1 "sun/nio/cs/ISO_8859_1" ∧
  Sta Z Z.heap "sun/nio/cs/UTF_8" "INSTANCE" "Lsun/nio/cs/UTF_8;" (.ref w_2) ∧
  Exa Z Z.heap w_2 "sun/nio/cs/UTF_8" ∧
  Sta Z Z.heap "sun/nio/cs/ISO_8859_1" "INSTANCE" "Lsun/nio/cs/ISO_8859_1;" (.ref w_1) ∧
  Exa Z Z.heap w_1 "sun/nio/cs/ISO_8859_1" ∧
  Sta Z Z.heap "java/lang/String" "COMPACT_STRINGS" "Z" (.int w_4) ∧
  ¬ (w_4 = (0 : Int32)) ∧
  Sta Z Z.heap "jdk/internal/util/Preconditions" "SIOOBE_FORMATTER" "Ljava/util/function/BiFunction;" w_5 ∧
  w_5.isRef = true
theorem pn_1 : plainName "com/example/bristlecone/bristlecone/io/HttpLineIsEmptyPinLaw" = true := by first | (simp [plainName, overriddenIn]; done) | decide +kernel
theorem ef_1 (m : MethodId) (p0 : Int32) (p1 : Int32) (p2 : Int32) : entryFrame m #[(.int p0), (.int p1), (.int p2)] 3 = mkF m 0 #[.val (.int p0), .val (.int p1), .val (.int p2)] [] := by first | (simp [entryFrame, mkF, argsToLocals, Value.category]; done) | rfl
def sp1 (p0 : Int32) (p1 : Int32) (p2 : Int32) : Int32 := (if (((p0.toUInt32 >>> (p1 &&& 31).toUInt32).toInt32) &&& (1 : Int32)) = (0 : Int32) then (nar .byte (p2.toInt8.toInt32)) else (13 : Int32))
def Q1 (Z : State) (w_1 : Addr) (w_2 : Addr) (w_4 : Int32) (w_5 : Value) (p0 : Int32) (p1 : Int32) (p2 : Int32) (h0 : Heap) (n0 : Nat) (v : Option Value) (h : Heap) (L : List Loc) : Prop := v = some (.int (sp1 p0 p1 p2)) ∧ Fr n0 L ∧ h = h0
set_option maxRecDepth 65536 in
set_option maxHeartbeats 40000000 in
theorem rm1 (l : Launch) (Z : State) (a0 : Array Value) (hw : ∀ d ∈ tables_1, d.before a0 Z = true) (hv : ∀ d ∈ jdkStatics_1, d.before a0 Z = true) (ws : List Jvm.Cond) (w_1 : Addr) (w_2 : Addr) (w_4 : Int32) (w_5 : Value) (hS : StF Z w_1 w_2 w_4 w_5) (p0 : Int32) (p1 : Int32) (p2 : Int32) (h0 : Heap) (n0 : Nat) (O0 : Old Z n0 h0) :
    MetFree l Y4 (head1 (Jvm.Cond.code Y4 method_2_code 3 (some .byte) :: ws) ({ frames := 0, cells := 0, slots := 0, locals := 0 } : Room)) (fun a U => a = #[(.int p0), (.int p1), (.int p2)] ∧ Z.Warmed39 U.vm ∧ U.heap = h0) (fun _ _ _ _ _ => True) (fun _ U o U' => ∃ v L, o = .returned v ∧ Q1 Z w_1 w_2 w_4 w_5 p0 p1 p2 h0 n0 v U'.heap L ∧ FrameEnd U o U' L ({ frames := 0, cells := 0, slots := 0, locals := 0 } : Room).cells ({ frames := 0, cells := 0, slots := 0, locals := 0 } : Room).slots) := by
  refine MetFree.of_bodySF (plainFor_of_name pn_1) hisR ?_
  intro p e s m args below meth c s₁ Bd hml0 hP hK
  obtain ⟨rfl, hZ, hh⟩ := hP
  have hx := Bd.exec
  have hby := Bd.bytes
  have hml : c.maxLocals = 3 := hml0
  have hown : s.vm.findClass "com/example/bristlecone/bristlecone/io/HttpLineIsEmptyPinLaw" = some m.cls := findClass_of_methodNamed Bd.named
  have hnm := (name_of_methodNamed Bd.named Bd.method).1
  have X0 : Stand p l e ({ frames := 0, cells := 0, slots := 0, locals := 0 } : Room) s m #[(.int p0), (.int p1), (.int p2)] below meth c s₁ [] 0 0 := Stand.of_body Bd
  have e0 : s₁.heap = h0 := by rw [← hh, Bd.state]; rfl
  have N0 := Fr.nil n0
  have hS0 := hS
  obtain ⟨S_1, E_1, S_2, E_2, S_3, E_3, S_4, NE_4, S_5, IR_5⟩ := hS
  have pre0 : ∀ t, Steps p.tables e below (s₁.setTop (mkF m 0 #[.val (.int p0), .val (.int p1), .val (.int p2)] [])) t → Steps p.tables e below (s₁.setTop (entryFrame m #[(.int p0), (.int p1), (.int p2)] 3)) t := fun t k => castTop (ef_1 m p0 p1 p2) k
  generalize hE0 : s₁.setTop (entryFrame m #[(.int p0), (.int p1), (.int p2)] 3) = E0 at pre0 ⊢
  have pre5 : Cm p e below E0 (s₁.setTop (mkF m 5 (lt4 p0 p1 p2) [(.int (((p0.toUInt32 >>> (p1 &&& 31).toUInt32).toInt32) &&& (1 : Int32)))])) := fun t kt => by
    refine pre0 t ?_
    show Sp p e below s₁ (mkF m 0 (lt4 p0 p1 p2) []) _
    refine XS.iloadN X0.here hx rfl (hb hby d1_0) rfl ?_
    refine XS.iloadN X0.here hx rfl (hb hby d1_1) rfl ?_
    show Sp p e below s₁ (mkF m 2 (lt4 p0 p1 p2) [(.int p1), (.int p0)]) _
    refine XS.iushr X0.here hx rfl (hb hby d1_2) rfl ?_
    refine XS.iconst X0.here hx rfl (hb hby d1_3) ?_
    show Sp p e below s₁ (mkF m 4 (lt4 p0 p1 p2) [(.int (1 : Int32)), (.int ((p0.toUInt32 >>> (p1 &&& 31).toUInt32).toInt32))]) _
    refine XS.iand X0.here hx rfl (hb hby d1_4) rfl ?_
    show Sp p e below s₁ (mkF m 5 (lt4 p0 p1 p2) [(.int (((p0.toUInt32 >>> (p1 &&& 31).toUInt32).toInt32) &&& (1 : Int32)))]) _
    exact kt
  by_cases hc6 : (((p0.toUInt32 >>> (p1 &&& 31).toUInt32).toInt32) &&& (1 : Int32)) = (0 : Int32)
  · obtain ⟨fs, hr, hrun, hended, hW, hsame⟩ := X0.leave (v := some (.int (nar .byte (p2.toInt8.toInt32)))) (fun h => by rw [Bd.returns] at h; cases h)
    refine ⟨_, _, pre5 _ ?_, hrun, hended, _, _, rfl, ?_, ⟨_, rfl⟩, hW, hsame.mono (by decide) (by decide)⟩
    · show Sp p e below s₁ (mkF m 5 (lt4 p0 p1 p2) [(.int (((p0.toUInt32 >>> (p1 &&& 31).toUInt32).toInt32) &&& (1 : Int32)))]) _
      refine XS.ifYes X0.here hx rfl (pc0 := 5) (pc' := 13) rfl (hb hby d1_5) rfl ((if0 _ _).trans (teq hc6).1) (by decide) (by decide) ?_
      show Sp p e below s₁ (mkF m 13 (lt4 p0 p1 p2) []) _
      refine XS.iloadN X0.here hx rfl (hb hby d1_13) rfl ?_
      refine XS.i2b X0.here hx rfl (hb hby d1_14) rfl ?_
      show Sp p e below s₁ (mkF m 15 (lt4 p0 p1 p2) [(.int (p2.toInt8.toInt32))]) _
      exact retN X0 hx (t := .byte) Bd.returns (by simp) (hb hby d1_15) hr
    · show Q1 Z w_1 w_2 w_4 w_5 p0 p1 p2 h0 n0 _ s₁.heap _
      rw [e0]
      exact ⟨by unfold sp1; rw [if_pos hc6], N0, rfl⟩
  · obtain ⟨fs, hr, hrun, hended, hW, hsame⟩ := X0.leave (v := some (.int (13 : Int32))) (fun h => by rw [Bd.returns] at h; cases h)
    refine ⟨_, _, pre5 _ ?_, hrun, hended, _, _, rfl, ?_, ⟨_, rfl⟩, hW, hsame.mono (by decide) (by decide)⟩
    · show Sp p e below s₁ (mkF m 5 (lt4 p0 p1 p2) [(.int (((p0.toUInt32 >>> (p1 &&& 31).toUInt32).toInt32) &&& (1 : Int32)))]) _
      refine XS.ifNo X0.here hx rfl (hb hby d1_5) rfl ((if0 _ _).trans (feq hc6).1) ?_
      show Sp p e below s₁ (mkF m 8 (lt4 p0 p1 p2) []) _
      refine XS.bipush X0.here hx rfl (hb hby d1_8) ?_
      show Sp p e below s₁ (mkF m 10 (lt4 p0 p1 p2) [(.int (13 : Int32))]) _
      refine XS.goto X0.here hx rfl (pc0 := 10) (pc' := 15) rfl (hb hby d1_10) (by decide) (by decide) ?_
      show Sp p e below s₁ (mkF m 15 (lt4 p0 p1 p2) [(.int (13 : Int32))]) _
      exact retN X0 hx (t := .byte) Bd.returns (by simp) (hb hby d1_15) hr
    · show Q1 Z w_1 w_2 w_4 w_5 p0 p1 p2 h0 n0 _ s₁.heap _
      rw [e0]
      exact ⟨by unfold sp1; rw [if_neg hc6], N0, rfl⟩
theorem pn_2x1 : plainName "com/example/bristlecone/bristlecone/io/HttpLine" = true := by first | (simp [plainName, overriddenIn]; done) | decide +kernel
theorem ef_2x1 (m : MethodId) (r0 : Addr) : entryFrame m #[(.ref r0)] 1 = mkF m 0 #[.val (.ref r0)] [] := by first | (simp [entryFrame, mkF, argsToLocals, Value.category]; done) | rfl
def sp2x1  : Int32 := (1 : Int32)
def Q2x1 (Z : State) (w_1 : Addr) (w_2 : Addr) (w_4 : Int32) (w_5 : Value) (r0 : Addr) (k_r0 : ClassId) (x_r0_0 : Int32) (h0 : Heap) (n0 : Nat) (v : Option Value) (h : Heap) (L : List Loc) : Prop := v = some (.int (sp2x1)) ∧ Fr n0 L ∧ h = h0
set_option maxRecDepth 65536 in
set_option maxHeartbeats 40000000 in
theorem rm2x1 (l : Launch) (Z : State) (a0 : Array Value) (hw : ∀ d ∈ tables_1, d.before a0 Z = true) (hv : ∀ d ∈ jdkStatics_1, d.before a0 Z = true) (ws : List Jvm.Cond) (w_1 : Addr) (w_2 : Addr) (w_4 : Int32) (w_5 : Value) (hS : StF Z w_1 w_2 w_4 w_5) (r0 : Addr) (k_r0 : ClassId) (x_r0_0 : Int32) (h0 : Heap) (n0 : Nat) (O0 : Old Z n0 h0) (g_r0 : n0 ≤ r0) (V_r0 : Arv Z h0 r0 k_r0 .byte (1 : Int32) [(.int x_r0_0)] (.int (0 : Int32))) :
    MetFree l Y11 (head1 (Jvm.Cond.code Y11 prog_8_method_3_code 1 (some .boolean) :: ws) ({ frames := 0, cells := 0, slots := 0, locals := 0 } : Room)) (fun a U => a = #[(.ref r0)] ∧ Z.Warmed39 U.vm ∧ U.heap = h0) (fun _ _ _ _ _ => True) (fun _ U o U' => ∃ v L, o = .returned v ∧ Q2x1 Z w_1 w_2 w_4 w_5 r0 k_r0 x_r0_0 h0 n0 v U'.heap L ∧ FrameEnd U o U' L ({ frames := 0, cells := 0, slots := 0, locals := 0 } : Room).cells ({ frames := 0, cells := 0, slots := 0, locals := 0 } : Room).slots) := by
  refine MetFree.of_bodySF (plainFor_of_name pn_2x1) hisR ?_
  intro p e s m args below meth c s₁ Bd hml0 hP hK
  obtain ⟨rfl, hZ, hh⟩ := hP
  have hx := Bd.exec
  have hby := Bd.bytes
  have hml : c.maxLocals = 1 := hml0
  have hown : s.vm.findClass "com/example/bristlecone/bristlecone/io/HttpLine" = some m.cls := findClass_of_methodNamed Bd.named
  have hnm := (name_of_methodNamed Bd.named Bd.method).1
  have X0 : Stand p l e ({ frames := 0, cells := 0, slots := 0, locals := 0 } : Room) s m #[(.ref r0)] below meth c s₁ [] 0 0 := Stand.of_body Bd
  have e0 : s₁.heap = h0 := by rw [← hh, Bd.state]; rfl
  have N0 := Fr.nil n0
  have hS0 := hS
  obtain ⟨S_1, E_1, S_2, E_2, S_3, E_3, S_4, NE_4, S_5, IR_5⟩ := hS
  have pre0 : ∀ t, Steps p.tables e below (s₁.setTop (mkF m 0 #[.val (.ref r0)] [])) t → Steps p.tables e below (s₁.setTop (entryFrame m #[(.ref r0)] 1)) t := fun t k => castTop (ef_2x1 m r0) k
  generalize hE0 : s₁.setTop (entryFrame m #[(.ref r0)] 1) = E0 at pre0 ⊢
  obtain ⟨cl12, Ar12, qa12, Sa12, Ma12, Ha12, Ga12⟩ := id V_r0
  obtain ⟨fs, hr, hrun, hended, hW, hsame⟩ := X0.leave (v := some (.int (1 : Int32))) (fun h => by rw [Bd.returns] at h; cases h)
  refine ⟨_, _, pre0 _ ?_, hrun, hended, _, _, rfl, ?_, ⟨_, rfl⟩, hW, hsame.mono (by decide) (by decide)⟩
  · show Sp p e below s₁ (mkF m 0 (lt10 r0) []) _
    refine XS.aloadN X0.here hx rfl (hb hby d2_0) rfl rfl ?_
    show Sp p e below s₁ (mkF m 1 (lt10 r0) [(.ref r0)]) _
    refine X0.arraylength hx (by rw [e0]; exact Ar12.1) (State.isArrayOf_alike hZ.alike Ar12.2.1) (g := (mkF m 1 (lt10 r0) [(.ref r0)])) rfl rfl (hb hby d2_1) _ ?_
    rw [len_of Sa12 Ma12]
    show Sp p e below s₁ (mkF m 2 (lt10 r0) [(.int (1 : Int32))]) _
    refine XS.iconst X0.here hx rfl (hb hby d2_2) ?_
    show Sp p e below s₁ (mkF m 3 (lt10 r0) [(.int (1 : Int32)), (.int (1 : Int32))]) _
    refine XS.icmpYes X0.here hx rfl (pc0 := 3) (pc' := 20) rfl (hb hby d2_3) rfl (teq (by decide : ((1 : Int32) = (1 : Int32)))).1 (by decide) (by decide) ?_
    show Sp p e below s₁ (mkF m 20 (lt10 r0) []) _
    refine XS.iconst X0.here hx rfl (hb hby d2_20) ?_
    show Sp p e below s₁ (mkF m 21 (lt10 r0) [(.int (1 : Int32))]) _
    refine XS.goto X0.here hx rfl (pc0 := 21) (pc' := 25) rfl (hb hby d2_21) (by decide) (by decide) ?_
    show Sp p e below s₁ (mkF m 25 (lt10 r0) [(.int (1 : Int32))]) _
    exact retN X0 hx (t := .boolean) Bd.returns (by simp) (hb hby d2_25) hr
  · show Q2x1 Z w_1 w_2 w_4 w_5 r0 k_r0 x_r0_0 h0 n0 _ s₁.heap _
    rw [e0]
    exact ⟨by unfold sp2x1; rfl, N0, rfl⟩
theorem pn_5x1 : plainName "java/util/Objects" = true := by first | (simp [plainName, overriddenIn]; done) | decide +kernel
theorem ef_5x1 (m : MethodId) (w_1 : Addr) : entryFrame m #[(.ref w_1)] 1 = mkF m 0 #[.val (.ref w_1)] [] := by first | (simp [entryFrame, mkF, argsToLocals, Value.category]; done) | rfl
def Q5x1 (Z : State) (w_1 : Addr) (w_2 : Addr) (w_4 : Int32) (w_5 : Value) (h0 : Heap) (n0 : Nat) (v : Option Value) (h : Heap) (L : List Loc) : Prop := v = some (.ref w_1) ∧ Fr n0 L ∧ h = h0
set_option maxRecDepth 65536 in
set_option maxHeartbeats 40000000 in
theorem rm5x1 (l : Launch) (Z : State) (a0 : Array Value) (hw : ∀ d ∈ tables_1, d.before a0 Z = true) (hv : ∀ d ∈ jdkStatics_1, d.before a0 Z = true) (ws : List Jvm.Cond) (w_1 : Addr) (w_2 : Addr) (w_4 : Int32) (w_5 : Value) (hS : StF Z w_1 w_2 w_4 w_5) (h0 : Heap) (n0 : Nat) (O0 : Old Z n0 h0) :
    MetFree l Y16 (head1 (Jvm.Cond.code Y16 jdk_31_method_10_code 1 (some (.object "java/lang/Object")) :: ws) ({ frames := 0, cells := 0, slots := 0, locals := 0 } : Room)) (fun a U => a = #[(.ref w_1)] ∧ Z.Warmed39 U.vm ∧ U.heap = h0) (fun _ _ _ _ _ => True) (fun _ U o U' => ∃ v L, o = .returned v ∧ Q5x1 Z w_1 w_2 w_4 w_5 h0 n0 v U'.heap L ∧ FrameEnd U o U' L ({ frames := 0, cells := 0, slots := 0, locals := 0 } : Room).cells ({ frames := 0, cells := 0, slots := 0, locals := 0 } : Room).slots) := by
  refine MetFree.of_bodySF (plainFor_of_name pn_5x1) hisR ?_
  intro p e s m args below meth c s₁ Bd hml0 hP hK
  obtain ⟨rfl, hZ, hh⟩ := hP
  have hx := Bd.exec
  have hby := Bd.bytes
  have hml : c.maxLocals = 1 := hml0
  have hown : s.vm.findClass "java/util/Objects" = some m.cls := findClass_of_methodNamed Bd.named
  have hnm := (name_of_methodNamed Bd.named Bd.method).1
  have X0 : Stand p l e ({ frames := 0, cells := 0, slots := 0, locals := 0 } : Room) s m #[(.ref w_1)] below meth c s₁ [] 0 0 := Stand.of_body Bd
  have e0 : s₁.heap = h0 := by rw [← hh, Bd.state]; rfl
  have N0 := Fr.nil n0
  have hS0 := hS
  obtain ⟨S_1, E_1, S_2, E_2, S_3, E_3, S_4, NE_4, S_5, IR_5⟩ := hS
  have pre0 : ∀ t, Steps p.tables e below (s₁.setTop (mkF m 0 #[.val (.ref w_1)] [])) t → Steps p.tables e below (s₁.setTop (entryFrame m #[(.ref w_1)] 1)) t := fun t k => castTop (ef_5x1 m w_1) k
  generalize hE0 : s₁.setTop (entryFrame m #[(.ref w_1)] 1) = E0 at pre0 ⊢
  obtain ⟨fs, hr, hrun, hended, hW, hsame⟩ := X0.leave (v := some (.ref w_1)) (fun h => by rw [Bd.returns] at h; cases h)
  refine ⟨_, _, pre0 _ ?_, hrun, hended, _, _, rfl, ?_, ⟨_, rfl⟩, hW, hsame.mono (by decide) (by decide)⟩
  · show Sp p e below s₁ (mkF m 0 (lt10 w_1) []) _
    refine XS.aloadN X0.here hx rfl (hb hby d5_0) rfl rfl ?_
    show Sp p e below s₁ (mkF m 1 (lt10 w_1) [(.ref w_1)]) _
    refine XS.ifnonnullYes X0.here hx rfl (pc0 := 1) (pc' := 12) rfl (hb hby d5_1) rfl (by decide) (by decide) ?_
    show Sp p e below s₁ (mkF m 12 (lt10 w_1) []) _
    refine XS.aloadN X0.here hx rfl (hb hby d5_12) rfl rfl ?_
    show Sp p e below s₁ (mkF m 13 (lt10 w_1) [(.ref w_1)]) _
    jvm_step X0.here [X0.here.top, hx, (hb hby d5_13), X0.method', Bd.returns, Value.isRef, FieldType.isReference]
    first | (intro acts; rw [hr _ acts rfl rfl rfl]) | rw [hr _ _ rfl rfl rfl]
    exact Steps.refl _
  · show Q5x1 Z w_1 w_2 w_4 w_5 h0 n0 _ s₁.heap _
    rw [e0]
    exact ⟨rfl, N0, rfl⟩
theorem pn_7u3x1 : plainName "jdk/internal/util/Preconditions" = true := by first | (simp [plainName, overriddenIn]; done) | decide +kernel
theorem ef_7u3x1 (m : MethodId) (u3 : Value) (i_u3 : u3.isRef = true) : entryFrame m #[(.int (0 : Int32)), (.int ((1 : Int32) - (1 : Int32))), (.int (1 : Int32)), u3] 4 = mkF m 0 #[.val (.int (0 : Int32)), .val (.int ((1 : Int32) - (1 : Int32))), .val (.int (1 : Int32)), .val u3] [] := by rcases ref_cases i_u3 with rfl | ⟨z_u3, rfl⟩ <;> first | (simp [entryFrame, mkF, argsToLocals, Value.category]; done) | rfl
def Q7u3x1 (Z : State) (w_1 : Addr) (w_2 : Addr) (w_4 : Int32) (w_5 : Value) (u3 : Value) (h0 : Heap) (n0 : Nat) (v : Option Value) (h : Heap) (L : List Loc) : Prop := v = some (.int (0 : Int32)) ∧ Fr n0 L ∧ h = h0
set_option maxRecDepth 65536 in
set_option maxHeartbeats 40000000 in
theorem rm7u3x1 (l : Launch) (Z : State) (a0 : Array Value) (hw : ∀ d ∈ tables_1, d.before a0 Z = true) (hv : ∀ d ∈ jdkStatics_1, d.before a0 Z = true) (ws : List Jvm.Cond) (w_1 : Addr) (w_2 : Addr) (w_4 : Int32) (w_5 : Value) (hS : StF Z w_1 w_2 w_4 w_5) (u3 : Value) (h0 : Heap) (n0 : Nat) (O0 : Old Z n0 h0) (i_u3 : u3.isRef = true) :
    MetFree l Y18 (head1 (Jvm.Cond.code Y18 jdk_41_method_13_code 4 (some .int) :: ws) ({ frames := 0, cells := 0, slots := 0, locals := 0 } : Room)) (fun a U => a = #[(.int (0 : Int32)), (.int ((1 : Int32) - (1 : Int32))), (.int (1 : Int32)), u3] ∧ Z.Warmed39 U.vm ∧ U.heap = h0) (fun _ _ _ _ _ => True) (fun _ U o U' => ∃ v L, o = .returned v ∧ Q7u3x1 Z w_1 w_2 w_4 w_5 u3 h0 n0 v U'.heap L ∧ FrameEnd U o U' L ({ frames := 0, cells := 0, slots := 0, locals := 0 } : Room).cells ({ frames := 0, cells := 0, slots := 0, locals := 0 } : Room).slots) := by
  refine MetFree.of_bodySF (plainFor_of_name pn_7u3x1) hisR ?_
  intro p e s m args below meth c s₁ Bd hml0 hP hK
  obtain ⟨rfl, hZ, hh⟩ := hP
  have hx := Bd.exec
  have hby := Bd.bytes
  have hml : c.maxLocals = 4 := hml0
  have hown : s.vm.findClass "jdk/internal/util/Preconditions" = some m.cls := findClass_of_methodNamed Bd.named
  have hnm := (name_of_methodNamed Bd.named Bd.method).1
  have X0 : Stand p l e ({ frames := 0, cells := 0, slots := 0, locals := 0 } : Room) s m #[(.int (0 : Int32)), (.int ((1 : Int32) - (1 : Int32))), (.int (1 : Int32)), u3] below meth c s₁ [] 0 0 := Stand.of_body Bd
  have e0 : s₁.heap = h0 := by rw [← hh, Bd.state]; rfl
  have N0 := Fr.nil n0
  have hS0 := hS
  obtain ⟨S_1, E_1, S_2, E_2, S_3, E_3, S_4, NE_4, S_5, IR_5⟩ := hS
  have pre0 : ∀ t, Steps p.tables e below (s₁.setTop (mkF m 0 #[.val (.int (0 : Int32)), .val (.int ((1 : Int32) - (1 : Int32))), .val (.int (1 : Int32)), .val u3] [])) t → Steps p.tables e below (s₁.setTop (entryFrame m #[(.int (0 : Int32)), (.int ((1 : Int32) - (1 : Int32))), (.int (1 : Int32)), u3] 4)) t := fun t k => castTop (ef_7u3x1 m u3 i_u3) k
  generalize hE0 : s₁.setTop (entryFrame m #[(.int (0 : Int32)), (.int ((1 : Int32) - (1 : Int32))), (.int (1 : Int32)), u3] 4) = E0 at pre0 ⊢
  obtain ⟨fs, hr, hrun, hended, hW, hsame⟩ := X0.leave (v := some (.int (0 : Int32))) (fun h => by rw [Bd.returns] at h; cases h)
  refine ⟨_, _, pre0 _ ?_, hrun, hended, _, _, rfl, ?_, ⟨_, rfl⟩, hW, hsame.mono (by decide) (by decide)⟩
  · show Sp p e below s₁ (mkF m 0 (lt15 (0 : Int32) ((1 : Int32) - (1 : Int32)) (1 : Int32) u3) []) _
    refine XS.iloadN X0.here hx rfl (hb hby d7_0) rfl ?_
    refine XS.iloadN X0.here hx rfl (hb hby d7_1) rfl ?_
    show Sp p e below s₁ (mkF m 2 (lt15 (0 : Int32) ((1 : Int32) - (1 : Int32)) (1 : Int32) u3) [(.int (0 : Int32)), (.int (1 : Int32))]) _
    refine XS.ior X0.here hx rfl (hb hby d7_2) rfl ?_
    refine XS.iloadN X0.here hx rfl (hb hby d7_3) rfl ?_
    show Sp p e below s₁ (mkF m 4 (lt15 (0 : Int32) ((1 : Int32) - (1 : Int32)) (1 : Int32) u3) [(.int ((1 : Int32) - (1 : Int32))), (.int ((1 : Int32) ||| (0 : Int32)))]) _
    refine XS.ior X0.here hx rfl (hb hby d7_4) rfl ?_
    show Sp p e below s₁ (mkF m 5 (lt15 (0 : Int32) ((1 : Int32) - (1 : Int32)) (1 : Int32) u3) [(.int (((1 : Int32) ||| (0 : Int32)) ||| ((1 : Int32) - (1 : Int32))))]) _
    refine XS.ifNo X0.here hx rfl (hb hby d7_5) rfl ((if0 _ _).trans (flt (by decide : ¬ ((((1 : Int32) ||| (0 : Int32)) ||| ((1 : Int32) - (1 : Int32))) < (0 : Int32)))).1) ?_
    show Sp p e below s₁ (mkF m 8 (lt15 (0 : Int32) ((1 : Int32) - (1 : Int32)) (1 : Int32) u3) []) _
    refine XS.iloadN X0.here hx rfl (hb hby d7_8) rfl ?_
    refine XS.iloadN X0.here hx rfl (hb hby d7_9) rfl ?_
    show Sp p e below s₁ (mkF m 10 (lt15 (0 : Int32) ((1 : Int32) - (1 : Int32)) (1 : Int32) u3) [(.int (1 : Int32)), (.int ((1 : Int32) - (1 : Int32)))]) _
    refine XS.iloadN X0.here hx rfl (hb hby d7_10) rfl ?_
    refine XS.isub X0.here hx rfl (hb hby d7_11) rfl ?_
    show Sp p e below s₁ (mkF m 12 (lt15 (0 : Int32) ((1 : Int32) - (1 : Int32)) (1 : Int32) u3) [(.int ((1 : Int32) - (0 : Int32))), (.int ((1 : Int32) - (1 : Int32)))]) _
    refine XS.icmpYes X0.here hx rfl (pc0 := 12) (pc' := 23) rfl (hb hby d7_12) rfl (flt (by decide : ¬ (((1 : Int32) - (0 : Int32)) < ((1 : Int32) - (1 : Int32))))).2.2.2 (by decide) (by decide) ?_
    show Sp p e below s₁ (mkF m 23 (lt15 (0 : Int32) ((1 : Int32) - (1 : Int32)) (1 : Int32) u3) []) _
    refine XS.iloadN X0.here hx rfl (hb hby d7_23) rfl ?_
    show Sp p e below s₁ (mkF m 24 (lt15 (0 : Int32) ((1 : Int32) - (1 : Int32)) (1 : Int32) u3) [(.int (0 : Int32))]) _
    exact retI X0 hx Bd.returns (hb hby d7_24) hr
  · show Q7u3x1 Z w_1 w_2 w_4 w_5 u3 h0 n0 _ s₁.heap _
    rw [e0]
    exact ⟨rfl, N0, rfl⟩
theorem pn_6x1 : plainName "java/lang/String" = true := by first | (simp [plainName, overriddenIn]; done) | decide +kernel
theorem ef_6x1 (m : MethodId)  : entryFrame m #[(.int (0 : Int32)), (.int ((1 : Int32) - (1 : Int32))), (.int (1 : Int32))] 3 = mkF m 0 #[.val (.int (0 : Int32)), .val (.int ((1 : Int32) - (1 : Int32))), .val (.int (1 : Int32))] [] := by first | (simp [entryFrame, mkF, argsToLocals, Value.category]; done) | rfl
def Q6x1 (Z : State) (w_1 : Addr) (w_2 : Addr) (w_4 : Int32) (w_5 : Value) (h0 : Heap) (n0 : Nat) (v : Option Value) (h : Heap) (L : List Loc) : Prop := v = some (.int (0 : Int32)) ∧ Fr n0 L ∧ h = h0
set_option maxRecDepth 65536 in
set_option maxHeartbeats 40000000 in
theorem rm6x1 (l : Launch) (Z : State) (a0 : Array Value) (hw : ∀ d ∈ tables_1, d.before a0 Z = true) (hv : ∀ d ∈ jdkStatics_1, d.before a0 Z = true) (ws : List Jvm.Cond) (w_1 : Addr) (w_2 : Addr) (w_4 : Int32) (w_5 : Value) (hS : StF Z w_1 w_2 w_4 w_5) (h0 : Heap) (n0 : Nat) (O0 : Old Z n0 h0) :
    MetFree l Y19 (head1 (Jvm.Cond.code Y19 jdk_42_method_157_code 3 (some .int) :: ws) ({ frames := 1, cells := 0, slots := 0, locals := 15 } : Room)) (fun a U => a = #[(.int (0 : Int32)), (.int ((1 : Int32) - (1 : Int32))), (.int (1 : Int32))] ∧ Z.Warmed39 U.vm ∧ U.heap = h0) (fun _ _ _ _ _ => True) (fun _ U o U' => ∃ v L, o = .returned v ∧ Q6x1 Z w_1 w_2 w_4 w_5 h0 n0 v U'.heap L ∧ FrameEnd U o U' L ({ frames := 1, cells := 0, slots := 0, locals := 15 } : Room).cells ({ frames := 1, cells := 0, slots := 0, locals := 15 } : Room).slots) := by
  refine MetFree.of_bodySF (plainFor_of_name pn_6x1) hisR ?_
  intro p e s m args below meth c s₁ Bd hml0 hP hK
  obtain ⟨rfl, hZ, hh⟩ := hP
  have hx := Bd.exec
  have hby := Bd.bytes
  have hml : c.maxLocals = 3 := hml0
  have hown : s.vm.findClass "java/lang/String" = some m.cls := findClass_of_methodNamed Bd.named
  have hnm := (name_of_methodNamed Bd.named Bd.method).1
  have X0 : Stand p l e ({ frames := 1, cells := 0, slots := 0, locals := 15 } : Room) s m #[(.int (0 : Int32)), (.int ((1 : Int32) - (1 : Int32))), (.int (1 : Int32))] below meth c s₁ [] 0 0 := Stand.of_body Bd
  have e0 : s₁.heap = h0 := by rw [← hh, Bd.state]; rfl
  have N0 := Fr.nil n0
  have hS0 := hS
  obtain ⟨S_1, E_1, S_2, E_2, S_3, E_3, S_4, NE_4, S_5, IR_5⟩ := hS
  have pre0 : ∀ t, Steps p.tables e below (s₁.setTop (mkF m 0 #[.val (.int (0 : Int32)), .val (.int ((1 : Int32) - (1 : Int32))), .val (.int (1 : Int32))] [])) t → Steps p.tables e below (s₁.setTop (entryFrame m #[(.int (0 : Int32)), (.int ((1 : Int32) - (1 : Int32))), (.int (1 : Int32))] 3)) t := fun t k => castTop (ef_6x1 m ) k
  generalize hE0 : s₁.setTop (entryFrame m #[(.int (0 : Int32)), (.int ((1 : Int32) - (1 : Int32))), (.int (1 : Int32))] 3) = E0 at pre0 ⊢
  obtain ⟨T20, X20, e20, st20⟩ := getS2 X0 hx hZ hown (host := "") (Or.inl (hw _ (tk 29 rfl))) Via.refl e0 (S_5.ext O0.2) (g := (mkF m 3 (lt4 (0 : Int32) ((1 : Int32) - (1 : Int32)) (1 : Int32)) [(.int (1 : Int32)), (.int ((1 : Int32) - (1 : Int32))), (.int (0 : Int32))])) rfl (hb hby d6_3)
  obtain ⟨_, _, ⟨T21, L21, k21, n21⟩, -, X21, ⟨Lc21, hQ21, l21, y21, z21⟩, st21⟩ := Jvm.LawKit.callS X20 hx (y := Y18) hown (mvT hZ (hw _ (tk 31 rfl))) (mvT hZ (hw _ (tk 32 rfl))) (mvT hZ (hw _ (tk 30 rfl))) (mvT hZ (hw _ (tk 33 rfl))) (by decide) (backOf (W := 0) (rm7u3x1 l Z a0 hw hv [] w_1 w_2 w_4 w_5 hS0 w_5 h0 n0 O0 IR_5) hZ (hw _ (tk 33 rfl)) (hw _ (tk 30 rfl)) (by decide) (by decide)) (g := (mkF m 6 (lt4 (0 : Int32) ((1 : Int32) - (1 : Int32)) (1 : Int32)) [w_5, (.int (1 : Int32)), (.int ((1 : Int32) - (1 : Int32))), (.int (0 : Int32))])) rfl (by rw [hml]; rfl) (argsL := [(.int (0 : Int32)), (.int ((1 : Int32) - (1 : Int32))), (.int (1 : Int32)), w_5]) (rest := []) (lenOf pd_3 rfl) rfl (by show 2 * 0 + _ ≤ _; exact Nat.le_of_eq rfl) (hb hby d6_6) (fun _ _ => ⟨rfl, e20, (by decide : 0 + 0 ≤ _), (by decide : 0 + 0 ≤ _)⟩)
  dsimp only [Pt.U, Pt.locs, Pt.cells, Pt.slots] at X21 l21 y21 z21 st21 hQ21
  subst l21 y21 z21
  obtain ⟨rv21, N21q, e21⟩ := hQ21
  subst rv21
  have N21 := Fr.app N0 N21q
  obtain ⟨fs, hr, hrun, hended, hW, hsame⟩ := X21.leave (v := some (.int (0 : Int32))) (fun h => by rw [Bd.returns] at h; cases h)
  refine ⟨_, _, pre0 _ ?_, hrun, hended, _, _, rfl, ?_, ⟨_, rfl⟩, hW, hsame.mono (by decide) (by decide)⟩
  · show Sp p e below s₁ (mkF m 0 (lt4 (0 : Int32) ((1 : Int32) - (1 : Int32)) (1 : Int32)) []) _
    refine XS.iloadN X0.here hx rfl (hb hby d6_0) rfl ?_
    refine XS.iloadN X0.here hx rfl (hb hby d6_1) rfl ?_
    show Sp p e below s₁ (mkF m 2 (lt4 (0 : Int32) ((1 : Int32) - (1 : Int32)) (1 : Int32)) [(.int ((1 : Int32) - (1 : Int32))), (.int (0 : Int32))]) _
    refine XS.iloadN X0.here hx rfl (hb hby d6_2) rfl ?_
    show Sp p e below s₁ (mkF m 3 (lt4 (0 : Int32) ((1 : Int32) - (1 : Int32)) (1 : Int32)) [(.int (1 : Int32)), (.int ((1 : Int32) - (1 : Int32))), (.int (0 : Int32))]) _
    refine st20 _ ?_
    show Sp p e below T20 (mkF m 6 (lt4 (0 : Int32) ((1 : Int32) - (1 : Int32)) (1 : Int32)) [w_5, (.int (1 : Int32)), (.int ((1 : Int32) - (1 : Int32))), (.int (0 : Int32))]) _
    refine st21 _ ?_
    show Sp p e below T21 (mkF m 9 (lt4 (0 : Int32) ((1 : Int32) - (1 : Int32)) (1 : Int32)) [(.int (0 : Int32))]) _
    exact retI X21 hx Bd.returns (hb hby d6_9) hr
  · show Q6x1 Z w_1 w_2 w_4 w_5 h0 n0 _ T21.heap _
    rw [e21]
    exact ⟨rfl, N21, rfl⟩
theorem pn_8x1 : plainName "java/lang/String" = true := by first | (simp [plainName, overriddenIn]; done) | decide +kernel
theorem ef_8x1 (m : MethodId) (r0 : Addr) (w_1 : Addr) (r2 : Addr) : entryFrame m #[(.ref r0), (.ref w_1), (.ref r2), (.int (0 : Int32)), (.int ((1 : Int32) - (1 : Int32)))] 11 = mkF m 0 #[.val (.ref r0), .val (.ref w_1), .val (.ref r2), .val (.int (0 : Int32)), .val (.int ((1 : Int32) - (1 : Int32))), .unset, .unset, .unset, .unset, .unset, .unset] [] := by first | (simp [entryFrame, mkF, argsToLocals, Value.category]; done) | rfl
def Q8x1 (Z : State) (w_1 : Addr) (w_2 : Addr) (w_4 : Int32) (w_5 : Value) (r0 : Addr) (r2 : Addr) (k_r2 : ClassId) (x_r2_0 : Int32) (h0 : Heap) (n0 : Nat) (v : Option Value) (h : Heap) (L : List Loc) : Prop := ∃ (b25 : Addr) (kb25 : ClassId), v = none ∧ Fr n0 L ∧ Old Z n0 h ∧ Keep h0 h [r0] ∧ Fld Z h r0 "java/lang/String" "coder" "B" (.int (0 : Int32)) ∧ Fld Z h r0 "java/lang/String" "value" "[B" (.ref b25) ∧ True ∧ b25 ≠ r0 ∧ Arv Z h b25 kb25 .byte (0 : Int32) [] (.int (0 : Int32))
set_option maxRecDepth 65536 in
set_option maxHeartbeats 40000000 in
theorem rm8x1 (l : Launch) (Z : State) (a0 : Array Value) (hw : ∀ d ∈ tables_1, d.before a0 Z = true) (hv : ∀ d ∈ jdkStatics_1, d.before a0 Z = true) (wS : ∀ d ∈ Bundle.stringAtoms, d.before a0 Z = true) (hEL : EW Z a0 EL1) (ws : List Jvm.Cond) (w_1 : Addr) (w_2 : Addr) (w_4 : Int32) (w_5 : Value) (hS : StF Z w_1 w_2 w_4 w_5) (r0 : Addr) (r2 : Addr) (k_r2 : ClassId) (x_r2_0 : Int32) (h0 : Heap) (n0 : Nat) (O0 : Old Z n0 h0) (g_r0 : n0 ≤ r0) (g_r2 : n0 ≤ r2) (E_r0 : Exa Z h0 r0 "java/lang/String") (F_coder_r0 : Fld Z h0 r0 "java/lang/String" "coder" "B" (.int (0 : Int32))) (F_value_r0 : Fld Z h0 r0 "java/lang/String" "value" "[B" .null) (V_r2 : Arv Z h0 r2 k_r2 .byte (1 : Int32) [(.int x_r2_0)] (.int (0 : Int32))) (ne_r0_r2 : r0 ≠ r2) :
    MetFree l Y21 (head1 (Jvm.Cond.codeWith Y21 jdk_42_method_11_code 11 none [(800, 813, 816, 202)] :: ws) ({ frames := 1, cells := 2, slots := 4, locals := 12 } : Room)) (fun a U => a = #[(.ref r0), (.ref w_1), (.ref r2), (.int (0 : Int32)), (.int ((1 : Int32) - (1 : Int32)))] ∧ Z.Warmed39 U.vm ∧ U.heap = h0 ∧ CHv Z EL1 U.vm Z.heap) (fun _ _ _ _ _ => True) (fun _ U o U' => ∃ v L, o = .returned v ∧ Q8x1 Z w_1 w_2 w_4 w_5 r0 r2 k_r2 x_r2_0 h0 n0 v U'.heap L ∧ ReturnedEndW U o U' L ({ frames := 1, cells := 2, slots := 4, locals := 12 } : Room).cells ({ frames := 1, cells := 2, slots := 4, locals := 12 } : Room).slots) := by
  refine MetFree.of_bodySF (plainFor_of_name pn_8x1) hisWith ?_
  intro p e s m args below meth c s₁ Bd hml0 hP hK
  obtain ⟨rfl, hZ, hh, hC⟩ := hP
  have hx := Bd.exec
  have hby := Bd.bytes
  have hml : c.maxLocals = 11 := hml0
  have hown : s.vm.findClass "java/lang/String" = some m.cls := findClass_of_methodNamed Bd.named
  have hnm := (name_of_methodNamed Bd.named Bd.method).1
  have X0 : Stand p l e ({ frames := 1, cells := 2, slots := 4, locals := 12 } : Room) s m #[(.ref r0), (.ref w_1), (.ref r2), (.int (0 : Int32)), (.int ((1 : Int32) - (1 : Int32)))] below meth c s₁ [] 0 0 := Stand.of_body Bd
  have e0 : s₁.heap = h0 := by rw [← hh, Bd.state]; rfl
  have N0 := Fr.nil n0
  have hS0 := hS
  obtain ⟨S_1, E_1, S_2, E_2, S_3, E_3, S_4, NE_4, S_5, IR_5⟩ := hS
  have pre0 : ∀ t, Steps p.tables e below (s₁.setTop (mkF m 0 #[.val (.ref r0), .val (.ref w_1), .val (.ref r2), .val (.int (0 : Int32)), .val (.int ((1 : Int32) - (1 : Int32))), .unset, .unset, .unset, .unset, .unset, .unset] [])) t → Steps p.tables e below (s₁.setTop (entryFrame m #[(.ref r0), (.ref w_1), (.ref r2), (.int (0 : Int32)), (.int ((1 : Int32) - (1 : Int32)))] 11)) t := fun t k => castTop (ef_8x1 m r0 w_1 r2) k
  generalize hE0 : s₁.setTop (entryFrame m #[(.ref r0), (.ref w_1), (.ref r2), (.int (0 : Int32)), (.int ((1 : Int32) - (1 : Int32)))] 11) = E0 at pre0 ⊢
  obtain ⟨T23, X23, e23, st23⟩ := initO X0 hx hZ hown (hw _ (tk 38 rfl)) (hw _ (tk 39 rfl)) (hw _ (tk 40 rfl)) e0 (g := (mkF m 1 (lt16 r0 w_1 r2 (0 : Int32) ((1 : Int32) - (1 : Int32))) [(.ref r0)])) rfl (by rw [hml]; rfl) rfl (hb hby d8_1) (by decide) (W := 0) (by show 2 * 0 + _ ≤ _; exact Nat.le_of_eq rfl) (by decide)
  have pre24 : Cm p e below E0 (T23.setTop (mkF m 10 (lt16 r0 w_1 r2 (0 : Int32) ((1 : Int32) - (1 : Int32))) [(.ref r0)])) := fun t kt => by
    refine pre0 t ?_
    show Sp p e below s₁ (mkF m 0 (lt16 r0 w_1 r2 (0 : Int32) ((1 : Int32) - (1 : Int32))) []) _
    refine XS.aloadN X0.here hx rfl (hb hby d8_0) rfl rfl ?_
    show Sp p e below s₁ (mkF m 1 (lt16 r0 w_1 r2 (0 : Int32) ((1 : Int32) - (1 : Int32))) [(.ref r0)]) _
    refine st23 _ ?_
    show Sp p e below T23 (mkF m 4 (lt16 r0 w_1 r2 (0 : Int32) ((1 : Int32) - (1 : Int32))) []) _
    refine XS.iload X23.here hx rfl (hb hby d8_4) rfl ?_
    show Sp p e below T23 (mkF m 6 (lt16 r0 w_1 r2 (0 : Int32) ((1 : Int32) - (1 : Int32))) [(.int ((1 : Int32) - (1 : Int32)))]) _
    refine XS.ifNo X23.here hx rfl (hb hby d8_6) rfl ((if0 _ _).trans (teq (by decide : (((1 : Int32) - (1 : Int32)) = (0 : Int32)))).2) ?_
    show Sp p e below T23 (mkF m 9 (lt16 r0 w_1 r2 (0 : Int32) ((1 : Int32) - (1 : Int32))) []) _
    refine XS.aloadN X23.here hx rfl (hb hby d8_9) rfl rfl ?_
    show Sp p e below T23 (mkF m 10 (lt16 r0 w_1 r2 (0 : Int32) ((1 : Int32) - (1 : Int32))) [(.ref r0)]) _
    show Sp p e below T23 (mkF m 10 (lt16 r0 w_1 r2 (0 : Int32) ((1 : Int32) - (1 : Int32))) [(.ref r0)]) _
    exact kt
  obtain ⟨a25, T25, h25, kk25, b25, kb25, X25, e25, E25, hSi, hki, hZ, hown, EA25, FC25, FV25, V_b25, la25, lb25, -, Lt25, sf25, st25⟩ := ldcCH (s := s) (vm0 := s.vm) X23 hx hZ hown (hw _ (tk 41 rfl)) wS e23 ((State.WarmedH.refl s).since 0) (Nat.zero_le _) hEL (List.mem_of_getElem? (i := 0) rfl) (hC.ext O0.2) (vs := []) (z := (0 : Int32)) ⟨by decide, rfl⟩ (by decide) rfl (g := (mkF m 10 (lt16 r0 w_1 r2 (0 : Int32) ((1 : Int32) - (1 : Int32))) [(.ref r0)])) rfl (hb hby d8_10) (n := 0) (by decide) (by decide) (by decide) (by decide)
  have O25 : Old Z n0 h25 := O0.ext E25
  have K25 : Keep h0 h25 [r0] := (Keep.refl h0 [r0]).ext E25
  have c26 := (E_r0.ext E25)
  have c27 := (F_value_r0.ext E25)
  have ne25_r0 := sf25 r0 (own_safe0 hZ.alike c26 c27)
  obtain ⟨T28, X28, e28, st28⟩ := getF X25 hx hZ hown (host := "") (Or.inl (hw _ (tk 46 rfl))) Via.refl e25 FV25 (g := (mkF m 12 (lt16 r0 w_1 r2 (0 : Int32) ((1 : Int32) - (1 : Int32))) [(.ref a25), (.ref r0)])) rfl rfl (hb hby d8_12)
  obtain ⟨T29, h29, X29, e29, W29, st29⟩ := putF X28 hx hZ hown (host := "") (Or.inl (hw _ (tk 46 rfl))) Via.refl e28 c27 c26 (Or.inr ⟨(hw _ (tk 42 rfl)), rfl, hnm⟩) (hw _ (tk 13 rfl)) (ty := (.array .byte)) (by decide) rfl rfl (g := (mkF m 15 (lt16 r0 w_1 r2 (0 : Int32) ((1 : Int32) - (1 : Int32))) [(.ref b25), (.ref r0)])) rfl rfl (hb hby d8_15)
  have Fw29 := c27.same W29
  have O29 : Old Z n0 h29 := O25.wr W29 g_r0
  have N29 := Fr.snoc X29 N0 g_r0
  have K29 : Keep h0 h29 [r0] := K25.wr W29 (Or.inl (List.mem_of_getElem? (i := 0) rfl))
  have c30 := (FC25.other W29 (Or.inl (Ne.symm ne25_r0.1)))
  obtain ⟨T31, X31, e31, st31⟩ := getF X29 hx hZ hown (host := "") (Or.inl (hw _ (tk 47 rfl))) Via.refl e29 c30 (g := (mkF m 21 (lt16 r0 w_1 r2 (0 : Int32) ((1 : Int32) - (1 : Int32))) [(.ref a25), (.ref r0)])) rfl rfl (hb hby d8_21)
  have c32 := (c26.wr W29)
  have c33 := ((F_coder_r0.ext E25).other W29 (Or.inr (slot_ne (Or.inr (hw _ (tk 43 rfl))) (Or.inr (hw _ (tk 42 rfl))) (by decide) (t := .byte) (t' := (.array .byte)) (by decide) (by decide))))
  obtain ⟨T34, h34, X34, e34, W34, st34⟩ := putFN X31 hx hZ hown (hw _ (tk 47 rfl)) Via.refl e31 c33 c32 (Or.inr ⟨(hw _ (tk 43 rfl)), rfl, hnm⟩) (hw _ (tk 13 rfl)) (ty := .byte) (v' := (.int (0 : Int32))) (by decide) rfl (by decide) (g := (mkF m 24 (lt16 r0 w_1 r2 (0 : Int32) ((1 : Int32) - (1 : Int32))) [(.int (0 : Int32)), (.ref r0)])) rfl rfl (hb hby d8_24)
  have Fw34 := c33.same W34
  have O34 : Old Z n0 h34 := O29.wr W34 g_r0
  have N34 := Fr.snoc X34 N29 g_r0
  have K34 : Keep h0 h34 [r0] := K29.wr W34 (Or.inl (List.mem_of_getElem? (i := 0) rfl))
  obtain ⟨fs, hr, hrun, hended, hRW⟩ := leaveW (s := s) (vm₁ := T25.vm) X34 hSi (n := _) (by rw [e34]; exact (Nat.le_trans (Nat.le_trans hki (own_wrsz W29)) (own_wrsz W34))) (v := none) (fun _ => rfl)
  have c35 := ((V_b25.other W29 (Ne.symm ne25_r0.2)).other W34 (Ne.symm ne25_r0.2))
  have c36 := (Fw29.other W34 (Or.inr (slot_ne (Or.inr (hw _ (tk 42 rfl))) (Or.inr (hw _ (tk 43 rfl))) (by decide) (t := (.array .byte)) (t' := .byte) (by decide) (by decide))))
  refine ⟨_, _, pre24 _ ?_, hrun, hended, _, _, rfl, ?_, hRW.1, hRW.2.1, hRW.2.2.1, hRW.2.2.2.mono (by decide) (by decide)⟩
  · refine st25 _ ?_
    show Sp p e below T25 (mkF m 12 (lt16 r0 w_1 r2 (0 : Int32) ((1 : Int32) - (1 : Int32))) [(.ref a25), (.ref r0)]) _
    refine st28 _ ?_
    show Sp p e below T28 (mkF m 15 (lt16 r0 w_1 r2 (0 : Int32) ((1 : Int32) - (1 : Int32))) [(.ref b25), (.ref r0)]) _
    refine st29 _ ?_
    show Sp p e below T29 (mkF m 18 (lt16 r0 w_1 r2 (0 : Int32) ((1 : Int32) - (1 : Int32))) []) _
    refine XS.aloadN X29.here hx rfl (hb hby d8_18) rfl rfl ?_
    show Sp p e below T29 (mkF m 19 (lt16 r0 w_1 r2 (0 : Int32) ((1 : Int32) - (1 : Int32))) [(.ref r0)]) _
    refine ldcAgain (s := s) (vm0 := T25.vm) X29 hx hZ hown (hw _ (tk 41 rfl)) Lt25 (g := (mkF m 19 (lt16 r0 w_1 r2 (0 : Int32) ((1 : Int32) - (1 : Int32))) [(.ref r0)])) rfl (hb hby d8_19) _ ?_
    show Sp p e below T29 (mkF m 21 (lt16 r0 w_1 r2 (0 : Int32) ((1 : Int32) - (1 : Int32))) [(.ref a25), (.ref r0)]) _
    refine st31 _ ?_
    show Sp p e below T31 (mkF m 24 (lt16 r0 w_1 r2 (0 : Int32) ((1 : Int32) - (1 : Int32))) [(.int (0 : Int32)), (.ref r0)]) _
    refine st34 _ ?_
    show Sp p e below T34 (mkF m 27 (lt16 r0 w_1 r2 (0 : Int32) ((1 : Int32) - (1 : Int32))) []) _
    refine XS.goto X34.here hx rfl (pc0 := 27) (pc' := 879) rfl (hb hby d8_27) (by decide) (by decide) ?_
    show Sp p e below T34 (mkF m 879 (lt16 r0 w_1 r2 (0 : Int32) ((1 : Int32) - (1 : Int32))) []) _
    exact X34.returnOut hx Bd.returns (hb hby d8_879) hr
  · show Q8x1 Z w_1 w_2 w_4 w_5 r0 r2 k_r2 x_r2_0 h0 n0 _ T34.heap _
    rw [e34]
    exact ⟨b25, kb25, rfl, N34, O34, K34, Fw34, c36, trivial, (Ne.symm ne25_r0.2), c35⟩
theorem pn_4x1 : plainName "java/lang/String" = true := by first | (simp [plainName, overriddenIn]; done) | decide +kernel
theorem ef_4x1 (m : MethodId) (r0 : Addr) (r1 : Addr) (w_1 : Addr) : entryFrame m #[(.ref r0), (.ref r1), (.int (0 : Int32)), (.int ((1 : Int32) - (1 : Int32))), (.ref w_1)] 5 = mkF m 0 #[.val (.ref r0), .val (.ref r1), .val (.int (0 : Int32)), .val (.int ((1 : Int32) - (1 : Int32))), .val (.ref w_1)] [] := by first | (simp [entryFrame, mkF, argsToLocals, Value.category]; done) | rfl
def Q4x1 (Z : State) (w_1 : Addr) (w_2 : Addr) (w_4 : Int32) (w_5 : Value) (r0 : Addr) (r1 : Addr) (k_r1 : ClassId) (x_r1_0 : Int32) (h0 : Heap) (n0 : Nat) (v : Option Value) (h : Heap) (L : List Loc) : Prop := ∃ (b39 : Addr) (k40 : ClassId), v = none ∧ Fr n0 L ∧ Old Z n0 h ∧ Keep h0 h [r0] ∧ Fld Z h r0 "java/lang/String" "coder" "B" (.int (0 : Int32)) ∧ Fld Z h r0 "java/lang/String" "value" "[B" (.ref b39) ∧ True ∧ b39 ≠ r0 ∧ Arv Z h b39 k40 .byte (0 : Int32) [] (.int (0 : Int32))
set_option maxRecDepth 65536 in
set_option maxHeartbeats 40000000 in
theorem rm4x1 (l : Launch) (Z : State) (a0 : Array Value) (hw : ∀ d ∈ tables_1, d.before a0 Z = true) (hv : ∀ d ∈ jdkStatics_1, d.before a0 Z = true) (wS : ∀ d ∈ Bundle.stringAtoms, d.before a0 Z = true) (hEL : EW Z a0 EL1) (ws : List Jvm.Cond) (w_1 : Addr) (w_2 : Addr) (w_4 : Int32) (w_5 : Value) (hS : StF Z w_1 w_2 w_4 w_5) (r0 : Addr) (r1 : Addr) (k_r1 : ClassId) (x_r1_0 : Int32) (h0 : Heap) (n0 : Nat) (O0 : Old Z n0 h0) (g_r0 : n0 ≤ r0) (g_r1 : n0 ≤ r1) (E_r0 : Exa Z h0 r0 "java/lang/String") (F_coder_r0 : Fld Z h0 r0 "java/lang/String" "coder" "B" (.int (0 : Int32))) (F_value_r0 : Fld Z h0 r0 "java/lang/String" "value" "[B" .null) (V_r1 : Arv Z h0 r1 k_r1 .byte (1 : Int32) [(.int x_r1_0)] (.int (0 : Int32))) (ne_r0_r1 : r0 ≠ r1) :
    MetFree l Y22 (head1 (Jvm.Cond.code Y22 jdk_42_method_10_code 5 none :: ws) ({ frames := 2, cells := 2, slots := 4, locals := 34 } : Room)) (fun a U => a = #[(.ref r0), (.ref r1), (.int (0 : Int32)), (.int ((1 : Int32) - (1 : Int32))), (.ref w_1)] ∧ Z.Warmed39 U.vm ∧ U.heap = h0 ∧ CHv Z EL1 U.vm Z.heap) (fun _ _ _ _ _ => True) (fun _ U o U' => ∃ v L, o = .returned v ∧ Q4x1 Z w_1 w_2 w_4 w_5 r0 r1 k_r1 x_r1_0 h0 n0 v U'.heap L ∧ ReturnedEndW U o U' L ({ frames := 2, cells := 2, slots := 4, locals := 34 } : Room).cells ({ frames := 2, cells := 2, slots := 4, locals := 34 } : Room).slots) := by
  refine MetFree.of_bodySF (plainFor_of_name pn_4x1) hisR ?_
  intro p e s m args below meth c s₁ Bd hml0 hP hK
  obtain ⟨rfl, hZ, hh, hC⟩ := hP
  have hx := Bd.exec
  have hby := Bd.bytes
  have hml : c.maxLocals = 5 := hml0
  have hown : s.vm.findClass "java/lang/String" = some m.cls := findClass_of_methodNamed Bd.named
  have hnm := (name_of_methodNamed Bd.named Bd.method).1
  have X0 : Stand p l e ({ frames := 2, cells := 2, slots := 4, locals := 34 } : Room) s m #[(.ref r0), (.ref r1), (.int (0 : Int32)), (.int ((1 : Int32) - (1 : Int32))), (.ref w_1)] below meth c s₁ [] 0 0 := Stand.of_body Bd
  have e0 : s₁.heap = h0 := by rw [← hh, Bd.state]; rfl
  have N0 := Fr.nil n0
  have hS0 := hS
  obtain ⟨S_1, E_1, S_2, E_2, S_3, E_3, S_4, NE_4, S_5, IR_5⟩ := hS
  have pre0 : ∀ t, Steps p.tables e below (s₁.setTop (mkF m 0 #[.val (.ref r0), .val (.ref r1), .val (.int (0 : Int32)), .val (.int ((1 : Int32) - (1 : Int32))), .val (.ref w_1)] [])) t → Steps p.tables e below (s₁.setTop (entryFrame m #[(.ref r0), (.ref r1), (.int (0 : Int32)), (.int ((1 : Int32) - (1 : Int32))), (.ref w_1)] 5)) t := fun t k => castTop (ef_4x1 m r0 r1 w_1) k
  generalize hE0 : s₁.setTop (entryFrame m #[(.ref r0), (.ref r1), (.int (0 : Int32)), (.int ((1 : Int32) - (1 : Int32))), (.ref w_1)] 5) = E0 at pre0 ⊢
  obtain ⟨_, _, ⟨T17, L17, k17, n17⟩, -, X17, ⟨Lc17, hQ17, l17, y17, z17⟩, st17⟩ := Jvm.LawKit.callS X0 hx (y := Y16) hown (mvT hZ (hw _ (tk 20 rfl))) (mvT hZ (hw _ (tk 21 rfl))) (mvT hZ (hw _ (tk 22 rfl))) (mvT hZ (hw _ (tk 23 rfl))) (by decide) (backOf (W := 1) (rm5x1 l Z a0 hw hv [] w_1 w_2 w_4 w_5 hS0 h0 n0 O0) hZ (hw _ (tk 23 rfl)) (hw _ (tk 22 rfl)) (by decide) (by decide)) (g := (mkF m 3 (lt14 r0 r1 (0 : Int32) ((1 : Int32) - (1 : Int32)) w_1) [(.ref w_1), (.ref r0)])) rfl (by rw [hml]; rfl) (argsL := [(.ref w_1)]) (rest := [(.ref r0)]) (lenOf pd_2 rfl) rfl (by show 2 * 0 + _ ≤ _; exact Nat.le_of_eq rfl) (hb hby d4_3) (fun _ _ => ⟨rfl, e0, (by decide : 0 + 0 ≤ _), (by decide : 0 + 0 ≤ _)⟩)
  dsimp only [Pt.U, Pt.locs, Pt.cells, Pt.slots] at X17 l17 y17 z17 st17 hQ17
  subst l17 y17 z17
  obtain ⟨rv17, N17q, e17⟩ := hQ17
  subst rv17
  have N17 := Fr.app N0 N17q
  obtain ⟨T18, X18, e18, st18⟩ := castY X17 hx hZ hown (hw _ (tk 24 rfl)) e17 (Ins.of_exa (E_1.ext O0.2) (hw _ (tk 25 rfl))) (g := (mkF m 6 (lt14 r0 r1 (0 : Int32) ((1 : Int32) - (1 : Int32)) w_1) [(.ref w_1), (.ref r0)])) rfl rfl (hb hby d4_6)
  obtain ⟨cl19, Ar19, qa19, Sa19, Ma19, Ha19, Ga19⟩ := id V_r1
  obtain ⟨_, _, ⟨T22, L22, k22, n22⟩, -, X22, ⟨Lc22, hQ22, l22, y22, z22⟩, st22⟩ := Jvm.LawKit.callS X18 hx (y := Y19) hown (mvT hZ (hw _ (tk 26 rfl))) (mvT hZ (hw _ (tk 27 rfl))) (mvT hZ (hw _ (tk 14 rfl))) (mvT hZ (hw _ (tk 28 rfl))) (by decide) (backOf (W := 3) (rm6x1 l Z a0 hw hv [] w_1 w_2 w_4 w_5 hS0 h0 n0 O0) hZ (hw _ (tk 28 rfl)) (hw _ (tk 14 rfl)) (by decide) (by decide)) (g := (mkF m 14 (lt14 r0 r1 (0 : Int32) ((1 : Int32) - (1 : Int32)) w_1) [(.int (1 : Int32)), (.int ((1 : Int32) - (1 : Int32))), (.int (0 : Int32)), (.ref r1), (.ref w_1), (.ref r0)])) rfl (by rw [hml]; rfl) (argsL := [(.int (0 : Int32)), (.int ((1 : Int32) - (1 : Int32))), (.int (1 : Int32))]) (rest := [(.ref r1), (.ref w_1), (.ref r0)]) (lenOf pd_4 rfl) rfl (by show 2 * 0 + _ ≤ _; exact Nat.le_of_eq rfl) (hb hby d4_14) (fun _ _ => ⟨rfl, e18, (by decide : 0 + 0 ≤ _), (by decide : 0 + 0 ≤ _)⟩)
  dsimp only [Pt.U, Pt.locs, Pt.cells, Pt.slots] at X22 l22 y22 z22 st22 hQ22
  subst l22 y22 z22
  obtain ⟨rv22, N22q, e22⟩ := hQ22
  subst rv22
  have N22 := Fr.app N17 N22q
  have pre38 : Cm p e below E0 (T22.setTop (mkF m 18 (lt14 r0 r1 (0 : Int32) ((1 : Int32) - (1 : Int32)) w_1) [(.int ((1 : Int32) - (1 : Int32))), (.int (0 : Int32)), (.ref r1), (.ref w_1), (.ref r0)])) := fun t kt => by
    refine pre0 t ?_
    show Sp p e below s₁ (mkF m 0 (lt14 r0 r1 (0 : Int32) ((1 : Int32) - (1 : Int32)) w_1) []) _
    refine XS.aloadN X0.here hx rfl (hb hby d4_0) rfl rfl ?_
    refine XS.aload X0.here hx rfl (hb hby d4_1) rfl rfl ?_
    show Sp p e below s₁ (mkF m 3 (lt14 r0 r1 (0 : Int32) ((1 : Int32) - (1 : Int32)) w_1) [(.ref w_1), (.ref r0)]) _
    refine st17 _ ?_
    show Sp p e below T17 (mkF m 6 (lt14 r0 r1 (0 : Int32) ((1 : Int32) - (1 : Int32)) w_1) [(.ref w_1), (.ref r0)]) _
    refine st18 _ ?_
    show Sp p e below T18 (mkF m 9 (lt14 r0 r1 (0 : Int32) ((1 : Int32) - (1 : Int32)) w_1) [(.ref w_1), (.ref r0)]) _
    refine XS.aloadN X18.here hx rfl (hb hby d4_9) rfl rfl ?_
    refine XS.iloadN X18.here hx rfl (hb hby d4_10) rfl ?_
    show Sp p e below T18 (mkF m 11 (lt14 r0 r1 (0 : Int32) ((1 : Int32) - (1 : Int32)) w_1) [(.int (0 : Int32)), (.ref r1), (.ref w_1), (.ref r0)]) _
    refine XS.iloadN X18.here hx rfl (hb hby d4_11) rfl ?_
    refine XS.aloadN X18.here hx rfl (hb hby d4_12) rfl rfl ?_
    show Sp p e below T18 (mkF m 13 (lt14 r0 r1 (0 : Int32) ((1 : Int32) - (1 : Int32)) w_1) [(.ref r1), (.int ((1 : Int32) - (1 : Int32))), (.int (0 : Int32)), (.ref r1), (.ref w_1), (.ref r0)]) _
    refine X18.arraylength hx (by rw [e18]; exact Ar19.1) (State.isArrayOf_alike hZ.alike Ar19.2.1) (g := (mkF m 13 (lt14 r0 r1 (0 : Int32) ((1 : Int32) - (1 : Int32)) w_1) [(.ref r1), (.int ((1 : Int32) - (1 : Int32))), (.int (0 : Int32)), (.ref r1), (.ref w_1), (.ref r0)])) rfl rfl (hb hby d4_13) _ ?_
    rw [len_of Sa19 Ma19]
    show Sp p e below T18 (mkF m 14 (lt14 r0 r1 (0 : Int32) ((1 : Int32) - (1 : Int32)) w_1) [(.int (1 : Int32)), (.int ((1 : Int32) - (1 : Int32))), (.int (0 : Int32)), (.ref r1), (.ref w_1), (.ref r0)]) _
    refine st22 _ ?_
    show Sp p e below T22 (mkF m 17 (lt14 r0 r1 (0 : Int32) ((1 : Int32) - (1 : Int32)) w_1) [(.int (0 : Int32)), (.ref r1), (.ref w_1), (.ref r0)]) _
    refine XS.iloadN X22.here hx rfl (hb hby d4_17) rfl ?_
    show Sp p e below T22 (mkF m 18 (lt14 r0 r1 (0 : Int32) ((1 : Int32) - (1 : Int32)) w_1) [(.int ((1 : Int32) - (1 : Int32))), (.int (0 : Int32)), (.ref r1), (.ref w_1), (.ref r0)]) _
    exact kt
  obtain ⟨_, _, ⟨T37, L37, k37, n37⟩, -, X37, hSi, -, ⟨Lc37, hQ37, l37, y37, z37⟩, st37⟩ := own_specialSH X22 hx (y := Y21) rfl hown (mvT hZ (hw _ (tk 34 rfl))) (mvT hZ (hw _ (tk 35 rfl))) (mvT hZ (hw _ (tk 37 rfl))) (by decide) (own_backSZH (W := 0) (rm8x1 l Z a0 hw hv wS hEL [] w_1 w_2 w_4 w_5 hS0 r0 r1 k_r1 x_r1_0 h0 n0 O0 g_r0 g_r1 E_r0 F_coder_r0 F_value_r0 V_r1 ne_r0_r1) hZ (hw _ (tk 37 rfl)) (hw _ (tk 14 rfl)) (by decide) (by decide) hEL hC) (g := (mkF m 18 (lt14 r0 r1 (0 : Int32) ((1 : Int32) - (1 : Int32)) w_1) [(.int ((1 : Int32) - (1 : Int32))), (.int (0 : Int32)), (.ref r1), (.ref w_1), (.ref r0)])) rfl (by rw [hml]; rfl) (Steps.refl _) (a := r0) (argsL := [(.ref w_1), (.ref r1), (.int (0 : Int32)), (.int ((1 : Int32) - (1 : Int32)))]) (rest := []) (lenOf pd_5 rfl) rfl (by show 2 * 0 + _ ≤ _; exact Nat.le_of_eq rfl) (hb hby d4_18) (fun _ _ => ⟨rfl, e22, (by decide : 0 + 2 ≤ _), (by decide : 0 + 4 ≤ _)⟩)
  dsimp only [Pt.U, Pt.locs, Pt.cells, Pt.slots] at X37 l37 y37 z37 st37 hQ37
  subst l37 y37 z37
  have hki := Nat.le_refl T37.heap.size
  have hZ : Z.Warmed39 (s.setVm T37.vm).vm := State.Warmed39.trans hZ hSi.1
  have hown : (s.setVm T37.vm).vm.findClass "java/lang/String" = some m.cls := by rw [show (s.setVm T37.vm).vm = T37.vm from rfl, hSi.1.alike.findClass]; exact hown
  obtain ⟨b39, k40, rv37, N37q, O37, K37c, Fe37_0, Fe37_1, Fx37_0, Fx37_1, Fx37_2⟩ := hQ37
  subst rv37
  have N37 := Fr.app N22 N37q
  have K37 : Keep h0 T37.heap [r0] := (Keep.refl h0 [r0]).trans K37c (allS (Or.inl (List.mem_of_getElem? (i := 0) rfl)) all0)
  obtain ⟨fs, hr, hrun, hended, hRW⟩ := leaveW (s := s) (vm₁ := T37.vm) X37 hSi (n := _) (hki) (v := none) (fun _ => rfl)
  refine ⟨_, _, pre38 _ ?_, hrun, hended, _, _, rfl, ?_, hRW.1, hRW.2.1, hRW.2.2.1, hRW.2.2.2.mono (by decide) (by decide)⟩
  · refine st37.trans ?_
    show Sp p e below T37 (mkF m 21 (lt14 r0 r1 (0 : Int32) ((1 : Int32) - (1 : Int32)) w_1) []) _
    exact X37.returnOut hx Bd.returns (hb hby d4_21) hr
  · show Q4x1 Z w_1 w_2 w_4 w_5 r0 r1 k_r1 x_r1_0 h0 n0 _ T37.heap _
    exact ⟨b39, k40, rfl, N37, O37, K37, Fe37_0, Fe37_1, trivial, Fx37_1, Fx37_2⟩
theorem pn_3x1 : plainName "com/example/bristlecone/bristlecone/io/HttpLine" = true := by first | (simp [plainName, overriddenIn]; done) | decide +kernel
theorem ef_3x1 (m : MethodId) (r0 : Addr) : entryFrame m #[(.ref r0)] 2 = mkF m 0 #[.val (.ref r0), .unset] [] := by first | (simp [entryFrame, mkF, argsToLocals, Value.category]; done) | rfl
def Q3x1 (Z : State) (w_1 : Addr) (w_2 : Addr) (w_4 : Int32) (w_5 : Value) (r0 : Addr) (k_r0 : ClassId) (x_r0_0 : Int32) (h0 : Heap) (n0 : Nat) (v : Option Value) (h : Heap) (L : List Loc) : Prop := ∃ (b15 : Addr) (b44 : Addr) (k45 : ClassId), v = some (.ref b15) ∧ Fr n0 L ∧ Old Z n0 h ∧ Keep h0 h [] ∧ n0 ≤ b15 ∧ h0.size ≤ b15 ∧ Exa Z h b15 "java/lang/String" ∧ Fld Z h b15 "java/lang/String" "value" "[B" (.ref b44) ∧ Fld Z h b15 "java/lang/String" "coder" "B" (.int (0 : Int32)) ∧ True ∧ Arv Z h b44 k45 .byte (0 : Int32) [] (.int (0 : Int32)) ∧ b15 ≠ b44
set_option maxRecDepth 65536 in
set_option maxHeartbeats 40000000 in
theorem rm3x1 (l : Launch) (Z : State) (a0 : Array Value) (hw : ∀ d ∈ tables_1, d.before a0 Z = true) (hv : ∀ d ∈ jdkStatics_1, d.before a0 Z = true) (wS : ∀ d ∈ Bundle.stringAtoms, d.before a0 Z = true) (hEL : EW Z a0 EL1) (ws : List Jvm.Cond) (w_1 : Addr) (w_2 : Addr) (w_4 : Int32) (w_5 : Value) (hS : StF Z w_1 w_2 w_4 w_5) (r0 : Addr) (k_r0 : ClassId) (x_r0_0 : Int32) (h0 : Heap) (n0 : Nat) (O0 : Old Z n0 h0) (g_r0 : n0 ≤ r0) (V_r0 : Arv Z h0 r0 k_r0 .byte (1 : Int32) [(.int x_r0_0)] (.int (0 : Int32))) :
    MetFree l Y23 (head1 (Jvm.Cond.code Y23 prog_8_method_4_code 2 (some (.object "java/lang/String")) :: ws) ({ frames := 3, cells := 3, slots := 8, locals := 51 } : Room)) (fun a U => a = #[(.ref r0)] ∧ Z.Warmed39 U.vm ∧ U.heap = h0 ∧ CHv Z EL1 U.vm Z.heap) (fun _ _ _ _ _ => True) (fun _ U o U' => ∃ v L, o = .returned v ∧ Q3x1 Z w_1 w_2 w_4 w_5 r0 k_r0 x_r0_0 h0 n0 v U'.heap L ∧ ReturnedEndW U o U' L ({ frames := 3, cells := 3, slots := 8, locals := 51 } : Room).cells ({ frames := 3, cells := 3, slots := 8, locals := 51 } : Room).slots) := by
  refine MetFree.of_bodySF (plainFor_of_name pn_3x1) hisR ?_
  intro p e s m args below meth c s₁ Bd hml0 hP hK
  obtain ⟨rfl, hZ, hh, hC⟩ := hP
  have hx := Bd.exec
  have hby := Bd.bytes
  have hml : c.maxLocals = 2 := hml0
  have hown : s.vm.findClass "com/example/bristlecone/bristlecone/io/HttpLine" = some m.cls := findClass_of_methodNamed Bd.named
  have hnm := (name_of_methodNamed Bd.named Bd.method).1
  have X0 : Stand p l e ({ frames := 3, cells := 3, slots := 8, locals := 51 } : Room) s m #[(.ref r0)] below meth c s₁ [] 0 0 := Stand.of_body Bd
  have e0 : s₁.heap = h0 := by rw [← hh, Bd.state]; rfl
  have N0 := Fr.nil n0
  have hS0 := hS
  obtain ⟨S_1, E_1, S_2, E_2, S_3, E_3, S_4, NE_4, S_5, IR_5⟩ := hS
  have pre0 : ∀ t, Steps p.tables e below (s₁.setTop (mkF m 0 #[.val (.ref r0), .unset] [])) t → Steps p.tables e below (s₁.setTop (entryFrame m #[(.ref r0)] 2)) t := fun t k => castTop (ef_3x1 m r0) k
  generalize hE0 : s₁.setTop (entryFrame m #[(.ref r0)] 2) = E0 at pre0 ⊢
  obtain ⟨cl14, Ar14, qa14, Sa14, Ma14, Ha14, Ga14⟩ := id V_r0
  obtain ⟨T15, h15, X15, e15, E15, A15, D15, -, st15⟩ := newO X0 hx hZ hown (hw _ (tk 12 rfl)) (hw _ (tk 13 rfl)) (hw _ (tk 14 rfl)) e0 (g := (mkF m 22 (lt13 r0 ((1 : Int32) - (1 : Int32))) [])) rfl (hb hby d3_22) (by decide) (by decide)
  obtain ⟨b15, g15⟩ : ∃ z, z = h0.size := ⟨_, rfl⟩
  rw [← g15] at A15 D15 st15
  have g_b15 : n0 ≤ b15 := Nat.le_trans (own_old O0) (Nat.le_of_eq g15.symm)
  have sz_b15 : h0.size ≤ b15 := Nat.le_trans (Keep.refl h0 []).1 (Nat.le_of_eq g15.symm)
  have ne_r0_b15 : r0 ≠ b15 := Nat.ne_of_lt (Nat.lt_of_lt_of_le V_r0.lt (Nat.le_of_eq g15.symm))
  have O15 : Old Z n0 h15 := O0.ext E15
  have K15 : Keep h0 h15 [] := (Keep.refl h0 []).ext E15
  have F_value_b15 : Fld Z h15 b15 "java/lang/String" "value" "[B" .null := D15 (Or.inr (hw _ (tk 42 rfl))) (ty := (.array .byte)) (by decide)
  have F_coder_b15 : Fld Z h15 b15 "java/lang/String" "coder" "B" (.int (0 : Int32)) := D15 (Or.inr (hw _ (tk 43 rfl))) (ty := .byte) (by decide)
  obtain ⟨T16, X16, e16, st16⟩ := getS2 X15 hx hZ hown (host := "") (Or.inl (hw _ (tk 15 rfl))) Via.refl e15 (S_1.ext O15.2) (g := (mkF m 29 (lt13 r0 ((1 : Int32) - (1 : Int32))) [(.int ((1 : Int32) - (1 : Int32))), (.int (0 : Int32)), (.ref r0), (.ref b15), (.ref b15)])) rfl (hb hby d3_29)
  have c41 := (V_r0.ext E15)
  have pre43 : Cm p e below E0 (T16.setTop (mkF m 32 (lt13 r0 ((1 : Int32) - (1 : Int32))) [(.ref w_1), (.int ((1 : Int32) - (1 : Int32))), (.int (0 : Int32)), (.ref r0), (.ref b15), (.ref b15)])) := fun t kt => by
    refine pre0 t ?_
    show Sp p e below s₁ (mkF m 0 (lt12 r0) []) _
    refine XS.aloadN X0.here hx rfl (hb hby d3_0) rfl rfl ?_
    show Sp p e below s₁ (mkF m 1 (lt12 r0) [(.ref r0)]) _
    refine X0.arraylength hx (by rw [e0]; exact Ar14.1) (State.isArrayOf_alike hZ.alike Ar14.2.1) (g := (mkF m 1 (lt12 r0) [(.ref r0)])) rfl rfl (hb hby d3_1) _ ?_
    rw [len_of Sa14 Ma14]
    show Sp p e below s₁ (mkF m 2 (lt12 r0) [(.int (1 : Int32))]) _
    refine XS.iconst X0.here hx rfl (hb hby d3_2) ?_
    refine XS.isub X0.here hx rfl (hb hby d3_3) rfl ?_
    show Sp p e below s₁ (mkF m 4 (lt12 r0) [(.int ((1 : Int32) - (1 : Int32)))]) _
    refine XS.istoreN X0.here hx rfl (hb hby d3_4) rfl (l' := (lt13 r0 ((1 : Int32) - (1 : Int32)))) rfl ?_
    refine XS.iloadN X0.here hx rfl (hb hby d3_5) rfl ?_
    show Sp p e below s₁ (mkF m 6 (lt13 r0 ((1 : Int32) - (1 : Int32))) [(.int ((1 : Int32) - (1 : Int32)))]) _
    refine XS.ifYes X0.here hx rfl (pc0 := 6) (pc' := 22) rfl (hb hby d3_6) rfl ((if0 _ _).trans (flt (by decide : ¬ ((0 : Int32) < ((1 : Int32) - (1 : Int32))))).2.2.2) (by decide) (by decide) ?_
    show Sp p e below s₁ (mkF m 22 (lt13 r0 ((1 : Int32) - (1 : Int32))) []) _
    refine st15 _ ?_
    show Sp p e below T15 (mkF m 25 (lt13 r0 ((1 : Int32) - (1 : Int32))) [(.ref b15)]) _
    refine XS.dup X15.here hx rfl (hb hby d3_25) rfl rfl ?_
    refine XS.aloadN X15.here hx rfl (hb hby d3_26) rfl rfl ?_
    show Sp p e below T15 (mkF m 27 (lt13 r0 ((1 : Int32) - (1 : Int32))) [(.ref r0), (.ref b15), (.ref b15)]) _
    refine XS.iconst X15.here hx rfl (hb hby d3_27) ?_
    refine XS.iloadN X15.here hx rfl (hb hby d3_28) rfl ?_
    show Sp p e below T15 (mkF m 29 (lt13 r0 ((1 : Int32) - (1 : Int32))) [(.int ((1 : Int32) - (1 : Int32))), (.int (0 : Int32)), (.ref r0), (.ref b15), (.ref b15)]) _
    refine st16 _ ?_
    show Sp p e below T16 (mkF m 32 (lt13 r0 ((1 : Int32) - (1 : Int32))) [(.ref w_1), (.int ((1 : Int32) - (1 : Int32))), (.int (0 : Int32)), (.ref r0), (.ref b15), (.ref b15)]) _
    exact kt
  obtain ⟨_, _, ⟨T42, L42, k42, n42⟩, -, X42, hSi, -, ⟨Lc42, hQ42, l42, y42, z42⟩, st42⟩ := X16.specialBackS hx (y := Y22) rfl hown (mvT hZ (hw _ (tk 17 rfl))) (mvT hZ (hw _ (tk 18 rfl))) (mvT hZ (hw _ (tk 19 rfl))) (by decide) (own_backSZ (W := 1) (rm4x1 l Z a0 hw hv wS hEL [] w_1 w_2 w_4 w_5 hS0 b15 r0 k_r0 x_r0_0 h15 n0 O15 g_b15 g_r0 A15 F_coder_b15 F_value_b15 c41 (Ne.symm ne_r0_b15)) hZ (hw _ (tk 19 rfl)) (hw _ (tk 14 rfl)) (by decide) (by decide) hEL hC) (g := (mkF m 32 (lt13 r0 ((1 : Int32) - (1 : Int32))) [(.ref w_1), (.int ((1 : Int32) - (1 : Int32))), (.int (0 : Int32)), (.ref r0), (.ref b15), (.ref b15)])) rfl (by rw [hml]; rfl) (Steps.refl _) (a := b15) (argsL := [(.ref r0), (.int (0 : Int32)), (.int ((1 : Int32) - (1 : Int32))), (.ref w_1)]) (rest := [(.ref b15)]) (lenOf pd_6 rfl) rfl (by show 2 * 0 + _ ≤ _; exact Nat.le_of_eq rfl) (hb hby d3_32) (fun _ _ => ⟨rfl, e16, (by decide : 1 + 2 ≤ _), (by decide : 4 + 4 ≤ _)⟩)
  dsimp only [Pt.U, Pt.locs, Pt.cells, Pt.slots] at X42 l42 y42 z42 st42 hQ42
  subst l42 y42 z42
  have hki := Nat.le_refl T42.heap.size
  have hZ : Z.Warmed39 (s.setVm T42.vm).vm := State.Warmed39.trans hZ hSi.1
  have hown : (s.setVm T42.vm).vm.findClass "com/example/bristlecone/bristlecone/io/HttpLine" = some m.cls := by rw [show (s.setVm T42.vm).vm = T42.vm from rfl, hSi.1.alike.findClass]; exact hown
  obtain ⟨b44, k45, rv42, N42q, O42, K42c, Fe42_0, Fe42_1, Fx42_0, Fx42_1, Fx42_2⟩ := hQ42
  subst rv42
  have N42 := Fr.app N0 N42q
  have K42 : Keep h0 T42.heap [] := K15.trans K42c (allS (Or.inr sz_b15) all0)
  obtain ⟨fs, hr, hrun, hended, hRW⟩ := leaveW (s := s) (vm₁ := T42.vm) X42 hSi (n := _) (hki) (v := some (.ref b15)) (fun h => by rw [Bd.returns] at h; cases h)
  have c46 := (A15.keep K42c)
  refine ⟨_, _, pre43 _ ?_, hrun, hended, _, _, rfl, ?_, hRW.1, hRW.2.1, hRW.2.2.1, hRW.2.2.2.mono (by decide) (by decide)⟩
  · refine st42.trans ?_
    show Sp p e below T42 (mkF m 35 (lt13 r0 ((1 : Int32) - (1 : Int32))) [(.ref b15)]) _
    jvm_step X42.here [X42.here.top, hx, (hb hby d3_35), X42.method', Bd.returns, Value.isRef, FieldType.isReference]
    first | (intro acts; rw [hr _ acts rfl rfl rfl]) | rw [hr _ _ rfl rfl rfl]
    exact Steps.refl _
  · show Q3x1 Z w_1 w_2 w_4 w_5 r0 k_r0 x_r0_0 h0 n0 _ T42.heap _
    exact ⟨b15, b44, k45, rfl, N42, O42, K42, g_b15, sz_b15, c46, Fe42_1, Fe42_0, trivial, Fx42_2, (Ne.symm Fx42_1)⟩
theorem pn_10x1 : plainName "java/lang/String" = true := by first | (simp [plainName, overriddenIn]; done) | decide +kernel
theorem ef_10x1 (m : MethodId) (r0 : Addr) : entryFrame m #[(.ref r0)] 1 = mkF m 0 #[.val (.ref r0)] [] := by first | (simp [entryFrame, mkF, argsToLocals, Value.category]; done) | rfl
def sp10x1  : Int32 := (1 : Int32)
def Q10x1 (Z : State) (w_1 : Addr) (w_2 : Addr) (w_4 : Int32) (w_5 : Value) (r0 : Addr) (r0_f1 : Addr) (k_r0_f1 : ClassId) (h0 : Heap) (n0 : Nat) (v : Option Value) (h : Heap) (L : List Loc) : Prop := v = some (.int (sp10x1)) ∧ Fr n0 L ∧ h = h0
set_option maxRecDepth 65536 in
set_option maxHeartbeats 40000000 in
theorem rm10x1 (l : Launch) (Z : State) (a0 : Array Value) (hw : ∀ d ∈ tables_1, d.before a0 Z = true) (hv : ∀ d ∈ jdkStatics_1, d.before a0 Z = true) (ws : List Jvm.Cond) (w_1 : Addr) (w_2 : Addr) (w_4 : Int32) (w_5 : Value) (hS : StF Z w_1 w_2 w_4 w_5) (r0 : Addr) (r0_f1 : Addr) (k_r0_f1 : ClassId) (h0 : Heap) (n0 : Nat) (O0 : Old Z n0 h0) (g_r0 : n0 ≤ r0) (E_r0 : Exa Z h0 r0 "java/lang/String") (F_value_r0 : Fld Z h0 r0 "java/lang/String" "value" "[B" (.ref r0_f1)) (V_r0_f1 : Arv Z h0 r0_f1 k_r0_f1 .byte (0 : Int32) [] (.int (0 : Int32))) (ne_r0_r0_f1 : r0 ≠ r0_f1) :
    MetFree l Y24 (head1 (Jvm.Cond.code Y24 jdk_42_method_55_code 1 (some .boolean) :: ws) ({ frames := 0, cells := 0, slots := 0, locals := 0 } : Room)) (fun a U => a = #[(.ref r0)] ∧ Z.Warmed39 U.vm ∧ U.heap = h0) (fun _ _ _ _ _ => True) (fun _ U o U' => ∃ v L, o = .returned v ∧ Q10x1 Z w_1 w_2 w_4 w_5 r0 r0_f1 k_r0_f1 h0 n0 v U'.heap L ∧ FrameEnd U o U' L ({ frames := 0, cells := 0, slots := 0, locals := 0 } : Room).cells ({ frames := 0, cells := 0, slots := 0, locals := 0 } : Room).slots) := by
  refine MetFree.of_bodySF (plainFor_of_name pn_10x1) hisR ?_
  intro p e s m args below meth c s₁ Bd hml0 hP hK
  obtain ⟨rfl, hZ, hh⟩ := hP
  have hx := Bd.exec
  have hby := Bd.bytes
  have hml : c.maxLocals = 1 := hml0
  have hown : s.vm.findClass "java/lang/String" = some m.cls := findClass_of_methodNamed Bd.named
  have hnm := (name_of_methodNamed Bd.named Bd.method).1
  have X0 : Stand p l e ({ frames := 0, cells := 0, slots := 0, locals := 0 } : Room) s m #[(.ref r0)] below meth c s₁ [] 0 0 := Stand.of_body Bd
  have e0 : s₁.heap = h0 := by rw [← hh, Bd.state]; rfl
  have N0 := Fr.nil n0
  have hS0 := hS
  obtain ⟨S_1, E_1, S_2, E_2, S_3, E_3, S_4, NE_4, S_5, IR_5⟩ := hS
  have pre0 : ∀ t, Steps p.tables e below (s₁.setTop (mkF m 0 #[.val (.ref r0)] [])) t → Steps p.tables e below (s₁.setTop (entryFrame m #[(.ref r0)] 1)) t := fun t k => castTop (ef_10x1 m r0) k
  generalize hE0 : s₁.setTop (entryFrame m #[(.ref r0)] 1) = E0 at pre0 ⊢
  obtain ⟨T52, X52, e52, st52⟩ := getF X0 hx hZ hown (host := "") (Or.inl (hw _ (tk 46 rfl))) Via.refl e0 F_value_r0 (g := (mkF m 1 (lt10 r0) [(.ref r0)])) rfl rfl (hb hby d10_1)
  obtain ⟨cl53, Ar53, qa53, Sa53, Ma53, Ha53, Ga53⟩ := id V_r0_f1
  obtain ⟨fs, hr, hrun, hended, hW, hsame⟩ := X52.leave (v := some (.int (1 : Int32))) (fun h => by rw [Bd.returns] at h; cases h)
  refine ⟨_, _, pre0 _ ?_, hrun, hended, _, _, rfl, ?_, ⟨_, rfl⟩, hW, hsame.mono (by decide) (by decide)⟩
  · show Sp p e below s₁ (mkF m 0 (lt10 r0) []) _
    refine XS.aloadN X0.here hx rfl (hb hby d10_0) rfl rfl ?_
    show Sp p e below s₁ (mkF m 1 (lt10 r0) [(.ref r0)]) _
    refine st52 _ ?_
    show Sp p e below T52 (mkF m 4 (lt10 r0) [(.ref r0_f1)]) _
    refine X52.arraylength hx (by rw [e52]; exact Ar53.1) (State.isArrayOf_alike hZ.alike Ar53.2.1) (g := (mkF m 4 (lt10 r0) [(.ref r0_f1)])) rfl rfl (hb hby d10_4) _ ?_
    rw [len_of Sa53 Ma53]
    show Sp p e below T52 (mkF m 5 (lt10 r0) [(.int (0 : Int32))]) _
    refine XS.ifNo X52.here hx rfl (hb hby d10_5) rfl ((if0 _ _).trans (teq (by decide : ((0 : Int32) = (0 : Int32)))).2) ?_
    show Sp p e below T52 (mkF m 8 (lt10 r0) []) _
    refine XS.iconst X52.here hx rfl (hb hby d10_8) ?_
    show Sp p e below T52 (mkF m 9 (lt10 r0) [(.int (1 : Int32))]) _
    refine XS.goto X52.here hx rfl (pc0 := 9) (pc' := 13) rfl (hb hby d10_9) (by decide) (by decide) ?_
    show Sp p e below T52 (mkF m 13 (lt10 r0) [(.int (1 : Int32))]) _
    exact retN X52 hx (t := .boolean) Bd.returns (by simp) (hb hby d10_13) hr
  · show Q10x1 Z w_1 w_2 w_4 w_5 r0 r0_f1 k_r0_f1 h0 n0 _ T52.heap _
    rw [e52]
    exact ⟨by unfold sp10x1; rfl, N0, rfl⟩
theorem pn_2x2 : plainName "com/example/bristlecone/bristlecone/io/HttpLine" = true := by first | (simp [plainName, overriddenIn]; done) | decide +kernel
theorem ef_2x2 (m : MethodId) (r0 : Addr) : entryFrame m #[(.ref r0)] 1 = mkF m 0 #[.val (.ref r0)] [] := by first | (simp [entryFrame, mkF, argsToLocals, Value.category]; done) | rfl
def sp2x2 (x_r0_0 : Int32) : Int32 := (if x_r0_0 = (13 : Int32) then (1 : Int32) else (0 : Int32))
def Q2x2 (Z : State) (w_1 : Addr) (w_2 : Addr) (w_4 : Int32) (w_5 : Value) (r0 : Addr) (k_r0 : ClassId) (x_r0_0 : Int32) (x_r0_1 : Int32) (h0 : Heap) (n0 : Nat) (v : Option Value) (h : Heap) (L : List Loc) : Prop := v = some (.int (sp2x2 x_r0_0)) ∧ Fr n0 L ∧ h = h0
set_option maxRecDepth 65536 in
set_option maxHeartbeats 40000000 in
theorem rm2x2 (l : Launch) (Z : State) (a0 : Array Value) (hw : ∀ d ∈ tables_1, d.before a0 Z = true) (hv : ∀ d ∈ jdkStatics_1, d.before a0 Z = true) (ws : List Jvm.Cond) (w_1 : Addr) (w_2 : Addr) (w_4 : Int32) (w_5 : Value) (hS : StF Z w_1 w_2 w_4 w_5) (r0 : Addr) (k_r0 : ClassId) (x_r0_0 : Int32) (x_r0_1 : Int32) (h0 : Heap) (n0 : Nat) (O0 : Old Z n0 h0) (g_r0 : n0 ≤ r0) (V_r0 : Arv Z h0 r0 k_r0 .byte (2 : Int32) [(.int x_r0_0), (.int x_r0_1)] (.int (0 : Int32))) :
    MetFree l Y11 (head1 (Jvm.Cond.code Y11 prog_8_method_3_code 1 (some .boolean) :: ws) ({ frames := 0, cells := 0, slots := 0, locals := 0 } : Room)) (fun a U => a = #[(.ref r0)] ∧ Z.Warmed39 U.vm ∧ U.heap = h0) (fun _ _ _ _ _ => True) (fun _ U o U' => ∃ v L, o = .returned v ∧ Q2x2 Z w_1 w_2 w_4 w_5 r0 k_r0 x_r0_0 x_r0_1 h0 n0 v U'.heap L ∧ FrameEnd U o U' L ({ frames := 0, cells := 0, slots := 0, locals := 0 } : Room).cells ({ frames := 0, cells := 0, slots := 0, locals := 0 } : Room).slots) := by
  refine MetFree.of_bodySF (plainFor_of_name pn_2x2) hisR ?_
  intro p e s m args below meth c s₁ Bd hml0 hP hK
  obtain ⟨rfl, hZ, hh⟩ := hP
  have hx := Bd.exec
  have hby := Bd.bytes
  have hml : c.maxLocals = 1 := hml0
  have hown : s.vm.findClass "com/example/bristlecone/bristlecone/io/HttpLine" = some m.cls := findClass_of_methodNamed Bd.named
  have hnm := (name_of_methodNamed Bd.named Bd.method).1
  have X0 : Stand p l e ({ frames := 0, cells := 0, slots := 0, locals := 0 } : Room) s m #[(.ref r0)] below meth c s₁ [] 0 0 := Stand.of_body Bd
  have e0 : s₁.heap = h0 := by rw [← hh, Bd.state]; rfl
  have N0 := Fr.nil n0
  have hS0 := hS
  obtain ⟨S_1, E_1, S_2, E_2, S_3, E_3, S_4, NE_4, S_5, IR_5⟩ := hS
  have pre0 : ∀ t, Steps p.tables e below (s₁.setTop (mkF m 0 #[.val (.ref r0)] [])) t → Steps p.tables e below (s₁.setTop (entryFrame m #[(.ref r0)] 1)) t := fun t k => castTop (ef_2x2 m r0) k
  generalize hE0 : s₁.setTop (entryFrame m #[(.ref r0)] 1) = E0 at pre0 ⊢
  obtain ⟨cl69, Ar69, qa69, Sa69, Ma69, Ha69, Ga69⟩ := id V_r0
  obtain ⟨cl70, Ar70, qa70, Sa70, Ma70, Ha70, Ga70⟩ := id V_r0
  obtain ⟨cl71, Ar71, qa71, Sa71, Ma71, Ha71, Ga71⟩ := id V_r0
  have hin71 : ¬ ((0 : Int32) < 0 ∨ cl71.slots.size ≤ ((0 : Int32)).toNatClampNeg) := by  exact inb_of Sa71 ⟨by decide, by decide⟩
  have hat71 : cl71.slots[((0 : Int32)).toNatClampNeg]? = some (.int x_r0_0) := Has.at Ha71 hin71 (by rfl)
  have pre72 : Cm p e below E0 (s₁.setTop (mkF m 17 (lt10 r0) [(.int (13 : Int32)), (.int x_r0_0)])) := fun t kt => by
    refine pre0 t ?_
    show Sp p e below s₁ (mkF m 0 (lt10 r0) []) _
    refine XS.aloadN X0.here hx rfl (hb hby d2_0) rfl rfl ?_
    show Sp p e below s₁ (mkF m 1 (lt10 r0) [(.ref r0)]) _
    refine X0.arraylength hx (by rw [e0]; exact Ar69.1) (State.isArrayOf_alike hZ.alike Ar69.2.1) (g := (mkF m 1 (lt10 r0) [(.ref r0)])) rfl rfl (hb hby d2_1) _ ?_
    rw [len_of Sa69 Ma69]
    show Sp p e below s₁ (mkF m 2 (lt10 r0) [(.int (2 : Int32))]) _
    refine XS.iconst X0.here hx rfl (hb hby d2_2) ?_
    show Sp p e below s₁ (mkF m 3 (lt10 r0) [(.int (1 : Int32)), (.int (2 : Int32))]) _
    refine XS.icmpNo X0.here hx rfl (hb hby d2_3) rfl (feq (by decide : ¬ ((2 : Int32) = (1 : Int32)))).1 ?_
    show Sp p e below s₁ (mkF m 6 (lt10 r0) []) _
    refine XS.aloadN X0.here hx rfl (hb hby d2_6) rfl rfl ?_
    show Sp p e below s₁ (mkF m 7 (lt10 r0) [(.ref r0)]) _
    refine X0.arraylength hx (by rw [e0]; exact Ar70.1) (State.isArrayOf_alike hZ.alike Ar70.2.1) (g := (mkF m 7 (lt10 r0) [(.ref r0)])) rfl rfl (hb hby d2_7) _ ?_
    rw [len_of Sa70 Ma70]
    show Sp p e below s₁ (mkF m 8 (lt10 r0) [(.int (2 : Int32))]) _
    refine XS.iconst X0.here hx rfl (hb hby d2_8) ?_
    show Sp p e below s₁ (mkF m 9 (lt10 r0) [(.int (2 : Int32)), (.int (2 : Int32))]) _
    refine XS.icmpNo X0.here hx rfl (hb hby d2_9) rfl (teq (by decide : ((2 : Int32) = (2 : Int32)))).2 ?_
    show Sp p e below s₁ (mkF m 12 (lt10 r0) []) _
    refine XS.aloadN X0.here hx rfl (hb hby d2_12) rfl rfl ?_
    refine XS.iconst X0.here hx rfl (hb hby d2_13) ?_
    show Sp p e below s₁ (mkF m 14 (lt10 r0) [(.int (0 : Int32)), (.ref r0)]) _
    refine X0.baloadBytes hx (j := (0 : Int32)) (v := (.int x_r0_0)) (by rw [e0]; exact Ar71.1) (State.isArrayOf_alike hZ.alike Ar71.2.1) Ar71.2.2 hin71 hat71 (g := (mkF m 14 (lt10 r0) [(.int (0 : Int32)), (.ref r0)])) rfl rfl (hb hby d2_14) _ ?_
    show Sp p e below s₁ (mkF m 15 (lt10 r0) [(.int x_r0_0)]) _
    refine XS.bipush X0.here hx rfl (hb hby d2_15) ?_
    show Sp p e below s₁ (mkF m 17 (lt10 r0) [(.int (13 : Int32)), (.int x_r0_0)]) _
    exact kt
  by_cases hc73 : x_r0_0 = (13 : Int32)
  · obtain ⟨fs, hr, hrun, hended, hW, hsame⟩ := X0.leave (v := some (.int (1 : Int32))) (fun h => by rw [Bd.returns] at h; cases h)
    refine ⟨_, _, pre72 _ ?_, hrun, hended, _, _, rfl, ?_, ⟨_, rfl⟩, hW, hsame.mono (by decide) (by decide)⟩
    · show Sp p e below s₁ (mkF m 17 (lt10 r0) [(.int (13 : Int32)), (.int x_r0_0)]) _
      refine XS.icmpNo X0.here hx rfl (hb hby d2_17) rfl (teq hc73).2 ?_
      show Sp p e below s₁ (mkF m 20 (lt10 r0) []) _
      refine XS.iconst X0.here hx rfl (hb hby d2_20) ?_
      show Sp p e below s₁ (mkF m 21 (lt10 r0) [(.int (1 : Int32))]) _
      refine XS.goto X0.here hx rfl (pc0 := 21) (pc' := 25) rfl (hb hby d2_21) (by decide) (by decide) ?_
      show Sp p e below s₁ (mkF m 25 (lt10 r0) [(.int (1 : Int32))]) _
      exact retN X0 hx (t := .boolean) Bd.returns (by simp) (hb hby d2_25) hr
    · show Q2x2 Z w_1 w_2 w_4 w_5 r0 k_r0 x_r0_0 x_r0_1 h0 n0 _ s₁.heap _
      rw [e0]
      exact ⟨by unfold sp2x2; rw [if_pos hc73], N0, rfl⟩
  · obtain ⟨fs, hr, hrun, hended, hW, hsame⟩ := X0.leave (v := some (.int (0 : Int32))) (fun h => by rw [Bd.returns] at h; cases h)
    refine ⟨_, _, pre72 _ ?_, hrun, hended, _, _, rfl, ?_, ⟨_, rfl⟩, hW, hsame.mono (by decide) (by decide)⟩
    · show Sp p e below s₁ (mkF m 17 (lt10 r0) [(.int (13 : Int32)), (.int x_r0_0)]) _
      refine XS.icmpYes X0.here hx rfl (pc0 := 17) (pc' := 24) rfl (hb hby d2_17) rfl (feq hc73).2 (by decide) (by decide) ?_
      show Sp p e below s₁ (mkF m 24 (lt10 r0) []) _
      refine XS.iconst X0.here hx rfl (hb hby d2_24) ?_
      show Sp p e below s₁ (mkF m 25 (lt10 r0) [(.int (0 : Int32))]) _
      exact retN X0 hx (t := .boolean) Bd.returns (by simp) (hb hby d2_25) hr
    · show Q2x2 Z w_1 w_2 w_4 w_5 r0 k_r0 x_r0_0 x_r0_1 h0 n0 _ s₁.heap _
      rw [e0]
      exact ⟨by unfold sp2x2; rw [if_neg hc73], N0, rfl⟩
theorem pn_7u3x2 : plainName "jdk/internal/util/Preconditions" = true := by first | (simp [plainName, overriddenIn]; done) | decide +kernel
theorem ef_7u3x2 (m : MethodId) (u3 : Value) (i_u3 : u3.isRef = true) : entryFrame m #[(.int (0 : Int32)), (.int (((2 : Int32) - (1 : Int32)) + (-1 : Int32))), (.int (2 : Int32)), u3] 4 = mkF m 0 #[.val (.int (0 : Int32)), .val (.int (((2 : Int32) - (1 : Int32)) + (-1 : Int32))), .val (.int (2 : Int32)), .val u3] [] := by rcases ref_cases i_u3 with rfl | ⟨z_u3, rfl⟩ <;> first | (simp [entryFrame, mkF, argsToLocals, Value.category]; done) | rfl
def Q7u3x2 (Z : State) (w_1 : Addr) (w_2 : Addr) (w_4 : Int32) (w_5 : Value) (u3 : Value) (h0 : Heap) (n0 : Nat) (v : Option Value) (h : Heap) (L : List Loc) : Prop := v = some (.int (0 : Int32)) ∧ Fr n0 L ∧ h = h0
set_option maxRecDepth 65536 in
set_option maxHeartbeats 40000000 in
theorem rm7u3x2 (l : Launch) (Z : State) (a0 : Array Value) (hw : ∀ d ∈ tables_1, d.before a0 Z = true) (hv : ∀ d ∈ jdkStatics_1, d.before a0 Z = true) (ws : List Jvm.Cond) (w_1 : Addr) (w_2 : Addr) (w_4 : Int32) (w_5 : Value) (hS : StF Z w_1 w_2 w_4 w_5) (u3 : Value) (h0 : Heap) (n0 : Nat) (O0 : Old Z n0 h0) (i_u3 : u3.isRef = true) :
    MetFree l Y18 (head1 (Jvm.Cond.code Y18 jdk_41_method_13_code 4 (some .int) :: ws) ({ frames := 0, cells := 0, slots := 0, locals := 0 } : Room)) (fun a U => a = #[(.int (0 : Int32)), (.int (((2 : Int32) - (1 : Int32)) + (-1 : Int32))), (.int (2 : Int32)), u3] ∧ Z.Warmed39 U.vm ∧ U.heap = h0) (fun _ _ _ _ _ => True) (fun _ U o U' => ∃ v L, o = .returned v ∧ Q7u3x2 Z w_1 w_2 w_4 w_5 u3 h0 n0 v U'.heap L ∧ FrameEnd U o U' L ({ frames := 0, cells := 0, slots := 0, locals := 0 } : Room).cells ({ frames := 0, cells := 0, slots := 0, locals := 0 } : Room).slots) := by
  refine MetFree.of_bodySF (plainFor_of_name pn_7u3x2) hisR ?_
  intro p e s m args below meth c s₁ Bd hml0 hP hK
  obtain ⟨rfl, hZ, hh⟩ := hP
  have hx := Bd.exec
  have hby := Bd.bytes
  have hml : c.maxLocals = 4 := hml0
  have hown : s.vm.findClass "jdk/internal/util/Preconditions" = some m.cls := findClass_of_methodNamed Bd.named
  have hnm := (name_of_methodNamed Bd.named Bd.method).1
  have X0 : Stand p l e ({ frames := 0, cells := 0, slots := 0, locals := 0 } : Room) s m #[(.int (0 : Int32)), (.int (((2 : Int32) - (1 : Int32)) + (-1 : Int32))), (.int (2 : Int32)), u3] below meth c s₁ [] 0 0 := Stand.of_body Bd
  have e0 : s₁.heap = h0 := by rw [← hh, Bd.state]; rfl
  have N0 := Fr.nil n0
  have hS0 := hS
  obtain ⟨S_1, E_1, S_2, E_2, S_3, E_3, S_4, NE_4, S_5, IR_5⟩ := hS
  have pre0 : ∀ t, Steps p.tables e below (s₁.setTop (mkF m 0 #[.val (.int (0 : Int32)), .val (.int (((2 : Int32) - (1 : Int32)) + (-1 : Int32))), .val (.int (2 : Int32)), .val u3] [])) t → Steps p.tables e below (s₁.setTop (entryFrame m #[(.int (0 : Int32)), (.int (((2 : Int32) - (1 : Int32)) + (-1 : Int32))), (.int (2 : Int32)), u3] 4)) t := fun t k => castTop (ef_7u3x2 m u3 i_u3) k
  generalize hE0 : s₁.setTop (entryFrame m #[(.int (0 : Int32)), (.int (((2 : Int32) - (1 : Int32)) + (-1 : Int32))), (.int (2 : Int32)), u3] 4) = E0 at pre0 ⊢
  obtain ⟨fs, hr, hrun, hended, hW, hsame⟩ := X0.leave (v := some (.int (0 : Int32))) (fun h => by rw [Bd.returns] at h; cases h)
  refine ⟨_, _, pre0 _ ?_, hrun, hended, _, _, rfl, ?_, ⟨_, rfl⟩, hW, hsame.mono (by decide) (by decide)⟩
  · show Sp p e below s₁ (mkF m 0 (lt15 (0 : Int32) (((2 : Int32) - (1 : Int32)) + (-1 : Int32)) (2 : Int32) u3) []) _
    refine XS.iloadN X0.here hx rfl (hb hby d7_0) rfl ?_
    refine XS.iloadN X0.here hx rfl (hb hby d7_1) rfl ?_
    show Sp p e below s₁ (mkF m 2 (lt15 (0 : Int32) (((2 : Int32) - (1 : Int32)) + (-1 : Int32)) (2 : Int32) u3) [(.int (0 : Int32)), (.int (2 : Int32))]) _
    refine XS.ior X0.here hx rfl (hb hby d7_2) rfl ?_
    refine XS.iloadN X0.here hx rfl (hb hby d7_3) rfl ?_
    show Sp p e below s₁ (mkF m 4 (lt15 (0 : Int32) (((2 : Int32) - (1 : Int32)) + (-1 : Int32)) (2 : Int32) u3) [(.int (((2 : Int32) - (1 : Int32)) + (-1 : Int32))), (.int ((2 : Int32) ||| (0 : Int32)))]) _
    refine XS.ior X0.here hx rfl (hb hby d7_4) rfl ?_
    show Sp p e below s₁ (mkF m 5 (lt15 (0 : Int32) (((2 : Int32) - (1 : Int32)) + (-1 : Int32)) (2 : Int32) u3) [(.int (((2 : Int32) ||| (0 : Int32)) ||| (((2 : Int32) - (1 : Int32)) + (-1 : Int32))))]) _
    refine XS.ifNo X0.here hx rfl (hb hby d7_5) rfl ((if0 _ _).trans (flt (by decide : ¬ ((((2 : Int32) ||| (0 : Int32)) ||| (((2 : Int32) - (1 : Int32)) + (-1 : Int32))) < (0 : Int32)))).1) ?_
    show Sp p e below s₁ (mkF m 8 (lt15 (0 : Int32) (((2 : Int32) - (1 : Int32)) + (-1 : Int32)) (2 : Int32) u3) []) _
    refine XS.iloadN X0.here hx rfl (hb hby d7_8) rfl ?_
    refine XS.iloadN X0.here hx rfl (hb hby d7_9) rfl ?_
    show Sp p e below s₁ (mkF m 10 (lt15 (0 : Int32) (((2 : Int32) - (1 : Int32)) + (-1 : Int32)) (2 : Int32) u3) [(.int (2 : Int32)), (.int (((2 : Int32) - (1 : Int32)) + (-1 : Int32)))]) _
    refine XS.iloadN X0.here hx rfl (hb hby d7_10) rfl ?_
    refine XS.isub X0.here hx rfl (hb hby d7_11) rfl ?_
    show Sp p e below s₁ (mkF m 12 (lt15 (0 : Int32) (((2 : Int32) - (1 : Int32)) + (-1 : Int32)) (2 : Int32) u3) [(.int ((2 : Int32) - (0 : Int32))), (.int (((2 : Int32) - (1 : Int32)) + (-1 : Int32)))]) _
    refine XS.icmpYes X0.here hx rfl (pc0 := 12) (pc' := 23) rfl (hb hby d7_12) rfl (flt (by decide : ¬ (((2 : Int32) - (0 : Int32)) < (((2 : Int32) - (1 : Int32)) + (-1 : Int32))))).2.2.2 (by decide) (by decide) ?_
    show Sp p e below s₁ (mkF m 23 (lt15 (0 : Int32) (((2 : Int32) - (1 : Int32)) + (-1 : Int32)) (2 : Int32) u3) []) _
    refine XS.iloadN X0.here hx rfl (hb hby d7_23) rfl ?_
    show Sp p e below s₁ (mkF m 24 (lt15 (0 : Int32) (((2 : Int32) - (1 : Int32)) + (-1 : Int32)) (2 : Int32) u3) [(.int (0 : Int32))]) _
    exact retI X0 hx Bd.returns (hb hby d7_24) hr
  · show Q7u3x2 Z w_1 w_2 w_4 w_5 u3 h0 n0 _ s₁.heap _
    rw [e0]
    exact ⟨rfl, N0, rfl⟩
theorem pn_6x2 : plainName "java/lang/String" = true := by first | (simp [plainName, overriddenIn]; done) | decide +kernel
theorem ef_6x2 (m : MethodId)  : entryFrame m #[(.int (0 : Int32)), (.int (((2 : Int32) - (1 : Int32)) + (-1 : Int32))), (.int (2 : Int32))] 3 = mkF m 0 #[.val (.int (0 : Int32)), .val (.int (((2 : Int32) - (1 : Int32)) + (-1 : Int32))), .val (.int (2 : Int32))] [] := by first | (simp [entryFrame, mkF, argsToLocals, Value.category]; done) | rfl
def Q6x2 (Z : State) (w_1 : Addr) (w_2 : Addr) (w_4 : Int32) (w_5 : Value) (h0 : Heap) (n0 : Nat) (v : Option Value) (h : Heap) (L : List Loc) : Prop := v = some (.int (0 : Int32)) ∧ Fr n0 L ∧ h = h0
set_option maxRecDepth 65536 in
set_option maxHeartbeats 40000000 in
theorem rm6x2 (l : Launch) (Z : State) (a0 : Array Value) (hw : ∀ d ∈ tables_1, d.before a0 Z = true) (hv : ∀ d ∈ jdkStatics_1, d.before a0 Z = true) (ws : List Jvm.Cond) (w_1 : Addr) (w_2 : Addr) (w_4 : Int32) (w_5 : Value) (hS : StF Z w_1 w_2 w_4 w_5) (h0 : Heap) (n0 : Nat) (O0 : Old Z n0 h0) :
    MetFree l Y19 (head1 (Jvm.Cond.code Y19 jdk_42_method_157_code 3 (some .int) :: ws) ({ frames := 1, cells := 0, slots := 0, locals := 15 } : Room)) (fun a U => a = #[(.int (0 : Int32)), (.int (((2 : Int32) - (1 : Int32)) + (-1 : Int32))), (.int (2 : Int32))] ∧ Z.Warmed39 U.vm ∧ U.heap = h0) (fun _ _ _ _ _ => True) (fun _ U o U' => ∃ v L, o = .returned v ∧ Q6x2 Z w_1 w_2 w_4 w_5 h0 n0 v U'.heap L ∧ FrameEnd U o U' L ({ frames := 1, cells := 0, slots := 0, locals := 15 } : Room).cells ({ frames := 1, cells := 0, slots := 0, locals := 15 } : Room).slots) := by
  refine MetFree.of_bodySF (plainFor_of_name pn_6x2) hisR ?_
  intro p e s m args below meth c s₁ Bd hml0 hP hK
  obtain ⟨rfl, hZ, hh⟩ := hP
  have hx := Bd.exec
  have hby := Bd.bytes
  have hml : c.maxLocals = 3 := hml0
  have hown : s.vm.findClass "java/lang/String" = some m.cls := findClass_of_methodNamed Bd.named
  have hnm := (name_of_methodNamed Bd.named Bd.method).1
  have X0 : Stand p l e ({ frames := 1, cells := 0, slots := 0, locals := 15 } : Room) s m #[(.int (0 : Int32)), (.int (((2 : Int32) - (1 : Int32)) + (-1 : Int32))), (.int (2 : Int32))] below meth c s₁ [] 0 0 := Stand.of_body Bd
  have e0 : s₁.heap = h0 := by rw [← hh, Bd.state]; rfl
  have N0 := Fr.nil n0
  have hS0 := hS
  obtain ⟨S_1, E_1, S_2, E_2, S_3, E_3, S_4, NE_4, S_5, IR_5⟩ := hS
  have pre0 : ∀ t, Steps p.tables e below (s₁.setTop (mkF m 0 #[.val (.int (0 : Int32)), .val (.int (((2 : Int32) - (1 : Int32)) + (-1 : Int32))), .val (.int (2 : Int32))] [])) t → Steps p.tables e below (s₁.setTop (entryFrame m #[(.int (0 : Int32)), (.int (((2 : Int32) - (1 : Int32)) + (-1 : Int32))), (.int (2 : Int32))] 3)) t := fun t k => castTop (ef_6x2 m ) k
  generalize hE0 : s₁.setTop (entryFrame m #[(.int (0 : Int32)), (.int (((2 : Int32) - (1 : Int32)) + (-1 : Int32))), (.int (2 : Int32))] 3) = E0 at pre0 ⊢
  obtain ⟨T84, X84, e84, st84⟩ := getS2 X0 hx hZ hown (host := "") (Or.inl (hw _ (tk 29 rfl))) Via.refl e0 (S_5.ext O0.2) (g := (mkF m 3 (lt4 (0 : Int32) (((2 : Int32) - (1 : Int32)) + (-1 : Int32)) (2 : Int32)) [(.int (2 : Int32)), (.int (((2 : Int32) - (1 : Int32)) + (-1 : Int32))), (.int (0 : Int32))])) rfl (hb hby d6_3)
  obtain ⟨_, _, ⟨T85, L85, k85, n85⟩, -, X85, ⟨Lc85, hQ85, l85, y85, z85⟩, st85⟩ := Jvm.LawKit.callS X84 hx (y := Y18) hown (mvT hZ (hw _ (tk 31 rfl))) (mvT hZ (hw _ (tk 32 rfl))) (mvT hZ (hw _ (tk 30 rfl))) (mvT hZ (hw _ (tk 33 rfl))) (by decide) (backOf (W := 0) (rm7u3x2 l Z a0 hw hv [] w_1 w_2 w_4 w_5 hS0 w_5 h0 n0 O0 IR_5) hZ (hw _ (tk 33 rfl)) (hw _ (tk 30 rfl)) (by decide) (by decide)) (g := (mkF m 6 (lt4 (0 : Int32) (((2 : Int32) - (1 : Int32)) + (-1 : Int32)) (2 : Int32)) [w_5, (.int (2 : Int32)), (.int (((2 : Int32) - (1 : Int32)) + (-1 : Int32))), (.int (0 : Int32))])) rfl (by rw [hml]; rfl) (argsL := [(.int (0 : Int32)), (.int (((2 : Int32) - (1 : Int32)) + (-1 : Int32))), (.int (2 : Int32)), w_5]) (rest := []) (lenOf pd_3 rfl) rfl (by show 2 * 0 + _ ≤ _; exact Nat.le_of_eq rfl) (hb hby d6_6) (fun _ _ => ⟨rfl, e84, (by decide : 0 + 0 ≤ _), (by decide : 0 + 0 ≤ _)⟩)
  dsimp only [Pt.U, Pt.locs, Pt.cells, Pt.slots] at X85 l85 y85 z85 st85 hQ85
  subst l85 y85 z85
  obtain ⟨rv85, N85q, e85⟩ := hQ85
  subst rv85
  have N85 := Fr.app N0 N85q
  obtain ⟨fs, hr, hrun, hended, hW, hsame⟩ := X85.leave (v := some (.int (0 : Int32))) (fun h => by rw [Bd.returns] at h; cases h)
  refine ⟨_, _, pre0 _ ?_, hrun, hended, _, _, rfl, ?_, ⟨_, rfl⟩, hW, hsame.mono (by decide) (by decide)⟩
  · show Sp p e below s₁ (mkF m 0 (lt4 (0 : Int32) (((2 : Int32) - (1 : Int32)) + (-1 : Int32)) (2 : Int32)) []) _
    refine XS.iloadN X0.here hx rfl (hb hby d6_0) rfl ?_
    refine XS.iloadN X0.here hx rfl (hb hby d6_1) rfl ?_
    show Sp p e below s₁ (mkF m 2 (lt4 (0 : Int32) (((2 : Int32) - (1 : Int32)) + (-1 : Int32)) (2 : Int32)) [(.int (((2 : Int32) - (1 : Int32)) + (-1 : Int32))), (.int (0 : Int32))]) _
    refine XS.iloadN X0.here hx rfl (hb hby d6_2) rfl ?_
    show Sp p e below s₁ (mkF m 3 (lt4 (0 : Int32) (((2 : Int32) - (1 : Int32)) + (-1 : Int32)) (2 : Int32)) [(.int (2 : Int32)), (.int (((2 : Int32) - (1 : Int32)) + (-1 : Int32))), (.int (0 : Int32))]) _
    refine st84 _ ?_
    show Sp p e below T84 (mkF m 6 (lt4 (0 : Int32) (((2 : Int32) - (1 : Int32)) + (-1 : Int32)) (2 : Int32)) [w_5, (.int (2 : Int32)), (.int (((2 : Int32) - (1 : Int32)) + (-1 : Int32))), (.int (0 : Int32))]) _
    refine st85 _ ?_
    show Sp p e below T85 (mkF m 9 (lt4 (0 : Int32) (((2 : Int32) - (1 : Int32)) + (-1 : Int32)) (2 : Int32)) [(.int (0 : Int32))]) _
    exact retI X85 hx Bd.returns (hb hby d6_9) hr
  · show Q6x2 Z w_1 w_2 w_4 w_5 h0 n0 _ T85.heap _
    rw [e85]
    exact ⟨rfl, N85, rfl⟩
theorem pn_8x2 : plainName "java/lang/String" = true := by first | (simp [plainName, overriddenIn]; done) | decide +kernel
theorem ef_8x2 (m : MethodId) (r0 : Addr) (w_1 : Addr) (r2 : Addr) : entryFrame m #[(.ref r0), (.ref w_1), (.ref r2), (.int (0 : Int32)), (.int (((2 : Int32) - (1 : Int32)) + (-1 : Int32)))] 11 = mkF m 0 #[.val (.ref r0), .val (.ref w_1), .val (.ref r2), .val (.int (0 : Int32)), .val (.int (((2 : Int32) - (1 : Int32)) + (-1 : Int32))), .unset, .unset, .unset, .unset, .unset, .unset] [] := by first | (simp [entryFrame, mkF, argsToLocals, Value.category]; done) | rfl
def Q8x2 (Z : State) (w_1 : Addr) (w_2 : Addr) (w_4 : Int32) (w_5 : Value) (r0 : Addr) (r2 : Addr) (k_r2 : ClassId) (x_r2_0 : Int32) (x_r2_1 : Int32) (h0 : Heap) (n0 : Nat) (v : Option Value) (h : Heap) (L : List Loc) : Prop := ∃ (b89 : Addr) (kb89 : ClassId), v = none ∧ Fr n0 L ∧ Old Z n0 h ∧ Keep h0 h [r0] ∧ Fld Z h r0 "java/lang/String" "coder" "B" (.int (0 : Int32)) ∧ Fld Z h r0 "java/lang/String" "value" "[B" (.ref b89) ∧ True ∧ b89 ≠ r0 ∧ Arv Z h b89 kb89 .byte (0 : Int32) [] (.int (0 : Int32))
set_option maxRecDepth 65536 in
set_option maxHeartbeats 40000000 in
theorem rm8x2 (l : Launch) (Z : State) (a0 : Array Value) (hw : ∀ d ∈ tables_1, d.before a0 Z = true) (hv : ∀ d ∈ jdkStatics_1, d.before a0 Z = true) (wS : ∀ d ∈ Bundle.stringAtoms, d.before a0 Z = true) (hEL : EW Z a0 EL1) (ws : List Jvm.Cond) (w_1 : Addr) (w_2 : Addr) (w_4 : Int32) (w_5 : Value) (hS : StF Z w_1 w_2 w_4 w_5) (r0 : Addr) (r2 : Addr) (k_r2 : ClassId) (x_r2_0 : Int32) (x_r2_1 : Int32) (h0 : Heap) (n0 : Nat) (O0 : Old Z n0 h0) (g_r0 : n0 ≤ r0) (g_r2 : n0 ≤ r2) (E_r0 : Exa Z h0 r0 "java/lang/String") (F_coder_r0 : Fld Z h0 r0 "java/lang/String" "coder" "B" (.int (0 : Int32))) (F_value_r0 : Fld Z h0 r0 "java/lang/String" "value" "[B" .null) (V_r2 : Arv Z h0 r2 k_r2 .byte (2 : Int32) [(.int x_r2_0), (.int x_r2_1)] (.int (0 : Int32))) (ne_r0_r2 : r0 ≠ r2) :
    MetFree l Y21 (head1 (Jvm.Cond.codeWith Y21 jdk_42_method_11_code 11 none [(800, 813, 816, 202)] :: ws) ({ frames := 1, cells := 2, slots := 4, locals := 12 } : Room)) (fun a U => a = #[(.ref r0), (.ref w_1), (.ref r2), (.int (0 : Int32)), (.int (((2 : Int32) - (1 : Int32)) + (-1 : Int32)))] ∧ Z.Warmed39 U.vm ∧ U.heap = h0 ∧ CHv Z EL1 U.vm Z.heap) (fun _ _ _ _ _ => True) (fun _ U o U' => ∃ v L, o = .returned v ∧ Q8x2 Z w_1 w_2 w_4 w_5 r0 r2 k_r2 x_r2_0 x_r2_1 h0 n0 v U'.heap L ∧ ReturnedEndW U o U' L ({ frames := 1, cells := 2, slots := 4, locals := 12 } : Room).cells ({ frames := 1, cells := 2, slots := 4, locals := 12 } : Room).slots) := by
  refine MetFree.of_bodySF (plainFor_of_name pn_8x2) hisWith ?_
  intro p e s m args below meth c s₁ Bd hml0 hP hK
  obtain ⟨rfl, hZ, hh, hC⟩ := hP
  have hx := Bd.exec
  have hby := Bd.bytes
  have hml : c.maxLocals = 11 := hml0
  have hown : s.vm.findClass "java/lang/String" = some m.cls := findClass_of_methodNamed Bd.named
  have hnm := (name_of_methodNamed Bd.named Bd.method).1
  have X0 : Stand p l e ({ frames := 1, cells := 2, slots := 4, locals := 12 } : Room) s m #[(.ref r0), (.ref w_1), (.ref r2), (.int (0 : Int32)), (.int (((2 : Int32) - (1 : Int32)) + (-1 : Int32)))] below meth c s₁ [] 0 0 := Stand.of_body Bd
  have e0 : s₁.heap = h0 := by rw [← hh, Bd.state]; rfl
  have N0 := Fr.nil n0
  have hS0 := hS
  obtain ⟨S_1, E_1, S_2, E_2, S_3, E_3, S_4, NE_4, S_5, IR_5⟩ := hS
  have pre0 : ∀ t, Steps p.tables e below (s₁.setTop (mkF m 0 #[.val (.ref r0), .val (.ref w_1), .val (.ref r2), .val (.int (0 : Int32)), .val (.int (((2 : Int32) - (1 : Int32)) + (-1 : Int32))), .unset, .unset, .unset, .unset, .unset, .unset] [])) t → Steps p.tables e below (s₁.setTop (entryFrame m #[(.ref r0), (.ref w_1), (.ref r2), (.int (0 : Int32)), (.int (((2 : Int32) - (1 : Int32)) + (-1 : Int32)))] 11)) t := fun t k => castTop (ef_8x2 m r0 w_1 r2) k
  generalize hE0 : s₁.setTop (entryFrame m #[(.ref r0), (.ref w_1), (.ref r2), (.int (0 : Int32)), (.int (((2 : Int32) - (1 : Int32)) + (-1 : Int32)))] 11) = E0 at pre0 ⊢
  obtain ⟨T87, X87, e87, st87⟩ := initO X0 hx hZ hown (hw _ (tk 38 rfl)) (hw _ (tk 39 rfl)) (hw _ (tk 40 rfl)) e0 (g := (mkF m 1 (lt16 r0 w_1 r2 (0 : Int32) (((2 : Int32) - (1 : Int32)) + (-1 : Int32))) [(.ref r0)])) rfl (by rw [hml]; rfl) rfl (hb hby d8_1) (by decide) (W := 0) (by show 2 * 0 + _ ≤ _; exact Nat.le_of_eq rfl) (by decide)
  have pre88 : Cm p e below E0 (T87.setTop (mkF m 10 (lt16 r0 w_1 r2 (0 : Int32) (((2 : Int32) - (1 : Int32)) + (-1 : Int32))) [(.ref r0)])) := fun t kt => by
    refine pre0 t ?_
    show Sp p e below s₁ (mkF m 0 (lt16 r0 w_1 r2 (0 : Int32) (((2 : Int32) - (1 : Int32)) + (-1 : Int32))) []) _
    refine XS.aloadN X0.here hx rfl (hb hby d8_0) rfl rfl ?_
    show Sp p e below s₁ (mkF m 1 (lt16 r0 w_1 r2 (0 : Int32) (((2 : Int32) - (1 : Int32)) + (-1 : Int32))) [(.ref r0)]) _
    refine st87 _ ?_
    show Sp p e below T87 (mkF m 4 (lt16 r0 w_1 r2 (0 : Int32) (((2 : Int32) - (1 : Int32)) + (-1 : Int32))) []) _
    refine XS.iload X87.here hx rfl (hb hby d8_4) rfl ?_
    show Sp p e below T87 (mkF m 6 (lt16 r0 w_1 r2 (0 : Int32) (((2 : Int32) - (1 : Int32)) + (-1 : Int32))) [(.int (((2 : Int32) - (1 : Int32)) + (-1 : Int32)))]) _
    refine XS.ifNo X87.here hx rfl (hb hby d8_6) rfl ((if0 _ _).trans (teq (by decide : ((((2 : Int32) - (1 : Int32)) + (-1 : Int32)) = (0 : Int32)))).2) ?_
    show Sp p e below T87 (mkF m 9 (lt16 r0 w_1 r2 (0 : Int32) (((2 : Int32) - (1 : Int32)) + (-1 : Int32))) []) _
    refine XS.aloadN X87.here hx rfl (hb hby d8_9) rfl rfl ?_
    show Sp p e below T87 (mkF m 10 (lt16 r0 w_1 r2 (0 : Int32) (((2 : Int32) - (1 : Int32)) + (-1 : Int32))) [(.ref r0)]) _
    show Sp p e below T87 (mkF m 10 (lt16 r0 w_1 r2 (0 : Int32) (((2 : Int32) - (1 : Int32)) + (-1 : Int32))) [(.ref r0)]) _
    exact kt
  obtain ⟨a89, T89, h89, kk89, b89, kb89, X89, e89, E89, hSi, hki, hZ, hown, EA89, FC89, FV89, V_b89, la89, lb89, -, Lt89, sf89, st89⟩ := ldcCH (s := s) (vm0 := s.vm) X87 hx hZ hown (hw _ (tk 41 rfl)) wS e87 ((State.WarmedH.refl s).since 0) (Nat.zero_le _) hEL (List.mem_of_getElem? (i := 0) rfl) (hC.ext O0.2) (vs := []) (z := (0 : Int32)) ⟨by decide, rfl⟩ (by decide) rfl (g := (mkF m 10 (lt16 r0 w_1 r2 (0 : Int32) (((2 : Int32) - (1 : Int32)) + (-1 : Int32))) [(.ref r0)])) rfl (hb hby d8_10) (n := 0) (by decide) (by decide) (by decide) (by decide)
  have O89 : Old Z n0 h89 := O0.ext E89
  have K89 : Keep h0 h89 [r0] := (Keep.refl h0 [r0]).ext E89
  have c90 := (E_r0.ext E89)
  have c91 := (F_value_r0.ext E89)
  have ne89_r0 := sf89 r0 (own_safe0 hZ.alike c90 c91)
  obtain ⟨T92, X92, e92, st92⟩ := getF X89 hx hZ hown (host := "") (Or.inl (hw _ (tk 46 rfl))) Via.refl e89 FV89 (g := (mkF m 12 (lt16 r0 w_1 r2 (0 : Int32) (((2 : Int32) - (1 : Int32)) + (-1 : Int32))) [(.ref a89), (.ref r0)])) rfl rfl (hb hby d8_12)
  obtain ⟨T93, h93, X93, e93, W93, st93⟩ := putF X92 hx hZ hown (host := "") (Or.inl (hw _ (tk 46 rfl))) Via.refl e92 c91 c90 (Or.inr ⟨(hw _ (tk 42 rfl)), rfl, hnm⟩) (hw _ (tk 13 rfl)) (ty := (.array .byte)) (by decide) rfl rfl (g := (mkF m 15 (lt16 r0 w_1 r2 (0 : Int32) (((2 : Int32) - (1 : Int32)) + (-1 : Int32))) [(.ref b89), (.ref r0)])) rfl rfl (hb hby d8_15)
  have Fw93 := c91.same W93
  have O93 : Old Z n0 h93 := O89.wr W93 g_r0
  have N93 := Fr.snoc X93 N0 g_r0
  have K93 : Keep h0 h93 [r0] := K89.wr W93 (Or.inl (List.mem_of_getElem? (i := 0) rfl))
  have c94 := (FC89.other W93 (Or.inl (Ne.symm ne89_r0.1)))
  obtain ⟨T95, X95, e95, st95⟩ := getF X93 hx hZ hown (host := "") (Or.inl (hw _ (tk 47 rfl))) Via.refl e93 c94 (g := (mkF m 21 (lt16 r0 w_1 r2 (0 : Int32) (((2 : Int32) - (1 : Int32)) + (-1 : Int32))) [(.ref a89), (.ref r0)])) rfl rfl (hb hby d8_21)
  have c96 := (c90.wr W93)
  have c97 := ((F_coder_r0.ext E89).other W93 (Or.inr (slot_ne (Or.inr (hw _ (tk 43 rfl))) (Or.inr (hw _ (tk 42 rfl))) (by decide) (t := .byte) (t' := (.array .byte)) (by decide) (by decide))))
  obtain ⟨T98, h98, X98, e98, W98, st98⟩ := putFN X95 hx hZ hown (hw _ (tk 47 rfl)) Via.refl e95 c97 c96 (Or.inr ⟨(hw _ (tk 43 rfl)), rfl, hnm⟩) (hw _ (tk 13 rfl)) (ty := .byte) (v' := (.int (0 : Int32))) (by decide) rfl (by decide) (g := (mkF m 24 (lt16 r0 w_1 r2 (0 : Int32) (((2 : Int32) - (1 : Int32)) + (-1 : Int32))) [(.int (0 : Int32)), (.ref r0)])) rfl rfl (hb hby d8_24)
  have Fw98 := c97.same W98
  have O98 : Old Z n0 h98 := O93.wr W98 g_r0
  have N98 := Fr.snoc X98 N93 g_r0
  have K98 : Keep h0 h98 [r0] := K93.wr W98 (Or.inl (List.mem_of_getElem? (i := 0) rfl))
  obtain ⟨fs, hr, hrun, hended, hRW⟩ := leaveW (s := s) (vm₁ := T89.vm) X98 hSi (n := _) (by rw [e98]; exact (Nat.le_trans (Nat.le_trans hki (own_wrsz W93)) (own_wrsz W98))) (v := none) (fun _ => rfl)
  have c99 := ((V_b89.other W93 (Ne.symm ne89_r0.2)).other W98 (Ne.symm ne89_r0.2))
  have c100 := (Fw93.other W98 (Or.inr (slot_ne (Or.inr (hw _ (tk 42 rfl))) (Or.inr (hw _ (tk 43 rfl))) (by decide) (t := (.array .byte)) (t' := .byte) (by decide) (by decide))))
  refine ⟨_, _, pre88 _ ?_, hrun, hended, _, _, rfl, ?_, hRW.1, hRW.2.1, hRW.2.2.1, hRW.2.2.2.mono (by decide) (by decide)⟩
  · refine st89 _ ?_
    show Sp p e below T89 (mkF m 12 (lt16 r0 w_1 r2 (0 : Int32) (((2 : Int32) - (1 : Int32)) + (-1 : Int32))) [(.ref a89), (.ref r0)]) _
    refine st92 _ ?_
    show Sp p e below T92 (mkF m 15 (lt16 r0 w_1 r2 (0 : Int32) (((2 : Int32) - (1 : Int32)) + (-1 : Int32))) [(.ref b89), (.ref r0)]) _
    refine st93 _ ?_
    show Sp p e below T93 (mkF m 18 (lt16 r0 w_1 r2 (0 : Int32) (((2 : Int32) - (1 : Int32)) + (-1 : Int32))) []) _
    refine XS.aloadN X93.here hx rfl (hb hby d8_18) rfl rfl ?_
    show Sp p e below T93 (mkF m 19 (lt16 r0 w_1 r2 (0 : Int32) (((2 : Int32) - (1 : Int32)) + (-1 : Int32))) [(.ref r0)]) _
    refine ldcAgain (s := s) (vm0 := T89.vm) X93 hx hZ hown (hw _ (tk 41 rfl)) Lt89 (g := (mkF m 19 (lt16 r0 w_1 r2 (0 : Int32) (((2 : Int32) - (1 : Int32)) + (-1 : Int32))) [(.ref r0)])) rfl (hb hby d8_19) _ ?_
    show Sp p e below T93 (mkF m 21 (lt16 r0 w_1 r2 (0 : Int32) (((2 : Int32) - (1 : Int32)) + (-1 : Int32))) [(.ref a89), (.ref r0)]) _
    refine st95 _ ?_
    show Sp p e below T95 (mkF m 24 (lt16 r0 w_1 r2 (0 : Int32) (((2 : Int32) - (1 : Int32)) + (-1 : Int32))) [(.int (0 : Int32)), (.ref r0)]) _
    refine st98 _ ?_
    show Sp p e below T98 (mkF m 27 (lt16 r0 w_1 r2 (0 : Int32) (((2 : Int32) - (1 : Int32)) + (-1 : Int32))) []) _
    refine XS.goto X98.here hx rfl (pc0 := 27) (pc' := 879) rfl (hb hby d8_27) (by decide) (by decide) ?_
    show Sp p e below T98 (mkF m 879 (lt16 r0 w_1 r2 (0 : Int32) (((2 : Int32) - (1 : Int32)) + (-1 : Int32))) []) _
    exact X98.returnOut hx Bd.returns (hb hby d8_879) hr
  · show Q8x2 Z w_1 w_2 w_4 w_5 r0 r2 k_r2 x_r2_0 x_r2_1 h0 n0 _ T98.heap _
    rw [e98]
    exact ⟨b89, kb89, rfl, N98, O98, K98, Fw98, c100, trivial, (Ne.symm ne89_r0.2), c99⟩
theorem pn_4x2 : plainName "java/lang/String" = true := by first | (simp [plainName, overriddenIn]; done) | decide +kernel
theorem ef_4x2 (m : MethodId) (r0 : Addr) (r1 : Addr) (w_1 : Addr) : entryFrame m #[(.ref r0), (.ref r1), (.int (0 : Int32)), (.int (((2 : Int32) - (1 : Int32)) + (-1 : Int32))), (.ref w_1)] 5 = mkF m 0 #[.val (.ref r0), .val (.ref r1), .val (.int (0 : Int32)), .val (.int (((2 : Int32) - (1 : Int32)) + (-1 : Int32))), .val (.ref w_1)] [] := by first | (simp [entryFrame, mkF, argsToLocals, Value.category]; done) | rfl
def Q4x2 (Z : State) (w_1 : Addr) (w_2 : Addr) (w_4 : Int32) (w_5 : Value) (r0 : Addr) (r1 : Addr) (k_r1 : ClassId) (x_r1_0 : Int32) (x_r1_1 : Int32) (h0 : Heap) (n0 : Nat) (v : Option Value) (h : Heap) (L : List Loc) : Prop := ∃ (b103 : Addr) (k104 : ClassId), v = none ∧ Fr n0 L ∧ Old Z n0 h ∧ Keep h0 h [r0] ∧ Fld Z h r0 "java/lang/String" "coder" "B" (.int (0 : Int32)) ∧ Fld Z h r0 "java/lang/String" "value" "[B" (.ref b103) ∧ True ∧ b103 ≠ r0 ∧ Arv Z h b103 k104 .byte (0 : Int32) [] (.int (0 : Int32))
set_option maxRecDepth 65536 in
set_option maxHeartbeats 40000000 in
theorem rm4x2 (l : Launch) (Z : State) (a0 : Array Value) (hw : ∀ d ∈ tables_1, d.before a0 Z = true) (hv : ∀ d ∈ jdkStatics_1, d.before a0 Z = true) (wS : ∀ d ∈ Bundle.stringAtoms, d.before a0 Z = true) (hEL : EW Z a0 EL1) (ws : List Jvm.Cond) (w_1 : Addr) (w_2 : Addr) (w_4 : Int32) (w_5 : Value) (hS : StF Z w_1 w_2 w_4 w_5) (r0 : Addr) (r1 : Addr) (k_r1 : ClassId) (x_r1_0 : Int32) (x_r1_1 : Int32) (h0 : Heap) (n0 : Nat) (O0 : Old Z n0 h0) (g_r0 : n0 ≤ r0) (g_r1 : n0 ≤ r1) (E_r0 : Exa Z h0 r0 "java/lang/String") (F_coder_r0 : Fld Z h0 r0 "java/lang/String" "coder" "B" (.int (0 : Int32))) (F_value_r0 : Fld Z h0 r0 "java/lang/String" "value" "[B" .null) (V_r1 : Arv Z h0 r1 k_r1 .byte (2 : Int32) [(.int x_r1_0), (.int x_r1_1)] (.int (0 : Int32))) (ne_r0_r1 : r0 ≠ r1) :
    MetFree l Y22 (head1 (Jvm.Cond.code Y22 jdk_42_method_10_code 5 none :: ws) ({ frames := 2, cells := 2, slots := 4, locals := 34 } : Room)) (fun a U => a = #[(.ref r0), (.ref r1), (.int (0 : Int32)), (.int (((2 : Int32) - (1 : Int32)) + (-1 : Int32))), (.ref w_1)] ∧ Z.Warmed39 U.vm ∧ U.heap = h0 ∧ CHv Z EL1 U.vm Z.heap) (fun _ _ _ _ _ => True) (fun _ U o U' => ∃ v L, o = .returned v ∧ Q4x2 Z w_1 w_2 w_4 w_5 r0 r1 k_r1 x_r1_0 x_r1_1 h0 n0 v U'.heap L ∧ ReturnedEndW U o U' L ({ frames := 2, cells := 2, slots := 4, locals := 34 } : Room).cells ({ frames := 2, cells := 2, slots := 4, locals := 34 } : Room).slots) := by
  refine MetFree.of_bodySF (plainFor_of_name pn_4x2) hisR ?_
  intro p e s m args below meth c s₁ Bd hml0 hP hK
  obtain ⟨rfl, hZ, hh, hC⟩ := hP
  have hx := Bd.exec
  have hby := Bd.bytes
  have hml : c.maxLocals = 5 := hml0
  have hown : s.vm.findClass "java/lang/String" = some m.cls := findClass_of_methodNamed Bd.named
  have hnm := (name_of_methodNamed Bd.named Bd.method).1
  have X0 : Stand p l e ({ frames := 2, cells := 2, slots := 4, locals := 34 } : Room) s m #[(.ref r0), (.ref r1), (.int (0 : Int32)), (.int (((2 : Int32) - (1 : Int32)) + (-1 : Int32))), (.ref w_1)] below meth c s₁ [] 0 0 := Stand.of_body Bd
  have e0 : s₁.heap = h0 := by rw [← hh, Bd.state]; rfl
  have N0 := Fr.nil n0
  have hS0 := hS
  obtain ⟨S_1, E_1, S_2, E_2, S_3, E_3, S_4, NE_4, S_5, IR_5⟩ := hS
  have pre0 : ∀ t, Steps p.tables e below (s₁.setTop (mkF m 0 #[.val (.ref r0), .val (.ref r1), .val (.int (0 : Int32)), .val (.int (((2 : Int32) - (1 : Int32)) + (-1 : Int32))), .val (.ref w_1)] [])) t → Steps p.tables e below (s₁.setTop (entryFrame m #[(.ref r0), (.ref r1), (.int (0 : Int32)), (.int (((2 : Int32) - (1 : Int32)) + (-1 : Int32))), (.ref w_1)] 5)) t := fun t k => castTop (ef_4x2 m r0 r1 w_1) k
  generalize hE0 : s₁.setTop (entryFrame m #[(.ref r0), (.ref r1), (.int (0 : Int32)), (.int (((2 : Int32) - (1 : Int32)) + (-1 : Int32))), (.ref w_1)] 5) = E0 at pre0 ⊢
  obtain ⟨_, _, ⟨T81, L81, k81, n81⟩, -, X81, ⟨Lc81, hQ81, l81, y81, z81⟩, st81⟩ := Jvm.LawKit.callS X0 hx (y := Y16) hown (mvT hZ (hw _ (tk 20 rfl))) (mvT hZ (hw _ (tk 21 rfl))) (mvT hZ (hw _ (tk 22 rfl))) (mvT hZ (hw _ (tk 23 rfl))) (by decide) (backOf (W := 1) (rm5x1 l Z a0 hw hv [] w_1 w_2 w_4 w_5 hS0 h0 n0 O0) hZ (hw _ (tk 23 rfl)) (hw _ (tk 22 rfl)) (by decide) (by decide)) (g := (mkF m 3 (lt14 r0 r1 (0 : Int32) (((2 : Int32) - (1 : Int32)) + (-1 : Int32)) w_1) [(.ref w_1), (.ref r0)])) rfl (by rw [hml]; rfl) (argsL := [(.ref w_1)]) (rest := [(.ref r0)]) (lenOf pd_2 rfl) rfl (by show 2 * 0 + _ ≤ _; exact Nat.le_of_eq rfl) (hb hby d4_3) (fun _ _ => ⟨rfl, e0, (by decide : 0 + 0 ≤ _), (by decide : 0 + 0 ≤ _)⟩)
  dsimp only [Pt.U, Pt.locs, Pt.cells, Pt.slots] at X81 l81 y81 z81 st81 hQ81
  subst l81 y81 z81
  obtain ⟨rv81, N81q, e81⟩ := hQ81
  subst rv81
  have N81 := Fr.app N0 N81q
  obtain ⟨T82, X82, e82, st82⟩ := castY X81 hx hZ hown (hw _ (tk 24 rfl)) e81 (Ins.of_exa (E_1.ext O0.2) (hw _ (tk 25 rfl))) (g := (mkF m 6 (lt14 r0 r1 (0 : Int32) (((2 : Int32) - (1 : Int32)) + (-1 : Int32)) w_1) [(.ref w_1), (.ref r0)])) rfl rfl (hb hby d4_6)
  obtain ⟨cl83, Ar83, qa83, Sa83, Ma83, Ha83, Ga83⟩ := id V_r1
  obtain ⟨_, _, ⟨T86, L86, k86, n86⟩, -, X86, ⟨Lc86, hQ86, l86, y86, z86⟩, st86⟩ := Jvm.LawKit.callS X82 hx (y := Y19) hown (mvT hZ (hw _ (tk 26 rfl))) (mvT hZ (hw _ (tk 27 rfl))) (mvT hZ (hw _ (tk 14 rfl))) (mvT hZ (hw _ (tk 28 rfl))) (by decide) (backOf (W := 3) (rm6x2 l Z a0 hw hv [] w_1 w_2 w_4 w_5 hS0 h0 n0 O0) hZ (hw _ (tk 28 rfl)) (hw _ (tk 14 rfl)) (by decide) (by decide)) (g := (mkF m 14 (lt14 r0 r1 (0 : Int32) (((2 : Int32) - (1 : Int32)) + (-1 : Int32)) w_1) [(.int (2 : Int32)), (.int (((2 : Int32) - (1 : Int32)) + (-1 : Int32))), (.int (0 : Int32)), (.ref r1), (.ref w_1), (.ref r0)])) rfl (by rw [hml]; rfl) (argsL := [(.int (0 : Int32)), (.int (((2 : Int32) - (1 : Int32)) + (-1 : Int32))), (.int (2 : Int32))]) (rest := [(.ref r1), (.ref w_1), (.ref r0)]) (lenOf pd_4 rfl) rfl (by show 2 * 0 + _ ≤ _; exact Nat.le_of_eq rfl) (hb hby d4_14) (fun _ _ => ⟨rfl, e82, (by decide : 0 + 0 ≤ _), (by decide : 0 + 0 ≤ _)⟩)
  dsimp only [Pt.U, Pt.locs, Pt.cells, Pt.slots] at X86 l86 y86 z86 st86 hQ86
  subst l86 y86 z86
  obtain ⟨rv86, N86q, e86⟩ := hQ86
  subst rv86
  have N86 := Fr.app N81 N86q
  have pre102 : Cm p e below E0 (T86.setTop (mkF m 18 (lt14 r0 r1 (0 : Int32) (((2 : Int32) - (1 : Int32)) + (-1 : Int32)) w_1) [(.int (((2 : Int32) - (1 : Int32)) + (-1 : Int32))), (.int (0 : Int32)), (.ref r1), (.ref w_1), (.ref r0)])) := fun t kt => by
    refine pre0 t ?_
    show Sp p e below s₁ (mkF m 0 (lt14 r0 r1 (0 : Int32) (((2 : Int32) - (1 : Int32)) + (-1 : Int32)) w_1) []) _
    refine XS.aloadN X0.here hx rfl (hb hby d4_0) rfl rfl ?_
    refine XS.aload X0.here hx rfl (hb hby d4_1) rfl rfl ?_
    show Sp p e below s₁ (mkF m 3 (lt14 r0 r1 (0 : Int32) (((2 : Int32) - (1 : Int32)) + (-1 : Int32)) w_1) [(.ref w_1), (.ref r0)]) _
    refine st81 _ ?_
    show Sp p e below T81 (mkF m 6 (lt14 r0 r1 (0 : Int32) (((2 : Int32) - (1 : Int32)) + (-1 : Int32)) w_1) [(.ref w_1), (.ref r0)]) _
    refine st82 _ ?_
    show Sp p e below T82 (mkF m 9 (lt14 r0 r1 (0 : Int32) (((2 : Int32) - (1 : Int32)) + (-1 : Int32)) w_1) [(.ref w_1), (.ref r0)]) _
    refine XS.aloadN X82.here hx rfl (hb hby d4_9) rfl rfl ?_
    refine XS.iloadN X82.here hx rfl (hb hby d4_10) rfl ?_
    show Sp p e below T82 (mkF m 11 (lt14 r0 r1 (0 : Int32) (((2 : Int32) - (1 : Int32)) + (-1 : Int32)) w_1) [(.int (0 : Int32)), (.ref r1), (.ref w_1), (.ref r0)]) _
    refine XS.iloadN X82.here hx rfl (hb hby d4_11) rfl ?_
    refine XS.aloadN X82.here hx rfl (hb hby d4_12) rfl rfl ?_
    show Sp p e below T82 (mkF m 13 (lt14 r0 r1 (0 : Int32) (((2 : Int32) - (1 : Int32)) + (-1 : Int32)) w_1) [(.ref r1), (.int (((2 : Int32) - (1 : Int32)) + (-1 : Int32))), (.int (0 : Int32)), (.ref r1), (.ref w_1), (.ref r0)]) _
    refine X82.arraylength hx (by rw [e82]; exact Ar83.1) (State.isArrayOf_alike hZ.alike Ar83.2.1) (g := (mkF m 13 (lt14 r0 r1 (0 : Int32) (((2 : Int32) - (1 : Int32)) + (-1 : Int32)) w_1) [(.ref r1), (.int (((2 : Int32) - (1 : Int32)) + (-1 : Int32))), (.int (0 : Int32)), (.ref r1), (.ref w_1), (.ref r0)])) rfl rfl (hb hby d4_13) _ ?_
    rw [len_of Sa83 Ma83]
    show Sp p e below T82 (mkF m 14 (lt14 r0 r1 (0 : Int32) (((2 : Int32) - (1 : Int32)) + (-1 : Int32)) w_1) [(.int (2 : Int32)), (.int (((2 : Int32) - (1 : Int32)) + (-1 : Int32))), (.int (0 : Int32)), (.ref r1), (.ref w_1), (.ref r0)]) _
    refine st86 _ ?_
    show Sp p e below T86 (mkF m 17 (lt14 r0 r1 (0 : Int32) (((2 : Int32) - (1 : Int32)) + (-1 : Int32)) w_1) [(.int (0 : Int32)), (.ref r1), (.ref w_1), (.ref r0)]) _
    refine XS.iloadN X86.here hx rfl (hb hby d4_17) rfl ?_
    show Sp p e below T86 (mkF m 18 (lt14 r0 r1 (0 : Int32) (((2 : Int32) - (1 : Int32)) + (-1 : Int32)) w_1) [(.int (((2 : Int32) - (1 : Int32)) + (-1 : Int32))), (.int (0 : Int32)), (.ref r1), (.ref w_1), (.ref r0)]) _
    exact kt
  obtain ⟨_, _, ⟨T101, L101, k101, n101⟩, -, X101, hSi, -, ⟨Lc101, hQ101, l101, y101, z101⟩, st101⟩ := own_specialSH X86 hx (y := Y21) rfl hown (mvT hZ (hw _ (tk 34 rfl))) (mvT hZ (hw _ (tk 35 rfl))) (mvT hZ (hw _ (tk 37 rfl))) (by decide) (own_backSZH (W := 0) (rm8x2 l Z a0 hw hv wS hEL [] w_1 w_2 w_4 w_5 hS0 r0 r1 k_r1 x_r1_0 x_r1_1 h0 n0 O0 g_r0 g_r1 E_r0 F_coder_r0 F_value_r0 V_r1 ne_r0_r1) hZ (hw _ (tk 37 rfl)) (hw _ (tk 14 rfl)) (by decide) (by decide) hEL hC) (g := (mkF m 18 (lt14 r0 r1 (0 : Int32) (((2 : Int32) - (1 : Int32)) + (-1 : Int32)) w_1) [(.int (((2 : Int32) - (1 : Int32)) + (-1 : Int32))), (.int (0 : Int32)), (.ref r1), (.ref w_1), (.ref r0)])) rfl (by rw [hml]; rfl) (Steps.refl _) (a := r0) (argsL := [(.ref w_1), (.ref r1), (.int (0 : Int32)), (.int (((2 : Int32) - (1 : Int32)) + (-1 : Int32)))]) (rest := []) (lenOf pd_5 rfl) rfl (by show 2 * 0 + _ ≤ _; exact Nat.le_of_eq rfl) (hb hby d4_18) (fun _ _ => ⟨rfl, e86, (by decide : 0 + 2 ≤ _), (by decide : 0 + 4 ≤ _)⟩)
  dsimp only [Pt.U, Pt.locs, Pt.cells, Pt.slots] at X101 l101 y101 z101 st101 hQ101
  subst l101 y101 z101
  have hki := Nat.le_refl T101.heap.size
  have hZ : Z.Warmed39 (s.setVm T101.vm).vm := State.Warmed39.trans hZ hSi.1
  have hown : (s.setVm T101.vm).vm.findClass "java/lang/String" = some m.cls := by rw [show (s.setVm T101.vm).vm = T101.vm from rfl, hSi.1.alike.findClass]; exact hown
  obtain ⟨b103, k104, rv101, N101q, O101, K101c, Fe101_0, Fe101_1, Fx101_0, Fx101_1, Fx101_2⟩ := hQ101
  subst rv101
  have N101 := Fr.app N86 N101q
  have K101 : Keep h0 T101.heap [r0] := (Keep.refl h0 [r0]).trans K101c (allS (Or.inl (List.mem_of_getElem? (i := 0) rfl)) all0)
  obtain ⟨fs, hr, hrun, hended, hRW⟩ := leaveW (s := s) (vm₁ := T101.vm) X101 hSi (n := _) (hki) (v := none) (fun _ => rfl)
  refine ⟨_, _, pre102 _ ?_, hrun, hended, _, _, rfl, ?_, hRW.1, hRW.2.1, hRW.2.2.1, hRW.2.2.2.mono (by decide) (by decide)⟩
  · refine st101.trans ?_
    show Sp p e below T101 (mkF m 21 (lt14 r0 r1 (0 : Int32) (((2 : Int32) - (1 : Int32)) + (-1 : Int32)) w_1) []) _
    exact X101.returnOut hx Bd.returns (hb hby d4_21) hr
  · show Q4x2 Z w_1 w_2 w_4 w_5 r0 r1 k_r1 x_r1_0 x_r1_1 h0 n0 _ T101.heap _
    exact ⟨b103, k104, rfl, N101, O101, K101, Fe101_0, Fe101_1, trivial, Fx101_1, Fx101_2⟩
theorem pn_3x2 : plainName "com/example/bristlecone/bristlecone/io/HttpLine" = true := by first | (simp [plainName, overriddenIn]; done) | decide +kernel
theorem ef_3x2 (m : MethodId) (r0 : Addr) : entryFrame m #[(.ref r0)] 2 = mkF m 0 #[.val (.ref r0), .unset] [] := by first | (simp [entryFrame, mkF, argsToLocals, Value.category]; done) | rfl
def Q3x2 (Z : State) (w_1 : Addr) (w_2 : Addr) (w_4 : Int32) (w_5 : Value) (r0 : Addr) (k_r0 : ClassId) (x_r0_0 : Int32) (x_r0_1 : Int32) (h0 : Heap) (n0 : Nat) (v : Option Value) (h : Heap) (L : List Loc) : Prop := ∃ (b79 : Addr) (b108 : Addr) (k109 : ClassId), v = some (.ref b79) ∧ Fr n0 L ∧ Old Z n0 h ∧ Keep h0 h [] ∧ n0 ≤ b79 ∧ h0.size ≤ b79 ∧ Exa Z h b79 "java/lang/String" ∧ Fld Z h b79 "java/lang/String" "value" "[B" (.ref b108) ∧ Fld Z h b79 "java/lang/String" "coder" "B" (.int (0 : Int32)) ∧ True ∧ Arv Z h b108 k109 .byte (0 : Int32) [] (.int (0 : Int32)) ∧ b79 ≠ b108
set_option maxRecDepth 65536 in
set_option maxHeartbeats 40000000 in
theorem rm3x2 (l : Launch) (Z : State) (a0 : Array Value) (hw : ∀ d ∈ tables_1, d.before a0 Z = true) (hv : ∀ d ∈ jdkStatics_1, d.before a0 Z = true) (wS : ∀ d ∈ Bundle.stringAtoms, d.before a0 Z = true) (hEL : EW Z a0 EL1) (ws : List Jvm.Cond) (w_1 : Addr) (w_2 : Addr) (w_4 : Int32) (w_5 : Value) (hS : StF Z w_1 w_2 w_4 w_5) (r0 : Addr) (k_r0 : ClassId) (x_r0_0 : Int32) (x_r0_1 : Int32) (h0 : Heap) (n0 : Nat) (O0 : Old Z n0 h0) (g_r0 : n0 ≤ r0) (V_r0 : Arv Z h0 r0 k_r0 .byte (2 : Int32) [(.int x_r0_0), (.int x_r0_1)] (.int (0 : Int32))) (as0 : (x_r0_0 = (13 : Int32))) :
    MetFree l Y23 (head1 (Jvm.Cond.code Y23 prog_8_method_4_code 2 (some (.object "java/lang/String")) :: ws) ({ frames := 3, cells := 3, slots := 8, locals := 51 } : Room)) (fun a U => a = #[(.ref r0)] ∧ Z.Warmed39 U.vm ∧ U.heap = h0 ∧ CHv Z EL1 U.vm Z.heap) (fun _ _ _ _ _ => True) (fun _ U o U' => ∃ v L, o = .returned v ∧ Q3x2 Z w_1 w_2 w_4 w_5 r0 k_r0 x_r0_0 x_r0_1 h0 n0 v U'.heap L ∧ ReturnedEndW U o U' L ({ frames := 3, cells := 3, slots := 8, locals := 51 } : Room).cells ({ frames := 3, cells := 3, slots := 8, locals := 51 } : Room).slots) := by
  refine MetFree.of_bodySF (plainFor_of_name pn_3x2) hisR ?_
  intro p e s m args below meth c s₁ Bd hml0 hP hK
  obtain ⟨rfl, hZ, hh, hC⟩ := hP
  have hx := Bd.exec
  have hby := Bd.bytes
  have hml : c.maxLocals = 2 := hml0
  have hown : s.vm.findClass "com/example/bristlecone/bristlecone/io/HttpLine" = some m.cls := findClass_of_methodNamed Bd.named
  have hnm := (name_of_methodNamed Bd.named Bd.method).1
  have X0 : Stand p l e ({ frames := 3, cells := 3, slots := 8, locals := 51 } : Room) s m #[(.ref r0)] below meth c s₁ [] 0 0 := Stand.of_body Bd
  have e0 : s₁.heap = h0 := by rw [← hh, Bd.state]; rfl
  have N0 := Fr.nil n0
  have hS0 := hS
  obtain ⟨S_1, E_1, S_2, E_2, S_3, E_3, S_4, NE_4, S_5, IR_5⟩ := hS
  have pre0 : ∀ t, Steps p.tables e below (s₁.setTop (mkF m 0 #[.val (.ref r0), .unset] [])) t → Steps p.tables e below (s₁.setTop (entryFrame m #[(.ref r0)] 2)) t := fun t k => castTop (ef_3x2 m r0) k
  generalize hE0 : s₁.setTop (entryFrame m #[(.ref r0)] 2) = E0 at pre0 ⊢
  obtain ⟨cl77, Ar77, qa77, Sa77, Ma77, Ha77, Ga77⟩ := id V_r0
  obtain ⟨cl78, Ar78, qa78, Sa78, Ma78, Ha78, Ga78⟩ := id V_r0
  have hin78 : ¬ ((((2 : Int32) - (1 : Int32)) - (1 : Int32)) < 0 ∨ cl78.slots.size ≤ ((((2 : Int32) - (1 : Int32)) - (1 : Int32))).toNatClampNeg) := by  exact inb_of Sa78 ⟨by decide, by decide⟩
  have hat78 : cl78.slots[((((2 : Int32) - (1 : Int32)) - (1 : Int32))).toNatClampNeg]? = some (.int x_r0_0) := Has.at Ha78 hin78 (by rfl)
  obtain ⟨T79, h79, X79, e79, E79, A79, D79, -, st79⟩ := newO X0 hx hZ hown (hw _ (tk 12 rfl)) (hw _ (tk 13 rfl)) (hw _ (tk 14 rfl)) e0 (g := (mkF m 22 (lt13 r0 (((2 : Int32) - (1 : Int32)) + (-1 : Int32))) [])) rfl (hb hby d3_22) (by decide) (by decide)
  obtain ⟨b79, g79⟩ : ∃ z, z = h0.size := ⟨_, rfl⟩
  rw [← g79] at A79 D79 st79
  have g_b79 : n0 ≤ b79 := Nat.le_trans (own_old O0) (Nat.le_of_eq g79.symm)
  have sz_b79 : h0.size ≤ b79 := Nat.le_trans (Keep.refl h0 []).1 (Nat.le_of_eq g79.symm)
  have ne_r0_b79 : r0 ≠ b79 := Nat.ne_of_lt (Nat.lt_of_lt_of_le V_r0.lt (Nat.le_of_eq g79.symm))
  have O79 : Old Z n0 h79 := O0.ext E79
  have K79 : Keep h0 h79 [] := (Keep.refl h0 []).ext E79
  have F_value_b79 : Fld Z h79 b79 "java/lang/String" "value" "[B" .null := D79 (Or.inr (hw _ (tk 42 rfl))) (ty := (.array .byte)) (by decide)
  have F_coder_b79 : Fld Z h79 b79 "java/lang/String" "coder" "B" (.int (0 : Int32)) := D79 (Or.inr (hw _ (tk 43 rfl))) (ty := .byte) (by decide)
  obtain ⟨T80, X80, e80, st80⟩ := getS2 X79 hx hZ hown (host := "") (Or.inl (hw _ (tk 15 rfl))) Via.refl e79 (S_1.ext O79.2) (g := (mkF m 29 (lt13 r0 (((2 : Int32) - (1 : Int32)) + (-1 : Int32))) [(.int (((2 : Int32) - (1 : Int32)) + (-1 : Int32))), (.int (0 : Int32)), (.ref r0), (.ref b79), (.ref b79)])) rfl (hb hby d3_29)
  have c105 := (V_r0.ext E79)
  have pre107 : Cm p e below E0 (T80.setTop (mkF m 32 (lt13 r0 (((2 : Int32) - (1 : Int32)) + (-1 : Int32))) [(.ref w_1), (.int (((2 : Int32) - (1 : Int32)) + (-1 : Int32))), (.int (0 : Int32)), (.ref r0), (.ref b79), (.ref b79)])) := fun t kt => by
    refine pre0 t ?_
    show Sp p e below s₁ (mkF m 0 (lt12 r0) []) _
    refine XS.aloadN X0.here hx rfl (hb hby d3_0) rfl rfl ?_
    show Sp p e below s₁ (mkF m 1 (lt12 r0) [(.ref r0)]) _
    refine X0.arraylength hx (by rw [e0]; exact Ar77.1) (State.isArrayOf_alike hZ.alike Ar77.2.1) (g := (mkF m 1 (lt12 r0) [(.ref r0)])) rfl rfl (hb hby d3_1) _ ?_
    rw [len_of Sa77 Ma77]
    show Sp p e below s₁ (mkF m 2 (lt12 r0) [(.int (2 : Int32))]) _
    refine XS.iconst X0.here hx rfl (hb hby d3_2) ?_
    refine XS.isub X0.here hx rfl (hb hby d3_3) rfl ?_
    show Sp p e below s₁ (mkF m 4 (lt12 r0) [(.int ((2 : Int32) - (1 : Int32)))]) _
    refine XS.istoreN X0.here hx rfl (hb hby d3_4) rfl (l' := (lt13 r0 ((2 : Int32) - (1 : Int32)))) rfl ?_
    refine XS.iloadN X0.here hx rfl (hb hby d3_5) rfl ?_
    show Sp p e below s₁ (mkF m 6 (lt13 r0 ((2 : Int32) - (1 : Int32))) [(.int ((2 : Int32) - (1 : Int32)))]) _
    refine XS.ifNo X0.here hx rfl (hb hby d3_6) rfl ((if0 _ _).trans (tlt (by decide : ((0 : Int32) < ((2 : Int32) - (1 : Int32))))).2.2.2) ?_
    show Sp p e below s₁ (mkF m 9 (lt13 r0 ((2 : Int32) - (1 : Int32))) []) _
    refine XS.aloadN X0.here hx rfl (hb hby d3_9) rfl rfl ?_
    refine XS.iloadN X0.here hx rfl (hb hby d3_10) rfl ?_
    show Sp p e below s₁ (mkF m 11 (lt13 r0 ((2 : Int32) - (1 : Int32))) [(.int ((2 : Int32) - (1 : Int32))), (.ref r0)]) _
    refine XS.iconst X0.here hx rfl (hb hby d3_11) ?_
    refine XS.isub X0.here hx rfl (hb hby d3_12) rfl ?_
    show Sp p e below s₁ (mkF m 13 (lt13 r0 ((2 : Int32) - (1 : Int32))) [(.int (((2 : Int32) - (1 : Int32)) - (1 : Int32))), (.ref r0)]) _
    refine X0.baloadBytes hx (j := (((2 : Int32) - (1 : Int32)) - (1 : Int32))) (v := (.int x_r0_0)) (by rw [e0]; exact Ar78.1) (State.isArrayOf_alike hZ.alike Ar78.2.1) Ar78.2.2 hin78 hat78 (g := (mkF m 13 (lt13 r0 ((2 : Int32) - (1 : Int32))) [(.int (((2 : Int32) - (1 : Int32)) - (1 : Int32))), (.ref r0)])) rfl rfl (hb hby d3_13) _ ?_
    show Sp p e below s₁ (mkF m 14 (lt13 r0 ((2 : Int32) - (1 : Int32))) [(.int x_r0_0)]) _
    refine XS.bipush X0.here hx rfl (hb hby d3_14) ?_
    show Sp p e below s₁ (mkF m 16 (lt13 r0 ((2 : Int32) - (1 : Int32))) [(.int (13 : Int32)), (.int x_r0_0)]) _
    refine XS.icmpNo X0.here hx rfl (hb hby d3_16) rfl (teq as0).2 ?_
    show Sp p e below s₁ (mkF m 19 (lt13 r0 ((2 : Int32) - (1 : Int32))) []) _
    refine XS.iinc X0.here hx rfl (hb hby d3_19) rfl (l' := (lt13 r0 (((2 : Int32) - (1 : Int32)) + (-1 : Int32)))) rfl ?_
    show Sp p e below s₁ (mkF m 22 (lt13 r0 (((2 : Int32) - (1 : Int32)) + (-1 : Int32))) []) _
    refine st79 _ ?_
    show Sp p e below T79 (mkF m 25 (lt13 r0 (((2 : Int32) - (1 : Int32)) + (-1 : Int32))) [(.ref b79)]) _
    refine XS.dup X79.here hx rfl (hb hby d3_25) rfl rfl ?_
    refine XS.aloadN X79.here hx rfl (hb hby d3_26) rfl rfl ?_
    show Sp p e below T79 (mkF m 27 (lt13 r0 (((2 : Int32) - (1 : Int32)) + (-1 : Int32))) [(.ref r0), (.ref b79), (.ref b79)]) _
    refine XS.iconst X79.here hx rfl (hb hby d3_27) ?_
    refine XS.iloadN X79.here hx rfl (hb hby d3_28) rfl ?_
    show Sp p e below T79 (mkF m 29 (lt13 r0 (((2 : Int32) - (1 : Int32)) + (-1 : Int32))) [(.int (((2 : Int32) - (1 : Int32)) + (-1 : Int32))), (.int (0 : Int32)), (.ref r0), (.ref b79), (.ref b79)]) _
    refine st80 _ ?_
    show Sp p e below T80 (mkF m 32 (lt13 r0 (((2 : Int32) - (1 : Int32)) + (-1 : Int32))) [(.ref w_1), (.int (((2 : Int32) - (1 : Int32)) + (-1 : Int32))), (.int (0 : Int32)), (.ref r0), (.ref b79), (.ref b79)]) _
    exact kt
  obtain ⟨_, _, ⟨T106, L106, k106, n106⟩, -, X106, hSi, -, ⟨Lc106, hQ106, l106, y106, z106⟩, st106⟩ := X80.specialBackS hx (y := Y22) rfl hown (mvT hZ (hw _ (tk 17 rfl))) (mvT hZ (hw _ (tk 18 rfl))) (mvT hZ (hw _ (tk 19 rfl))) (by decide) (own_backSZ (W := 1) (rm4x2 l Z a0 hw hv wS hEL [] w_1 w_2 w_4 w_5 hS0 b79 r0 k_r0 x_r0_0 x_r0_1 h79 n0 O79 g_b79 g_r0 A79 F_coder_b79 F_value_b79 c105 (Ne.symm ne_r0_b79)) hZ (hw _ (tk 19 rfl)) (hw _ (tk 14 rfl)) (by decide) (by decide) hEL hC) (g := (mkF m 32 (lt13 r0 (((2 : Int32) - (1 : Int32)) + (-1 : Int32))) [(.ref w_1), (.int (((2 : Int32) - (1 : Int32)) + (-1 : Int32))), (.int (0 : Int32)), (.ref r0), (.ref b79), (.ref b79)])) rfl (by rw [hml]; rfl) (Steps.refl _) (a := b79) (argsL := [(.ref r0), (.int (0 : Int32)), (.int (((2 : Int32) - (1 : Int32)) + (-1 : Int32))), (.ref w_1)]) (rest := [(.ref b79)]) (lenOf pd_6 rfl) rfl (by show 2 * 0 + _ ≤ _; exact Nat.le_of_eq rfl) (hb hby d3_32) (fun _ _ => ⟨rfl, e80, (by decide : 1 + 2 ≤ _), (by decide : 4 + 4 ≤ _)⟩)
  dsimp only [Pt.U, Pt.locs, Pt.cells, Pt.slots] at X106 l106 y106 z106 st106 hQ106
  subst l106 y106 z106
  have hki := Nat.le_refl T106.heap.size
  have hZ : Z.Warmed39 (s.setVm T106.vm).vm := State.Warmed39.trans hZ hSi.1
  have hown : (s.setVm T106.vm).vm.findClass "com/example/bristlecone/bristlecone/io/HttpLine" = some m.cls := by rw [show (s.setVm T106.vm).vm = T106.vm from rfl, hSi.1.alike.findClass]; exact hown
  obtain ⟨b108, k109, rv106, N106q, O106, K106c, Fe106_0, Fe106_1, Fx106_0, Fx106_1, Fx106_2⟩ := hQ106
  subst rv106
  have N106 := Fr.app N0 N106q
  have K106 : Keep h0 T106.heap [] := K79.trans K106c (allS (Or.inr sz_b79) all0)
  obtain ⟨fs, hr, hrun, hended, hRW⟩ := leaveW (s := s) (vm₁ := T106.vm) X106 hSi (n := _) (hki) (v := some (.ref b79)) (fun h => by rw [Bd.returns] at h; cases h)
  have c110 := (A79.keep K106c)
  refine ⟨_, _, pre107 _ ?_, hrun, hended, _, _, rfl, ?_, hRW.1, hRW.2.1, hRW.2.2.1, hRW.2.2.2.mono (by decide) (by decide)⟩
  · refine st106.trans ?_
    show Sp p e below T106 (mkF m 35 (lt13 r0 (((2 : Int32) - (1 : Int32)) + (-1 : Int32))) [(.ref b79)]) _
    jvm_step X106.here [X106.here.top, hx, (hb hby d3_35), X106.method', Bd.returns, Value.isRef, FieldType.isReference]
    first | (intro acts; rw [hr _ acts rfl rfl rfl]) | rw [hr _ _ rfl rfl rfl]
    exact Steps.refl _
  · show Q3x2 Z w_1 w_2 w_4 w_5 r0 k_r0 x_r0_0 x_r0_1 h0 n0 _ T106.heap _
    exact ⟨b79, b108, k109, rfl, N106, O106, K106, g_b79, sz_b79, c110, Fe106_1, Fe106_0, trivial, Fx106_2, (Ne.symm Fx106_1)⟩
theorem pn_7u3x3 : plainName "jdk/internal/util/Preconditions" = true := by first | (simp [plainName, overriddenIn]; done) | decide +kernel
theorem ef_7u3x3 (m : MethodId) (u3 : Value) (i_u3 : u3.isRef = true) : entryFrame m #[(.int (0 : Int32)), (.int ((2 : Int32) - (1 : Int32))), (.int (2 : Int32)), u3] 4 = mkF m 0 #[.val (.int (0 : Int32)), .val (.int ((2 : Int32) - (1 : Int32))), .val (.int (2 : Int32)), .val u3] [] := by rcases ref_cases i_u3 with rfl | ⟨z_u3, rfl⟩ <;> first | (simp [entryFrame, mkF, argsToLocals, Value.category]; done) | rfl
def Q7u3x3 (Z : State) (w_1 : Addr) (w_2 : Addr) (w_4 : Int32) (w_5 : Value) (u3 : Value) (h0 : Heap) (n0 : Nat) (v : Option Value) (h : Heap) (L : List Loc) : Prop := v = some (.int (0 : Int32)) ∧ Fr n0 L ∧ h = h0
set_option maxRecDepth 65536 in
set_option maxHeartbeats 40000000 in
theorem rm7u3x3 (l : Launch) (Z : State) (a0 : Array Value) (hw : ∀ d ∈ tables_1, d.before a0 Z = true) (hv : ∀ d ∈ jdkStatics_1, d.before a0 Z = true) (ws : List Jvm.Cond) (w_1 : Addr) (w_2 : Addr) (w_4 : Int32) (w_5 : Value) (hS : StF Z w_1 w_2 w_4 w_5) (u3 : Value) (h0 : Heap) (n0 : Nat) (O0 : Old Z n0 h0) (i_u3 : u3.isRef = true) :
    MetFree l Y18 (head1 (Jvm.Cond.code Y18 jdk_41_method_13_code 4 (some .int) :: ws) ({ frames := 0, cells := 0, slots := 0, locals := 0 } : Room)) (fun a U => a = #[(.int (0 : Int32)), (.int ((2 : Int32) - (1 : Int32))), (.int (2 : Int32)), u3] ∧ Z.Warmed39 U.vm ∧ U.heap = h0) (fun _ _ _ _ _ => True) (fun _ U o U' => ∃ v L, o = .returned v ∧ Q7u3x3 Z w_1 w_2 w_4 w_5 u3 h0 n0 v U'.heap L ∧ FrameEnd U o U' L ({ frames := 0, cells := 0, slots := 0, locals := 0 } : Room).cells ({ frames := 0, cells := 0, slots := 0, locals := 0 } : Room).slots) := by
  refine MetFree.of_bodySF (plainFor_of_name pn_7u3x3) hisR ?_
  intro p e s m args below meth c s₁ Bd hml0 hP hK
  obtain ⟨rfl, hZ, hh⟩ := hP
  have hx := Bd.exec
  have hby := Bd.bytes
  have hml : c.maxLocals = 4 := hml0
  have hown : s.vm.findClass "jdk/internal/util/Preconditions" = some m.cls := findClass_of_methodNamed Bd.named
  have hnm := (name_of_methodNamed Bd.named Bd.method).1
  have X0 : Stand p l e ({ frames := 0, cells := 0, slots := 0, locals := 0 } : Room) s m #[(.int (0 : Int32)), (.int ((2 : Int32) - (1 : Int32))), (.int (2 : Int32)), u3] below meth c s₁ [] 0 0 := Stand.of_body Bd
  have e0 : s₁.heap = h0 := by rw [← hh, Bd.state]; rfl
  have N0 := Fr.nil n0
  have hS0 := hS
  obtain ⟨S_1, E_1, S_2, E_2, S_3, E_3, S_4, NE_4, S_5, IR_5⟩ := hS
  have pre0 : ∀ t, Steps p.tables e below (s₁.setTop (mkF m 0 #[.val (.int (0 : Int32)), .val (.int ((2 : Int32) - (1 : Int32))), .val (.int (2 : Int32)), .val u3] [])) t → Steps p.tables e below (s₁.setTop (entryFrame m #[(.int (0 : Int32)), (.int ((2 : Int32) - (1 : Int32))), (.int (2 : Int32)), u3] 4)) t := fun t k => castTop (ef_7u3x3 m u3 i_u3) k
  generalize hE0 : s₁.setTop (entryFrame m #[(.int (0 : Int32)), (.int ((2 : Int32) - (1 : Int32))), (.int (2 : Int32)), u3] 4) = E0 at pre0 ⊢
  obtain ⟨fs, hr, hrun, hended, hW, hsame⟩ := X0.leave (v := some (.int (0 : Int32))) (fun h => by rw [Bd.returns] at h; cases h)
  refine ⟨_, _, pre0 _ ?_, hrun, hended, _, _, rfl, ?_, ⟨_, rfl⟩, hW, hsame.mono (by decide) (by decide)⟩
  · show Sp p e below s₁ (mkF m 0 (lt15 (0 : Int32) ((2 : Int32) - (1 : Int32)) (2 : Int32) u3) []) _
    refine XS.iloadN X0.here hx rfl (hb hby d7_0) rfl ?_
    refine XS.iloadN X0.here hx rfl (hb hby d7_1) rfl ?_
    show Sp p e below s₁ (mkF m 2 (lt15 (0 : Int32) ((2 : Int32) - (1 : Int32)) (2 : Int32) u3) [(.int (0 : Int32)), (.int (2 : Int32))]) _
    refine XS.ior X0.here hx rfl (hb hby d7_2) rfl ?_
    refine XS.iloadN X0.here hx rfl (hb hby d7_3) rfl ?_
    show Sp p e below s₁ (mkF m 4 (lt15 (0 : Int32) ((2 : Int32) - (1 : Int32)) (2 : Int32) u3) [(.int ((2 : Int32) - (1 : Int32))), (.int ((2 : Int32) ||| (0 : Int32)))]) _
    refine XS.ior X0.here hx rfl (hb hby d7_4) rfl ?_
    show Sp p e below s₁ (mkF m 5 (lt15 (0 : Int32) ((2 : Int32) - (1 : Int32)) (2 : Int32) u3) [(.int (((2 : Int32) ||| (0 : Int32)) ||| ((2 : Int32) - (1 : Int32))))]) _
    refine XS.ifNo X0.here hx rfl (hb hby d7_5) rfl ((if0 _ _).trans (flt (by decide : ¬ ((((2 : Int32) ||| (0 : Int32)) ||| ((2 : Int32) - (1 : Int32))) < (0 : Int32)))).1) ?_
    show Sp p e below s₁ (mkF m 8 (lt15 (0 : Int32) ((2 : Int32) - (1 : Int32)) (2 : Int32) u3) []) _
    refine XS.iloadN X0.here hx rfl (hb hby d7_8) rfl ?_
    refine XS.iloadN X0.here hx rfl (hb hby d7_9) rfl ?_
    show Sp p e below s₁ (mkF m 10 (lt15 (0 : Int32) ((2 : Int32) - (1 : Int32)) (2 : Int32) u3) [(.int (2 : Int32)), (.int ((2 : Int32) - (1 : Int32)))]) _
    refine XS.iloadN X0.here hx rfl (hb hby d7_10) rfl ?_
    refine XS.isub X0.here hx rfl (hb hby d7_11) rfl ?_
    show Sp p e below s₁ (mkF m 12 (lt15 (0 : Int32) ((2 : Int32) - (1 : Int32)) (2 : Int32) u3) [(.int ((2 : Int32) - (0 : Int32))), (.int ((2 : Int32) - (1 : Int32)))]) _
    refine XS.icmpYes X0.here hx rfl (pc0 := 12) (pc' := 23) rfl (hb hby d7_12) rfl (flt (by decide : ¬ (((2 : Int32) - (0 : Int32)) < ((2 : Int32) - (1 : Int32))))).2.2.2 (by decide) (by decide) ?_
    show Sp p e below s₁ (mkF m 23 (lt15 (0 : Int32) ((2 : Int32) - (1 : Int32)) (2 : Int32) u3) []) _
    refine XS.iloadN X0.here hx rfl (hb hby d7_23) rfl ?_
    show Sp p e below s₁ (mkF m 24 (lt15 (0 : Int32) ((2 : Int32) - (1 : Int32)) (2 : Int32) u3) [(.int (0 : Int32))]) _
    exact retI X0 hx Bd.returns (hb hby d7_24) hr
  · show Q7u3x3 Z w_1 w_2 w_4 w_5 u3 h0 n0 _ s₁.heap _
    rw [e0]
    exact ⟨rfl, N0, rfl⟩
theorem pn_6x3 : plainName "java/lang/String" = true := by first | (simp [plainName, overriddenIn]; done) | decide +kernel
theorem ef_6x3 (m : MethodId)  : entryFrame m #[(.int (0 : Int32)), (.int ((2 : Int32) - (1 : Int32))), (.int (2 : Int32))] 3 = mkF m 0 #[.val (.int (0 : Int32)), .val (.int ((2 : Int32) - (1 : Int32))), .val (.int (2 : Int32))] [] := by first | (simp [entryFrame, mkF, argsToLocals, Value.category]; done) | rfl
def Q6x3 (Z : State) (w_1 : Addr) (w_2 : Addr) (w_4 : Int32) (w_5 : Value) (h0 : Heap) (n0 : Nat) (v : Option Value) (h : Heap) (L : List Loc) : Prop := v = some (.int (0 : Int32)) ∧ Fr n0 L ∧ h = h0
set_option maxRecDepth 65536 in
set_option maxHeartbeats 40000000 in
theorem rm6x3 (l : Launch) (Z : State) (a0 : Array Value) (hw : ∀ d ∈ tables_1, d.before a0 Z = true) (hv : ∀ d ∈ jdkStatics_1, d.before a0 Z = true) (ws : List Jvm.Cond) (w_1 : Addr) (w_2 : Addr) (w_4 : Int32) (w_5 : Value) (hS : StF Z w_1 w_2 w_4 w_5) (h0 : Heap) (n0 : Nat) (O0 : Old Z n0 h0) :
    MetFree l Y19 (head1 (Jvm.Cond.code Y19 jdk_42_method_157_code 3 (some .int) :: ws) ({ frames := 1, cells := 0, slots := 0, locals := 15 } : Room)) (fun a U => a = #[(.int (0 : Int32)), (.int ((2 : Int32) - (1 : Int32))), (.int (2 : Int32))] ∧ Z.Warmed39 U.vm ∧ U.heap = h0) (fun _ _ _ _ _ => True) (fun _ U o U' => ∃ v L, o = .returned v ∧ Q6x3 Z w_1 w_2 w_4 w_5 h0 n0 v U'.heap L ∧ FrameEnd U o U' L ({ frames := 1, cells := 0, slots := 0, locals := 15 } : Room).cells ({ frames := 1, cells := 0, slots := 0, locals := 15 } : Room).slots) := by
  refine MetFree.of_bodySF (plainFor_of_name pn_6x3) hisR ?_
  intro p e s m args below meth c s₁ Bd hml0 hP hK
  obtain ⟨rfl, hZ, hh⟩ := hP
  have hx := Bd.exec
  have hby := Bd.bytes
  have hml : c.maxLocals = 3 := hml0
  have hown : s.vm.findClass "java/lang/String" = some m.cls := findClass_of_methodNamed Bd.named
  have hnm := (name_of_methodNamed Bd.named Bd.method).1
  have X0 : Stand p l e ({ frames := 1, cells := 0, slots := 0, locals := 15 } : Room) s m #[(.int (0 : Int32)), (.int ((2 : Int32) - (1 : Int32))), (.int (2 : Int32))] below meth c s₁ [] 0 0 := Stand.of_body Bd
  have e0 : s₁.heap = h0 := by rw [← hh, Bd.state]; rfl
  have N0 := Fr.nil n0
  have hS0 := hS
  obtain ⟨S_1, E_1, S_2, E_2, S_3, E_3, S_4, NE_4, S_5, IR_5⟩ := hS
  have pre0 : ∀ t, Steps p.tables e below (s₁.setTop (mkF m 0 #[.val (.int (0 : Int32)), .val (.int ((2 : Int32) - (1 : Int32))), .val (.int (2 : Int32))] [])) t → Steps p.tables e below (s₁.setTop (entryFrame m #[(.int (0 : Int32)), (.int ((2 : Int32) - (1 : Int32))), (.int (2 : Int32))] 3)) t := fun t k => castTop (ef_6x3 m ) k
  generalize hE0 : s₁.setTop (entryFrame m #[(.int (0 : Int32)), (.int ((2 : Int32) - (1 : Int32))), (.int (2 : Int32))] 3) = E0 at pre0 ⊢
  obtain ⟨T127, X127, e127, st127⟩ := getS2 X0 hx hZ hown (host := "") (Or.inl (hw _ (tk 29 rfl))) Via.refl e0 (S_5.ext O0.2) (g := (mkF m 3 (lt4 (0 : Int32) ((2 : Int32) - (1 : Int32)) (2 : Int32)) [(.int (2 : Int32)), (.int ((2 : Int32) - (1 : Int32))), (.int (0 : Int32))])) rfl (hb hby d6_3)
  obtain ⟨_, _, ⟨T128, L128, k128, n128⟩, -, X128, ⟨Lc128, hQ128, l128, y128, z128⟩, st128⟩ := Jvm.LawKit.callS X127 hx (y := Y18) hown (mvT hZ (hw _ (tk 31 rfl))) (mvT hZ (hw _ (tk 32 rfl))) (mvT hZ (hw _ (tk 30 rfl))) (mvT hZ (hw _ (tk 33 rfl))) (by decide) (backOf (W := 0) (rm7u3x3 l Z a0 hw hv [] w_1 w_2 w_4 w_5 hS0 w_5 h0 n0 O0 IR_5) hZ (hw _ (tk 33 rfl)) (hw _ (tk 30 rfl)) (by decide) (by decide)) (g := (mkF m 6 (lt4 (0 : Int32) ((2 : Int32) - (1 : Int32)) (2 : Int32)) [w_5, (.int (2 : Int32)), (.int ((2 : Int32) - (1 : Int32))), (.int (0 : Int32))])) rfl (by rw [hml]; rfl) (argsL := [(.int (0 : Int32)), (.int ((2 : Int32) - (1 : Int32))), (.int (2 : Int32)), w_5]) (rest := []) (lenOf pd_3 rfl) rfl (by show 2 * 0 + _ ≤ _; exact Nat.le_of_eq rfl) (hb hby d6_6) (fun _ _ => ⟨rfl, e127, (by decide : 0 + 0 ≤ _), (by decide : 0 + 0 ≤ _)⟩)
  dsimp only [Pt.U, Pt.locs, Pt.cells, Pt.slots] at X128 l128 y128 z128 st128 hQ128
  subst l128 y128 z128
  obtain ⟨rv128, N128q, e128⟩ := hQ128
  subst rv128
  have N128 := Fr.app N0 N128q
  obtain ⟨fs, hr, hrun, hended, hW, hsame⟩ := X128.leave (v := some (.int (0 : Int32))) (fun h => by rw [Bd.returns] at h; cases h)
  refine ⟨_, _, pre0 _ ?_, hrun, hended, _, _, rfl, ?_, ⟨_, rfl⟩, hW, hsame.mono (by decide) (by decide)⟩
  · show Sp p e below s₁ (mkF m 0 (lt4 (0 : Int32) ((2 : Int32) - (1 : Int32)) (2 : Int32)) []) _
    refine XS.iloadN X0.here hx rfl (hb hby d6_0) rfl ?_
    refine XS.iloadN X0.here hx rfl (hb hby d6_1) rfl ?_
    show Sp p e below s₁ (mkF m 2 (lt4 (0 : Int32) ((2 : Int32) - (1 : Int32)) (2 : Int32)) [(.int ((2 : Int32) - (1 : Int32))), (.int (0 : Int32))]) _
    refine XS.iloadN X0.here hx rfl (hb hby d6_2) rfl ?_
    show Sp p e below s₁ (mkF m 3 (lt4 (0 : Int32) ((2 : Int32) - (1 : Int32)) (2 : Int32)) [(.int (2 : Int32)), (.int ((2 : Int32) - (1 : Int32))), (.int (0 : Int32))]) _
    refine st127 _ ?_
    show Sp p e below T127 (mkF m 6 (lt4 (0 : Int32) ((2 : Int32) - (1 : Int32)) (2 : Int32)) [w_5, (.int (2 : Int32)), (.int ((2 : Int32) - (1 : Int32))), (.int (0 : Int32))]) _
    refine st128 _ ?_
    show Sp p e below T128 (mkF m 9 (lt4 (0 : Int32) ((2 : Int32) - (1 : Int32)) (2 : Int32)) [(.int (0 : Int32))]) _
    exact retI X128 hx Bd.returns (hb hby d6_9) hr
  · show Q6x3 Z w_1 w_2 w_4 w_5 h0 n0 _ T128.heap _
    rw [e128]
    exact ⟨rfl, N128, rfl⟩
theorem pn_13x1 : plainName "java/util/Arrays" = true := by first | (simp [plainName, overriddenIn]; done) | decide +kernel
theorem ef_13x1 (m : MethodId)  : entryFrame m #[(.int (0 : Int32)), (.int ((0 : Int32) + ((2 : Int32) - (1 : Int32))))] 2 = mkF m 0 #[.val (.int (0 : Int32)), .val (.int ((0 : Int32) + ((2 : Int32) - (1 : Int32))))] [] := by first | (simp [entryFrame, mkF, argsToLocals, Value.category]; done) | rfl
def Q13x1 (Z : State) (w_1 : Addr) (w_2 : Addr) (w_4 : Int32) (w_5 : Value) (h0 : Heap) (n0 : Nat) (v : Option Value) (h : Heap) (L : List Loc) : Prop := v = none ∧ Fr n0 L ∧ h = h0
set_option maxRecDepth 65536 in
set_option maxHeartbeats 40000000 in
theorem rm13x1 (l : Launch) (Z : State) (a0 : Array Value) (hw : ∀ d ∈ tables_1, d.before a0 Z = true) (hv : ∀ d ∈ jdkStatics_1, d.before a0 Z = true) (ws : List Jvm.Cond) (w_1 : Addr) (w_2 : Addr) (w_4 : Int32) (w_5 : Value) (hS : StF Z w_1 w_2 w_4 w_5) (h0 : Heap) (n0 : Nat) (O0 : Old Z n0 h0) :
    MetFree l Y29 (head1 (Jvm.Cond.code Y29 jdk_65_method_131_code 2 none :: ws) ({ frames := 0, cells := 0, slots := 0, locals := 0 } : Room)) (fun a U => a = #[(.int (0 : Int32)), (.int ((0 : Int32) + ((2 : Int32) - (1 : Int32))))] ∧ Z.Warmed39 U.vm ∧ U.heap = h0) (fun _ _ _ _ _ => True) (fun _ U o U' => ∃ v L, o = .returned v ∧ Q13x1 Z w_1 w_2 w_4 w_5 h0 n0 v U'.heap L ∧ FrameEnd U o U' L ({ frames := 0, cells := 0, slots := 0, locals := 0 } : Room).cells ({ frames := 0, cells := 0, slots := 0, locals := 0 } : Room).slots) := by
  refine MetFree.of_bodySF (plainFor_of_name pn_13x1) hisR ?_
  intro p e s m args below meth c s₁ Bd hml0 hP hK
  obtain ⟨rfl, hZ, hh⟩ := hP
  have hx := Bd.exec
  have hby := Bd.bytes
  have hml : c.maxLocals = 2 := hml0
  have hown : s.vm.findClass "java/util/Arrays" = some m.cls := findClass_of_methodNamed Bd.named
  have hnm := (name_of_methodNamed Bd.named Bd.method).1
  have X0 : Stand p l e ({ frames := 0, cells := 0, slots := 0, locals := 0 } : Room) s m #[(.int (0 : Int32)), (.int ((0 : Int32) + ((2 : Int32) - (1 : Int32))))] below meth c s₁ [] 0 0 := Stand.of_body Bd
  have e0 : s₁.heap = h0 := by rw [← hh, Bd.state]; rfl
  have N0 := Fr.nil n0
  have hS0 := hS
  obtain ⟨S_1, E_1, S_2, E_2, S_3, E_3, S_4, NE_4, S_5, IR_5⟩ := hS
  have pre0 : ∀ t, Steps p.tables e below (s₁.setTop (mkF m 0 #[.val (.int (0 : Int32)), .val (.int ((0 : Int32) + ((2 : Int32) - (1 : Int32))))] [])) t → Steps p.tables e below (s₁.setTop (entryFrame m #[(.int (0 : Int32)), (.int ((0 : Int32) + ((2 : Int32) - (1 : Int32))))] 2)) t := fun t k => castTop (ef_13x1 m ) k
  generalize hE0 : s₁.setTop (entryFrame m #[(.int (0 : Int32)), (.int ((0 : Int32) + ((2 : Int32) - (1 : Int32))))] 2) = E0 at pre0 ⊢
  obtain ⟨fs, hr, hrun, hended, hW, hsame⟩ := X0.leave (v := none) (fun _ => rfl)
  refine ⟨_, _, pre0 _ ?_, hrun, hended, _, _, rfl, ?_, ⟨_, rfl⟩, hW, hsame.mono (by decide) (by decide)⟩
  · show Sp p e below s₁ (mkF m 0 (lt20 (0 : Int32) ((0 : Int32) + ((2 : Int32) - (1 : Int32)))) []) _
    refine XS.iloadN X0.here hx rfl (hb hby d13_0) rfl ?_
    refine XS.iloadN X0.here hx rfl (hb hby d13_1) rfl ?_
    show Sp p e below s₁ (mkF m 2 (lt20 (0 : Int32) ((0 : Int32) + ((2 : Int32) - (1 : Int32)))) [(.int (0 : Int32)), (.int ((0 : Int32) + ((2 : Int32) - (1 : Int32))))]) _
    refine XS.icmpYes X0.here hx rfl (pc0 := 2) (pc' := 37) rfl (hb hby d13_2) rfl (flt (by decide : ¬ (((0 : Int32) + ((2 : Int32) - (1 : Int32))) < (0 : Int32)))).2.1 (by decide) (by decide) ?_
    show Sp p e below s₁ (mkF m 37 (lt20 (0 : Int32) ((0 : Int32) + ((2 : Int32) - (1 : Int32)))) []) _
    exact X0.returnOut hx Bd.returns (hb hby d13_37) hr
  · show Q13x1 Z w_1 w_2 w_4 w_5 h0 n0 _ s₁.heap _
    rw [e0]
    exact ⟨rfl, N0, rfl⟩
theorem ef_14 (m : MethodId) (p0 : Int32) (p1 : Int32) : entryFrame m #[(.int p0), (.int p1)] 2 = mkF m 0 #[.val (.int p0), .val (.int p1)] [] := by first | (simp [entryFrame, mkF, argsToLocals, Value.category]; done) | rfl
def sp14 (p0 : Int32) (p1 : Int32) : Int32 := (if p1 < p0 then p1 else p0)
def Q14 (Z : State) (w_1 : Addr) (w_2 : Addr) (w_4 : Int32) (w_5 : Value) (p0 : Int32) (p1 : Int32) (h0 : Heap) (n0 : Nat) (v : Option Value) (h : Heap) (L : List Loc) : Prop := v = some (.int (sp14 p0 p1)) ∧ Fr n0 L ∧ h = h0
set_option maxRecDepth 65536 in
set_option maxHeartbeats 40000000 in
theorem rm14 (l : Launch) (Z : State) (a0 : Array Value) (hw : ∀ d ∈ tables_1, d.before a0 Z = true) (hv : ∀ d ∈ jdkStatics_1, d.before a0 Z = true) (ws : List Jvm.Cond) (w_1 : Addr) (w_2 : Addr) (w_4 : Int32) (w_5 : Value) (hS : StF Z w_1 w_2 w_4 w_5) (p0 : Int32) (p1 : Int32) (h0 : Heap) (n0 : Nat) (O0 : Old Z n0 h0) :
    MetFree l Y32 (head1 (Jvm.Cond.code Y32 jdk_29_method_69_code 2 (some .int) :: ws) ({ frames := 0, cells := 0, slots := 0, locals := 0 } : Room)) (fun a U => a = #[(.int p0), (.int p1)] ∧ Z.Warmed39 U.vm ∧ U.heap = h0) (fun _ _ _ _ _ => True) (fun _ U o U' => ∃ v L, o = .returned v ∧ Q14 Z w_1 w_2 w_4 w_5 p0 p1 h0 n0 v U'.heap L ∧ FrameEnd U o U' L ({ frames := 0, cells := 0, slots := 0, locals := 0 } : Room).cells ({ frames := 0, cells := 0, slots := 0, locals := 0 } : Room).slots) := by
  refine MetFree.of_bodySF (Jvm.Free.JP.mathPlain rfl (by decide +kernel)) hisR ?_
  intro p e s m args below meth c s₁ Bd hml0 hP hK
  obtain ⟨rfl, hZ, hh⟩ := hP
  have hx := Bd.exec
  have hby := Bd.bytes
  have hml : c.maxLocals = 2 := hml0
  have hown : s.vm.findClass "java/lang/Math" = some m.cls := findClass_of_methodNamed Bd.named
  have hnm := (name_of_methodNamed Bd.named Bd.method).1
  have X0 : Stand p l e ({ frames := 0, cells := 0, slots := 0, locals := 0 } : Room) s m #[(.int p0), (.int p1)] below meth c s₁ [] 0 0 := Stand.of_body Bd
  have e0 : s₁.heap = h0 := by rw [← hh, Bd.state]; rfl
  have N0 := Fr.nil n0
  have hS0 := hS
  obtain ⟨S_1, E_1, S_2, E_2, S_3, E_3, S_4, NE_4, S_5, IR_5⟩ := hS
  have pre0 : ∀ t, Steps p.tables e below (s₁.setTop (mkF m 0 #[.val (.int p0), .val (.int p1)] [])) t → Steps p.tables e below (s₁.setTop (entryFrame m #[(.int p0), (.int p1)] 2)) t := fun t k => castTop (ef_14 m p0 p1) k
  generalize hE0 : s₁.setTop (entryFrame m #[(.int p0), (.int p1)] 2) = E0 at pre0 ⊢
  have pre139 : Cm p e below E0 (s₁.setTop (mkF m 2 (lt20 p0 p1) [(.int p1), (.int p0)])) := fun t kt => by
    refine pre0 t ?_
    show Sp p e below s₁ (mkF m 0 (lt20 p0 p1) []) _
    refine XS.iloadN X0.here hx rfl (hb hby d14_0) rfl ?_
    refine XS.iloadN X0.here hx rfl (hb hby d14_1) rfl ?_
    show Sp p e below s₁ (mkF m 2 (lt20 p0 p1) [(.int p1), (.int p0)]) _
    exact kt
  by_cases hc140 : p1 < p0
  · obtain ⟨fs, hr, hrun, hended, hW, hsame⟩ := X0.leave (v := some (.int p1)) (fun h => by rw [Bd.returns] at h; cases h)
    refine ⟨_, _, pre139 _ ?_, hrun, hended, _, _, rfl, ?_, ⟨_, rfl⟩, hW, hsame.mono (by decide) (by decide)⟩
    · show Sp p e below s₁ (mkF m 2 (lt20 p0 p1) [(.int p1), (.int p0)]) _
      refine XS.icmpYes X0.here hx rfl (pc0 := 2) (pc' := 9) rfl (hb hby d14_2) rfl (tlt hc140).2.2.1 (by decide) (by decide) ?_
      show Sp p e below s₁ (mkF m 9 (lt20 p0 p1) []) _
      refine XS.iloadN X0.here hx rfl (hb hby d14_9) rfl ?_
      show Sp p e below s₁ (mkF m 10 (lt20 p0 p1) [(.int p1)]) _
      exact retI X0 hx Bd.returns (hb hby d14_10) hr
    · show Q14 Z w_1 w_2 w_4 w_5 p0 p1 h0 n0 _ s₁.heap _
      rw [e0]
      exact ⟨by unfold sp14; rw [if_pos hc140], N0, rfl⟩
  · obtain ⟨fs, hr, hrun, hended, hW, hsame⟩ := X0.leave (v := some (.int p0)) (fun h => by rw [Bd.returns] at h; cases h)
    refine ⟨_, _, pre139 _ ?_, hrun, hended, _, _, rfl, ?_, ⟨_, rfl⟩, hW, hsame.mono (by decide) (by decide)⟩
    · show Sp p e below s₁ (mkF m 2 (lt20 p0 p1) [(.int p1), (.int p0)]) _
      refine XS.icmpNo X0.here hx rfl (hb hby d14_2) rfl (flt hc140).2.2.1 ?_
      show Sp p e below s₁ (mkF m 5 (lt20 p0 p1) []) _
      refine XS.iloadN X0.here hx rfl (hb hby d14_5) rfl ?_
      show Sp p e below s₁ (mkF m 6 (lt20 p0 p1) [(.int p0)]) _
      refine XS.goto X0.here hx rfl (pc0 := 6) (pc' := 10) rfl (hb hby d14_6) (by decide) (by decide) ?_
      show Sp p e below s₁ (mkF m 10 (lt20 p0 p1) [(.int p0)]) _
      exact retI X0 hx Bd.returns (hb hby d14_10) hr
    · show Q14 Z w_1 w_2 w_4 w_5 p0 p1 h0 n0 _ s₁.heap _
      rw [e0]
      exact ⟨by unfold sp14; rw [if_neg hc140], N0, rfl⟩
theorem pn_12x1 : plainName "java/util/Arrays" = true := by first | (simp [plainName, overriddenIn]; done) | decide +kernel
theorem ef_12x1 (m : MethodId) (r0 : Addr) : entryFrame m #[(.ref r0), (.int (0 : Int32)), (.int ((0 : Int32) + ((2 : Int32) - (1 : Int32))))] 5 = mkF m 0 #[.val (.ref r0), .val (.int (0 : Int32)), .val (.int ((0 : Int32) + ((2 : Int32) - (1 : Int32)))), .unset, .unset] [] := by first | (simp [entryFrame, mkF, argsToLocals, Value.category]; done) | rfl
def Q12x1 (Z : State) (w_1 : Addr) (w_2 : Addr) (w_4 : Int32) (w_5 : Value) (r0 : Addr) (k_r0 : ClassId) (x_r0_0 : Int32) (x_r0_1 : Int32) (h0 : Heap) (n0 : Nat) (v : Option Value) (h : Heap) (L : List Loc) : Prop := ∃ (b136 : Addr) (k136 : ClassId), v = some (.ref b136) ∧ Fr n0 L ∧ Old Z n0 h ∧ Keep h0 h [] ∧ n0 ≤ b136 ∧ h0.size ≤ b136 ∧ Arv Z h b136 k136 .byte (((0 : Int32) + ((2 : Int32) - (1 : Int32))) - (0 : Int32)) [(.int x_r0_0)] (.int (0 : Int32))
set_option maxRecDepth 65536 in
set_option maxHeartbeats 40000000 in
theorem rm12x1 (l : Launch) (Z : State) (a0 : Array Value) (hw : ∀ d ∈ tables_1, d.before a0 Z = true) (hv : ∀ d ∈ jdkStatics_1, d.before a0 Z = true) (ws : List Jvm.Cond) (w_1 : Addr) (w_2 : Addr) (w_4 : Int32) (w_5 : Value) (hS : StF Z w_1 w_2 w_4 w_5) (r0 : Addr) (k_r0 : ClassId) (x_r0_0 : Int32) (x_r0_1 : Int32) (h0 : Heap) (n0 : Nat) (O0 : Old Z n0 h0) (g_r0 : n0 ≤ r0) (V_r0 : Arv Z h0 r0 k_r0 .byte (2 : Int32) [(.int x_r0_0), (.int x_r0_1)] (.int (0 : Int32))) :
    MetFree l Y33 (head1 (Jvm.Cond.code Y33 jdk_65_method_133_code 5 (some (.array .byte)) :: ws) ({ frames := 1, cells := 1, slots := 1, locals := 18 } : Room)) (fun a U => a = #[(.ref r0), (.int (0 : Int32)), (.int ((0 : Int32) + ((2 : Int32) - (1 : Int32))))] ∧ Z.Warmed39 U.vm ∧ U.heap = h0) (fun _ _ _ _ _ => True) (fun _ U o U' => ∃ v L, o = .returned v ∧ Q12x1 Z w_1 w_2 w_4 w_5 r0 k_r0 x_r0_0 x_r0_1 h0 n0 v U'.heap L ∧ FrameEnd U o U' L ({ frames := 1, cells := 1, slots := 1, locals := 18 } : Room).cells ({ frames := 1, cells := 1, slots := 1, locals := 18 } : Room).slots) := by
  refine MetFree.of_bodySF (plainFor_of_name pn_12x1) hisR ?_
  intro p e s m args below meth c s₁ Bd hml0 hP hK
  obtain ⟨rfl, hZ, hh⟩ := hP
  have hx := Bd.exec
  have hby := Bd.bytes
  have hml : c.maxLocals = 5 := hml0
  have hown : s.vm.findClass "java/util/Arrays" = some m.cls := findClass_of_methodNamed Bd.named
  have hnm := (name_of_methodNamed Bd.named Bd.method).1
  have X0 : Stand p l e ({ frames := 1, cells := 1, slots := 1, locals := 18 } : Room) s m #[(.ref r0), (.int (0 : Int32)), (.int ((0 : Int32) + ((2 : Int32) - (1 : Int32))))] below meth c s₁ [] 0 0 := Stand.of_body Bd
  have e0 : s₁.heap = h0 := by rw [← hh, Bd.state]; rfl
  have N0 := Fr.nil n0
  have hS0 := hS
  obtain ⟨S_1, E_1, S_2, E_2, S_3, E_3, S_4, NE_4, S_5, IR_5⟩ := hS
  have pre0 : ∀ t, Steps p.tables e below (s₁.setTop (mkF m 0 #[.val (.ref r0), .val (.int (0 : Int32)), .val (.int ((0 : Int32) + ((2 : Int32) - (1 : Int32)))), .unset, .unset] [])) t → Steps p.tables e below (s₁.setTop (entryFrame m #[(.ref r0), (.int (0 : Int32)), (.int ((0 : Int32) + ((2 : Int32) - (1 : Int32))))] 5)) t := fun t k => castTop (ef_12x1 m r0) k
  generalize hE0 : s₁.setTop (entryFrame m #[(.ref r0), (.int (0 : Int32)), (.int ((0 : Int32) + ((2 : Int32) - (1 : Int32))))] 5) = E0 at pre0 ⊢
  obtain ⟨_, _, ⟨T135, L135, k135, n135⟩, -, X135, ⟨Lc135, hQ135, l135, y135, z135⟩, st135⟩ := Jvm.LawKit.callS X0 hx (y := Y29) hown (mvT hZ (hw _ (tk 65 rfl))) (mvT hZ (hw _ (tk 66 rfl))) (mvT hZ (hw _ (tk 60 rfl))) (mvT hZ (hw _ (tk 67 rfl))) (by decide) (backOf (W := 0) (rm13x1 l Z a0 hw hv [] w_1 w_2 w_4 w_5 hS0 h0 n0 O0) hZ (hw _ (tk 67 rfl)) (hw _ (tk 60 rfl)) (by decide) (by decide)) (g := (mkF m 2 (lt19 r0 (0 : Int32) ((0 : Int32) + ((2 : Int32) - (1 : Int32)))) [(.int ((0 : Int32) + ((2 : Int32) - (1 : Int32)))), (.int (0 : Int32))])) rfl (by rw [hml]; rfl) (argsL := [(.int (0 : Int32)), (.int ((0 : Int32) + ((2 : Int32) - (1 : Int32))))]) (rest := []) (lenOf pd_9 rfl) rfl (by show 2 * 0 + _ ≤ _; exact Nat.le_of_eq rfl) (hb hby d12_2) (fun _ _ => ⟨rfl, e0, (by decide : 0 + 0 ≤ _), (by decide : 0 + 0 ≤ _)⟩)
  dsimp only [Pt.U, Pt.locs, Pt.cells, Pt.slots] at X135 l135 y135 z135 st135 hQ135
  subst l135 y135 z135
  obtain ⟨rv135, N135q, e135⟩ := hQ135
  subst rv135
  have N135 := Fr.app N0 N135q
  obtain ⟨T136, h136, k136, X136, e136, E136, A136, st136⟩ := newP X135 hx hZ (hw _ (tk 0 rfl)) e135 (g := (mkF m 10 (lt21 r0 (0 : Int32) ((0 : Int32) + ((2 : Int32) - (1 : Int32))) (((0 : Int32) + ((2 : Int32) - (1 : Int32))) - (0 : Int32))) [(.int (((0 : Int32) + ((2 : Int32) - (1 : Int32))) - (0 : Int32)))])) rfl (hb hby d12_10) rfl (by decide) (cap := 1) (by decide) (by decide) (by decide) (by decide)
  obtain ⟨b136, g136⟩ : ∃ z, z = h0.size := ⟨_, rfl⟩
  rw [← g136] at A136 st136
  have g_b136 : n0 ≤ b136 := Nat.le_trans (own_old O0) (Nat.le_of_eq g136.symm)
  have sz_b136 : h0.size ≤ b136 := Nat.le_trans (Keep.refl h0 []).1 (Nat.le_of_eq g136.symm)
  have ne_r0_b136 : r0 ≠ b136 := Nat.ne_of_lt (Nat.lt_of_lt_of_le V_r0.lt (Nat.le_of_eq g136.symm))
  have O136 : Old Z n0 h136 := O0.ext E136
  have K136 : Keep h0 h136 [] := (Keep.refl h0 []).ext E136
  have V_b136 : Arv Z h136 b136 k136 .byte (((0 : Int32) + ((2 : Int32) - (1 : Int32))) - (0 : Int32)) [(.int (0 : Int32))] (.int (0 : Int32)) := (Arv.new A136 (by decide)).pad (pad_rep [] (.int (0 : Int32)) 1)
  have c137 := (V_r0.ext E136)
  obtain ⟨cl138, Ar138, qa138, Sa138, Ma138, Ha138, Ga138⟩ := id c137
  obtain ⟨_, _, ⟨T141, L141, k141, n141⟩, -, X141, ⟨Lc141, hQ141, l141, y141, z141⟩, st141⟩ := Jvm.LawKit.callS X136 hx (y := Y32) hown (mvT hZ (hw _ (tk 68 rfl))) (mvT hZ (hw _ (tk 69 rfl))) (mvT hZ (hw _ (tk 70 rfl))) (mvT hZ (hw _ (tk 71 rfl))) (by decide) (backOf (W := 4) (rm14 l Z a0 hw hv [] w_1 w_2 w_4 w_5 hS0 ((2 : Int32) - (0 : Int32)) (((0 : Int32) + ((2 : Int32) - (1 : Int32))) - (0 : Int32)) h136 n0 O136) hZ (hw _ (tk 71 rfl)) (hw _ (tk 70 rfl)) (by decide) (by decide)) (g := (mkF m 24 (lt22 r0 (0 : Int32) ((0 : Int32) + ((2 : Int32) - (1 : Int32))) (((0 : Int32) + ((2 : Int32) - (1 : Int32))) - (0 : Int32)) b136) [(.int (((0 : Int32) + ((2 : Int32) - (1 : Int32))) - (0 : Int32))), (.int ((2 : Int32) - (0 : Int32))), (.int (0 : Int32)), (.ref b136), (.int (0 : Int32)), (.ref r0)])) rfl (by rw [hml]; rfl) (argsL := [(.int ((2 : Int32) - (0 : Int32))), (.int (((0 : Int32) + ((2 : Int32) - (1 : Int32))) - (0 : Int32)))]) (rest := [(.int (0 : Int32)), (.ref b136), (.int (0 : Int32)), (.ref r0)]) (lenOf pd_10 rfl) rfl (by show 2 * 0 + _ ≤ _; exact Nat.le_of_eq rfl) (hb hby d12_24) (fun _ _ => ⟨rfl, e136, (by decide : 1 + 0 ≤ _), (by decide : 1 + 0 ≤ _)⟩)
  dsimp only [Pt.U, Pt.locs, Pt.cells, Pt.slots] at X141 l141 y141 z141 st141 hQ141
  subst l141 y141 z141
  obtain ⟨rv141, N141q, e141⟩ := hQ141
  rw [show sp14 ((2 : Int32) - (0 : Int32)) (((0 : Int32) + ((2 : Int32) - (1 : Int32))) - (0 : Int32)) = (((0 : Int32) + ((2 : Int32) - (1 : Int32))) - (0 : Int32)) from by unfold sp14; rw [if_pos (by decide : ((((0 : Int32) + ((2 : Int32) - (1 : Int32))) - (0 : Int32)) < ((2 : Int32) - (0 : Int32))))]] at rv141
  subst rv141
  have N141 := Fr.app N135 N141q
  obtain ⟨T142, h142, L142, X142, e142, N142, K142c, Va142, st142⟩ := cpA X141 hx hZ hown (hw _ (tk 72 rfl)) (hw _ (tk 75 rfl)) (hw _ (tk 73 rfl)) (hw _ (tk 74 rfl)) e141 c137 V_b136 (us := [(.int x_r0_0)]) (Or.inl ⟨rfl, rfl⟩) (sp := (0 : Int32)) (dp := (0 : Int32)) (nn := (((0 : Int32) + ((2 : Int32) - (1 : Int32))) - (0 : Int32))) (by decide) (by decide) (by decide) (by decide) (by decide) rfl (Nat.le_of_ble_eq_true rfl) N141 g_b136 (g := (mkF m 27 (lt22 r0 (0 : Int32) ((0 : Int32) + ((2 : Int32) - (1 : Int32))) (((0 : Int32) + ((2 : Int32) - (1 : Int32))) - (0 : Int32)) b136) [(.int (((0 : Int32) + ((2 : Int32) - (1 : Int32))) - (0 : Int32))), (.int (0 : Int32)), (.ref b136), (.int (0 : Int32)), (.ref r0)])) rfl (by rw [hml]; rfl) rfl (hb hby d12_27) (by decide) (W := 0) (by show 2 * 0 + _ ≤ _; exact Nat.le_of_eq rfl) (by decide)
  have O142 : Old Z n0 h142 := O136.keep K142c (allS g_b136 all0)
  have K142 : Keep h0 h142 [] := K136.trans K142c (allS (Or.inr sz_b136) all0)
  have Vb142 : Arv Z h142 b136 k136 .byte (((0 : Int32) + ((2 : Int32) - (1 : Int32))) - (0 : Int32)) [(.int x_r0_0)] (.int (0 : Int32)) := Va142
  obtain ⟨fs, hr, hrun, hended, hW, hsame⟩ := X142.leave (v := some (.ref b136)) (fun h => by rw [Bd.returns] at h; cases h)
  refine ⟨_, _, pre0 _ ?_, hrun, hended, _, _, rfl, ?_, ⟨_, rfl⟩, hW, hsame.mono (by decide) (by decide)⟩
  · show Sp p e below s₁ (mkF m 0 (lt19 r0 (0 : Int32) ((0 : Int32) + ((2 : Int32) - (1 : Int32)))) []) _
    refine XS.iloadN X0.here hx rfl (hb hby d12_0) rfl ?_
    refine XS.iloadN X0.here hx rfl (hb hby d12_1) rfl ?_
    show Sp p e below s₁ (mkF m 2 (lt19 r0 (0 : Int32) ((0 : Int32) + ((2 : Int32) - (1 : Int32)))) [(.int ((0 : Int32) + ((2 : Int32) - (1 : Int32)))), (.int (0 : Int32))]) _
    refine st135 _ ?_
    show Sp p e below T135 (mkF m 5 (lt19 r0 (0 : Int32) ((0 : Int32) + ((2 : Int32) - (1 : Int32)))) []) _
    refine XS.iloadN X135.here hx rfl (hb hby d12_5) rfl ?_
    refine XS.iloadN X135.here hx rfl (hb hby d12_6) rfl ?_
    show Sp p e below T135 (mkF m 7 (lt19 r0 (0 : Int32) ((0 : Int32) + ((2 : Int32) - (1 : Int32)))) [(.int (0 : Int32)), (.int ((0 : Int32) + ((2 : Int32) - (1 : Int32))))]) _
    refine XS.isub X135.here hx rfl (hb hby d12_7) rfl ?_
    refine XS.istoreN X135.here hx rfl (hb hby d12_8) rfl (l' := (lt21 r0 (0 : Int32) ((0 : Int32) + ((2 : Int32) - (1 : Int32))) (((0 : Int32) + ((2 : Int32) - (1 : Int32))) - (0 : Int32)))) rfl ?_
    show Sp p e below T135 (mkF m 9 (lt21 r0 (0 : Int32) ((0 : Int32) + ((2 : Int32) - (1 : Int32))) (((0 : Int32) + ((2 : Int32) - (1 : Int32))) - (0 : Int32))) []) _
    refine XS.iloadN X135.here hx rfl (hb hby d12_9) rfl ?_
    show Sp p e below T135 (mkF m 10 (lt21 r0 (0 : Int32) ((0 : Int32) + ((2 : Int32) - (1 : Int32))) (((0 : Int32) + ((2 : Int32) - (1 : Int32))) - (0 : Int32))) [(.int (((0 : Int32) + ((2 : Int32) - (1 : Int32))) - (0 : Int32)))]) _
    refine st136 _ ?_
    show Sp p e below T136 (mkF m 12 (lt21 r0 (0 : Int32) ((0 : Int32) + ((2 : Int32) - (1 : Int32))) (((0 : Int32) + ((2 : Int32) - (1 : Int32))) - (0 : Int32))) [(.ref b136)]) _
    refine XS.astore X136.here hx rfl (hb hby d12_12) rfl rfl (l' := (lt22 r0 (0 : Int32) ((0 : Int32) + ((2 : Int32) - (1 : Int32))) (((0 : Int32) + ((2 : Int32) - (1 : Int32))) - (0 : Int32)) b136)) rfl ?_
    refine XS.aloadN X136.here hx rfl (hb hby d12_14) rfl rfl ?_
    show Sp p e below T136 (mkF m 15 (lt22 r0 (0 : Int32) ((0 : Int32) + ((2 : Int32) - (1 : Int32))) (((0 : Int32) + ((2 : Int32) - (1 : Int32))) - (0 : Int32)) b136) [(.ref r0)]) _
    refine XS.iloadN X136.here hx rfl (hb hby d12_15) rfl ?_
    refine XS.aload X136.here hx rfl (hb hby d12_16) rfl rfl ?_
    show Sp p e below T136 (mkF m 18 (lt22 r0 (0 : Int32) ((0 : Int32) + ((2 : Int32) - (1 : Int32))) (((0 : Int32) + ((2 : Int32) - (1 : Int32))) - (0 : Int32)) b136) [(.ref b136), (.int (0 : Int32)), (.ref r0)]) _
    refine XS.iconst X136.here hx rfl (hb hby d12_18) ?_
    refine XS.aloadN X136.here hx rfl (hb hby d12_19) rfl rfl ?_
    show Sp p e below T136 (mkF m 20 (lt22 r0 (0 : Int32) ((0 : Int32) + ((2 : Int32) - (1 : Int32))) (((0 : Int32) + ((2 : Int32) - (1 : Int32))) - (0 : Int32)) b136) [(.ref r0), (.int (0 : Int32)), (.ref b136), (.int (0 : Int32)), (.ref r0)]) _
    refine X136.arraylength hx (by rw [e136]; exact Ar138.1) (State.isArrayOf_alike hZ.alike Ar138.2.1) (g := (mkF m 20 (lt22 r0 (0 : Int32) ((0 : Int32) + ((2 : Int32) - (1 : Int32))) (((0 : Int32) + ((2 : Int32) - (1 : Int32))) - (0 : Int32)) b136) [(.ref r0), (.int (0 : Int32)), (.ref b136), (.int (0 : Int32)), (.ref r0)])) rfl rfl (hb hby d12_20) _ ?_
    rw [len_of Sa138 Ma138]
    show Sp p e below T136 (mkF m 21 (lt22 r0 (0 : Int32) ((0 : Int32) + ((2 : Int32) - (1 : Int32))) (((0 : Int32) + ((2 : Int32) - (1 : Int32))) - (0 : Int32)) b136) [(.int (2 : Int32)), (.int (0 : Int32)), (.ref b136), (.int (0 : Int32)), (.ref r0)]) _
    refine XS.iloadN X136.here hx rfl (hb hby d12_21) rfl ?_
    refine XS.isub X136.here hx rfl (hb hby d12_22) rfl ?_
    show Sp p e below T136 (mkF m 23 (lt22 r0 (0 : Int32) ((0 : Int32) + ((2 : Int32) - (1 : Int32))) (((0 : Int32) + ((2 : Int32) - (1 : Int32))) - (0 : Int32)) b136) [(.int ((2 : Int32) - (0 : Int32))), (.int (0 : Int32)), (.ref b136), (.int (0 : Int32)), (.ref r0)]) _
    refine XS.iloadN X136.here hx rfl (hb hby d12_23) rfl ?_
    show Sp p e below T136 (mkF m 24 (lt22 r0 (0 : Int32) ((0 : Int32) + ((2 : Int32) - (1 : Int32))) (((0 : Int32) + ((2 : Int32) - (1 : Int32))) - (0 : Int32)) b136) [(.int (((0 : Int32) + ((2 : Int32) - (1 : Int32))) - (0 : Int32))), (.int ((2 : Int32) - (0 : Int32))), (.int (0 : Int32)), (.ref b136), (.int (0 : Int32)), (.ref r0)]) _
    refine st141 _ ?_
    show Sp p e below T141 (mkF m 27 (lt22 r0 (0 : Int32) ((0 : Int32) + ((2 : Int32) - (1 : Int32))) (((0 : Int32) + ((2 : Int32) - (1 : Int32))) - (0 : Int32)) b136) [(.int (((0 : Int32) + ((2 : Int32) - (1 : Int32))) - (0 : Int32))), (.int (0 : Int32)), (.ref b136), (.int (0 : Int32)), (.ref r0)]) _
    refine st142 _ ?_
    show Sp p e below T142 (mkF m 30 (lt22 r0 (0 : Int32) ((0 : Int32) + ((2 : Int32) - (1 : Int32))) (((0 : Int32) + ((2 : Int32) - (1 : Int32))) - (0 : Int32)) b136) []) _
    refine XS.aload X142.here hx rfl (hb hby d12_30) rfl rfl ?_
    show Sp p e below T142 (mkF m 32 (lt22 r0 (0 : Int32) ((0 : Int32) + ((2 : Int32) - (1 : Int32))) (((0 : Int32) + ((2 : Int32) - (1 : Int32))) - (0 : Int32)) b136) [(.ref b136)]) _
    jvm_step X142.here [X142.here.top, hx, (hb hby d12_32), X142.method', Bd.returns, Value.isRef, FieldType.isReference]
    first | (intro acts; rw [hr _ acts rfl rfl rfl]) | rw [hr _ _ rfl rfl rfl]
    exact Steps.refl _
  · show Q12x1 Z w_1 w_2 w_4 w_5 r0 k_r0 x_r0_0 x_r0_1 h0 n0 _ T142.heap _
    rw [e142]
    exact ⟨b136, k136, rfl, N142, O142, K142, g_b136, sz_b136, Vb142⟩
theorem pn_11x1 : plainName "java/util/Arrays" = true := by first | (simp [plainName, overriddenIn]; done) | decide +kernel
theorem ef_11x1 (m : MethodId) (r0 : Addr) : entryFrame m #[(.ref r0), (.int (0 : Int32)), (.int ((0 : Int32) + ((2 : Int32) - (1 : Int32))))] 3 = mkF m 0 #[.val (.ref r0), .val (.int (0 : Int32)), .val (.int ((0 : Int32) + ((2 : Int32) - (1 : Int32))))] [] := by first | (simp [entryFrame, mkF, argsToLocals, Value.category]; done) | rfl
def Q11x1 (Z : State) (w_1 : Addr) (w_2 : Addr) (w_4 : Int32) (w_5 : Value) (r0 : Addr) (k_r0 : ClassId) (x_r0_0 : Int32) (x_r0_1 : Int32) (h0 : Heap) (n0 : Nat) (v : Option Value) (h : Heap) (L : List Loc) : Prop := ∃ (b144 : Addr) (k145 : ClassId), v = some (.ref b144) ∧ Fr n0 L ∧ Old Z n0 h ∧ Keep h0 h [] ∧ n0 ≤ b144 ∧ h0.size ≤ b144 ∧ Arv Z h b144 k145 .byte (((0 : Int32) + ((2 : Int32) - (1 : Int32))) - (0 : Int32)) [(.int x_r0_0)] (.int (0 : Int32))
set_option maxRecDepth 65536 in
set_option maxHeartbeats 40000000 in
theorem rm11x1 (l : Launch) (Z : State) (a0 : Array Value) (hw : ∀ d ∈ tables_1, d.before a0 Z = true) (hv : ∀ d ∈ jdkStatics_1, d.before a0 Z = true) (ws : List Jvm.Cond) (w_1 : Addr) (w_2 : Addr) (w_4 : Int32) (w_5 : Value) (hS : StF Z w_1 w_2 w_4 w_5) (r0 : Addr) (k_r0 : ClassId) (x_r0_0 : Int32) (x_r0_1 : Int32) (h0 : Heap) (n0 : Nat) (O0 : Old Z n0 h0) (g_r0 : n0 ≤ r0) (V_r0 : Arv Z h0 r0 k_r0 .byte (2 : Int32) [(.int x_r0_0), (.int x_r0_1)] (.int (0 : Int32))) :
    MetFree l Y34 (head1 (Jvm.Cond.code Y34 jdk_65_method_132_code 3 (some (.array .byte)) :: ws) ({ frames := 2, cells := 1, slots := 1, locals := 34 } : Room)) (fun a U => a = #[(.ref r0), (.int (0 : Int32)), (.int ((0 : Int32) + ((2 : Int32) - (1 : Int32))))] ∧ Z.Warmed39 U.vm ∧ U.heap = h0) (fun _ _ _ _ _ => True) (fun _ U o U' => ∃ v L, o = .returned v ∧ Q11x1 Z w_1 w_2 w_4 w_5 r0 k_r0 x_r0_0 x_r0_1 h0 n0 v U'.heap L ∧ FrameEnd U o U' L ({ frames := 2, cells := 1, slots := 1, locals := 34 } : Room).cells ({ frames := 2, cells := 1, slots := 1, locals := 34 } : Room).slots) := by
  refine MetFree.of_bodySF (plainFor_of_name pn_11x1) hisR ?_
  intro p e s m args below meth c s₁ Bd hml0 hP hK
  obtain ⟨rfl, hZ, hh⟩ := hP
  have hx := Bd.exec
  have hby := Bd.bytes
  have hml : c.maxLocals = 3 := hml0
  have hown : s.vm.findClass "java/util/Arrays" = some m.cls := findClass_of_methodNamed Bd.named
  have hnm := (name_of_methodNamed Bd.named Bd.method).1
  have X0 : Stand p l e ({ frames := 2, cells := 1, slots := 1, locals := 34 } : Room) s m #[(.ref r0), (.int (0 : Int32)), (.int ((0 : Int32) + ((2 : Int32) - (1 : Int32))))] below meth c s₁ [] 0 0 := Stand.of_body Bd
  have e0 : s₁.heap = h0 := by rw [← hh, Bd.state]; rfl
  have N0 := Fr.nil n0
  have hS0 := hS
  obtain ⟨S_1, E_1, S_2, E_2, S_3, E_3, S_4, NE_4, S_5, IR_5⟩ := hS
  have pre0 : ∀ t, Steps p.tables e below (s₁.setTop (mkF m 0 #[.val (.ref r0), .val (.int (0 : Int32)), .val (.int ((0 : Int32) + ((2 : Int32) - (1 : Int32))))] [])) t → Steps p.tables e below (s₁.setTop (entryFrame m #[(.ref r0), (.int (0 : Int32)), (.int ((0 : Int32) + ((2 : Int32) - (1 : Int32))))] 3)) t := fun t k => castTop (ef_11x1 m r0) k
  generalize hE0 : s₁.setTop (entryFrame m #[(.ref r0), (.int (0 : Int32)), (.int ((0 : Int32) + ((2 : Int32) - (1 : Int32))))] 3) = E0 at pre0 ⊢
  obtain ⟨cl134, Ar134, qa134, Sa134, Ma134, Ha134, Ga134⟩ := id V_r0
  obtain ⟨_, _, ⟨T143, L143, k143, n143⟩, -, X143, ⟨Lc143, hQ143, l143, y143, z143⟩, st143⟩ := Jvm.LawKit.callS X0 hx (y := Y33) hown (mvT hZ (hw _ (tk 62 rfl))) (mvT hZ (hw _ (tk 63 rfl))) (mvT hZ (hw _ (tk 60 rfl))) (mvT hZ (hw _ (tk 64 rfl))) (by decide) (backOf (W := 0) (rm12x1 l Z a0 hw hv [] w_1 w_2 w_4 w_5 hS0 r0 k_r0 x_r0_0 x_r0_1 h0 n0 O0 g_r0 V_r0) hZ (hw _ (tk 64 rfl)) (hw _ (tk 60 rfl)) (by decide) (by decide)) (g := (mkF m 13 (lt18 r0 (0 : Int32) ((0 : Int32) + ((2 : Int32) - (1 : Int32)))) [(.int ((0 : Int32) + ((2 : Int32) - (1 : Int32)))), (.int (0 : Int32)), (.ref r0)])) rfl (by rw [hml]; rfl) (argsL := [(.ref r0), (.int (0 : Int32)), (.int ((0 : Int32) + ((2 : Int32) - (1 : Int32))))]) (rest := []) (lenOf pd_11 rfl) rfl (by show 2 * 0 + _ ≤ _; exact Nat.le_of_eq rfl) (hb hby d11_13) (fun _ _ => ⟨rfl, e0, (by decide : 0 + 1 ≤ _), (by decide : 0 + 1 ≤ _)⟩)
  dsimp only [Pt.U, Pt.locs, Pt.cells, Pt.slots] at X143 l143 y143 z143 st143 hQ143
  subst l143 y143 z143
  obtain ⟨b144, k145, rv143, N143q, O143, K143c, Fx143_0, Fx143_1, Fx143_2⟩ := hQ143
  subst rv143
  have N143 := Fr.app N0 N143q
  have K143 : Keep h0 T143.heap [] := (Keep.refl h0 []).trans K143c all0
  have g_b144 := Fx143_0
  have sz_b144 : h0.size ≤ b144 := Nat.le_trans (Keep.refl h0 []).1 Fx143_1
  have ne_r0_b144 : r0 ≠ b144 := Nat.ne_of_lt (Nat.lt_of_lt_of_le V_r0.lt Fx143_1)
  obtain ⟨fs, hr, hrun, hended, hW, hsame⟩ := X143.leave (v := some (.ref b144)) (fun h => by rw [Bd.returns] at h; cases h)
  refine ⟨_, _, pre0 _ ?_, hrun, hended, _, _, rfl, ?_, ⟨_, rfl⟩, hW, hsame.mono (by decide) (by decide)⟩
  · show Sp p e below s₁ (mkF m 0 (lt18 r0 (0 : Int32) ((0 : Int32) + ((2 : Int32) - (1 : Int32)))) []) _
    refine XS.iloadN X0.here hx rfl (hb hby d11_0) rfl ?_
    show Sp p e below s₁ (mkF m 1 (lt18 r0 (0 : Int32) ((0 : Int32) + ((2 : Int32) - (1 : Int32)))) [(.int (0 : Int32))]) _
    refine XS.ifNo X0.here hx rfl (hb hby d11_1) rfl ((if0 _ _).trans (teq (by decide : ((0 : Int32) = (0 : Int32)))).2) ?_
    show Sp p e below s₁ (mkF m 4 (lt18 r0 (0 : Int32) ((0 : Int32) + ((2 : Int32) - (1 : Int32)))) []) _
    refine XS.iloadN X0.here hx rfl (hb hby d11_4) rfl ?_
    refine XS.aloadN X0.here hx rfl (hb hby d11_5) rfl rfl ?_
    show Sp p e below s₁ (mkF m 6 (lt18 r0 (0 : Int32) ((0 : Int32) + ((2 : Int32) - (1 : Int32)))) [(.ref r0), (.int ((0 : Int32) + ((2 : Int32) - (1 : Int32))))]) _
    refine X0.arraylength hx (by rw [e0]; exact Ar134.1) (State.isArrayOf_alike hZ.alike Ar134.2.1) (g := (mkF m 6 (lt18 r0 (0 : Int32) ((0 : Int32) + ((2 : Int32) - (1 : Int32)))) [(.ref r0), (.int ((0 : Int32) + ((2 : Int32) - (1 : Int32))))])) rfl rfl (hb hby d11_6) _ ?_
    rw [len_of Sa134 Ma134]
    show Sp p e below s₁ (mkF m 7 (lt18 r0 (0 : Int32) ((0 : Int32) + ((2 : Int32) - (1 : Int32)))) [(.int (2 : Int32)), (.int ((0 : Int32) + ((2 : Int32) - (1 : Int32))))]) _
    refine XS.icmpNo X0.here hx rfl (hb hby d11_7) rfl (feq (by decide : ¬ (((0 : Int32) + ((2 : Int32) - (1 : Int32))) = (2 : Int32)))).1 ?_
    show Sp p e below s₁ (mkF m 10 (lt18 r0 (0 : Int32) ((0 : Int32) + ((2 : Int32) - (1 : Int32)))) []) _
    refine XS.aloadN X0.here hx rfl (hb hby d11_10) rfl rfl ?_
    refine XS.iloadN X0.here hx rfl (hb hby d11_11) rfl ?_
    show Sp p e below s₁ (mkF m 12 (lt18 r0 (0 : Int32) ((0 : Int32) + ((2 : Int32) - (1 : Int32)))) [(.int (0 : Int32)), (.ref r0)]) _
    refine XS.iloadN X0.here hx rfl (hb hby d11_12) rfl ?_
    show Sp p e below s₁ (mkF m 13 (lt18 r0 (0 : Int32) ((0 : Int32) + ((2 : Int32) - (1 : Int32)))) [(.int ((0 : Int32) + ((2 : Int32) - (1 : Int32)))), (.int (0 : Int32)), (.ref r0)]) _
    refine st143 _ ?_
    show Sp p e below T143 (mkF m 16 (lt18 r0 (0 : Int32) ((0 : Int32) + ((2 : Int32) - (1 : Int32)))) [(.ref b144)]) _
    jvm_step X143.here [X143.here.top, hx, (hb hby d11_16), X143.method', Bd.returns, Value.isRef, FieldType.isReference]
    first | (intro acts; rw [hr _ acts rfl rfl rfl]) | rw [hr _ _ rfl rfl rfl]
    exact Steps.refl _
  · show Q11x1 Z w_1 w_2 w_4 w_5 r0 k_r0 x_r0_0 x_r0_1 h0 n0 _ T143.heap _
    exact ⟨b144, k145, rfl, N143, O143, K143, g_b144, sz_b144, Fx143_2⟩
theorem pn_8x3 : plainName "java/lang/String" = true := by first | (simp [plainName, overriddenIn]; done) | decide +kernel
theorem ef_8x3 (m : MethodId) (r0 : Addr) (w_1 : Addr) (r2 : Addr) : entryFrame m #[(.ref r0), (.ref w_1), (.ref r2), (.int (0 : Int32)), (.int ((2 : Int32) - (1 : Int32)))] 11 = mkF m 0 #[.val (.ref r0), .val (.ref w_1), .val (.ref r2), .val (.int (0 : Int32)), .val (.int ((2 : Int32) - (1 : Int32))), .unset, .unset, .unset, .unset, .unset, .unset] [] := by first | (simp [entryFrame, mkF, argsToLocals, Value.category]; done) | rfl
def Q8x3 (Z : State) (w_1 : Addr) (w_2 : Addr) (w_4 : Int32) (w_5 : Value) (r0 : Addr) (r2 : Addr) (k_r2 : ClassId) (x_r2_0 : Int32) (x_r2_1 : Int32) (h0 : Heap) (n0 : Nat) (v : Option Value) (h : Heap) (L : List Loc) : Prop := ∃ (b147 : Addr) (k148 : ClassId), v = none ∧ Fr n0 L ∧ Old Z n0 h ∧ Keep h0 h [r0] ∧ Fld Z h r0 "java/lang/String" "coder" "B" (.int (0 : Int32)) ∧ Fld Z h r0 "java/lang/String" "value" "[B" (.ref b147) ∧ n0 ≤ b147 ∧ h0.size ≤ b147 ∧ Arv Z h b147 k148 .byte (((0 : Int32) + ((2 : Int32) - (1 : Int32))) - (0 : Int32)) [(.int x_r2_0)] (.int (0 : Int32))
set_option maxRecDepth 65536 in
set_option maxHeartbeats 40000000 in
theorem rm8x3 (l : Launch) (Z : State) (a0 : Array Value) (hw : ∀ d ∈ tables_1, d.before a0 Z = true) (hv : ∀ d ∈ jdkStatics_1, d.before a0 Z = true) (ws : List Jvm.Cond) (w_1 : Addr) (w_2 : Addr) (w_4 : Int32) (w_5 : Value) (hS : StF Z w_1 w_2 w_4 w_5) (r0 : Addr) (r2 : Addr) (k_r2 : ClassId) (x_r2_0 : Int32) (x_r2_1 : Int32) (h0 : Heap) (n0 : Nat) (O0 : Old Z n0 h0) (g_r0 : n0 ≤ r0) (g_r2 : n0 ≤ r2) (E_r0 : Exa Z h0 r0 "java/lang/String") (F_coder_r0 : Fld Z h0 r0 "java/lang/String" "coder" "B" (.int (0 : Int32))) (F_value_r0 : Fld Z h0 r0 "java/lang/String" "value" "[B" .null) (V_r2 : Arv Z h0 r2 k_r2 .byte (2 : Int32) [(.int x_r2_0), (.int x_r2_1)] (.int (0 : Int32))) (ne_r0_r2 : r0 ≠ r2) :
    MetFree l Y21 (head1 (Jvm.Cond.codeWith Y21 jdk_42_method_11_code 11 none [(800, 813, 816, 202)] :: ws) ({ frames := 3, cells := 1, slots := 1, locals := 49 } : Room)) (fun a U => a = #[(.ref r0), (.ref w_1), (.ref r2), (.int (0 : Int32)), (.int ((2 : Int32) - (1 : Int32)))] ∧ Z.Warmed39 U.vm ∧ U.heap = h0) (fun _ _ _ _ _ => True) (fun _ U o U' => ∃ v L, o = .returned v ∧ Q8x3 Z w_1 w_2 w_4 w_5 r0 r2 k_r2 x_r2_0 x_r2_1 h0 n0 v U'.heap L ∧ FrameEnd U o U' L ({ frames := 3, cells := 1, slots := 1, locals := 49 } : Room).cells ({ frames := 3, cells := 1, slots := 1, locals := 49 } : Room).slots) := by
  refine MetFree.of_bodySF (plainFor_of_name pn_8x3) hisWith ?_
  intro p e s m args below meth c s₁ Bd hml0 hP hK
  obtain ⟨rfl, hZ, hh⟩ := hP
  have hx := Bd.exec
  have hby := Bd.bytes
  have hml : c.maxLocals = 11 := hml0
  have hown : s.vm.findClass "java/lang/String" = some m.cls := findClass_of_methodNamed Bd.named
  have hnm := (name_of_methodNamed Bd.named Bd.method).1
  have X0 : Stand p l e ({ frames := 3, cells := 1, slots := 1, locals := 49 } : Room) s m #[(.ref r0), (.ref w_1), (.ref r2), (.int (0 : Int32)), (.int ((2 : Int32) - (1 : Int32)))] below meth c s₁ [] 0 0 := Stand.of_body Bd
  have e0 : s₁.heap = h0 := by rw [← hh, Bd.state]; rfl
  have N0 := Fr.nil n0
  have hS0 := hS
  obtain ⟨S_1, E_1, S_2, E_2, S_3, E_3, S_4, NE_4, S_5, IR_5⟩ := hS
  have pre0 : ∀ t, Steps p.tables e below (s₁.setTop (mkF m 0 #[.val (.ref r0), .val (.ref w_1), .val (.ref r2), .val (.int (0 : Int32)), .val (.int ((2 : Int32) - (1 : Int32))), .unset, .unset, .unset, .unset, .unset, .unset] [])) t → Steps p.tables e below (s₁.setTop (entryFrame m #[(.ref r0), (.ref w_1), (.ref r2), (.int (0 : Int32)), (.int ((2 : Int32) - (1 : Int32)))] 11)) t := fun t k => castTop (ef_8x3 m r0 w_1 r2) k
  generalize hE0 : s₁.setTop (entryFrame m #[(.ref r0), (.ref w_1), (.ref r2), (.int (0 : Int32)), (.int ((2 : Int32) - (1 : Int32)))] 11) = E0 at pre0 ⊢
  obtain ⟨T130, X130, e130, st130⟩ := initO X0 hx hZ hown (hw _ (tk 38 rfl)) (hw _ (tk 39 rfl)) (hw _ (tk 40 rfl)) e0 (g := (mkF m 1 (lt16 r0 w_1 r2 (0 : Int32) ((2 : Int32) - (1 : Int32))) [(.ref r0)])) rfl (by rw [hml]; rfl) rfl (hb hby d8_1) (by decide) (W := 0) (by show 2 * 0 + _ ≤ _; exact Nat.le_of_eq rfl) (by decide)
  obtain ⟨T131, X131, e131, st131⟩ := getS2 X130 hx hZ hown (host := "") (Or.inl (hw _ (tk 53 rfl))) Via.refl e130 (S_2.ext O0.2) (g := (mkF m 31 (lt16 r0 w_1 r2 (0 : Int32) ((2 : Int32) - (1 : Int32))) [(.ref w_1)])) rfl (hb hby d8_31)
  obtain ⟨T132, X132, e132, st132⟩ := getS2 X131 hx hZ hown (host := "") (Or.inl (hw _ (tk 55 rfl))) Via.refl e131 (S_3.ext O0.2) (g := (mkF m 347 (lt16 r0 w_1 r2 (0 : Int32) ((2 : Int32) - (1 : Int32))) [(.ref w_1)])) rfl (hb hby d8_347)
  obtain ⟨T133, X133, e133, st133⟩ := getS2 X132 hx hZ hown (host := "") (Or.inl (hw _ (tk 57 rfl))) Via.refl e132 (S_4.ext O0.2) (g := (mkF m 353 (lt16 r0 w_1 r2 (0 : Int32) ((2 : Int32) - (1 : Int32))) [])) rfl (hb hby d8_353)
  obtain ⟨_, _, ⟨T146, L146, k146, n146⟩, -, X146, ⟨Lc146, hQ146, l146, y146, z146⟩, st146⟩ := Jvm.LawKit.callS X133 hx (y := Y34) hown (mvT hZ (hw _ (tk 58 rfl))) (mvT hZ (hw _ (tk 59 rfl))) (mvT hZ (hw _ (tk 60 rfl))) (mvT hZ (hw _ (tk 61 rfl))) (by decide) (backOf (W := 1) (rm11x1 l Z a0 hw hv [] w_1 w_2 w_4 w_5 hS0 r2 k_r2 x_r2_0 x_r2_1 h0 n0 O0 g_r2 V_r2) hZ (hw _ (tk 61 rfl)) (hw _ (tk 60 rfl)) (by decide) (by decide)) (g := (mkF m 366 (lt16 r0 w_1 r2 (0 : Int32) ((2 : Int32) - (1 : Int32))) [(.int ((0 : Int32) + ((2 : Int32) - (1 : Int32)))), (.int (0 : Int32)), (.ref r2), (.ref r0)])) rfl (by rw [hml]; rfl) (argsL := [(.ref r2), (.int (0 : Int32)), (.int ((0 : Int32) + ((2 : Int32) - (1 : Int32))))]) (rest := [(.ref r0)]) (lenOf pd_11 rfl) rfl (by show 2 * 0 + _ ≤ _; exact Nat.le_of_eq rfl) (hb hby d8_366) (fun _ _ => ⟨rfl, e133, (by decide : 0 + 1 ≤ _), (by decide : 0 + 1 ≤ _)⟩)
  dsimp only [Pt.U, Pt.locs, Pt.cells, Pt.slots] at X146 l146 y146 z146 st146 hQ146
  subst l146 y146 z146
  obtain ⟨b147, k148, rv146, N146q, O146, K146c, Fx146_0, Fx146_1, Fx146_2⟩ := hQ146
  subst rv146
  have N146 := Fr.app N0 N146q
  have K146 : Keep h0 T146.heap [r0] := (Keep.refl h0 [r0]).trans K146c all0
  have g_b147 := Fx146_0
  have sz_b147 : h0.size ≤ b147 := Nat.le_trans (Keep.refl h0 [r0]).1 Fx146_1
  have ne_r0_b147 : r0 ≠ b147 := Nat.ne_of_lt (Nat.lt_of_lt_of_le E_r0.lt Fx146_1)
  have ne_r2_b147 : r2 ≠ b147 := Nat.ne_of_lt (Nat.lt_of_lt_of_le V_r2.lt Fx146_1)
  have c149 := (E_r0.keep K146c)
  have c150 := (F_value_r0.keep K146c nin0)
  obtain ⟨T151, h151, X151, e151, W151, st151⟩ := putF X146 hx hZ hown (host := "") (Or.inl (hw _ (tk 46 rfl))) Via.refl rfl c150 c149 (Or.inr ⟨(hw _ (tk 42 rfl)), rfl, hnm⟩) (hw _ (tk 13 rfl)) (ty := (.array .byte)) (by decide) rfl rfl (g := (mkF m 369 (lt16 r0 w_1 r2 (0 : Int32) ((2 : Int32) - (1 : Int32))) [(.ref b147), (.ref r0)])) rfl rfl (hb hby d8_369)
  have Fw151 := c150.same W151
  have O151 : Old Z n0 h151 := O146.wr W151 g_r0
  have N151 := Fr.snoc X151 N146 g_r0
  have K151 : Keep h0 h151 [r0] := K146.wr W151 (Or.inl (List.mem_of_getElem? (i := 0) rfl))
  have c152 := (c149.wr W151)
  have c153 := ((F_coder_r0.keep K146c nin0).other W151 (Or.inr (slot_ne (Or.inr (hw _ (tk 43 rfl))) (Or.inr (hw _ (tk 42 rfl))) (by decide) (t := .byte) (t' := (.array .byte)) (by decide) (by decide))))
  obtain ⟨T154, h154, X154, e154, W154, st154⟩ := putFN X151 hx hZ hown (hw _ (tk 47 rfl)) Via.refl e151 c153 c152 (Or.inr ⟨(hw _ (tk 43 rfl)), rfl, hnm⟩) (hw _ (tk 13 rfl)) (ty := .byte) (v' := (.int (0 : Int32))) (by decide) rfl (by decide) (g := (mkF m 374 (lt16 r0 w_1 r2 (0 : Int32) ((2 : Int32) - (1 : Int32))) [(.int (0 : Int32)), (.ref r0)])) rfl rfl (hb hby d8_374)
  have Fw154 := c153.same W154
  have O154 : Old Z n0 h154 := O151.wr W154 g_r0
  have N154 := Fr.snoc X154 N151 g_r0
  have K154 : Keep h0 h154 [r0] := K151.wr W154 (Or.inl (List.mem_of_getElem? (i := 0) rfl))
  obtain ⟨fs, hr, hrun, hended, hW, hsame⟩ := X154.leave (v := none) (fun _ => rfl)
  have c155 := ((Fx146_2.other W151 (Ne.symm ne_r0_b147)).other W154 (Ne.symm ne_r0_b147))
  have c156 := (Fw151.other W154 (Or.inr (slot_ne (Or.inr (hw _ (tk 42 rfl))) (Or.inr (hw _ (tk 43 rfl))) (by decide) (t := (.array .byte)) (t' := .byte) (by decide) (by decide))))
  refine ⟨_, _, pre0 _ ?_, hrun, hended, _, _, rfl, ?_, ⟨_, rfl⟩, hW, hsame.mono (by decide) (by decide)⟩
  · show Sp p e below s₁ (mkF m 0 (lt16 r0 w_1 r2 (0 : Int32) ((2 : Int32) - (1 : Int32))) []) _
    refine XS.aloadN X0.here hx rfl (hb hby d8_0) rfl rfl ?_
    show Sp p e below s₁ (mkF m 1 (lt16 r0 w_1 r2 (0 : Int32) ((2 : Int32) - (1 : Int32))) [(.ref r0)]) _
    refine st130 _ ?_
    show Sp p e below T130 (mkF m 4 (lt16 r0 w_1 r2 (0 : Int32) ((2 : Int32) - (1 : Int32))) []) _
    refine XS.iload X130.here hx rfl (hb hby d8_4) rfl ?_
    show Sp p e below T130 (mkF m 6 (lt16 r0 w_1 r2 (0 : Int32) ((2 : Int32) - (1 : Int32))) [(.int ((2 : Int32) - (1 : Int32)))]) _
    refine XS.ifYes X130.here hx rfl (pc0 := 6) (pc' := 30) rfl (hb hby d8_6) rfl ((if0 _ _).trans (feq (by decide : ¬ (((2 : Int32) - (1 : Int32)) = (0 : Int32)))).2) (by decide) (by decide) ?_
    show Sp p e below T130 (mkF m 30 (lt16 r0 w_1 r2 (0 : Int32) ((2 : Int32) - (1 : Int32))) []) _
    refine XS.aloadN X130.here hx rfl (hb hby d8_30) rfl rfl ?_
    show Sp p e below T130 (mkF m 31 (lt16 r0 w_1 r2 (0 : Int32) ((2 : Int32) - (1 : Int32))) [(.ref w_1)]) _
    refine st131 _ ?_
    show Sp p e below T131 (mkF m 34 (lt16 r0 w_1 r2 (0 : Int32) ((2 : Int32) - (1 : Int32))) [(.ref w_2), (.ref w_1)]) _
    refine Jvm.RoadKit.acmp (g := (mkF m 34 (lt16 r0 w_1 r2 (0 : Int32) ((2 : Int32) - (1 : Int32))) [(.ref w_2), (.ref w_1)])) X131 hx rfl rfl rfl (pc0 := 34) (pc' := 346) (same := false) rfl (hb hby d8_34) rfl (decide_eq_false fun q => (ne_exa E_1 E_2 (by decide)) (Value.ref.inj q)) (by decide) (by decide) ?_
    show Sp p e below T131 (mkF m 346 (lt16 r0 w_1 r2 (0 : Int32) ((2 : Int32) - (1 : Int32))) []) _
    refine XS.aloadN X131.here hx rfl (hb hby d8_346) rfl rfl ?_
    show Sp p e below T131 (mkF m 347 (lt16 r0 w_1 r2 (0 : Int32) ((2 : Int32) - (1 : Int32))) [(.ref w_1)]) _
    refine st132 _ ?_
    show Sp p e below T132 (mkF m 350 (lt16 r0 w_1 r2 (0 : Int32) ((2 : Int32) - (1 : Int32))) [(.ref w_1), (.ref w_1)]) _
    refine Jvm.RoadKit.acmp (g := (mkF m 350 (lt16 r0 w_1 r2 (0 : Int32) ((2 : Int32) - (1 : Int32))) [(.ref w_1), (.ref w_1)])) X132 hx rfl rfl rfl (pc0 := 350) (pc' := 353) (same := true) rfl (hb hby d8_350) rfl (decide_eq_true (congrArg Value.ref rfl)) (by decide) (by decide) ?_
    show Sp p e below T132 (mkF m 353 (lt16 r0 w_1 r2 (0 : Int32) ((2 : Int32) - (1 : Int32))) []) _
    refine st133 _ ?_
    show Sp p e below T133 (mkF m 356 (lt16 r0 w_1 r2 (0 : Int32) ((2 : Int32) - (1 : Int32))) [(.int w_4)]) _
    refine XS.ifNo X133.here hx rfl (hb hby d8_356) rfl ((if0 _ _).trans (feq NE_4).1) ?_
    show Sp p e below T133 (mkF m 359 (lt16 r0 w_1 r2 (0 : Int32) ((2 : Int32) - (1 : Int32))) []) _
    refine XS.aloadN X133.here hx rfl (hb hby d8_359) rfl rfl ?_
    refine XS.aloadN X133.here hx rfl (hb hby d8_360) rfl rfl ?_
    show Sp p e below T133 (mkF m 361 (lt16 r0 w_1 r2 (0 : Int32) ((2 : Int32) - (1 : Int32))) [(.ref r2), (.ref r0)]) _
    refine XS.iloadN X133.here hx rfl (hb hby d8_361) rfl ?_
    refine XS.iloadN X133.here hx rfl (hb hby d8_362) rfl ?_
    show Sp p e below T133 (mkF m 363 (lt16 r0 w_1 r2 (0 : Int32) ((2 : Int32) - (1 : Int32))) [(.int (0 : Int32)), (.int (0 : Int32)), (.ref r2), (.ref r0)]) _
    refine XS.iload X133.here hx rfl (hb hby d8_363) rfl ?_
    refine XS.iadd X133.here hx rfl (hb hby d8_365) rfl ?_
    show Sp p e below T133 (mkF m 366 (lt16 r0 w_1 r2 (0 : Int32) ((2 : Int32) - (1 : Int32))) [(.int ((0 : Int32) + ((2 : Int32) - (1 : Int32)))), (.int (0 : Int32)), (.ref r2), (.ref r0)]) _
    refine st146 _ ?_
    show Sp p e below T146 (mkF m 369 (lt16 r0 w_1 r2 (0 : Int32) ((2 : Int32) - (1 : Int32))) [(.ref b147), (.ref r0)]) _
    refine st151 _ ?_
    show Sp p e below T151 (mkF m 372 (lt16 r0 w_1 r2 (0 : Int32) ((2 : Int32) - (1 : Int32))) []) _
    refine XS.aloadN X151.here hx rfl (hb hby d8_372) rfl rfl ?_
    refine XS.iconst X151.here hx rfl (hb hby d8_373) ?_
    show Sp p e below T151 (mkF m 374 (lt16 r0 w_1 r2 (0 : Int32) ((2 : Int32) - (1 : Int32))) [(.int (0 : Int32)), (.ref r0)]) _
    refine st154 _ ?_
    show Sp p e below T154 (mkF m 377 (lt16 r0 w_1 r2 (0 : Int32) ((2 : Int32) - (1 : Int32))) []) _
    refine XS.goto X154.here hx rfl (pc0 := 377) (pc' := 879) rfl (hb hby d8_377) (by decide) (by decide) ?_
    show Sp p e below T154 (mkF m 879 (lt16 r0 w_1 r2 (0 : Int32) ((2 : Int32) - (1 : Int32))) []) _
    exact X154.returnOut hx Bd.returns (hb hby d8_879) hr
  · show Q8x3 Z w_1 w_2 w_4 w_5 r0 r2 k_r2 x_r2_0 x_r2_1 h0 n0 _ T154.heap _
    rw [e154]
    exact ⟨b147, k148, rfl, N154, O154, K154, Fw154, c156, g_b147, sz_b147, c155⟩
theorem pn_4x3 : plainName "java/lang/String" = true := by first | (simp [plainName, overriddenIn]; done) | decide +kernel
theorem ef_4x3 (m : MethodId) (r0 : Addr) (r1 : Addr) (w_1 : Addr) : entryFrame m #[(.ref r0), (.ref r1), (.int (0 : Int32)), (.int ((2 : Int32) - (1 : Int32))), (.ref w_1)] 5 = mkF m 0 #[.val (.ref r0), .val (.ref r1), .val (.int (0 : Int32)), .val (.int ((2 : Int32) - (1 : Int32))), .val (.ref w_1)] [] := by first | (simp [entryFrame, mkF, argsToLocals, Value.category]; done) | rfl
def Q4x3 (Z : State) (w_1 : Addr) (w_2 : Addr) (w_4 : Int32) (w_5 : Value) (r0 : Addr) (r1 : Addr) (k_r1 : ClassId) (x_r1_0 : Int32) (x_r1_1 : Int32) (h0 : Heap) (n0 : Nat) (v : Option Value) (h : Heap) (L : List Loc) : Prop := ∃ (b158 : Addr) (k159 : ClassId), v = none ∧ Fr n0 L ∧ Old Z n0 h ∧ Keep h0 h [r0] ∧ Fld Z h r0 "java/lang/String" "coder" "B" (.int (0 : Int32)) ∧ Fld Z h r0 "java/lang/String" "value" "[B" (.ref b158) ∧ n0 ≤ b158 ∧ h0.size ≤ b158 ∧ Arv Z h b158 k159 .byte (((0 : Int32) + ((2 : Int32) - (1 : Int32))) - (0 : Int32)) [(.int x_r1_0)] (.int (0 : Int32))
set_option maxRecDepth 65536 in
set_option maxHeartbeats 40000000 in
theorem rm4x3 (l : Launch) (Z : State) (a0 : Array Value) (hw : ∀ d ∈ tables_1, d.before a0 Z = true) (hv : ∀ d ∈ jdkStatics_1, d.before a0 Z = true) (ws : List Jvm.Cond) (w_1 : Addr) (w_2 : Addr) (w_4 : Int32) (w_5 : Value) (hS : StF Z w_1 w_2 w_4 w_5) (r0 : Addr) (r1 : Addr) (k_r1 : ClassId) (x_r1_0 : Int32) (x_r1_1 : Int32) (h0 : Heap) (n0 : Nat) (O0 : Old Z n0 h0) (g_r0 : n0 ≤ r0) (g_r1 : n0 ≤ r1) (E_r0 : Exa Z h0 r0 "java/lang/String") (F_coder_r0 : Fld Z h0 r0 "java/lang/String" "coder" "B" (.int (0 : Int32))) (F_value_r0 : Fld Z h0 r0 "java/lang/String" "value" "[B" .null) (V_r1 : Arv Z h0 r1 k_r1 .byte (2 : Int32) [(.int x_r1_0), (.int x_r1_1)] (.int (0 : Int32))) (ne_r0_r1 : r0 ≠ r1) :
    MetFree l Y22 (head1 (Jvm.Cond.code Y22 jdk_42_method_10_code 5 none :: ws) ({ frames := 4, cells := 1, slots := 1, locals := 71 } : Room)) (fun a U => a = #[(.ref r0), (.ref r1), (.int (0 : Int32)), (.int ((2 : Int32) - (1 : Int32))), (.ref w_1)] ∧ Z.Warmed39 U.vm ∧ U.heap = h0) (fun _ _ _ _ _ => True) (fun _ U o U' => ∃ v L, o = .returned v ∧ Q4x3 Z w_1 w_2 w_4 w_5 r0 r1 k_r1 x_r1_0 x_r1_1 h0 n0 v U'.heap L ∧ FrameEnd U o U' L ({ frames := 4, cells := 1, slots := 1, locals := 71 } : Room).cells ({ frames := 4, cells := 1, slots := 1, locals := 71 } : Room).slots) := by
  refine MetFree.of_bodySF (plainFor_of_name pn_4x3) hisR ?_
  intro p e s m args below meth c s₁ Bd hml0 hP hK
  obtain ⟨rfl, hZ, hh⟩ := hP
  have hx := Bd.exec
  have hby := Bd.bytes
  have hml : c.maxLocals = 5 := hml0
  have hown : s.vm.findClass "java/lang/String" = some m.cls := findClass_of_methodNamed Bd.named
  have hnm := (name_of_methodNamed Bd.named Bd.method).1
  have X0 : Stand p l e ({ frames := 4, cells := 1, slots := 1, locals := 71 } : Room) s m #[(.ref r0), (.ref r1), (.int (0 : Int32)), (.int ((2 : Int32) - (1 : Int32))), (.ref w_1)] below meth c s₁ [] 0 0 := Stand.of_body Bd
  have e0 : s₁.heap = h0 := by rw [← hh, Bd.state]; rfl
  have N0 := Fr.nil n0
  have hS0 := hS
  obtain ⟨S_1, E_1, S_2, E_2, S_3, E_3, S_4, NE_4, S_5, IR_5⟩ := hS
  have pre0 : ∀ t, Steps p.tables e below (s₁.setTop (mkF m 0 #[.val (.ref r0), .val (.ref r1), .val (.int (0 : Int32)), .val (.int ((2 : Int32) - (1 : Int32))), .val (.ref w_1)] [])) t → Steps p.tables e below (s₁.setTop (entryFrame m #[(.ref r0), (.ref r1), (.int (0 : Int32)), (.int ((2 : Int32) - (1 : Int32))), (.ref w_1)] 5)) t := fun t k => castTop (ef_4x3 m r0 r1 w_1) k
  generalize hE0 : s₁.setTop (entryFrame m #[(.ref r0), (.ref r1), (.int (0 : Int32)), (.int ((2 : Int32) - (1 : Int32))), (.ref w_1)] 5) = E0 at pre0 ⊢
  obtain ⟨_, _, ⟨T124, L124, k124, n124⟩, -, X124, ⟨Lc124, hQ124, l124, y124, z124⟩, st124⟩ := Jvm.LawKit.callS X0 hx (y := Y16) hown (mvT hZ (hw _ (tk 20 rfl))) (mvT hZ (hw _ (tk 21 rfl))) (mvT hZ (hw _ (tk 22 rfl))) (mvT hZ (hw _ (tk 23 rfl))) (by decide) (backOf (W := 1) (rm5x1 l Z a0 hw hv [] w_1 w_2 w_4 w_5 hS0 h0 n0 O0) hZ (hw _ (tk 23 rfl)) (hw _ (tk 22 rfl)) (by decide) (by decide)) (g := (mkF m 3 (lt14 r0 r1 (0 : Int32) ((2 : Int32) - (1 : Int32)) w_1) [(.ref w_1), (.ref r0)])) rfl (by rw [hml]; rfl) (argsL := [(.ref w_1)]) (rest := [(.ref r0)]) (lenOf pd_2 rfl) rfl (by show 2 * 0 + _ ≤ _; exact Nat.le_of_eq rfl) (hb hby d4_3) (fun _ _ => ⟨rfl, e0, (by decide : 0 + 0 ≤ _), (by decide : 0 + 0 ≤ _)⟩)
  dsimp only [Pt.U, Pt.locs, Pt.cells, Pt.slots] at X124 l124 y124 z124 st124 hQ124
  subst l124 y124 z124
  obtain ⟨rv124, N124q, e124⟩ := hQ124
  subst rv124
  have N124 := Fr.app N0 N124q
  obtain ⟨T125, X125, e125, st125⟩ := castY X124 hx hZ hown (hw _ (tk 24 rfl)) e124 (Ins.of_exa (E_1.ext O0.2) (hw _ (tk 25 rfl))) (g := (mkF m 6 (lt14 r0 r1 (0 : Int32) ((2 : Int32) - (1 : Int32)) w_1) [(.ref w_1), (.ref r0)])) rfl rfl (hb hby d4_6)
  obtain ⟨cl126, Ar126, qa126, Sa126, Ma126, Ha126, Ga126⟩ := id V_r1
  obtain ⟨_, _, ⟨T129, L129, k129, n129⟩, -, X129, ⟨Lc129, hQ129, l129, y129, z129⟩, st129⟩ := Jvm.LawKit.callS X125 hx (y := Y19) hown (mvT hZ (hw _ (tk 26 rfl))) (mvT hZ (hw _ (tk 27 rfl))) (mvT hZ (hw _ (tk 14 rfl))) (mvT hZ (hw _ (tk 28 rfl))) (by decide) (backOf (W := 3) (rm6x3 l Z a0 hw hv [] w_1 w_2 w_4 w_5 hS0 h0 n0 O0) hZ (hw _ (tk 28 rfl)) (hw _ (tk 14 rfl)) (by decide) (by decide)) (g := (mkF m 14 (lt14 r0 r1 (0 : Int32) ((2 : Int32) - (1 : Int32)) w_1) [(.int (2 : Int32)), (.int ((2 : Int32) - (1 : Int32))), (.int (0 : Int32)), (.ref r1), (.ref w_1), (.ref r0)])) rfl (by rw [hml]; rfl) (argsL := [(.int (0 : Int32)), (.int ((2 : Int32) - (1 : Int32))), (.int (2 : Int32))]) (rest := [(.ref r1), (.ref w_1), (.ref r0)]) (lenOf pd_4 rfl) rfl (by show 2 * 0 + _ ≤ _; exact Nat.le_of_eq rfl) (hb hby d4_14) (fun _ _ => ⟨rfl, e125, (by decide : 0 + 0 ≤ _), (by decide : 0 + 0 ≤ _)⟩)
  dsimp only [Pt.U, Pt.locs, Pt.cells, Pt.slots] at X129 l129 y129 z129 st129 hQ129
  subst l129 y129 z129
  obtain ⟨rv129, N129q, e129⟩ := hQ129
  subst rv129
  have N129 := Fr.app N124 N129q
  obtain ⟨_, _, ⟨T157, L157, k157, n157⟩, -, X157, ⟨Lc157, hQ157, l157, y157, z157⟩, st157⟩ := X129.specialBackH hx (y := Y21) rfl hown (mvT hZ (hw _ (tk 34 rfl))) (mvT hZ (hw _ (tk 35 rfl))) (mvT hZ (hw _ (tk 37 rfl))) (by decide) (backOfWith (W := 0) (rm8x3 l Z a0 hw hv [] w_1 w_2 w_4 w_5 hS0 r0 r1 k_r1 x_r1_0 x_r1_1 h0 n0 O0 g_r0 g_r1 E_r0 F_coder_r0 F_value_r0 V_r1 ne_r0_r1) hZ (hw _ (tk 37 rfl)) (hw _ (tk 14 rfl)) (by decide) (by decide)) (g := (mkF m 18 (lt14 r0 r1 (0 : Int32) ((2 : Int32) - (1 : Int32)) w_1) [(.int ((2 : Int32) - (1 : Int32))), (.int (0 : Int32)), (.ref r1), (.ref w_1), (.ref r0)])) rfl (by rw [hml]; rfl) (Steps.refl _) (a := r0) (argsL := [(.ref w_1), (.ref r1), (.int (0 : Int32)), (.int ((2 : Int32) - (1 : Int32)))]) (rest := []) (lenOf pd_5 rfl) rfl (by show 2 * 0 + _ ≤ _; exact Nat.le_of_eq rfl) (hb hby d4_18) (fun _ _ => ⟨rfl, e129, (by decide : 0 + 1 ≤ _), (by decide : 0 + 1 ≤ _)⟩)
  dsimp only [Pt.U, Pt.locs, Pt.cells, Pt.slots] at X157 l157 y157 z157 st157 hQ157
  subst l157 y157 z157
  obtain ⟨b158, k159, rv157, N157q, O157, K157c, Fe157_0, Fe157_1, Fx157_0, Fx157_1, Fx157_2⟩ := hQ157
  subst rv157
  have N157 := Fr.app N129 N157q
  have K157 : Keep h0 T157.heap [r0] := (Keep.refl h0 [r0]).trans K157c (allS (Or.inl (List.mem_of_getElem? (i := 0) rfl)) all0)
  have g_b158 := Fx157_0
  have sz_b158 : h0.size ≤ b158 := Nat.le_trans (Keep.refl h0 [r0]).1 Fx157_1
  have ne_r0_b158 : r0 ≠ b158 := Nat.ne_of_lt (Nat.lt_of_lt_of_le E_r0.lt Fx157_1)
  have ne_r1_b158 : r1 ≠ b158 := Nat.ne_of_lt (Nat.lt_of_lt_of_le V_r1.lt Fx157_1)
  obtain ⟨fs, hr, hrun, hended, hW, hsame⟩ := X157.leave (v := none) (fun _ => rfl)
  refine ⟨_, _, pre0 _ ?_, hrun, hended, _, _, rfl, ?_, ⟨_, rfl⟩, hW, hsame.mono (by decide) (by decide)⟩
  · show Sp p e below s₁ (mkF m 0 (lt14 r0 r1 (0 : Int32) ((2 : Int32) - (1 : Int32)) w_1) []) _
    refine XS.aloadN X0.here hx rfl (hb hby d4_0) rfl rfl ?_
    refine XS.aload X0.here hx rfl (hb hby d4_1) rfl rfl ?_
    show Sp p e below s₁ (mkF m 3 (lt14 r0 r1 (0 : Int32) ((2 : Int32) - (1 : Int32)) w_1) [(.ref w_1), (.ref r0)]) _
    refine st124 _ ?_
    show Sp p e below T124 (mkF m 6 (lt14 r0 r1 (0 : Int32) ((2 : Int32) - (1 : Int32)) w_1) [(.ref w_1), (.ref r0)]) _
    refine st125 _ ?_
    show Sp p e below T125 (mkF m 9 (lt14 r0 r1 (0 : Int32) ((2 : Int32) - (1 : Int32)) w_1) [(.ref w_1), (.ref r0)]) _
    refine XS.aloadN X125.here hx rfl (hb hby d4_9) rfl rfl ?_
    refine XS.iloadN X125.here hx rfl (hb hby d4_10) rfl ?_
    show Sp p e below T125 (mkF m 11 (lt14 r0 r1 (0 : Int32) ((2 : Int32) - (1 : Int32)) w_1) [(.int (0 : Int32)), (.ref r1), (.ref w_1), (.ref r0)]) _
    refine XS.iloadN X125.here hx rfl (hb hby d4_11) rfl ?_
    refine XS.aloadN X125.here hx rfl (hb hby d4_12) rfl rfl ?_
    show Sp p e below T125 (mkF m 13 (lt14 r0 r1 (0 : Int32) ((2 : Int32) - (1 : Int32)) w_1) [(.ref r1), (.int ((2 : Int32) - (1 : Int32))), (.int (0 : Int32)), (.ref r1), (.ref w_1), (.ref r0)]) _
    refine X125.arraylength hx (by rw [e125]; exact Ar126.1) (State.isArrayOf_alike hZ.alike Ar126.2.1) (g := (mkF m 13 (lt14 r0 r1 (0 : Int32) ((2 : Int32) - (1 : Int32)) w_1) [(.ref r1), (.int ((2 : Int32) - (1 : Int32))), (.int (0 : Int32)), (.ref r1), (.ref w_1), (.ref r0)])) rfl rfl (hb hby d4_13) _ ?_
    rw [len_of Sa126 Ma126]
    show Sp p e below T125 (mkF m 14 (lt14 r0 r1 (0 : Int32) ((2 : Int32) - (1 : Int32)) w_1) [(.int (2 : Int32)), (.int ((2 : Int32) - (1 : Int32))), (.int (0 : Int32)), (.ref r1), (.ref w_1), (.ref r0)]) _
    refine st129 _ ?_
    show Sp p e below T129 (mkF m 17 (lt14 r0 r1 (0 : Int32) ((2 : Int32) - (1 : Int32)) w_1) [(.int (0 : Int32)), (.ref r1), (.ref w_1), (.ref r0)]) _
    refine XS.iloadN X129.here hx rfl (hb hby d4_17) rfl ?_
    show Sp p e below T129 (mkF m 18 (lt14 r0 r1 (0 : Int32) ((2 : Int32) - (1 : Int32)) w_1) [(.int ((2 : Int32) - (1 : Int32))), (.int (0 : Int32)), (.ref r1), (.ref w_1), (.ref r0)]) _
    refine st157.trans ?_
    show Sp p e below T157 (mkF m 21 (lt14 r0 r1 (0 : Int32) ((2 : Int32) - (1 : Int32)) w_1) []) _
    exact X157.returnOut hx Bd.returns (hb hby d4_21) hr
  · show Q4x3 Z w_1 w_2 w_4 w_5 r0 r1 k_r1 x_r1_0 x_r1_1 h0 n0 _ T157.heap _
    exact ⟨b158, k159, rfl, N157, O157, K157, Fe157_0, Fe157_1, g_b158, sz_b158, Fx157_2⟩
theorem pn_3x3 : plainName "com/example/bristlecone/bristlecone/io/HttpLine" = true := by first | (simp [plainName, overriddenIn]; done) | decide +kernel
theorem ef_3x3 (m : MethodId) (r0 : Addr) : entryFrame m #[(.ref r0)] 2 = mkF m 0 #[.val (.ref r0), .unset] [] := by first | (simp [entryFrame, mkF, argsToLocals, Value.category]; done) | rfl
def Q3x3 (Z : State) (w_1 : Addr) (w_2 : Addr) (w_4 : Int32) (w_5 : Value) (r0 : Addr) (k_r0 : ClassId) (x_r0_0 : Int32) (x_r0_1 : Int32) (h0 : Heap) (n0 : Nat) (v : Option Value) (h : Heap) (L : List Loc) : Prop := ∃ (b122 : Addr) (b162 : Addr) (k163 : ClassId), v = some (.ref b122) ∧ Fr n0 L ∧ Old Z n0 h ∧ Keep h0 h [] ∧ n0 ≤ b122 ∧ h0.size ≤ b122 ∧ Exa Z h b122 "java/lang/String" ∧ Fld Z h b122 "java/lang/String" "value" "[B" (.ref b162) ∧ Fld Z h b122 "java/lang/String" "coder" "B" (.int (0 : Int32)) ∧ n0 ≤ b162 ∧ h0.size ≤ b162 ∧ Arv Z h b162 k163 .byte (((0 : Int32) + ((2 : Int32) - (1 : Int32))) - (0 : Int32)) [(.int x_r0_0)] (.int (0 : Int32)) ∧ b122 ≠ b162
set_option maxRecDepth 65536 in
set_option maxHeartbeats 40000000 in
theorem rm3x3 (l : Launch) (Z : State) (a0 : Array Value) (hw : ∀ d ∈ tables_1, d.before a0 Z = true) (hv : ∀ d ∈ jdkStatics_1, d.before a0 Z = true) (ws : List Jvm.Cond) (w_1 : Addr) (w_2 : Addr) (w_4 : Int32) (w_5 : Value) (hS : StF Z w_1 w_2 w_4 w_5) (r0 : Addr) (k_r0 : ClassId) (x_r0_0 : Int32) (x_r0_1 : Int32) (h0 : Heap) (n0 : Nat) (O0 : Old Z n0 h0) (g_r0 : n0 ≤ r0) (V_r0 : Arv Z h0 r0 k_r0 .byte (2 : Int32) [(.int x_r0_0), (.int x_r0_1)] (.int (0 : Int32))) (as0 : ¬ (x_r0_0 = (13 : Int32))) :
    MetFree l Y23 (head1 (Jvm.Cond.code Y23 prog_8_method_4_code 2 (some (.object "java/lang/String")) :: ws) ({ frames := 5, cells := 2, slots := 5, locals := 88 } : Room)) (fun a U => a = #[(.ref r0)] ∧ Z.Warmed39 U.vm ∧ U.heap = h0) (fun _ _ _ _ _ => True) (fun _ U o U' => ∃ v L, o = .returned v ∧ Q3x3 Z w_1 w_2 w_4 w_5 r0 k_r0 x_r0_0 x_r0_1 h0 n0 v U'.heap L ∧ FrameEnd U o U' L ({ frames := 5, cells := 2, slots := 5, locals := 88 } : Room).cells ({ frames := 5, cells := 2, slots := 5, locals := 88 } : Room).slots) := by
  refine MetFree.of_bodySF (plainFor_of_name pn_3x3) hisR ?_
  intro p e s m args below meth c s₁ Bd hml0 hP hK
  obtain ⟨rfl, hZ, hh⟩ := hP
  have hx := Bd.exec
  have hby := Bd.bytes
  have hml : c.maxLocals = 2 := hml0
  have hown : s.vm.findClass "com/example/bristlecone/bristlecone/io/HttpLine" = some m.cls := findClass_of_methodNamed Bd.named
  have hnm := (name_of_methodNamed Bd.named Bd.method).1
  have X0 : Stand p l e ({ frames := 5, cells := 2, slots := 5, locals := 88 } : Room) s m #[(.ref r0)] below meth c s₁ [] 0 0 := Stand.of_body Bd
  have e0 : s₁.heap = h0 := by rw [← hh, Bd.state]; rfl
  have N0 := Fr.nil n0
  have hS0 := hS
  obtain ⟨S_1, E_1, S_2, E_2, S_3, E_3, S_4, NE_4, S_5, IR_5⟩ := hS
  have pre0 : ∀ t, Steps p.tables e below (s₁.setTop (mkF m 0 #[.val (.ref r0), .unset] [])) t → Steps p.tables e below (s₁.setTop (entryFrame m #[(.ref r0)] 2)) t := fun t k => castTop (ef_3x3 m r0) k
  generalize hE0 : s₁.setTop (entryFrame m #[(.ref r0)] 2) = E0 at pre0 ⊢
  obtain ⟨cl120, Ar120, qa120, Sa120, Ma120, Ha120, Ga120⟩ := id V_r0
  obtain ⟨cl121, Ar121, qa121, Sa121, Ma121, Ha121, Ga121⟩ := id V_r0
  have hin121 : ¬ ((((2 : Int32) - (1 : Int32)) - (1 : Int32)) < 0 ∨ cl121.slots.size ≤ ((((2 : Int32) - (1 : Int32)) - (1 : Int32))).toNatClampNeg) := by  exact inb_of Sa121 ⟨by decide, by decide⟩
  have hat121 : cl121.slots[((((2 : Int32) - (1 : Int32)) - (1 : Int32))).toNatClampNeg]? = some (.int x_r0_0) := Has.at Ha121 hin121 (by rfl)
  obtain ⟨T122, h122, X122, e122, E122, A122, D122, -, st122⟩ := newO X0 hx hZ hown (hw _ (tk 12 rfl)) (hw _ (tk 13 rfl)) (hw _ (tk 14 rfl)) e0 (g := (mkF m 22 (lt13 r0 ((2 : Int32) - (1 : Int32))) [])) rfl (hb hby d3_22) (by decide) (by decide)
  obtain ⟨b122, g122⟩ : ∃ z, z = h0.size := ⟨_, rfl⟩
  rw [← g122] at A122 D122 st122
  have g_b122 : n0 ≤ b122 := Nat.le_trans (own_old O0) (Nat.le_of_eq g122.symm)
  have sz_b122 : h0.size ≤ b122 := Nat.le_trans (Keep.refl h0 []).1 (Nat.le_of_eq g122.symm)
  have ne_r0_b122 : r0 ≠ b122 := Nat.ne_of_lt (Nat.lt_of_lt_of_le V_r0.lt (Nat.le_of_eq g122.symm))
  have O122 : Old Z n0 h122 := O0.ext E122
  have K122 : Keep h0 h122 [] := (Keep.refl h0 []).ext E122
  have F_value_b122 : Fld Z h122 b122 "java/lang/String" "value" "[B" .null := D122 (Or.inr (hw _ (tk 42 rfl))) (ty := (.array .byte)) (by decide)
  have F_coder_b122 : Fld Z h122 b122 "java/lang/String" "coder" "B" (.int (0 : Int32)) := D122 (Or.inr (hw _ (tk 43 rfl))) (ty := .byte) (by decide)
  obtain ⟨T123, X123, e123, st123⟩ := getS2 X122 hx hZ hown (host := "") (Or.inl (hw _ (tk 15 rfl))) Via.refl e122 (S_1.ext O122.2) (g := (mkF m 29 (lt13 r0 ((2 : Int32) - (1 : Int32))) [(.int ((2 : Int32) - (1 : Int32))), (.int (0 : Int32)), (.ref r0), (.ref b122), (.ref b122)])) rfl (hb hby d3_29)
  have c160 := (V_r0.ext E122)
  obtain ⟨_, _, ⟨T161, L161, k161, n161⟩, -, X161, ⟨Lc161, hQ161, l161, y161, z161⟩, st161⟩ := X123.specialBack hx (y := Y22) rfl hown (mvT hZ (hw _ (tk 17 rfl))) (mvT hZ (hw _ (tk 18 rfl))) (mvT hZ (hw _ (tk 19 rfl))) (by decide) (backOf (W := 1) (rm4x3 l Z a0 hw hv [] w_1 w_2 w_4 w_5 hS0 b122 r0 k_r0 x_r0_0 x_r0_1 h122 n0 O122 g_b122 g_r0 A122 F_coder_b122 F_value_b122 c160 (Ne.symm ne_r0_b122)) hZ (hw _ (tk 19 rfl)) (hw _ (tk 14 rfl)) (by decide) (by decide)) (g := (mkF m 32 (lt13 r0 ((2 : Int32) - (1 : Int32))) [(.ref w_1), (.int ((2 : Int32) - (1 : Int32))), (.int (0 : Int32)), (.ref r0), (.ref b122), (.ref b122)])) rfl (by rw [hml]; rfl) (Steps.refl _) (a := b122) (argsL := [(.ref r0), (.int (0 : Int32)), (.int ((2 : Int32) - (1 : Int32))), (.ref w_1)]) (rest := [(.ref b122)]) (lenOf pd_6 rfl) rfl (by show 2 * 0 + _ ≤ _; exact Nat.le_of_eq rfl) (hb hby d3_32) (fun _ _ => ⟨rfl, e123, (by decide : 1 + 1 ≤ _), (by decide : 4 + 1 ≤ _)⟩)
  dsimp only [Pt.U, Pt.locs, Pt.cells, Pt.slots] at X161 l161 y161 z161 st161 hQ161
  subst l161 y161 z161
  obtain ⟨b162, k163, rv161, N161q, O161, K161c, Fe161_0, Fe161_1, Fx161_0, Fx161_1, Fx161_2⟩ := hQ161
  subst rv161
  have N161 := Fr.app N0 N161q
  have K161 : Keep h0 T161.heap [] := K122.trans K161c (allS (Or.inr sz_b122) all0)
  have g_b162 := Fx161_0
  have sz_b162 : h0.size ≤ b162 := Nat.le_trans K122.1 Fx161_1
  have ne_r0_b162 : r0 ≠ b162 := Nat.ne_of_lt (Nat.lt_of_lt_of_le c160.lt Fx161_1)
  have ne_b122_b162 : b122 ≠ b162 := Nat.ne_of_lt (Nat.lt_of_lt_of_le A122.lt Fx161_1)
  obtain ⟨fs, hr, hrun, hended, hW, hsame⟩ := X161.leave (v := some (.ref b122)) (fun h => by rw [Bd.returns] at h; cases h)
  have c164 := (A122.keep K161c)
  refine ⟨_, _, pre0 _ ?_, hrun, hended, _, _, rfl, ?_, ⟨_, rfl⟩, hW, hsame.mono (by decide) (by decide)⟩
  · show Sp p e below s₁ (mkF m 0 (lt12 r0) []) _
    refine XS.aloadN X0.here hx rfl (hb hby d3_0) rfl rfl ?_
    show Sp p e below s₁ (mkF m 1 (lt12 r0) [(.ref r0)]) _
    refine X0.arraylength hx (by rw [e0]; exact Ar120.1) (State.isArrayOf_alike hZ.alike Ar120.2.1) (g := (mkF m 1 (lt12 r0) [(.ref r0)])) rfl rfl (hb hby d3_1) _ ?_
    rw [len_of Sa120 Ma120]
    show Sp p e below s₁ (mkF m 2 (lt12 r0) [(.int (2 : Int32))]) _
    refine XS.iconst X0.here hx rfl (hb hby d3_2) ?_
    refine XS.isub X0.here hx rfl (hb hby d3_3) rfl ?_
    show Sp p e below s₁ (mkF m 4 (lt12 r0) [(.int ((2 : Int32) - (1 : Int32)))]) _
    refine XS.istoreN X0.here hx rfl (hb hby d3_4) rfl (l' := (lt13 r0 ((2 : Int32) - (1 : Int32)))) rfl ?_
    refine XS.iloadN X0.here hx rfl (hb hby d3_5) rfl ?_
    show Sp p e below s₁ (mkF m 6 (lt13 r0 ((2 : Int32) - (1 : Int32))) [(.int ((2 : Int32) - (1 : Int32)))]) _
    refine XS.ifNo X0.here hx rfl (hb hby d3_6) rfl ((if0 _ _).trans (tlt (by decide : ((0 : Int32) < ((2 : Int32) - (1 : Int32))))).2.2.2) ?_
    show Sp p e below s₁ (mkF m 9 (lt13 r0 ((2 : Int32) - (1 : Int32))) []) _
    refine XS.aloadN X0.here hx rfl (hb hby d3_9) rfl rfl ?_
    refine XS.iloadN X0.here hx rfl (hb hby d3_10) rfl ?_
    show Sp p e below s₁ (mkF m 11 (lt13 r0 ((2 : Int32) - (1 : Int32))) [(.int ((2 : Int32) - (1 : Int32))), (.ref r0)]) _
    refine XS.iconst X0.here hx rfl (hb hby d3_11) ?_
    refine XS.isub X0.here hx rfl (hb hby d3_12) rfl ?_
    show Sp p e below s₁ (mkF m 13 (lt13 r0 ((2 : Int32) - (1 : Int32))) [(.int (((2 : Int32) - (1 : Int32)) - (1 : Int32))), (.ref r0)]) _
    refine X0.baloadBytes hx (j := (((2 : Int32) - (1 : Int32)) - (1 : Int32))) (v := (.int x_r0_0)) (by rw [e0]; exact Ar121.1) (State.isArrayOf_alike hZ.alike Ar121.2.1) Ar121.2.2 hin121 hat121 (g := (mkF m 13 (lt13 r0 ((2 : Int32) - (1 : Int32))) [(.int (((2 : Int32) - (1 : Int32)) - (1 : Int32))), (.ref r0)])) rfl rfl (hb hby d3_13) _ ?_
    show Sp p e below s₁ (mkF m 14 (lt13 r0 ((2 : Int32) - (1 : Int32))) [(.int x_r0_0)]) _
    refine XS.bipush X0.here hx rfl (hb hby d3_14) ?_
    show Sp p e below s₁ (mkF m 16 (lt13 r0 ((2 : Int32) - (1 : Int32))) [(.int (13 : Int32)), (.int x_r0_0)]) _
    refine XS.icmpYes X0.here hx rfl (pc0 := 16) (pc' := 22) rfl (hb hby d3_16) rfl (feq as0).2 (by decide) (by decide) ?_
    show Sp p e below s₁ (mkF m 22 (lt13 r0 ((2 : Int32) - (1 : Int32))) []) _
    refine st122 _ ?_
    show Sp p e below T122 (mkF m 25 (lt13 r0 ((2 : Int32) - (1 : Int32))) [(.ref b122)]) _
    refine XS.dup X122.here hx rfl (hb hby d3_25) rfl rfl ?_
    refine XS.aloadN X122.here hx rfl (hb hby d3_26) rfl rfl ?_
    show Sp p e below T122 (mkF m 27 (lt13 r0 ((2 : Int32) - (1 : Int32))) [(.ref r0), (.ref b122), (.ref b122)]) _
    refine XS.iconst X122.here hx rfl (hb hby d3_27) ?_
    refine XS.iloadN X122.here hx rfl (hb hby d3_28) rfl ?_
    show Sp p e below T122 (mkF m 29 (lt13 r0 ((2 : Int32) - (1 : Int32))) [(.int ((2 : Int32) - (1 : Int32))), (.int (0 : Int32)), (.ref r0), (.ref b122), (.ref b122)]) _
    refine st123 _ ?_
    show Sp p e below T123 (mkF m 32 (lt13 r0 ((2 : Int32) - (1 : Int32))) [(.ref w_1), (.int ((2 : Int32) - (1 : Int32))), (.int (0 : Int32)), (.ref r0), (.ref b122), (.ref b122)]) _
    refine st161.trans ?_
    show Sp p e below T161 (mkF m 35 (lt13 r0 ((2 : Int32) - (1 : Int32))) [(.ref b122)]) _
    jvm_step X161.here [X161.here.top, hx, (hb hby d3_35), X161.method', Bd.returns, Value.isRef, FieldType.isReference]
    first | (intro acts; rw [hr _ acts rfl rfl rfl]) | rw [hr _ _ rfl rfl rfl]
    exact Steps.refl _
  · show Q3x3 Z w_1 w_2 w_4 w_5 r0 k_r0 x_r0_0 x_r0_1 h0 n0 _ T161.heap _
    exact ⟨b122, b162, k163, rfl, N161, O161, K161, g_b122, sz_b122, c164, Fe161_1, Fe161_0, g_b162, sz_b162, Fx161_2, ne_b122_b162⟩
theorem pn_10x2 : plainName "java/lang/String" = true := by first | (simp [plainName, overriddenIn]; done) | decide +kernel
theorem ef_10x2 (m : MethodId) (r0 : Addr) : entryFrame m #[(.ref r0)] 1 = mkF m 0 #[.val (.ref r0)] [] := by first | (simp [entryFrame, mkF, argsToLocals, Value.category]; done) | rfl
def sp10x2  : Int32 := (0 : Int32)
def Q10x2 (Z : State) (w_1 : Addr) (w_2 : Addr) (w_4 : Int32) (w_5 : Value) (r0 : Addr) (r0_f1 : Addr) (k_r0_f1 : ClassId) (x_r0_f1_0 : Int32) (h0 : Heap) (n0 : Nat) (v : Option Value) (h : Heap) (L : List Loc) : Prop := v = some (.int (sp10x2)) ∧ Fr n0 L ∧ h = h0
set_option maxRecDepth 65536 in
set_option maxHeartbeats 40000000 in
theorem rm10x2 (l : Launch) (Z : State) (a0 : Array Value) (hw : ∀ d ∈ tables_1, d.before a0 Z = true) (hv : ∀ d ∈ jdkStatics_1, d.before a0 Z = true) (ws : List Jvm.Cond) (w_1 : Addr) (w_2 : Addr) (w_4 : Int32) (w_5 : Value) (hS : StF Z w_1 w_2 w_4 w_5) (r0 : Addr) (r0_f1 : Addr) (k_r0_f1 : ClassId) (x_r0_f1_0 : Int32) (h0 : Heap) (n0 : Nat) (O0 : Old Z n0 h0) (g_r0 : n0 ≤ r0) (g_r0_f1 : n0 ≤ r0_f1) (E_r0 : Exa Z h0 r0 "java/lang/String") (F_value_r0 : Fld Z h0 r0 "java/lang/String" "value" "[B" (.ref r0_f1)) (V_r0_f1 : Arv Z h0 r0_f1 k_r0_f1 .byte (((0 : Int32) + ((2 : Int32) - (1 : Int32))) - (0 : Int32)) [(.int x_r0_f1_0)] (.int (0 : Int32))) (ne_r0_r0_f1 : r0 ≠ r0_f1) :
    MetFree l Y24 (head1 (Jvm.Cond.code Y24 jdk_42_method_55_code 1 (some .boolean) :: ws) ({ frames := 0, cells := 0, slots := 0, locals := 0 } : Room)) (fun a U => a = #[(.ref r0)] ∧ Z.Warmed39 U.vm ∧ U.heap = h0) (fun _ _ _ _ _ => True) (fun _ U o U' => ∃ v L, o = .returned v ∧ Q10x2 Z w_1 w_2 w_4 w_5 r0 r0_f1 k_r0_f1 x_r0_f1_0 h0 n0 v U'.heap L ∧ FrameEnd U o U' L ({ frames := 0, cells := 0, slots := 0, locals := 0 } : Room).cells ({ frames := 0, cells := 0, slots := 0, locals := 0 } : Room).slots) := by
  refine MetFree.of_bodySF (plainFor_of_name pn_10x2) hisR ?_
  intro p e s m args below meth c s₁ Bd hml0 hP hK
  obtain ⟨rfl, hZ, hh⟩ := hP
  have hx := Bd.exec
  have hby := Bd.bytes
  have hml : c.maxLocals = 1 := hml0
  have hown : s.vm.findClass "java/lang/String" = some m.cls := findClass_of_methodNamed Bd.named
  have hnm := (name_of_methodNamed Bd.named Bd.method).1
  have X0 : Stand p l e ({ frames := 0, cells := 0, slots := 0, locals := 0 } : Room) s m #[(.ref r0)] below meth c s₁ [] 0 0 := Stand.of_body Bd
  have e0 : s₁.heap = h0 := by rw [← hh, Bd.state]; rfl
  have N0 := Fr.nil n0
  have hS0 := hS
  obtain ⟨S_1, E_1, S_2, E_2, S_3, E_3, S_4, NE_4, S_5, IR_5⟩ := hS
  have pre0 : ∀ t, Steps p.tables e below (s₁.setTop (mkF m 0 #[.val (.ref r0)] [])) t → Steps p.tables e below (s₁.setTop (entryFrame m #[(.ref r0)] 1)) t := fun t k => castTop (ef_10x2 m r0) k
  generalize hE0 : s₁.setTop (entryFrame m #[(.ref r0)] 1) = E0 at pre0 ⊢
  obtain ⟨T169, X169, e169, st169⟩ := getF X0 hx hZ hown (host := "") (Or.inl (hw _ (tk 46 rfl))) Via.refl e0 F_value_r0 (g := (mkF m 1 (lt10 r0) [(.ref r0)])) rfl rfl (hb hby d10_1)
  obtain ⟨cl170, Ar170, qa170, Sa170, Ma170, Ha170, Ga170⟩ := id V_r0_f1
  obtain ⟨fs, hr, hrun, hended, hW, hsame⟩ := X169.leave (v := some (.int (0 : Int32))) (fun h => by rw [Bd.returns] at h; cases h)
  refine ⟨_, _, pre0 _ ?_, hrun, hended, _, _, rfl, ?_, ⟨_, rfl⟩, hW, hsame.mono (by decide) (by decide)⟩
  · show Sp p e below s₁ (mkF m 0 (lt10 r0) []) _
    refine XS.aloadN X0.here hx rfl (hb hby d10_0) rfl rfl ?_
    show Sp p e below s₁ (mkF m 1 (lt10 r0) [(.ref r0)]) _
    refine st169 _ ?_
    show Sp p e below T169 (mkF m 4 (lt10 r0) [(.ref r0_f1)]) _
    refine X169.arraylength hx (by rw [e169]; exact Ar170.1) (State.isArrayOf_alike hZ.alike Ar170.2.1) (g := (mkF m 4 (lt10 r0) [(.ref r0_f1)])) rfl rfl (hb hby d10_4) _ ?_
    rw [len_of Sa170 Ma170]
    show Sp p e below T169 (mkF m 5 (lt10 r0) [(.int (((0 : Int32) + ((2 : Int32) - (1 : Int32))) - (0 : Int32)))]) _
    refine XS.ifYes X169.here hx rfl (pc0 := 5) (pc' := 12) rfl (hb hby d10_5) rfl ((if0 _ _).trans (feq (by decide : ¬ ((((0 : Int32) + ((2 : Int32) - (1 : Int32))) - (0 : Int32)) = (0 : Int32)))).2) (by decide) (by decide) ?_
    show Sp p e below T169 (mkF m 12 (lt10 r0) []) _
    refine XS.iconst X169.here hx rfl (hb hby d10_12) ?_
    show Sp p e below T169 (mkF m 13 (lt10 r0) [(.int (0 : Int32))]) _
    exact retN X169 hx (t := .boolean) Bd.returns (by simp) (hb hby d10_13) hr
  · show Q10x2 Z w_1 w_2 w_4 w_5 r0 r0_f1 k_r0_f1 x_r0_f1_0 h0 n0 _ T169.heap _
    rw [e169]
    exact ⟨by unfold sp10x2; rfl, N0, rfl⟩
theorem pn_2x3 : plainName "com/example/bristlecone/bristlecone/io/HttpLine" = true := by first | (simp [plainName, overriddenIn]; done) | decide +kernel
theorem ef_2x3 (m : MethodId) (r0 : Addr) : entryFrame m #[(.ref r0)] 1 = mkF m 0 #[.val (.ref r0)] [] := by first | (simp [entryFrame, mkF, argsToLocals, Value.category]; done) | rfl
def sp2x3  : Int32 := (0 : Int32)
def Q2x3 (Z : State) (w_1 : Addr) (w_2 : Addr) (w_4 : Int32) (w_5 : Value) (r0 : Addr) (k_r0 : ClassId) (x_r0_0 : Int32) (x_r0_1 : Int32) (x_r0_2 : Int32) (h0 : Heap) (n0 : Nat) (v : Option Value) (h : Heap) (L : List Loc) : Prop := v = some (.int (sp2x3)) ∧ Fr n0 L ∧ h = h0
set_option maxRecDepth 65536 in
set_option maxHeartbeats 40000000 in
theorem rm2x3 (l : Launch) (Z : State) (a0 : Array Value) (hw : ∀ d ∈ tables_1, d.before a0 Z = true) (hv : ∀ d ∈ jdkStatics_1, d.before a0 Z = true) (ws : List Jvm.Cond) (w_1 : Addr) (w_2 : Addr) (w_4 : Int32) (w_5 : Value) (hS : StF Z w_1 w_2 w_4 w_5) (r0 : Addr) (k_r0 : ClassId) (x_r0_0 : Int32) (x_r0_1 : Int32) (x_r0_2 : Int32) (h0 : Heap) (n0 : Nat) (O0 : Old Z n0 h0) (g_r0 : n0 ≤ r0) (V_r0 : Arv Z h0 r0 k_r0 .byte (3 : Int32) [(.int x_r0_0), (.int x_r0_1), (.int x_r0_2)] (.int (0 : Int32))) :
    MetFree l Y11 (head1 (Jvm.Cond.code Y11 prog_8_method_3_code 1 (some .boolean) :: ws) ({ frames := 0, cells := 0, slots := 0, locals := 0 } : Room)) (fun a U => a = #[(.ref r0)] ∧ Z.Warmed39 U.vm ∧ U.heap = h0) (fun _ _ _ _ _ => True) (fun _ U o U' => ∃ v L, o = .returned v ∧ Q2x3 Z w_1 w_2 w_4 w_5 r0 k_r0 x_r0_0 x_r0_1 x_r0_2 h0 n0 v U'.heap L ∧ FrameEnd U o U' L ({ frames := 0, cells := 0, slots := 0, locals := 0 } : Room).cells ({ frames := 0, cells := 0, slots := 0, locals := 0 } : Room).slots) := by
  refine MetFree.of_bodySF (plainFor_of_name pn_2x3) hisR ?_
  intro p e s m args below meth c s₁ Bd hml0 hP hK
  obtain ⟨rfl, hZ, hh⟩ := hP
  have hx := Bd.exec
  have hby := Bd.bytes
  have hml : c.maxLocals = 1 := hml0
  have hown : s.vm.findClass "com/example/bristlecone/bristlecone/io/HttpLine" = some m.cls := findClass_of_methodNamed Bd.named
  have hnm := (name_of_methodNamed Bd.named Bd.method).1
  have X0 : Stand p l e ({ frames := 0, cells := 0, slots := 0, locals := 0 } : Room) s m #[(.ref r0)] below meth c s₁ [] 0 0 := Stand.of_body Bd
  have e0 : s₁.heap = h0 := by rw [← hh, Bd.state]; rfl
  have N0 := Fr.nil n0
  have hS0 := hS
  obtain ⟨S_1, E_1, S_2, E_2, S_3, E_3, S_4, NE_4, S_5, IR_5⟩ := hS
  have pre0 : ∀ t, Steps p.tables e below (s₁.setTop (mkF m 0 #[.val (.ref r0)] [])) t → Steps p.tables e below (s₁.setTop (entryFrame m #[(.ref r0)] 1)) t := fun t k => castTop (ef_2x3 m r0) k
  generalize hE0 : s₁.setTop (entryFrame m #[(.ref r0)] 1) = E0 at pre0 ⊢
  obtain ⟨cl188, Ar188, qa188, Sa188, Ma188, Ha188, Ga188⟩ := id V_r0
  obtain ⟨cl189, Ar189, qa189, Sa189, Ma189, Ha189, Ga189⟩ := id V_r0
  obtain ⟨fs, hr, hrun, hended, hW, hsame⟩ := X0.leave (v := some (.int (0 : Int32))) (fun h => by rw [Bd.returns] at h; cases h)
  refine ⟨_, _, pre0 _ ?_, hrun, hended, _, _, rfl, ?_, ⟨_, rfl⟩, hW, hsame.mono (by decide) (by decide)⟩
  · show Sp p e below s₁ (mkF m 0 (lt10 r0) []) _
    refine XS.aloadN X0.here hx rfl (hb hby d2_0) rfl rfl ?_
    show Sp p e below s₁ (mkF m 1 (lt10 r0) [(.ref r0)]) _
    refine X0.arraylength hx (by rw [e0]; exact Ar188.1) (State.isArrayOf_alike hZ.alike Ar188.2.1) (g := (mkF m 1 (lt10 r0) [(.ref r0)])) rfl rfl (hb hby d2_1) _ ?_
    rw [len_of Sa188 Ma188]
    show Sp p e below s₁ (mkF m 2 (lt10 r0) [(.int (3 : Int32))]) _
    refine XS.iconst X0.here hx rfl (hb hby d2_2) ?_
    show Sp p e below s₁ (mkF m 3 (lt10 r0) [(.int (1 : Int32)), (.int (3 : Int32))]) _
    refine XS.icmpNo X0.here hx rfl (hb hby d2_3) rfl (feq (by decide : ¬ ((3 : Int32) = (1 : Int32)))).1 ?_
    show Sp p e below s₁ (mkF m 6 (lt10 r0) []) _
    refine XS.aloadN X0.here hx rfl (hb hby d2_6) rfl rfl ?_
    show Sp p e below s₁ (mkF m 7 (lt10 r0) [(.ref r0)]) _
    refine X0.arraylength hx (by rw [e0]; exact Ar189.1) (State.isArrayOf_alike hZ.alike Ar189.2.1) (g := (mkF m 7 (lt10 r0) [(.ref r0)])) rfl rfl (hb hby d2_7) _ ?_
    rw [len_of Sa189 Ma189]
    show Sp p e below s₁ (mkF m 8 (lt10 r0) [(.int (3 : Int32))]) _
    refine XS.iconst X0.here hx rfl (hb hby d2_8) ?_
    show Sp p e below s₁ (mkF m 9 (lt10 r0) [(.int (2 : Int32)), (.int (3 : Int32))]) _
    refine XS.icmpYes X0.here hx rfl (pc0 := 9) (pc' := 24) rfl (hb hby d2_9) rfl (feq (by decide : ¬ ((3 : Int32) = (2 : Int32)))).2 (by decide) (by decide) ?_
    show Sp p e below s₁ (mkF m 24 (lt10 r0) []) _
    refine XS.iconst X0.here hx rfl (hb hby d2_24) ?_
    show Sp p e below s₁ (mkF m 25 (lt10 r0) [(.int (0 : Int32))]) _
    exact retN X0 hx (t := .boolean) Bd.returns (by simp) (hb hby d2_25) hr
  · show Q2x3 Z w_1 w_2 w_4 w_5 r0 k_r0 x_r0_0 x_r0_1 x_r0_2 h0 n0 _ s₁.heap _
    rw [e0]
    exact ⟨by unfold sp2x3; rfl, N0, rfl⟩
theorem pn_7u3x4 : plainName "jdk/internal/util/Preconditions" = true := by first | (simp [plainName, overriddenIn]; done) | decide +kernel
theorem ef_7u3x4 (m : MethodId) (u3 : Value) (i_u3 : u3.isRef = true) : entryFrame m #[(.int (0 : Int32)), (.int (((3 : Int32) - (1 : Int32)) + (-1 : Int32))), (.int (3 : Int32)), u3] 4 = mkF m 0 #[.val (.int (0 : Int32)), .val (.int (((3 : Int32) - (1 : Int32)) + (-1 : Int32))), .val (.int (3 : Int32)), .val u3] [] := by rcases ref_cases i_u3 with rfl | ⟨z_u3, rfl⟩ <;> first | (simp [entryFrame, mkF, argsToLocals, Value.category]; done) | rfl
def Q7u3x4 (Z : State) (w_1 : Addr) (w_2 : Addr) (w_4 : Int32) (w_5 : Value) (u3 : Value) (h0 : Heap) (n0 : Nat) (v : Option Value) (h : Heap) (L : List Loc) : Prop := v = some (.int (0 : Int32)) ∧ Fr n0 L ∧ h = h0
set_option maxRecDepth 65536 in
set_option maxHeartbeats 40000000 in
theorem rm7u3x4 (l : Launch) (Z : State) (a0 : Array Value) (hw : ∀ d ∈ tables_1, d.before a0 Z = true) (hv : ∀ d ∈ jdkStatics_1, d.before a0 Z = true) (ws : List Jvm.Cond) (w_1 : Addr) (w_2 : Addr) (w_4 : Int32) (w_5 : Value) (hS : StF Z w_1 w_2 w_4 w_5) (u3 : Value) (h0 : Heap) (n0 : Nat) (O0 : Old Z n0 h0) (i_u3 : u3.isRef = true) :
    MetFree l Y18 (head1 (Jvm.Cond.code Y18 jdk_41_method_13_code 4 (some .int) :: ws) ({ frames := 0, cells := 0, slots := 0, locals := 0 } : Room)) (fun a U => a = #[(.int (0 : Int32)), (.int (((3 : Int32) - (1 : Int32)) + (-1 : Int32))), (.int (3 : Int32)), u3] ∧ Z.Warmed39 U.vm ∧ U.heap = h0) (fun _ _ _ _ _ => True) (fun _ U o U' => ∃ v L, o = .returned v ∧ Q7u3x4 Z w_1 w_2 w_4 w_5 u3 h0 n0 v U'.heap L ∧ FrameEnd U o U' L ({ frames := 0, cells := 0, slots := 0, locals := 0 } : Room).cells ({ frames := 0, cells := 0, slots := 0, locals := 0 } : Room).slots) := by
  refine MetFree.of_bodySF (plainFor_of_name pn_7u3x4) hisR ?_
  intro p e s m args below meth c s₁ Bd hml0 hP hK
  obtain ⟨rfl, hZ, hh⟩ := hP
  have hx := Bd.exec
  have hby := Bd.bytes
  have hml : c.maxLocals = 4 := hml0
  have hown : s.vm.findClass "jdk/internal/util/Preconditions" = some m.cls := findClass_of_methodNamed Bd.named
  have hnm := (name_of_methodNamed Bd.named Bd.method).1
  have X0 : Stand p l e ({ frames := 0, cells := 0, slots := 0, locals := 0 } : Room) s m #[(.int (0 : Int32)), (.int (((3 : Int32) - (1 : Int32)) + (-1 : Int32))), (.int (3 : Int32)), u3] below meth c s₁ [] 0 0 := Stand.of_body Bd
  have e0 : s₁.heap = h0 := by rw [← hh, Bd.state]; rfl
  have N0 := Fr.nil n0
  have hS0 := hS
  obtain ⟨S_1, E_1, S_2, E_2, S_3, E_3, S_4, NE_4, S_5, IR_5⟩ := hS
  have pre0 : ∀ t, Steps p.tables e below (s₁.setTop (mkF m 0 #[.val (.int (0 : Int32)), .val (.int (((3 : Int32) - (1 : Int32)) + (-1 : Int32))), .val (.int (3 : Int32)), .val u3] [])) t → Steps p.tables e below (s₁.setTop (entryFrame m #[(.int (0 : Int32)), (.int (((3 : Int32) - (1 : Int32)) + (-1 : Int32))), (.int (3 : Int32)), u3] 4)) t := fun t k => castTop (ef_7u3x4 m u3 i_u3) k
  generalize hE0 : s₁.setTop (entryFrame m #[(.int (0 : Int32)), (.int (((3 : Int32) - (1 : Int32)) + (-1 : Int32))), (.int (3 : Int32)), u3] 4) = E0 at pre0 ⊢
  obtain ⟨fs, hr, hrun, hended, hW, hsame⟩ := X0.leave (v := some (.int (0 : Int32))) (fun h => by rw [Bd.returns] at h; cases h)
  refine ⟨_, _, pre0 _ ?_, hrun, hended, _, _, rfl, ?_, ⟨_, rfl⟩, hW, hsame.mono (by decide) (by decide)⟩
  · show Sp p e below s₁ (mkF m 0 (lt15 (0 : Int32) (((3 : Int32) - (1 : Int32)) + (-1 : Int32)) (3 : Int32) u3) []) _
    refine XS.iloadN X0.here hx rfl (hb hby d7_0) rfl ?_
    refine XS.iloadN X0.here hx rfl (hb hby d7_1) rfl ?_
    show Sp p e below s₁ (mkF m 2 (lt15 (0 : Int32) (((3 : Int32) - (1 : Int32)) + (-1 : Int32)) (3 : Int32) u3) [(.int (0 : Int32)), (.int (3 : Int32))]) _
    refine XS.ior X0.here hx rfl (hb hby d7_2) rfl ?_
    refine XS.iloadN X0.here hx rfl (hb hby d7_3) rfl ?_
    show Sp p e below s₁ (mkF m 4 (lt15 (0 : Int32) (((3 : Int32) - (1 : Int32)) + (-1 : Int32)) (3 : Int32) u3) [(.int (((3 : Int32) - (1 : Int32)) + (-1 : Int32))), (.int ((3 : Int32) ||| (0 : Int32)))]) _
    refine XS.ior X0.here hx rfl (hb hby d7_4) rfl ?_
    show Sp p e below s₁ (mkF m 5 (lt15 (0 : Int32) (((3 : Int32) - (1 : Int32)) + (-1 : Int32)) (3 : Int32) u3) [(.int (((3 : Int32) ||| (0 : Int32)) ||| (((3 : Int32) - (1 : Int32)) + (-1 : Int32))))]) _
    refine XS.ifNo X0.here hx rfl (hb hby d7_5) rfl ((if0 _ _).trans (flt (by decide : ¬ ((((3 : Int32) ||| (0 : Int32)) ||| (((3 : Int32) - (1 : Int32)) + (-1 : Int32))) < (0 : Int32)))).1) ?_
    show Sp p e below s₁ (mkF m 8 (lt15 (0 : Int32) (((3 : Int32) - (1 : Int32)) + (-1 : Int32)) (3 : Int32) u3) []) _
    refine XS.iloadN X0.here hx rfl (hb hby d7_8) rfl ?_
    refine XS.iloadN X0.here hx rfl (hb hby d7_9) rfl ?_
    show Sp p e below s₁ (mkF m 10 (lt15 (0 : Int32) (((3 : Int32) - (1 : Int32)) + (-1 : Int32)) (3 : Int32) u3) [(.int (3 : Int32)), (.int (((3 : Int32) - (1 : Int32)) + (-1 : Int32)))]) _
    refine XS.iloadN X0.here hx rfl (hb hby d7_10) rfl ?_
    refine XS.isub X0.here hx rfl (hb hby d7_11) rfl ?_
    show Sp p e below s₁ (mkF m 12 (lt15 (0 : Int32) (((3 : Int32) - (1 : Int32)) + (-1 : Int32)) (3 : Int32) u3) [(.int ((3 : Int32) - (0 : Int32))), (.int (((3 : Int32) - (1 : Int32)) + (-1 : Int32)))]) _
    refine XS.icmpYes X0.here hx rfl (pc0 := 12) (pc' := 23) rfl (hb hby d7_12) rfl (flt (by decide : ¬ (((3 : Int32) - (0 : Int32)) < (((3 : Int32) - (1 : Int32)) + (-1 : Int32))))).2.2.2 (by decide) (by decide) ?_
    show Sp p e below s₁ (mkF m 23 (lt15 (0 : Int32) (((3 : Int32) - (1 : Int32)) + (-1 : Int32)) (3 : Int32) u3) []) _
    refine XS.iloadN X0.here hx rfl (hb hby d7_23) rfl ?_
    show Sp p e below s₁ (mkF m 24 (lt15 (0 : Int32) (((3 : Int32) - (1 : Int32)) + (-1 : Int32)) (3 : Int32) u3) [(.int (0 : Int32))]) _
    exact retI X0 hx Bd.returns (hb hby d7_24) hr
  · show Q7u3x4 Z w_1 w_2 w_4 w_5 u3 h0 n0 _ s₁.heap _
    rw [e0]
    exact ⟨rfl, N0, rfl⟩
theorem pn_6x4 : plainName "java/lang/String" = true := by first | (simp [plainName, overriddenIn]; done) | decide +kernel
theorem ef_6x4 (m : MethodId)  : entryFrame m #[(.int (0 : Int32)), (.int (((3 : Int32) - (1 : Int32)) + (-1 : Int32))), (.int (3 : Int32))] 3 = mkF m 0 #[.val (.int (0 : Int32)), .val (.int (((3 : Int32) - (1 : Int32)) + (-1 : Int32))), .val (.int (3 : Int32))] [] := by first | (simp [entryFrame, mkF, argsToLocals, Value.category]; done) | rfl
def Q6x4 (Z : State) (w_1 : Addr) (w_2 : Addr) (w_4 : Int32) (w_5 : Value) (h0 : Heap) (n0 : Nat) (v : Option Value) (h : Heap) (L : List Loc) : Prop := v = some (.int (0 : Int32)) ∧ Fr n0 L ∧ h = h0
set_option maxRecDepth 65536 in
set_option maxHeartbeats 40000000 in
theorem rm6x4 (l : Launch) (Z : State) (a0 : Array Value) (hw : ∀ d ∈ tables_1, d.before a0 Z = true) (hv : ∀ d ∈ jdkStatics_1, d.before a0 Z = true) (ws : List Jvm.Cond) (w_1 : Addr) (w_2 : Addr) (w_4 : Int32) (w_5 : Value) (hS : StF Z w_1 w_2 w_4 w_5) (h0 : Heap) (n0 : Nat) (O0 : Old Z n0 h0) :
    MetFree l Y19 (head1 (Jvm.Cond.code Y19 jdk_42_method_157_code 3 (some .int) :: ws) ({ frames := 1, cells := 0, slots := 0, locals := 15 } : Room)) (fun a U => a = #[(.int (0 : Int32)), (.int (((3 : Int32) - (1 : Int32)) + (-1 : Int32))), (.int (3 : Int32))] ∧ Z.Warmed39 U.vm ∧ U.heap = h0) (fun _ _ _ _ _ => True) (fun _ U o U' => ∃ v L, o = .returned v ∧ Q6x4 Z w_1 w_2 w_4 w_5 h0 n0 v U'.heap L ∧ FrameEnd U o U' L ({ frames := 1, cells := 0, slots := 0, locals := 15 } : Room).cells ({ frames := 1, cells := 0, slots := 0, locals := 15 } : Room).slots) := by
  refine MetFree.of_bodySF (plainFor_of_name pn_6x4) hisR ?_
  intro p e s m args below meth c s₁ Bd hml0 hP hK
  obtain ⟨rfl, hZ, hh⟩ := hP
  have hx := Bd.exec
  have hby := Bd.bytes
  have hml : c.maxLocals = 3 := hml0
  have hown : s.vm.findClass "java/lang/String" = some m.cls := findClass_of_methodNamed Bd.named
  have hnm := (name_of_methodNamed Bd.named Bd.method).1
  have X0 : Stand p l e ({ frames := 1, cells := 0, slots := 0, locals := 15 } : Room) s m #[(.int (0 : Int32)), (.int (((3 : Int32) - (1 : Int32)) + (-1 : Int32))), (.int (3 : Int32))] below meth c s₁ [] 0 0 := Stand.of_body Bd
  have e0 : s₁.heap = h0 := by rw [← hh, Bd.state]; rfl
  have N0 := Fr.nil n0
  have hS0 := hS
  obtain ⟨S_1, E_1, S_2, E_2, S_3, E_3, S_4, NE_4, S_5, IR_5⟩ := hS
  have pre0 : ∀ t, Steps p.tables e below (s₁.setTop (mkF m 0 #[.val (.int (0 : Int32)), .val (.int (((3 : Int32) - (1 : Int32)) + (-1 : Int32))), .val (.int (3 : Int32))] [])) t → Steps p.tables e below (s₁.setTop (entryFrame m #[(.int (0 : Int32)), (.int (((3 : Int32) - (1 : Int32)) + (-1 : Int32))), (.int (3 : Int32))] 3)) t := fun t k => castTop (ef_6x4 m ) k
  generalize hE0 : s₁.setTop (entryFrame m #[(.int (0 : Int32)), (.int (((3 : Int32) - (1 : Int32)) + (-1 : Int32))), (.int (3 : Int32))] 3) = E0 at pre0 ⊢
  obtain ⟨T200, X200, e200, st200⟩ := getS2 X0 hx hZ hown (host := "") (Or.inl (hw _ (tk 29 rfl))) Via.refl e0 (S_5.ext O0.2) (g := (mkF m 3 (lt4 (0 : Int32) (((3 : Int32) - (1 : Int32)) + (-1 : Int32)) (3 : Int32)) [(.int (3 : Int32)), (.int (((3 : Int32) - (1 : Int32)) + (-1 : Int32))), (.int (0 : Int32))])) rfl (hb hby d6_3)
  obtain ⟨_, _, ⟨T201, L201, k201, n201⟩, -, X201, ⟨Lc201, hQ201, l201, y201, z201⟩, st201⟩ := Jvm.LawKit.callS X200 hx (y := Y18) hown (mvT hZ (hw _ (tk 31 rfl))) (mvT hZ (hw _ (tk 32 rfl))) (mvT hZ (hw _ (tk 30 rfl))) (mvT hZ (hw _ (tk 33 rfl))) (by decide) (backOf (W := 0) (rm7u3x4 l Z a0 hw hv [] w_1 w_2 w_4 w_5 hS0 w_5 h0 n0 O0 IR_5) hZ (hw _ (tk 33 rfl)) (hw _ (tk 30 rfl)) (by decide) (by decide)) (g := (mkF m 6 (lt4 (0 : Int32) (((3 : Int32) - (1 : Int32)) + (-1 : Int32)) (3 : Int32)) [w_5, (.int (3 : Int32)), (.int (((3 : Int32) - (1 : Int32)) + (-1 : Int32))), (.int (0 : Int32))])) rfl (by rw [hml]; rfl) (argsL := [(.int (0 : Int32)), (.int (((3 : Int32) - (1 : Int32)) + (-1 : Int32))), (.int (3 : Int32)), w_5]) (rest := []) (lenOf pd_3 rfl) rfl (by show 2 * 0 + _ ≤ _; exact Nat.le_of_eq rfl) (hb hby d6_6) (fun _ _ => ⟨rfl, e200, (by decide : 0 + 0 ≤ _), (by decide : 0 + 0 ≤ _)⟩)
  dsimp only [Pt.U, Pt.locs, Pt.cells, Pt.slots] at X201 l201 y201 z201 st201 hQ201
  subst l201 y201 z201
  obtain ⟨rv201, N201q, e201⟩ := hQ201
  subst rv201
  have N201 := Fr.app N0 N201q
  obtain ⟨fs, hr, hrun, hended, hW, hsame⟩ := X201.leave (v := some (.int (0 : Int32))) (fun h => by rw [Bd.returns] at h; cases h)
  refine ⟨_, _, pre0 _ ?_, hrun, hended, _, _, rfl, ?_, ⟨_, rfl⟩, hW, hsame.mono (by decide) (by decide)⟩
  · show Sp p e below s₁ (mkF m 0 (lt4 (0 : Int32) (((3 : Int32) - (1 : Int32)) + (-1 : Int32)) (3 : Int32)) []) _
    refine XS.iloadN X0.here hx rfl (hb hby d6_0) rfl ?_
    refine XS.iloadN X0.here hx rfl (hb hby d6_1) rfl ?_
    show Sp p e below s₁ (mkF m 2 (lt4 (0 : Int32) (((3 : Int32) - (1 : Int32)) + (-1 : Int32)) (3 : Int32)) [(.int (((3 : Int32) - (1 : Int32)) + (-1 : Int32))), (.int (0 : Int32))]) _
    refine XS.iloadN X0.here hx rfl (hb hby d6_2) rfl ?_
    show Sp p e below s₁ (mkF m 3 (lt4 (0 : Int32) (((3 : Int32) - (1 : Int32)) + (-1 : Int32)) (3 : Int32)) [(.int (3 : Int32)), (.int (((3 : Int32) - (1 : Int32)) + (-1 : Int32))), (.int (0 : Int32))]) _
    refine st200 _ ?_
    show Sp p e below T200 (mkF m 6 (lt4 (0 : Int32) (((3 : Int32) - (1 : Int32)) + (-1 : Int32)) (3 : Int32)) [w_5, (.int (3 : Int32)), (.int (((3 : Int32) - (1 : Int32)) + (-1 : Int32))), (.int (0 : Int32))]) _
    refine st201 _ ?_
    show Sp p e below T201 (mkF m 9 (lt4 (0 : Int32) (((3 : Int32) - (1 : Int32)) + (-1 : Int32)) (3 : Int32)) [(.int (0 : Int32))]) _
    exact retI X201 hx Bd.returns (hb hby d6_9) hr
  · show Q6x4 Z w_1 w_2 w_4 w_5 h0 n0 _ T201.heap _
    rw [e201]
    exact ⟨rfl, N201, rfl⟩
theorem pn_13x2 : plainName "java/util/Arrays" = true := by first | (simp [plainName, overriddenIn]; done) | decide +kernel
theorem ef_13x2 (m : MethodId)  : entryFrame m #[(.int (0 : Int32)), (.int ((0 : Int32) + (((3 : Int32) - (1 : Int32)) + (-1 : Int32))))] 2 = mkF m 0 #[.val (.int (0 : Int32)), .val (.int ((0 : Int32) + (((3 : Int32) - (1 : Int32)) + (-1 : Int32))))] [] := by first | (simp [entryFrame, mkF, argsToLocals, Value.category]; done) | rfl
def Q13x2 (Z : State) (w_1 : Addr) (w_2 : Addr) (w_4 : Int32) (w_5 : Value) (h0 : Heap) (n0 : Nat) (v : Option Value) (h : Heap) (L : List Loc) : Prop := v = none ∧ Fr n0 L ∧ h = h0
set_option maxRecDepth 65536 in
set_option maxHeartbeats 40000000 in
theorem rm13x2 (l : Launch) (Z : State) (a0 : Array Value) (hw : ∀ d ∈ tables_1, d.before a0 Z = true) (hv : ∀ d ∈ jdkStatics_1, d.before a0 Z = true) (ws : List Jvm.Cond) (w_1 : Addr) (w_2 : Addr) (w_4 : Int32) (w_5 : Value) (hS : StF Z w_1 w_2 w_4 w_5) (h0 : Heap) (n0 : Nat) (O0 : Old Z n0 h0) :
    MetFree l Y29 (head1 (Jvm.Cond.code Y29 jdk_65_method_131_code 2 none :: ws) ({ frames := 0, cells := 0, slots := 0, locals := 0 } : Room)) (fun a U => a = #[(.int (0 : Int32)), (.int ((0 : Int32) + (((3 : Int32) - (1 : Int32)) + (-1 : Int32))))] ∧ Z.Warmed39 U.vm ∧ U.heap = h0) (fun _ _ _ _ _ => True) (fun _ U o U' => ∃ v L, o = .returned v ∧ Q13x2 Z w_1 w_2 w_4 w_5 h0 n0 v U'.heap L ∧ FrameEnd U o U' L ({ frames := 0, cells := 0, slots := 0, locals := 0 } : Room).cells ({ frames := 0, cells := 0, slots := 0, locals := 0 } : Room).slots) := by
  refine MetFree.of_bodySF (plainFor_of_name pn_13x2) hisR ?_
  intro p e s m args below meth c s₁ Bd hml0 hP hK
  obtain ⟨rfl, hZ, hh⟩ := hP
  have hx := Bd.exec
  have hby := Bd.bytes
  have hml : c.maxLocals = 2 := hml0
  have hown : s.vm.findClass "java/util/Arrays" = some m.cls := findClass_of_methodNamed Bd.named
  have hnm := (name_of_methodNamed Bd.named Bd.method).1
  have X0 : Stand p l e ({ frames := 0, cells := 0, slots := 0, locals := 0 } : Room) s m #[(.int (0 : Int32)), (.int ((0 : Int32) + (((3 : Int32) - (1 : Int32)) + (-1 : Int32))))] below meth c s₁ [] 0 0 := Stand.of_body Bd
  have e0 : s₁.heap = h0 := by rw [← hh, Bd.state]; rfl
  have N0 := Fr.nil n0
  have hS0 := hS
  obtain ⟨S_1, E_1, S_2, E_2, S_3, E_3, S_4, NE_4, S_5, IR_5⟩ := hS
  have pre0 : ∀ t, Steps p.tables e below (s₁.setTop (mkF m 0 #[.val (.int (0 : Int32)), .val (.int ((0 : Int32) + (((3 : Int32) - (1 : Int32)) + (-1 : Int32))))] [])) t → Steps p.tables e below (s₁.setTop (entryFrame m #[(.int (0 : Int32)), (.int ((0 : Int32) + (((3 : Int32) - (1 : Int32)) + (-1 : Int32))))] 2)) t := fun t k => castTop (ef_13x2 m ) k
  generalize hE0 : s₁.setTop (entryFrame m #[(.int (0 : Int32)), (.int ((0 : Int32) + (((3 : Int32) - (1 : Int32)) + (-1 : Int32))))] 2) = E0 at pre0 ⊢
  obtain ⟨fs, hr, hrun, hended, hW, hsame⟩ := X0.leave (v := none) (fun _ => rfl)
  refine ⟨_, _, pre0 _ ?_, hrun, hended, _, _, rfl, ?_, ⟨_, rfl⟩, hW, hsame.mono (by decide) (by decide)⟩
  · show Sp p e below s₁ (mkF m 0 (lt20 (0 : Int32) ((0 : Int32) + (((3 : Int32) - (1 : Int32)) + (-1 : Int32)))) []) _
    refine XS.iloadN X0.here hx rfl (hb hby d13_0) rfl ?_
    refine XS.iloadN X0.here hx rfl (hb hby d13_1) rfl ?_
    show Sp p e below s₁ (mkF m 2 (lt20 (0 : Int32) ((0 : Int32) + (((3 : Int32) - (1 : Int32)) + (-1 : Int32)))) [(.int (0 : Int32)), (.int ((0 : Int32) + (((3 : Int32) - (1 : Int32)) + (-1 : Int32))))]) _
    refine XS.icmpYes X0.here hx rfl (pc0 := 2) (pc' := 37) rfl (hb hby d13_2) rfl (flt (by decide : ¬ (((0 : Int32) + (((3 : Int32) - (1 : Int32)) + (-1 : Int32))) < (0 : Int32)))).2.1 (by decide) (by decide) ?_
    show Sp p e below s₁ (mkF m 37 (lt20 (0 : Int32) ((0 : Int32) + (((3 : Int32) - (1 : Int32)) + (-1 : Int32)))) []) _
    exact X0.returnOut hx Bd.returns (hb hby d13_37) hr
  · show Q13x2 Z w_1 w_2 w_4 w_5 h0 n0 _ s₁.heap _
    rw [e0]
    exact ⟨rfl, N0, rfl⟩
theorem pn_12x2 : plainName "java/util/Arrays" = true := by first | (simp [plainName, overriddenIn]; done) | decide +kernel
theorem ef_12x2 (m : MethodId) (r0 : Addr) : entryFrame m #[(.ref r0), (.int (0 : Int32)), (.int ((0 : Int32) + (((3 : Int32) - (1 : Int32)) + (-1 : Int32))))] 5 = mkF m 0 #[.val (.ref r0), .val (.int (0 : Int32)), .val (.int ((0 : Int32) + (((3 : Int32) - (1 : Int32)) + (-1 : Int32)))), .unset, .unset] [] := by first | (simp [entryFrame, mkF, argsToLocals, Value.category]; done) | rfl
def Q12x2 (Z : State) (w_1 : Addr) (w_2 : Addr) (w_4 : Int32) (w_5 : Value) (r0 : Addr) (k_r0 : ClassId) (x_r0_0 : Int32) (x_r0_1 : Int32) (x_r0_2 : Int32) (h0 : Heap) (n0 : Nat) (v : Option Value) (h : Heap) (L : List Loc) : Prop := ∃ (b209 : Addr) (k209 : ClassId), v = some (.ref b209) ∧ Fr n0 L ∧ Old Z n0 h ∧ Keep h0 h [] ∧ n0 ≤ b209 ∧ h0.size ≤ b209 ∧ Arv Z h b209 k209 .byte (((0 : Int32) + (((3 : Int32) - (1 : Int32)) + (-1 : Int32))) - (0 : Int32)) [(.int x_r0_0)] (.int (0 : Int32))
set_option maxRecDepth 65536 in
set_option maxHeartbeats 40000000 in
theorem rm12x2 (l : Launch) (Z : State) (a0 : Array Value) (hw : ∀ d ∈ tables_1, d.before a0 Z = true) (hv : ∀ d ∈ jdkStatics_1, d.before a0 Z = true) (ws : List Jvm.Cond) (w_1 : Addr) (w_2 : Addr) (w_4 : Int32) (w_5 : Value) (hS : StF Z w_1 w_2 w_4 w_5) (r0 : Addr) (k_r0 : ClassId) (x_r0_0 : Int32) (x_r0_1 : Int32) (x_r0_2 : Int32) (h0 : Heap) (n0 : Nat) (O0 : Old Z n0 h0) (g_r0 : n0 ≤ r0) (V_r0 : Arv Z h0 r0 k_r0 .byte (3 : Int32) [(.int x_r0_0), (.int x_r0_1), (.int x_r0_2)] (.int (0 : Int32))) :
    MetFree l Y33 (head1 (Jvm.Cond.code Y33 jdk_65_method_133_code 5 (some (.array .byte)) :: ws) ({ frames := 1, cells := 1, slots := 1, locals := 18 } : Room)) (fun a U => a = #[(.ref r0), (.int (0 : Int32)), (.int ((0 : Int32) + (((3 : Int32) - (1 : Int32)) + (-1 : Int32))))] ∧ Z.Warmed39 U.vm ∧ U.heap = h0) (fun _ _ _ _ _ => True) (fun _ U o U' => ∃ v L, o = .returned v ∧ Q12x2 Z w_1 w_2 w_4 w_5 r0 k_r0 x_r0_0 x_r0_1 x_r0_2 h0 n0 v U'.heap L ∧ FrameEnd U o U' L ({ frames := 1, cells := 1, slots := 1, locals := 18 } : Room).cells ({ frames := 1, cells := 1, slots := 1, locals := 18 } : Room).slots) := by
  refine MetFree.of_bodySF (plainFor_of_name pn_12x2) hisR ?_
  intro p e s m args below meth c s₁ Bd hml0 hP hK
  obtain ⟨rfl, hZ, hh⟩ := hP
  have hx := Bd.exec
  have hby := Bd.bytes
  have hml : c.maxLocals = 5 := hml0
  have hown : s.vm.findClass "java/util/Arrays" = some m.cls := findClass_of_methodNamed Bd.named
  have hnm := (name_of_methodNamed Bd.named Bd.method).1
  have X0 : Stand p l e ({ frames := 1, cells := 1, slots := 1, locals := 18 } : Room) s m #[(.ref r0), (.int (0 : Int32)), (.int ((0 : Int32) + (((3 : Int32) - (1 : Int32)) + (-1 : Int32))))] below meth c s₁ [] 0 0 := Stand.of_body Bd
  have e0 : s₁.heap = h0 := by rw [← hh, Bd.state]; rfl
  have N0 := Fr.nil n0
  have hS0 := hS
  obtain ⟨S_1, E_1, S_2, E_2, S_3, E_3, S_4, NE_4, S_5, IR_5⟩ := hS
  have pre0 : ∀ t, Steps p.tables e below (s₁.setTop (mkF m 0 #[.val (.ref r0), .val (.int (0 : Int32)), .val (.int ((0 : Int32) + (((3 : Int32) - (1 : Int32)) + (-1 : Int32)))), .unset, .unset] [])) t → Steps p.tables e below (s₁.setTop (entryFrame m #[(.ref r0), (.int (0 : Int32)), (.int ((0 : Int32) + (((3 : Int32) - (1 : Int32)) + (-1 : Int32))))] 5)) t := fun t k => castTop (ef_12x2 m r0) k
  generalize hE0 : s₁.setTop (entryFrame m #[(.ref r0), (.int (0 : Int32)), (.int ((0 : Int32) + (((3 : Int32) - (1 : Int32)) + (-1 : Int32))))] 5) = E0 at pre0 ⊢
  obtain ⟨_, _, ⟨T208, L208, k208, n208⟩, -, X208, ⟨Lc208, hQ208, l208, y208, z208⟩, st208⟩ := Jvm.LawKit.callS X0 hx (y := Y29) hown (mvT hZ (hw _ (tk 65 rfl))) (mvT hZ (hw _ (tk 66 rfl))) (mvT hZ (hw _ (tk 60 rfl))) (mvT hZ (hw _ (tk 67 rfl))) (by decide) (backOf (W := 0) (rm13x2 l Z a0 hw hv [] w_1 w_2 w_4 w_5 hS0 h0 n0 O0) hZ (hw _ (tk 67 rfl)) (hw _ (tk 60 rfl)) (by decide) (by decide)) (g := (mkF m 2 (lt19 r0 (0 : Int32) ((0 : Int32) + (((3 : Int32) - (1 : Int32)) + (-1 : Int32)))) [(.int ((0 : Int32) + (((3 : Int32) - (1 : Int32)) + (-1 : Int32)))), (.int (0 : Int32))])) rfl (by rw [hml]; rfl) (argsL := [(.int (0 : Int32)), (.int ((0 : Int32) + (((3 : Int32) - (1 : Int32)) + (-1 : Int32))))]) (rest := []) (lenOf pd_9 rfl) rfl (by show 2 * 0 + _ ≤ _; exact Nat.le_of_eq rfl) (hb hby d12_2) (fun _ _ => ⟨rfl, e0, (by decide : 0 + 0 ≤ _), (by decide : 0 + 0 ≤ _)⟩)
  dsimp only [Pt.U, Pt.locs, Pt.cells, Pt.slots] at X208 l208 y208 z208 st208 hQ208
  subst l208 y208 z208
  obtain ⟨rv208, N208q, e208⟩ := hQ208
  subst rv208
  have N208 := Fr.app N0 N208q
  obtain ⟨T209, h209, k209, X209, e209, E209, A209, st209⟩ := newP X208 hx hZ (hw _ (tk 0 rfl)) e208 (g := (mkF m 10 (lt21 r0 (0 : Int32) ((0 : Int32) + (((3 : Int32) - (1 : Int32)) + (-1 : Int32))) (((0 : Int32) + (((3 : Int32) - (1 : Int32)) + (-1 : Int32))) - (0 : Int32))) [(.int (((0 : Int32) + (((3 : Int32) - (1 : Int32)) + (-1 : Int32))) - (0 : Int32)))])) rfl (hb hby d12_10) rfl (by decide) (cap := 1) (by decide) (by decide) (by decide) (by decide)
  obtain ⟨b209, g209⟩ : ∃ z, z = h0.size := ⟨_, rfl⟩
  rw [← g209] at A209 st209
  have g_b209 : n0 ≤ b209 := Nat.le_trans (own_old O0) (Nat.le_of_eq g209.symm)
  have sz_b209 : h0.size ≤ b209 := Nat.le_trans (Keep.refl h0 []).1 (Nat.le_of_eq g209.symm)
  have ne_r0_b209 : r0 ≠ b209 := Nat.ne_of_lt (Nat.lt_of_lt_of_le V_r0.lt (Nat.le_of_eq g209.symm))
  have O209 : Old Z n0 h209 := O0.ext E209
  have K209 : Keep h0 h209 [] := (Keep.refl h0 []).ext E209
  have V_b209 : Arv Z h209 b209 k209 .byte (((0 : Int32) + (((3 : Int32) - (1 : Int32)) + (-1 : Int32))) - (0 : Int32)) [(.int (0 : Int32))] (.int (0 : Int32)) := (Arv.new A209 (by decide)).pad (pad_rep [] (.int (0 : Int32)) 1)
  have c210 := (V_r0.ext E209)
  obtain ⟨cl211, Ar211, qa211, Sa211, Ma211, Ha211, Ga211⟩ := id c210
  obtain ⟨_, _, ⟨T212, L212, k212, n212⟩, -, X212, ⟨Lc212, hQ212, l212, y212, z212⟩, st212⟩ := Jvm.LawKit.callS X209 hx (y := Y32) hown (mvT hZ (hw _ (tk 68 rfl))) (mvT hZ (hw _ (tk 69 rfl))) (mvT hZ (hw _ (tk 70 rfl))) (mvT hZ (hw _ (tk 71 rfl))) (by decide) (backOf (W := 4) (rm14 l Z a0 hw hv [] w_1 w_2 w_4 w_5 hS0 ((3 : Int32) - (0 : Int32)) (((0 : Int32) + (((3 : Int32) - (1 : Int32)) + (-1 : Int32))) - (0 : Int32)) h209 n0 O209) hZ (hw _ (tk 71 rfl)) (hw _ (tk 70 rfl)) (by decide) (by decide)) (g := (mkF m 24 (lt22 r0 (0 : Int32) ((0 : Int32) + (((3 : Int32) - (1 : Int32)) + (-1 : Int32))) (((0 : Int32) + (((3 : Int32) - (1 : Int32)) + (-1 : Int32))) - (0 : Int32)) b209) [(.int (((0 : Int32) + (((3 : Int32) - (1 : Int32)) + (-1 : Int32))) - (0 : Int32))), (.int ((3 : Int32) - (0 : Int32))), (.int (0 : Int32)), (.ref b209), (.int (0 : Int32)), (.ref r0)])) rfl (by rw [hml]; rfl) (argsL := [(.int ((3 : Int32) - (0 : Int32))), (.int (((0 : Int32) + (((3 : Int32) - (1 : Int32)) + (-1 : Int32))) - (0 : Int32)))]) (rest := [(.int (0 : Int32)), (.ref b209), (.int (0 : Int32)), (.ref r0)]) (lenOf pd_10 rfl) rfl (by show 2 * 0 + _ ≤ _; exact Nat.le_of_eq rfl) (hb hby d12_24) (fun _ _ => ⟨rfl, e209, (by decide : 1 + 0 ≤ _), (by decide : 1 + 0 ≤ _)⟩)
  dsimp only [Pt.U, Pt.locs, Pt.cells, Pt.slots] at X212 l212 y212 z212 st212 hQ212
  subst l212 y212 z212
  obtain ⟨rv212, N212q, e212⟩ := hQ212
  rw [show sp14 ((3 : Int32) - (0 : Int32)) (((0 : Int32) + (((3 : Int32) - (1 : Int32)) + (-1 : Int32))) - (0 : Int32)) = (((0 : Int32) + (((3 : Int32) - (1 : Int32)) + (-1 : Int32))) - (0 : Int32)) from by unfold sp14; rw [if_pos (by decide : ((((0 : Int32) + (((3 : Int32) - (1 : Int32)) + (-1 : Int32))) - (0 : Int32)) < ((3 : Int32) - (0 : Int32))))]] at rv212
  subst rv212
  have N212 := Fr.app N208 N212q
  obtain ⟨T213, h213, L213, X213, e213, N213, K213c, Va213, st213⟩ := cpA X212 hx hZ hown (hw _ (tk 72 rfl)) (hw _ (tk 75 rfl)) (hw _ (tk 73 rfl)) (hw _ (tk 74 rfl)) e212 c210 V_b209 (us := [(.int x_r0_0)]) (Or.inl ⟨rfl, rfl⟩) (sp := (0 : Int32)) (dp := (0 : Int32)) (nn := (((0 : Int32) + (((3 : Int32) - (1 : Int32)) + (-1 : Int32))) - (0 : Int32))) (by decide) (by decide) (by decide) (by decide) (by decide) rfl (Nat.le_of_ble_eq_true rfl) N212 g_b209 (g := (mkF m 27 (lt22 r0 (0 : Int32) ((0 : Int32) + (((3 : Int32) - (1 : Int32)) + (-1 : Int32))) (((0 : Int32) + (((3 : Int32) - (1 : Int32)) + (-1 : Int32))) - (0 : Int32)) b209) [(.int (((0 : Int32) + (((3 : Int32) - (1 : Int32)) + (-1 : Int32))) - (0 : Int32))), (.int (0 : Int32)), (.ref b209), (.int (0 : Int32)), (.ref r0)])) rfl (by rw [hml]; rfl) rfl (hb hby d12_27) (by decide) (W := 0) (by show 2 * 0 + _ ≤ _; exact Nat.le_of_eq rfl) (by decide)
  have O213 : Old Z n0 h213 := O209.keep K213c (allS g_b209 all0)
  have K213 : Keep h0 h213 [] := K209.trans K213c (allS (Or.inr sz_b209) all0)
  have Vb213 : Arv Z h213 b209 k209 .byte (((0 : Int32) + (((3 : Int32) - (1 : Int32)) + (-1 : Int32))) - (0 : Int32)) [(.int x_r0_0)] (.int (0 : Int32)) := Va213
  obtain ⟨fs, hr, hrun, hended, hW, hsame⟩ := X213.leave (v := some (.ref b209)) (fun h => by rw [Bd.returns] at h; cases h)
  refine ⟨_, _, pre0 _ ?_, hrun, hended, _, _, rfl, ?_, ⟨_, rfl⟩, hW, hsame.mono (by decide) (by decide)⟩
  · show Sp p e below s₁ (mkF m 0 (lt19 r0 (0 : Int32) ((0 : Int32) + (((3 : Int32) - (1 : Int32)) + (-1 : Int32)))) []) _
    refine XS.iloadN X0.here hx rfl (hb hby d12_0) rfl ?_
    refine XS.iloadN X0.here hx rfl (hb hby d12_1) rfl ?_
    show Sp p e below s₁ (mkF m 2 (lt19 r0 (0 : Int32) ((0 : Int32) + (((3 : Int32) - (1 : Int32)) + (-1 : Int32)))) [(.int ((0 : Int32) + (((3 : Int32) - (1 : Int32)) + (-1 : Int32)))), (.int (0 : Int32))]) _
    refine st208 _ ?_
    show Sp p e below T208 (mkF m 5 (lt19 r0 (0 : Int32) ((0 : Int32) + (((3 : Int32) - (1 : Int32)) + (-1 : Int32)))) []) _
    refine XS.iloadN X208.here hx rfl (hb hby d12_5) rfl ?_
    refine XS.iloadN X208.here hx rfl (hb hby d12_6) rfl ?_
    show Sp p e below T208 (mkF m 7 (lt19 r0 (0 : Int32) ((0 : Int32) + (((3 : Int32) - (1 : Int32)) + (-1 : Int32)))) [(.int (0 : Int32)), (.int ((0 : Int32) + (((3 : Int32) - (1 : Int32)) + (-1 : Int32))))]) _
    refine XS.isub X208.here hx rfl (hb hby d12_7) rfl ?_
    refine XS.istoreN X208.here hx rfl (hb hby d12_8) rfl (l' := (lt21 r0 (0 : Int32) ((0 : Int32) + (((3 : Int32) - (1 : Int32)) + (-1 : Int32))) (((0 : Int32) + (((3 : Int32) - (1 : Int32)) + (-1 : Int32))) - (0 : Int32)))) rfl ?_
    show Sp p e below T208 (mkF m 9 (lt21 r0 (0 : Int32) ((0 : Int32) + (((3 : Int32) - (1 : Int32)) + (-1 : Int32))) (((0 : Int32) + (((3 : Int32) - (1 : Int32)) + (-1 : Int32))) - (0 : Int32))) []) _
    refine XS.iloadN X208.here hx rfl (hb hby d12_9) rfl ?_
    show Sp p e below T208 (mkF m 10 (lt21 r0 (0 : Int32) ((0 : Int32) + (((3 : Int32) - (1 : Int32)) + (-1 : Int32))) (((0 : Int32) + (((3 : Int32) - (1 : Int32)) + (-1 : Int32))) - (0 : Int32))) [(.int (((0 : Int32) + (((3 : Int32) - (1 : Int32)) + (-1 : Int32))) - (0 : Int32)))]) _
    refine st209 _ ?_
    show Sp p e below T209 (mkF m 12 (lt21 r0 (0 : Int32) ((0 : Int32) + (((3 : Int32) - (1 : Int32)) + (-1 : Int32))) (((0 : Int32) + (((3 : Int32) - (1 : Int32)) + (-1 : Int32))) - (0 : Int32))) [(.ref b209)]) _
    refine XS.astore X209.here hx rfl (hb hby d12_12) rfl rfl (l' := (lt22 r0 (0 : Int32) ((0 : Int32) + (((3 : Int32) - (1 : Int32)) + (-1 : Int32))) (((0 : Int32) + (((3 : Int32) - (1 : Int32)) + (-1 : Int32))) - (0 : Int32)) b209)) rfl ?_
    refine XS.aloadN X209.here hx rfl (hb hby d12_14) rfl rfl ?_
    show Sp p e below T209 (mkF m 15 (lt22 r0 (0 : Int32) ((0 : Int32) + (((3 : Int32) - (1 : Int32)) + (-1 : Int32))) (((0 : Int32) + (((3 : Int32) - (1 : Int32)) + (-1 : Int32))) - (0 : Int32)) b209) [(.ref r0)]) _
    refine XS.iloadN X209.here hx rfl (hb hby d12_15) rfl ?_
    refine XS.aload X209.here hx rfl (hb hby d12_16) rfl rfl ?_
    show Sp p e below T209 (mkF m 18 (lt22 r0 (0 : Int32) ((0 : Int32) + (((3 : Int32) - (1 : Int32)) + (-1 : Int32))) (((0 : Int32) + (((3 : Int32) - (1 : Int32)) + (-1 : Int32))) - (0 : Int32)) b209) [(.ref b209), (.int (0 : Int32)), (.ref r0)]) _
    refine XS.iconst X209.here hx rfl (hb hby d12_18) ?_
    refine XS.aloadN X209.here hx rfl (hb hby d12_19) rfl rfl ?_
    show Sp p e below T209 (mkF m 20 (lt22 r0 (0 : Int32) ((0 : Int32) + (((3 : Int32) - (1 : Int32)) + (-1 : Int32))) (((0 : Int32) + (((3 : Int32) - (1 : Int32)) + (-1 : Int32))) - (0 : Int32)) b209) [(.ref r0), (.int (0 : Int32)), (.ref b209), (.int (0 : Int32)), (.ref r0)]) _
    refine X209.arraylength hx (by rw [e209]; exact Ar211.1) (State.isArrayOf_alike hZ.alike Ar211.2.1) (g := (mkF m 20 (lt22 r0 (0 : Int32) ((0 : Int32) + (((3 : Int32) - (1 : Int32)) + (-1 : Int32))) (((0 : Int32) + (((3 : Int32) - (1 : Int32)) + (-1 : Int32))) - (0 : Int32)) b209) [(.ref r0), (.int (0 : Int32)), (.ref b209), (.int (0 : Int32)), (.ref r0)])) rfl rfl (hb hby d12_20) _ ?_
    rw [len_of Sa211 Ma211]
    show Sp p e below T209 (mkF m 21 (lt22 r0 (0 : Int32) ((0 : Int32) + (((3 : Int32) - (1 : Int32)) + (-1 : Int32))) (((0 : Int32) + (((3 : Int32) - (1 : Int32)) + (-1 : Int32))) - (0 : Int32)) b209) [(.int (3 : Int32)), (.int (0 : Int32)), (.ref b209), (.int (0 : Int32)), (.ref r0)]) _
    refine XS.iloadN X209.here hx rfl (hb hby d12_21) rfl ?_
    refine XS.isub X209.here hx rfl (hb hby d12_22) rfl ?_
    show Sp p e below T209 (mkF m 23 (lt22 r0 (0 : Int32) ((0 : Int32) + (((3 : Int32) - (1 : Int32)) + (-1 : Int32))) (((0 : Int32) + (((3 : Int32) - (1 : Int32)) + (-1 : Int32))) - (0 : Int32)) b209) [(.int ((3 : Int32) - (0 : Int32))), (.int (0 : Int32)), (.ref b209), (.int (0 : Int32)), (.ref r0)]) _
    refine XS.iloadN X209.here hx rfl (hb hby d12_23) rfl ?_
    show Sp p e below T209 (mkF m 24 (lt22 r0 (0 : Int32) ((0 : Int32) + (((3 : Int32) - (1 : Int32)) + (-1 : Int32))) (((0 : Int32) + (((3 : Int32) - (1 : Int32)) + (-1 : Int32))) - (0 : Int32)) b209) [(.int (((0 : Int32) + (((3 : Int32) - (1 : Int32)) + (-1 : Int32))) - (0 : Int32))), (.int ((3 : Int32) - (0 : Int32))), (.int (0 : Int32)), (.ref b209), (.int (0 : Int32)), (.ref r0)]) _
    refine st212 _ ?_
    show Sp p e below T212 (mkF m 27 (lt22 r0 (0 : Int32) ((0 : Int32) + (((3 : Int32) - (1 : Int32)) + (-1 : Int32))) (((0 : Int32) + (((3 : Int32) - (1 : Int32)) + (-1 : Int32))) - (0 : Int32)) b209) [(.int (((0 : Int32) + (((3 : Int32) - (1 : Int32)) + (-1 : Int32))) - (0 : Int32))), (.int (0 : Int32)), (.ref b209), (.int (0 : Int32)), (.ref r0)]) _
    refine st213 _ ?_
    show Sp p e below T213 (mkF m 30 (lt22 r0 (0 : Int32) ((0 : Int32) + (((3 : Int32) - (1 : Int32)) + (-1 : Int32))) (((0 : Int32) + (((3 : Int32) - (1 : Int32)) + (-1 : Int32))) - (0 : Int32)) b209) []) _
    refine XS.aload X213.here hx rfl (hb hby d12_30) rfl rfl ?_
    show Sp p e below T213 (mkF m 32 (lt22 r0 (0 : Int32) ((0 : Int32) + (((3 : Int32) - (1 : Int32)) + (-1 : Int32))) (((0 : Int32) + (((3 : Int32) - (1 : Int32)) + (-1 : Int32))) - (0 : Int32)) b209) [(.ref b209)]) _
    jvm_step X213.here [X213.here.top, hx, (hb hby d12_32), X213.method', Bd.returns, Value.isRef, FieldType.isReference]
    first | (intro acts; rw [hr _ acts rfl rfl rfl]) | rw [hr _ _ rfl rfl rfl]
    exact Steps.refl _
  · show Q12x2 Z w_1 w_2 w_4 w_5 r0 k_r0 x_r0_0 x_r0_1 x_r0_2 h0 n0 _ T213.heap _
    rw [e213]
    exact ⟨b209, k209, rfl, N213, O213, K213, g_b209, sz_b209, Vb213⟩
theorem pn_11x2 : plainName "java/util/Arrays" = true := by first | (simp [plainName, overriddenIn]; done) | decide +kernel
theorem ef_11x2 (m : MethodId) (r0 : Addr) : entryFrame m #[(.ref r0), (.int (0 : Int32)), (.int ((0 : Int32) + (((3 : Int32) - (1 : Int32)) + (-1 : Int32))))] 3 = mkF m 0 #[.val (.ref r0), .val (.int (0 : Int32)), .val (.int ((0 : Int32) + (((3 : Int32) - (1 : Int32)) + (-1 : Int32))))] [] := by first | (simp [entryFrame, mkF, argsToLocals, Value.category]; done) | rfl
def Q11x2 (Z : State) (w_1 : Addr) (w_2 : Addr) (w_4 : Int32) (w_5 : Value) (r0 : Addr) (k_r0 : ClassId) (x_r0_0 : Int32) (x_r0_1 : Int32) (x_r0_2 : Int32) (h0 : Heap) (n0 : Nat) (v : Option Value) (h : Heap) (L : List Loc) : Prop := ∃ (b215 : Addr) (k216 : ClassId), v = some (.ref b215) ∧ Fr n0 L ∧ Old Z n0 h ∧ Keep h0 h [] ∧ n0 ≤ b215 ∧ h0.size ≤ b215 ∧ Arv Z h b215 k216 .byte (((0 : Int32) + (((3 : Int32) - (1 : Int32)) + (-1 : Int32))) - (0 : Int32)) [(.int x_r0_0)] (.int (0 : Int32))
set_option maxRecDepth 65536 in
set_option maxHeartbeats 40000000 in
theorem rm11x2 (l : Launch) (Z : State) (a0 : Array Value) (hw : ∀ d ∈ tables_1, d.before a0 Z = true) (hv : ∀ d ∈ jdkStatics_1, d.before a0 Z = true) (ws : List Jvm.Cond) (w_1 : Addr) (w_2 : Addr) (w_4 : Int32) (w_5 : Value) (hS : StF Z w_1 w_2 w_4 w_5) (r0 : Addr) (k_r0 : ClassId) (x_r0_0 : Int32) (x_r0_1 : Int32) (x_r0_2 : Int32) (h0 : Heap) (n0 : Nat) (O0 : Old Z n0 h0) (g_r0 : n0 ≤ r0) (V_r0 : Arv Z h0 r0 k_r0 .byte (3 : Int32) [(.int x_r0_0), (.int x_r0_1), (.int x_r0_2)] (.int (0 : Int32))) :
    MetFree l Y34 (head1 (Jvm.Cond.code Y34 jdk_65_method_132_code 3 (some (.array .byte)) :: ws) ({ frames := 2, cells := 1, slots := 1, locals := 34 } : Room)) (fun a U => a = #[(.ref r0), (.int (0 : Int32)), (.int ((0 : Int32) + (((3 : Int32) - (1 : Int32)) + (-1 : Int32))))] ∧ Z.Warmed39 U.vm ∧ U.heap = h0) (fun _ _ _ _ _ => True) (fun _ U o U' => ∃ v L, o = .returned v ∧ Q11x2 Z w_1 w_2 w_4 w_5 r0 k_r0 x_r0_0 x_r0_1 x_r0_2 h0 n0 v U'.heap L ∧ FrameEnd U o U' L ({ frames := 2, cells := 1, slots := 1, locals := 34 } : Room).cells ({ frames := 2, cells := 1, slots := 1, locals := 34 } : Room).slots) := by
  refine MetFree.of_bodySF (plainFor_of_name pn_11x2) hisR ?_
  intro p e s m args below meth c s₁ Bd hml0 hP hK
  obtain ⟨rfl, hZ, hh⟩ := hP
  have hx := Bd.exec
  have hby := Bd.bytes
  have hml : c.maxLocals = 3 := hml0
  have hown : s.vm.findClass "java/util/Arrays" = some m.cls := findClass_of_methodNamed Bd.named
  have hnm := (name_of_methodNamed Bd.named Bd.method).1
  have X0 : Stand p l e ({ frames := 2, cells := 1, slots := 1, locals := 34 } : Room) s m #[(.ref r0), (.int (0 : Int32)), (.int ((0 : Int32) + (((3 : Int32) - (1 : Int32)) + (-1 : Int32))))] below meth c s₁ [] 0 0 := Stand.of_body Bd
  have e0 : s₁.heap = h0 := by rw [← hh, Bd.state]; rfl
  have N0 := Fr.nil n0
  have hS0 := hS
  obtain ⟨S_1, E_1, S_2, E_2, S_3, E_3, S_4, NE_4, S_5, IR_5⟩ := hS
  have pre0 : ∀ t, Steps p.tables e below (s₁.setTop (mkF m 0 #[.val (.ref r0), .val (.int (0 : Int32)), .val (.int ((0 : Int32) + (((3 : Int32) - (1 : Int32)) + (-1 : Int32))))] [])) t → Steps p.tables e below (s₁.setTop (entryFrame m #[(.ref r0), (.int (0 : Int32)), (.int ((0 : Int32) + (((3 : Int32) - (1 : Int32)) + (-1 : Int32))))] 3)) t := fun t k => castTop (ef_11x2 m r0) k
  generalize hE0 : s₁.setTop (entryFrame m #[(.ref r0), (.int (0 : Int32)), (.int ((0 : Int32) + (((3 : Int32) - (1 : Int32)) + (-1 : Int32))))] 3) = E0 at pre0 ⊢
  obtain ⟨cl207, Ar207, qa207, Sa207, Ma207, Ha207, Ga207⟩ := id V_r0
  obtain ⟨_, _, ⟨T214, L214, k214, n214⟩, -, X214, ⟨Lc214, hQ214, l214, y214, z214⟩, st214⟩ := Jvm.LawKit.callS X0 hx (y := Y33) hown (mvT hZ (hw _ (tk 62 rfl))) (mvT hZ (hw _ (tk 63 rfl))) (mvT hZ (hw _ (tk 60 rfl))) (mvT hZ (hw _ (tk 64 rfl))) (by decide) (backOf (W := 0) (rm12x2 l Z a0 hw hv [] w_1 w_2 w_4 w_5 hS0 r0 k_r0 x_r0_0 x_r0_1 x_r0_2 h0 n0 O0 g_r0 V_r0) hZ (hw _ (tk 64 rfl)) (hw _ (tk 60 rfl)) (by decide) (by decide)) (g := (mkF m 13 (lt18 r0 (0 : Int32) ((0 : Int32) + (((3 : Int32) - (1 : Int32)) + (-1 : Int32)))) [(.int ((0 : Int32) + (((3 : Int32) - (1 : Int32)) + (-1 : Int32)))), (.int (0 : Int32)), (.ref r0)])) rfl (by rw [hml]; rfl) (argsL := [(.ref r0), (.int (0 : Int32)), (.int ((0 : Int32) + (((3 : Int32) - (1 : Int32)) + (-1 : Int32))))]) (rest := []) (lenOf pd_11 rfl) rfl (by show 2 * 0 + _ ≤ _; exact Nat.le_of_eq rfl) (hb hby d11_13) (fun _ _ => ⟨rfl, e0, (by decide : 0 + 1 ≤ _), (by decide : 0 + 1 ≤ _)⟩)
  dsimp only [Pt.U, Pt.locs, Pt.cells, Pt.slots] at X214 l214 y214 z214 st214 hQ214
  subst l214 y214 z214
  obtain ⟨b215, k216, rv214, N214q, O214, K214c, Fx214_0, Fx214_1, Fx214_2⟩ := hQ214
  subst rv214
  have N214 := Fr.app N0 N214q
  have K214 : Keep h0 T214.heap [] := (Keep.refl h0 []).trans K214c all0
  have g_b215 := Fx214_0
  have sz_b215 : h0.size ≤ b215 := Nat.le_trans (Keep.refl h0 []).1 Fx214_1
  have ne_r0_b215 : r0 ≠ b215 := Nat.ne_of_lt (Nat.lt_of_lt_of_le V_r0.lt Fx214_1)
  obtain ⟨fs, hr, hrun, hended, hW, hsame⟩ := X214.leave (v := some (.ref b215)) (fun h => by rw [Bd.returns] at h; cases h)
  refine ⟨_, _, pre0 _ ?_, hrun, hended, _, _, rfl, ?_, ⟨_, rfl⟩, hW, hsame.mono (by decide) (by decide)⟩
  · show Sp p e below s₁ (mkF m 0 (lt18 r0 (0 : Int32) ((0 : Int32) + (((3 : Int32) - (1 : Int32)) + (-1 : Int32)))) []) _
    refine XS.iloadN X0.here hx rfl (hb hby d11_0) rfl ?_
    show Sp p e below s₁ (mkF m 1 (lt18 r0 (0 : Int32) ((0 : Int32) + (((3 : Int32) - (1 : Int32)) + (-1 : Int32)))) [(.int (0 : Int32))]) _
    refine XS.ifNo X0.here hx rfl (hb hby d11_1) rfl ((if0 _ _).trans (teq (by decide : ((0 : Int32) = (0 : Int32)))).2) ?_
    show Sp p e below s₁ (mkF m 4 (lt18 r0 (0 : Int32) ((0 : Int32) + (((3 : Int32) - (1 : Int32)) + (-1 : Int32)))) []) _
    refine XS.iloadN X0.here hx rfl (hb hby d11_4) rfl ?_
    refine XS.aloadN X0.here hx rfl (hb hby d11_5) rfl rfl ?_
    show Sp p e below s₁ (mkF m 6 (lt18 r0 (0 : Int32) ((0 : Int32) + (((3 : Int32) - (1 : Int32)) + (-1 : Int32)))) [(.ref r0), (.int ((0 : Int32) + (((3 : Int32) - (1 : Int32)) + (-1 : Int32))))]) _
    refine X0.arraylength hx (by rw [e0]; exact Ar207.1) (State.isArrayOf_alike hZ.alike Ar207.2.1) (g := (mkF m 6 (lt18 r0 (0 : Int32) ((0 : Int32) + (((3 : Int32) - (1 : Int32)) + (-1 : Int32)))) [(.ref r0), (.int ((0 : Int32) + (((3 : Int32) - (1 : Int32)) + (-1 : Int32))))])) rfl rfl (hb hby d11_6) _ ?_
    rw [len_of Sa207 Ma207]
    show Sp p e below s₁ (mkF m 7 (lt18 r0 (0 : Int32) ((0 : Int32) + (((3 : Int32) - (1 : Int32)) + (-1 : Int32)))) [(.int (3 : Int32)), (.int ((0 : Int32) + (((3 : Int32) - (1 : Int32)) + (-1 : Int32))))]) _
    refine XS.icmpNo X0.here hx rfl (hb hby d11_7) rfl (feq (by decide : ¬ (((0 : Int32) + (((3 : Int32) - (1 : Int32)) + (-1 : Int32))) = (3 : Int32)))).1 ?_
    show Sp p e below s₁ (mkF m 10 (lt18 r0 (0 : Int32) ((0 : Int32) + (((3 : Int32) - (1 : Int32)) + (-1 : Int32)))) []) _
    refine XS.aloadN X0.here hx rfl (hb hby d11_10) rfl rfl ?_
    refine XS.iloadN X0.here hx rfl (hb hby d11_11) rfl ?_
    show Sp p e below s₁ (mkF m 12 (lt18 r0 (0 : Int32) ((0 : Int32) + (((3 : Int32) - (1 : Int32)) + (-1 : Int32)))) [(.int (0 : Int32)), (.ref r0)]) _
    refine XS.iloadN X0.here hx rfl (hb hby d11_12) rfl ?_
    show Sp p e below s₁ (mkF m 13 (lt18 r0 (0 : Int32) ((0 : Int32) + (((3 : Int32) - (1 : Int32)) + (-1 : Int32)))) [(.int ((0 : Int32) + (((3 : Int32) - (1 : Int32)) + (-1 : Int32)))), (.int (0 : Int32)), (.ref r0)]) _
    refine st214 _ ?_
    show Sp p e below T214 (mkF m 16 (lt18 r0 (0 : Int32) ((0 : Int32) + (((3 : Int32) - (1 : Int32)) + (-1 : Int32)))) [(.ref b215)]) _
    jvm_step X214.here [X214.here.top, hx, (hb hby d11_16), X214.method', Bd.returns, Value.isRef, FieldType.isReference]
    first | (intro acts; rw [hr _ acts rfl rfl rfl]) | rw [hr _ _ rfl rfl rfl]
    exact Steps.refl _
  · show Q11x2 Z w_1 w_2 w_4 w_5 r0 k_r0 x_r0_0 x_r0_1 x_r0_2 h0 n0 _ T214.heap _
    exact ⟨b215, k216, rfl, N214, O214, K214, g_b215, sz_b215, Fx214_2⟩
theorem pn_8x4 : plainName "java/lang/String" = true := by first | (simp [plainName, overriddenIn]; done) | decide +kernel
theorem ef_8x4 (m : MethodId) (r0 : Addr) (w_1 : Addr) (r2 : Addr) : entryFrame m #[(.ref r0), (.ref w_1), (.ref r2), (.int (0 : Int32)), (.int (((3 : Int32) - (1 : Int32)) + (-1 : Int32)))] 11 = mkF m 0 #[.val (.ref r0), .val (.ref w_1), .val (.ref r2), .val (.int (0 : Int32)), .val (.int (((3 : Int32) - (1 : Int32)) + (-1 : Int32))), .unset, .unset, .unset, .unset, .unset, .unset] [] := by first | (simp [entryFrame, mkF, argsToLocals, Value.category]; done) | rfl
def Q8x4 (Z : State) (w_1 : Addr) (w_2 : Addr) (w_4 : Int32) (w_5 : Value) (r0 : Addr) (r2 : Addr) (k_r2 : ClassId) (x_r2_0 : Int32) (x_r2_1 : Int32) (x_r2_2 : Int32) (h0 : Heap) (n0 : Nat) (v : Option Value) (h : Heap) (L : List Loc) : Prop := ∃ (b218 : Addr) (k219 : ClassId), v = none ∧ Fr n0 L ∧ Old Z n0 h ∧ Keep h0 h [r0] ∧ Fld Z h r0 "java/lang/String" "coder" "B" (.int (0 : Int32)) ∧ Fld Z h r0 "java/lang/String" "value" "[B" (.ref b218) ∧ n0 ≤ b218 ∧ h0.size ≤ b218 ∧ Arv Z h b218 k219 .byte (((0 : Int32) + (((3 : Int32) - (1 : Int32)) + (-1 : Int32))) - (0 : Int32)) [(.int x_r2_0)] (.int (0 : Int32))
set_option maxRecDepth 65536 in
set_option maxHeartbeats 40000000 in
theorem rm8x4 (l : Launch) (Z : State) (a0 : Array Value) (hw : ∀ d ∈ tables_1, d.before a0 Z = true) (hv : ∀ d ∈ jdkStatics_1, d.before a0 Z = true) (ws : List Jvm.Cond) (w_1 : Addr) (w_2 : Addr) (w_4 : Int32) (w_5 : Value) (hS : StF Z w_1 w_2 w_4 w_5) (r0 : Addr) (r2 : Addr) (k_r2 : ClassId) (x_r2_0 : Int32) (x_r2_1 : Int32) (x_r2_2 : Int32) (h0 : Heap) (n0 : Nat) (O0 : Old Z n0 h0) (g_r0 : n0 ≤ r0) (g_r2 : n0 ≤ r2) (E_r0 : Exa Z h0 r0 "java/lang/String") (F_coder_r0 : Fld Z h0 r0 "java/lang/String" "coder" "B" (.int (0 : Int32))) (F_value_r0 : Fld Z h0 r0 "java/lang/String" "value" "[B" .null) (V_r2 : Arv Z h0 r2 k_r2 .byte (3 : Int32) [(.int x_r2_0), (.int x_r2_1), (.int x_r2_2)] (.int (0 : Int32))) (ne_r0_r2 : r0 ≠ r2) :
    MetFree l Y21 (head1 (Jvm.Cond.codeWith Y21 jdk_42_method_11_code 11 none [(800, 813, 816, 202)] :: ws) ({ frames := 3, cells := 1, slots := 1, locals := 49 } : Room)) (fun a U => a = #[(.ref r0), (.ref w_1), (.ref r2), (.int (0 : Int32)), (.int (((3 : Int32) - (1 : Int32)) + (-1 : Int32)))] ∧ Z.Warmed39 U.vm ∧ U.heap = h0) (fun _ _ _ _ _ => True) (fun _ U o U' => ∃ v L, o = .returned v ∧ Q8x4 Z w_1 w_2 w_4 w_5 r0 r2 k_r2 x_r2_0 x_r2_1 x_r2_2 h0 n0 v U'.heap L ∧ FrameEnd U o U' L ({ frames := 3, cells := 1, slots := 1, locals := 49 } : Room).cells ({ frames := 3, cells := 1, slots := 1, locals := 49 } : Room).slots) := by
  refine MetFree.of_bodySF (plainFor_of_name pn_8x4) hisWith ?_
  intro p e s m args below meth c s₁ Bd hml0 hP hK
  obtain ⟨rfl, hZ, hh⟩ := hP
  have hx := Bd.exec
  have hby := Bd.bytes
  have hml : c.maxLocals = 11 := hml0
  have hown : s.vm.findClass "java/lang/String" = some m.cls := findClass_of_methodNamed Bd.named
  have hnm := (name_of_methodNamed Bd.named Bd.method).1
  have X0 : Stand p l e ({ frames := 3, cells := 1, slots := 1, locals := 49 } : Room) s m #[(.ref r0), (.ref w_1), (.ref r2), (.int (0 : Int32)), (.int (((3 : Int32) - (1 : Int32)) + (-1 : Int32)))] below meth c s₁ [] 0 0 := Stand.of_body Bd
  have e0 : s₁.heap = h0 := by rw [← hh, Bd.state]; rfl
  have N0 := Fr.nil n0
  have hS0 := hS
  obtain ⟨S_1, E_1, S_2, E_2, S_3, E_3, S_4, NE_4, S_5, IR_5⟩ := hS
  have pre0 : ∀ t, Steps p.tables e below (s₁.setTop (mkF m 0 #[.val (.ref r0), .val (.ref w_1), .val (.ref r2), .val (.int (0 : Int32)), .val (.int (((3 : Int32) - (1 : Int32)) + (-1 : Int32))), .unset, .unset, .unset, .unset, .unset, .unset] [])) t → Steps p.tables e below (s₁.setTop (entryFrame m #[(.ref r0), (.ref w_1), (.ref r2), (.int (0 : Int32)), (.int (((3 : Int32) - (1 : Int32)) + (-1 : Int32)))] 11)) t := fun t k => castTop (ef_8x4 m r0 w_1 r2) k
  generalize hE0 : s₁.setTop (entryFrame m #[(.ref r0), (.ref w_1), (.ref r2), (.int (0 : Int32)), (.int (((3 : Int32) - (1 : Int32)) + (-1 : Int32)))] 11) = E0 at pre0 ⊢
  obtain ⟨T203, X203, e203, st203⟩ := initO X0 hx hZ hown (hw _ (tk 38 rfl)) (hw _ (tk 39 rfl)) (hw _ (tk 40 rfl)) e0 (g := (mkF m 1 (lt16 r0 w_1 r2 (0 : Int32) (((3 : Int32) - (1 : Int32)) + (-1 : Int32))) [(.ref r0)])) rfl (by rw [hml]; rfl) rfl (hb hby d8_1) (by decide) (W := 0) (by show 2 * 0 + _ ≤ _; exact Nat.le_of_eq rfl) (by decide)
  obtain ⟨T204, X204, e204, st204⟩ := getS2 X203 hx hZ hown (host := "") (Or.inl (hw _ (tk 53 rfl))) Via.refl e203 (S_2.ext O0.2) (g := (mkF m 31 (lt16 r0 w_1 r2 (0 : Int32) (((3 : Int32) - (1 : Int32)) + (-1 : Int32))) [(.ref w_1)])) rfl (hb hby d8_31)
  obtain ⟨T205, X205, e205, st205⟩ := getS2 X204 hx hZ hown (host := "") (Or.inl (hw _ (tk 55 rfl))) Via.refl e204 (S_3.ext O0.2) (g := (mkF m 347 (lt16 r0 w_1 r2 (0 : Int32) (((3 : Int32) - (1 : Int32)) + (-1 : Int32))) [(.ref w_1)])) rfl (hb hby d8_347)
  obtain ⟨T206, X206, e206, st206⟩ := getS2 X205 hx hZ hown (host := "") (Or.inl (hw _ (tk 57 rfl))) Via.refl e205 (S_4.ext O0.2) (g := (mkF m 353 (lt16 r0 w_1 r2 (0 : Int32) (((3 : Int32) - (1 : Int32)) + (-1 : Int32))) [])) rfl (hb hby d8_353)
  obtain ⟨_, _, ⟨T217, L217, k217, n217⟩, -, X217, ⟨Lc217, hQ217, l217, y217, z217⟩, st217⟩ := Jvm.LawKit.callS X206 hx (y := Y34) hown (mvT hZ (hw _ (tk 58 rfl))) (mvT hZ (hw _ (tk 59 rfl))) (mvT hZ (hw _ (tk 60 rfl))) (mvT hZ (hw _ (tk 61 rfl))) (by decide) (backOf (W := 1) (rm11x2 l Z a0 hw hv [] w_1 w_2 w_4 w_5 hS0 r2 k_r2 x_r2_0 x_r2_1 x_r2_2 h0 n0 O0 g_r2 V_r2) hZ (hw _ (tk 61 rfl)) (hw _ (tk 60 rfl)) (by decide) (by decide)) (g := (mkF m 366 (lt16 r0 w_1 r2 (0 : Int32) (((3 : Int32) - (1 : Int32)) + (-1 : Int32))) [(.int ((0 : Int32) + (((3 : Int32) - (1 : Int32)) + (-1 : Int32)))), (.int (0 : Int32)), (.ref r2), (.ref r0)])) rfl (by rw [hml]; rfl) (argsL := [(.ref r2), (.int (0 : Int32)), (.int ((0 : Int32) + (((3 : Int32) - (1 : Int32)) + (-1 : Int32))))]) (rest := [(.ref r0)]) (lenOf pd_11 rfl) rfl (by show 2 * 0 + _ ≤ _; exact Nat.le_of_eq rfl) (hb hby d8_366) (fun _ _ => ⟨rfl, e206, (by decide : 0 + 1 ≤ _), (by decide : 0 + 1 ≤ _)⟩)
  dsimp only [Pt.U, Pt.locs, Pt.cells, Pt.slots] at X217 l217 y217 z217 st217 hQ217
  subst l217 y217 z217
  obtain ⟨b218, k219, rv217, N217q, O217, K217c, Fx217_0, Fx217_1, Fx217_2⟩ := hQ217
  subst rv217
  have N217 := Fr.app N0 N217q
  have K217 : Keep h0 T217.heap [r0] := (Keep.refl h0 [r0]).trans K217c all0
  have g_b218 := Fx217_0
  have sz_b218 : h0.size ≤ b218 := Nat.le_trans (Keep.refl h0 [r0]).1 Fx217_1
  have ne_r0_b218 : r0 ≠ b218 := Nat.ne_of_lt (Nat.lt_of_lt_of_le E_r0.lt Fx217_1)
  have ne_r2_b218 : r2 ≠ b218 := Nat.ne_of_lt (Nat.lt_of_lt_of_le V_r2.lt Fx217_1)
  have c220 := (E_r0.keep K217c)
  have c221 := (F_value_r0.keep K217c nin0)
  obtain ⟨T222, h222, X222, e222, W222, st222⟩ := putF X217 hx hZ hown (host := "") (Or.inl (hw _ (tk 46 rfl))) Via.refl rfl c221 c220 (Or.inr ⟨(hw _ (tk 42 rfl)), rfl, hnm⟩) (hw _ (tk 13 rfl)) (ty := (.array .byte)) (by decide) rfl rfl (g := (mkF m 369 (lt16 r0 w_1 r2 (0 : Int32) (((3 : Int32) - (1 : Int32)) + (-1 : Int32))) [(.ref b218), (.ref r0)])) rfl rfl (hb hby d8_369)
  have Fw222 := c221.same W222
  have O222 : Old Z n0 h222 := O217.wr W222 g_r0
  have N222 := Fr.snoc X222 N217 g_r0
  have K222 : Keep h0 h222 [r0] := K217.wr W222 (Or.inl (List.mem_of_getElem? (i := 0) rfl))
  have c223 := (c220.wr W222)
  have c224 := ((F_coder_r0.keep K217c nin0).other W222 (Or.inr (slot_ne (Or.inr (hw _ (tk 43 rfl))) (Or.inr (hw _ (tk 42 rfl))) (by decide) (t := .byte) (t' := (.array .byte)) (by decide) (by decide))))
  obtain ⟨T225, h225, X225, e225, W225, st225⟩ := putFN X222 hx hZ hown (hw _ (tk 47 rfl)) Via.refl e222 c224 c223 (Or.inr ⟨(hw _ (tk 43 rfl)), rfl, hnm⟩) (hw _ (tk 13 rfl)) (ty := .byte) (v' := (.int (0 : Int32))) (by decide) rfl (by decide) (g := (mkF m 374 (lt16 r0 w_1 r2 (0 : Int32) (((3 : Int32) - (1 : Int32)) + (-1 : Int32))) [(.int (0 : Int32)), (.ref r0)])) rfl rfl (hb hby d8_374)
  have Fw225 := c224.same W225
  have O225 : Old Z n0 h225 := O222.wr W225 g_r0
  have N225 := Fr.snoc X225 N222 g_r0
  have K225 : Keep h0 h225 [r0] := K222.wr W225 (Or.inl (List.mem_of_getElem? (i := 0) rfl))
  obtain ⟨fs, hr, hrun, hended, hW, hsame⟩ := X225.leave (v := none) (fun _ => rfl)
  have c226 := ((Fx217_2.other W222 (Ne.symm ne_r0_b218)).other W225 (Ne.symm ne_r0_b218))
  have c227 := (Fw222.other W225 (Or.inr (slot_ne (Or.inr (hw _ (tk 42 rfl))) (Or.inr (hw _ (tk 43 rfl))) (by decide) (t := (.array .byte)) (t' := .byte) (by decide) (by decide))))
  refine ⟨_, _, pre0 _ ?_, hrun, hended, _, _, rfl, ?_, ⟨_, rfl⟩, hW, hsame.mono (by decide) (by decide)⟩
  · show Sp p e below s₁ (mkF m 0 (lt16 r0 w_1 r2 (0 : Int32) (((3 : Int32) - (1 : Int32)) + (-1 : Int32))) []) _
    refine XS.aloadN X0.here hx rfl (hb hby d8_0) rfl rfl ?_
    show Sp p e below s₁ (mkF m 1 (lt16 r0 w_1 r2 (0 : Int32) (((3 : Int32) - (1 : Int32)) + (-1 : Int32))) [(.ref r0)]) _
    refine st203 _ ?_
    show Sp p e below T203 (mkF m 4 (lt16 r0 w_1 r2 (0 : Int32) (((3 : Int32) - (1 : Int32)) + (-1 : Int32))) []) _
    refine XS.iload X203.here hx rfl (hb hby d8_4) rfl ?_
    show Sp p e below T203 (mkF m 6 (lt16 r0 w_1 r2 (0 : Int32) (((3 : Int32) - (1 : Int32)) + (-1 : Int32))) [(.int (((3 : Int32) - (1 : Int32)) + (-1 : Int32)))]) _
    refine XS.ifYes X203.here hx rfl (pc0 := 6) (pc' := 30) rfl (hb hby d8_6) rfl ((if0 _ _).trans (feq (by decide : ¬ ((((3 : Int32) - (1 : Int32)) + (-1 : Int32)) = (0 : Int32)))).2) (by decide) (by decide) ?_
    show Sp p e below T203 (mkF m 30 (lt16 r0 w_1 r2 (0 : Int32) (((3 : Int32) - (1 : Int32)) + (-1 : Int32))) []) _
    refine XS.aloadN X203.here hx rfl (hb hby d8_30) rfl rfl ?_
    show Sp p e below T203 (mkF m 31 (lt16 r0 w_1 r2 (0 : Int32) (((3 : Int32) - (1 : Int32)) + (-1 : Int32))) [(.ref w_1)]) _
    refine st204 _ ?_
    show Sp p e below T204 (mkF m 34 (lt16 r0 w_1 r2 (0 : Int32) (((3 : Int32) - (1 : Int32)) + (-1 : Int32))) [(.ref w_2), (.ref w_1)]) _
    refine Jvm.RoadKit.acmp (g := (mkF m 34 (lt16 r0 w_1 r2 (0 : Int32) (((3 : Int32) - (1 : Int32)) + (-1 : Int32))) [(.ref w_2), (.ref w_1)])) X204 hx rfl rfl rfl (pc0 := 34) (pc' := 346) (same := false) rfl (hb hby d8_34) rfl (decide_eq_false fun q => (ne_exa E_1 E_2 (by decide)) (Value.ref.inj q)) (by decide) (by decide) ?_
    show Sp p e below T204 (mkF m 346 (lt16 r0 w_1 r2 (0 : Int32) (((3 : Int32) - (1 : Int32)) + (-1 : Int32))) []) _
    refine XS.aloadN X204.here hx rfl (hb hby d8_346) rfl rfl ?_
    show Sp p e below T204 (mkF m 347 (lt16 r0 w_1 r2 (0 : Int32) (((3 : Int32) - (1 : Int32)) + (-1 : Int32))) [(.ref w_1)]) _
    refine st205 _ ?_
    show Sp p e below T205 (mkF m 350 (lt16 r0 w_1 r2 (0 : Int32) (((3 : Int32) - (1 : Int32)) + (-1 : Int32))) [(.ref w_1), (.ref w_1)]) _
    refine Jvm.RoadKit.acmp (g := (mkF m 350 (lt16 r0 w_1 r2 (0 : Int32) (((3 : Int32) - (1 : Int32)) + (-1 : Int32))) [(.ref w_1), (.ref w_1)])) X205 hx rfl rfl rfl (pc0 := 350) (pc' := 353) (same := true) rfl (hb hby d8_350) rfl (decide_eq_true (congrArg Value.ref rfl)) (by decide) (by decide) ?_
    show Sp p e below T205 (mkF m 353 (lt16 r0 w_1 r2 (0 : Int32) (((3 : Int32) - (1 : Int32)) + (-1 : Int32))) []) _
    refine st206 _ ?_
    show Sp p e below T206 (mkF m 356 (lt16 r0 w_1 r2 (0 : Int32) (((3 : Int32) - (1 : Int32)) + (-1 : Int32))) [(.int w_4)]) _
    refine XS.ifNo X206.here hx rfl (hb hby d8_356) rfl ((if0 _ _).trans (feq NE_4).1) ?_
    show Sp p e below T206 (mkF m 359 (lt16 r0 w_1 r2 (0 : Int32) (((3 : Int32) - (1 : Int32)) + (-1 : Int32))) []) _
    refine XS.aloadN X206.here hx rfl (hb hby d8_359) rfl rfl ?_
    refine XS.aloadN X206.here hx rfl (hb hby d8_360) rfl rfl ?_
    show Sp p e below T206 (mkF m 361 (lt16 r0 w_1 r2 (0 : Int32) (((3 : Int32) - (1 : Int32)) + (-1 : Int32))) [(.ref r2), (.ref r0)]) _
    refine XS.iloadN X206.here hx rfl (hb hby d8_361) rfl ?_
    refine XS.iloadN X206.here hx rfl (hb hby d8_362) rfl ?_
    show Sp p e below T206 (mkF m 363 (lt16 r0 w_1 r2 (0 : Int32) (((3 : Int32) - (1 : Int32)) + (-1 : Int32))) [(.int (0 : Int32)), (.int (0 : Int32)), (.ref r2), (.ref r0)]) _
    refine XS.iload X206.here hx rfl (hb hby d8_363) rfl ?_
    refine XS.iadd X206.here hx rfl (hb hby d8_365) rfl ?_
    show Sp p e below T206 (mkF m 366 (lt16 r0 w_1 r2 (0 : Int32) (((3 : Int32) - (1 : Int32)) + (-1 : Int32))) [(.int ((0 : Int32) + (((3 : Int32) - (1 : Int32)) + (-1 : Int32)))), (.int (0 : Int32)), (.ref r2), (.ref r0)]) _
    refine st217 _ ?_
    show Sp p e below T217 (mkF m 369 (lt16 r0 w_1 r2 (0 : Int32) (((3 : Int32) - (1 : Int32)) + (-1 : Int32))) [(.ref b218), (.ref r0)]) _
    refine st222 _ ?_
    show Sp p e below T222 (mkF m 372 (lt16 r0 w_1 r2 (0 : Int32) (((3 : Int32) - (1 : Int32)) + (-1 : Int32))) []) _
    refine XS.aloadN X222.here hx rfl (hb hby d8_372) rfl rfl ?_
    refine XS.iconst X222.here hx rfl (hb hby d8_373) ?_
    show Sp p e below T222 (mkF m 374 (lt16 r0 w_1 r2 (0 : Int32) (((3 : Int32) - (1 : Int32)) + (-1 : Int32))) [(.int (0 : Int32)), (.ref r0)]) _
    refine st225 _ ?_
    show Sp p e below T225 (mkF m 377 (lt16 r0 w_1 r2 (0 : Int32) (((3 : Int32) - (1 : Int32)) + (-1 : Int32))) []) _
    refine XS.goto X225.here hx rfl (pc0 := 377) (pc' := 879) rfl (hb hby d8_377) (by decide) (by decide) ?_
    show Sp p e below T225 (mkF m 879 (lt16 r0 w_1 r2 (0 : Int32) (((3 : Int32) - (1 : Int32)) + (-1 : Int32))) []) _
    exact X225.returnOut hx Bd.returns (hb hby d8_879) hr
  · show Q8x4 Z w_1 w_2 w_4 w_5 r0 r2 k_r2 x_r2_0 x_r2_1 x_r2_2 h0 n0 _ T225.heap _
    rw [e225]
    exact ⟨b218, k219, rfl, N225, O225, K225, Fw225, c227, g_b218, sz_b218, c226⟩
theorem pn_4x4 : plainName "java/lang/String" = true := by first | (simp [plainName, overriddenIn]; done) | decide +kernel
theorem ef_4x4 (m : MethodId) (r0 : Addr) (r1 : Addr) (w_1 : Addr) : entryFrame m #[(.ref r0), (.ref r1), (.int (0 : Int32)), (.int (((3 : Int32) - (1 : Int32)) + (-1 : Int32))), (.ref w_1)] 5 = mkF m 0 #[.val (.ref r0), .val (.ref r1), .val (.int (0 : Int32)), .val (.int (((3 : Int32) - (1 : Int32)) + (-1 : Int32))), .val (.ref w_1)] [] := by first | (simp [entryFrame, mkF, argsToLocals, Value.category]; done) | rfl
def Q4x4 (Z : State) (w_1 : Addr) (w_2 : Addr) (w_4 : Int32) (w_5 : Value) (r0 : Addr) (r1 : Addr) (k_r1 : ClassId) (x_r1_0 : Int32) (x_r1_1 : Int32) (x_r1_2 : Int32) (h0 : Heap) (n0 : Nat) (v : Option Value) (h : Heap) (L : List Loc) : Prop := ∃ (b229 : Addr) (k230 : ClassId), v = none ∧ Fr n0 L ∧ Old Z n0 h ∧ Keep h0 h [r0] ∧ Fld Z h r0 "java/lang/String" "coder" "B" (.int (0 : Int32)) ∧ Fld Z h r0 "java/lang/String" "value" "[B" (.ref b229) ∧ n0 ≤ b229 ∧ h0.size ≤ b229 ∧ Arv Z h b229 k230 .byte (((0 : Int32) + (((3 : Int32) - (1 : Int32)) + (-1 : Int32))) - (0 : Int32)) [(.int x_r1_0)] (.int (0 : Int32))
set_option maxRecDepth 65536 in
set_option maxHeartbeats 40000000 in
theorem rm4x4 (l : Launch) (Z : State) (a0 : Array Value) (hw : ∀ d ∈ tables_1, d.before a0 Z = true) (hv : ∀ d ∈ jdkStatics_1, d.before a0 Z = true) (ws : List Jvm.Cond) (w_1 : Addr) (w_2 : Addr) (w_4 : Int32) (w_5 : Value) (hS : StF Z w_1 w_2 w_4 w_5) (r0 : Addr) (r1 : Addr) (k_r1 : ClassId) (x_r1_0 : Int32) (x_r1_1 : Int32) (x_r1_2 : Int32) (h0 : Heap) (n0 : Nat) (O0 : Old Z n0 h0) (g_r0 : n0 ≤ r0) (g_r1 : n0 ≤ r1) (E_r0 : Exa Z h0 r0 "java/lang/String") (F_coder_r0 : Fld Z h0 r0 "java/lang/String" "coder" "B" (.int (0 : Int32))) (F_value_r0 : Fld Z h0 r0 "java/lang/String" "value" "[B" .null) (V_r1 : Arv Z h0 r1 k_r1 .byte (3 : Int32) [(.int x_r1_0), (.int x_r1_1), (.int x_r1_2)] (.int (0 : Int32))) (ne_r0_r1 : r0 ≠ r1) :
    MetFree l Y22 (head1 (Jvm.Cond.code Y22 jdk_42_method_10_code 5 none :: ws) ({ frames := 4, cells := 1, slots := 1, locals := 71 } : Room)) (fun a U => a = #[(.ref r0), (.ref r1), (.int (0 : Int32)), (.int (((3 : Int32) - (1 : Int32)) + (-1 : Int32))), (.ref w_1)] ∧ Z.Warmed39 U.vm ∧ U.heap = h0) (fun _ _ _ _ _ => True) (fun _ U o U' => ∃ v L, o = .returned v ∧ Q4x4 Z w_1 w_2 w_4 w_5 r0 r1 k_r1 x_r1_0 x_r1_1 x_r1_2 h0 n0 v U'.heap L ∧ FrameEnd U o U' L ({ frames := 4, cells := 1, slots := 1, locals := 71 } : Room).cells ({ frames := 4, cells := 1, slots := 1, locals := 71 } : Room).slots) := by
  refine MetFree.of_bodySF (plainFor_of_name pn_4x4) hisR ?_
  intro p e s m args below meth c s₁ Bd hml0 hP hK
  obtain ⟨rfl, hZ, hh⟩ := hP
  have hx := Bd.exec
  have hby := Bd.bytes
  have hml : c.maxLocals = 5 := hml0
  have hown : s.vm.findClass "java/lang/String" = some m.cls := findClass_of_methodNamed Bd.named
  have hnm := (name_of_methodNamed Bd.named Bd.method).1
  have X0 : Stand p l e ({ frames := 4, cells := 1, slots := 1, locals := 71 } : Room) s m #[(.ref r0), (.ref r1), (.int (0 : Int32)), (.int (((3 : Int32) - (1 : Int32)) + (-1 : Int32))), (.ref w_1)] below meth c s₁ [] 0 0 := Stand.of_body Bd
  have e0 : s₁.heap = h0 := by rw [← hh, Bd.state]; rfl
  have N0 := Fr.nil n0
  have hS0 := hS
  obtain ⟨S_1, E_1, S_2, E_2, S_3, E_3, S_4, NE_4, S_5, IR_5⟩ := hS
  have pre0 : ∀ t, Steps p.tables e below (s₁.setTop (mkF m 0 #[.val (.ref r0), .val (.ref r1), .val (.int (0 : Int32)), .val (.int (((3 : Int32) - (1 : Int32)) + (-1 : Int32))), .val (.ref w_1)] [])) t → Steps p.tables e below (s₁.setTop (entryFrame m #[(.ref r0), (.ref r1), (.int (0 : Int32)), (.int (((3 : Int32) - (1 : Int32)) + (-1 : Int32))), (.ref w_1)] 5)) t := fun t k => castTop (ef_4x4 m r0 r1 w_1) k
  generalize hE0 : s₁.setTop (entryFrame m #[(.ref r0), (.ref r1), (.int (0 : Int32)), (.int (((3 : Int32) - (1 : Int32)) + (-1 : Int32))), (.ref w_1)] 5) = E0 at pre0 ⊢
  obtain ⟨_, _, ⟨T197, L197, k197, n197⟩, -, X197, ⟨Lc197, hQ197, l197, y197, z197⟩, st197⟩ := Jvm.LawKit.callS X0 hx (y := Y16) hown (mvT hZ (hw _ (tk 20 rfl))) (mvT hZ (hw _ (tk 21 rfl))) (mvT hZ (hw _ (tk 22 rfl))) (mvT hZ (hw _ (tk 23 rfl))) (by decide) (backOf (W := 1) (rm5x1 l Z a0 hw hv [] w_1 w_2 w_4 w_5 hS0 h0 n0 O0) hZ (hw _ (tk 23 rfl)) (hw _ (tk 22 rfl)) (by decide) (by decide)) (g := (mkF m 3 (lt14 r0 r1 (0 : Int32) (((3 : Int32) - (1 : Int32)) + (-1 : Int32)) w_1) [(.ref w_1), (.ref r0)])) rfl (by rw [hml]; rfl) (argsL := [(.ref w_1)]) (rest := [(.ref r0)]) (lenOf pd_2 rfl) rfl (by show 2 * 0 + _ ≤ _; exact Nat.le_of_eq rfl) (hb hby d4_3) (fun _ _ => ⟨rfl, e0, (by decide : 0 + 0 ≤ _), (by decide : 0 + 0 ≤ _)⟩)
  dsimp only [Pt.U, Pt.locs, Pt.cells, Pt.slots] at X197 l197 y197 z197 st197 hQ197
  subst l197 y197 z197
  obtain ⟨rv197, N197q, e197⟩ := hQ197
  subst rv197
  have N197 := Fr.app N0 N197q
  obtain ⟨T198, X198, e198, st198⟩ := castY X197 hx hZ hown (hw _ (tk 24 rfl)) e197 (Ins.of_exa (E_1.ext O0.2) (hw _ (tk 25 rfl))) (g := (mkF m 6 (lt14 r0 r1 (0 : Int32) (((3 : Int32) - (1 : Int32)) + (-1 : Int32)) w_1) [(.ref w_1), (.ref r0)])) rfl rfl (hb hby d4_6)
  obtain ⟨cl199, Ar199, qa199, Sa199, Ma199, Ha199, Ga199⟩ := id V_r1
  obtain ⟨_, _, ⟨T202, L202, k202, n202⟩, -, X202, ⟨Lc202, hQ202, l202, y202, z202⟩, st202⟩ := Jvm.LawKit.callS X198 hx (y := Y19) hown (mvT hZ (hw _ (tk 26 rfl))) (mvT hZ (hw _ (tk 27 rfl))) (mvT hZ (hw _ (tk 14 rfl))) (mvT hZ (hw _ (tk 28 rfl))) (by decide) (backOf (W := 3) (rm6x4 l Z a0 hw hv [] w_1 w_2 w_4 w_5 hS0 h0 n0 O0) hZ (hw _ (tk 28 rfl)) (hw _ (tk 14 rfl)) (by decide) (by decide)) (g := (mkF m 14 (lt14 r0 r1 (0 : Int32) (((3 : Int32) - (1 : Int32)) + (-1 : Int32)) w_1) [(.int (3 : Int32)), (.int (((3 : Int32) - (1 : Int32)) + (-1 : Int32))), (.int (0 : Int32)), (.ref r1), (.ref w_1), (.ref r0)])) rfl (by rw [hml]; rfl) (argsL := [(.int (0 : Int32)), (.int (((3 : Int32) - (1 : Int32)) + (-1 : Int32))), (.int (3 : Int32))]) (rest := [(.ref r1), (.ref w_1), (.ref r0)]) (lenOf pd_4 rfl) rfl (by show 2 * 0 + _ ≤ _; exact Nat.le_of_eq rfl) (hb hby d4_14) (fun _ _ => ⟨rfl, e198, (by decide : 0 + 0 ≤ _), (by decide : 0 + 0 ≤ _)⟩)
  dsimp only [Pt.U, Pt.locs, Pt.cells, Pt.slots] at X202 l202 y202 z202 st202 hQ202
  subst l202 y202 z202
  obtain ⟨rv202, N202q, e202⟩ := hQ202
  subst rv202
  have N202 := Fr.app N197 N202q
  obtain ⟨_, _, ⟨T228, L228, k228, n228⟩, -, X228, ⟨Lc228, hQ228, l228, y228, z228⟩, st228⟩ := X202.specialBackH hx (y := Y21) rfl hown (mvT hZ (hw _ (tk 34 rfl))) (mvT hZ (hw _ (tk 35 rfl))) (mvT hZ (hw _ (tk 37 rfl))) (by decide) (backOfWith (W := 0) (rm8x4 l Z a0 hw hv [] w_1 w_2 w_4 w_5 hS0 r0 r1 k_r1 x_r1_0 x_r1_1 x_r1_2 h0 n0 O0 g_r0 g_r1 E_r0 F_coder_r0 F_value_r0 V_r1 ne_r0_r1) hZ (hw _ (tk 37 rfl)) (hw _ (tk 14 rfl)) (by decide) (by decide)) (g := (mkF m 18 (lt14 r0 r1 (0 : Int32) (((3 : Int32) - (1 : Int32)) + (-1 : Int32)) w_1) [(.int (((3 : Int32) - (1 : Int32)) + (-1 : Int32))), (.int (0 : Int32)), (.ref r1), (.ref w_1), (.ref r0)])) rfl (by rw [hml]; rfl) (Steps.refl _) (a := r0) (argsL := [(.ref w_1), (.ref r1), (.int (0 : Int32)), (.int (((3 : Int32) - (1 : Int32)) + (-1 : Int32)))]) (rest := []) (lenOf pd_5 rfl) rfl (by show 2 * 0 + _ ≤ _; exact Nat.le_of_eq rfl) (hb hby d4_18) (fun _ _ => ⟨rfl, e202, (by decide : 0 + 1 ≤ _), (by decide : 0 + 1 ≤ _)⟩)
  dsimp only [Pt.U, Pt.locs, Pt.cells, Pt.slots] at X228 l228 y228 z228 st228 hQ228
  subst l228 y228 z228
  obtain ⟨b229, k230, rv228, N228q, O228, K228c, Fe228_0, Fe228_1, Fx228_0, Fx228_1, Fx228_2⟩ := hQ228
  subst rv228
  have N228 := Fr.app N202 N228q
  have K228 : Keep h0 T228.heap [r0] := (Keep.refl h0 [r0]).trans K228c (allS (Or.inl (List.mem_of_getElem? (i := 0) rfl)) all0)
  have g_b229 := Fx228_0
  have sz_b229 : h0.size ≤ b229 := Nat.le_trans (Keep.refl h0 [r0]).1 Fx228_1
  have ne_r0_b229 : r0 ≠ b229 := Nat.ne_of_lt (Nat.lt_of_lt_of_le E_r0.lt Fx228_1)
  have ne_r1_b229 : r1 ≠ b229 := Nat.ne_of_lt (Nat.lt_of_lt_of_le V_r1.lt Fx228_1)
  obtain ⟨fs, hr, hrun, hended, hW, hsame⟩ := X228.leave (v := none) (fun _ => rfl)
  refine ⟨_, _, pre0 _ ?_, hrun, hended, _, _, rfl, ?_, ⟨_, rfl⟩, hW, hsame.mono (by decide) (by decide)⟩
  · show Sp p e below s₁ (mkF m 0 (lt14 r0 r1 (0 : Int32) (((3 : Int32) - (1 : Int32)) + (-1 : Int32)) w_1) []) _
    refine XS.aloadN X0.here hx rfl (hb hby d4_0) rfl rfl ?_
    refine XS.aload X0.here hx rfl (hb hby d4_1) rfl rfl ?_
    show Sp p e below s₁ (mkF m 3 (lt14 r0 r1 (0 : Int32) (((3 : Int32) - (1 : Int32)) + (-1 : Int32)) w_1) [(.ref w_1), (.ref r0)]) _
    refine st197 _ ?_
    show Sp p e below T197 (mkF m 6 (lt14 r0 r1 (0 : Int32) (((3 : Int32) - (1 : Int32)) + (-1 : Int32)) w_1) [(.ref w_1), (.ref r0)]) _
    refine st198 _ ?_
    show Sp p e below T198 (mkF m 9 (lt14 r0 r1 (0 : Int32) (((3 : Int32) - (1 : Int32)) + (-1 : Int32)) w_1) [(.ref w_1), (.ref r0)]) _
    refine XS.aloadN X198.here hx rfl (hb hby d4_9) rfl rfl ?_
    refine XS.iloadN X198.here hx rfl (hb hby d4_10) rfl ?_
    show Sp p e below T198 (mkF m 11 (lt14 r0 r1 (0 : Int32) (((3 : Int32) - (1 : Int32)) + (-1 : Int32)) w_1) [(.int (0 : Int32)), (.ref r1), (.ref w_1), (.ref r0)]) _
    refine XS.iloadN X198.here hx rfl (hb hby d4_11) rfl ?_
    refine XS.aloadN X198.here hx rfl (hb hby d4_12) rfl rfl ?_
    show Sp p e below T198 (mkF m 13 (lt14 r0 r1 (0 : Int32) (((3 : Int32) - (1 : Int32)) + (-1 : Int32)) w_1) [(.ref r1), (.int (((3 : Int32) - (1 : Int32)) + (-1 : Int32))), (.int (0 : Int32)), (.ref r1), (.ref w_1), (.ref r0)]) _
    refine X198.arraylength hx (by rw [e198]; exact Ar199.1) (State.isArrayOf_alike hZ.alike Ar199.2.1) (g := (mkF m 13 (lt14 r0 r1 (0 : Int32) (((3 : Int32) - (1 : Int32)) + (-1 : Int32)) w_1) [(.ref r1), (.int (((3 : Int32) - (1 : Int32)) + (-1 : Int32))), (.int (0 : Int32)), (.ref r1), (.ref w_1), (.ref r0)])) rfl rfl (hb hby d4_13) _ ?_
    rw [len_of Sa199 Ma199]
    show Sp p e below T198 (mkF m 14 (lt14 r0 r1 (0 : Int32) (((3 : Int32) - (1 : Int32)) + (-1 : Int32)) w_1) [(.int (3 : Int32)), (.int (((3 : Int32) - (1 : Int32)) + (-1 : Int32))), (.int (0 : Int32)), (.ref r1), (.ref w_1), (.ref r0)]) _
    refine st202 _ ?_
    show Sp p e below T202 (mkF m 17 (lt14 r0 r1 (0 : Int32) (((3 : Int32) - (1 : Int32)) + (-1 : Int32)) w_1) [(.int (0 : Int32)), (.ref r1), (.ref w_1), (.ref r0)]) _
    refine XS.iloadN X202.here hx rfl (hb hby d4_17) rfl ?_
    show Sp p e below T202 (mkF m 18 (lt14 r0 r1 (0 : Int32) (((3 : Int32) - (1 : Int32)) + (-1 : Int32)) w_1) [(.int (((3 : Int32) - (1 : Int32)) + (-1 : Int32))), (.int (0 : Int32)), (.ref r1), (.ref w_1), (.ref r0)]) _
    refine st228.trans ?_
    show Sp p e below T228 (mkF m 21 (lt14 r0 r1 (0 : Int32) (((3 : Int32) - (1 : Int32)) + (-1 : Int32)) w_1) []) _
    exact X228.returnOut hx Bd.returns (hb hby d4_21) hr
  · show Q4x4 Z w_1 w_2 w_4 w_5 r0 r1 k_r1 x_r1_0 x_r1_1 x_r1_2 h0 n0 _ T228.heap _
    exact ⟨b229, k230, rfl, N228, O228, K228, Fe228_0, Fe228_1, g_b229, sz_b229, Fx228_2⟩
theorem pn_3x4 : plainName "com/example/bristlecone/bristlecone/io/HttpLine" = true := by first | (simp [plainName, overriddenIn]; done) | decide +kernel
theorem ef_3x4 (m : MethodId) (r0 : Addr) : entryFrame m #[(.ref r0)] 2 = mkF m 0 #[.val (.ref r0), .unset] [] := by first | (simp [entryFrame, mkF, argsToLocals, Value.category]; done) | rfl
def Q3x4 (Z : State) (w_1 : Addr) (w_2 : Addr) (w_4 : Int32) (w_5 : Value) (r0 : Addr) (k_r0 : ClassId) (x_r0_0 : Int32) (x_r0_1 : Int32) (x_r0_2 : Int32) (h0 : Heap) (n0 : Nat) (v : Option Value) (h : Heap) (L : List Loc) : Prop := ∃ (b195 : Addr) (b233 : Addr) (k234 : ClassId), v = some (.ref b195) ∧ Fr n0 L ∧ Old Z n0 h ∧ Keep h0 h [] ∧ n0 ≤ b195 ∧ h0.size ≤ b195 ∧ Exa Z h b195 "java/lang/String" ∧ Fld Z h b195 "java/lang/String" "value" "[B" (.ref b233) ∧ Fld Z h b195 "java/lang/String" "coder" "B" (.int (0 : Int32)) ∧ n0 ≤ b233 ∧ h0.size ≤ b233 ∧ Arv Z h b233 k234 .byte (((0 : Int32) + (((3 : Int32) - (1 : Int32)) + (-1 : Int32))) - (0 : Int32)) [(.int x_r0_0)] (.int (0 : Int32)) ∧ b195 ≠ b233
set_option maxRecDepth 65536 in
set_option maxHeartbeats 40000000 in
theorem rm3x4 (l : Launch) (Z : State) (a0 : Array Value) (hw : ∀ d ∈ tables_1, d.before a0 Z = true) (hv : ∀ d ∈ jdkStatics_1, d.before a0 Z = true) (ws : List Jvm.Cond) (w_1 : Addr) (w_2 : Addr) (w_4 : Int32) (w_5 : Value) (hS : StF Z w_1 w_2 w_4 w_5) (r0 : Addr) (k_r0 : ClassId) (x_r0_0 : Int32) (x_r0_1 : Int32) (x_r0_2 : Int32) (h0 : Heap) (n0 : Nat) (O0 : Old Z n0 h0) (g_r0 : n0 ≤ r0) (V_r0 : Arv Z h0 r0 k_r0 .byte (3 : Int32) [(.int x_r0_0), (.int x_r0_1), (.int x_r0_2)] (.int (0 : Int32))) (as0 : (x_r0_1 = (13 : Int32))) :
    MetFree l Y23 (head1 (Jvm.Cond.code Y23 prog_8_method_4_code 2 (some (.object "java/lang/String")) :: ws) ({ frames := 5, cells := 2, slots := 5, locals := 88 } : Room)) (fun a U => a = #[(.ref r0)] ∧ Z.Warmed39 U.vm ∧ U.heap = h0) (fun _ _ _ _ _ => True) (fun _ U o U' => ∃ v L, o = .returned v ∧ Q3x4 Z w_1 w_2 w_4 w_5 r0 k_r0 x_r0_0 x_r0_1 x_r0_2 h0 n0 v U'.heap L ∧ FrameEnd U o U' L ({ frames := 5, cells := 2, slots := 5, locals := 88 } : Room).cells ({ frames := 5, cells := 2, slots := 5, locals := 88 } : Room).slots) := by
  refine MetFree.of_bodySF (plainFor_of_name pn_3x4) hisR ?_
  intro p e s m args below meth c s₁ Bd hml0 hP hK
  obtain ⟨rfl, hZ, hh⟩ := hP
  have hx := Bd.exec
  have hby := Bd.bytes
  have hml : c.maxLocals = 2 := hml0
  have hown : s.vm.findClass "com/example/bristlecone/bristlecone/io/HttpLine" = some m.cls := findClass_of_methodNamed Bd.named
  have hnm := (name_of_methodNamed Bd.named Bd.method).1
  have X0 : Stand p l e ({ frames := 5, cells := 2, slots := 5, locals := 88 } : Room) s m #[(.ref r0)] below meth c s₁ [] 0 0 := Stand.of_body Bd
  have e0 : s₁.heap = h0 := by rw [← hh, Bd.state]; rfl
  have N0 := Fr.nil n0
  have hS0 := hS
  obtain ⟨S_1, E_1, S_2, E_2, S_3, E_3, S_4, NE_4, S_5, IR_5⟩ := hS
  have pre0 : ∀ t, Steps p.tables e below (s₁.setTop (mkF m 0 #[.val (.ref r0), .unset] [])) t → Steps p.tables e below (s₁.setTop (entryFrame m #[(.ref r0)] 2)) t := fun t k => castTop (ef_3x4 m r0) k
  generalize hE0 : s₁.setTop (entryFrame m #[(.ref r0)] 2) = E0 at pre0 ⊢
  obtain ⟨cl193, Ar193, qa193, Sa193, Ma193, Ha193, Ga193⟩ := id V_r0
  obtain ⟨cl194, Ar194, qa194, Sa194, Ma194, Ha194, Ga194⟩ := id V_r0
  have hin194 : ¬ ((((3 : Int32) - (1 : Int32)) - (1 : Int32)) < 0 ∨ cl194.slots.size ≤ ((((3 : Int32) - (1 : Int32)) - (1 : Int32))).toNatClampNeg) := by  exact inb_of Sa194 ⟨by decide, by decide⟩
  have hat194 : cl194.slots[((((3 : Int32) - (1 : Int32)) - (1 : Int32))).toNatClampNeg]? = some (.int x_r0_1) := Has.at Ha194 hin194 (by rfl)
  obtain ⟨T195, h195, X195, e195, E195, A195, D195, -, st195⟩ := newO X0 hx hZ hown (hw _ (tk 12 rfl)) (hw _ (tk 13 rfl)) (hw _ (tk 14 rfl)) e0 (g := (mkF m 22 (lt13 r0 (((3 : Int32) - (1 : Int32)) + (-1 : Int32))) [])) rfl (hb hby d3_22) (by decide) (by decide)
  obtain ⟨b195, g195⟩ : ∃ z, z = h0.size := ⟨_, rfl⟩
  rw [← g195] at A195 D195 st195
  have g_b195 : n0 ≤ b195 := Nat.le_trans (own_old O0) (Nat.le_of_eq g195.symm)
  have sz_b195 : h0.size ≤ b195 := Nat.le_trans (Keep.refl h0 []).1 (Nat.le_of_eq g195.symm)
  have ne_r0_b195 : r0 ≠ b195 := Nat.ne_of_lt (Nat.lt_of_lt_of_le V_r0.lt (Nat.le_of_eq g195.symm))
  have O195 : Old Z n0 h195 := O0.ext E195
  have K195 : Keep h0 h195 [] := (Keep.refl h0 []).ext E195
  have F_value_b195 : Fld Z h195 b195 "java/lang/String" "value" "[B" .null := D195 (Or.inr (hw _ (tk 42 rfl))) (ty := (.array .byte)) (by decide)
  have F_coder_b195 : Fld Z h195 b195 "java/lang/String" "coder" "B" (.int (0 : Int32)) := D195 (Or.inr (hw _ (tk 43 rfl))) (ty := .byte) (by decide)
  obtain ⟨T196, X196, e196, st196⟩ := getS2 X195 hx hZ hown (host := "") (Or.inl (hw _ (tk 15 rfl))) Via.refl e195 (S_1.ext O195.2) (g := (mkF m 29 (lt13 r0 (((3 : Int32) - (1 : Int32)) + (-1 : Int32))) [(.int (((3 : Int32) - (1 : Int32)) + (-1 : Int32))), (.int (0 : Int32)), (.ref r0), (.ref b195), (.ref b195)])) rfl (hb hby d3_29)
  have c231 := (V_r0.ext E195)
  obtain ⟨_, _, ⟨T232, L232, k232, n232⟩, -, X232, ⟨Lc232, hQ232, l232, y232, z232⟩, st232⟩ := X196.specialBack hx (y := Y22) rfl hown (mvT hZ (hw _ (tk 17 rfl))) (mvT hZ (hw _ (tk 18 rfl))) (mvT hZ (hw _ (tk 19 rfl))) (by decide) (backOf (W := 1) (rm4x4 l Z a0 hw hv [] w_1 w_2 w_4 w_5 hS0 b195 r0 k_r0 x_r0_0 x_r0_1 x_r0_2 h195 n0 O195 g_b195 g_r0 A195 F_coder_b195 F_value_b195 c231 (Ne.symm ne_r0_b195)) hZ (hw _ (tk 19 rfl)) (hw _ (tk 14 rfl)) (by decide) (by decide)) (g := (mkF m 32 (lt13 r0 (((3 : Int32) - (1 : Int32)) + (-1 : Int32))) [(.ref w_1), (.int (((3 : Int32) - (1 : Int32)) + (-1 : Int32))), (.int (0 : Int32)), (.ref r0), (.ref b195), (.ref b195)])) rfl (by rw [hml]; rfl) (Steps.refl _) (a := b195) (argsL := [(.ref r0), (.int (0 : Int32)), (.int (((3 : Int32) - (1 : Int32)) + (-1 : Int32))), (.ref w_1)]) (rest := [(.ref b195)]) (lenOf pd_6 rfl) rfl (by show 2 * 0 + _ ≤ _; exact Nat.le_of_eq rfl) (hb hby d3_32) (fun _ _ => ⟨rfl, e196, (by decide : 1 + 1 ≤ _), (by decide : 4 + 1 ≤ _)⟩)
  dsimp only [Pt.U, Pt.locs, Pt.cells, Pt.slots] at X232 l232 y232 z232 st232 hQ232
  subst l232 y232 z232
  obtain ⟨b233, k234, rv232, N232q, O232, K232c, Fe232_0, Fe232_1, Fx232_0, Fx232_1, Fx232_2⟩ := hQ232
  subst rv232
  have N232 := Fr.app N0 N232q
  have K232 : Keep h0 T232.heap [] := K195.trans K232c (allS (Or.inr sz_b195) all0)
  have g_b233 := Fx232_0
  have sz_b233 : h0.size ≤ b233 := Nat.le_trans K195.1 Fx232_1
  have ne_r0_b233 : r0 ≠ b233 := Nat.ne_of_lt (Nat.lt_of_lt_of_le c231.lt Fx232_1)
  have ne_b195_b233 : b195 ≠ b233 := Nat.ne_of_lt (Nat.lt_of_lt_of_le A195.lt Fx232_1)
  obtain ⟨fs, hr, hrun, hended, hW, hsame⟩ := X232.leave (v := some (.ref b195)) (fun h => by rw [Bd.returns] at h; cases h)
  have c235 := (A195.keep K232c)
  refine ⟨_, _, pre0 _ ?_, hrun, hended, _, _, rfl, ?_, ⟨_, rfl⟩, hW, hsame.mono (by decide) (by decide)⟩
  · show Sp p e below s₁ (mkF m 0 (lt12 r0) []) _
    refine XS.aloadN X0.here hx rfl (hb hby d3_0) rfl rfl ?_
    show Sp p e below s₁ (mkF m 1 (lt12 r0) [(.ref r0)]) _
    refine X0.arraylength hx (by rw [e0]; exact Ar193.1) (State.isArrayOf_alike hZ.alike Ar193.2.1) (g := (mkF m 1 (lt12 r0) [(.ref r0)])) rfl rfl (hb hby d3_1) _ ?_
    rw [len_of Sa193 Ma193]
    show Sp p e below s₁ (mkF m 2 (lt12 r0) [(.int (3 : Int32))]) _
    refine XS.iconst X0.here hx rfl (hb hby d3_2) ?_
    refine XS.isub X0.here hx rfl (hb hby d3_3) rfl ?_
    show Sp p e below s₁ (mkF m 4 (lt12 r0) [(.int ((3 : Int32) - (1 : Int32)))]) _
    refine XS.istoreN X0.here hx rfl (hb hby d3_4) rfl (l' := (lt13 r0 ((3 : Int32) - (1 : Int32)))) rfl ?_
    refine XS.iloadN X0.here hx rfl (hb hby d3_5) rfl ?_
    show Sp p e below s₁ (mkF m 6 (lt13 r0 ((3 : Int32) - (1 : Int32))) [(.int ((3 : Int32) - (1 : Int32)))]) _
    refine XS.ifNo X0.here hx rfl (hb hby d3_6) rfl ((if0 _ _).trans (tlt (by decide : ((0 : Int32) < ((3 : Int32) - (1 : Int32))))).2.2.2) ?_
    show Sp p e below s₁ (mkF m 9 (lt13 r0 ((3 : Int32) - (1 : Int32))) []) _
    refine XS.aloadN X0.here hx rfl (hb hby d3_9) rfl rfl ?_
    refine XS.iloadN X0.here hx rfl (hb hby d3_10) rfl ?_
    show Sp p e below s₁ (mkF m 11 (lt13 r0 ((3 : Int32) - (1 : Int32))) [(.int ((3 : Int32) - (1 : Int32))), (.ref r0)]) _
    refine XS.iconst X0.here hx rfl (hb hby d3_11) ?_
    refine XS.isub X0.here hx rfl (hb hby d3_12) rfl ?_
    show Sp p e below s₁ (mkF m 13 (lt13 r0 ((3 : Int32) - (1 : Int32))) [(.int (((3 : Int32) - (1 : Int32)) - (1 : Int32))), (.ref r0)]) _
    refine X0.baloadBytes hx (j := (((3 : Int32) - (1 : Int32)) - (1 : Int32))) (v := (.int x_r0_1)) (by rw [e0]; exact Ar194.1) (State.isArrayOf_alike hZ.alike Ar194.2.1) Ar194.2.2 hin194 hat194 (g := (mkF m 13 (lt13 r0 ((3 : Int32) - (1 : Int32))) [(.int (((3 : Int32) - (1 : Int32)) - (1 : Int32))), (.ref r0)])) rfl rfl (hb hby d3_13) _ ?_
    show Sp p e below s₁ (mkF m 14 (lt13 r0 ((3 : Int32) - (1 : Int32))) [(.int x_r0_1)]) _
    refine XS.bipush X0.here hx rfl (hb hby d3_14) ?_
    show Sp p e below s₁ (mkF m 16 (lt13 r0 ((3 : Int32) - (1 : Int32))) [(.int (13 : Int32)), (.int x_r0_1)]) _
    refine XS.icmpNo X0.here hx rfl (hb hby d3_16) rfl (teq as0).2 ?_
    show Sp p e below s₁ (mkF m 19 (lt13 r0 ((3 : Int32) - (1 : Int32))) []) _
    refine XS.iinc X0.here hx rfl (hb hby d3_19) rfl (l' := (lt13 r0 (((3 : Int32) - (1 : Int32)) + (-1 : Int32)))) rfl ?_
    show Sp p e below s₁ (mkF m 22 (lt13 r0 (((3 : Int32) - (1 : Int32)) + (-1 : Int32))) []) _
    refine st195 _ ?_
    show Sp p e below T195 (mkF m 25 (lt13 r0 (((3 : Int32) - (1 : Int32)) + (-1 : Int32))) [(.ref b195)]) _
    refine XS.dup X195.here hx rfl (hb hby d3_25) rfl rfl ?_
    refine XS.aloadN X195.here hx rfl (hb hby d3_26) rfl rfl ?_
    show Sp p e below T195 (mkF m 27 (lt13 r0 (((3 : Int32) - (1 : Int32)) + (-1 : Int32))) [(.ref r0), (.ref b195), (.ref b195)]) _
    refine XS.iconst X195.here hx rfl (hb hby d3_27) ?_
    refine XS.iloadN X195.here hx rfl (hb hby d3_28) rfl ?_
    show Sp p e below T195 (mkF m 29 (lt13 r0 (((3 : Int32) - (1 : Int32)) + (-1 : Int32))) [(.int (((3 : Int32) - (1 : Int32)) + (-1 : Int32))), (.int (0 : Int32)), (.ref r0), (.ref b195), (.ref b195)]) _
    refine st196 _ ?_
    show Sp p e below T196 (mkF m 32 (lt13 r0 (((3 : Int32) - (1 : Int32)) + (-1 : Int32))) [(.ref w_1), (.int (((3 : Int32) - (1 : Int32)) + (-1 : Int32))), (.int (0 : Int32)), (.ref r0), (.ref b195), (.ref b195)]) _
    refine st232.trans ?_
    show Sp p e below T232 (mkF m 35 (lt13 r0 (((3 : Int32) - (1 : Int32)) + (-1 : Int32))) [(.ref b195)]) _
    jvm_step X232.here [X232.here.top, hx, (hb hby d3_35), X232.method', Bd.returns, Value.isRef, FieldType.isReference]
    first | (intro acts; rw [hr _ acts rfl rfl rfl]) | rw [hr _ _ rfl rfl rfl]
    exact Steps.refl _
  · show Q3x4 Z w_1 w_2 w_4 w_5 r0 k_r0 x_r0_0 x_r0_1 x_r0_2 h0 n0 _ T232.heap _
    exact ⟨b195, b233, k234, rfl, N232, O232, K232, g_b195, sz_b195, c235, Fe232_1, Fe232_0, g_b233, sz_b233, Fx232_2, ne_b195_b233⟩
theorem pn_10x3 : plainName "java/lang/String" = true := by first | (simp [plainName, overriddenIn]; done) | decide +kernel
theorem ef_10x3 (m : MethodId) (r0 : Addr) : entryFrame m #[(.ref r0)] 1 = mkF m 0 #[.val (.ref r0)] [] := by first | (simp [entryFrame, mkF, argsToLocals, Value.category]; done) | rfl
def sp10x3  : Int32 := (0 : Int32)
def Q10x3 (Z : State) (w_1 : Addr) (w_2 : Addr) (w_4 : Int32) (w_5 : Value) (r0 : Addr) (r0_f1 : Addr) (k_r0_f1 : ClassId) (x_r0_f1_0 : Int32) (h0 : Heap) (n0 : Nat) (v : Option Value) (h : Heap) (L : List Loc) : Prop := v = some (.int (sp10x3)) ∧ Fr n0 L ∧ h = h0
set_option maxRecDepth 65536 in
set_option maxHeartbeats 40000000 in
theorem rm10x3 (l : Launch) (Z : State) (a0 : Array Value) (hw : ∀ d ∈ tables_1, d.before a0 Z = true) (hv : ∀ d ∈ jdkStatics_1, d.before a0 Z = true) (ws : List Jvm.Cond) (w_1 : Addr) (w_2 : Addr) (w_4 : Int32) (w_5 : Value) (hS : StF Z w_1 w_2 w_4 w_5) (r0 : Addr) (r0_f1 : Addr) (k_r0_f1 : ClassId) (x_r0_f1_0 : Int32) (h0 : Heap) (n0 : Nat) (O0 : Old Z n0 h0) (g_r0 : n0 ≤ r0) (g_r0_f1 : n0 ≤ r0_f1) (E_r0 : Exa Z h0 r0 "java/lang/String") (F_value_r0 : Fld Z h0 r0 "java/lang/String" "value" "[B" (.ref r0_f1)) (V_r0_f1 : Arv Z h0 r0_f1 k_r0_f1 .byte (((0 : Int32) + (((3 : Int32) - (1 : Int32)) + (-1 : Int32))) - (0 : Int32)) [(.int x_r0_f1_0)] (.int (0 : Int32))) (ne_r0_r0_f1 : r0 ≠ r0_f1) :
    MetFree l Y24 (head1 (Jvm.Cond.code Y24 jdk_42_method_55_code 1 (some .boolean) :: ws) ({ frames := 0, cells := 0, slots := 0, locals := 0 } : Room)) (fun a U => a = #[(.ref r0)] ∧ Z.Warmed39 U.vm ∧ U.heap = h0) (fun _ _ _ _ _ => True) (fun _ U o U' => ∃ v L, o = .returned v ∧ Q10x3 Z w_1 w_2 w_4 w_5 r0 r0_f1 k_r0_f1 x_r0_f1_0 h0 n0 v U'.heap L ∧ FrameEnd U o U' L ({ frames := 0, cells := 0, slots := 0, locals := 0 } : Room).cells ({ frames := 0, cells := 0, slots := 0, locals := 0 } : Room).slots) := by
  refine MetFree.of_bodySF (plainFor_of_name pn_10x3) hisR ?_
  intro p e s m args below meth c s₁ Bd hml0 hP hK
  obtain ⟨rfl, hZ, hh⟩ := hP
  have hx := Bd.exec
  have hby := Bd.bytes
  have hml : c.maxLocals = 1 := hml0
  have hown : s.vm.findClass "java/lang/String" = some m.cls := findClass_of_methodNamed Bd.named
  have hnm := (name_of_methodNamed Bd.named Bd.method).1
  have X0 : Stand p l e ({ frames := 0, cells := 0, slots := 0, locals := 0 } : Room) s m #[(.ref r0)] below meth c s₁ [] 0 0 := Stand.of_body Bd
  have e0 : s₁.heap = h0 := by rw [← hh, Bd.state]; rfl
  have N0 := Fr.nil n0
  have hS0 := hS
  obtain ⟨S_1, E_1, S_2, E_2, S_3, E_3, S_4, NE_4, S_5, IR_5⟩ := hS
  have pre0 : ∀ t, Steps p.tables e below (s₁.setTop (mkF m 0 #[.val (.ref r0)] [])) t → Steps p.tables e below (s₁.setTop (entryFrame m #[(.ref r0)] 1)) t := fun t k => castTop (ef_10x3 m r0) k
  generalize hE0 : s₁.setTop (entryFrame m #[(.ref r0)] 1) = E0 at pre0 ⊢
  obtain ⟨T240, X240, e240, st240⟩ := getF X0 hx hZ hown (host := "") (Or.inl (hw _ (tk 46 rfl))) Via.refl e0 F_value_r0 (g := (mkF m 1 (lt10 r0) [(.ref r0)])) rfl rfl (hb hby d10_1)
  obtain ⟨cl241, Ar241, qa241, Sa241, Ma241, Ha241, Ga241⟩ := id V_r0_f1
  obtain ⟨fs, hr, hrun, hended, hW, hsame⟩ := X240.leave (v := some (.int (0 : Int32))) (fun h => by rw [Bd.returns] at h; cases h)
  refine ⟨_, _, pre0 _ ?_, hrun, hended, _, _, rfl, ?_, ⟨_, rfl⟩, hW, hsame.mono (by decide) (by decide)⟩
  · show Sp p e below s₁ (mkF m 0 (lt10 r0) []) _
    refine XS.aloadN X0.here hx rfl (hb hby d10_0) rfl rfl ?_
    show Sp p e below s₁ (mkF m 1 (lt10 r0) [(.ref r0)]) _
    refine st240 _ ?_
    show Sp p e below T240 (mkF m 4 (lt10 r0) [(.ref r0_f1)]) _
    refine X240.arraylength hx (by rw [e240]; exact Ar241.1) (State.isArrayOf_alike hZ.alike Ar241.2.1) (g := (mkF m 4 (lt10 r0) [(.ref r0_f1)])) rfl rfl (hb hby d10_4) _ ?_
    rw [len_of Sa241 Ma241]
    show Sp p e below T240 (mkF m 5 (lt10 r0) [(.int (((0 : Int32) + (((3 : Int32) - (1 : Int32)) + (-1 : Int32))) - (0 : Int32)))]) _
    refine XS.ifYes X240.here hx rfl (pc0 := 5) (pc' := 12) rfl (hb hby d10_5) rfl ((if0 _ _).trans (feq (by decide : ¬ ((((0 : Int32) + (((3 : Int32) - (1 : Int32)) + (-1 : Int32))) - (0 : Int32)) = (0 : Int32)))).2) (by decide) (by decide) ?_
    show Sp p e below T240 (mkF m 12 (lt10 r0) []) _
    refine XS.iconst X240.here hx rfl (hb hby d10_12) ?_
    show Sp p e below T240 (mkF m 13 (lt10 r0) [(.int (0 : Int32))]) _
    exact retN X240 hx (t := .boolean) Bd.returns (by simp) (hb hby d10_13) hr
  · show Q10x3 Z w_1 w_2 w_4 w_5 r0 r0_f1 k_r0_f1 x_r0_f1_0 h0 n0 _ T240.heap _
    rw [e240]
    exact ⟨by unfold sp10x3; rfl, N0, rfl⟩
theorem pn_7u3x5 : plainName "jdk/internal/util/Preconditions" = true := by first | (simp [plainName, overriddenIn]; done) | decide +kernel
theorem ef_7u3x5 (m : MethodId) (u3 : Value) (i_u3 : u3.isRef = true) : entryFrame m #[(.int (0 : Int32)), (.int ((3 : Int32) - (1 : Int32))), (.int (3 : Int32)), u3] 4 = mkF m 0 #[.val (.int (0 : Int32)), .val (.int ((3 : Int32) - (1 : Int32))), .val (.int (3 : Int32)), .val u3] [] := by rcases ref_cases i_u3 with rfl | ⟨z_u3, rfl⟩ <;> first | (simp [entryFrame, mkF, argsToLocals, Value.category]; done) | rfl
def Q7u3x5 (Z : State) (w_1 : Addr) (w_2 : Addr) (w_4 : Int32) (w_5 : Value) (u3 : Value) (h0 : Heap) (n0 : Nat) (v : Option Value) (h : Heap) (L : List Loc) : Prop := v = some (.int (0 : Int32)) ∧ Fr n0 L ∧ h = h0
set_option maxRecDepth 65536 in
set_option maxHeartbeats 40000000 in
theorem rm7u3x5 (l : Launch) (Z : State) (a0 : Array Value) (hw : ∀ d ∈ tables_1, d.before a0 Z = true) (hv : ∀ d ∈ jdkStatics_1, d.before a0 Z = true) (ws : List Jvm.Cond) (w_1 : Addr) (w_2 : Addr) (w_4 : Int32) (w_5 : Value) (hS : StF Z w_1 w_2 w_4 w_5) (u3 : Value) (h0 : Heap) (n0 : Nat) (O0 : Old Z n0 h0) (i_u3 : u3.isRef = true) :
    MetFree l Y18 (head1 (Jvm.Cond.code Y18 jdk_41_method_13_code 4 (some .int) :: ws) ({ frames := 0, cells := 0, slots := 0, locals := 0 } : Room)) (fun a U => a = #[(.int (0 : Int32)), (.int ((3 : Int32) - (1 : Int32))), (.int (3 : Int32)), u3] ∧ Z.Warmed39 U.vm ∧ U.heap = h0) (fun _ _ _ _ _ => True) (fun _ U o U' => ∃ v L, o = .returned v ∧ Q7u3x5 Z w_1 w_2 w_4 w_5 u3 h0 n0 v U'.heap L ∧ FrameEnd U o U' L ({ frames := 0, cells := 0, slots := 0, locals := 0 } : Room).cells ({ frames := 0, cells := 0, slots := 0, locals := 0 } : Room).slots) := by
  refine MetFree.of_bodySF (plainFor_of_name pn_7u3x5) hisR ?_
  intro p e s m args below meth c s₁ Bd hml0 hP hK
  obtain ⟨rfl, hZ, hh⟩ := hP
  have hx := Bd.exec
  have hby := Bd.bytes
  have hml : c.maxLocals = 4 := hml0
  have hown : s.vm.findClass "jdk/internal/util/Preconditions" = some m.cls := findClass_of_methodNamed Bd.named
  have hnm := (name_of_methodNamed Bd.named Bd.method).1
  have X0 : Stand p l e ({ frames := 0, cells := 0, slots := 0, locals := 0 } : Room) s m #[(.int (0 : Int32)), (.int ((3 : Int32) - (1 : Int32))), (.int (3 : Int32)), u3] below meth c s₁ [] 0 0 := Stand.of_body Bd
  have e0 : s₁.heap = h0 := by rw [← hh, Bd.state]; rfl
  have N0 := Fr.nil n0
  have hS0 := hS
  obtain ⟨S_1, E_1, S_2, E_2, S_3, E_3, S_4, NE_4, S_5, IR_5⟩ := hS
  have pre0 : ∀ t, Steps p.tables e below (s₁.setTop (mkF m 0 #[.val (.int (0 : Int32)), .val (.int ((3 : Int32) - (1 : Int32))), .val (.int (3 : Int32)), .val u3] [])) t → Steps p.tables e below (s₁.setTop (entryFrame m #[(.int (0 : Int32)), (.int ((3 : Int32) - (1 : Int32))), (.int (3 : Int32)), u3] 4)) t := fun t k => castTop (ef_7u3x5 m u3 i_u3) k
  generalize hE0 : s₁.setTop (entryFrame m #[(.int (0 : Int32)), (.int ((3 : Int32) - (1 : Int32))), (.int (3 : Int32)), u3] 4) = E0 at pre0 ⊢
  obtain ⟨fs, hr, hrun, hended, hW, hsame⟩ := X0.leave (v := some (.int (0 : Int32))) (fun h => by rw [Bd.returns] at h; cases h)
  refine ⟨_, _, pre0 _ ?_, hrun, hended, _, _, rfl, ?_, ⟨_, rfl⟩, hW, hsame.mono (by decide) (by decide)⟩
  · show Sp p e below s₁ (mkF m 0 (lt15 (0 : Int32) ((3 : Int32) - (1 : Int32)) (3 : Int32) u3) []) _
    refine XS.iloadN X0.here hx rfl (hb hby d7_0) rfl ?_
    refine XS.iloadN X0.here hx rfl (hb hby d7_1) rfl ?_
    show Sp p e below s₁ (mkF m 2 (lt15 (0 : Int32) ((3 : Int32) - (1 : Int32)) (3 : Int32) u3) [(.int (0 : Int32)), (.int (3 : Int32))]) _
    refine XS.ior X0.here hx rfl (hb hby d7_2) rfl ?_
    refine XS.iloadN X0.here hx rfl (hb hby d7_3) rfl ?_
    show Sp p e below s₁ (mkF m 4 (lt15 (0 : Int32) ((3 : Int32) - (1 : Int32)) (3 : Int32) u3) [(.int ((3 : Int32) - (1 : Int32))), (.int ((3 : Int32) ||| (0 : Int32)))]) _
    refine XS.ior X0.here hx rfl (hb hby d7_4) rfl ?_
    show Sp p e below s₁ (mkF m 5 (lt15 (0 : Int32) ((3 : Int32) - (1 : Int32)) (3 : Int32) u3) [(.int (((3 : Int32) ||| (0 : Int32)) ||| ((3 : Int32) - (1 : Int32))))]) _
    refine XS.ifNo X0.here hx rfl (hb hby d7_5) rfl ((if0 _ _).trans (flt (by decide : ¬ ((((3 : Int32) ||| (0 : Int32)) ||| ((3 : Int32) - (1 : Int32))) < (0 : Int32)))).1) ?_
    show Sp p e below s₁ (mkF m 8 (lt15 (0 : Int32) ((3 : Int32) - (1 : Int32)) (3 : Int32) u3) []) _
    refine XS.iloadN X0.here hx rfl (hb hby d7_8) rfl ?_
    refine XS.iloadN X0.here hx rfl (hb hby d7_9) rfl ?_
    show Sp p e below s₁ (mkF m 10 (lt15 (0 : Int32) ((3 : Int32) - (1 : Int32)) (3 : Int32) u3) [(.int (3 : Int32)), (.int ((3 : Int32) - (1 : Int32)))]) _
    refine XS.iloadN X0.here hx rfl (hb hby d7_10) rfl ?_
    refine XS.isub X0.here hx rfl (hb hby d7_11) rfl ?_
    show Sp p e below s₁ (mkF m 12 (lt15 (0 : Int32) ((3 : Int32) - (1 : Int32)) (3 : Int32) u3) [(.int ((3 : Int32) - (0 : Int32))), (.int ((3 : Int32) - (1 : Int32)))]) _
    refine XS.icmpYes X0.here hx rfl (pc0 := 12) (pc' := 23) rfl (hb hby d7_12) rfl (flt (by decide : ¬ (((3 : Int32) - (0 : Int32)) < ((3 : Int32) - (1 : Int32))))).2.2.2 (by decide) (by decide) ?_
    show Sp p e below s₁ (mkF m 23 (lt15 (0 : Int32) ((3 : Int32) - (1 : Int32)) (3 : Int32) u3) []) _
    refine XS.iloadN X0.here hx rfl (hb hby d7_23) rfl ?_
    show Sp p e below s₁ (mkF m 24 (lt15 (0 : Int32) ((3 : Int32) - (1 : Int32)) (3 : Int32) u3) [(.int (0 : Int32))]) _
    exact retI X0 hx Bd.returns (hb hby d7_24) hr
  · show Q7u3x5 Z w_1 w_2 w_4 w_5 u3 h0 n0 _ s₁.heap _
    rw [e0]
    exact ⟨rfl, N0, rfl⟩
theorem pn_6x5 : plainName "java/lang/String" = true := by first | (simp [plainName, overriddenIn]; done) | decide +kernel
theorem ef_6x5 (m : MethodId)  : entryFrame m #[(.int (0 : Int32)), (.int ((3 : Int32) - (1 : Int32))), (.int (3 : Int32))] 3 = mkF m 0 #[.val (.int (0 : Int32)), .val (.int ((3 : Int32) - (1 : Int32))), .val (.int (3 : Int32))] [] := by first | (simp [entryFrame, mkF, argsToLocals, Value.category]; done) | rfl
def Q6x5 (Z : State) (w_1 : Addr) (w_2 : Addr) (w_4 : Int32) (w_5 : Value) (h0 : Heap) (n0 : Nat) (v : Option Value) (h : Heap) (L : List Loc) : Prop := v = some (.int (0 : Int32)) ∧ Fr n0 L ∧ h = h0
set_option maxRecDepth 65536 in
set_option maxHeartbeats 40000000 in
theorem rm6x5 (l : Launch) (Z : State) (a0 : Array Value) (hw : ∀ d ∈ tables_1, d.before a0 Z = true) (hv : ∀ d ∈ jdkStatics_1, d.before a0 Z = true) (ws : List Jvm.Cond) (w_1 : Addr) (w_2 : Addr) (w_4 : Int32) (w_5 : Value) (hS : StF Z w_1 w_2 w_4 w_5) (h0 : Heap) (n0 : Nat) (O0 : Old Z n0 h0) :
    MetFree l Y19 (head1 (Jvm.Cond.code Y19 jdk_42_method_157_code 3 (some .int) :: ws) ({ frames := 1, cells := 0, slots := 0, locals := 15 } : Room)) (fun a U => a = #[(.int (0 : Int32)), (.int ((3 : Int32) - (1 : Int32))), (.int (3 : Int32))] ∧ Z.Warmed39 U.vm ∧ U.heap = h0) (fun _ _ _ _ _ => True) (fun _ U o U' => ∃ v L, o = .returned v ∧ Q6x5 Z w_1 w_2 w_4 w_5 h0 n0 v U'.heap L ∧ FrameEnd U o U' L ({ frames := 1, cells := 0, slots := 0, locals := 15 } : Room).cells ({ frames := 1, cells := 0, slots := 0, locals := 15 } : Room).slots) := by
  refine MetFree.of_bodySF (plainFor_of_name pn_6x5) hisR ?_
  intro p e s m args below meth c s₁ Bd hml0 hP hK
  obtain ⟨rfl, hZ, hh⟩ := hP
  have hx := Bd.exec
  have hby := Bd.bytes
  have hml : c.maxLocals = 3 := hml0
  have hown : s.vm.findClass "java/lang/String" = some m.cls := findClass_of_methodNamed Bd.named
  have hnm := (name_of_methodNamed Bd.named Bd.method).1
  have X0 : Stand p l e ({ frames := 1, cells := 0, slots := 0, locals := 15 } : Room) s m #[(.int (0 : Int32)), (.int ((3 : Int32) - (1 : Int32))), (.int (3 : Int32))] below meth c s₁ [] 0 0 := Stand.of_body Bd
  have e0 : s₁.heap = h0 := by rw [← hh, Bd.state]; rfl
  have N0 := Fr.nil n0
  have hS0 := hS
  obtain ⟨S_1, E_1, S_2, E_2, S_3, E_3, S_4, NE_4, S_5, IR_5⟩ := hS
  have pre0 : ∀ t, Steps p.tables e below (s₁.setTop (mkF m 0 #[.val (.int (0 : Int32)), .val (.int ((3 : Int32) - (1 : Int32))), .val (.int (3 : Int32))] [])) t → Steps p.tables e below (s₁.setTop (entryFrame m #[(.int (0 : Int32)), (.int ((3 : Int32) - (1 : Int32))), (.int (3 : Int32))] 3)) t := fun t k => castTop (ef_6x5 m ) k
  generalize hE0 : s₁.setTop (entryFrame m #[(.int (0 : Int32)), (.int ((3 : Int32) - (1 : Int32))), (.int (3 : Int32))] 3) = E0 at pre0 ⊢
  obtain ⟨T253, X253, e253, st253⟩ := getS2 X0 hx hZ hown (host := "") (Or.inl (hw _ (tk 29 rfl))) Via.refl e0 (S_5.ext O0.2) (g := (mkF m 3 (lt4 (0 : Int32) ((3 : Int32) - (1 : Int32)) (3 : Int32)) [(.int (3 : Int32)), (.int ((3 : Int32) - (1 : Int32))), (.int (0 : Int32))])) rfl (hb hby d6_3)
  obtain ⟨_, _, ⟨T254, L254, k254, n254⟩, -, X254, ⟨Lc254, hQ254, l254, y254, z254⟩, st254⟩ := Jvm.LawKit.callS X253 hx (y := Y18) hown (mvT hZ (hw _ (tk 31 rfl))) (mvT hZ (hw _ (tk 32 rfl))) (mvT hZ (hw _ (tk 30 rfl))) (mvT hZ (hw _ (tk 33 rfl))) (by decide) (backOf (W := 0) (rm7u3x5 l Z a0 hw hv [] w_1 w_2 w_4 w_5 hS0 w_5 h0 n0 O0 IR_5) hZ (hw _ (tk 33 rfl)) (hw _ (tk 30 rfl)) (by decide) (by decide)) (g := (mkF m 6 (lt4 (0 : Int32) ((3 : Int32) - (1 : Int32)) (3 : Int32)) [w_5, (.int (3 : Int32)), (.int ((3 : Int32) - (1 : Int32))), (.int (0 : Int32))])) rfl (by rw [hml]; rfl) (argsL := [(.int (0 : Int32)), (.int ((3 : Int32) - (1 : Int32))), (.int (3 : Int32)), w_5]) (rest := []) (lenOf pd_3 rfl) rfl (by show 2 * 0 + _ ≤ _; exact Nat.le_of_eq rfl) (hb hby d6_6) (fun _ _ => ⟨rfl, e253, (by decide : 0 + 0 ≤ _), (by decide : 0 + 0 ≤ _)⟩)
  dsimp only [Pt.U, Pt.locs, Pt.cells, Pt.slots] at X254 l254 y254 z254 st254 hQ254
  subst l254 y254 z254
  obtain ⟨rv254, N254q, e254⟩ := hQ254
  subst rv254
  have N254 := Fr.app N0 N254q
  obtain ⟨fs, hr, hrun, hended, hW, hsame⟩ := X254.leave (v := some (.int (0 : Int32))) (fun h => by rw [Bd.returns] at h; cases h)
  refine ⟨_, _, pre0 _ ?_, hrun, hended, _, _, rfl, ?_, ⟨_, rfl⟩, hW, hsame.mono (by decide) (by decide)⟩
  · show Sp p e below s₁ (mkF m 0 (lt4 (0 : Int32) ((3 : Int32) - (1 : Int32)) (3 : Int32)) []) _
    refine XS.iloadN X0.here hx rfl (hb hby d6_0) rfl ?_
    refine XS.iloadN X0.here hx rfl (hb hby d6_1) rfl ?_
    show Sp p e below s₁ (mkF m 2 (lt4 (0 : Int32) ((3 : Int32) - (1 : Int32)) (3 : Int32)) [(.int ((3 : Int32) - (1 : Int32))), (.int (0 : Int32))]) _
    refine XS.iloadN X0.here hx rfl (hb hby d6_2) rfl ?_
    show Sp p e below s₁ (mkF m 3 (lt4 (0 : Int32) ((3 : Int32) - (1 : Int32)) (3 : Int32)) [(.int (3 : Int32)), (.int ((3 : Int32) - (1 : Int32))), (.int (0 : Int32))]) _
    refine st253 _ ?_
    show Sp p e below T253 (mkF m 6 (lt4 (0 : Int32) ((3 : Int32) - (1 : Int32)) (3 : Int32)) [w_5, (.int (3 : Int32)), (.int ((3 : Int32) - (1 : Int32))), (.int (0 : Int32))]) _
    refine st254 _ ?_
    show Sp p e below T254 (mkF m 9 (lt4 (0 : Int32) ((3 : Int32) - (1 : Int32)) (3 : Int32)) [(.int (0 : Int32))]) _
    exact retI X254 hx Bd.returns (hb hby d6_9) hr
  · show Q6x5 Z w_1 w_2 w_4 w_5 h0 n0 _ T254.heap _
    rw [e254]
    exact ⟨rfl, N254, rfl⟩
theorem pn_13x3 : plainName "java/util/Arrays" = true := by first | (simp [plainName, overriddenIn]; done) | decide +kernel
theorem ef_13x3 (m : MethodId)  : entryFrame m #[(.int (0 : Int32)), (.int ((0 : Int32) + ((3 : Int32) - (1 : Int32))))] 2 = mkF m 0 #[.val (.int (0 : Int32)), .val (.int ((0 : Int32) + ((3 : Int32) - (1 : Int32))))] [] := by first | (simp [entryFrame, mkF, argsToLocals, Value.category]; done) | rfl
def Q13x3 (Z : State) (w_1 : Addr) (w_2 : Addr) (w_4 : Int32) (w_5 : Value) (h0 : Heap) (n0 : Nat) (v : Option Value) (h : Heap) (L : List Loc) : Prop := v = none ∧ Fr n0 L ∧ h = h0
set_option maxRecDepth 65536 in
set_option maxHeartbeats 40000000 in
theorem rm13x3 (l : Launch) (Z : State) (a0 : Array Value) (hw : ∀ d ∈ tables_1, d.before a0 Z = true) (hv : ∀ d ∈ jdkStatics_1, d.before a0 Z = true) (ws : List Jvm.Cond) (w_1 : Addr) (w_2 : Addr) (w_4 : Int32) (w_5 : Value) (hS : StF Z w_1 w_2 w_4 w_5) (h0 : Heap) (n0 : Nat) (O0 : Old Z n0 h0) :
    MetFree l Y29 (head1 (Jvm.Cond.code Y29 jdk_65_method_131_code 2 none :: ws) ({ frames := 0, cells := 0, slots := 0, locals := 0 } : Room)) (fun a U => a = #[(.int (0 : Int32)), (.int ((0 : Int32) + ((3 : Int32) - (1 : Int32))))] ∧ Z.Warmed39 U.vm ∧ U.heap = h0) (fun _ _ _ _ _ => True) (fun _ U o U' => ∃ v L, o = .returned v ∧ Q13x3 Z w_1 w_2 w_4 w_5 h0 n0 v U'.heap L ∧ FrameEnd U o U' L ({ frames := 0, cells := 0, slots := 0, locals := 0 } : Room).cells ({ frames := 0, cells := 0, slots := 0, locals := 0 } : Room).slots) := by
  refine MetFree.of_bodySF (plainFor_of_name pn_13x3) hisR ?_
  intro p e s m args below meth c s₁ Bd hml0 hP hK
  obtain ⟨rfl, hZ, hh⟩ := hP
  have hx := Bd.exec
  have hby := Bd.bytes
  have hml : c.maxLocals = 2 := hml0
  have hown : s.vm.findClass "java/util/Arrays" = some m.cls := findClass_of_methodNamed Bd.named
  have hnm := (name_of_methodNamed Bd.named Bd.method).1
  have X0 : Stand p l e ({ frames := 0, cells := 0, slots := 0, locals := 0 } : Room) s m #[(.int (0 : Int32)), (.int ((0 : Int32) + ((3 : Int32) - (1 : Int32))))] below meth c s₁ [] 0 0 := Stand.of_body Bd
  have e0 : s₁.heap = h0 := by rw [← hh, Bd.state]; rfl
  have N0 := Fr.nil n0
  have hS0 := hS
  obtain ⟨S_1, E_1, S_2, E_2, S_3, E_3, S_4, NE_4, S_5, IR_5⟩ := hS
  have pre0 : ∀ t, Steps p.tables e below (s₁.setTop (mkF m 0 #[.val (.int (0 : Int32)), .val (.int ((0 : Int32) + ((3 : Int32) - (1 : Int32))))] [])) t → Steps p.tables e below (s₁.setTop (entryFrame m #[(.int (0 : Int32)), (.int ((0 : Int32) + ((3 : Int32) - (1 : Int32))))] 2)) t := fun t k => castTop (ef_13x3 m ) k
  generalize hE0 : s₁.setTop (entryFrame m #[(.int (0 : Int32)), (.int ((0 : Int32) + ((3 : Int32) - (1 : Int32))))] 2) = E0 at pre0 ⊢
  obtain ⟨fs, hr, hrun, hended, hW, hsame⟩ := X0.leave (v := none) (fun _ => rfl)
  refine ⟨_, _, pre0 _ ?_, hrun, hended, _, _, rfl, ?_, ⟨_, rfl⟩, hW, hsame.mono (by decide) (by decide)⟩
  · show Sp p e below s₁ (mkF m 0 (lt20 (0 : Int32) ((0 : Int32) + ((3 : Int32) - (1 : Int32)))) []) _
    refine XS.iloadN X0.here hx rfl (hb hby d13_0) rfl ?_
    refine XS.iloadN X0.here hx rfl (hb hby d13_1) rfl ?_
    show Sp p e below s₁ (mkF m 2 (lt20 (0 : Int32) ((0 : Int32) + ((3 : Int32) - (1 : Int32)))) [(.int (0 : Int32)), (.int ((0 : Int32) + ((3 : Int32) - (1 : Int32))))]) _
    refine XS.icmpYes X0.here hx rfl (pc0 := 2) (pc' := 37) rfl (hb hby d13_2) rfl (flt (by decide : ¬ (((0 : Int32) + ((3 : Int32) - (1 : Int32))) < (0 : Int32)))).2.1 (by decide) (by decide) ?_
    show Sp p e below s₁ (mkF m 37 (lt20 (0 : Int32) ((0 : Int32) + ((3 : Int32) - (1 : Int32)))) []) _
    exact X0.returnOut hx Bd.returns (hb hby d13_37) hr
  · show Q13x3 Z w_1 w_2 w_4 w_5 h0 n0 _ s₁.heap _
    rw [e0]
    exact ⟨rfl, N0, rfl⟩
theorem pn_12x3 : plainName "java/util/Arrays" = true := by first | (simp [plainName, overriddenIn]; done) | decide +kernel
theorem ef_12x3 (m : MethodId) (r0 : Addr) : entryFrame m #[(.ref r0), (.int (0 : Int32)), (.int ((0 : Int32) + ((3 : Int32) - (1 : Int32))))] 5 = mkF m 0 #[.val (.ref r0), .val (.int (0 : Int32)), .val (.int ((0 : Int32) + ((3 : Int32) - (1 : Int32)))), .unset, .unset] [] := by first | (simp [entryFrame, mkF, argsToLocals, Value.category]; done) | rfl
def Q12x3 (Z : State) (w_1 : Addr) (w_2 : Addr) (w_4 : Int32) (w_5 : Value) (r0 : Addr) (k_r0 : ClassId) (x_r0_0 : Int32) (x_r0_1 : Int32) (x_r0_2 : Int32) (h0 : Heap) (n0 : Nat) (v : Option Value) (h : Heap) (L : List Loc) : Prop := ∃ (b262 : Addr) (k262 : ClassId), v = some (.ref b262) ∧ Fr n0 L ∧ Old Z n0 h ∧ Keep h0 h [] ∧ n0 ≤ b262 ∧ h0.size ≤ b262 ∧ Arv Z h b262 k262 .byte (((0 : Int32) + ((3 : Int32) - (1 : Int32))) - (0 : Int32)) [(.int x_r0_0), (.int x_r0_1)] (.int (0 : Int32))
set_option maxRecDepth 65536 in
set_option maxHeartbeats 40000000 in
theorem rm12x3 (l : Launch) (Z : State) (a0 : Array Value) (hw : ∀ d ∈ tables_1, d.before a0 Z = true) (hv : ∀ d ∈ jdkStatics_1, d.before a0 Z = true) (ws : List Jvm.Cond) (w_1 : Addr) (w_2 : Addr) (w_4 : Int32) (w_5 : Value) (hS : StF Z w_1 w_2 w_4 w_5) (r0 : Addr) (k_r0 : ClassId) (x_r0_0 : Int32) (x_r0_1 : Int32) (x_r0_2 : Int32) (h0 : Heap) (n0 : Nat) (O0 : Old Z n0 h0) (g_r0 : n0 ≤ r0) (V_r0 : Arv Z h0 r0 k_r0 .byte (3 : Int32) [(.int x_r0_0), (.int x_r0_1), (.int x_r0_2)] (.int (0 : Int32))) :
    MetFree l Y33 (head1 (Jvm.Cond.code Y33 jdk_65_method_133_code 5 (some (.array .byte)) :: ws) ({ frames := 1, cells := 1, slots := 2, locals := 18 } : Room)) (fun a U => a = #[(.ref r0), (.int (0 : Int32)), (.int ((0 : Int32) + ((3 : Int32) - (1 : Int32))))] ∧ Z.Warmed39 U.vm ∧ U.heap = h0) (fun _ _ _ _ _ => True) (fun _ U o U' => ∃ v L, o = .returned v ∧ Q12x3 Z w_1 w_2 w_4 w_5 r0 k_r0 x_r0_0 x_r0_1 x_r0_2 h0 n0 v U'.heap L ∧ FrameEnd U o U' L ({ frames := 1, cells := 1, slots := 2, locals := 18 } : Room).cells ({ frames := 1, cells := 1, slots := 2, locals := 18 } : Room).slots) := by
  refine MetFree.of_bodySF (plainFor_of_name pn_12x3) hisR ?_
  intro p e s m args below meth c s₁ Bd hml0 hP hK
  obtain ⟨rfl, hZ, hh⟩ := hP
  have hx := Bd.exec
  have hby := Bd.bytes
  have hml : c.maxLocals = 5 := hml0
  have hown : s.vm.findClass "java/util/Arrays" = some m.cls := findClass_of_methodNamed Bd.named
  have hnm := (name_of_methodNamed Bd.named Bd.method).1
  have X0 : Stand p l e ({ frames := 1, cells := 1, slots := 2, locals := 18 } : Room) s m #[(.ref r0), (.int (0 : Int32)), (.int ((0 : Int32) + ((3 : Int32) - (1 : Int32))))] below meth c s₁ [] 0 0 := Stand.of_body Bd
  have e0 : s₁.heap = h0 := by rw [← hh, Bd.state]; rfl
  have N0 := Fr.nil n0
  have hS0 := hS
  obtain ⟨S_1, E_1, S_2, E_2, S_3, E_3, S_4, NE_4, S_5, IR_5⟩ := hS
  have pre0 : ∀ t, Steps p.tables e below (s₁.setTop (mkF m 0 #[.val (.ref r0), .val (.int (0 : Int32)), .val (.int ((0 : Int32) + ((3 : Int32) - (1 : Int32)))), .unset, .unset] [])) t → Steps p.tables e below (s₁.setTop (entryFrame m #[(.ref r0), (.int (0 : Int32)), (.int ((0 : Int32) + ((3 : Int32) - (1 : Int32))))] 5)) t := fun t k => castTop (ef_12x3 m r0) k
  generalize hE0 : s₁.setTop (entryFrame m #[(.ref r0), (.int (0 : Int32)), (.int ((0 : Int32) + ((3 : Int32) - (1 : Int32))))] 5) = E0 at pre0 ⊢
  obtain ⟨_, _, ⟨T261, L261, k261, n261⟩, -, X261, ⟨Lc261, hQ261, l261, y261, z261⟩, st261⟩ := Jvm.LawKit.callS X0 hx (y := Y29) hown (mvT hZ (hw _ (tk 65 rfl))) (mvT hZ (hw _ (tk 66 rfl))) (mvT hZ (hw _ (tk 60 rfl))) (mvT hZ (hw _ (tk 67 rfl))) (by decide) (backOf (W := 0) (rm13x3 l Z a0 hw hv [] w_1 w_2 w_4 w_5 hS0 h0 n0 O0) hZ (hw _ (tk 67 rfl)) (hw _ (tk 60 rfl)) (by decide) (by decide)) (g := (mkF m 2 (lt19 r0 (0 : Int32) ((0 : Int32) + ((3 : Int32) - (1 : Int32)))) [(.int ((0 : Int32) + ((3 : Int32) - (1 : Int32)))), (.int (0 : Int32))])) rfl (by rw [hml]; rfl) (argsL := [(.int (0 : Int32)), (.int ((0 : Int32) + ((3 : Int32) - (1 : Int32))))]) (rest := []) (lenOf pd_9 rfl) rfl (by show 2 * 0 + _ ≤ _; exact Nat.le_of_eq rfl) (hb hby d12_2) (fun _ _ => ⟨rfl, e0, (by decide : 0 + 0 ≤ _), (by decide : 0 + 0 ≤ _)⟩)
  dsimp only [Pt.U, Pt.locs, Pt.cells, Pt.slots] at X261 l261 y261 z261 st261 hQ261
  subst l261 y261 z261
  obtain ⟨rv261, N261q, e261⟩ := hQ261
  subst rv261
  have N261 := Fr.app N0 N261q
  obtain ⟨T262, h262, k262, X262, e262, E262, A262, st262⟩ := newP X261 hx hZ (hw _ (tk 0 rfl)) e261 (g := (mkF m 10 (lt21 r0 (0 : Int32) ((0 : Int32) + ((3 : Int32) - (1 : Int32))) (((0 : Int32) + ((3 : Int32) - (1 : Int32))) - (0 : Int32))) [(.int (((0 : Int32) + ((3 : Int32) - (1 : Int32))) - (0 : Int32)))])) rfl (hb hby d12_10) rfl (by decide) (cap := 2) (by decide) (by decide) (by decide) (by decide)
  obtain ⟨b262, g262⟩ : ∃ z, z = h0.size := ⟨_, rfl⟩
  rw [← g262] at A262 st262
  have g_b262 : n0 ≤ b262 := Nat.le_trans (own_old O0) (Nat.le_of_eq g262.symm)
  have sz_b262 : h0.size ≤ b262 := Nat.le_trans (Keep.refl h0 []).1 (Nat.le_of_eq g262.symm)
  have ne_r0_b262 : r0 ≠ b262 := Nat.ne_of_lt (Nat.lt_of_lt_of_le V_r0.lt (Nat.le_of_eq g262.symm))
  have O262 : Old Z n0 h262 := O0.ext E262
  have K262 : Keep h0 h262 [] := (Keep.refl h0 []).ext E262
  have V_b262 : Arv Z h262 b262 k262 .byte (((0 : Int32) + ((3 : Int32) - (1 : Int32))) - (0 : Int32)) [(.int (0 : Int32)), (.int (0 : Int32))] (.int (0 : Int32)) := (Arv.new A262 (by decide)).pad (pad_rep [] (.int (0 : Int32)) 2)
  have c263 := (V_r0.ext E262)
  obtain ⟨cl264, Ar264, qa264, Sa264, Ma264, Ha264, Ga264⟩ := id c263
  obtain ⟨_, _, ⟨T265, L265, k265, n265⟩, -, X265, ⟨Lc265, hQ265, l265, y265, z265⟩, st265⟩ := Jvm.LawKit.callS X262 hx (y := Y32) hown (mvT hZ (hw _ (tk 68 rfl))) (mvT hZ (hw _ (tk 69 rfl))) (mvT hZ (hw _ (tk 70 rfl))) (mvT hZ (hw _ (tk 71 rfl))) (by decide) (backOf (W := 4) (rm14 l Z a0 hw hv [] w_1 w_2 w_4 w_5 hS0 ((3 : Int32) - (0 : Int32)) (((0 : Int32) + ((3 : Int32) - (1 : Int32))) - (0 : Int32)) h262 n0 O262) hZ (hw _ (tk 71 rfl)) (hw _ (tk 70 rfl)) (by decide) (by decide)) (g := (mkF m 24 (lt22 r0 (0 : Int32) ((0 : Int32) + ((3 : Int32) - (1 : Int32))) (((0 : Int32) + ((3 : Int32) - (1 : Int32))) - (0 : Int32)) b262) [(.int (((0 : Int32) + ((3 : Int32) - (1 : Int32))) - (0 : Int32))), (.int ((3 : Int32) - (0 : Int32))), (.int (0 : Int32)), (.ref b262), (.int (0 : Int32)), (.ref r0)])) rfl (by rw [hml]; rfl) (argsL := [(.int ((3 : Int32) - (0 : Int32))), (.int (((0 : Int32) + ((3 : Int32) - (1 : Int32))) - (0 : Int32)))]) (rest := [(.int (0 : Int32)), (.ref b262), (.int (0 : Int32)), (.ref r0)]) (lenOf pd_10 rfl) rfl (by show 2 * 0 + _ ≤ _; exact Nat.le_of_eq rfl) (hb hby d12_24) (fun _ _ => ⟨rfl, e262, (by decide : 1 + 0 ≤ _), (by decide : 2 + 0 ≤ _)⟩)
  dsimp only [Pt.U, Pt.locs, Pt.cells, Pt.slots] at X265 l265 y265 z265 st265 hQ265
  subst l265 y265 z265
  obtain ⟨rv265, N265q, e265⟩ := hQ265
  rw [show sp14 ((3 : Int32) - (0 : Int32)) (((0 : Int32) + ((3 : Int32) - (1 : Int32))) - (0 : Int32)) = (((0 : Int32) + ((3 : Int32) - (1 : Int32))) - (0 : Int32)) from by unfold sp14; rw [if_pos (by decide : ((((0 : Int32) + ((3 : Int32) - (1 : Int32))) - (0 : Int32)) < ((3 : Int32) - (0 : Int32))))]] at rv265
  subst rv265
  have N265 := Fr.app N261 N265q
  obtain ⟨T266, h266, L266, X266, e266, N266, K266c, Va266, st266⟩ := cpA X265 hx hZ hown (hw _ (tk 72 rfl)) (hw _ (tk 75 rfl)) (hw _ (tk 73 rfl)) (hw _ (tk 74 rfl)) e265 c263 V_b262 (us := [(.int x_r0_0), (.int x_r0_1)]) (Or.inl ⟨rfl, rfl⟩) (sp := (0 : Int32)) (dp := (0 : Int32)) (nn := (((0 : Int32) + ((3 : Int32) - (1 : Int32))) - (0 : Int32))) (by decide) (by decide) (by decide) (by decide) (by decide) rfl (Nat.le_of_ble_eq_true rfl) N265 g_b262 (g := (mkF m 27 (lt22 r0 (0 : Int32) ((0 : Int32) + ((3 : Int32) - (1 : Int32))) (((0 : Int32) + ((3 : Int32) - (1 : Int32))) - (0 : Int32)) b262) [(.int (((0 : Int32) + ((3 : Int32) - (1 : Int32))) - (0 : Int32))), (.int (0 : Int32)), (.ref b262), (.int (0 : Int32)), (.ref r0)])) rfl (by rw [hml]; rfl) rfl (hb hby d12_27) (by decide) (W := 0) (by show 2 * 0 + _ ≤ _; exact Nat.le_of_eq rfl) (by decide)
  have O266 : Old Z n0 h266 := O262.keep K266c (allS g_b262 all0)
  have K266 : Keep h0 h266 [] := K262.trans K266c (allS (Or.inr sz_b262) all0)
  have Vb266 : Arv Z h266 b262 k262 .byte (((0 : Int32) + ((3 : Int32) - (1 : Int32))) - (0 : Int32)) [(.int x_r0_0), (.int x_r0_1)] (.int (0 : Int32)) := Va266
  obtain ⟨fs, hr, hrun, hended, hW, hsame⟩ := X266.leave (v := some (.ref b262)) (fun h => by rw [Bd.returns] at h; cases h)
  refine ⟨_, _, pre0 _ ?_, hrun, hended, _, _, rfl, ?_, ⟨_, rfl⟩, hW, hsame.mono (by decide) (by decide)⟩
  · show Sp p e below s₁ (mkF m 0 (lt19 r0 (0 : Int32) ((0 : Int32) + ((3 : Int32) - (1 : Int32)))) []) _
    refine XS.iloadN X0.here hx rfl (hb hby d12_0) rfl ?_
    refine XS.iloadN X0.here hx rfl (hb hby d12_1) rfl ?_
    show Sp p e below s₁ (mkF m 2 (lt19 r0 (0 : Int32) ((0 : Int32) + ((3 : Int32) - (1 : Int32)))) [(.int ((0 : Int32) + ((3 : Int32) - (1 : Int32)))), (.int (0 : Int32))]) _
    refine st261 _ ?_
    show Sp p e below T261 (mkF m 5 (lt19 r0 (0 : Int32) ((0 : Int32) + ((3 : Int32) - (1 : Int32)))) []) _
    refine XS.iloadN X261.here hx rfl (hb hby d12_5) rfl ?_
    refine XS.iloadN X261.here hx rfl (hb hby d12_6) rfl ?_
    show Sp p e below T261 (mkF m 7 (lt19 r0 (0 : Int32) ((0 : Int32) + ((3 : Int32) - (1 : Int32)))) [(.int (0 : Int32)), (.int ((0 : Int32) + ((3 : Int32) - (1 : Int32))))]) _
    refine XS.isub X261.here hx rfl (hb hby d12_7) rfl ?_
    refine XS.istoreN X261.here hx rfl (hb hby d12_8) rfl (l' := (lt21 r0 (0 : Int32) ((0 : Int32) + ((3 : Int32) - (1 : Int32))) (((0 : Int32) + ((3 : Int32) - (1 : Int32))) - (0 : Int32)))) rfl ?_
    show Sp p e below T261 (mkF m 9 (lt21 r0 (0 : Int32) ((0 : Int32) + ((3 : Int32) - (1 : Int32))) (((0 : Int32) + ((3 : Int32) - (1 : Int32))) - (0 : Int32))) []) _
    refine XS.iloadN X261.here hx rfl (hb hby d12_9) rfl ?_
    show Sp p e below T261 (mkF m 10 (lt21 r0 (0 : Int32) ((0 : Int32) + ((3 : Int32) - (1 : Int32))) (((0 : Int32) + ((3 : Int32) - (1 : Int32))) - (0 : Int32))) [(.int (((0 : Int32) + ((3 : Int32) - (1 : Int32))) - (0 : Int32)))]) _
    refine st262 _ ?_
    show Sp p e below T262 (mkF m 12 (lt21 r0 (0 : Int32) ((0 : Int32) + ((3 : Int32) - (1 : Int32))) (((0 : Int32) + ((3 : Int32) - (1 : Int32))) - (0 : Int32))) [(.ref b262)]) _
    refine XS.astore X262.here hx rfl (hb hby d12_12) rfl rfl (l' := (lt22 r0 (0 : Int32) ((0 : Int32) + ((3 : Int32) - (1 : Int32))) (((0 : Int32) + ((3 : Int32) - (1 : Int32))) - (0 : Int32)) b262)) rfl ?_
    refine XS.aloadN X262.here hx rfl (hb hby d12_14) rfl rfl ?_
    show Sp p e below T262 (mkF m 15 (lt22 r0 (0 : Int32) ((0 : Int32) + ((3 : Int32) - (1 : Int32))) (((0 : Int32) + ((3 : Int32) - (1 : Int32))) - (0 : Int32)) b262) [(.ref r0)]) _
    refine XS.iloadN X262.here hx rfl (hb hby d12_15) rfl ?_
    refine XS.aload X262.here hx rfl (hb hby d12_16) rfl rfl ?_
    show Sp p e below T262 (mkF m 18 (lt22 r0 (0 : Int32) ((0 : Int32) + ((3 : Int32) - (1 : Int32))) (((0 : Int32) + ((3 : Int32) - (1 : Int32))) - (0 : Int32)) b262) [(.ref b262), (.int (0 : Int32)), (.ref r0)]) _
    refine XS.iconst X262.here hx rfl (hb hby d12_18) ?_
    refine XS.aloadN X262.here hx rfl (hb hby d12_19) rfl rfl ?_
    show Sp p e below T262 (mkF m 20 (lt22 r0 (0 : Int32) ((0 : Int32) + ((3 : Int32) - (1 : Int32))) (((0 : Int32) + ((3 : Int32) - (1 : Int32))) - (0 : Int32)) b262) [(.ref r0), (.int (0 : Int32)), (.ref b262), (.int (0 : Int32)), (.ref r0)]) _
    refine X262.arraylength hx (by rw [e262]; exact Ar264.1) (State.isArrayOf_alike hZ.alike Ar264.2.1) (g := (mkF m 20 (lt22 r0 (0 : Int32) ((0 : Int32) + ((3 : Int32) - (1 : Int32))) (((0 : Int32) + ((3 : Int32) - (1 : Int32))) - (0 : Int32)) b262) [(.ref r0), (.int (0 : Int32)), (.ref b262), (.int (0 : Int32)), (.ref r0)])) rfl rfl (hb hby d12_20) _ ?_
    rw [len_of Sa264 Ma264]
    show Sp p e below T262 (mkF m 21 (lt22 r0 (0 : Int32) ((0 : Int32) + ((3 : Int32) - (1 : Int32))) (((0 : Int32) + ((3 : Int32) - (1 : Int32))) - (0 : Int32)) b262) [(.int (3 : Int32)), (.int (0 : Int32)), (.ref b262), (.int (0 : Int32)), (.ref r0)]) _
    refine XS.iloadN X262.here hx rfl (hb hby d12_21) rfl ?_
    refine XS.isub X262.here hx rfl (hb hby d12_22) rfl ?_
    show Sp p e below T262 (mkF m 23 (lt22 r0 (0 : Int32) ((0 : Int32) + ((3 : Int32) - (1 : Int32))) (((0 : Int32) + ((3 : Int32) - (1 : Int32))) - (0 : Int32)) b262) [(.int ((3 : Int32) - (0 : Int32))), (.int (0 : Int32)), (.ref b262), (.int (0 : Int32)), (.ref r0)]) _
    refine XS.iloadN X262.here hx rfl (hb hby d12_23) rfl ?_
    show Sp p e below T262 (mkF m 24 (lt22 r0 (0 : Int32) ((0 : Int32) + ((3 : Int32) - (1 : Int32))) (((0 : Int32) + ((3 : Int32) - (1 : Int32))) - (0 : Int32)) b262) [(.int (((0 : Int32) + ((3 : Int32) - (1 : Int32))) - (0 : Int32))), (.int ((3 : Int32) - (0 : Int32))), (.int (0 : Int32)), (.ref b262), (.int (0 : Int32)), (.ref r0)]) _
    refine st265 _ ?_
    show Sp p e below T265 (mkF m 27 (lt22 r0 (0 : Int32) ((0 : Int32) + ((3 : Int32) - (1 : Int32))) (((0 : Int32) + ((3 : Int32) - (1 : Int32))) - (0 : Int32)) b262) [(.int (((0 : Int32) + ((3 : Int32) - (1 : Int32))) - (0 : Int32))), (.int (0 : Int32)), (.ref b262), (.int (0 : Int32)), (.ref r0)]) _
    refine st266 _ ?_
    show Sp p e below T266 (mkF m 30 (lt22 r0 (0 : Int32) ((0 : Int32) + ((3 : Int32) - (1 : Int32))) (((0 : Int32) + ((3 : Int32) - (1 : Int32))) - (0 : Int32)) b262) []) _
    refine XS.aload X266.here hx rfl (hb hby d12_30) rfl rfl ?_
    show Sp p e below T266 (mkF m 32 (lt22 r0 (0 : Int32) ((0 : Int32) + ((3 : Int32) - (1 : Int32))) (((0 : Int32) + ((3 : Int32) - (1 : Int32))) - (0 : Int32)) b262) [(.ref b262)]) _
    jvm_step X266.here [X266.here.top, hx, (hb hby d12_32), X266.method', Bd.returns, Value.isRef, FieldType.isReference]
    first | (intro acts; rw [hr _ acts rfl rfl rfl]) | rw [hr _ _ rfl rfl rfl]
    exact Steps.refl _
  · show Q12x3 Z w_1 w_2 w_4 w_5 r0 k_r0 x_r0_0 x_r0_1 x_r0_2 h0 n0 _ T266.heap _
    rw [e266]
    exact ⟨b262, k262, rfl, N266, O266, K266, g_b262, sz_b262, Vb266⟩
theorem pn_11x3 : plainName "java/util/Arrays" = true := by first | (simp [plainName, overriddenIn]; done) | decide +kernel
theorem ef_11x3 (m : MethodId) (r0 : Addr) : entryFrame m #[(.ref r0), (.int (0 : Int32)), (.int ((0 : Int32) + ((3 : Int32) - (1 : Int32))))] 3 = mkF m 0 #[.val (.ref r0), .val (.int (0 : Int32)), .val (.int ((0 : Int32) + ((3 : Int32) - (1 : Int32))))] [] := by first | (simp [entryFrame, mkF, argsToLocals, Value.category]; done) | rfl
def Q11x3 (Z : State) (w_1 : Addr) (w_2 : Addr) (w_4 : Int32) (w_5 : Value) (r0 : Addr) (k_r0 : ClassId) (x_r0_0 : Int32) (x_r0_1 : Int32) (x_r0_2 : Int32) (h0 : Heap) (n0 : Nat) (v : Option Value) (h : Heap) (L : List Loc) : Prop := ∃ (b268 : Addr) (k269 : ClassId), v = some (.ref b268) ∧ Fr n0 L ∧ Old Z n0 h ∧ Keep h0 h [] ∧ n0 ≤ b268 ∧ h0.size ≤ b268 ∧ Arv Z h b268 k269 .byte (((0 : Int32) + ((3 : Int32) - (1 : Int32))) - (0 : Int32)) [(.int x_r0_0), (.int x_r0_1)] (.int (0 : Int32))
set_option maxRecDepth 65536 in
set_option maxHeartbeats 40000000 in
theorem rm11x3 (l : Launch) (Z : State) (a0 : Array Value) (hw : ∀ d ∈ tables_1, d.before a0 Z = true) (hv : ∀ d ∈ jdkStatics_1, d.before a0 Z = true) (ws : List Jvm.Cond) (w_1 : Addr) (w_2 : Addr) (w_4 : Int32) (w_5 : Value) (hS : StF Z w_1 w_2 w_4 w_5) (r0 : Addr) (k_r0 : ClassId) (x_r0_0 : Int32) (x_r0_1 : Int32) (x_r0_2 : Int32) (h0 : Heap) (n0 : Nat) (O0 : Old Z n0 h0) (g_r0 : n0 ≤ r0) (V_r0 : Arv Z h0 r0 k_r0 .byte (3 : Int32) [(.int x_r0_0), (.int x_r0_1), (.int x_r0_2)] (.int (0 : Int32))) :
    MetFree l Y34 (head1 (Jvm.Cond.code Y34 jdk_65_method_132_code 3 (some (.array .byte)) :: ws) ({ frames := 2, cells := 1, slots := 2, locals := 34 } : Room)) (fun a U => a = #[(.ref r0), (.int (0 : Int32)), (.int ((0 : Int32) + ((3 : Int32) - (1 : Int32))))] ∧ Z.Warmed39 U.vm ∧ U.heap = h0) (fun _ _ _ _ _ => True) (fun _ U o U' => ∃ v L, o = .returned v ∧ Q11x3 Z w_1 w_2 w_4 w_5 r0 k_r0 x_r0_0 x_r0_1 x_r0_2 h0 n0 v U'.heap L ∧ FrameEnd U o U' L ({ frames := 2, cells := 1, slots := 2, locals := 34 } : Room).cells ({ frames := 2, cells := 1, slots := 2, locals := 34 } : Room).slots) := by
  refine MetFree.of_bodySF (plainFor_of_name pn_11x3) hisR ?_
  intro p e s m args below meth c s₁ Bd hml0 hP hK
  obtain ⟨rfl, hZ, hh⟩ := hP
  have hx := Bd.exec
  have hby := Bd.bytes
  have hml : c.maxLocals = 3 := hml0
  have hown : s.vm.findClass "java/util/Arrays" = some m.cls := findClass_of_methodNamed Bd.named
  have hnm := (name_of_methodNamed Bd.named Bd.method).1
  have X0 : Stand p l e ({ frames := 2, cells := 1, slots := 2, locals := 34 } : Room) s m #[(.ref r0), (.int (0 : Int32)), (.int ((0 : Int32) + ((3 : Int32) - (1 : Int32))))] below meth c s₁ [] 0 0 := Stand.of_body Bd
  have e0 : s₁.heap = h0 := by rw [← hh, Bd.state]; rfl
  have N0 := Fr.nil n0
  have hS0 := hS
  obtain ⟨S_1, E_1, S_2, E_2, S_3, E_3, S_4, NE_4, S_5, IR_5⟩ := hS
  have pre0 : ∀ t, Steps p.tables e below (s₁.setTop (mkF m 0 #[.val (.ref r0), .val (.int (0 : Int32)), .val (.int ((0 : Int32) + ((3 : Int32) - (1 : Int32))))] [])) t → Steps p.tables e below (s₁.setTop (entryFrame m #[(.ref r0), (.int (0 : Int32)), (.int ((0 : Int32) + ((3 : Int32) - (1 : Int32))))] 3)) t := fun t k => castTop (ef_11x3 m r0) k
  generalize hE0 : s₁.setTop (entryFrame m #[(.ref r0), (.int (0 : Int32)), (.int ((0 : Int32) + ((3 : Int32) - (1 : Int32))))] 3) = E0 at pre0 ⊢
  obtain ⟨cl260, Ar260, qa260, Sa260, Ma260, Ha260, Ga260⟩ := id V_r0
  obtain ⟨_, _, ⟨T267, L267, k267, n267⟩, -, X267, ⟨Lc267, hQ267, l267, y267, z267⟩, st267⟩ := Jvm.LawKit.callS X0 hx (y := Y33) hown (mvT hZ (hw _ (tk 62 rfl))) (mvT hZ (hw _ (tk 63 rfl))) (mvT hZ (hw _ (tk 60 rfl))) (mvT hZ (hw _ (tk 64 rfl))) (by decide) (backOf (W := 0) (rm12x3 l Z a0 hw hv [] w_1 w_2 w_4 w_5 hS0 r0 k_r0 x_r0_0 x_r0_1 x_r0_2 h0 n0 O0 g_r0 V_r0) hZ (hw _ (tk 64 rfl)) (hw _ (tk 60 rfl)) (by decide) (by decide)) (g := (mkF m 13 (lt18 r0 (0 : Int32) ((0 : Int32) + ((3 : Int32) - (1 : Int32)))) [(.int ((0 : Int32) + ((3 : Int32) - (1 : Int32)))), (.int (0 : Int32)), (.ref r0)])) rfl (by rw [hml]; rfl) (argsL := [(.ref r0), (.int (0 : Int32)), (.int ((0 : Int32) + ((3 : Int32) - (1 : Int32))))]) (rest := []) (lenOf pd_11 rfl) rfl (by show 2 * 0 + _ ≤ _; exact Nat.le_of_eq rfl) (hb hby d11_13) (fun _ _ => ⟨rfl, e0, (by decide : 0 + 1 ≤ _), (by decide : 0 + 2 ≤ _)⟩)
  dsimp only [Pt.U, Pt.locs, Pt.cells, Pt.slots] at X267 l267 y267 z267 st267 hQ267
  subst l267 y267 z267
  obtain ⟨b268, k269, rv267, N267q, O267, K267c, Fx267_0, Fx267_1, Fx267_2⟩ := hQ267
  subst rv267
  have N267 := Fr.app N0 N267q
  have K267 : Keep h0 T267.heap [] := (Keep.refl h0 []).trans K267c all0
  have g_b268 := Fx267_0
  have sz_b268 : h0.size ≤ b268 := Nat.le_trans (Keep.refl h0 []).1 Fx267_1
  have ne_r0_b268 : r0 ≠ b268 := Nat.ne_of_lt (Nat.lt_of_lt_of_le V_r0.lt Fx267_1)
  obtain ⟨fs, hr, hrun, hended, hW, hsame⟩ := X267.leave (v := some (.ref b268)) (fun h => by rw [Bd.returns] at h; cases h)
  refine ⟨_, _, pre0 _ ?_, hrun, hended, _, _, rfl, ?_, ⟨_, rfl⟩, hW, hsame.mono (by decide) (by decide)⟩
  · show Sp p e below s₁ (mkF m 0 (lt18 r0 (0 : Int32) ((0 : Int32) + ((3 : Int32) - (1 : Int32)))) []) _
    refine XS.iloadN X0.here hx rfl (hb hby d11_0) rfl ?_
    show Sp p e below s₁ (mkF m 1 (lt18 r0 (0 : Int32) ((0 : Int32) + ((3 : Int32) - (1 : Int32)))) [(.int (0 : Int32))]) _
    refine XS.ifNo X0.here hx rfl (hb hby d11_1) rfl ((if0 _ _).trans (teq (by decide : ((0 : Int32) = (0 : Int32)))).2) ?_
    show Sp p e below s₁ (mkF m 4 (lt18 r0 (0 : Int32) ((0 : Int32) + ((3 : Int32) - (1 : Int32)))) []) _
    refine XS.iloadN X0.here hx rfl (hb hby d11_4) rfl ?_
    refine XS.aloadN X0.here hx rfl (hb hby d11_5) rfl rfl ?_
    show Sp p e below s₁ (mkF m 6 (lt18 r0 (0 : Int32) ((0 : Int32) + ((3 : Int32) - (1 : Int32)))) [(.ref r0), (.int ((0 : Int32) + ((3 : Int32) - (1 : Int32))))]) _
    refine X0.arraylength hx (by rw [e0]; exact Ar260.1) (State.isArrayOf_alike hZ.alike Ar260.2.1) (g := (mkF m 6 (lt18 r0 (0 : Int32) ((0 : Int32) + ((3 : Int32) - (1 : Int32)))) [(.ref r0), (.int ((0 : Int32) + ((3 : Int32) - (1 : Int32))))])) rfl rfl (hb hby d11_6) _ ?_
    rw [len_of Sa260 Ma260]
    show Sp p e below s₁ (mkF m 7 (lt18 r0 (0 : Int32) ((0 : Int32) + ((3 : Int32) - (1 : Int32)))) [(.int (3 : Int32)), (.int ((0 : Int32) + ((3 : Int32) - (1 : Int32))))]) _
    refine XS.icmpNo X0.here hx rfl (hb hby d11_7) rfl (feq (by decide : ¬ (((0 : Int32) + ((3 : Int32) - (1 : Int32))) = (3 : Int32)))).1 ?_
    show Sp p e below s₁ (mkF m 10 (lt18 r0 (0 : Int32) ((0 : Int32) + ((3 : Int32) - (1 : Int32)))) []) _
    refine XS.aloadN X0.here hx rfl (hb hby d11_10) rfl rfl ?_
    refine XS.iloadN X0.here hx rfl (hb hby d11_11) rfl ?_
    show Sp p e below s₁ (mkF m 12 (lt18 r0 (0 : Int32) ((0 : Int32) + ((3 : Int32) - (1 : Int32)))) [(.int (0 : Int32)), (.ref r0)]) _
    refine XS.iloadN X0.here hx rfl (hb hby d11_12) rfl ?_
    show Sp p e below s₁ (mkF m 13 (lt18 r0 (0 : Int32) ((0 : Int32) + ((3 : Int32) - (1 : Int32)))) [(.int ((0 : Int32) + ((3 : Int32) - (1 : Int32)))), (.int (0 : Int32)), (.ref r0)]) _
    refine st267 _ ?_
    show Sp p e below T267 (mkF m 16 (lt18 r0 (0 : Int32) ((0 : Int32) + ((3 : Int32) - (1 : Int32)))) [(.ref b268)]) _
    jvm_step X267.here [X267.here.top, hx, (hb hby d11_16), X267.method', Bd.returns, Value.isRef, FieldType.isReference]
    first | (intro acts; rw [hr _ acts rfl rfl rfl]) | rw [hr _ _ rfl rfl rfl]
    exact Steps.refl _
  · show Q11x3 Z w_1 w_2 w_4 w_5 r0 k_r0 x_r0_0 x_r0_1 x_r0_2 h0 n0 _ T267.heap _
    exact ⟨b268, k269, rfl, N267, O267, K267, g_b268, sz_b268, Fx267_2⟩
theorem pn_8x5 : plainName "java/lang/String" = true := by first | (simp [plainName, overriddenIn]; done) | decide +kernel
theorem ef_8x5 (m : MethodId) (r0 : Addr) (w_1 : Addr) (r2 : Addr) : entryFrame m #[(.ref r0), (.ref w_1), (.ref r2), (.int (0 : Int32)), (.int ((3 : Int32) - (1 : Int32)))] 11 = mkF m 0 #[.val (.ref r0), .val (.ref w_1), .val (.ref r2), .val (.int (0 : Int32)), .val (.int ((3 : Int32) - (1 : Int32))), .unset, .unset, .unset, .unset, .unset, .unset] [] := by first | (simp [entryFrame, mkF, argsToLocals, Value.category]; done) | rfl
def Q8x5 (Z : State) (w_1 : Addr) (w_2 : Addr) (w_4 : Int32) (w_5 : Value) (r0 : Addr) (r2 : Addr) (k_r2 : ClassId) (x_r2_0 : Int32) (x_r2_1 : Int32) (x_r2_2 : Int32) (h0 : Heap) (n0 : Nat) (v : Option Value) (h : Heap) (L : List Loc) : Prop := ∃ (b271 : Addr) (k272 : ClassId), v = none ∧ Fr n0 L ∧ Old Z n0 h ∧ Keep h0 h [r0] ∧ Fld Z h r0 "java/lang/String" "coder" "B" (.int (0 : Int32)) ∧ Fld Z h r0 "java/lang/String" "value" "[B" (.ref b271) ∧ n0 ≤ b271 ∧ h0.size ≤ b271 ∧ Arv Z h b271 k272 .byte (((0 : Int32) + ((3 : Int32) - (1 : Int32))) - (0 : Int32)) [(.int x_r2_0), (.int x_r2_1)] (.int (0 : Int32))
set_option maxRecDepth 65536 in
set_option maxHeartbeats 40000000 in
theorem rm8x5 (l : Launch) (Z : State) (a0 : Array Value) (hw : ∀ d ∈ tables_1, d.before a0 Z = true) (hv : ∀ d ∈ jdkStatics_1, d.before a0 Z = true) (ws : List Jvm.Cond) (w_1 : Addr) (w_2 : Addr) (w_4 : Int32) (w_5 : Value) (hS : StF Z w_1 w_2 w_4 w_5) (r0 : Addr) (r2 : Addr) (k_r2 : ClassId) (x_r2_0 : Int32) (x_r2_1 : Int32) (x_r2_2 : Int32) (h0 : Heap) (n0 : Nat) (O0 : Old Z n0 h0) (g_r0 : n0 ≤ r0) (g_r2 : n0 ≤ r2) (E_r0 : Exa Z h0 r0 "java/lang/String") (F_coder_r0 : Fld Z h0 r0 "java/lang/String" "coder" "B" (.int (0 : Int32))) (F_value_r0 : Fld Z h0 r0 "java/lang/String" "value" "[B" .null) (V_r2 : Arv Z h0 r2 k_r2 .byte (3 : Int32) [(.int x_r2_0), (.int x_r2_1), (.int x_r2_2)] (.int (0 : Int32))) (ne_r0_r2 : r0 ≠ r2) :
    MetFree l Y21 (head1 (Jvm.Cond.codeWith Y21 jdk_42_method_11_code 11 none [(800, 813, 816, 202)] :: ws) ({ frames := 3, cells := 1, slots := 2, locals := 49 } : Room)) (fun a U => a = #[(.ref r0), (.ref w_1), (.ref r2), (.int (0 : Int32)), (.int ((3 : Int32) - (1 : Int32)))] ∧ Z.Warmed39 U.vm ∧ U.heap = h0) (fun _ _ _ _ _ => True) (fun _ U o U' => ∃ v L, o = .returned v ∧ Q8x5 Z w_1 w_2 w_4 w_5 r0 r2 k_r2 x_r2_0 x_r2_1 x_r2_2 h0 n0 v U'.heap L ∧ FrameEnd U o U' L ({ frames := 3, cells := 1, slots := 2, locals := 49 } : Room).cells ({ frames := 3, cells := 1, slots := 2, locals := 49 } : Room).slots) := by
  refine MetFree.of_bodySF (plainFor_of_name pn_8x5) hisWith ?_
  intro p e s m args below meth c s₁ Bd hml0 hP hK
  obtain ⟨rfl, hZ, hh⟩ := hP
  have hx := Bd.exec
  have hby := Bd.bytes
  have hml : c.maxLocals = 11 := hml0
  have hown : s.vm.findClass "java/lang/String" = some m.cls := findClass_of_methodNamed Bd.named
  have hnm := (name_of_methodNamed Bd.named Bd.method).1
  have X0 : Stand p l e ({ frames := 3, cells := 1, slots := 2, locals := 49 } : Room) s m #[(.ref r0), (.ref w_1), (.ref r2), (.int (0 : Int32)), (.int ((3 : Int32) - (1 : Int32)))] below meth c s₁ [] 0 0 := Stand.of_body Bd
  have e0 : s₁.heap = h0 := by rw [← hh, Bd.state]; rfl
  have N0 := Fr.nil n0
  have hS0 := hS
  obtain ⟨S_1, E_1, S_2, E_2, S_3, E_3, S_4, NE_4, S_5, IR_5⟩ := hS
  have pre0 : ∀ t, Steps p.tables e below (s₁.setTop (mkF m 0 #[.val (.ref r0), .val (.ref w_1), .val (.ref r2), .val (.int (0 : Int32)), .val (.int ((3 : Int32) - (1 : Int32))), .unset, .unset, .unset, .unset, .unset, .unset] [])) t → Steps p.tables e below (s₁.setTop (entryFrame m #[(.ref r0), (.ref w_1), (.ref r2), (.int (0 : Int32)), (.int ((3 : Int32) - (1 : Int32)))] 11)) t := fun t k => castTop (ef_8x5 m r0 w_1 r2) k
  generalize hE0 : s₁.setTop (entryFrame m #[(.ref r0), (.ref w_1), (.ref r2), (.int (0 : Int32)), (.int ((3 : Int32) - (1 : Int32)))] 11) = E0 at pre0 ⊢
  obtain ⟨T256, X256, e256, st256⟩ := initO X0 hx hZ hown (hw _ (tk 38 rfl)) (hw _ (tk 39 rfl)) (hw _ (tk 40 rfl)) e0 (g := (mkF m 1 (lt16 r0 w_1 r2 (0 : Int32) ((3 : Int32) - (1 : Int32))) [(.ref r0)])) rfl (by rw [hml]; rfl) rfl (hb hby d8_1) (by decide) (W := 0) (by show 2 * 0 + _ ≤ _; exact Nat.le_of_eq rfl) (by decide)
  obtain ⟨T257, X257, e257, st257⟩ := getS2 X256 hx hZ hown (host := "") (Or.inl (hw _ (tk 53 rfl))) Via.refl e256 (S_2.ext O0.2) (g := (mkF m 31 (lt16 r0 w_1 r2 (0 : Int32) ((3 : Int32) - (1 : Int32))) [(.ref w_1)])) rfl (hb hby d8_31)
  obtain ⟨T258, X258, e258, st258⟩ := getS2 X257 hx hZ hown (host := "") (Or.inl (hw _ (tk 55 rfl))) Via.refl e257 (S_3.ext O0.2) (g := (mkF m 347 (lt16 r0 w_1 r2 (0 : Int32) ((3 : Int32) - (1 : Int32))) [(.ref w_1)])) rfl (hb hby d8_347)
  obtain ⟨T259, X259, e259, st259⟩ := getS2 X258 hx hZ hown (host := "") (Or.inl (hw _ (tk 57 rfl))) Via.refl e258 (S_4.ext O0.2) (g := (mkF m 353 (lt16 r0 w_1 r2 (0 : Int32) ((3 : Int32) - (1 : Int32))) [])) rfl (hb hby d8_353)
  obtain ⟨_, _, ⟨T270, L270, k270, n270⟩, -, X270, ⟨Lc270, hQ270, l270, y270, z270⟩, st270⟩ := Jvm.LawKit.callS X259 hx (y := Y34) hown (mvT hZ (hw _ (tk 58 rfl))) (mvT hZ (hw _ (tk 59 rfl))) (mvT hZ (hw _ (tk 60 rfl))) (mvT hZ (hw _ (tk 61 rfl))) (by decide) (backOf (W := 1) (rm11x3 l Z a0 hw hv [] w_1 w_2 w_4 w_5 hS0 r2 k_r2 x_r2_0 x_r2_1 x_r2_2 h0 n0 O0 g_r2 V_r2) hZ (hw _ (tk 61 rfl)) (hw _ (tk 60 rfl)) (by decide) (by decide)) (g := (mkF m 366 (lt16 r0 w_1 r2 (0 : Int32) ((3 : Int32) - (1 : Int32))) [(.int ((0 : Int32) + ((3 : Int32) - (1 : Int32)))), (.int (0 : Int32)), (.ref r2), (.ref r0)])) rfl (by rw [hml]; rfl) (argsL := [(.ref r2), (.int (0 : Int32)), (.int ((0 : Int32) + ((3 : Int32) - (1 : Int32))))]) (rest := [(.ref r0)]) (lenOf pd_11 rfl) rfl (by show 2 * 0 + _ ≤ _; exact Nat.le_of_eq rfl) (hb hby d8_366) (fun _ _ => ⟨rfl, e259, (by decide : 0 + 1 ≤ _), (by decide : 0 + 2 ≤ _)⟩)
  dsimp only [Pt.U, Pt.locs, Pt.cells, Pt.slots] at X270 l270 y270 z270 st270 hQ270
  subst l270 y270 z270
  obtain ⟨b271, k272, rv270, N270q, O270, K270c, Fx270_0, Fx270_1, Fx270_2⟩ := hQ270
  subst rv270
  have N270 := Fr.app N0 N270q
  have K270 : Keep h0 T270.heap [r0] := (Keep.refl h0 [r0]).trans K270c all0
  have g_b271 := Fx270_0
  have sz_b271 : h0.size ≤ b271 := Nat.le_trans (Keep.refl h0 [r0]).1 Fx270_1
  have ne_r0_b271 : r0 ≠ b271 := Nat.ne_of_lt (Nat.lt_of_lt_of_le E_r0.lt Fx270_1)
  have ne_r2_b271 : r2 ≠ b271 := Nat.ne_of_lt (Nat.lt_of_lt_of_le V_r2.lt Fx270_1)
  have c273 := (E_r0.keep K270c)
  have c274 := (F_value_r0.keep K270c nin0)
  obtain ⟨T275, h275, X275, e275, W275, st275⟩ := putF X270 hx hZ hown (host := "") (Or.inl (hw _ (tk 46 rfl))) Via.refl rfl c274 c273 (Or.inr ⟨(hw _ (tk 42 rfl)), rfl, hnm⟩) (hw _ (tk 13 rfl)) (ty := (.array .byte)) (by decide) rfl rfl (g := (mkF m 369 (lt16 r0 w_1 r2 (0 : Int32) ((3 : Int32) - (1 : Int32))) [(.ref b271), (.ref r0)])) rfl rfl (hb hby d8_369)
  have Fw275 := c274.same W275
  have O275 : Old Z n0 h275 := O270.wr W275 g_r0
  have N275 := Fr.snoc X275 N270 g_r0
  have K275 : Keep h0 h275 [r0] := K270.wr W275 (Or.inl (List.mem_of_getElem? (i := 0) rfl))
  have c276 := (c273.wr W275)
  have c277 := ((F_coder_r0.keep K270c nin0).other W275 (Or.inr (slot_ne (Or.inr (hw _ (tk 43 rfl))) (Or.inr (hw _ (tk 42 rfl))) (by decide) (t := .byte) (t' := (.array .byte)) (by decide) (by decide))))
  obtain ⟨T278, h278, X278, e278, W278, st278⟩ := putFN X275 hx hZ hown (hw _ (tk 47 rfl)) Via.refl e275 c277 c276 (Or.inr ⟨(hw _ (tk 43 rfl)), rfl, hnm⟩) (hw _ (tk 13 rfl)) (ty := .byte) (v' := (.int (0 : Int32))) (by decide) rfl (by decide) (g := (mkF m 374 (lt16 r0 w_1 r2 (0 : Int32) ((3 : Int32) - (1 : Int32))) [(.int (0 : Int32)), (.ref r0)])) rfl rfl (hb hby d8_374)
  have Fw278 := c277.same W278
  have O278 : Old Z n0 h278 := O275.wr W278 g_r0
  have N278 := Fr.snoc X278 N275 g_r0
  have K278 : Keep h0 h278 [r0] := K275.wr W278 (Or.inl (List.mem_of_getElem? (i := 0) rfl))
  obtain ⟨fs, hr, hrun, hended, hW, hsame⟩ := X278.leave (v := none) (fun _ => rfl)
  have c279 := ((Fx270_2.other W275 (Ne.symm ne_r0_b271)).other W278 (Ne.symm ne_r0_b271))
  have c280 := (Fw275.other W278 (Or.inr (slot_ne (Or.inr (hw _ (tk 42 rfl))) (Or.inr (hw _ (tk 43 rfl))) (by decide) (t := (.array .byte)) (t' := .byte) (by decide) (by decide))))
  refine ⟨_, _, pre0 _ ?_, hrun, hended, _, _, rfl, ?_, ⟨_, rfl⟩, hW, hsame.mono (by decide) (by decide)⟩
  · show Sp p e below s₁ (mkF m 0 (lt16 r0 w_1 r2 (0 : Int32) ((3 : Int32) - (1 : Int32))) []) _
    refine XS.aloadN X0.here hx rfl (hb hby d8_0) rfl rfl ?_
    show Sp p e below s₁ (mkF m 1 (lt16 r0 w_1 r2 (0 : Int32) ((3 : Int32) - (1 : Int32))) [(.ref r0)]) _
    refine st256 _ ?_
    show Sp p e below T256 (mkF m 4 (lt16 r0 w_1 r2 (0 : Int32) ((3 : Int32) - (1 : Int32))) []) _
    refine XS.iload X256.here hx rfl (hb hby d8_4) rfl ?_
    show Sp p e below T256 (mkF m 6 (lt16 r0 w_1 r2 (0 : Int32) ((3 : Int32) - (1 : Int32))) [(.int ((3 : Int32) - (1 : Int32)))]) _
    refine XS.ifYes X256.here hx rfl (pc0 := 6) (pc' := 30) rfl (hb hby d8_6) rfl ((if0 _ _).trans (feq (by decide : ¬ (((3 : Int32) - (1 : Int32)) = (0 : Int32)))).2) (by decide) (by decide) ?_
    show Sp p e below T256 (mkF m 30 (lt16 r0 w_1 r2 (0 : Int32) ((3 : Int32) - (1 : Int32))) []) _
    refine XS.aloadN X256.here hx rfl (hb hby d8_30) rfl rfl ?_
    show Sp p e below T256 (mkF m 31 (lt16 r0 w_1 r2 (0 : Int32) ((3 : Int32) - (1 : Int32))) [(.ref w_1)]) _
    refine st257 _ ?_
    show Sp p e below T257 (mkF m 34 (lt16 r0 w_1 r2 (0 : Int32) ((3 : Int32) - (1 : Int32))) [(.ref w_2), (.ref w_1)]) _
    refine Jvm.RoadKit.acmp (g := (mkF m 34 (lt16 r0 w_1 r2 (0 : Int32) ((3 : Int32) - (1 : Int32))) [(.ref w_2), (.ref w_1)])) X257 hx rfl rfl rfl (pc0 := 34) (pc' := 346) (same := false) rfl (hb hby d8_34) rfl (decide_eq_false fun q => (ne_exa E_1 E_2 (by decide)) (Value.ref.inj q)) (by decide) (by decide) ?_
    show Sp p e below T257 (mkF m 346 (lt16 r0 w_1 r2 (0 : Int32) ((3 : Int32) - (1 : Int32))) []) _
    refine XS.aloadN X257.here hx rfl (hb hby d8_346) rfl rfl ?_
    show Sp p e below T257 (mkF m 347 (lt16 r0 w_1 r2 (0 : Int32) ((3 : Int32) - (1 : Int32))) [(.ref w_1)]) _
    refine st258 _ ?_
    show Sp p e below T258 (mkF m 350 (lt16 r0 w_1 r2 (0 : Int32) ((3 : Int32) - (1 : Int32))) [(.ref w_1), (.ref w_1)]) _
    refine Jvm.RoadKit.acmp (g := (mkF m 350 (lt16 r0 w_1 r2 (0 : Int32) ((3 : Int32) - (1 : Int32))) [(.ref w_1), (.ref w_1)])) X258 hx rfl rfl rfl (pc0 := 350) (pc' := 353) (same := true) rfl (hb hby d8_350) rfl (decide_eq_true (congrArg Value.ref rfl)) (by decide) (by decide) ?_
    show Sp p e below T258 (mkF m 353 (lt16 r0 w_1 r2 (0 : Int32) ((3 : Int32) - (1 : Int32))) []) _
    refine st259 _ ?_
    show Sp p e below T259 (mkF m 356 (lt16 r0 w_1 r2 (0 : Int32) ((3 : Int32) - (1 : Int32))) [(.int w_4)]) _
    refine XS.ifNo X259.here hx rfl (hb hby d8_356) rfl ((if0 _ _).trans (feq NE_4).1) ?_
    show Sp p e below T259 (mkF m 359 (lt16 r0 w_1 r2 (0 : Int32) ((3 : Int32) - (1 : Int32))) []) _
    refine XS.aloadN X259.here hx rfl (hb hby d8_359) rfl rfl ?_
    refine XS.aloadN X259.here hx rfl (hb hby d8_360) rfl rfl ?_
    show Sp p e below T259 (mkF m 361 (lt16 r0 w_1 r2 (0 : Int32) ((3 : Int32) - (1 : Int32))) [(.ref r2), (.ref r0)]) _
    refine XS.iloadN X259.here hx rfl (hb hby d8_361) rfl ?_
    refine XS.iloadN X259.here hx rfl (hb hby d8_362) rfl ?_
    show Sp p e below T259 (mkF m 363 (lt16 r0 w_1 r2 (0 : Int32) ((3 : Int32) - (1 : Int32))) [(.int (0 : Int32)), (.int (0 : Int32)), (.ref r2), (.ref r0)]) _
    refine XS.iload X259.here hx rfl (hb hby d8_363) rfl ?_
    refine XS.iadd X259.here hx rfl (hb hby d8_365) rfl ?_
    show Sp p e below T259 (mkF m 366 (lt16 r0 w_1 r2 (0 : Int32) ((3 : Int32) - (1 : Int32))) [(.int ((0 : Int32) + ((3 : Int32) - (1 : Int32)))), (.int (0 : Int32)), (.ref r2), (.ref r0)]) _
    refine st270 _ ?_
    show Sp p e below T270 (mkF m 369 (lt16 r0 w_1 r2 (0 : Int32) ((3 : Int32) - (1 : Int32))) [(.ref b271), (.ref r0)]) _
    refine st275 _ ?_
    show Sp p e below T275 (mkF m 372 (lt16 r0 w_1 r2 (0 : Int32) ((3 : Int32) - (1 : Int32))) []) _
    refine XS.aloadN X275.here hx rfl (hb hby d8_372) rfl rfl ?_
    refine XS.iconst X275.here hx rfl (hb hby d8_373) ?_
    show Sp p e below T275 (mkF m 374 (lt16 r0 w_1 r2 (0 : Int32) ((3 : Int32) - (1 : Int32))) [(.int (0 : Int32)), (.ref r0)]) _
    refine st278 _ ?_
    show Sp p e below T278 (mkF m 377 (lt16 r0 w_1 r2 (0 : Int32) ((3 : Int32) - (1 : Int32))) []) _
    refine XS.goto X278.here hx rfl (pc0 := 377) (pc' := 879) rfl (hb hby d8_377) (by decide) (by decide) ?_
    show Sp p e below T278 (mkF m 879 (lt16 r0 w_1 r2 (0 : Int32) ((3 : Int32) - (1 : Int32))) []) _
    exact X278.returnOut hx Bd.returns (hb hby d8_879) hr
  · show Q8x5 Z w_1 w_2 w_4 w_5 r0 r2 k_r2 x_r2_0 x_r2_1 x_r2_2 h0 n0 _ T278.heap _
    rw [e278]
    exact ⟨b271, k272, rfl, N278, O278, K278, Fw278, c280, g_b271, sz_b271, c279⟩
theorem pn_4x5 : plainName "java/lang/String" = true := by first | (simp [plainName, overriddenIn]; done) | decide +kernel
theorem ef_4x5 (m : MethodId) (r0 : Addr) (r1 : Addr) (w_1 : Addr) : entryFrame m #[(.ref r0), (.ref r1), (.int (0 : Int32)), (.int ((3 : Int32) - (1 : Int32))), (.ref w_1)] 5 = mkF m 0 #[.val (.ref r0), .val (.ref r1), .val (.int (0 : Int32)), .val (.int ((3 : Int32) - (1 : Int32))), .val (.ref w_1)] [] := by first | (simp [entryFrame, mkF, argsToLocals, Value.category]; done) | rfl
def Q4x5 (Z : State) (w_1 : Addr) (w_2 : Addr) (w_4 : Int32) (w_5 : Value) (r0 : Addr) (r1 : Addr) (k_r1 : ClassId) (x_r1_0 : Int32) (x_r1_1 : Int32) (x_r1_2 : Int32) (h0 : Heap) (n0 : Nat) (v : Option Value) (h : Heap) (L : List Loc) : Prop := ∃ (b282 : Addr) (k283 : ClassId), v = none ∧ Fr n0 L ∧ Old Z n0 h ∧ Keep h0 h [r0] ∧ Fld Z h r0 "java/lang/String" "coder" "B" (.int (0 : Int32)) ∧ Fld Z h r0 "java/lang/String" "value" "[B" (.ref b282) ∧ n0 ≤ b282 ∧ h0.size ≤ b282 ∧ Arv Z h b282 k283 .byte (((0 : Int32) + ((3 : Int32) - (1 : Int32))) - (0 : Int32)) [(.int x_r1_0), (.int x_r1_1)] (.int (0 : Int32))
set_option maxRecDepth 65536 in
set_option maxHeartbeats 40000000 in
theorem rm4x5 (l : Launch) (Z : State) (a0 : Array Value) (hw : ∀ d ∈ tables_1, d.before a0 Z = true) (hv : ∀ d ∈ jdkStatics_1, d.before a0 Z = true) (ws : List Jvm.Cond) (w_1 : Addr) (w_2 : Addr) (w_4 : Int32) (w_5 : Value) (hS : StF Z w_1 w_2 w_4 w_5) (r0 : Addr) (r1 : Addr) (k_r1 : ClassId) (x_r1_0 : Int32) (x_r1_1 : Int32) (x_r1_2 : Int32) (h0 : Heap) (n0 : Nat) (O0 : Old Z n0 h0) (g_r0 : n0 ≤ r0) (g_r1 : n0 ≤ r1) (E_r0 : Exa Z h0 r0 "java/lang/String") (F_coder_r0 : Fld Z h0 r0 "java/lang/String" "coder" "B" (.int (0 : Int32))) (F_value_r0 : Fld Z h0 r0 "java/lang/String" "value" "[B" .null) (V_r1 : Arv Z h0 r1 k_r1 .byte (3 : Int32) [(.int x_r1_0), (.int x_r1_1), (.int x_r1_2)] (.int (0 : Int32))) (ne_r0_r1 : r0 ≠ r1) :
    MetFree l Y22 (head1 (Jvm.Cond.code Y22 jdk_42_method_10_code 5 none :: ws) ({ frames := 4, cells := 1, slots := 2, locals := 71 } : Room)) (fun a U => a = #[(.ref r0), (.ref r1), (.int (0 : Int32)), (.int ((3 : Int32) - (1 : Int32))), (.ref w_1)] ∧ Z.Warmed39 U.vm ∧ U.heap = h0) (fun _ _ _ _ _ => True) (fun _ U o U' => ∃ v L, o = .returned v ∧ Q4x5 Z w_1 w_2 w_4 w_5 r0 r1 k_r1 x_r1_0 x_r1_1 x_r1_2 h0 n0 v U'.heap L ∧ FrameEnd U o U' L ({ frames := 4, cells := 1, slots := 2, locals := 71 } : Room).cells ({ frames := 4, cells := 1, slots := 2, locals := 71 } : Room).slots) := by
  refine MetFree.of_bodySF (plainFor_of_name pn_4x5) hisR ?_
  intro p e s m args below meth c s₁ Bd hml0 hP hK
  obtain ⟨rfl, hZ, hh⟩ := hP
  have hx := Bd.exec
  have hby := Bd.bytes
  have hml : c.maxLocals = 5 := hml0
  have hown : s.vm.findClass "java/lang/String" = some m.cls := findClass_of_methodNamed Bd.named
  have hnm := (name_of_methodNamed Bd.named Bd.method).1
  have X0 : Stand p l e ({ frames := 4, cells := 1, slots := 2, locals := 71 } : Room) s m #[(.ref r0), (.ref r1), (.int (0 : Int32)), (.int ((3 : Int32) - (1 : Int32))), (.ref w_1)] below meth c s₁ [] 0 0 := Stand.of_body Bd
  have e0 : s₁.heap = h0 := by rw [← hh, Bd.state]; rfl
  have N0 := Fr.nil n0
  have hS0 := hS
  obtain ⟨S_1, E_1, S_2, E_2, S_3, E_3, S_4, NE_4, S_5, IR_5⟩ := hS
  have pre0 : ∀ t, Steps p.tables e below (s₁.setTop (mkF m 0 #[.val (.ref r0), .val (.ref r1), .val (.int (0 : Int32)), .val (.int ((3 : Int32) - (1 : Int32))), .val (.ref w_1)] [])) t → Steps p.tables e below (s₁.setTop (entryFrame m #[(.ref r0), (.ref r1), (.int (0 : Int32)), (.int ((3 : Int32) - (1 : Int32))), (.ref w_1)] 5)) t := fun t k => castTop (ef_4x5 m r0 r1 w_1) k
  generalize hE0 : s₁.setTop (entryFrame m #[(.ref r0), (.ref r1), (.int (0 : Int32)), (.int ((3 : Int32) - (1 : Int32))), (.ref w_1)] 5) = E0 at pre0 ⊢
  obtain ⟨_, _, ⟨T250, L250, k250, n250⟩, -, X250, ⟨Lc250, hQ250, l250, y250, z250⟩, st250⟩ := Jvm.LawKit.callS X0 hx (y := Y16) hown (mvT hZ (hw _ (tk 20 rfl))) (mvT hZ (hw _ (tk 21 rfl))) (mvT hZ (hw _ (tk 22 rfl))) (mvT hZ (hw _ (tk 23 rfl))) (by decide) (backOf (W := 1) (rm5x1 l Z a0 hw hv [] w_1 w_2 w_4 w_5 hS0 h0 n0 O0) hZ (hw _ (tk 23 rfl)) (hw _ (tk 22 rfl)) (by decide) (by decide)) (g := (mkF m 3 (lt14 r0 r1 (0 : Int32) ((3 : Int32) - (1 : Int32)) w_1) [(.ref w_1), (.ref r0)])) rfl (by rw [hml]; rfl) (argsL := [(.ref w_1)]) (rest := [(.ref r0)]) (lenOf pd_2 rfl) rfl (by show 2 * 0 + _ ≤ _; exact Nat.le_of_eq rfl) (hb hby d4_3) (fun _ _ => ⟨rfl, e0, (by decide : 0 + 0 ≤ _), (by decide : 0 + 0 ≤ _)⟩)
  dsimp only [Pt.U, Pt.locs, Pt.cells, Pt.slots] at X250 l250 y250 z250 st250 hQ250
  subst l250 y250 z250
  obtain ⟨rv250, N250q, e250⟩ := hQ250
  subst rv250
  have N250 := Fr.app N0 N250q
  obtain ⟨T251, X251, e251, st251⟩ := castY X250 hx hZ hown (hw _ (tk 24 rfl)) e250 (Ins.of_exa (E_1.ext O0.2) (hw _ (tk 25 rfl))) (g := (mkF m 6 (lt14 r0 r1 (0 : Int32) ((3 : Int32) - (1 : Int32)) w_1) [(.ref w_1), (.ref r0)])) rfl rfl (hb hby d4_6)
  obtain ⟨cl252, Ar252, qa252, Sa252, Ma252, Ha252, Ga252⟩ := id V_r1
  obtain ⟨_, _, ⟨T255, L255, k255, n255⟩, -, X255, ⟨Lc255, hQ255, l255, y255, z255⟩, st255⟩ := Jvm.LawKit.callS X251 hx (y := Y19) hown (mvT hZ (hw _ (tk 26 rfl))) (mvT hZ (hw _ (tk 27 rfl))) (mvT hZ (hw _ (tk 14 rfl))) (mvT hZ (hw _ (tk 28 rfl))) (by decide) (backOf (W := 3) (rm6x5 l Z a0 hw hv [] w_1 w_2 w_4 w_5 hS0 h0 n0 O0) hZ (hw _ (tk 28 rfl)) (hw _ (tk 14 rfl)) (by decide) (by decide)) (g := (mkF m 14 (lt14 r0 r1 (0 : Int32) ((3 : Int32) - (1 : Int32)) w_1) [(.int (3 : Int32)), (.int ((3 : Int32) - (1 : Int32))), (.int (0 : Int32)), (.ref r1), (.ref w_1), (.ref r0)])) rfl (by rw [hml]; rfl) (argsL := [(.int (0 : Int32)), (.int ((3 : Int32) - (1 : Int32))), (.int (3 : Int32))]) (rest := [(.ref r1), (.ref w_1), (.ref r0)]) (lenOf pd_4 rfl) rfl (by show 2 * 0 + _ ≤ _; exact Nat.le_of_eq rfl) (hb hby d4_14) (fun _ _ => ⟨rfl, e251, (by decide : 0 + 0 ≤ _), (by decide : 0 + 0 ≤ _)⟩)
  dsimp only [Pt.U, Pt.locs, Pt.cells, Pt.slots] at X255 l255 y255 z255 st255 hQ255
  subst l255 y255 z255
  obtain ⟨rv255, N255q, e255⟩ := hQ255
  subst rv255
  have N255 := Fr.app N250 N255q
  obtain ⟨_, _, ⟨T281, L281, k281, n281⟩, -, X281, ⟨Lc281, hQ281, l281, y281, z281⟩, st281⟩ := X255.specialBackH hx (y := Y21) rfl hown (mvT hZ (hw _ (tk 34 rfl))) (mvT hZ (hw _ (tk 35 rfl))) (mvT hZ (hw _ (tk 37 rfl))) (by decide) (backOfWith (W := 0) (rm8x5 l Z a0 hw hv [] w_1 w_2 w_4 w_5 hS0 r0 r1 k_r1 x_r1_0 x_r1_1 x_r1_2 h0 n0 O0 g_r0 g_r1 E_r0 F_coder_r0 F_value_r0 V_r1 ne_r0_r1) hZ (hw _ (tk 37 rfl)) (hw _ (tk 14 rfl)) (by decide) (by decide)) (g := (mkF m 18 (lt14 r0 r1 (0 : Int32) ((3 : Int32) - (1 : Int32)) w_1) [(.int ((3 : Int32) - (1 : Int32))), (.int (0 : Int32)), (.ref r1), (.ref w_1), (.ref r0)])) rfl (by rw [hml]; rfl) (Steps.refl _) (a := r0) (argsL := [(.ref w_1), (.ref r1), (.int (0 : Int32)), (.int ((3 : Int32) - (1 : Int32)))]) (rest := []) (lenOf pd_5 rfl) rfl (by show 2 * 0 + _ ≤ _; exact Nat.le_of_eq rfl) (hb hby d4_18) (fun _ _ => ⟨rfl, e255, (by decide : 0 + 1 ≤ _), (by decide : 0 + 2 ≤ _)⟩)
  dsimp only [Pt.U, Pt.locs, Pt.cells, Pt.slots] at X281 l281 y281 z281 st281 hQ281
  subst l281 y281 z281
  obtain ⟨b282, k283, rv281, N281q, O281, K281c, Fe281_0, Fe281_1, Fx281_0, Fx281_1, Fx281_2⟩ := hQ281
  subst rv281
  have N281 := Fr.app N255 N281q
  have K281 : Keep h0 T281.heap [r0] := (Keep.refl h0 [r0]).trans K281c (allS (Or.inl (List.mem_of_getElem? (i := 0) rfl)) all0)
  have g_b282 := Fx281_0
  have sz_b282 : h0.size ≤ b282 := Nat.le_trans (Keep.refl h0 [r0]).1 Fx281_1
  have ne_r0_b282 : r0 ≠ b282 := Nat.ne_of_lt (Nat.lt_of_lt_of_le E_r0.lt Fx281_1)
  have ne_r1_b282 : r1 ≠ b282 := Nat.ne_of_lt (Nat.lt_of_lt_of_le V_r1.lt Fx281_1)
  obtain ⟨fs, hr, hrun, hended, hW, hsame⟩ := X281.leave (v := none) (fun _ => rfl)
  refine ⟨_, _, pre0 _ ?_, hrun, hended, _, _, rfl, ?_, ⟨_, rfl⟩, hW, hsame.mono (by decide) (by decide)⟩
  · show Sp p e below s₁ (mkF m 0 (lt14 r0 r1 (0 : Int32) ((3 : Int32) - (1 : Int32)) w_1) []) _
    refine XS.aloadN X0.here hx rfl (hb hby d4_0) rfl rfl ?_
    refine XS.aload X0.here hx rfl (hb hby d4_1) rfl rfl ?_
    show Sp p e below s₁ (mkF m 3 (lt14 r0 r1 (0 : Int32) ((3 : Int32) - (1 : Int32)) w_1) [(.ref w_1), (.ref r0)]) _
    refine st250 _ ?_
    show Sp p e below T250 (mkF m 6 (lt14 r0 r1 (0 : Int32) ((3 : Int32) - (1 : Int32)) w_1) [(.ref w_1), (.ref r0)]) _
    refine st251 _ ?_
    show Sp p e below T251 (mkF m 9 (lt14 r0 r1 (0 : Int32) ((3 : Int32) - (1 : Int32)) w_1) [(.ref w_1), (.ref r0)]) _
    refine XS.aloadN X251.here hx rfl (hb hby d4_9) rfl rfl ?_
    refine XS.iloadN X251.here hx rfl (hb hby d4_10) rfl ?_
    show Sp p e below T251 (mkF m 11 (lt14 r0 r1 (0 : Int32) ((3 : Int32) - (1 : Int32)) w_1) [(.int (0 : Int32)), (.ref r1), (.ref w_1), (.ref r0)]) _
    refine XS.iloadN X251.here hx rfl (hb hby d4_11) rfl ?_
    refine XS.aloadN X251.here hx rfl (hb hby d4_12) rfl rfl ?_
    show Sp p e below T251 (mkF m 13 (lt14 r0 r1 (0 : Int32) ((3 : Int32) - (1 : Int32)) w_1) [(.ref r1), (.int ((3 : Int32) - (1 : Int32))), (.int (0 : Int32)), (.ref r1), (.ref w_1), (.ref r0)]) _
    refine X251.arraylength hx (by rw [e251]; exact Ar252.1) (State.isArrayOf_alike hZ.alike Ar252.2.1) (g := (mkF m 13 (lt14 r0 r1 (0 : Int32) ((3 : Int32) - (1 : Int32)) w_1) [(.ref r1), (.int ((3 : Int32) - (1 : Int32))), (.int (0 : Int32)), (.ref r1), (.ref w_1), (.ref r0)])) rfl rfl (hb hby d4_13) _ ?_
    rw [len_of Sa252 Ma252]
    show Sp p e below T251 (mkF m 14 (lt14 r0 r1 (0 : Int32) ((3 : Int32) - (1 : Int32)) w_1) [(.int (3 : Int32)), (.int ((3 : Int32) - (1 : Int32))), (.int (0 : Int32)), (.ref r1), (.ref w_1), (.ref r0)]) _
    refine st255 _ ?_
    show Sp p e below T255 (mkF m 17 (lt14 r0 r1 (0 : Int32) ((3 : Int32) - (1 : Int32)) w_1) [(.int (0 : Int32)), (.ref r1), (.ref w_1), (.ref r0)]) _
    refine XS.iloadN X255.here hx rfl (hb hby d4_17) rfl ?_
    show Sp p e below T255 (mkF m 18 (lt14 r0 r1 (0 : Int32) ((3 : Int32) - (1 : Int32)) w_1) [(.int ((3 : Int32) - (1 : Int32))), (.int (0 : Int32)), (.ref r1), (.ref w_1), (.ref r0)]) _
    refine st281.trans ?_
    show Sp p e below T281 (mkF m 21 (lt14 r0 r1 (0 : Int32) ((3 : Int32) - (1 : Int32)) w_1) []) _
    exact X281.returnOut hx Bd.returns (hb hby d4_21) hr
  · show Q4x5 Z w_1 w_2 w_4 w_5 r0 r1 k_r1 x_r1_0 x_r1_1 x_r1_2 h0 n0 _ T281.heap _
    exact ⟨b282, k283, rfl, N281, O281, K281, Fe281_0, Fe281_1, g_b282, sz_b282, Fx281_2⟩
theorem pn_3x5 : plainName "com/example/bristlecone/bristlecone/io/HttpLine" = true := by first | (simp [plainName, overriddenIn]; done) | decide +kernel
theorem ef_3x5 (m : MethodId) (r0 : Addr) : entryFrame m #[(.ref r0)] 2 = mkF m 0 #[.val (.ref r0), .unset] [] := by first | (simp [entryFrame, mkF, argsToLocals, Value.category]; done) | rfl
def Q3x5 (Z : State) (w_1 : Addr) (w_2 : Addr) (w_4 : Int32) (w_5 : Value) (r0 : Addr) (k_r0 : ClassId) (x_r0_0 : Int32) (x_r0_1 : Int32) (x_r0_2 : Int32) (h0 : Heap) (n0 : Nat) (v : Option Value) (h : Heap) (L : List Loc) : Prop := ∃ (b248 : Addr) (b286 : Addr) (k287 : ClassId), v = some (.ref b248) ∧ Fr n0 L ∧ Old Z n0 h ∧ Keep h0 h [] ∧ n0 ≤ b248 ∧ h0.size ≤ b248 ∧ Exa Z h b248 "java/lang/String" ∧ Fld Z h b248 "java/lang/String" "value" "[B" (.ref b286) ∧ Fld Z h b248 "java/lang/String" "coder" "B" (.int (0 : Int32)) ∧ n0 ≤ b286 ∧ h0.size ≤ b286 ∧ Arv Z h b286 k287 .byte (((0 : Int32) + ((3 : Int32) - (1 : Int32))) - (0 : Int32)) [(.int x_r0_0), (.int x_r0_1)] (.int (0 : Int32)) ∧ b248 ≠ b286
set_option maxRecDepth 65536 in
set_option maxHeartbeats 40000000 in
theorem rm3x5 (l : Launch) (Z : State) (a0 : Array Value) (hw : ∀ d ∈ tables_1, d.before a0 Z = true) (hv : ∀ d ∈ jdkStatics_1, d.before a0 Z = true) (ws : List Jvm.Cond) (w_1 : Addr) (w_2 : Addr) (w_4 : Int32) (w_5 : Value) (hS : StF Z w_1 w_2 w_4 w_5) (r0 : Addr) (k_r0 : ClassId) (x_r0_0 : Int32) (x_r0_1 : Int32) (x_r0_2 : Int32) (h0 : Heap) (n0 : Nat) (O0 : Old Z n0 h0) (g_r0 : n0 ≤ r0) (V_r0 : Arv Z h0 r0 k_r0 .byte (3 : Int32) [(.int x_r0_0), (.int x_r0_1), (.int x_r0_2)] (.int (0 : Int32))) (as0 : ¬ (x_r0_1 = (13 : Int32))) :
    MetFree l Y23 (head1 (Jvm.Cond.code Y23 prog_8_method_4_code 2 (some (.object "java/lang/String")) :: ws) ({ frames := 5, cells := 2, slots := 6, locals := 88 } : Room)) (fun a U => a = #[(.ref r0)] ∧ Z.Warmed39 U.vm ∧ U.heap = h0) (fun _ _ _ _ _ => True) (fun _ U o U' => ∃ v L, o = .returned v ∧ Q3x5 Z w_1 w_2 w_4 w_5 r0 k_r0 x_r0_0 x_r0_1 x_r0_2 h0 n0 v U'.heap L ∧ FrameEnd U o U' L ({ frames := 5, cells := 2, slots := 6, locals := 88 } : Room).cells ({ frames := 5, cells := 2, slots := 6, locals := 88 } : Room).slots) := by
  refine MetFree.of_bodySF (plainFor_of_name pn_3x5) hisR ?_
  intro p e s m args below meth c s₁ Bd hml0 hP hK
  obtain ⟨rfl, hZ, hh⟩ := hP
  have hx := Bd.exec
  have hby := Bd.bytes
  have hml : c.maxLocals = 2 := hml0
  have hown : s.vm.findClass "com/example/bristlecone/bristlecone/io/HttpLine" = some m.cls := findClass_of_methodNamed Bd.named
  have hnm := (name_of_methodNamed Bd.named Bd.method).1
  have X0 : Stand p l e ({ frames := 5, cells := 2, slots := 6, locals := 88 } : Room) s m #[(.ref r0)] below meth c s₁ [] 0 0 := Stand.of_body Bd
  have e0 : s₁.heap = h0 := by rw [← hh, Bd.state]; rfl
  have N0 := Fr.nil n0
  have hS0 := hS
  obtain ⟨S_1, E_1, S_2, E_2, S_3, E_3, S_4, NE_4, S_5, IR_5⟩ := hS
  have pre0 : ∀ t, Steps p.tables e below (s₁.setTop (mkF m 0 #[.val (.ref r0), .unset] [])) t → Steps p.tables e below (s₁.setTop (entryFrame m #[(.ref r0)] 2)) t := fun t k => castTop (ef_3x5 m r0) k
  generalize hE0 : s₁.setTop (entryFrame m #[(.ref r0)] 2) = E0 at pre0 ⊢
  obtain ⟨cl246, Ar246, qa246, Sa246, Ma246, Ha246, Ga246⟩ := id V_r0
  obtain ⟨cl247, Ar247, qa247, Sa247, Ma247, Ha247, Ga247⟩ := id V_r0
  have hin247 : ¬ ((((3 : Int32) - (1 : Int32)) - (1 : Int32)) < 0 ∨ cl247.slots.size ≤ ((((3 : Int32) - (1 : Int32)) - (1 : Int32))).toNatClampNeg) := by  exact inb_of Sa247 ⟨by decide, by decide⟩
  have hat247 : cl247.slots[((((3 : Int32) - (1 : Int32)) - (1 : Int32))).toNatClampNeg]? = some (.int x_r0_1) := Has.at Ha247 hin247 (by rfl)
  obtain ⟨T248, h248, X248, e248, E248, A248, D248, -, st248⟩ := newO X0 hx hZ hown (hw _ (tk 12 rfl)) (hw _ (tk 13 rfl)) (hw _ (tk 14 rfl)) e0 (g := (mkF m 22 (lt13 r0 ((3 : Int32) - (1 : Int32))) [])) rfl (hb hby d3_22) (by decide) (by decide)
  obtain ⟨b248, g248⟩ : ∃ z, z = h0.size := ⟨_, rfl⟩
  rw [← g248] at A248 D248 st248
  have g_b248 : n0 ≤ b248 := Nat.le_trans (own_old O0) (Nat.le_of_eq g248.symm)
  have sz_b248 : h0.size ≤ b248 := Nat.le_trans (Keep.refl h0 []).1 (Nat.le_of_eq g248.symm)
  have ne_r0_b248 : r0 ≠ b248 := Nat.ne_of_lt (Nat.lt_of_lt_of_le V_r0.lt (Nat.le_of_eq g248.symm))
  have O248 : Old Z n0 h248 := O0.ext E248
  have K248 : Keep h0 h248 [] := (Keep.refl h0 []).ext E248
  have F_value_b248 : Fld Z h248 b248 "java/lang/String" "value" "[B" .null := D248 (Or.inr (hw _ (tk 42 rfl))) (ty := (.array .byte)) (by decide)
  have F_coder_b248 : Fld Z h248 b248 "java/lang/String" "coder" "B" (.int (0 : Int32)) := D248 (Or.inr (hw _ (tk 43 rfl))) (ty := .byte) (by decide)
  obtain ⟨T249, X249, e249, st249⟩ := getS2 X248 hx hZ hown (host := "") (Or.inl (hw _ (tk 15 rfl))) Via.refl e248 (S_1.ext O248.2) (g := (mkF m 29 (lt13 r0 ((3 : Int32) - (1 : Int32))) [(.int ((3 : Int32) - (1 : Int32))), (.int (0 : Int32)), (.ref r0), (.ref b248), (.ref b248)])) rfl (hb hby d3_29)
  have c284 := (V_r0.ext E248)
  obtain ⟨_, _, ⟨T285, L285, k285, n285⟩, -, X285, ⟨Lc285, hQ285, l285, y285, z285⟩, st285⟩ := X249.specialBack hx (y := Y22) rfl hown (mvT hZ (hw _ (tk 17 rfl))) (mvT hZ (hw _ (tk 18 rfl))) (mvT hZ (hw _ (tk 19 rfl))) (by decide) (backOf (W := 1) (rm4x5 l Z a0 hw hv [] w_1 w_2 w_4 w_5 hS0 b248 r0 k_r0 x_r0_0 x_r0_1 x_r0_2 h248 n0 O248 g_b248 g_r0 A248 F_coder_b248 F_value_b248 c284 (Ne.symm ne_r0_b248)) hZ (hw _ (tk 19 rfl)) (hw _ (tk 14 rfl)) (by decide) (by decide)) (g := (mkF m 32 (lt13 r0 ((3 : Int32) - (1 : Int32))) [(.ref w_1), (.int ((3 : Int32) - (1 : Int32))), (.int (0 : Int32)), (.ref r0), (.ref b248), (.ref b248)])) rfl (by rw [hml]; rfl) (Steps.refl _) (a := b248) (argsL := [(.ref r0), (.int (0 : Int32)), (.int ((3 : Int32) - (1 : Int32))), (.ref w_1)]) (rest := [(.ref b248)]) (lenOf pd_6 rfl) rfl (by show 2 * 0 + _ ≤ _; exact Nat.le_of_eq rfl) (hb hby d3_32) (fun _ _ => ⟨rfl, e249, (by decide : 1 + 1 ≤ _), (by decide : 4 + 2 ≤ _)⟩)
  dsimp only [Pt.U, Pt.locs, Pt.cells, Pt.slots] at X285 l285 y285 z285 st285 hQ285
  subst l285 y285 z285
  obtain ⟨b286, k287, rv285, N285q, O285, K285c, Fe285_0, Fe285_1, Fx285_0, Fx285_1, Fx285_2⟩ := hQ285
  subst rv285
  have N285 := Fr.app N0 N285q
  have K285 : Keep h0 T285.heap [] := K248.trans K285c (allS (Or.inr sz_b248) all0)
  have g_b286 := Fx285_0
  have sz_b286 : h0.size ≤ b286 := Nat.le_trans K248.1 Fx285_1
  have ne_r0_b286 : r0 ≠ b286 := Nat.ne_of_lt (Nat.lt_of_lt_of_le c284.lt Fx285_1)
  have ne_b248_b286 : b248 ≠ b286 := Nat.ne_of_lt (Nat.lt_of_lt_of_le A248.lt Fx285_1)
  obtain ⟨fs, hr, hrun, hended, hW, hsame⟩ := X285.leave (v := some (.ref b248)) (fun h => by rw [Bd.returns] at h; cases h)
  have c288 := (A248.keep K285c)
  refine ⟨_, _, pre0 _ ?_, hrun, hended, _, _, rfl, ?_, ⟨_, rfl⟩, hW, hsame.mono (by decide) (by decide)⟩
  · show Sp p e below s₁ (mkF m 0 (lt12 r0) []) _
    refine XS.aloadN X0.here hx rfl (hb hby d3_0) rfl rfl ?_
    show Sp p e below s₁ (mkF m 1 (lt12 r0) [(.ref r0)]) _
    refine X0.arraylength hx (by rw [e0]; exact Ar246.1) (State.isArrayOf_alike hZ.alike Ar246.2.1) (g := (mkF m 1 (lt12 r0) [(.ref r0)])) rfl rfl (hb hby d3_1) _ ?_
    rw [len_of Sa246 Ma246]
    show Sp p e below s₁ (mkF m 2 (lt12 r0) [(.int (3 : Int32))]) _
    refine XS.iconst X0.here hx rfl (hb hby d3_2) ?_
    refine XS.isub X0.here hx rfl (hb hby d3_3) rfl ?_
    show Sp p e below s₁ (mkF m 4 (lt12 r0) [(.int ((3 : Int32) - (1 : Int32)))]) _
    refine XS.istoreN X0.here hx rfl (hb hby d3_4) rfl (l' := (lt13 r0 ((3 : Int32) - (1 : Int32)))) rfl ?_
    refine XS.iloadN X0.here hx rfl (hb hby d3_5) rfl ?_
    show Sp p e below s₁ (mkF m 6 (lt13 r0 ((3 : Int32) - (1 : Int32))) [(.int ((3 : Int32) - (1 : Int32)))]) _
    refine XS.ifNo X0.here hx rfl (hb hby d3_6) rfl ((if0 _ _).trans (tlt (by decide : ((0 : Int32) < ((3 : Int32) - (1 : Int32))))).2.2.2) ?_
    show Sp p e below s₁ (mkF m 9 (lt13 r0 ((3 : Int32) - (1 : Int32))) []) _
    refine XS.aloadN X0.here hx rfl (hb hby d3_9) rfl rfl ?_
    refine XS.iloadN X0.here hx rfl (hb hby d3_10) rfl ?_
    show Sp p e below s₁ (mkF m 11 (lt13 r0 ((3 : Int32) - (1 : Int32))) [(.int ((3 : Int32) - (1 : Int32))), (.ref r0)]) _
    refine XS.iconst X0.here hx rfl (hb hby d3_11) ?_
    refine XS.isub X0.here hx rfl (hb hby d3_12) rfl ?_
    show Sp p e below s₁ (mkF m 13 (lt13 r0 ((3 : Int32) - (1 : Int32))) [(.int (((3 : Int32) - (1 : Int32)) - (1 : Int32))), (.ref r0)]) _
    refine X0.baloadBytes hx (j := (((3 : Int32) - (1 : Int32)) - (1 : Int32))) (v := (.int x_r0_1)) (by rw [e0]; exact Ar247.1) (State.isArrayOf_alike hZ.alike Ar247.2.1) Ar247.2.2 hin247 hat247 (g := (mkF m 13 (lt13 r0 ((3 : Int32) - (1 : Int32))) [(.int (((3 : Int32) - (1 : Int32)) - (1 : Int32))), (.ref r0)])) rfl rfl (hb hby d3_13) _ ?_
    show Sp p e below s₁ (mkF m 14 (lt13 r0 ((3 : Int32) - (1 : Int32))) [(.int x_r0_1)]) _
    refine XS.bipush X0.here hx rfl (hb hby d3_14) ?_
    show Sp p e below s₁ (mkF m 16 (lt13 r0 ((3 : Int32) - (1 : Int32))) [(.int (13 : Int32)), (.int x_r0_1)]) _
    refine XS.icmpYes X0.here hx rfl (pc0 := 16) (pc' := 22) rfl (hb hby d3_16) rfl (feq as0).2 (by decide) (by decide) ?_
    show Sp p e below s₁ (mkF m 22 (lt13 r0 ((3 : Int32) - (1 : Int32))) []) _
    refine st248 _ ?_
    show Sp p e below T248 (mkF m 25 (lt13 r0 ((3 : Int32) - (1 : Int32))) [(.ref b248)]) _
    refine XS.dup X248.here hx rfl (hb hby d3_25) rfl rfl ?_
    refine XS.aloadN X248.here hx rfl (hb hby d3_26) rfl rfl ?_
    show Sp p e below T248 (mkF m 27 (lt13 r0 ((3 : Int32) - (1 : Int32))) [(.ref r0), (.ref b248), (.ref b248)]) _
    refine XS.iconst X248.here hx rfl (hb hby d3_27) ?_
    refine XS.iloadN X248.here hx rfl (hb hby d3_28) rfl ?_
    show Sp p e below T248 (mkF m 29 (lt13 r0 ((3 : Int32) - (1 : Int32))) [(.int ((3 : Int32) - (1 : Int32))), (.int (0 : Int32)), (.ref r0), (.ref b248), (.ref b248)]) _
    refine st249 _ ?_
    show Sp p e below T249 (mkF m 32 (lt13 r0 ((3 : Int32) - (1 : Int32))) [(.ref w_1), (.int ((3 : Int32) - (1 : Int32))), (.int (0 : Int32)), (.ref r0), (.ref b248), (.ref b248)]) _
    refine st285.trans ?_
    show Sp p e below T285 (mkF m 35 (lt13 r0 ((3 : Int32) - (1 : Int32))) [(.ref b248)]) _
    jvm_step X285.here [X285.here.top, hx, (hb hby d3_35), X285.method', Bd.returns, Value.isRef, FieldType.isReference]
    first | (intro acts; rw [hr _ acts rfl rfl rfl]) | rw [hr _ _ rfl rfl rfl]
    exact Steps.refl _
  · show Q3x5 Z w_1 w_2 w_4 w_5 r0 k_r0 x_r0_0 x_r0_1 x_r0_2 h0 n0 _ T285.heap _
    exact ⟨b248, b286, k287, rfl, N285, O285, K285, g_b248, sz_b248, c288, Fe285_1, Fe285_0, g_b286, sz_b286, Fx285_2, ne_b248_b286⟩
theorem pn_10x4 : plainName "java/lang/String" = true := by first | (simp [plainName, overriddenIn]; done) | decide +kernel
theorem ef_10x4 (m : MethodId) (r0 : Addr) : entryFrame m #[(.ref r0)] 1 = mkF m 0 #[.val (.ref r0)] [] := by first | (simp [entryFrame, mkF, argsToLocals, Value.category]; done) | rfl
def sp10x4  : Int32 := (0 : Int32)
def Q10x4 (Z : State) (w_1 : Addr) (w_2 : Addr) (w_4 : Int32) (w_5 : Value) (r0 : Addr) (r0_f1 : Addr) (k_r0_f1 : ClassId) (x_r0_f1_0 : Int32) (x_r0_f1_1 : Int32) (h0 : Heap) (n0 : Nat) (v : Option Value) (h : Heap) (L : List Loc) : Prop := v = some (.int (sp10x4)) ∧ Fr n0 L ∧ h = h0
set_option maxRecDepth 65536 in
set_option maxHeartbeats 40000000 in
theorem rm10x4 (l : Launch) (Z : State) (a0 : Array Value) (hw : ∀ d ∈ tables_1, d.before a0 Z = true) (hv : ∀ d ∈ jdkStatics_1, d.before a0 Z = true) (ws : List Jvm.Cond) (w_1 : Addr) (w_2 : Addr) (w_4 : Int32) (w_5 : Value) (hS : StF Z w_1 w_2 w_4 w_5) (r0 : Addr) (r0_f1 : Addr) (k_r0_f1 : ClassId) (x_r0_f1_0 : Int32) (x_r0_f1_1 : Int32) (h0 : Heap) (n0 : Nat) (O0 : Old Z n0 h0) (g_r0 : n0 ≤ r0) (g_r0_f1 : n0 ≤ r0_f1) (E_r0 : Exa Z h0 r0 "java/lang/String") (F_value_r0 : Fld Z h0 r0 "java/lang/String" "value" "[B" (.ref r0_f1)) (V_r0_f1 : Arv Z h0 r0_f1 k_r0_f1 .byte (((0 : Int32) + ((3 : Int32) - (1 : Int32))) - (0 : Int32)) [(.int x_r0_f1_0), (.int x_r0_f1_1)] (.int (0 : Int32))) (ne_r0_r0_f1 : r0 ≠ r0_f1) :
    MetFree l Y24 (head1 (Jvm.Cond.code Y24 jdk_42_method_55_code 1 (some .boolean) :: ws) ({ frames := 0, cells := 0, slots := 0, locals := 0 } : Room)) (fun a U => a = #[(.ref r0)] ∧ Z.Warmed39 U.vm ∧ U.heap = h0) (fun _ _ _ _ _ => True) (fun _ U o U' => ∃ v L, o = .returned v ∧ Q10x4 Z w_1 w_2 w_4 w_5 r0 r0_f1 k_r0_f1 x_r0_f1_0 x_r0_f1_1 h0 n0 v U'.heap L ∧ FrameEnd U o U' L ({ frames := 0, cells := 0, slots := 0, locals := 0 } : Room).cells ({ frames := 0, cells := 0, slots := 0, locals := 0 } : Room).slots) := by
  refine MetFree.of_bodySF (plainFor_of_name pn_10x4) hisR ?_
  intro p e s m args below meth c s₁ Bd hml0 hP hK
  obtain ⟨rfl, hZ, hh⟩ := hP
  have hx := Bd.exec
  have hby := Bd.bytes
  have hml : c.maxLocals = 1 := hml0
  have hown : s.vm.findClass "java/lang/String" = some m.cls := findClass_of_methodNamed Bd.named
  have hnm := (name_of_methodNamed Bd.named Bd.method).1
  have X0 : Stand p l e ({ frames := 0, cells := 0, slots := 0, locals := 0 } : Room) s m #[(.ref r0)] below meth c s₁ [] 0 0 := Stand.of_body Bd
  have e0 : s₁.heap = h0 := by rw [← hh, Bd.state]; rfl
  have N0 := Fr.nil n0
  have hS0 := hS
  obtain ⟨S_1, E_1, S_2, E_2, S_3, E_3, S_4, NE_4, S_5, IR_5⟩ := hS
  have pre0 : ∀ t, Steps p.tables e below (s₁.setTop (mkF m 0 #[.val (.ref r0)] [])) t → Steps p.tables e below (s₁.setTop (entryFrame m #[(.ref r0)] 1)) t := fun t k => castTop (ef_10x4 m r0) k
  generalize hE0 : s₁.setTop (entryFrame m #[(.ref r0)] 1) = E0 at pre0 ⊢
  obtain ⟨T293, X293, e293, st293⟩ := getF X0 hx hZ hown (host := "") (Or.inl (hw _ (tk 46 rfl))) Via.refl e0 F_value_r0 (g := (mkF m 1 (lt10 r0) [(.ref r0)])) rfl rfl (hb hby d10_1)
  obtain ⟨cl294, Ar294, qa294, Sa294, Ma294, Ha294, Ga294⟩ := id V_r0_f1
  obtain ⟨fs, hr, hrun, hended, hW, hsame⟩ := X293.leave (v := some (.int (0 : Int32))) (fun h => by rw [Bd.returns] at h; cases h)
  refine ⟨_, _, pre0 _ ?_, hrun, hended, _, _, rfl, ?_, ⟨_, rfl⟩, hW, hsame.mono (by decide) (by decide)⟩
  · show Sp p e below s₁ (mkF m 0 (lt10 r0) []) _
    refine XS.aloadN X0.here hx rfl (hb hby d10_0) rfl rfl ?_
    show Sp p e below s₁ (mkF m 1 (lt10 r0) [(.ref r0)]) _
    refine st293 _ ?_
    show Sp p e below T293 (mkF m 4 (lt10 r0) [(.ref r0_f1)]) _
    refine X293.arraylength hx (by rw [e293]; exact Ar294.1) (State.isArrayOf_alike hZ.alike Ar294.2.1) (g := (mkF m 4 (lt10 r0) [(.ref r0_f1)])) rfl rfl (hb hby d10_4) _ ?_
    rw [len_of Sa294 Ma294]
    show Sp p e below T293 (mkF m 5 (lt10 r0) [(.int (((0 : Int32) + ((3 : Int32) - (1 : Int32))) - (0 : Int32)))]) _
    refine XS.ifYes X293.here hx rfl (pc0 := 5) (pc' := 12) rfl (hb hby d10_5) rfl ((if0 _ _).trans (feq (by decide : ¬ ((((0 : Int32) + ((3 : Int32) - (1 : Int32))) - (0 : Int32)) = (0 : Int32)))).2) (by decide) (by decide) ?_
    show Sp p e below T293 (mkF m 12 (lt10 r0) []) _
    refine XS.iconst X293.here hx rfl (hb hby d10_12) ?_
    show Sp p e below T293 (mkF m 13 (lt10 r0) [(.int (0 : Int32))]) _
    exact retN X293 hx (t := .boolean) Bd.returns (by simp) (hb hby d10_13) hr
  · show Q10x4 Z w_1 w_2 w_4 w_5 r0 r0_f1 k_r0_f1 x_r0_f1_0 x_r0_f1_1 h0 n0 _ T293.heap _
    rw [e293]
    exact ⟨by unfold sp10x4; rfl, N0, rfl⟩
theorem pn_2x4 : plainName "com/example/bristlecone/bristlecone/io/HttpLine" = true := by first | (simp [plainName, overriddenIn]; done) | decide +kernel
theorem ef_2x4 (m : MethodId) (r0 : Addr) : entryFrame m #[(.ref r0)] 1 = mkF m 0 #[.val (.ref r0)] [] := by first | (simp [entryFrame, mkF, argsToLocals, Value.category]; done) | rfl
def sp2x4  : Int32 := (0 : Int32)
def Q2x4 (Z : State) (w_1 : Addr) (w_2 : Addr) (w_4 : Int32) (w_5 : Value) (r0 : Addr) (k_r0 : ClassId) (x_r0_0 : Int32) (x_r0_1 : Int32) (x_r0_2 : Int32) (x_r0_3 : Int32) (h0 : Heap) (n0 : Nat) (v : Option Value) (h : Heap) (L : List Loc) : Prop := v = some (.int (sp2x4)) ∧ Fr n0 L ∧ h = h0
set_option maxRecDepth 65536 in
set_option maxHeartbeats 40000000 in
theorem rm2x4 (l : Launch) (Z : State) (a0 : Array Value) (hw : ∀ d ∈ tables_1, d.before a0 Z = true) (hv : ∀ d ∈ jdkStatics_1, d.before a0 Z = true) (ws : List Jvm.Cond) (w_1 : Addr) (w_2 : Addr) (w_4 : Int32) (w_5 : Value) (hS : StF Z w_1 w_2 w_4 w_5) (r0 : Addr) (k_r0 : ClassId) (x_r0_0 : Int32) (x_r0_1 : Int32) (x_r0_2 : Int32) (x_r0_3 : Int32) (h0 : Heap) (n0 : Nat) (O0 : Old Z n0 h0) (g_r0 : n0 ≤ r0) (V_r0 : Arv Z h0 r0 k_r0 .byte (4 : Int32) [(.int x_r0_0), (.int x_r0_1), (.int x_r0_2), (.int x_r0_3)] (.int (0 : Int32))) :
    MetFree l Y11 (head1 (Jvm.Cond.code Y11 prog_8_method_3_code 1 (some .boolean) :: ws) ({ frames := 0, cells := 0, slots := 0, locals := 0 } : Room)) (fun a U => a = #[(.ref r0)] ∧ Z.Warmed39 U.vm ∧ U.heap = h0) (fun _ _ _ _ _ => True) (fun _ U o U' => ∃ v L, o = .returned v ∧ Q2x4 Z w_1 w_2 w_4 w_5 r0 k_r0 x_r0_0 x_r0_1 x_r0_2 x_r0_3 h0 n0 v U'.heap L ∧ FrameEnd U o U' L ({ frames := 0, cells := 0, slots := 0, locals := 0 } : Room).cells ({ frames := 0, cells := 0, slots := 0, locals := 0 } : Room).slots) := by
  refine MetFree.of_bodySF (plainFor_of_name pn_2x4) hisR ?_
  intro p e s m args below meth c s₁ Bd hml0 hP hK
  obtain ⟨rfl, hZ, hh⟩ := hP
  have hx := Bd.exec
  have hby := Bd.bytes
  have hml : c.maxLocals = 1 := hml0
  have hown : s.vm.findClass "com/example/bristlecone/bristlecone/io/HttpLine" = some m.cls := findClass_of_methodNamed Bd.named
  have hnm := (name_of_methodNamed Bd.named Bd.method).1
  have X0 : Stand p l e ({ frames := 0, cells := 0, slots := 0, locals := 0 } : Room) s m #[(.ref r0)] below meth c s₁ [] 0 0 := Stand.of_body Bd
  have e0 : s₁.heap = h0 := by rw [← hh, Bd.state]; rfl
  have N0 := Fr.nil n0
  have hS0 := hS
  obtain ⟨S_1, E_1, S_2, E_2, S_3, E_3, S_4, NE_4, S_5, IR_5⟩ := hS
  have pre0 : ∀ t, Steps p.tables e below (s₁.setTop (mkF m 0 #[.val (.ref r0)] [])) t → Steps p.tables e below (s₁.setTop (entryFrame m #[(.ref r0)] 1)) t := fun t k => castTop (ef_2x4 m r0) k
  generalize hE0 : s₁.setTop (entryFrame m #[(.ref r0)] 1) = E0 at pre0 ⊢
  obtain ⟨cl314, Ar314, qa314, Sa314, Ma314, Ha314, Ga314⟩ := id V_r0
  obtain ⟨cl315, Ar315, qa315, Sa315, Ma315, Ha315, Ga315⟩ := id V_r0
  obtain ⟨fs, hr, hrun, hended, hW, hsame⟩ := X0.leave (v := some (.int (0 : Int32))) (fun h => by rw [Bd.returns] at h; cases h)
  refine ⟨_, _, pre0 _ ?_, hrun, hended, _, _, rfl, ?_, ⟨_, rfl⟩, hW, hsame.mono (by decide) (by decide)⟩
  · show Sp p e below s₁ (mkF m 0 (lt10 r0) []) _
    refine XS.aloadN X0.here hx rfl (hb hby d2_0) rfl rfl ?_
    show Sp p e below s₁ (mkF m 1 (lt10 r0) [(.ref r0)]) _
    refine X0.arraylength hx (by rw [e0]; exact Ar314.1) (State.isArrayOf_alike hZ.alike Ar314.2.1) (g := (mkF m 1 (lt10 r0) [(.ref r0)])) rfl rfl (hb hby d2_1) _ ?_
    rw [len_of Sa314 Ma314]
    show Sp p e below s₁ (mkF m 2 (lt10 r0) [(.int (4 : Int32))]) _
    refine XS.iconst X0.here hx rfl (hb hby d2_2) ?_
    show Sp p e below s₁ (mkF m 3 (lt10 r0) [(.int (1 : Int32)), (.int (4 : Int32))]) _
    refine XS.icmpNo X0.here hx rfl (hb hby d2_3) rfl (feq (by decide : ¬ ((4 : Int32) = (1 : Int32)))).1 ?_
    show Sp p e below s₁ (mkF m 6 (lt10 r0) []) _
    refine XS.aloadN X0.here hx rfl (hb hby d2_6) rfl rfl ?_
    show Sp p e below s₁ (mkF m 7 (lt10 r0) [(.ref r0)]) _
    refine X0.arraylength hx (by rw [e0]; exact Ar315.1) (State.isArrayOf_alike hZ.alike Ar315.2.1) (g := (mkF m 7 (lt10 r0) [(.ref r0)])) rfl rfl (hb hby d2_7) _ ?_
    rw [len_of Sa315 Ma315]
    show Sp p e below s₁ (mkF m 8 (lt10 r0) [(.int (4 : Int32))]) _
    refine XS.iconst X0.here hx rfl (hb hby d2_8) ?_
    show Sp p e below s₁ (mkF m 9 (lt10 r0) [(.int (2 : Int32)), (.int (4 : Int32))]) _
    refine XS.icmpYes X0.here hx rfl (pc0 := 9) (pc' := 24) rfl (hb hby d2_9) rfl (feq (by decide : ¬ ((4 : Int32) = (2 : Int32)))).2 (by decide) (by decide) ?_
    show Sp p e below s₁ (mkF m 24 (lt10 r0) []) _
    refine XS.iconst X0.here hx rfl (hb hby d2_24) ?_
    show Sp p e below s₁ (mkF m 25 (lt10 r0) [(.int (0 : Int32))]) _
    exact retN X0 hx (t := .boolean) Bd.returns (by simp) (hb hby d2_25) hr
  · show Q2x4 Z w_1 w_2 w_4 w_5 r0 k_r0 x_r0_0 x_r0_1 x_r0_2 x_r0_3 h0 n0 _ s₁.heap _
    rw [e0]
    exact ⟨by unfold sp2x4; rfl, N0, rfl⟩
theorem pn_7u3x6 : plainName "jdk/internal/util/Preconditions" = true := by first | (simp [plainName, overriddenIn]; done) | decide +kernel
theorem ef_7u3x6 (m : MethodId) (u3 : Value) (i_u3 : u3.isRef = true) : entryFrame m #[(.int (0 : Int32)), (.int (((4 : Int32) - (1 : Int32)) + (-1 : Int32))), (.int (4 : Int32)), u3] 4 = mkF m 0 #[.val (.int (0 : Int32)), .val (.int (((4 : Int32) - (1 : Int32)) + (-1 : Int32))), .val (.int (4 : Int32)), .val u3] [] := by rcases ref_cases i_u3 with rfl | ⟨z_u3, rfl⟩ <;> first | (simp [entryFrame, mkF, argsToLocals, Value.category]; done) | rfl
def Q7u3x6 (Z : State) (w_1 : Addr) (w_2 : Addr) (w_4 : Int32) (w_5 : Value) (u3 : Value) (h0 : Heap) (n0 : Nat) (v : Option Value) (h : Heap) (L : List Loc) : Prop := v = some (.int (0 : Int32)) ∧ Fr n0 L ∧ h = h0
set_option maxRecDepth 65536 in
set_option maxHeartbeats 40000000 in
theorem rm7u3x6 (l : Launch) (Z : State) (a0 : Array Value) (hw : ∀ d ∈ tables_1, d.before a0 Z = true) (hv : ∀ d ∈ jdkStatics_1, d.before a0 Z = true) (ws : List Jvm.Cond) (w_1 : Addr) (w_2 : Addr) (w_4 : Int32) (w_5 : Value) (hS : StF Z w_1 w_2 w_4 w_5) (u3 : Value) (h0 : Heap) (n0 : Nat) (O0 : Old Z n0 h0) (i_u3 : u3.isRef = true) :
    MetFree l Y18 (head1 (Jvm.Cond.code Y18 jdk_41_method_13_code 4 (some .int) :: ws) ({ frames := 0, cells := 0, slots := 0, locals := 0 } : Room)) (fun a U => a = #[(.int (0 : Int32)), (.int (((4 : Int32) - (1 : Int32)) + (-1 : Int32))), (.int (4 : Int32)), u3] ∧ Z.Warmed39 U.vm ∧ U.heap = h0) (fun _ _ _ _ _ => True) (fun _ U o U' => ∃ v L, o = .returned v ∧ Q7u3x6 Z w_1 w_2 w_4 w_5 u3 h0 n0 v U'.heap L ∧ FrameEnd U o U' L ({ frames := 0, cells := 0, slots := 0, locals := 0 } : Room).cells ({ frames := 0, cells := 0, slots := 0, locals := 0 } : Room).slots) := by
  refine MetFree.of_bodySF (plainFor_of_name pn_7u3x6) hisR ?_
  intro p e s m args below meth c s₁ Bd hml0 hP hK
  obtain ⟨rfl, hZ, hh⟩ := hP
  have hx := Bd.exec
  have hby := Bd.bytes
  have hml : c.maxLocals = 4 := hml0
  have hown : s.vm.findClass "jdk/internal/util/Preconditions" = some m.cls := findClass_of_methodNamed Bd.named
  have hnm := (name_of_methodNamed Bd.named Bd.method).1
  have X0 : Stand p l e ({ frames := 0, cells := 0, slots := 0, locals := 0 } : Room) s m #[(.int (0 : Int32)), (.int (((4 : Int32) - (1 : Int32)) + (-1 : Int32))), (.int (4 : Int32)), u3] below meth c s₁ [] 0 0 := Stand.of_body Bd
  have e0 : s₁.heap = h0 := by rw [← hh, Bd.state]; rfl
  have N0 := Fr.nil n0
  have hS0 := hS
  obtain ⟨S_1, E_1, S_2, E_2, S_3, E_3, S_4, NE_4, S_5, IR_5⟩ := hS
  have pre0 : ∀ t, Steps p.tables e below (s₁.setTop (mkF m 0 #[.val (.int (0 : Int32)), .val (.int (((4 : Int32) - (1 : Int32)) + (-1 : Int32))), .val (.int (4 : Int32)), .val u3] [])) t → Steps p.tables e below (s₁.setTop (entryFrame m #[(.int (0 : Int32)), (.int (((4 : Int32) - (1 : Int32)) + (-1 : Int32))), (.int (4 : Int32)), u3] 4)) t := fun t k => castTop (ef_7u3x6 m u3 i_u3) k
  generalize hE0 : s₁.setTop (entryFrame m #[(.int (0 : Int32)), (.int (((4 : Int32) - (1 : Int32)) + (-1 : Int32))), (.int (4 : Int32)), u3] 4) = E0 at pre0 ⊢
  obtain ⟨fs, hr, hrun, hended, hW, hsame⟩ := X0.leave (v := some (.int (0 : Int32))) (fun h => by rw [Bd.returns] at h; cases h)
  refine ⟨_, _, pre0 _ ?_, hrun, hended, _, _, rfl, ?_, ⟨_, rfl⟩, hW, hsame.mono (by decide) (by decide)⟩
  · show Sp p e below s₁ (mkF m 0 (lt15 (0 : Int32) (((4 : Int32) - (1 : Int32)) + (-1 : Int32)) (4 : Int32) u3) []) _
    refine XS.iloadN X0.here hx rfl (hb hby d7_0) rfl ?_
    refine XS.iloadN X0.here hx rfl (hb hby d7_1) rfl ?_
    show Sp p e below s₁ (mkF m 2 (lt15 (0 : Int32) (((4 : Int32) - (1 : Int32)) + (-1 : Int32)) (4 : Int32) u3) [(.int (0 : Int32)), (.int (4 : Int32))]) _
    refine XS.ior X0.here hx rfl (hb hby d7_2) rfl ?_
    refine XS.iloadN X0.here hx rfl (hb hby d7_3) rfl ?_
    show Sp p e below s₁ (mkF m 4 (lt15 (0 : Int32) (((4 : Int32) - (1 : Int32)) + (-1 : Int32)) (4 : Int32) u3) [(.int (((4 : Int32) - (1 : Int32)) + (-1 : Int32))), (.int ((4 : Int32) ||| (0 : Int32)))]) _
    refine XS.ior X0.here hx rfl (hb hby d7_4) rfl ?_
    show Sp p e below s₁ (mkF m 5 (lt15 (0 : Int32) (((4 : Int32) - (1 : Int32)) + (-1 : Int32)) (4 : Int32) u3) [(.int (((4 : Int32) ||| (0 : Int32)) ||| (((4 : Int32) - (1 : Int32)) + (-1 : Int32))))]) _
    refine XS.ifNo X0.here hx rfl (hb hby d7_5) rfl ((if0 _ _).trans (flt (by decide : ¬ ((((4 : Int32) ||| (0 : Int32)) ||| (((4 : Int32) - (1 : Int32)) + (-1 : Int32))) < (0 : Int32)))).1) ?_
    show Sp p e below s₁ (mkF m 8 (lt15 (0 : Int32) (((4 : Int32) - (1 : Int32)) + (-1 : Int32)) (4 : Int32) u3) []) _
    refine XS.iloadN X0.here hx rfl (hb hby d7_8) rfl ?_
    refine XS.iloadN X0.here hx rfl (hb hby d7_9) rfl ?_
    show Sp p e below s₁ (mkF m 10 (lt15 (0 : Int32) (((4 : Int32) - (1 : Int32)) + (-1 : Int32)) (4 : Int32) u3) [(.int (4 : Int32)), (.int (((4 : Int32) - (1 : Int32)) + (-1 : Int32)))]) _
    refine XS.iloadN X0.here hx rfl (hb hby d7_10) rfl ?_
    refine XS.isub X0.here hx rfl (hb hby d7_11) rfl ?_
    show Sp p e below s₁ (mkF m 12 (lt15 (0 : Int32) (((4 : Int32) - (1 : Int32)) + (-1 : Int32)) (4 : Int32) u3) [(.int ((4 : Int32) - (0 : Int32))), (.int (((4 : Int32) - (1 : Int32)) + (-1 : Int32)))]) _
    refine XS.icmpYes X0.here hx rfl (pc0 := 12) (pc' := 23) rfl (hb hby d7_12) rfl (flt (by decide : ¬ (((4 : Int32) - (0 : Int32)) < (((4 : Int32) - (1 : Int32)) + (-1 : Int32))))).2.2.2 (by decide) (by decide) ?_
    show Sp p e below s₁ (mkF m 23 (lt15 (0 : Int32) (((4 : Int32) - (1 : Int32)) + (-1 : Int32)) (4 : Int32) u3) []) _
    refine XS.iloadN X0.here hx rfl (hb hby d7_23) rfl ?_
    show Sp p e below s₁ (mkF m 24 (lt15 (0 : Int32) (((4 : Int32) - (1 : Int32)) + (-1 : Int32)) (4 : Int32) u3) [(.int (0 : Int32))]) _
    exact retI X0 hx Bd.returns (hb hby d7_24) hr
  · show Q7u3x6 Z w_1 w_2 w_4 w_5 u3 h0 n0 _ s₁.heap _
    rw [e0]
    exact ⟨rfl, N0, rfl⟩
theorem pn_6x6 : plainName "java/lang/String" = true := by first | (simp [plainName, overriddenIn]; done) | decide +kernel
theorem ef_6x6 (m : MethodId)  : entryFrame m #[(.int (0 : Int32)), (.int (((4 : Int32) - (1 : Int32)) + (-1 : Int32))), (.int (4 : Int32))] 3 = mkF m 0 #[.val (.int (0 : Int32)), .val (.int (((4 : Int32) - (1 : Int32)) + (-1 : Int32))), .val (.int (4 : Int32))] [] := by first | (simp [entryFrame, mkF, argsToLocals, Value.category]; done) | rfl
def Q6x6 (Z : State) (w_1 : Addr) (w_2 : Addr) (w_4 : Int32) (w_5 : Value) (h0 : Heap) (n0 : Nat) (v : Option Value) (h : Heap) (L : List Loc) : Prop := v = some (.int (0 : Int32)) ∧ Fr n0 L ∧ h = h0
set_option maxRecDepth 65536 in
set_option maxHeartbeats 40000000 in
theorem rm6x6 (l : Launch) (Z : State) (a0 : Array Value) (hw : ∀ d ∈ tables_1, d.before a0 Z = true) (hv : ∀ d ∈ jdkStatics_1, d.before a0 Z = true) (ws : List Jvm.Cond) (w_1 : Addr) (w_2 : Addr) (w_4 : Int32) (w_5 : Value) (hS : StF Z w_1 w_2 w_4 w_5) (h0 : Heap) (n0 : Nat) (O0 : Old Z n0 h0) :
    MetFree l Y19 (head1 (Jvm.Cond.code Y19 jdk_42_method_157_code 3 (some .int) :: ws) ({ frames := 1, cells := 0, slots := 0, locals := 15 } : Room)) (fun a U => a = #[(.int (0 : Int32)), (.int (((4 : Int32) - (1 : Int32)) + (-1 : Int32))), (.int (4 : Int32))] ∧ Z.Warmed39 U.vm ∧ U.heap = h0) (fun _ _ _ _ _ => True) (fun _ U o U' => ∃ v L, o = .returned v ∧ Q6x6 Z w_1 w_2 w_4 w_5 h0 n0 v U'.heap L ∧ FrameEnd U o U' L ({ frames := 1, cells := 0, slots := 0, locals := 15 } : Room).cells ({ frames := 1, cells := 0, slots := 0, locals := 15 } : Room).slots) := by
  refine MetFree.of_bodySF (plainFor_of_name pn_6x6) hisR ?_
  intro p e s m args below meth c s₁ Bd hml0 hP hK
  obtain ⟨rfl, hZ, hh⟩ := hP
  have hx := Bd.exec
  have hby := Bd.bytes
  have hml : c.maxLocals = 3 := hml0
  have hown : s.vm.findClass "java/lang/String" = some m.cls := findClass_of_methodNamed Bd.named
  have hnm := (name_of_methodNamed Bd.named Bd.method).1
  have X0 : Stand p l e ({ frames := 1, cells := 0, slots := 0, locals := 15 } : Room) s m #[(.int (0 : Int32)), (.int (((4 : Int32) - (1 : Int32)) + (-1 : Int32))), (.int (4 : Int32))] below meth c s₁ [] 0 0 := Stand.of_body Bd
  have e0 : s₁.heap = h0 := by rw [← hh, Bd.state]; rfl
  have N0 := Fr.nil n0
  have hS0 := hS
  obtain ⟨S_1, E_1, S_2, E_2, S_3, E_3, S_4, NE_4, S_5, IR_5⟩ := hS
  have pre0 : ∀ t, Steps p.tables e below (s₁.setTop (mkF m 0 #[.val (.int (0 : Int32)), .val (.int (((4 : Int32) - (1 : Int32)) + (-1 : Int32))), .val (.int (4 : Int32))] [])) t → Steps p.tables e below (s₁.setTop (entryFrame m #[(.int (0 : Int32)), (.int (((4 : Int32) - (1 : Int32)) + (-1 : Int32))), (.int (4 : Int32))] 3)) t := fun t k => castTop (ef_6x6 m ) k
  generalize hE0 : s₁.setTop (entryFrame m #[(.int (0 : Int32)), (.int (((4 : Int32) - (1 : Int32)) + (-1 : Int32))), (.int (4 : Int32))] 3) = E0 at pre0 ⊢
  obtain ⟨T326, X326, e326, st326⟩ := getS2 X0 hx hZ hown (host := "") (Or.inl (hw _ (tk 29 rfl))) Via.refl e0 (S_5.ext O0.2) (g := (mkF m 3 (lt4 (0 : Int32) (((4 : Int32) - (1 : Int32)) + (-1 : Int32)) (4 : Int32)) [(.int (4 : Int32)), (.int (((4 : Int32) - (1 : Int32)) + (-1 : Int32))), (.int (0 : Int32))])) rfl (hb hby d6_3)
  obtain ⟨_, _, ⟨T327, L327, k327, n327⟩, -, X327, ⟨Lc327, hQ327, l327, y327, z327⟩, st327⟩ := Jvm.LawKit.callS X326 hx (y := Y18) hown (mvT hZ (hw _ (tk 31 rfl))) (mvT hZ (hw _ (tk 32 rfl))) (mvT hZ (hw _ (tk 30 rfl))) (mvT hZ (hw _ (tk 33 rfl))) (by decide) (backOf (W := 0) (rm7u3x6 l Z a0 hw hv [] w_1 w_2 w_4 w_5 hS0 w_5 h0 n0 O0 IR_5) hZ (hw _ (tk 33 rfl)) (hw _ (tk 30 rfl)) (by decide) (by decide)) (g := (mkF m 6 (lt4 (0 : Int32) (((4 : Int32) - (1 : Int32)) + (-1 : Int32)) (4 : Int32)) [w_5, (.int (4 : Int32)), (.int (((4 : Int32) - (1 : Int32)) + (-1 : Int32))), (.int (0 : Int32))])) rfl (by rw [hml]; rfl) (argsL := [(.int (0 : Int32)), (.int (((4 : Int32) - (1 : Int32)) + (-1 : Int32))), (.int (4 : Int32)), w_5]) (rest := []) (lenOf pd_3 rfl) rfl (by show 2 * 0 + _ ≤ _; exact Nat.le_of_eq rfl) (hb hby d6_6) (fun _ _ => ⟨rfl, e326, (by decide : 0 + 0 ≤ _), (by decide : 0 + 0 ≤ _)⟩)
  dsimp only [Pt.U, Pt.locs, Pt.cells, Pt.slots] at X327 l327 y327 z327 st327 hQ327
  subst l327 y327 z327
  obtain ⟨rv327, N327q, e327⟩ := hQ327
  subst rv327
  have N327 := Fr.app N0 N327q
  obtain ⟨fs, hr, hrun, hended, hW, hsame⟩ := X327.leave (v := some (.int (0 : Int32))) (fun h => by rw [Bd.returns] at h; cases h)
  refine ⟨_, _, pre0 _ ?_, hrun, hended, _, _, rfl, ?_, ⟨_, rfl⟩, hW, hsame.mono (by decide) (by decide)⟩
  · show Sp p e below s₁ (mkF m 0 (lt4 (0 : Int32) (((4 : Int32) - (1 : Int32)) + (-1 : Int32)) (4 : Int32)) []) _
    refine XS.iloadN X0.here hx rfl (hb hby d6_0) rfl ?_
    refine XS.iloadN X0.here hx rfl (hb hby d6_1) rfl ?_
    show Sp p e below s₁ (mkF m 2 (lt4 (0 : Int32) (((4 : Int32) - (1 : Int32)) + (-1 : Int32)) (4 : Int32)) [(.int (((4 : Int32) - (1 : Int32)) + (-1 : Int32))), (.int (0 : Int32))]) _
    refine XS.iloadN X0.here hx rfl (hb hby d6_2) rfl ?_
    show Sp p e below s₁ (mkF m 3 (lt4 (0 : Int32) (((4 : Int32) - (1 : Int32)) + (-1 : Int32)) (4 : Int32)) [(.int (4 : Int32)), (.int (((4 : Int32) - (1 : Int32)) + (-1 : Int32))), (.int (0 : Int32))]) _
    refine st326 _ ?_
    show Sp p e below T326 (mkF m 6 (lt4 (0 : Int32) (((4 : Int32) - (1 : Int32)) + (-1 : Int32)) (4 : Int32)) [w_5, (.int (4 : Int32)), (.int (((4 : Int32) - (1 : Int32)) + (-1 : Int32))), (.int (0 : Int32))]) _
    refine st327 _ ?_
    show Sp p e below T327 (mkF m 9 (lt4 (0 : Int32) (((4 : Int32) - (1 : Int32)) + (-1 : Int32)) (4 : Int32)) [(.int (0 : Int32))]) _
    exact retI X327 hx Bd.returns (hb hby d6_9) hr
  · show Q6x6 Z w_1 w_2 w_4 w_5 h0 n0 _ T327.heap _
    rw [e327]
    exact ⟨rfl, N327, rfl⟩
theorem pn_13x4 : plainName "java/util/Arrays" = true := by first | (simp [plainName, overriddenIn]; done) | decide +kernel
theorem ef_13x4 (m : MethodId)  : entryFrame m #[(.int (0 : Int32)), (.int ((0 : Int32) + (((4 : Int32) - (1 : Int32)) + (-1 : Int32))))] 2 = mkF m 0 #[.val (.int (0 : Int32)), .val (.int ((0 : Int32) + (((4 : Int32) - (1 : Int32)) + (-1 : Int32))))] [] := by first | (simp [entryFrame, mkF, argsToLocals, Value.category]; done) | rfl
def Q13x4 (Z : State) (w_1 : Addr) (w_2 : Addr) (w_4 : Int32) (w_5 : Value) (h0 : Heap) (n0 : Nat) (v : Option Value) (h : Heap) (L : List Loc) : Prop := v = none ∧ Fr n0 L ∧ h = h0
set_option maxRecDepth 65536 in
set_option maxHeartbeats 40000000 in
theorem rm13x4 (l : Launch) (Z : State) (a0 : Array Value) (hw : ∀ d ∈ tables_1, d.before a0 Z = true) (hv : ∀ d ∈ jdkStatics_1, d.before a0 Z = true) (ws : List Jvm.Cond) (w_1 : Addr) (w_2 : Addr) (w_4 : Int32) (w_5 : Value) (hS : StF Z w_1 w_2 w_4 w_5) (h0 : Heap) (n0 : Nat) (O0 : Old Z n0 h0) :
    MetFree l Y29 (head1 (Jvm.Cond.code Y29 jdk_65_method_131_code 2 none :: ws) ({ frames := 0, cells := 0, slots := 0, locals := 0 } : Room)) (fun a U => a = #[(.int (0 : Int32)), (.int ((0 : Int32) + (((4 : Int32) - (1 : Int32)) + (-1 : Int32))))] ∧ Z.Warmed39 U.vm ∧ U.heap = h0) (fun _ _ _ _ _ => True) (fun _ U o U' => ∃ v L, o = .returned v ∧ Q13x4 Z w_1 w_2 w_4 w_5 h0 n0 v U'.heap L ∧ FrameEnd U o U' L ({ frames := 0, cells := 0, slots := 0, locals := 0 } : Room).cells ({ frames := 0, cells := 0, slots := 0, locals := 0 } : Room).slots) := by
  refine MetFree.of_bodySF (plainFor_of_name pn_13x4) hisR ?_
  intro p e s m args below meth c s₁ Bd hml0 hP hK
  obtain ⟨rfl, hZ, hh⟩ := hP
  have hx := Bd.exec
  have hby := Bd.bytes
  have hml : c.maxLocals = 2 := hml0
  have hown : s.vm.findClass "java/util/Arrays" = some m.cls := findClass_of_methodNamed Bd.named
  have hnm := (name_of_methodNamed Bd.named Bd.method).1
  have X0 : Stand p l e ({ frames := 0, cells := 0, slots := 0, locals := 0 } : Room) s m #[(.int (0 : Int32)), (.int ((0 : Int32) + (((4 : Int32) - (1 : Int32)) + (-1 : Int32))))] below meth c s₁ [] 0 0 := Stand.of_body Bd
  have e0 : s₁.heap = h0 := by rw [← hh, Bd.state]; rfl
  have N0 := Fr.nil n0
  have hS0 := hS
  obtain ⟨S_1, E_1, S_2, E_2, S_3, E_3, S_4, NE_4, S_5, IR_5⟩ := hS
  have pre0 : ∀ t, Steps p.tables e below (s₁.setTop (mkF m 0 #[.val (.int (0 : Int32)), .val (.int ((0 : Int32) + (((4 : Int32) - (1 : Int32)) + (-1 : Int32))))] [])) t → Steps p.tables e below (s₁.setTop (entryFrame m #[(.int (0 : Int32)), (.int ((0 : Int32) + (((4 : Int32) - (1 : Int32)) + (-1 : Int32))))] 2)) t := fun t k => castTop (ef_13x4 m ) k
  generalize hE0 : s₁.setTop (entryFrame m #[(.int (0 : Int32)), (.int ((0 : Int32) + (((4 : Int32) - (1 : Int32)) + (-1 : Int32))))] 2) = E0 at pre0 ⊢
  obtain ⟨fs, hr, hrun, hended, hW, hsame⟩ := X0.leave (v := none) (fun _ => rfl)
  refine ⟨_, _, pre0 _ ?_, hrun, hended, _, _, rfl, ?_, ⟨_, rfl⟩, hW, hsame.mono (by decide) (by decide)⟩
  · show Sp p e below s₁ (mkF m 0 (lt20 (0 : Int32) ((0 : Int32) + (((4 : Int32) - (1 : Int32)) + (-1 : Int32)))) []) _
    refine XS.iloadN X0.here hx rfl (hb hby d13_0) rfl ?_
    refine XS.iloadN X0.here hx rfl (hb hby d13_1) rfl ?_
    show Sp p e below s₁ (mkF m 2 (lt20 (0 : Int32) ((0 : Int32) + (((4 : Int32) - (1 : Int32)) + (-1 : Int32)))) [(.int (0 : Int32)), (.int ((0 : Int32) + (((4 : Int32) - (1 : Int32)) + (-1 : Int32))))]) _
    refine XS.icmpYes X0.here hx rfl (pc0 := 2) (pc' := 37) rfl (hb hby d13_2) rfl (flt (by decide : ¬ (((0 : Int32) + (((4 : Int32) - (1 : Int32)) + (-1 : Int32))) < (0 : Int32)))).2.1 (by decide) (by decide) ?_
    show Sp p e below s₁ (mkF m 37 (lt20 (0 : Int32) ((0 : Int32) + (((4 : Int32) - (1 : Int32)) + (-1 : Int32)))) []) _
    exact X0.returnOut hx Bd.returns (hb hby d13_37) hr
  · show Q13x4 Z w_1 w_2 w_4 w_5 h0 n0 _ s₁.heap _
    rw [e0]
    exact ⟨rfl, N0, rfl⟩
theorem pn_12x4 : plainName "java/util/Arrays" = true := by first | (simp [plainName, overriddenIn]; done) | decide +kernel
theorem ef_12x4 (m : MethodId) (r0 : Addr) : entryFrame m #[(.ref r0), (.int (0 : Int32)), (.int ((0 : Int32) + (((4 : Int32) - (1 : Int32)) + (-1 : Int32))))] 5 = mkF m 0 #[.val (.ref r0), .val (.int (0 : Int32)), .val (.int ((0 : Int32) + (((4 : Int32) - (1 : Int32)) + (-1 : Int32)))), .unset, .unset] [] := by first | (simp [entryFrame, mkF, argsToLocals, Value.category]; done) | rfl
def Q12x4 (Z : State) (w_1 : Addr) (w_2 : Addr) (w_4 : Int32) (w_5 : Value) (r0 : Addr) (k_r0 : ClassId) (x_r0_0 : Int32) (x_r0_1 : Int32) (x_r0_2 : Int32) (x_r0_3 : Int32) (h0 : Heap) (n0 : Nat) (v : Option Value) (h : Heap) (L : List Loc) : Prop := ∃ (b335 : Addr) (k335 : ClassId), v = some (.ref b335) ∧ Fr n0 L ∧ Old Z n0 h ∧ Keep h0 h [] ∧ n0 ≤ b335 ∧ h0.size ≤ b335 ∧ Arv Z h b335 k335 .byte (((0 : Int32) + (((4 : Int32) - (1 : Int32)) + (-1 : Int32))) - (0 : Int32)) [(.int x_r0_0), (.int x_r0_1)] (.int (0 : Int32))
set_option maxRecDepth 65536 in
set_option maxHeartbeats 40000000 in
theorem rm12x4 (l : Launch) (Z : State) (a0 : Array Value) (hw : ∀ d ∈ tables_1, d.before a0 Z = true) (hv : ∀ d ∈ jdkStatics_1, d.before a0 Z = true) (ws : List Jvm.Cond) (w_1 : Addr) (w_2 : Addr) (w_4 : Int32) (w_5 : Value) (hS : StF Z w_1 w_2 w_4 w_5) (r0 : Addr) (k_r0 : ClassId) (x_r0_0 : Int32) (x_r0_1 : Int32) (x_r0_2 : Int32) (x_r0_3 : Int32) (h0 : Heap) (n0 : Nat) (O0 : Old Z n0 h0) (g_r0 : n0 ≤ r0) (V_r0 : Arv Z h0 r0 k_r0 .byte (4 : Int32) [(.int x_r0_0), (.int x_r0_1), (.int x_r0_2), (.int x_r0_3)] (.int (0 : Int32))) :
    MetFree l Y33 (head1 (Jvm.Cond.code Y33 jdk_65_method_133_code 5 (some (.array .byte)) :: ws) ({ frames := 1, cells := 1, slots := 2, locals := 18 } : Room)) (fun a U => a = #[(.ref r0), (.int (0 : Int32)), (.int ((0 : Int32) + (((4 : Int32) - (1 : Int32)) + (-1 : Int32))))] ∧ Z.Warmed39 U.vm ∧ U.heap = h0) (fun _ _ _ _ _ => True) (fun _ U o U' => ∃ v L, o = .returned v ∧ Q12x4 Z w_1 w_2 w_4 w_5 r0 k_r0 x_r0_0 x_r0_1 x_r0_2 x_r0_3 h0 n0 v U'.heap L ∧ FrameEnd U o U' L ({ frames := 1, cells := 1, slots := 2, locals := 18 } : Room).cells ({ frames := 1, cells := 1, slots := 2, locals := 18 } : Room).slots) := by
  refine MetFree.of_bodySF (plainFor_of_name pn_12x4) hisR ?_
  intro p e s m args below meth c s₁ Bd hml0 hP hK
  obtain ⟨rfl, hZ, hh⟩ := hP
  have hx := Bd.exec
  have hby := Bd.bytes
  have hml : c.maxLocals = 5 := hml0
  have hown : s.vm.findClass "java/util/Arrays" = some m.cls := findClass_of_methodNamed Bd.named
  have hnm := (name_of_methodNamed Bd.named Bd.method).1
  have X0 : Stand p l e ({ frames := 1, cells := 1, slots := 2, locals := 18 } : Room) s m #[(.ref r0), (.int (0 : Int32)), (.int ((0 : Int32) + (((4 : Int32) - (1 : Int32)) + (-1 : Int32))))] below meth c s₁ [] 0 0 := Stand.of_body Bd
  have e0 : s₁.heap = h0 := by rw [← hh, Bd.state]; rfl
  have N0 := Fr.nil n0
  have hS0 := hS
  obtain ⟨S_1, E_1, S_2, E_2, S_3, E_3, S_4, NE_4, S_5, IR_5⟩ := hS
  have pre0 : ∀ t, Steps p.tables e below (s₁.setTop (mkF m 0 #[.val (.ref r0), .val (.int (0 : Int32)), .val (.int ((0 : Int32) + (((4 : Int32) - (1 : Int32)) + (-1 : Int32)))), .unset, .unset] [])) t → Steps p.tables e below (s₁.setTop (entryFrame m #[(.ref r0), (.int (0 : Int32)), (.int ((0 : Int32) + (((4 : Int32) - (1 : Int32)) + (-1 : Int32))))] 5)) t := fun t k => castTop (ef_12x4 m r0) k
  generalize hE0 : s₁.setTop (entryFrame m #[(.ref r0), (.int (0 : Int32)), (.int ((0 : Int32) + (((4 : Int32) - (1 : Int32)) + (-1 : Int32))))] 5) = E0 at pre0 ⊢
  obtain ⟨_, _, ⟨T334, L334, k334, n334⟩, -, X334, ⟨Lc334, hQ334, l334, y334, z334⟩, st334⟩ := Jvm.LawKit.callS X0 hx (y := Y29) hown (mvT hZ (hw _ (tk 65 rfl))) (mvT hZ (hw _ (tk 66 rfl))) (mvT hZ (hw _ (tk 60 rfl))) (mvT hZ (hw _ (tk 67 rfl))) (by decide) (backOf (W := 0) (rm13x4 l Z a0 hw hv [] w_1 w_2 w_4 w_5 hS0 h0 n0 O0) hZ (hw _ (tk 67 rfl)) (hw _ (tk 60 rfl)) (by decide) (by decide)) (g := (mkF m 2 (lt19 r0 (0 : Int32) ((0 : Int32) + (((4 : Int32) - (1 : Int32)) + (-1 : Int32)))) [(.int ((0 : Int32) + (((4 : Int32) - (1 : Int32)) + (-1 : Int32)))), (.int (0 : Int32))])) rfl (by rw [hml]; rfl) (argsL := [(.int (0 : Int32)), (.int ((0 : Int32) + (((4 : Int32) - (1 : Int32)) + (-1 : Int32))))]) (rest := []) (lenOf pd_9 rfl) rfl (by show 2 * 0 + _ ≤ _; exact Nat.le_of_eq rfl) (hb hby d12_2) (fun _ _ => ⟨rfl, e0, (by decide : 0 + 0 ≤ _), (by decide : 0 + 0 ≤ _)⟩)
  dsimp only [Pt.U, Pt.locs, Pt.cells, Pt.slots] at X334 l334 y334 z334 st334 hQ334
  subst l334 y334 z334
  obtain ⟨rv334, N334q, e334⟩ := hQ334
  subst rv334
  have N334 := Fr.app N0 N334q
  obtain ⟨T335, h335, k335, X335, e335, E335, A335, st335⟩ := newP X334 hx hZ (hw _ (tk 0 rfl)) e334 (g := (mkF m 10 (lt21 r0 (0 : Int32) ((0 : Int32) + (((4 : Int32) - (1 : Int32)) + (-1 : Int32))) (((0 : Int32) + (((4 : Int32) - (1 : Int32)) + (-1 : Int32))) - (0 : Int32))) [(.int (((0 : Int32) + (((4 : Int32) - (1 : Int32)) + (-1 : Int32))) - (0 : Int32)))])) rfl (hb hby d12_10) rfl (by decide) (cap := 2) (by decide) (by decide) (by decide) (by decide)
  obtain ⟨b335, g335⟩ : ∃ z, z = h0.size := ⟨_, rfl⟩
  rw [← g335] at A335 st335
  have g_b335 : n0 ≤ b335 := Nat.le_trans (own_old O0) (Nat.le_of_eq g335.symm)
  have sz_b335 : h0.size ≤ b335 := Nat.le_trans (Keep.refl h0 []).1 (Nat.le_of_eq g335.symm)
  have ne_r0_b335 : r0 ≠ b335 := Nat.ne_of_lt (Nat.lt_of_lt_of_le V_r0.lt (Nat.le_of_eq g335.symm))
  have O335 : Old Z n0 h335 := O0.ext E335
  have K335 : Keep h0 h335 [] := (Keep.refl h0 []).ext E335
  have V_b335 : Arv Z h335 b335 k335 .byte (((0 : Int32) + (((4 : Int32) - (1 : Int32)) + (-1 : Int32))) - (0 : Int32)) [(.int (0 : Int32)), (.int (0 : Int32))] (.int (0 : Int32)) := (Arv.new A335 (by decide)).pad (pad_rep [] (.int (0 : Int32)) 2)
  have c336 := (V_r0.ext E335)
  obtain ⟨cl337, Ar337, qa337, Sa337, Ma337, Ha337, Ga337⟩ := id c336
  obtain ⟨_, _, ⟨T338, L338, k338, n338⟩, -, X338, ⟨Lc338, hQ338, l338, y338, z338⟩, st338⟩ := Jvm.LawKit.callS X335 hx (y := Y32) hown (mvT hZ (hw _ (tk 68 rfl))) (mvT hZ (hw _ (tk 69 rfl))) (mvT hZ (hw _ (tk 70 rfl))) (mvT hZ (hw _ (tk 71 rfl))) (by decide) (backOf (W := 4) (rm14 l Z a0 hw hv [] w_1 w_2 w_4 w_5 hS0 ((4 : Int32) - (0 : Int32)) (((0 : Int32) + (((4 : Int32) - (1 : Int32)) + (-1 : Int32))) - (0 : Int32)) h335 n0 O335) hZ (hw _ (tk 71 rfl)) (hw _ (tk 70 rfl)) (by decide) (by decide)) (g := (mkF m 24 (lt22 r0 (0 : Int32) ((0 : Int32) + (((4 : Int32) - (1 : Int32)) + (-1 : Int32))) (((0 : Int32) + (((4 : Int32) - (1 : Int32)) + (-1 : Int32))) - (0 : Int32)) b335) [(.int (((0 : Int32) + (((4 : Int32) - (1 : Int32)) + (-1 : Int32))) - (0 : Int32))), (.int ((4 : Int32) - (0 : Int32))), (.int (0 : Int32)), (.ref b335), (.int (0 : Int32)), (.ref r0)])) rfl (by rw [hml]; rfl) (argsL := [(.int ((4 : Int32) - (0 : Int32))), (.int (((0 : Int32) + (((4 : Int32) - (1 : Int32)) + (-1 : Int32))) - (0 : Int32)))]) (rest := [(.int (0 : Int32)), (.ref b335), (.int (0 : Int32)), (.ref r0)]) (lenOf pd_10 rfl) rfl (by show 2 * 0 + _ ≤ _; exact Nat.le_of_eq rfl) (hb hby d12_24) (fun _ _ => ⟨rfl, e335, (by decide : 1 + 0 ≤ _), (by decide : 2 + 0 ≤ _)⟩)
  dsimp only [Pt.U, Pt.locs, Pt.cells, Pt.slots] at X338 l338 y338 z338 st338 hQ338
  subst l338 y338 z338
  obtain ⟨rv338, N338q, e338⟩ := hQ338
  rw [show sp14 ((4 : Int32) - (0 : Int32)) (((0 : Int32) + (((4 : Int32) - (1 : Int32)) + (-1 : Int32))) - (0 : Int32)) = (((0 : Int32) + (((4 : Int32) - (1 : Int32)) + (-1 : Int32))) - (0 : Int32)) from by unfold sp14; rw [if_pos (by decide : ((((0 : Int32) + (((4 : Int32) - (1 : Int32)) + (-1 : Int32))) - (0 : Int32)) < ((4 : Int32) - (0 : Int32))))]] at rv338
  subst rv338
  have N338 := Fr.app N334 N338q
  obtain ⟨T339, h339, L339, X339, e339, N339, K339c, Va339, st339⟩ := cpA X338 hx hZ hown (hw _ (tk 72 rfl)) (hw _ (tk 75 rfl)) (hw _ (tk 73 rfl)) (hw _ (tk 74 rfl)) e338 c336 V_b335 (us := [(.int x_r0_0), (.int x_r0_1)]) (Or.inl ⟨rfl, rfl⟩) (sp := (0 : Int32)) (dp := (0 : Int32)) (nn := (((0 : Int32) + (((4 : Int32) - (1 : Int32)) + (-1 : Int32))) - (0 : Int32))) (by decide) (by decide) (by decide) (by decide) (by decide) rfl (Nat.le_of_ble_eq_true rfl) N338 g_b335 (g := (mkF m 27 (lt22 r0 (0 : Int32) ((0 : Int32) + (((4 : Int32) - (1 : Int32)) + (-1 : Int32))) (((0 : Int32) + (((4 : Int32) - (1 : Int32)) + (-1 : Int32))) - (0 : Int32)) b335) [(.int (((0 : Int32) + (((4 : Int32) - (1 : Int32)) + (-1 : Int32))) - (0 : Int32))), (.int (0 : Int32)), (.ref b335), (.int (0 : Int32)), (.ref r0)])) rfl (by rw [hml]; rfl) rfl (hb hby d12_27) (by decide) (W := 0) (by show 2 * 0 + _ ≤ _; exact Nat.le_of_eq rfl) (by decide)
  have O339 : Old Z n0 h339 := O335.keep K339c (allS g_b335 all0)
  have K339 : Keep h0 h339 [] := K335.trans K339c (allS (Or.inr sz_b335) all0)
  have Vb339 : Arv Z h339 b335 k335 .byte (((0 : Int32) + (((4 : Int32) - (1 : Int32)) + (-1 : Int32))) - (0 : Int32)) [(.int x_r0_0), (.int x_r0_1)] (.int (0 : Int32)) := Va339
  obtain ⟨fs, hr, hrun, hended, hW, hsame⟩ := X339.leave (v := some (.ref b335)) (fun h => by rw [Bd.returns] at h; cases h)
  refine ⟨_, _, pre0 _ ?_, hrun, hended, _, _, rfl, ?_, ⟨_, rfl⟩, hW, hsame.mono (by decide) (by decide)⟩
  · show Sp p e below s₁ (mkF m 0 (lt19 r0 (0 : Int32) ((0 : Int32) + (((4 : Int32) - (1 : Int32)) + (-1 : Int32)))) []) _
    refine XS.iloadN X0.here hx rfl (hb hby d12_0) rfl ?_
    refine XS.iloadN X0.here hx rfl (hb hby d12_1) rfl ?_
    show Sp p e below s₁ (mkF m 2 (lt19 r0 (0 : Int32) ((0 : Int32) + (((4 : Int32) - (1 : Int32)) + (-1 : Int32)))) [(.int ((0 : Int32) + (((4 : Int32) - (1 : Int32)) + (-1 : Int32)))), (.int (0 : Int32))]) _
    refine st334 _ ?_
    show Sp p e below T334 (mkF m 5 (lt19 r0 (0 : Int32) ((0 : Int32) + (((4 : Int32) - (1 : Int32)) + (-1 : Int32)))) []) _
    refine XS.iloadN X334.here hx rfl (hb hby d12_5) rfl ?_
    refine XS.iloadN X334.here hx rfl (hb hby d12_6) rfl ?_
    show Sp p e below T334 (mkF m 7 (lt19 r0 (0 : Int32) ((0 : Int32) + (((4 : Int32) - (1 : Int32)) + (-1 : Int32)))) [(.int (0 : Int32)), (.int ((0 : Int32) + (((4 : Int32) - (1 : Int32)) + (-1 : Int32))))]) _
    refine XS.isub X334.here hx rfl (hb hby d12_7) rfl ?_
    refine XS.istoreN X334.here hx rfl (hb hby d12_8) rfl (l' := (lt21 r0 (0 : Int32) ((0 : Int32) + (((4 : Int32) - (1 : Int32)) + (-1 : Int32))) (((0 : Int32) + (((4 : Int32) - (1 : Int32)) + (-1 : Int32))) - (0 : Int32)))) rfl ?_
    show Sp p e below T334 (mkF m 9 (lt21 r0 (0 : Int32) ((0 : Int32) + (((4 : Int32) - (1 : Int32)) + (-1 : Int32))) (((0 : Int32) + (((4 : Int32) - (1 : Int32)) + (-1 : Int32))) - (0 : Int32))) []) _
    refine XS.iloadN X334.here hx rfl (hb hby d12_9) rfl ?_
    show Sp p e below T334 (mkF m 10 (lt21 r0 (0 : Int32) ((0 : Int32) + (((4 : Int32) - (1 : Int32)) + (-1 : Int32))) (((0 : Int32) + (((4 : Int32) - (1 : Int32)) + (-1 : Int32))) - (0 : Int32))) [(.int (((0 : Int32) + (((4 : Int32) - (1 : Int32)) + (-1 : Int32))) - (0 : Int32)))]) _
    refine st335 _ ?_
    show Sp p e below T335 (mkF m 12 (lt21 r0 (0 : Int32) ((0 : Int32) + (((4 : Int32) - (1 : Int32)) + (-1 : Int32))) (((0 : Int32) + (((4 : Int32) - (1 : Int32)) + (-1 : Int32))) - (0 : Int32))) [(.ref b335)]) _
    refine XS.astore X335.here hx rfl (hb hby d12_12) rfl rfl (l' := (lt22 r0 (0 : Int32) ((0 : Int32) + (((4 : Int32) - (1 : Int32)) + (-1 : Int32))) (((0 : Int32) + (((4 : Int32) - (1 : Int32)) + (-1 : Int32))) - (0 : Int32)) b335)) rfl ?_
    refine XS.aloadN X335.here hx rfl (hb hby d12_14) rfl rfl ?_
    show Sp p e below T335 (mkF m 15 (lt22 r0 (0 : Int32) ((0 : Int32) + (((4 : Int32) - (1 : Int32)) + (-1 : Int32))) (((0 : Int32) + (((4 : Int32) - (1 : Int32)) + (-1 : Int32))) - (0 : Int32)) b335) [(.ref r0)]) _
    refine XS.iloadN X335.here hx rfl (hb hby d12_15) rfl ?_
    refine XS.aload X335.here hx rfl (hb hby d12_16) rfl rfl ?_
    show Sp p e below T335 (mkF m 18 (lt22 r0 (0 : Int32) ((0 : Int32) + (((4 : Int32) - (1 : Int32)) + (-1 : Int32))) (((0 : Int32) + (((4 : Int32) - (1 : Int32)) + (-1 : Int32))) - (0 : Int32)) b335) [(.ref b335), (.int (0 : Int32)), (.ref r0)]) _
    refine XS.iconst X335.here hx rfl (hb hby d12_18) ?_
    refine XS.aloadN X335.here hx rfl (hb hby d12_19) rfl rfl ?_
    show Sp p e below T335 (mkF m 20 (lt22 r0 (0 : Int32) ((0 : Int32) + (((4 : Int32) - (1 : Int32)) + (-1 : Int32))) (((0 : Int32) + (((4 : Int32) - (1 : Int32)) + (-1 : Int32))) - (0 : Int32)) b335) [(.ref r0), (.int (0 : Int32)), (.ref b335), (.int (0 : Int32)), (.ref r0)]) _
    refine X335.arraylength hx (by rw [e335]; exact Ar337.1) (State.isArrayOf_alike hZ.alike Ar337.2.1) (g := (mkF m 20 (lt22 r0 (0 : Int32) ((0 : Int32) + (((4 : Int32) - (1 : Int32)) + (-1 : Int32))) (((0 : Int32) + (((4 : Int32) - (1 : Int32)) + (-1 : Int32))) - (0 : Int32)) b335) [(.ref r0), (.int (0 : Int32)), (.ref b335), (.int (0 : Int32)), (.ref r0)])) rfl rfl (hb hby d12_20) _ ?_
    rw [len_of Sa337 Ma337]
    show Sp p e below T335 (mkF m 21 (lt22 r0 (0 : Int32) ((0 : Int32) + (((4 : Int32) - (1 : Int32)) + (-1 : Int32))) (((0 : Int32) + (((4 : Int32) - (1 : Int32)) + (-1 : Int32))) - (0 : Int32)) b335) [(.int (4 : Int32)), (.int (0 : Int32)), (.ref b335), (.int (0 : Int32)), (.ref r0)]) _
    refine XS.iloadN X335.here hx rfl (hb hby d12_21) rfl ?_
    refine XS.isub X335.here hx rfl (hb hby d12_22) rfl ?_
    show Sp p e below T335 (mkF m 23 (lt22 r0 (0 : Int32) ((0 : Int32) + (((4 : Int32) - (1 : Int32)) + (-1 : Int32))) (((0 : Int32) + (((4 : Int32) - (1 : Int32)) + (-1 : Int32))) - (0 : Int32)) b335) [(.int ((4 : Int32) - (0 : Int32))), (.int (0 : Int32)), (.ref b335), (.int (0 : Int32)), (.ref r0)]) _
    refine XS.iloadN X335.here hx rfl (hb hby d12_23) rfl ?_
    show Sp p e below T335 (mkF m 24 (lt22 r0 (0 : Int32) ((0 : Int32) + (((4 : Int32) - (1 : Int32)) + (-1 : Int32))) (((0 : Int32) + (((4 : Int32) - (1 : Int32)) + (-1 : Int32))) - (0 : Int32)) b335) [(.int (((0 : Int32) + (((4 : Int32) - (1 : Int32)) + (-1 : Int32))) - (0 : Int32))), (.int ((4 : Int32) - (0 : Int32))), (.int (0 : Int32)), (.ref b335), (.int (0 : Int32)), (.ref r0)]) _
    refine st338 _ ?_
    show Sp p e below T338 (mkF m 27 (lt22 r0 (0 : Int32) ((0 : Int32) + (((4 : Int32) - (1 : Int32)) + (-1 : Int32))) (((0 : Int32) + (((4 : Int32) - (1 : Int32)) + (-1 : Int32))) - (0 : Int32)) b335) [(.int (((0 : Int32) + (((4 : Int32) - (1 : Int32)) + (-1 : Int32))) - (0 : Int32))), (.int (0 : Int32)), (.ref b335), (.int (0 : Int32)), (.ref r0)]) _
    refine st339 _ ?_
    show Sp p e below T339 (mkF m 30 (lt22 r0 (0 : Int32) ((0 : Int32) + (((4 : Int32) - (1 : Int32)) + (-1 : Int32))) (((0 : Int32) + (((4 : Int32) - (1 : Int32)) + (-1 : Int32))) - (0 : Int32)) b335) []) _
    refine XS.aload X339.here hx rfl (hb hby d12_30) rfl rfl ?_
    show Sp p e below T339 (mkF m 32 (lt22 r0 (0 : Int32) ((0 : Int32) + (((4 : Int32) - (1 : Int32)) + (-1 : Int32))) (((0 : Int32) + (((4 : Int32) - (1 : Int32)) + (-1 : Int32))) - (0 : Int32)) b335) [(.ref b335)]) _
    jvm_step X339.here [X339.here.top, hx, (hb hby d12_32), X339.method', Bd.returns, Value.isRef, FieldType.isReference]
    first | (intro acts; rw [hr _ acts rfl rfl rfl]) | rw [hr _ _ rfl rfl rfl]
    exact Steps.refl _
  · show Q12x4 Z w_1 w_2 w_4 w_5 r0 k_r0 x_r0_0 x_r0_1 x_r0_2 x_r0_3 h0 n0 _ T339.heap _
    rw [e339]
    exact ⟨b335, k335, rfl, N339, O339, K339, g_b335, sz_b335, Vb339⟩
theorem pn_11x4 : plainName "java/util/Arrays" = true := by first | (simp [plainName, overriddenIn]; done) | decide +kernel
theorem ef_11x4 (m : MethodId) (r0 : Addr) : entryFrame m #[(.ref r0), (.int (0 : Int32)), (.int ((0 : Int32) + (((4 : Int32) - (1 : Int32)) + (-1 : Int32))))] 3 = mkF m 0 #[.val (.ref r0), .val (.int (0 : Int32)), .val (.int ((0 : Int32) + (((4 : Int32) - (1 : Int32)) + (-1 : Int32))))] [] := by first | (simp [entryFrame, mkF, argsToLocals, Value.category]; done) | rfl
def Q11x4 (Z : State) (w_1 : Addr) (w_2 : Addr) (w_4 : Int32) (w_5 : Value) (r0 : Addr) (k_r0 : ClassId) (x_r0_0 : Int32) (x_r0_1 : Int32) (x_r0_2 : Int32) (x_r0_3 : Int32) (h0 : Heap) (n0 : Nat) (v : Option Value) (h : Heap) (L : List Loc) : Prop := ∃ (b341 : Addr) (k342 : ClassId), v = some (.ref b341) ∧ Fr n0 L ∧ Old Z n0 h ∧ Keep h0 h [] ∧ n0 ≤ b341 ∧ h0.size ≤ b341 ∧ Arv Z h b341 k342 .byte (((0 : Int32) + (((4 : Int32) - (1 : Int32)) + (-1 : Int32))) - (0 : Int32)) [(.int x_r0_0), (.int x_r0_1)] (.int (0 : Int32))
set_option maxRecDepth 65536 in
set_option maxHeartbeats 40000000 in
theorem rm11x4 (l : Launch) (Z : State) (a0 : Array Value) (hw : ∀ d ∈ tables_1, d.before a0 Z = true) (hv : ∀ d ∈ jdkStatics_1, d.before a0 Z = true) (ws : List Jvm.Cond) (w_1 : Addr) (w_2 : Addr) (w_4 : Int32) (w_5 : Value) (hS : StF Z w_1 w_2 w_4 w_5) (r0 : Addr) (k_r0 : ClassId) (x_r0_0 : Int32) (x_r0_1 : Int32) (x_r0_2 : Int32) (x_r0_3 : Int32) (h0 : Heap) (n0 : Nat) (O0 : Old Z n0 h0) (g_r0 : n0 ≤ r0) (V_r0 : Arv Z h0 r0 k_r0 .byte (4 : Int32) [(.int x_r0_0), (.int x_r0_1), (.int x_r0_2), (.int x_r0_3)] (.int (0 : Int32))) :
    MetFree l Y34 (head1 (Jvm.Cond.code Y34 jdk_65_method_132_code 3 (some (.array .byte)) :: ws) ({ frames := 2, cells := 1, slots := 2, locals := 34 } : Room)) (fun a U => a = #[(.ref r0), (.int (0 : Int32)), (.int ((0 : Int32) + (((4 : Int32) - (1 : Int32)) + (-1 : Int32))))] ∧ Z.Warmed39 U.vm ∧ U.heap = h0) (fun _ _ _ _ _ => True) (fun _ U o U' => ∃ v L, o = .returned v ∧ Q11x4 Z w_1 w_2 w_4 w_5 r0 k_r0 x_r0_0 x_r0_1 x_r0_2 x_r0_3 h0 n0 v U'.heap L ∧ FrameEnd U o U' L ({ frames := 2, cells := 1, slots := 2, locals := 34 } : Room).cells ({ frames := 2, cells := 1, slots := 2, locals := 34 } : Room).slots) := by
  refine MetFree.of_bodySF (plainFor_of_name pn_11x4) hisR ?_
  intro p e s m args below meth c s₁ Bd hml0 hP hK
  obtain ⟨rfl, hZ, hh⟩ := hP
  have hx := Bd.exec
  have hby := Bd.bytes
  have hml : c.maxLocals = 3 := hml0
  have hown : s.vm.findClass "java/util/Arrays" = some m.cls := findClass_of_methodNamed Bd.named
  have hnm := (name_of_methodNamed Bd.named Bd.method).1
  have X0 : Stand p l e ({ frames := 2, cells := 1, slots := 2, locals := 34 } : Room) s m #[(.ref r0), (.int (0 : Int32)), (.int ((0 : Int32) + (((4 : Int32) - (1 : Int32)) + (-1 : Int32))))] below meth c s₁ [] 0 0 := Stand.of_body Bd
  have e0 : s₁.heap = h0 := by rw [← hh, Bd.state]; rfl
  have N0 := Fr.nil n0
  have hS0 := hS
  obtain ⟨S_1, E_1, S_2, E_2, S_3, E_3, S_4, NE_4, S_5, IR_5⟩ := hS
  have pre0 : ∀ t, Steps p.tables e below (s₁.setTop (mkF m 0 #[.val (.ref r0), .val (.int (0 : Int32)), .val (.int ((0 : Int32) + (((4 : Int32) - (1 : Int32)) + (-1 : Int32))))] [])) t → Steps p.tables e below (s₁.setTop (entryFrame m #[(.ref r0), (.int (0 : Int32)), (.int ((0 : Int32) + (((4 : Int32) - (1 : Int32)) + (-1 : Int32))))] 3)) t := fun t k => castTop (ef_11x4 m r0) k
  generalize hE0 : s₁.setTop (entryFrame m #[(.ref r0), (.int (0 : Int32)), (.int ((0 : Int32) + (((4 : Int32) - (1 : Int32)) + (-1 : Int32))))] 3) = E0 at pre0 ⊢
  obtain ⟨cl333, Ar333, qa333, Sa333, Ma333, Ha333, Ga333⟩ := id V_r0
  obtain ⟨_, _, ⟨T340, L340, k340, n340⟩, -, X340, ⟨Lc340, hQ340, l340, y340, z340⟩, st340⟩ := Jvm.LawKit.callS X0 hx (y := Y33) hown (mvT hZ (hw _ (tk 62 rfl))) (mvT hZ (hw _ (tk 63 rfl))) (mvT hZ (hw _ (tk 60 rfl))) (mvT hZ (hw _ (tk 64 rfl))) (by decide) (backOf (W := 0) (rm12x4 l Z a0 hw hv [] w_1 w_2 w_4 w_5 hS0 r0 k_r0 x_r0_0 x_r0_1 x_r0_2 x_r0_3 h0 n0 O0 g_r0 V_r0) hZ (hw _ (tk 64 rfl)) (hw _ (tk 60 rfl)) (by decide) (by decide)) (g := (mkF m 13 (lt18 r0 (0 : Int32) ((0 : Int32) + (((4 : Int32) - (1 : Int32)) + (-1 : Int32)))) [(.int ((0 : Int32) + (((4 : Int32) - (1 : Int32)) + (-1 : Int32)))), (.int (0 : Int32)), (.ref r0)])) rfl (by rw [hml]; rfl) (argsL := [(.ref r0), (.int (0 : Int32)), (.int ((0 : Int32) + (((4 : Int32) - (1 : Int32)) + (-1 : Int32))))]) (rest := []) (lenOf pd_11 rfl) rfl (by show 2 * 0 + _ ≤ _; exact Nat.le_of_eq rfl) (hb hby d11_13) (fun _ _ => ⟨rfl, e0, (by decide : 0 + 1 ≤ _), (by decide : 0 + 2 ≤ _)⟩)
  dsimp only [Pt.U, Pt.locs, Pt.cells, Pt.slots] at X340 l340 y340 z340 st340 hQ340
  subst l340 y340 z340
  obtain ⟨b341, k342, rv340, N340q, O340, K340c, Fx340_0, Fx340_1, Fx340_2⟩ := hQ340
  subst rv340
  have N340 := Fr.app N0 N340q
  have K340 : Keep h0 T340.heap [] := (Keep.refl h0 []).trans K340c all0
  have g_b341 := Fx340_0
  have sz_b341 : h0.size ≤ b341 := Nat.le_trans (Keep.refl h0 []).1 Fx340_1
  have ne_r0_b341 : r0 ≠ b341 := Nat.ne_of_lt (Nat.lt_of_lt_of_le V_r0.lt Fx340_1)
  obtain ⟨fs, hr, hrun, hended, hW, hsame⟩ := X340.leave (v := some (.ref b341)) (fun h => by rw [Bd.returns] at h; cases h)
  refine ⟨_, _, pre0 _ ?_, hrun, hended, _, _, rfl, ?_, ⟨_, rfl⟩, hW, hsame.mono (by decide) (by decide)⟩
  · show Sp p e below s₁ (mkF m 0 (lt18 r0 (0 : Int32) ((0 : Int32) + (((4 : Int32) - (1 : Int32)) + (-1 : Int32)))) []) _
    refine XS.iloadN X0.here hx rfl (hb hby d11_0) rfl ?_
    show Sp p e below s₁ (mkF m 1 (lt18 r0 (0 : Int32) ((0 : Int32) + (((4 : Int32) - (1 : Int32)) + (-1 : Int32)))) [(.int (0 : Int32))]) _
    refine XS.ifNo X0.here hx rfl (hb hby d11_1) rfl ((if0 _ _).trans (teq (by decide : ((0 : Int32) = (0 : Int32)))).2) ?_
    show Sp p e below s₁ (mkF m 4 (lt18 r0 (0 : Int32) ((0 : Int32) + (((4 : Int32) - (1 : Int32)) + (-1 : Int32)))) []) _
    refine XS.iloadN X0.here hx rfl (hb hby d11_4) rfl ?_
    refine XS.aloadN X0.here hx rfl (hb hby d11_5) rfl rfl ?_
    show Sp p e below s₁ (mkF m 6 (lt18 r0 (0 : Int32) ((0 : Int32) + (((4 : Int32) - (1 : Int32)) + (-1 : Int32)))) [(.ref r0), (.int ((0 : Int32) + (((4 : Int32) - (1 : Int32)) + (-1 : Int32))))]) _
    refine X0.arraylength hx (by rw [e0]; exact Ar333.1) (State.isArrayOf_alike hZ.alike Ar333.2.1) (g := (mkF m 6 (lt18 r0 (0 : Int32) ((0 : Int32) + (((4 : Int32) - (1 : Int32)) + (-1 : Int32)))) [(.ref r0), (.int ((0 : Int32) + (((4 : Int32) - (1 : Int32)) + (-1 : Int32))))])) rfl rfl (hb hby d11_6) _ ?_
    rw [len_of Sa333 Ma333]
    show Sp p e below s₁ (mkF m 7 (lt18 r0 (0 : Int32) ((0 : Int32) + (((4 : Int32) - (1 : Int32)) + (-1 : Int32)))) [(.int (4 : Int32)), (.int ((0 : Int32) + (((4 : Int32) - (1 : Int32)) + (-1 : Int32))))]) _
    refine XS.icmpNo X0.here hx rfl (hb hby d11_7) rfl (feq (by decide : ¬ (((0 : Int32) + (((4 : Int32) - (1 : Int32)) + (-1 : Int32))) = (4 : Int32)))).1 ?_
    show Sp p e below s₁ (mkF m 10 (lt18 r0 (0 : Int32) ((0 : Int32) + (((4 : Int32) - (1 : Int32)) + (-1 : Int32)))) []) _
    refine XS.aloadN X0.here hx rfl (hb hby d11_10) rfl rfl ?_
    refine XS.iloadN X0.here hx rfl (hb hby d11_11) rfl ?_
    show Sp p e below s₁ (mkF m 12 (lt18 r0 (0 : Int32) ((0 : Int32) + (((4 : Int32) - (1 : Int32)) + (-1 : Int32)))) [(.int (0 : Int32)), (.ref r0)]) _
    refine XS.iloadN X0.here hx rfl (hb hby d11_12) rfl ?_
    show Sp p e below s₁ (mkF m 13 (lt18 r0 (0 : Int32) ((0 : Int32) + (((4 : Int32) - (1 : Int32)) + (-1 : Int32)))) [(.int ((0 : Int32) + (((4 : Int32) - (1 : Int32)) + (-1 : Int32)))), (.int (0 : Int32)), (.ref r0)]) _
    refine st340 _ ?_
    show Sp p e below T340 (mkF m 16 (lt18 r0 (0 : Int32) ((0 : Int32) + (((4 : Int32) - (1 : Int32)) + (-1 : Int32)))) [(.ref b341)]) _
    jvm_step X340.here [X340.here.top, hx, (hb hby d11_16), X340.method', Bd.returns, Value.isRef, FieldType.isReference]
    first | (intro acts; rw [hr _ acts rfl rfl rfl]) | rw [hr _ _ rfl rfl rfl]
    exact Steps.refl _
  · show Q11x4 Z w_1 w_2 w_4 w_5 r0 k_r0 x_r0_0 x_r0_1 x_r0_2 x_r0_3 h0 n0 _ T340.heap _
    exact ⟨b341, k342, rfl, N340, O340, K340, g_b341, sz_b341, Fx340_2⟩
theorem pn_8x6 : plainName "java/lang/String" = true := by first | (simp [plainName, overriddenIn]; done) | decide +kernel
theorem ef_8x6 (m : MethodId) (r0 : Addr) (w_1 : Addr) (r2 : Addr) : entryFrame m #[(.ref r0), (.ref w_1), (.ref r2), (.int (0 : Int32)), (.int (((4 : Int32) - (1 : Int32)) + (-1 : Int32)))] 11 = mkF m 0 #[.val (.ref r0), .val (.ref w_1), .val (.ref r2), .val (.int (0 : Int32)), .val (.int (((4 : Int32) - (1 : Int32)) + (-1 : Int32))), .unset, .unset, .unset, .unset, .unset, .unset] [] := by first | (simp [entryFrame, mkF, argsToLocals, Value.category]; done) | rfl
def Q8x6 (Z : State) (w_1 : Addr) (w_2 : Addr) (w_4 : Int32) (w_5 : Value) (r0 : Addr) (r2 : Addr) (k_r2 : ClassId) (x_r2_0 : Int32) (x_r2_1 : Int32) (x_r2_2 : Int32) (x_r2_3 : Int32) (h0 : Heap) (n0 : Nat) (v : Option Value) (h : Heap) (L : List Loc) : Prop := ∃ (b344 : Addr) (k345 : ClassId), v = none ∧ Fr n0 L ∧ Old Z n0 h ∧ Keep h0 h [r0] ∧ Fld Z h r0 "java/lang/String" "coder" "B" (.int (0 : Int32)) ∧ Fld Z h r0 "java/lang/String" "value" "[B" (.ref b344) ∧ n0 ≤ b344 ∧ h0.size ≤ b344 ∧ Arv Z h b344 k345 .byte (((0 : Int32) + (((4 : Int32) - (1 : Int32)) + (-1 : Int32))) - (0 : Int32)) [(.int x_r2_0), (.int x_r2_1)] (.int (0 : Int32))
set_option maxRecDepth 65536 in
set_option maxHeartbeats 40000000 in
theorem rm8x6 (l : Launch) (Z : State) (a0 : Array Value) (hw : ∀ d ∈ tables_1, d.before a0 Z = true) (hv : ∀ d ∈ jdkStatics_1, d.before a0 Z = true) (ws : List Jvm.Cond) (w_1 : Addr) (w_2 : Addr) (w_4 : Int32) (w_5 : Value) (hS : StF Z w_1 w_2 w_4 w_5) (r0 : Addr) (r2 : Addr) (k_r2 : ClassId) (x_r2_0 : Int32) (x_r2_1 : Int32) (x_r2_2 : Int32) (x_r2_3 : Int32) (h0 : Heap) (n0 : Nat) (O0 : Old Z n0 h0) (g_r0 : n0 ≤ r0) (g_r2 : n0 ≤ r2) (E_r0 : Exa Z h0 r0 "java/lang/String") (F_coder_r0 : Fld Z h0 r0 "java/lang/String" "coder" "B" (.int (0 : Int32))) (F_value_r0 : Fld Z h0 r0 "java/lang/String" "value" "[B" .null) (V_r2 : Arv Z h0 r2 k_r2 .byte (4 : Int32) [(.int x_r2_0), (.int x_r2_1), (.int x_r2_2), (.int x_r2_3)] (.int (0 : Int32))) (ne_r0_r2 : r0 ≠ r2) :
    MetFree l Y21 (head1 (Jvm.Cond.codeWith Y21 jdk_42_method_11_code 11 none [(800, 813, 816, 202)] :: ws) ({ frames := 3, cells := 1, slots := 2, locals := 49 } : Room)) (fun a U => a = #[(.ref r0), (.ref w_1), (.ref r2), (.int (0 : Int32)), (.int (((4 : Int32) - (1 : Int32)) + (-1 : Int32)))] ∧ Z.Warmed39 U.vm ∧ U.heap = h0) (fun _ _ _ _ _ => True) (fun _ U o U' => ∃ v L, o = .returned v ∧ Q8x6 Z w_1 w_2 w_4 w_5 r0 r2 k_r2 x_r2_0 x_r2_1 x_r2_2 x_r2_3 h0 n0 v U'.heap L ∧ FrameEnd U o U' L ({ frames := 3, cells := 1, slots := 2, locals := 49 } : Room).cells ({ frames := 3, cells := 1, slots := 2, locals := 49 } : Room).slots) := by
  refine MetFree.of_bodySF (plainFor_of_name pn_8x6) hisWith ?_
  intro p e s m args below meth c s₁ Bd hml0 hP hK
  obtain ⟨rfl, hZ, hh⟩ := hP
  have hx := Bd.exec
  have hby := Bd.bytes
  have hml : c.maxLocals = 11 := hml0
  have hown : s.vm.findClass "java/lang/String" = some m.cls := findClass_of_methodNamed Bd.named
  have hnm := (name_of_methodNamed Bd.named Bd.method).1
  have X0 : Stand p l e ({ frames := 3, cells := 1, slots := 2, locals := 49 } : Room) s m #[(.ref r0), (.ref w_1), (.ref r2), (.int (0 : Int32)), (.int (((4 : Int32) - (1 : Int32)) + (-1 : Int32)))] below meth c s₁ [] 0 0 := Stand.of_body Bd
  have e0 : s₁.heap = h0 := by rw [← hh, Bd.state]; rfl
  have N0 := Fr.nil n0
  have hS0 := hS
  obtain ⟨S_1, E_1, S_2, E_2, S_3, E_3, S_4, NE_4, S_5, IR_5⟩ := hS
  have pre0 : ∀ t, Steps p.tables e below (s₁.setTop (mkF m 0 #[.val (.ref r0), .val (.ref w_1), .val (.ref r2), .val (.int (0 : Int32)), .val (.int (((4 : Int32) - (1 : Int32)) + (-1 : Int32))), .unset, .unset, .unset, .unset, .unset, .unset] [])) t → Steps p.tables e below (s₁.setTop (entryFrame m #[(.ref r0), (.ref w_1), (.ref r2), (.int (0 : Int32)), (.int (((4 : Int32) - (1 : Int32)) + (-1 : Int32)))] 11)) t := fun t k => castTop (ef_8x6 m r0 w_1 r2) k
  generalize hE0 : s₁.setTop (entryFrame m #[(.ref r0), (.ref w_1), (.ref r2), (.int (0 : Int32)), (.int (((4 : Int32) - (1 : Int32)) + (-1 : Int32)))] 11) = E0 at pre0 ⊢
  obtain ⟨T329, X329, e329, st329⟩ := initO X0 hx hZ hown (hw _ (tk 38 rfl)) (hw _ (tk 39 rfl)) (hw _ (tk 40 rfl)) e0 (g := (mkF m 1 (lt16 r0 w_1 r2 (0 : Int32) (((4 : Int32) - (1 : Int32)) + (-1 : Int32))) [(.ref r0)])) rfl (by rw [hml]; rfl) rfl (hb hby d8_1) (by decide) (W := 0) (by show 2 * 0 + _ ≤ _; exact Nat.le_of_eq rfl) (by decide)
  obtain ⟨T330, X330, e330, st330⟩ := getS2 X329 hx hZ hown (host := "") (Or.inl (hw _ (tk 53 rfl))) Via.refl e329 (S_2.ext O0.2) (g := (mkF m 31 (lt16 r0 w_1 r2 (0 : Int32) (((4 : Int32) - (1 : Int32)) + (-1 : Int32))) [(.ref w_1)])) rfl (hb hby d8_31)
  obtain ⟨T331, X331, e331, st331⟩ := getS2 X330 hx hZ hown (host := "") (Or.inl (hw _ (tk 55 rfl))) Via.refl e330 (S_3.ext O0.2) (g := (mkF m 347 (lt16 r0 w_1 r2 (0 : Int32) (((4 : Int32) - (1 : Int32)) + (-1 : Int32))) [(.ref w_1)])) rfl (hb hby d8_347)
  obtain ⟨T332, X332, e332, st332⟩ := getS2 X331 hx hZ hown (host := "") (Or.inl (hw _ (tk 57 rfl))) Via.refl e331 (S_4.ext O0.2) (g := (mkF m 353 (lt16 r0 w_1 r2 (0 : Int32) (((4 : Int32) - (1 : Int32)) + (-1 : Int32))) [])) rfl (hb hby d8_353)
  obtain ⟨_, _, ⟨T343, L343, k343, n343⟩, -, X343, ⟨Lc343, hQ343, l343, y343, z343⟩, st343⟩ := Jvm.LawKit.callS X332 hx (y := Y34) hown (mvT hZ (hw _ (tk 58 rfl))) (mvT hZ (hw _ (tk 59 rfl))) (mvT hZ (hw _ (tk 60 rfl))) (mvT hZ (hw _ (tk 61 rfl))) (by decide) (backOf (W := 1) (rm11x4 l Z a0 hw hv [] w_1 w_2 w_4 w_5 hS0 r2 k_r2 x_r2_0 x_r2_1 x_r2_2 x_r2_3 h0 n0 O0 g_r2 V_r2) hZ (hw _ (tk 61 rfl)) (hw _ (tk 60 rfl)) (by decide) (by decide)) (g := (mkF m 366 (lt16 r0 w_1 r2 (0 : Int32) (((4 : Int32) - (1 : Int32)) + (-1 : Int32))) [(.int ((0 : Int32) + (((4 : Int32) - (1 : Int32)) + (-1 : Int32)))), (.int (0 : Int32)), (.ref r2), (.ref r0)])) rfl (by rw [hml]; rfl) (argsL := [(.ref r2), (.int (0 : Int32)), (.int ((0 : Int32) + (((4 : Int32) - (1 : Int32)) + (-1 : Int32))))]) (rest := [(.ref r0)]) (lenOf pd_11 rfl) rfl (by show 2 * 0 + _ ≤ _; exact Nat.le_of_eq rfl) (hb hby d8_366) (fun _ _ => ⟨rfl, e332, (by decide : 0 + 1 ≤ _), (by decide : 0 + 2 ≤ _)⟩)
  dsimp only [Pt.U, Pt.locs, Pt.cells, Pt.slots] at X343 l343 y343 z343 st343 hQ343
  subst l343 y343 z343
  obtain ⟨b344, k345, rv343, N343q, O343, K343c, Fx343_0, Fx343_1, Fx343_2⟩ := hQ343
  subst rv343
  have N343 := Fr.app N0 N343q
  have K343 : Keep h0 T343.heap [r0] := (Keep.refl h0 [r0]).trans K343c all0
  have g_b344 := Fx343_0
  have sz_b344 : h0.size ≤ b344 := Nat.le_trans (Keep.refl h0 [r0]).1 Fx343_1
  have ne_r0_b344 : r0 ≠ b344 := Nat.ne_of_lt (Nat.lt_of_lt_of_le E_r0.lt Fx343_1)
  have ne_r2_b344 : r2 ≠ b344 := Nat.ne_of_lt (Nat.lt_of_lt_of_le V_r2.lt Fx343_1)
  have c346 := (E_r0.keep K343c)
  have c347 := (F_value_r0.keep K343c nin0)
  obtain ⟨T348, h348, X348, e348, W348, st348⟩ := putF X343 hx hZ hown (host := "") (Or.inl (hw _ (tk 46 rfl))) Via.refl rfl c347 c346 (Or.inr ⟨(hw _ (tk 42 rfl)), rfl, hnm⟩) (hw _ (tk 13 rfl)) (ty := (.array .byte)) (by decide) rfl rfl (g := (mkF m 369 (lt16 r0 w_1 r2 (0 : Int32) (((4 : Int32) - (1 : Int32)) + (-1 : Int32))) [(.ref b344), (.ref r0)])) rfl rfl (hb hby d8_369)
  have Fw348 := c347.same W348
  have O348 : Old Z n0 h348 := O343.wr W348 g_r0
  have N348 := Fr.snoc X348 N343 g_r0
  have K348 : Keep h0 h348 [r0] := K343.wr W348 (Or.inl (List.mem_of_getElem? (i := 0) rfl))
  have c349 := (c346.wr W348)
  have c350 := ((F_coder_r0.keep K343c nin0).other W348 (Or.inr (slot_ne (Or.inr (hw _ (tk 43 rfl))) (Or.inr (hw _ (tk 42 rfl))) (by decide) (t := .byte) (t' := (.array .byte)) (by decide) (by decide))))
  obtain ⟨T351, h351, X351, e351, W351, st351⟩ := putFN X348 hx hZ hown (hw _ (tk 47 rfl)) Via.refl e348 c350 c349 (Or.inr ⟨(hw _ (tk 43 rfl)), rfl, hnm⟩) (hw _ (tk 13 rfl)) (ty := .byte) (v' := (.int (0 : Int32))) (by decide) rfl (by decide) (g := (mkF m 374 (lt16 r0 w_1 r2 (0 : Int32) (((4 : Int32) - (1 : Int32)) + (-1 : Int32))) [(.int (0 : Int32)), (.ref r0)])) rfl rfl (hb hby d8_374)
  have Fw351 := c350.same W351
  have O351 : Old Z n0 h351 := O348.wr W351 g_r0
  have N351 := Fr.snoc X351 N348 g_r0
  have K351 : Keep h0 h351 [r0] := K348.wr W351 (Or.inl (List.mem_of_getElem? (i := 0) rfl))
  obtain ⟨fs, hr, hrun, hended, hW, hsame⟩ := X351.leave (v := none) (fun _ => rfl)
  have c352 := ((Fx343_2.other W348 (Ne.symm ne_r0_b344)).other W351 (Ne.symm ne_r0_b344))
  have c353 := (Fw348.other W351 (Or.inr (slot_ne (Or.inr (hw _ (tk 42 rfl))) (Or.inr (hw _ (tk 43 rfl))) (by decide) (t := (.array .byte)) (t' := .byte) (by decide) (by decide))))
  refine ⟨_, _, pre0 _ ?_, hrun, hended, _, _, rfl, ?_, ⟨_, rfl⟩, hW, hsame.mono (by decide) (by decide)⟩
  · show Sp p e below s₁ (mkF m 0 (lt16 r0 w_1 r2 (0 : Int32) (((4 : Int32) - (1 : Int32)) + (-1 : Int32))) []) _
    refine XS.aloadN X0.here hx rfl (hb hby d8_0) rfl rfl ?_
    show Sp p e below s₁ (mkF m 1 (lt16 r0 w_1 r2 (0 : Int32) (((4 : Int32) - (1 : Int32)) + (-1 : Int32))) [(.ref r0)]) _
    refine st329 _ ?_
    show Sp p e below T329 (mkF m 4 (lt16 r0 w_1 r2 (0 : Int32) (((4 : Int32) - (1 : Int32)) + (-1 : Int32))) []) _
    refine XS.iload X329.here hx rfl (hb hby d8_4) rfl ?_
    show Sp p e below T329 (mkF m 6 (lt16 r0 w_1 r2 (0 : Int32) (((4 : Int32) - (1 : Int32)) + (-1 : Int32))) [(.int (((4 : Int32) - (1 : Int32)) + (-1 : Int32)))]) _
    refine XS.ifYes X329.here hx rfl (pc0 := 6) (pc' := 30) rfl (hb hby d8_6) rfl ((if0 _ _).trans (feq (by decide : ¬ ((((4 : Int32) - (1 : Int32)) + (-1 : Int32)) = (0 : Int32)))).2) (by decide) (by decide) ?_
    show Sp p e below T329 (mkF m 30 (lt16 r0 w_1 r2 (0 : Int32) (((4 : Int32) - (1 : Int32)) + (-1 : Int32))) []) _
    refine XS.aloadN X329.here hx rfl (hb hby d8_30) rfl rfl ?_
    show Sp p e below T329 (mkF m 31 (lt16 r0 w_1 r2 (0 : Int32) (((4 : Int32) - (1 : Int32)) + (-1 : Int32))) [(.ref w_1)]) _
    refine st330 _ ?_
    show Sp p e below T330 (mkF m 34 (lt16 r0 w_1 r2 (0 : Int32) (((4 : Int32) - (1 : Int32)) + (-1 : Int32))) [(.ref w_2), (.ref w_1)]) _
    refine Jvm.RoadKit.acmp (g := (mkF m 34 (lt16 r0 w_1 r2 (0 : Int32) (((4 : Int32) - (1 : Int32)) + (-1 : Int32))) [(.ref w_2), (.ref w_1)])) X330 hx rfl rfl rfl (pc0 := 34) (pc' := 346) (same := false) rfl (hb hby d8_34) rfl (decide_eq_false fun q => (ne_exa E_1 E_2 (by decide)) (Value.ref.inj q)) (by decide) (by decide) ?_
    show Sp p e below T330 (mkF m 346 (lt16 r0 w_1 r2 (0 : Int32) (((4 : Int32) - (1 : Int32)) + (-1 : Int32))) []) _
    refine XS.aloadN X330.here hx rfl (hb hby d8_346) rfl rfl ?_
    show Sp p e below T330 (mkF m 347 (lt16 r0 w_1 r2 (0 : Int32) (((4 : Int32) - (1 : Int32)) + (-1 : Int32))) [(.ref w_1)]) _
    refine st331 _ ?_
    show Sp p e below T331 (mkF m 350 (lt16 r0 w_1 r2 (0 : Int32) (((4 : Int32) - (1 : Int32)) + (-1 : Int32))) [(.ref w_1), (.ref w_1)]) _
    refine Jvm.RoadKit.acmp (g := (mkF m 350 (lt16 r0 w_1 r2 (0 : Int32) (((4 : Int32) - (1 : Int32)) + (-1 : Int32))) [(.ref w_1), (.ref w_1)])) X331 hx rfl rfl rfl (pc0 := 350) (pc' := 353) (same := true) rfl (hb hby d8_350) rfl (decide_eq_true (congrArg Value.ref rfl)) (by decide) (by decide) ?_
    show Sp p e below T331 (mkF m 353 (lt16 r0 w_1 r2 (0 : Int32) (((4 : Int32) - (1 : Int32)) + (-1 : Int32))) []) _
    refine st332 _ ?_
    show Sp p e below T332 (mkF m 356 (lt16 r0 w_1 r2 (0 : Int32) (((4 : Int32) - (1 : Int32)) + (-1 : Int32))) [(.int w_4)]) _
    refine XS.ifNo X332.here hx rfl (hb hby d8_356) rfl ((if0 _ _).trans (feq NE_4).1) ?_
    show Sp p e below T332 (mkF m 359 (lt16 r0 w_1 r2 (0 : Int32) (((4 : Int32) - (1 : Int32)) + (-1 : Int32))) []) _
    refine XS.aloadN X332.here hx rfl (hb hby d8_359) rfl rfl ?_
    refine XS.aloadN X332.here hx rfl (hb hby d8_360) rfl rfl ?_
    show Sp p e below T332 (mkF m 361 (lt16 r0 w_1 r2 (0 : Int32) (((4 : Int32) - (1 : Int32)) + (-1 : Int32))) [(.ref r2), (.ref r0)]) _
    refine XS.iloadN X332.here hx rfl (hb hby d8_361) rfl ?_
    refine XS.iloadN X332.here hx rfl (hb hby d8_362) rfl ?_
    show Sp p e below T332 (mkF m 363 (lt16 r0 w_1 r2 (0 : Int32) (((4 : Int32) - (1 : Int32)) + (-1 : Int32))) [(.int (0 : Int32)), (.int (0 : Int32)), (.ref r2), (.ref r0)]) _
    refine XS.iload X332.here hx rfl (hb hby d8_363) rfl ?_
    refine XS.iadd X332.here hx rfl (hb hby d8_365) rfl ?_
    show Sp p e below T332 (mkF m 366 (lt16 r0 w_1 r2 (0 : Int32) (((4 : Int32) - (1 : Int32)) + (-1 : Int32))) [(.int ((0 : Int32) + (((4 : Int32) - (1 : Int32)) + (-1 : Int32)))), (.int (0 : Int32)), (.ref r2), (.ref r0)]) _
    refine st343 _ ?_
    show Sp p e below T343 (mkF m 369 (lt16 r0 w_1 r2 (0 : Int32) (((4 : Int32) - (1 : Int32)) + (-1 : Int32))) [(.ref b344), (.ref r0)]) _
    refine st348 _ ?_
    show Sp p e below T348 (mkF m 372 (lt16 r0 w_1 r2 (0 : Int32) (((4 : Int32) - (1 : Int32)) + (-1 : Int32))) []) _
    refine XS.aloadN X348.here hx rfl (hb hby d8_372) rfl rfl ?_
    refine XS.iconst X348.here hx rfl (hb hby d8_373) ?_
    show Sp p e below T348 (mkF m 374 (lt16 r0 w_1 r2 (0 : Int32) (((4 : Int32) - (1 : Int32)) + (-1 : Int32))) [(.int (0 : Int32)), (.ref r0)]) _
    refine st351 _ ?_
    show Sp p e below T351 (mkF m 377 (lt16 r0 w_1 r2 (0 : Int32) (((4 : Int32) - (1 : Int32)) + (-1 : Int32))) []) _
    refine XS.goto X351.here hx rfl (pc0 := 377) (pc' := 879) rfl (hb hby d8_377) (by decide) (by decide) ?_
    show Sp p e below T351 (mkF m 879 (lt16 r0 w_1 r2 (0 : Int32) (((4 : Int32) - (1 : Int32)) + (-1 : Int32))) []) _
    exact X351.returnOut hx Bd.returns (hb hby d8_879) hr
  · show Q8x6 Z w_1 w_2 w_4 w_5 r0 r2 k_r2 x_r2_0 x_r2_1 x_r2_2 x_r2_3 h0 n0 _ T351.heap _
    rw [e351]
    exact ⟨b344, k345, rfl, N351, O351, K351, Fw351, c353, g_b344, sz_b344, c352⟩
theorem pn_4x6 : plainName "java/lang/String" = true := by first | (simp [plainName, overriddenIn]; done) | decide +kernel
theorem ef_4x6 (m : MethodId) (r0 : Addr) (r1 : Addr) (w_1 : Addr) : entryFrame m #[(.ref r0), (.ref r1), (.int (0 : Int32)), (.int (((4 : Int32) - (1 : Int32)) + (-1 : Int32))), (.ref w_1)] 5 = mkF m 0 #[.val (.ref r0), .val (.ref r1), .val (.int (0 : Int32)), .val (.int (((4 : Int32) - (1 : Int32)) + (-1 : Int32))), .val (.ref w_1)] [] := by first | (simp [entryFrame, mkF, argsToLocals, Value.category]; done) | rfl
def Q4x6 (Z : State) (w_1 : Addr) (w_2 : Addr) (w_4 : Int32) (w_5 : Value) (r0 : Addr) (r1 : Addr) (k_r1 : ClassId) (x_r1_0 : Int32) (x_r1_1 : Int32) (x_r1_2 : Int32) (x_r1_3 : Int32) (h0 : Heap) (n0 : Nat) (v : Option Value) (h : Heap) (L : List Loc) : Prop := ∃ (b355 : Addr) (k356 : ClassId), v = none ∧ Fr n0 L ∧ Old Z n0 h ∧ Keep h0 h [r0] ∧ Fld Z h r0 "java/lang/String" "coder" "B" (.int (0 : Int32)) ∧ Fld Z h r0 "java/lang/String" "value" "[B" (.ref b355) ∧ n0 ≤ b355 ∧ h0.size ≤ b355 ∧ Arv Z h b355 k356 .byte (((0 : Int32) + (((4 : Int32) - (1 : Int32)) + (-1 : Int32))) - (0 : Int32)) [(.int x_r1_0), (.int x_r1_1)] (.int (0 : Int32))
set_option maxRecDepth 65536 in
set_option maxHeartbeats 40000000 in
theorem rm4x6 (l : Launch) (Z : State) (a0 : Array Value) (hw : ∀ d ∈ tables_1, d.before a0 Z = true) (hv : ∀ d ∈ jdkStatics_1, d.before a0 Z = true) (ws : List Jvm.Cond) (w_1 : Addr) (w_2 : Addr) (w_4 : Int32) (w_5 : Value) (hS : StF Z w_1 w_2 w_4 w_5) (r0 : Addr) (r1 : Addr) (k_r1 : ClassId) (x_r1_0 : Int32) (x_r1_1 : Int32) (x_r1_2 : Int32) (x_r1_3 : Int32) (h0 : Heap) (n0 : Nat) (O0 : Old Z n0 h0) (g_r0 : n0 ≤ r0) (g_r1 : n0 ≤ r1) (E_r0 : Exa Z h0 r0 "java/lang/String") (F_coder_r0 : Fld Z h0 r0 "java/lang/String" "coder" "B" (.int (0 : Int32))) (F_value_r0 : Fld Z h0 r0 "java/lang/String" "value" "[B" .null) (V_r1 : Arv Z h0 r1 k_r1 .byte (4 : Int32) [(.int x_r1_0), (.int x_r1_1), (.int x_r1_2), (.int x_r1_3)] (.int (0 : Int32))) (ne_r0_r1 : r0 ≠ r1) :
    MetFree l Y22 (head1 (Jvm.Cond.code Y22 jdk_42_method_10_code 5 none :: ws) ({ frames := 4, cells := 1, slots := 2, locals := 71 } : Room)) (fun a U => a = #[(.ref r0), (.ref r1), (.int (0 : Int32)), (.int (((4 : Int32) - (1 : Int32)) + (-1 : Int32))), (.ref w_1)] ∧ Z.Warmed39 U.vm ∧ U.heap = h0) (fun _ _ _ _ _ => True) (fun _ U o U' => ∃ v L, o = .returned v ∧ Q4x6 Z w_1 w_2 w_4 w_5 r0 r1 k_r1 x_r1_0 x_r1_1 x_r1_2 x_r1_3 h0 n0 v U'.heap L ∧ FrameEnd U o U' L ({ frames := 4, cells := 1, slots := 2, locals := 71 } : Room).cells ({ frames := 4, cells := 1, slots := 2, locals := 71 } : Room).slots) := by
  refine MetFree.of_bodySF (plainFor_of_name pn_4x6) hisR ?_
  intro p e s m args below meth c s₁ Bd hml0 hP hK
  obtain ⟨rfl, hZ, hh⟩ := hP
  have hx := Bd.exec
  have hby := Bd.bytes
  have hml : c.maxLocals = 5 := hml0
  have hown : s.vm.findClass "java/lang/String" = some m.cls := findClass_of_methodNamed Bd.named
  have hnm := (name_of_methodNamed Bd.named Bd.method).1
  have X0 : Stand p l e ({ frames := 4, cells := 1, slots := 2, locals := 71 } : Room) s m #[(.ref r0), (.ref r1), (.int (0 : Int32)), (.int (((4 : Int32) - (1 : Int32)) + (-1 : Int32))), (.ref w_1)] below meth c s₁ [] 0 0 := Stand.of_body Bd
  have e0 : s₁.heap = h0 := by rw [← hh, Bd.state]; rfl
  have N0 := Fr.nil n0
  have hS0 := hS
  obtain ⟨S_1, E_1, S_2, E_2, S_3, E_3, S_4, NE_4, S_5, IR_5⟩ := hS
  have pre0 : ∀ t, Steps p.tables e below (s₁.setTop (mkF m 0 #[.val (.ref r0), .val (.ref r1), .val (.int (0 : Int32)), .val (.int (((4 : Int32) - (1 : Int32)) + (-1 : Int32))), .val (.ref w_1)] [])) t → Steps p.tables e below (s₁.setTop (entryFrame m #[(.ref r0), (.ref r1), (.int (0 : Int32)), (.int (((4 : Int32) - (1 : Int32)) + (-1 : Int32))), (.ref w_1)] 5)) t := fun t k => castTop (ef_4x6 m r0 r1 w_1) k
  generalize hE0 : s₁.setTop (entryFrame m #[(.ref r0), (.ref r1), (.int (0 : Int32)), (.int (((4 : Int32) - (1 : Int32)) + (-1 : Int32))), (.ref w_1)] 5) = E0 at pre0 ⊢
  obtain ⟨_, _, ⟨T323, L323, k323, n323⟩, -, X323, ⟨Lc323, hQ323, l323, y323, z323⟩, st323⟩ := Jvm.LawKit.callS X0 hx (y := Y16) hown (mvT hZ (hw _ (tk 20 rfl))) (mvT hZ (hw _ (tk 21 rfl))) (mvT hZ (hw _ (tk 22 rfl))) (mvT hZ (hw _ (tk 23 rfl))) (by decide) (backOf (W := 1) (rm5x1 l Z a0 hw hv [] w_1 w_2 w_4 w_5 hS0 h0 n0 O0) hZ (hw _ (tk 23 rfl)) (hw _ (tk 22 rfl)) (by decide) (by decide)) (g := (mkF m 3 (lt14 r0 r1 (0 : Int32) (((4 : Int32) - (1 : Int32)) + (-1 : Int32)) w_1) [(.ref w_1), (.ref r0)])) rfl (by rw [hml]; rfl) (argsL := [(.ref w_1)]) (rest := [(.ref r0)]) (lenOf pd_2 rfl) rfl (by show 2 * 0 + _ ≤ _; exact Nat.le_of_eq rfl) (hb hby d4_3) (fun _ _ => ⟨rfl, e0, (by decide : 0 + 0 ≤ _), (by decide : 0 + 0 ≤ _)⟩)
  dsimp only [Pt.U, Pt.locs, Pt.cells, Pt.slots] at X323 l323 y323 z323 st323 hQ323
  subst l323 y323 z323
  obtain ⟨rv323, N323q, e323⟩ := hQ323
  subst rv323
  have N323 := Fr.app N0 N323q
  obtain ⟨T324, X324, e324, st324⟩ := castY X323 hx hZ hown (hw _ (tk 24 rfl)) e323 (Ins.of_exa (E_1.ext O0.2) (hw _ (tk 25 rfl))) (g := (mkF m 6 (lt14 r0 r1 (0 : Int32) (((4 : Int32) - (1 : Int32)) + (-1 : Int32)) w_1) [(.ref w_1), (.ref r0)])) rfl rfl (hb hby d4_6)
  obtain ⟨cl325, Ar325, qa325, Sa325, Ma325, Ha325, Ga325⟩ := id V_r1
  obtain ⟨_, _, ⟨T328, L328, k328, n328⟩, -, X328, ⟨Lc328, hQ328, l328, y328, z328⟩, st328⟩ := Jvm.LawKit.callS X324 hx (y := Y19) hown (mvT hZ (hw _ (tk 26 rfl))) (mvT hZ (hw _ (tk 27 rfl))) (mvT hZ (hw _ (tk 14 rfl))) (mvT hZ (hw _ (tk 28 rfl))) (by decide) (backOf (W := 3) (rm6x6 l Z a0 hw hv [] w_1 w_2 w_4 w_5 hS0 h0 n0 O0) hZ (hw _ (tk 28 rfl)) (hw _ (tk 14 rfl)) (by decide) (by decide)) (g := (mkF m 14 (lt14 r0 r1 (0 : Int32) (((4 : Int32) - (1 : Int32)) + (-1 : Int32)) w_1) [(.int (4 : Int32)), (.int (((4 : Int32) - (1 : Int32)) + (-1 : Int32))), (.int (0 : Int32)), (.ref r1), (.ref w_1), (.ref r0)])) rfl (by rw [hml]; rfl) (argsL := [(.int (0 : Int32)), (.int (((4 : Int32) - (1 : Int32)) + (-1 : Int32))), (.int (4 : Int32))]) (rest := [(.ref r1), (.ref w_1), (.ref r0)]) (lenOf pd_4 rfl) rfl (by show 2 * 0 + _ ≤ _; exact Nat.le_of_eq rfl) (hb hby d4_14) (fun _ _ => ⟨rfl, e324, (by decide : 0 + 0 ≤ _), (by decide : 0 + 0 ≤ _)⟩)
  dsimp only [Pt.U, Pt.locs, Pt.cells, Pt.slots] at X328 l328 y328 z328 st328 hQ328
  subst l328 y328 z328
  obtain ⟨rv328, N328q, e328⟩ := hQ328
  subst rv328
  have N328 := Fr.app N323 N328q
  obtain ⟨_, _, ⟨T354, L354, k354, n354⟩, -, X354, ⟨Lc354, hQ354, l354, y354, z354⟩, st354⟩ := X328.specialBackH hx (y := Y21) rfl hown (mvT hZ (hw _ (tk 34 rfl))) (mvT hZ (hw _ (tk 35 rfl))) (mvT hZ (hw _ (tk 37 rfl))) (by decide) (backOfWith (W := 0) (rm8x6 l Z a0 hw hv [] w_1 w_2 w_4 w_5 hS0 r0 r1 k_r1 x_r1_0 x_r1_1 x_r1_2 x_r1_3 h0 n0 O0 g_r0 g_r1 E_r0 F_coder_r0 F_value_r0 V_r1 ne_r0_r1) hZ (hw _ (tk 37 rfl)) (hw _ (tk 14 rfl)) (by decide) (by decide)) (g := (mkF m 18 (lt14 r0 r1 (0 : Int32) (((4 : Int32) - (1 : Int32)) + (-1 : Int32)) w_1) [(.int (((4 : Int32) - (1 : Int32)) + (-1 : Int32))), (.int (0 : Int32)), (.ref r1), (.ref w_1), (.ref r0)])) rfl (by rw [hml]; rfl) (Steps.refl _) (a := r0) (argsL := [(.ref w_1), (.ref r1), (.int (0 : Int32)), (.int (((4 : Int32) - (1 : Int32)) + (-1 : Int32)))]) (rest := []) (lenOf pd_5 rfl) rfl (by show 2 * 0 + _ ≤ _; exact Nat.le_of_eq rfl) (hb hby d4_18) (fun _ _ => ⟨rfl, e328, (by decide : 0 + 1 ≤ _), (by decide : 0 + 2 ≤ _)⟩)
  dsimp only [Pt.U, Pt.locs, Pt.cells, Pt.slots] at X354 l354 y354 z354 st354 hQ354
  subst l354 y354 z354
  obtain ⟨b355, k356, rv354, N354q, O354, K354c, Fe354_0, Fe354_1, Fx354_0, Fx354_1, Fx354_2⟩ := hQ354
  subst rv354
  have N354 := Fr.app N328 N354q
  have K354 : Keep h0 T354.heap [r0] := (Keep.refl h0 [r0]).trans K354c (allS (Or.inl (List.mem_of_getElem? (i := 0) rfl)) all0)
  have g_b355 := Fx354_0
  have sz_b355 : h0.size ≤ b355 := Nat.le_trans (Keep.refl h0 [r0]).1 Fx354_1
  have ne_r0_b355 : r0 ≠ b355 := Nat.ne_of_lt (Nat.lt_of_lt_of_le E_r0.lt Fx354_1)
  have ne_r1_b355 : r1 ≠ b355 := Nat.ne_of_lt (Nat.lt_of_lt_of_le V_r1.lt Fx354_1)
  obtain ⟨fs, hr, hrun, hended, hW, hsame⟩ := X354.leave (v := none) (fun _ => rfl)
  refine ⟨_, _, pre0 _ ?_, hrun, hended, _, _, rfl, ?_, ⟨_, rfl⟩, hW, hsame.mono (by decide) (by decide)⟩
  · show Sp p e below s₁ (mkF m 0 (lt14 r0 r1 (0 : Int32) (((4 : Int32) - (1 : Int32)) + (-1 : Int32)) w_1) []) _
    refine XS.aloadN X0.here hx rfl (hb hby d4_0) rfl rfl ?_
    refine XS.aload X0.here hx rfl (hb hby d4_1) rfl rfl ?_
    show Sp p e below s₁ (mkF m 3 (lt14 r0 r1 (0 : Int32) (((4 : Int32) - (1 : Int32)) + (-1 : Int32)) w_1) [(.ref w_1), (.ref r0)]) _
    refine st323 _ ?_
    show Sp p e below T323 (mkF m 6 (lt14 r0 r1 (0 : Int32) (((4 : Int32) - (1 : Int32)) + (-1 : Int32)) w_1) [(.ref w_1), (.ref r0)]) _
    refine st324 _ ?_
    show Sp p e below T324 (mkF m 9 (lt14 r0 r1 (0 : Int32) (((4 : Int32) - (1 : Int32)) + (-1 : Int32)) w_1) [(.ref w_1), (.ref r0)]) _
    refine XS.aloadN X324.here hx rfl (hb hby d4_9) rfl rfl ?_
    refine XS.iloadN X324.here hx rfl (hb hby d4_10) rfl ?_
    show Sp p e below T324 (mkF m 11 (lt14 r0 r1 (0 : Int32) (((4 : Int32) - (1 : Int32)) + (-1 : Int32)) w_1) [(.int (0 : Int32)), (.ref r1), (.ref w_1), (.ref r0)]) _
    refine XS.iloadN X324.here hx rfl (hb hby d4_11) rfl ?_
    refine XS.aloadN X324.here hx rfl (hb hby d4_12) rfl rfl ?_
    show Sp p e below T324 (mkF m 13 (lt14 r0 r1 (0 : Int32) (((4 : Int32) - (1 : Int32)) + (-1 : Int32)) w_1) [(.ref r1), (.int (((4 : Int32) - (1 : Int32)) + (-1 : Int32))), (.int (0 : Int32)), (.ref r1), (.ref w_1), (.ref r0)]) _
    refine X324.arraylength hx (by rw [e324]; exact Ar325.1) (State.isArrayOf_alike hZ.alike Ar325.2.1) (g := (mkF m 13 (lt14 r0 r1 (0 : Int32) (((4 : Int32) - (1 : Int32)) + (-1 : Int32)) w_1) [(.ref r1), (.int (((4 : Int32) - (1 : Int32)) + (-1 : Int32))), (.int (0 : Int32)), (.ref r1), (.ref w_1), (.ref r0)])) rfl rfl (hb hby d4_13) _ ?_
    rw [len_of Sa325 Ma325]
    show Sp p e below T324 (mkF m 14 (lt14 r0 r1 (0 : Int32) (((4 : Int32) - (1 : Int32)) + (-1 : Int32)) w_1) [(.int (4 : Int32)), (.int (((4 : Int32) - (1 : Int32)) + (-1 : Int32))), (.int (0 : Int32)), (.ref r1), (.ref w_1), (.ref r0)]) _
    refine st328 _ ?_
    show Sp p e below T328 (mkF m 17 (lt14 r0 r1 (0 : Int32) (((4 : Int32) - (1 : Int32)) + (-1 : Int32)) w_1) [(.int (0 : Int32)), (.ref r1), (.ref w_1), (.ref r0)]) _
    refine XS.iloadN X328.here hx rfl (hb hby d4_17) rfl ?_
    show Sp p e below T328 (mkF m 18 (lt14 r0 r1 (0 : Int32) (((4 : Int32) - (1 : Int32)) + (-1 : Int32)) w_1) [(.int (((4 : Int32) - (1 : Int32)) + (-1 : Int32))), (.int (0 : Int32)), (.ref r1), (.ref w_1), (.ref r0)]) _
    refine st354.trans ?_
    show Sp p e below T354 (mkF m 21 (lt14 r0 r1 (0 : Int32) (((4 : Int32) - (1 : Int32)) + (-1 : Int32)) w_1) []) _
    exact X354.returnOut hx Bd.returns (hb hby d4_21) hr
  · show Q4x6 Z w_1 w_2 w_4 w_5 r0 r1 k_r1 x_r1_0 x_r1_1 x_r1_2 x_r1_3 h0 n0 _ T354.heap _
    exact ⟨b355, k356, rfl, N354, O354, K354, Fe354_0, Fe354_1, g_b355, sz_b355, Fx354_2⟩
theorem pn_3x6 : plainName "com/example/bristlecone/bristlecone/io/HttpLine" = true := by first | (simp [plainName, overriddenIn]; done) | decide +kernel
theorem ef_3x6 (m : MethodId) (r0 : Addr) : entryFrame m #[(.ref r0)] 2 = mkF m 0 #[.val (.ref r0), .unset] [] := by first | (simp [entryFrame, mkF, argsToLocals, Value.category]; done) | rfl
def Q3x6 (Z : State) (w_1 : Addr) (w_2 : Addr) (w_4 : Int32) (w_5 : Value) (r0 : Addr) (k_r0 : ClassId) (x_r0_0 : Int32) (x_r0_1 : Int32) (x_r0_2 : Int32) (x_r0_3 : Int32) (h0 : Heap) (n0 : Nat) (v : Option Value) (h : Heap) (L : List Loc) : Prop := ∃ (b321 : Addr) (b359 : Addr) (k360 : ClassId), v = some (.ref b321) ∧ Fr n0 L ∧ Old Z n0 h ∧ Keep h0 h [] ∧ n0 ≤ b321 ∧ h0.size ≤ b321 ∧ Exa Z h b321 "java/lang/String" ∧ Fld Z h b321 "java/lang/String" "value" "[B" (.ref b359) ∧ Fld Z h b321 "java/lang/String" "coder" "B" (.int (0 : Int32)) ∧ n0 ≤ b359 ∧ h0.size ≤ b359 ∧ Arv Z h b359 k360 .byte (((0 : Int32) + (((4 : Int32) - (1 : Int32)) + (-1 : Int32))) - (0 : Int32)) [(.int x_r0_0), (.int x_r0_1)] (.int (0 : Int32)) ∧ b321 ≠ b359
set_option maxRecDepth 65536 in
set_option maxHeartbeats 40000000 in
theorem rm3x6 (l : Launch) (Z : State) (a0 : Array Value) (hw : ∀ d ∈ tables_1, d.before a0 Z = true) (hv : ∀ d ∈ jdkStatics_1, d.before a0 Z = true) (ws : List Jvm.Cond) (w_1 : Addr) (w_2 : Addr) (w_4 : Int32) (w_5 : Value) (hS : StF Z w_1 w_2 w_4 w_5) (r0 : Addr) (k_r0 : ClassId) (x_r0_0 : Int32) (x_r0_1 : Int32) (x_r0_2 : Int32) (x_r0_3 : Int32) (h0 : Heap) (n0 : Nat) (O0 : Old Z n0 h0) (g_r0 : n0 ≤ r0) (V_r0 : Arv Z h0 r0 k_r0 .byte (4 : Int32) [(.int x_r0_0), (.int x_r0_1), (.int x_r0_2), (.int x_r0_3)] (.int (0 : Int32))) (as0 : (x_r0_2 = (13 : Int32))) :
    MetFree l Y23 (head1 (Jvm.Cond.code Y23 prog_8_method_4_code 2 (some (.object "java/lang/String")) :: ws) ({ frames := 5, cells := 2, slots := 6, locals := 88 } : Room)) (fun a U => a = #[(.ref r0)] ∧ Z.Warmed39 U.vm ∧ U.heap = h0) (fun _ _ _ _ _ => True) (fun _ U o U' => ∃ v L, o = .returned v ∧ Q3x6 Z w_1 w_2 w_4 w_5 r0 k_r0 x_r0_0 x_r0_1 x_r0_2 x_r0_3 h0 n0 v U'.heap L ∧ FrameEnd U o U' L ({ frames := 5, cells := 2, slots := 6, locals := 88 } : Room).cells ({ frames := 5, cells := 2, slots := 6, locals := 88 } : Room).slots) := by
  refine MetFree.of_bodySF (plainFor_of_name pn_3x6) hisR ?_
  intro p e s m args below meth c s₁ Bd hml0 hP hK
  obtain ⟨rfl, hZ, hh⟩ := hP
  have hx := Bd.exec
  have hby := Bd.bytes
  have hml : c.maxLocals = 2 := hml0
  have hown : s.vm.findClass "com/example/bristlecone/bristlecone/io/HttpLine" = some m.cls := findClass_of_methodNamed Bd.named
  have hnm := (name_of_methodNamed Bd.named Bd.method).1
  have X0 : Stand p l e ({ frames := 5, cells := 2, slots := 6, locals := 88 } : Room) s m #[(.ref r0)] below meth c s₁ [] 0 0 := Stand.of_body Bd
  have e0 : s₁.heap = h0 := by rw [← hh, Bd.state]; rfl
  have N0 := Fr.nil n0
  have hS0 := hS
  obtain ⟨S_1, E_1, S_2, E_2, S_3, E_3, S_4, NE_4, S_5, IR_5⟩ := hS
  have pre0 : ∀ t, Steps p.tables e below (s₁.setTop (mkF m 0 #[.val (.ref r0), .unset] [])) t → Steps p.tables e below (s₁.setTop (entryFrame m #[(.ref r0)] 2)) t := fun t k => castTop (ef_3x6 m r0) k
  generalize hE0 : s₁.setTop (entryFrame m #[(.ref r0)] 2) = E0 at pre0 ⊢
  obtain ⟨cl319, Ar319, qa319, Sa319, Ma319, Ha319, Ga319⟩ := id V_r0
  obtain ⟨cl320, Ar320, qa320, Sa320, Ma320, Ha320, Ga320⟩ := id V_r0
  have hin320 : ¬ ((((4 : Int32) - (1 : Int32)) - (1 : Int32)) < 0 ∨ cl320.slots.size ≤ ((((4 : Int32) - (1 : Int32)) - (1 : Int32))).toNatClampNeg) := by  exact inb_of Sa320 ⟨by decide, by decide⟩
  have hat320 : cl320.slots[((((4 : Int32) - (1 : Int32)) - (1 : Int32))).toNatClampNeg]? = some (.int x_r0_2) := Has.at Ha320 hin320 (by rfl)
  obtain ⟨T321, h321, X321, e321, E321, A321, D321, -, st321⟩ := newO X0 hx hZ hown (hw _ (tk 12 rfl)) (hw _ (tk 13 rfl)) (hw _ (tk 14 rfl)) e0 (g := (mkF m 22 (lt13 r0 (((4 : Int32) - (1 : Int32)) + (-1 : Int32))) [])) rfl (hb hby d3_22) (by decide) (by decide)
  obtain ⟨b321, g321⟩ : ∃ z, z = h0.size := ⟨_, rfl⟩
  rw [← g321] at A321 D321 st321
  have g_b321 : n0 ≤ b321 := Nat.le_trans (own_old O0) (Nat.le_of_eq g321.symm)
  have sz_b321 : h0.size ≤ b321 := Nat.le_trans (Keep.refl h0 []).1 (Nat.le_of_eq g321.symm)
  have ne_r0_b321 : r0 ≠ b321 := Nat.ne_of_lt (Nat.lt_of_lt_of_le V_r0.lt (Nat.le_of_eq g321.symm))
  have O321 : Old Z n0 h321 := O0.ext E321
  have K321 : Keep h0 h321 [] := (Keep.refl h0 []).ext E321
  have F_value_b321 : Fld Z h321 b321 "java/lang/String" "value" "[B" .null := D321 (Or.inr (hw _ (tk 42 rfl))) (ty := (.array .byte)) (by decide)
  have F_coder_b321 : Fld Z h321 b321 "java/lang/String" "coder" "B" (.int (0 : Int32)) := D321 (Or.inr (hw _ (tk 43 rfl))) (ty := .byte) (by decide)
  obtain ⟨T322, X322, e322, st322⟩ := getS2 X321 hx hZ hown (host := "") (Or.inl (hw _ (tk 15 rfl))) Via.refl e321 (S_1.ext O321.2) (g := (mkF m 29 (lt13 r0 (((4 : Int32) - (1 : Int32)) + (-1 : Int32))) [(.int (((4 : Int32) - (1 : Int32)) + (-1 : Int32))), (.int (0 : Int32)), (.ref r0), (.ref b321), (.ref b321)])) rfl (hb hby d3_29)
  have c357 := (V_r0.ext E321)
  obtain ⟨_, _, ⟨T358, L358, k358, n358⟩, -, X358, ⟨Lc358, hQ358, l358, y358, z358⟩, st358⟩ := X322.specialBack hx (y := Y22) rfl hown (mvT hZ (hw _ (tk 17 rfl))) (mvT hZ (hw _ (tk 18 rfl))) (mvT hZ (hw _ (tk 19 rfl))) (by decide) (backOf (W := 1) (rm4x6 l Z a0 hw hv [] w_1 w_2 w_4 w_5 hS0 b321 r0 k_r0 x_r0_0 x_r0_1 x_r0_2 x_r0_3 h321 n0 O321 g_b321 g_r0 A321 F_coder_b321 F_value_b321 c357 (Ne.symm ne_r0_b321)) hZ (hw _ (tk 19 rfl)) (hw _ (tk 14 rfl)) (by decide) (by decide)) (g := (mkF m 32 (lt13 r0 (((4 : Int32) - (1 : Int32)) + (-1 : Int32))) [(.ref w_1), (.int (((4 : Int32) - (1 : Int32)) + (-1 : Int32))), (.int (0 : Int32)), (.ref r0), (.ref b321), (.ref b321)])) rfl (by rw [hml]; rfl) (Steps.refl _) (a := b321) (argsL := [(.ref r0), (.int (0 : Int32)), (.int (((4 : Int32) - (1 : Int32)) + (-1 : Int32))), (.ref w_1)]) (rest := [(.ref b321)]) (lenOf pd_6 rfl) rfl (by show 2 * 0 + _ ≤ _; exact Nat.le_of_eq rfl) (hb hby d3_32) (fun _ _ => ⟨rfl, e322, (by decide : 1 + 1 ≤ _), (by decide : 4 + 2 ≤ _)⟩)
  dsimp only [Pt.U, Pt.locs, Pt.cells, Pt.slots] at X358 l358 y358 z358 st358 hQ358
  subst l358 y358 z358
  obtain ⟨b359, k360, rv358, N358q, O358, K358c, Fe358_0, Fe358_1, Fx358_0, Fx358_1, Fx358_2⟩ := hQ358
  subst rv358
  have N358 := Fr.app N0 N358q
  have K358 : Keep h0 T358.heap [] := K321.trans K358c (allS (Or.inr sz_b321) all0)
  have g_b359 := Fx358_0
  have sz_b359 : h0.size ≤ b359 := Nat.le_trans K321.1 Fx358_1
  have ne_r0_b359 : r0 ≠ b359 := Nat.ne_of_lt (Nat.lt_of_lt_of_le c357.lt Fx358_1)
  have ne_b321_b359 : b321 ≠ b359 := Nat.ne_of_lt (Nat.lt_of_lt_of_le A321.lt Fx358_1)
  obtain ⟨fs, hr, hrun, hended, hW, hsame⟩ := X358.leave (v := some (.ref b321)) (fun h => by rw [Bd.returns] at h; cases h)
  have c361 := (A321.keep K358c)
  refine ⟨_, _, pre0 _ ?_, hrun, hended, _, _, rfl, ?_, ⟨_, rfl⟩, hW, hsame.mono (by decide) (by decide)⟩
  · show Sp p e below s₁ (mkF m 0 (lt12 r0) []) _
    refine XS.aloadN X0.here hx rfl (hb hby d3_0) rfl rfl ?_
    show Sp p e below s₁ (mkF m 1 (lt12 r0) [(.ref r0)]) _
    refine X0.arraylength hx (by rw [e0]; exact Ar319.1) (State.isArrayOf_alike hZ.alike Ar319.2.1) (g := (mkF m 1 (lt12 r0) [(.ref r0)])) rfl rfl (hb hby d3_1) _ ?_
    rw [len_of Sa319 Ma319]
    show Sp p e below s₁ (mkF m 2 (lt12 r0) [(.int (4 : Int32))]) _
    refine XS.iconst X0.here hx rfl (hb hby d3_2) ?_
    refine XS.isub X0.here hx rfl (hb hby d3_3) rfl ?_
    show Sp p e below s₁ (mkF m 4 (lt12 r0) [(.int ((4 : Int32) - (1 : Int32)))]) _
    refine XS.istoreN X0.here hx rfl (hb hby d3_4) rfl (l' := (lt13 r0 ((4 : Int32) - (1 : Int32)))) rfl ?_
    refine XS.iloadN X0.here hx rfl (hb hby d3_5) rfl ?_
    show Sp p e below s₁ (mkF m 6 (lt13 r0 ((4 : Int32) - (1 : Int32))) [(.int ((4 : Int32) - (1 : Int32)))]) _
    refine XS.ifNo X0.here hx rfl (hb hby d3_6) rfl ((if0 _ _).trans (tlt (by decide : ((0 : Int32) < ((4 : Int32) - (1 : Int32))))).2.2.2) ?_
    show Sp p e below s₁ (mkF m 9 (lt13 r0 ((4 : Int32) - (1 : Int32))) []) _
    refine XS.aloadN X0.here hx rfl (hb hby d3_9) rfl rfl ?_
    refine XS.iloadN X0.here hx rfl (hb hby d3_10) rfl ?_
    show Sp p e below s₁ (mkF m 11 (lt13 r0 ((4 : Int32) - (1 : Int32))) [(.int ((4 : Int32) - (1 : Int32))), (.ref r0)]) _
    refine XS.iconst X0.here hx rfl (hb hby d3_11) ?_
    refine XS.isub X0.here hx rfl (hb hby d3_12) rfl ?_
    show Sp p e below s₁ (mkF m 13 (lt13 r0 ((4 : Int32) - (1 : Int32))) [(.int (((4 : Int32) - (1 : Int32)) - (1 : Int32))), (.ref r0)]) _
    refine X0.baloadBytes hx (j := (((4 : Int32) - (1 : Int32)) - (1 : Int32))) (v := (.int x_r0_2)) (by rw [e0]; exact Ar320.1) (State.isArrayOf_alike hZ.alike Ar320.2.1) Ar320.2.2 hin320 hat320 (g := (mkF m 13 (lt13 r0 ((4 : Int32) - (1 : Int32))) [(.int (((4 : Int32) - (1 : Int32)) - (1 : Int32))), (.ref r0)])) rfl rfl (hb hby d3_13) _ ?_
    show Sp p e below s₁ (mkF m 14 (lt13 r0 ((4 : Int32) - (1 : Int32))) [(.int x_r0_2)]) _
    refine XS.bipush X0.here hx rfl (hb hby d3_14) ?_
    show Sp p e below s₁ (mkF m 16 (lt13 r0 ((4 : Int32) - (1 : Int32))) [(.int (13 : Int32)), (.int x_r0_2)]) _
    refine XS.icmpNo X0.here hx rfl (hb hby d3_16) rfl (teq as0).2 ?_
    show Sp p e below s₁ (mkF m 19 (lt13 r0 ((4 : Int32) - (1 : Int32))) []) _
    refine XS.iinc X0.here hx rfl (hb hby d3_19) rfl (l' := (lt13 r0 (((4 : Int32) - (1 : Int32)) + (-1 : Int32)))) rfl ?_
    show Sp p e below s₁ (mkF m 22 (lt13 r0 (((4 : Int32) - (1 : Int32)) + (-1 : Int32))) []) _
    refine st321 _ ?_
    show Sp p e below T321 (mkF m 25 (lt13 r0 (((4 : Int32) - (1 : Int32)) + (-1 : Int32))) [(.ref b321)]) _
    refine XS.dup X321.here hx rfl (hb hby d3_25) rfl rfl ?_
    refine XS.aloadN X321.here hx rfl (hb hby d3_26) rfl rfl ?_
    show Sp p e below T321 (mkF m 27 (lt13 r0 (((4 : Int32) - (1 : Int32)) + (-1 : Int32))) [(.ref r0), (.ref b321), (.ref b321)]) _
    refine XS.iconst X321.here hx rfl (hb hby d3_27) ?_
    refine XS.iloadN X321.here hx rfl (hb hby d3_28) rfl ?_
    show Sp p e below T321 (mkF m 29 (lt13 r0 (((4 : Int32) - (1 : Int32)) + (-1 : Int32))) [(.int (((4 : Int32) - (1 : Int32)) + (-1 : Int32))), (.int (0 : Int32)), (.ref r0), (.ref b321), (.ref b321)]) _
    refine st322 _ ?_
    show Sp p e below T322 (mkF m 32 (lt13 r0 (((4 : Int32) - (1 : Int32)) + (-1 : Int32))) [(.ref w_1), (.int (((4 : Int32) - (1 : Int32)) + (-1 : Int32))), (.int (0 : Int32)), (.ref r0), (.ref b321), (.ref b321)]) _
    refine st358.trans ?_
    show Sp p e below T358 (mkF m 35 (lt13 r0 (((4 : Int32) - (1 : Int32)) + (-1 : Int32))) [(.ref b321)]) _
    jvm_step X358.here [X358.here.top, hx, (hb hby d3_35), X358.method', Bd.returns, Value.isRef, FieldType.isReference]
    first | (intro acts; rw [hr _ acts rfl rfl rfl]) | rw [hr _ _ rfl rfl rfl]
    exact Steps.refl _
  · show Q3x6 Z w_1 w_2 w_4 w_5 r0 k_r0 x_r0_0 x_r0_1 x_r0_2 x_r0_3 h0 n0 _ T358.heap _
    exact ⟨b321, b359, k360, rfl, N358, O358, K358, g_b321, sz_b321, c361, Fe358_1, Fe358_0, g_b359, sz_b359, Fx358_2, ne_b321_b359⟩
theorem pn_10x5 : plainName "java/lang/String" = true := by first | (simp [plainName, overriddenIn]; done) | decide +kernel
theorem ef_10x5 (m : MethodId) (r0 : Addr) : entryFrame m #[(.ref r0)] 1 = mkF m 0 #[.val (.ref r0)] [] := by first | (simp [entryFrame, mkF, argsToLocals, Value.category]; done) | rfl
def sp10x5  : Int32 := (0 : Int32)
def Q10x5 (Z : State) (w_1 : Addr) (w_2 : Addr) (w_4 : Int32) (w_5 : Value) (r0 : Addr) (r0_f1 : Addr) (k_r0_f1 : ClassId) (x_r0_f1_0 : Int32) (x_r0_f1_1 : Int32) (h0 : Heap) (n0 : Nat) (v : Option Value) (h : Heap) (L : List Loc) : Prop := v = some (.int (sp10x5)) ∧ Fr n0 L ∧ h = h0
set_option maxRecDepth 65536 in
set_option maxHeartbeats 40000000 in
theorem rm10x5 (l : Launch) (Z : State) (a0 : Array Value) (hw : ∀ d ∈ tables_1, d.before a0 Z = true) (hv : ∀ d ∈ jdkStatics_1, d.before a0 Z = true) (ws : List Jvm.Cond) (w_1 : Addr) (w_2 : Addr) (w_4 : Int32) (w_5 : Value) (hS : StF Z w_1 w_2 w_4 w_5) (r0 : Addr) (r0_f1 : Addr) (k_r0_f1 : ClassId) (x_r0_f1_0 : Int32) (x_r0_f1_1 : Int32) (h0 : Heap) (n0 : Nat) (O0 : Old Z n0 h0) (g_r0 : n0 ≤ r0) (g_r0_f1 : n0 ≤ r0_f1) (E_r0 : Exa Z h0 r0 "java/lang/String") (F_value_r0 : Fld Z h0 r0 "java/lang/String" "value" "[B" (.ref r0_f1)) (V_r0_f1 : Arv Z h0 r0_f1 k_r0_f1 .byte (((0 : Int32) + (((4 : Int32) - (1 : Int32)) + (-1 : Int32))) - (0 : Int32)) [(.int x_r0_f1_0), (.int x_r0_f1_1)] (.int (0 : Int32))) (ne_r0_r0_f1 : r0 ≠ r0_f1) :
    MetFree l Y24 (head1 (Jvm.Cond.code Y24 jdk_42_method_55_code 1 (some .boolean) :: ws) ({ frames := 0, cells := 0, slots := 0, locals := 0 } : Room)) (fun a U => a = #[(.ref r0)] ∧ Z.Warmed39 U.vm ∧ U.heap = h0) (fun _ _ _ _ _ => True) (fun _ U o U' => ∃ v L, o = .returned v ∧ Q10x5 Z w_1 w_2 w_4 w_5 r0 r0_f1 k_r0_f1 x_r0_f1_0 x_r0_f1_1 h0 n0 v U'.heap L ∧ FrameEnd U o U' L ({ frames := 0, cells := 0, slots := 0, locals := 0 } : Room).cells ({ frames := 0, cells := 0, slots := 0, locals := 0 } : Room).slots) := by
  refine MetFree.of_bodySF (plainFor_of_name pn_10x5) hisR ?_
  intro p e s m args below meth c s₁ Bd hml0 hP hK
  obtain ⟨rfl, hZ, hh⟩ := hP
  have hx := Bd.exec
  have hby := Bd.bytes
  have hml : c.maxLocals = 1 := hml0
  have hown : s.vm.findClass "java/lang/String" = some m.cls := findClass_of_methodNamed Bd.named
  have hnm := (name_of_methodNamed Bd.named Bd.method).1
  have X0 : Stand p l e ({ frames := 0, cells := 0, slots := 0, locals := 0 } : Room) s m #[(.ref r0)] below meth c s₁ [] 0 0 := Stand.of_body Bd
  have e0 : s₁.heap = h0 := by rw [← hh, Bd.state]; rfl
  have N0 := Fr.nil n0
  have hS0 := hS
  obtain ⟨S_1, E_1, S_2, E_2, S_3, E_3, S_4, NE_4, S_5, IR_5⟩ := hS
  have pre0 : ∀ t, Steps p.tables e below (s₁.setTop (mkF m 0 #[.val (.ref r0)] [])) t → Steps p.tables e below (s₁.setTop (entryFrame m #[(.ref r0)] 1)) t := fun t k => castTop (ef_10x5 m r0) k
  generalize hE0 : s₁.setTop (entryFrame m #[(.ref r0)] 1) = E0 at pre0 ⊢
  obtain ⟨T366, X366, e366, st366⟩ := getF X0 hx hZ hown (host := "") (Or.inl (hw _ (tk 46 rfl))) Via.refl e0 F_value_r0 (g := (mkF m 1 (lt10 r0) [(.ref r0)])) rfl rfl (hb hby d10_1)
  obtain ⟨cl367, Ar367, qa367, Sa367, Ma367, Ha367, Ga367⟩ := id V_r0_f1
  obtain ⟨fs, hr, hrun, hended, hW, hsame⟩ := X366.leave (v := some (.int (0 : Int32))) (fun h => by rw [Bd.returns] at h; cases h)
  refine ⟨_, _, pre0 _ ?_, hrun, hended, _, _, rfl, ?_, ⟨_, rfl⟩, hW, hsame.mono (by decide) (by decide)⟩
  · show Sp p e below s₁ (mkF m 0 (lt10 r0) []) _
    refine XS.aloadN X0.here hx rfl (hb hby d10_0) rfl rfl ?_
    show Sp p e below s₁ (mkF m 1 (lt10 r0) [(.ref r0)]) _
    refine st366 _ ?_
    show Sp p e below T366 (mkF m 4 (lt10 r0) [(.ref r0_f1)]) _
    refine X366.arraylength hx (by rw [e366]; exact Ar367.1) (State.isArrayOf_alike hZ.alike Ar367.2.1) (g := (mkF m 4 (lt10 r0) [(.ref r0_f1)])) rfl rfl (hb hby d10_4) _ ?_
    rw [len_of Sa367 Ma367]
    show Sp p e below T366 (mkF m 5 (lt10 r0) [(.int (((0 : Int32) + (((4 : Int32) - (1 : Int32)) + (-1 : Int32))) - (0 : Int32)))]) _
    refine XS.ifYes X366.here hx rfl (pc0 := 5) (pc' := 12) rfl (hb hby d10_5) rfl ((if0 _ _).trans (feq (by decide : ¬ ((((0 : Int32) + (((4 : Int32) - (1 : Int32)) + (-1 : Int32))) - (0 : Int32)) = (0 : Int32)))).2) (by decide) (by decide) ?_
    show Sp p e below T366 (mkF m 12 (lt10 r0) []) _
    refine XS.iconst X366.here hx rfl (hb hby d10_12) ?_
    show Sp p e below T366 (mkF m 13 (lt10 r0) [(.int (0 : Int32))]) _
    exact retN X366 hx (t := .boolean) Bd.returns (by simp) (hb hby d10_13) hr
  · show Q10x5 Z w_1 w_2 w_4 w_5 r0 r0_f1 k_r0_f1 x_r0_f1_0 x_r0_f1_1 h0 n0 _ T366.heap _
    rw [e366]
    exact ⟨by unfold sp10x5; rfl, N0, rfl⟩
theorem pn_7u3x7 : plainName "jdk/internal/util/Preconditions" = true := by first | (simp [plainName, overriddenIn]; done) | decide +kernel
theorem ef_7u3x7 (m : MethodId) (u3 : Value) (i_u3 : u3.isRef = true) : entryFrame m #[(.int (0 : Int32)), (.int ((4 : Int32) - (1 : Int32))), (.int (4 : Int32)), u3] 4 = mkF m 0 #[.val (.int (0 : Int32)), .val (.int ((4 : Int32) - (1 : Int32))), .val (.int (4 : Int32)), .val u3] [] := by rcases ref_cases i_u3 with rfl | ⟨z_u3, rfl⟩ <;> first | (simp [entryFrame, mkF, argsToLocals, Value.category]; done) | rfl
def Q7u3x7 (Z : State) (w_1 : Addr) (w_2 : Addr) (w_4 : Int32) (w_5 : Value) (u3 : Value) (h0 : Heap) (n0 : Nat) (v : Option Value) (h : Heap) (L : List Loc) : Prop := v = some (.int (0 : Int32)) ∧ Fr n0 L ∧ h = h0
set_option maxRecDepth 65536 in
set_option maxHeartbeats 40000000 in
theorem rm7u3x7 (l : Launch) (Z : State) (a0 : Array Value) (hw : ∀ d ∈ tables_1, d.before a0 Z = true) (hv : ∀ d ∈ jdkStatics_1, d.before a0 Z = true) (ws : List Jvm.Cond) (w_1 : Addr) (w_2 : Addr) (w_4 : Int32) (w_5 : Value) (hS : StF Z w_1 w_2 w_4 w_5) (u3 : Value) (h0 : Heap) (n0 : Nat) (O0 : Old Z n0 h0) (i_u3 : u3.isRef = true) :
    MetFree l Y18 (head1 (Jvm.Cond.code Y18 jdk_41_method_13_code 4 (some .int) :: ws) ({ frames := 0, cells := 0, slots := 0, locals := 0 } : Room)) (fun a U => a = #[(.int (0 : Int32)), (.int ((4 : Int32) - (1 : Int32))), (.int (4 : Int32)), u3] ∧ Z.Warmed39 U.vm ∧ U.heap = h0) (fun _ _ _ _ _ => True) (fun _ U o U' => ∃ v L, o = .returned v ∧ Q7u3x7 Z w_1 w_2 w_4 w_5 u3 h0 n0 v U'.heap L ∧ FrameEnd U o U' L ({ frames := 0, cells := 0, slots := 0, locals := 0 } : Room).cells ({ frames := 0, cells := 0, slots := 0, locals := 0 } : Room).slots) := by
  refine MetFree.of_bodySF (plainFor_of_name pn_7u3x7) hisR ?_
  intro p e s m args below meth c s₁ Bd hml0 hP hK
  obtain ⟨rfl, hZ, hh⟩ := hP
  have hx := Bd.exec
  have hby := Bd.bytes
  have hml : c.maxLocals = 4 := hml0
  have hown : s.vm.findClass "jdk/internal/util/Preconditions" = some m.cls := findClass_of_methodNamed Bd.named
  have hnm := (name_of_methodNamed Bd.named Bd.method).1
  have X0 : Stand p l e ({ frames := 0, cells := 0, slots := 0, locals := 0 } : Room) s m #[(.int (0 : Int32)), (.int ((4 : Int32) - (1 : Int32))), (.int (4 : Int32)), u3] below meth c s₁ [] 0 0 := Stand.of_body Bd
  have e0 : s₁.heap = h0 := by rw [← hh, Bd.state]; rfl
  have N0 := Fr.nil n0
  have hS0 := hS
  obtain ⟨S_1, E_1, S_2, E_2, S_3, E_3, S_4, NE_4, S_5, IR_5⟩ := hS
  have pre0 : ∀ t, Steps p.tables e below (s₁.setTop (mkF m 0 #[.val (.int (0 : Int32)), .val (.int ((4 : Int32) - (1 : Int32))), .val (.int (4 : Int32)), .val u3] [])) t → Steps p.tables e below (s₁.setTop (entryFrame m #[(.int (0 : Int32)), (.int ((4 : Int32) - (1 : Int32))), (.int (4 : Int32)), u3] 4)) t := fun t k => castTop (ef_7u3x7 m u3 i_u3) k
  generalize hE0 : s₁.setTop (entryFrame m #[(.int (0 : Int32)), (.int ((4 : Int32) - (1 : Int32))), (.int (4 : Int32)), u3] 4) = E0 at pre0 ⊢
  obtain ⟨fs, hr, hrun, hended, hW, hsame⟩ := X0.leave (v := some (.int (0 : Int32))) (fun h => by rw [Bd.returns] at h; cases h)
  refine ⟨_, _, pre0 _ ?_, hrun, hended, _, _, rfl, ?_, ⟨_, rfl⟩, hW, hsame.mono (by decide) (by decide)⟩
  · show Sp p e below s₁ (mkF m 0 (lt15 (0 : Int32) ((4 : Int32) - (1 : Int32)) (4 : Int32) u3) []) _
    refine XS.iloadN X0.here hx rfl (hb hby d7_0) rfl ?_
    refine XS.iloadN X0.here hx rfl (hb hby d7_1) rfl ?_
    show Sp p e below s₁ (mkF m 2 (lt15 (0 : Int32) ((4 : Int32) - (1 : Int32)) (4 : Int32) u3) [(.int (0 : Int32)), (.int (4 : Int32))]) _
    refine XS.ior X0.here hx rfl (hb hby d7_2) rfl ?_
    refine XS.iloadN X0.here hx rfl (hb hby d7_3) rfl ?_
    show Sp p e below s₁ (mkF m 4 (lt15 (0 : Int32) ((4 : Int32) - (1 : Int32)) (4 : Int32) u3) [(.int ((4 : Int32) - (1 : Int32))), (.int ((4 : Int32) ||| (0 : Int32)))]) _
    refine XS.ior X0.here hx rfl (hb hby d7_4) rfl ?_
    show Sp p e below s₁ (mkF m 5 (lt15 (0 : Int32) ((4 : Int32) - (1 : Int32)) (4 : Int32) u3) [(.int (((4 : Int32) ||| (0 : Int32)) ||| ((4 : Int32) - (1 : Int32))))]) _
    refine XS.ifNo X0.here hx rfl (hb hby d7_5) rfl ((if0 _ _).trans (flt (by decide : ¬ ((((4 : Int32) ||| (0 : Int32)) ||| ((4 : Int32) - (1 : Int32))) < (0 : Int32)))).1) ?_
    show Sp p e below s₁ (mkF m 8 (lt15 (0 : Int32) ((4 : Int32) - (1 : Int32)) (4 : Int32) u3) []) _
    refine XS.iloadN X0.here hx rfl (hb hby d7_8) rfl ?_
    refine XS.iloadN X0.here hx rfl (hb hby d7_9) rfl ?_
    show Sp p e below s₁ (mkF m 10 (lt15 (0 : Int32) ((4 : Int32) - (1 : Int32)) (4 : Int32) u3) [(.int (4 : Int32)), (.int ((4 : Int32) - (1 : Int32)))]) _
    refine XS.iloadN X0.here hx rfl (hb hby d7_10) rfl ?_
    refine XS.isub X0.here hx rfl (hb hby d7_11) rfl ?_
    show Sp p e below s₁ (mkF m 12 (lt15 (0 : Int32) ((4 : Int32) - (1 : Int32)) (4 : Int32) u3) [(.int ((4 : Int32) - (0 : Int32))), (.int ((4 : Int32) - (1 : Int32)))]) _
    refine XS.icmpYes X0.here hx rfl (pc0 := 12) (pc' := 23) rfl (hb hby d7_12) rfl (flt (by decide : ¬ (((4 : Int32) - (0 : Int32)) < ((4 : Int32) - (1 : Int32))))).2.2.2 (by decide) (by decide) ?_
    show Sp p e below s₁ (mkF m 23 (lt15 (0 : Int32) ((4 : Int32) - (1 : Int32)) (4 : Int32) u3) []) _
    refine XS.iloadN X0.here hx rfl (hb hby d7_23) rfl ?_
    show Sp p e below s₁ (mkF m 24 (lt15 (0 : Int32) ((4 : Int32) - (1 : Int32)) (4 : Int32) u3) [(.int (0 : Int32))]) _
    exact retI X0 hx Bd.returns (hb hby d7_24) hr
  · show Q7u3x7 Z w_1 w_2 w_4 w_5 u3 h0 n0 _ s₁.heap _
    rw [e0]
    exact ⟨rfl, N0, rfl⟩
theorem pn_6x7 : plainName "java/lang/String" = true := by first | (simp [plainName, overriddenIn]; done) | decide +kernel
theorem ef_6x7 (m : MethodId)  : entryFrame m #[(.int (0 : Int32)), (.int ((4 : Int32) - (1 : Int32))), (.int (4 : Int32))] 3 = mkF m 0 #[.val (.int (0 : Int32)), .val (.int ((4 : Int32) - (1 : Int32))), .val (.int (4 : Int32))] [] := by first | (simp [entryFrame, mkF, argsToLocals, Value.category]; done) | rfl
def Q6x7 (Z : State) (w_1 : Addr) (w_2 : Addr) (w_4 : Int32) (w_5 : Value) (h0 : Heap) (n0 : Nat) (v : Option Value) (h : Heap) (L : List Loc) : Prop := v = some (.int (0 : Int32)) ∧ Fr n0 L ∧ h = h0
set_option maxRecDepth 65536 in
set_option maxHeartbeats 40000000 in
theorem rm6x7 (l : Launch) (Z : State) (a0 : Array Value) (hw : ∀ d ∈ tables_1, d.before a0 Z = true) (hv : ∀ d ∈ jdkStatics_1, d.before a0 Z = true) (ws : List Jvm.Cond) (w_1 : Addr) (w_2 : Addr) (w_4 : Int32) (w_5 : Value) (hS : StF Z w_1 w_2 w_4 w_5) (h0 : Heap) (n0 : Nat) (O0 : Old Z n0 h0) :
    MetFree l Y19 (head1 (Jvm.Cond.code Y19 jdk_42_method_157_code 3 (some .int) :: ws) ({ frames := 1, cells := 0, slots := 0, locals := 15 } : Room)) (fun a U => a = #[(.int (0 : Int32)), (.int ((4 : Int32) - (1 : Int32))), (.int (4 : Int32))] ∧ Z.Warmed39 U.vm ∧ U.heap = h0) (fun _ _ _ _ _ => True) (fun _ U o U' => ∃ v L, o = .returned v ∧ Q6x7 Z w_1 w_2 w_4 w_5 h0 n0 v U'.heap L ∧ FrameEnd U o U' L ({ frames := 1, cells := 0, slots := 0, locals := 15 } : Room).cells ({ frames := 1, cells := 0, slots := 0, locals := 15 } : Room).slots) := by
  refine MetFree.of_bodySF (plainFor_of_name pn_6x7) hisR ?_
  intro p e s m args below meth c s₁ Bd hml0 hP hK
  obtain ⟨rfl, hZ, hh⟩ := hP
  have hx := Bd.exec
  have hby := Bd.bytes
  have hml : c.maxLocals = 3 := hml0
  have hown : s.vm.findClass "java/lang/String" = some m.cls := findClass_of_methodNamed Bd.named
  have hnm := (name_of_methodNamed Bd.named Bd.method).1
  have X0 : Stand p l e ({ frames := 1, cells := 0, slots := 0, locals := 15 } : Room) s m #[(.int (0 : Int32)), (.int ((4 : Int32) - (1 : Int32))), (.int (4 : Int32))] below meth c s₁ [] 0 0 := Stand.of_body Bd
  have e0 : s₁.heap = h0 := by rw [← hh, Bd.state]; rfl
  have N0 := Fr.nil n0
  have hS0 := hS
  obtain ⟨S_1, E_1, S_2, E_2, S_3, E_3, S_4, NE_4, S_5, IR_5⟩ := hS
  have pre0 : ∀ t, Steps p.tables e below (s₁.setTop (mkF m 0 #[.val (.int (0 : Int32)), .val (.int ((4 : Int32) - (1 : Int32))), .val (.int (4 : Int32))] [])) t → Steps p.tables e below (s₁.setTop (entryFrame m #[(.int (0 : Int32)), (.int ((4 : Int32) - (1 : Int32))), (.int (4 : Int32))] 3)) t := fun t k => castTop (ef_6x7 m ) k
  generalize hE0 : s₁.setTop (entryFrame m #[(.int (0 : Int32)), (.int ((4 : Int32) - (1 : Int32))), (.int (4 : Int32))] 3) = E0 at pre0 ⊢
  obtain ⟨T379, X379, e379, st379⟩ := getS2 X0 hx hZ hown (host := "") (Or.inl (hw _ (tk 29 rfl))) Via.refl e0 (S_5.ext O0.2) (g := (mkF m 3 (lt4 (0 : Int32) ((4 : Int32) - (1 : Int32)) (4 : Int32)) [(.int (4 : Int32)), (.int ((4 : Int32) - (1 : Int32))), (.int (0 : Int32))])) rfl (hb hby d6_3)
  obtain ⟨_, _, ⟨T380, L380, k380, n380⟩, -, X380, ⟨Lc380, hQ380, l380, y380, z380⟩, st380⟩ := Jvm.LawKit.callS X379 hx (y := Y18) hown (mvT hZ (hw _ (tk 31 rfl))) (mvT hZ (hw _ (tk 32 rfl))) (mvT hZ (hw _ (tk 30 rfl))) (mvT hZ (hw _ (tk 33 rfl))) (by decide) (backOf (W := 0) (rm7u3x7 l Z a0 hw hv [] w_1 w_2 w_4 w_5 hS0 w_5 h0 n0 O0 IR_5) hZ (hw _ (tk 33 rfl)) (hw _ (tk 30 rfl)) (by decide) (by decide)) (g := (mkF m 6 (lt4 (0 : Int32) ((4 : Int32) - (1 : Int32)) (4 : Int32)) [w_5, (.int (4 : Int32)), (.int ((4 : Int32) - (1 : Int32))), (.int (0 : Int32))])) rfl (by rw [hml]; rfl) (argsL := [(.int (0 : Int32)), (.int ((4 : Int32) - (1 : Int32))), (.int (4 : Int32)), w_5]) (rest := []) (lenOf pd_3 rfl) rfl (by show 2 * 0 + _ ≤ _; exact Nat.le_of_eq rfl) (hb hby d6_6) (fun _ _ => ⟨rfl, e379, (by decide : 0 + 0 ≤ _), (by decide : 0 + 0 ≤ _)⟩)
  dsimp only [Pt.U, Pt.locs, Pt.cells, Pt.slots] at X380 l380 y380 z380 st380 hQ380
  subst l380 y380 z380
  obtain ⟨rv380, N380q, e380⟩ := hQ380
  subst rv380
  have N380 := Fr.app N0 N380q
  obtain ⟨fs, hr, hrun, hended, hW, hsame⟩ := X380.leave (v := some (.int (0 : Int32))) (fun h => by rw [Bd.returns] at h; cases h)
  refine ⟨_, _, pre0 _ ?_, hrun, hended, _, _, rfl, ?_, ⟨_, rfl⟩, hW, hsame.mono (by decide) (by decide)⟩
  · show Sp p e below s₁ (mkF m 0 (lt4 (0 : Int32) ((4 : Int32) - (1 : Int32)) (4 : Int32)) []) _
    refine XS.iloadN X0.here hx rfl (hb hby d6_0) rfl ?_
    refine XS.iloadN X0.here hx rfl (hb hby d6_1) rfl ?_
    show Sp p e below s₁ (mkF m 2 (lt4 (0 : Int32) ((4 : Int32) - (1 : Int32)) (4 : Int32)) [(.int ((4 : Int32) - (1 : Int32))), (.int (0 : Int32))]) _
    refine XS.iloadN X0.here hx rfl (hb hby d6_2) rfl ?_
    show Sp p e below s₁ (mkF m 3 (lt4 (0 : Int32) ((4 : Int32) - (1 : Int32)) (4 : Int32)) [(.int (4 : Int32)), (.int ((4 : Int32) - (1 : Int32))), (.int (0 : Int32))]) _
    refine st379 _ ?_
    show Sp p e below T379 (mkF m 6 (lt4 (0 : Int32) ((4 : Int32) - (1 : Int32)) (4 : Int32)) [w_5, (.int (4 : Int32)), (.int ((4 : Int32) - (1 : Int32))), (.int (0 : Int32))]) _
    refine st380 _ ?_
    show Sp p e below T380 (mkF m 9 (lt4 (0 : Int32) ((4 : Int32) - (1 : Int32)) (4 : Int32)) [(.int (0 : Int32))]) _
    exact retI X380 hx Bd.returns (hb hby d6_9) hr
  · show Q6x7 Z w_1 w_2 w_4 w_5 h0 n0 _ T380.heap _
    rw [e380]
    exact ⟨rfl, N380, rfl⟩
theorem pn_13x5 : plainName "java/util/Arrays" = true := by first | (simp [plainName, overriddenIn]; done) | decide +kernel
theorem ef_13x5 (m : MethodId)  : entryFrame m #[(.int (0 : Int32)), (.int ((0 : Int32) + ((4 : Int32) - (1 : Int32))))] 2 = mkF m 0 #[.val (.int (0 : Int32)), .val (.int ((0 : Int32) + ((4 : Int32) - (1 : Int32))))] [] := by first | (simp [entryFrame, mkF, argsToLocals, Value.category]; done) | rfl
def Q13x5 (Z : State) (w_1 : Addr) (w_2 : Addr) (w_4 : Int32) (w_5 : Value) (h0 : Heap) (n0 : Nat) (v : Option Value) (h : Heap) (L : List Loc) : Prop := v = none ∧ Fr n0 L ∧ h = h0
set_option maxRecDepth 65536 in
set_option maxHeartbeats 40000000 in
theorem rm13x5 (l : Launch) (Z : State) (a0 : Array Value) (hw : ∀ d ∈ tables_1, d.before a0 Z = true) (hv : ∀ d ∈ jdkStatics_1, d.before a0 Z = true) (ws : List Jvm.Cond) (w_1 : Addr) (w_2 : Addr) (w_4 : Int32) (w_5 : Value) (hS : StF Z w_1 w_2 w_4 w_5) (h0 : Heap) (n0 : Nat) (O0 : Old Z n0 h0) :
    MetFree l Y29 (head1 (Jvm.Cond.code Y29 jdk_65_method_131_code 2 none :: ws) ({ frames := 0, cells := 0, slots := 0, locals := 0 } : Room)) (fun a U => a = #[(.int (0 : Int32)), (.int ((0 : Int32) + ((4 : Int32) - (1 : Int32))))] ∧ Z.Warmed39 U.vm ∧ U.heap = h0) (fun _ _ _ _ _ => True) (fun _ U o U' => ∃ v L, o = .returned v ∧ Q13x5 Z w_1 w_2 w_4 w_5 h0 n0 v U'.heap L ∧ FrameEnd U o U' L ({ frames := 0, cells := 0, slots := 0, locals := 0 } : Room).cells ({ frames := 0, cells := 0, slots := 0, locals := 0 } : Room).slots) := by
  refine MetFree.of_bodySF (plainFor_of_name pn_13x5) hisR ?_
  intro p e s m args below meth c s₁ Bd hml0 hP hK
  obtain ⟨rfl, hZ, hh⟩ := hP
  have hx := Bd.exec
  have hby := Bd.bytes
  have hml : c.maxLocals = 2 := hml0
  have hown : s.vm.findClass "java/util/Arrays" = some m.cls := findClass_of_methodNamed Bd.named
  have hnm := (name_of_methodNamed Bd.named Bd.method).1
  have X0 : Stand p l e ({ frames := 0, cells := 0, slots := 0, locals := 0 } : Room) s m #[(.int (0 : Int32)), (.int ((0 : Int32) + ((4 : Int32) - (1 : Int32))))] below meth c s₁ [] 0 0 := Stand.of_body Bd
  have e0 : s₁.heap = h0 := by rw [← hh, Bd.state]; rfl
  have N0 := Fr.nil n0
  have hS0 := hS
  obtain ⟨S_1, E_1, S_2, E_2, S_3, E_3, S_4, NE_4, S_5, IR_5⟩ := hS
  have pre0 : ∀ t, Steps p.tables e below (s₁.setTop (mkF m 0 #[.val (.int (0 : Int32)), .val (.int ((0 : Int32) + ((4 : Int32) - (1 : Int32))))] [])) t → Steps p.tables e below (s₁.setTop (entryFrame m #[(.int (0 : Int32)), (.int ((0 : Int32) + ((4 : Int32) - (1 : Int32))))] 2)) t := fun t k => castTop (ef_13x5 m ) k
  generalize hE0 : s₁.setTop (entryFrame m #[(.int (0 : Int32)), (.int ((0 : Int32) + ((4 : Int32) - (1 : Int32))))] 2) = E0 at pre0 ⊢
  obtain ⟨fs, hr, hrun, hended, hW, hsame⟩ := X0.leave (v := none) (fun _ => rfl)
  refine ⟨_, _, pre0 _ ?_, hrun, hended, _, _, rfl, ?_, ⟨_, rfl⟩, hW, hsame.mono (by decide) (by decide)⟩
  · show Sp p e below s₁ (mkF m 0 (lt20 (0 : Int32) ((0 : Int32) + ((4 : Int32) - (1 : Int32)))) []) _
    refine XS.iloadN X0.here hx rfl (hb hby d13_0) rfl ?_
    refine XS.iloadN X0.here hx rfl (hb hby d13_1) rfl ?_
    show Sp p e below s₁ (mkF m 2 (lt20 (0 : Int32) ((0 : Int32) + ((4 : Int32) - (1 : Int32)))) [(.int (0 : Int32)), (.int ((0 : Int32) + ((4 : Int32) - (1 : Int32))))]) _
    refine XS.icmpYes X0.here hx rfl (pc0 := 2) (pc' := 37) rfl (hb hby d13_2) rfl (flt (by decide : ¬ (((0 : Int32) + ((4 : Int32) - (1 : Int32))) < (0 : Int32)))).2.1 (by decide) (by decide) ?_
    show Sp p e below s₁ (mkF m 37 (lt20 (0 : Int32) ((0 : Int32) + ((4 : Int32) - (1 : Int32)))) []) _
    exact X0.returnOut hx Bd.returns (hb hby d13_37) hr
  · show Q13x5 Z w_1 w_2 w_4 w_5 h0 n0 _ s₁.heap _
    rw [e0]
    exact ⟨rfl, N0, rfl⟩
theorem pn_12x5 : plainName "java/util/Arrays" = true := by first | (simp [plainName, overriddenIn]; done) | decide +kernel
theorem ef_12x5 (m : MethodId) (r0 : Addr) : entryFrame m #[(.ref r0), (.int (0 : Int32)), (.int ((0 : Int32) + ((4 : Int32) - (1 : Int32))))] 5 = mkF m 0 #[.val (.ref r0), .val (.int (0 : Int32)), .val (.int ((0 : Int32) + ((4 : Int32) - (1 : Int32)))), .unset, .unset] [] := by first | (simp [entryFrame, mkF, argsToLocals, Value.category]; done) | rfl
def Q12x5 (Z : State) (w_1 : Addr) (w_2 : Addr) (w_4 : Int32) (w_5 : Value) (r0 : Addr) (k_r0 : ClassId) (x_r0_0 : Int32) (x_r0_1 : Int32) (x_r0_2 : Int32) (x_r0_3 : Int32) (h0 : Heap) (n0 : Nat) (v : Option Value) (h : Heap) (L : List Loc) : Prop := ∃ (b388 : Addr) (k388 : ClassId), v = some (.ref b388) ∧ Fr n0 L ∧ Old Z n0 h ∧ Keep h0 h [] ∧ n0 ≤ b388 ∧ h0.size ≤ b388 ∧ Arv Z h b388 k388 .byte (((0 : Int32) + ((4 : Int32) - (1 : Int32))) - (0 : Int32)) [(.int x_r0_0), (.int x_r0_1), (.int x_r0_2)] (.int (0 : Int32))
set_option maxRecDepth 65536 in
set_option maxHeartbeats 40000000 in
theorem rm12x5 (l : Launch) (Z : State) (a0 : Array Value) (hw : ∀ d ∈ tables_1, d.before a0 Z = true) (hv : ∀ d ∈ jdkStatics_1, d.before a0 Z = true) (ws : List Jvm.Cond) (w_1 : Addr) (w_2 : Addr) (w_4 : Int32) (w_5 : Value) (hS : StF Z w_1 w_2 w_4 w_5) (r0 : Addr) (k_r0 : ClassId) (x_r0_0 : Int32) (x_r0_1 : Int32) (x_r0_2 : Int32) (x_r0_3 : Int32) (h0 : Heap) (n0 : Nat) (O0 : Old Z n0 h0) (g_r0 : n0 ≤ r0) (V_r0 : Arv Z h0 r0 k_r0 .byte (4 : Int32) [(.int x_r0_0), (.int x_r0_1), (.int x_r0_2), (.int x_r0_3)] (.int (0 : Int32))) :
    MetFree l Y33 (head1 (Jvm.Cond.code Y33 jdk_65_method_133_code 5 (some (.array .byte)) :: ws) ({ frames := 1, cells := 1, slots := 3, locals := 18 } : Room)) (fun a U => a = #[(.ref r0), (.int (0 : Int32)), (.int ((0 : Int32) + ((4 : Int32) - (1 : Int32))))] ∧ Z.Warmed39 U.vm ∧ U.heap = h0) (fun _ _ _ _ _ => True) (fun _ U o U' => ∃ v L, o = .returned v ∧ Q12x5 Z w_1 w_2 w_4 w_5 r0 k_r0 x_r0_0 x_r0_1 x_r0_2 x_r0_3 h0 n0 v U'.heap L ∧ FrameEnd U o U' L ({ frames := 1, cells := 1, slots := 3, locals := 18 } : Room).cells ({ frames := 1, cells := 1, slots := 3, locals := 18 } : Room).slots) := by
  refine MetFree.of_bodySF (plainFor_of_name pn_12x5) hisR ?_
  intro p e s m args below meth c s₁ Bd hml0 hP hK
  obtain ⟨rfl, hZ, hh⟩ := hP
  have hx := Bd.exec
  have hby := Bd.bytes
  have hml : c.maxLocals = 5 := hml0
  have hown : s.vm.findClass "java/util/Arrays" = some m.cls := findClass_of_methodNamed Bd.named
  have hnm := (name_of_methodNamed Bd.named Bd.method).1
  have X0 : Stand p l e ({ frames := 1, cells := 1, slots := 3, locals := 18 } : Room) s m #[(.ref r0), (.int (0 : Int32)), (.int ((0 : Int32) + ((4 : Int32) - (1 : Int32))))] below meth c s₁ [] 0 0 := Stand.of_body Bd
  have e0 : s₁.heap = h0 := by rw [← hh, Bd.state]; rfl
  have N0 := Fr.nil n0
  have hS0 := hS
  obtain ⟨S_1, E_1, S_2, E_2, S_3, E_3, S_4, NE_4, S_5, IR_5⟩ := hS
  have pre0 : ∀ t, Steps p.tables e below (s₁.setTop (mkF m 0 #[.val (.ref r0), .val (.int (0 : Int32)), .val (.int ((0 : Int32) + ((4 : Int32) - (1 : Int32)))), .unset, .unset] [])) t → Steps p.tables e below (s₁.setTop (entryFrame m #[(.ref r0), (.int (0 : Int32)), (.int ((0 : Int32) + ((4 : Int32) - (1 : Int32))))] 5)) t := fun t k => castTop (ef_12x5 m r0) k
  generalize hE0 : s₁.setTop (entryFrame m #[(.ref r0), (.int (0 : Int32)), (.int ((0 : Int32) + ((4 : Int32) - (1 : Int32))))] 5) = E0 at pre0 ⊢
  obtain ⟨_, _, ⟨T387, L387, k387, n387⟩, -, X387, ⟨Lc387, hQ387, l387, y387, z387⟩, st387⟩ := Jvm.LawKit.callS X0 hx (y := Y29) hown (mvT hZ (hw _ (tk 65 rfl))) (mvT hZ (hw _ (tk 66 rfl))) (mvT hZ (hw _ (tk 60 rfl))) (mvT hZ (hw _ (tk 67 rfl))) (by decide) (backOf (W := 0) (rm13x5 l Z a0 hw hv [] w_1 w_2 w_4 w_5 hS0 h0 n0 O0) hZ (hw _ (tk 67 rfl)) (hw _ (tk 60 rfl)) (by decide) (by decide)) (g := (mkF m 2 (lt19 r0 (0 : Int32) ((0 : Int32) + ((4 : Int32) - (1 : Int32)))) [(.int ((0 : Int32) + ((4 : Int32) - (1 : Int32)))), (.int (0 : Int32))])) rfl (by rw [hml]; rfl) (argsL := [(.int (0 : Int32)), (.int ((0 : Int32) + ((4 : Int32) - (1 : Int32))))]) (rest := []) (lenOf pd_9 rfl) rfl (by show 2 * 0 + _ ≤ _; exact Nat.le_of_eq rfl) (hb hby d12_2) (fun _ _ => ⟨rfl, e0, (by decide : 0 + 0 ≤ _), (by decide : 0 + 0 ≤ _)⟩)
  dsimp only [Pt.U, Pt.locs, Pt.cells, Pt.slots] at X387 l387 y387 z387 st387 hQ387
  subst l387 y387 z387
  obtain ⟨rv387, N387q, e387⟩ := hQ387
  subst rv387
  have N387 := Fr.app N0 N387q
  obtain ⟨T388, h388, k388, X388, e388, E388, A388, st388⟩ := newP X387 hx hZ (hw _ (tk 0 rfl)) e387 (g := (mkF m 10 (lt21 r0 (0 : Int32) ((0 : Int32) + ((4 : Int32) - (1 : Int32))) (((0 : Int32) + ((4 : Int32) - (1 : Int32))) - (0 : Int32))) [(.int (((0 : Int32) + ((4 : Int32) - (1 : Int32))) - (0 : Int32)))])) rfl (hb hby d12_10) rfl (by decide) (cap := 3) (by decide) (by decide) (by decide) (by decide)
  obtain ⟨b388, g388⟩ : ∃ z, z = h0.size := ⟨_, rfl⟩
  rw [← g388] at A388 st388
  have g_b388 : n0 ≤ b388 := Nat.le_trans (own_old O0) (Nat.le_of_eq g388.symm)
  have sz_b388 : h0.size ≤ b388 := Nat.le_trans (Keep.refl h0 []).1 (Nat.le_of_eq g388.symm)
  have ne_r0_b388 : r0 ≠ b388 := Nat.ne_of_lt (Nat.lt_of_lt_of_le V_r0.lt (Nat.le_of_eq g388.symm))
  have O388 : Old Z n0 h388 := O0.ext E388
  have K388 : Keep h0 h388 [] := (Keep.refl h0 []).ext E388
  have V_b388 : Arv Z h388 b388 k388 .byte (((0 : Int32) + ((4 : Int32) - (1 : Int32))) - (0 : Int32)) [(.int (0 : Int32)), (.int (0 : Int32)), (.int (0 : Int32))] (.int (0 : Int32)) := (Arv.new A388 (by decide)).pad (pad_rep [] (.int (0 : Int32)) 3)
  have c389 := (V_r0.ext E388)
  obtain ⟨cl390, Ar390, qa390, Sa390, Ma390, Ha390, Ga390⟩ := id c389
  obtain ⟨_, _, ⟨T391, L391, k391, n391⟩, -, X391, ⟨Lc391, hQ391, l391, y391, z391⟩, st391⟩ := Jvm.LawKit.callS X388 hx (y := Y32) hown (mvT hZ (hw _ (tk 68 rfl))) (mvT hZ (hw _ (tk 69 rfl))) (mvT hZ (hw _ (tk 70 rfl))) (mvT hZ (hw _ (tk 71 rfl))) (by decide) (backOf (W := 4) (rm14 l Z a0 hw hv [] w_1 w_2 w_4 w_5 hS0 ((4 : Int32) - (0 : Int32)) (((0 : Int32) + ((4 : Int32) - (1 : Int32))) - (0 : Int32)) h388 n0 O388) hZ (hw _ (tk 71 rfl)) (hw _ (tk 70 rfl)) (by decide) (by decide)) (g := (mkF m 24 (lt22 r0 (0 : Int32) ((0 : Int32) + ((4 : Int32) - (1 : Int32))) (((0 : Int32) + ((4 : Int32) - (1 : Int32))) - (0 : Int32)) b388) [(.int (((0 : Int32) + ((4 : Int32) - (1 : Int32))) - (0 : Int32))), (.int ((4 : Int32) - (0 : Int32))), (.int (0 : Int32)), (.ref b388), (.int (0 : Int32)), (.ref r0)])) rfl (by rw [hml]; rfl) (argsL := [(.int ((4 : Int32) - (0 : Int32))), (.int (((0 : Int32) + ((4 : Int32) - (1 : Int32))) - (0 : Int32)))]) (rest := [(.int (0 : Int32)), (.ref b388), (.int (0 : Int32)), (.ref r0)]) (lenOf pd_10 rfl) rfl (by show 2 * 0 + _ ≤ _; exact Nat.le_of_eq rfl) (hb hby d12_24) (fun _ _ => ⟨rfl, e388, (by decide : 1 + 0 ≤ _), (by decide : 3 + 0 ≤ _)⟩)
  dsimp only [Pt.U, Pt.locs, Pt.cells, Pt.slots] at X391 l391 y391 z391 st391 hQ391
  subst l391 y391 z391
  obtain ⟨rv391, N391q, e391⟩ := hQ391
  rw [show sp14 ((4 : Int32) - (0 : Int32)) (((0 : Int32) + ((4 : Int32) - (1 : Int32))) - (0 : Int32)) = (((0 : Int32) + ((4 : Int32) - (1 : Int32))) - (0 : Int32)) from by unfold sp14; rw [if_pos (by decide : ((((0 : Int32) + ((4 : Int32) - (1 : Int32))) - (0 : Int32)) < ((4 : Int32) - (0 : Int32))))]] at rv391
  subst rv391
  have N391 := Fr.app N387 N391q
  obtain ⟨T392, h392, L392, X392, e392, N392, K392c, Va392, st392⟩ := cpA X391 hx hZ hown (hw _ (tk 72 rfl)) (hw _ (tk 75 rfl)) (hw _ (tk 73 rfl)) (hw _ (tk 74 rfl)) e391 c389 V_b388 (us := [(.int x_r0_0), (.int x_r0_1), (.int x_r0_2)]) (Or.inl ⟨rfl, rfl⟩) (sp := (0 : Int32)) (dp := (0 : Int32)) (nn := (((0 : Int32) + ((4 : Int32) - (1 : Int32))) - (0 : Int32))) (by decide) (by decide) (by decide) (by decide) (by decide) rfl (Nat.le_of_ble_eq_true rfl) N391 g_b388 (g := (mkF m 27 (lt22 r0 (0 : Int32) ((0 : Int32) + ((4 : Int32) - (1 : Int32))) (((0 : Int32) + ((4 : Int32) - (1 : Int32))) - (0 : Int32)) b388) [(.int (((0 : Int32) + ((4 : Int32) - (1 : Int32))) - (0 : Int32))), (.int (0 : Int32)), (.ref b388), (.int (0 : Int32)), (.ref r0)])) rfl (by rw [hml]; rfl) rfl (hb hby d12_27) (by decide) (W := 0) (by show 2 * 0 + _ ≤ _; exact Nat.le_of_eq rfl) (by decide)
  have O392 : Old Z n0 h392 := O388.keep K392c (allS g_b388 all0)
  have K392 : Keep h0 h392 [] := K388.trans K392c (allS (Or.inr sz_b388) all0)
  have Vb392 : Arv Z h392 b388 k388 .byte (((0 : Int32) + ((4 : Int32) - (1 : Int32))) - (0 : Int32)) [(.int x_r0_0), (.int x_r0_1), (.int x_r0_2)] (.int (0 : Int32)) := Va392
  obtain ⟨fs, hr, hrun, hended, hW, hsame⟩ := X392.leave (v := some (.ref b388)) (fun h => by rw [Bd.returns] at h; cases h)
  refine ⟨_, _, pre0 _ ?_, hrun, hended, _, _, rfl, ?_, ⟨_, rfl⟩, hW, hsame.mono (by decide) (by decide)⟩
  · show Sp p e below s₁ (mkF m 0 (lt19 r0 (0 : Int32) ((0 : Int32) + ((4 : Int32) - (1 : Int32)))) []) _
    refine XS.iloadN X0.here hx rfl (hb hby d12_0) rfl ?_
    refine XS.iloadN X0.here hx rfl (hb hby d12_1) rfl ?_
    show Sp p e below s₁ (mkF m 2 (lt19 r0 (0 : Int32) ((0 : Int32) + ((4 : Int32) - (1 : Int32)))) [(.int ((0 : Int32) + ((4 : Int32) - (1 : Int32)))), (.int (0 : Int32))]) _
    refine st387 _ ?_
    show Sp p e below T387 (mkF m 5 (lt19 r0 (0 : Int32) ((0 : Int32) + ((4 : Int32) - (1 : Int32)))) []) _
    refine XS.iloadN X387.here hx rfl (hb hby d12_5) rfl ?_
    refine XS.iloadN X387.here hx rfl (hb hby d12_6) rfl ?_
    show Sp p e below T387 (mkF m 7 (lt19 r0 (0 : Int32) ((0 : Int32) + ((4 : Int32) - (1 : Int32)))) [(.int (0 : Int32)), (.int ((0 : Int32) + ((4 : Int32) - (1 : Int32))))]) _
    refine XS.isub X387.here hx rfl (hb hby d12_7) rfl ?_
    refine XS.istoreN X387.here hx rfl (hb hby d12_8) rfl (l' := (lt21 r0 (0 : Int32) ((0 : Int32) + ((4 : Int32) - (1 : Int32))) (((0 : Int32) + ((4 : Int32) - (1 : Int32))) - (0 : Int32)))) rfl ?_
    show Sp p e below T387 (mkF m 9 (lt21 r0 (0 : Int32) ((0 : Int32) + ((4 : Int32) - (1 : Int32))) (((0 : Int32) + ((4 : Int32) - (1 : Int32))) - (0 : Int32))) []) _
    refine XS.iloadN X387.here hx rfl (hb hby d12_9) rfl ?_
    show Sp p e below T387 (mkF m 10 (lt21 r0 (0 : Int32) ((0 : Int32) + ((4 : Int32) - (1 : Int32))) (((0 : Int32) + ((4 : Int32) - (1 : Int32))) - (0 : Int32))) [(.int (((0 : Int32) + ((4 : Int32) - (1 : Int32))) - (0 : Int32)))]) _
    refine st388 _ ?_
    show Sp p e below T388 (mkF m 12 (lt21 r0 (0 : Int32) ((0 : Int32) + ((4 : Int32) - (1 : Int32))) (((0 : Int32) + ((4 : Int32) - (1 : Int32))) - (0 : Int32))) [(.ref b388)]) _
    refine XS.astore X388.here hx rfl (hb hby d12_12) rfl rfl (l' := (lt22 r0 (0 : Int32) ((0 : Int32) + ((4 : Int32) - (1 : Int32))) (((0 : Int32) + ((4 : Int32) - (1 : Int32))) - (0 : Int32)) b388)) rfl ?_
    refine XS.aloadN X388.here hx rfl (hb hby d12_14) rfl rfl ?_
    show Sp p e below T388 (mkF m 15 (lt22 r0 (0 : Int32) ((0 : Int32) + ((4 : Int32) - (1 : Int32))) (((0 : Int32) + ((4 : Int32) - (1 : Int32))) - (0 : Int32)) b388) [(.ref r0)]) _
    refine XS.iloadN X388.here hx rfl (hb hby d12_15) rfl ?_
    refine XS.aload X388.here hx rfl (hb hby d12_16) rfl rfl ?_
    show Sp p e below T388 (mkF m 18 (lt22 r0 (0 : Int32) ((0 : Int32) + ((4 : Int32) - (1 : Int32))) (((0 : Int32) + ((4 : Int32) - (1 : Int32))) - (0 : Int32)) b388) [(.ref b388), (.int (0 : Int32)), (.ref r0)]) _
    refine XS.iconst X388.here hx rfl (hb hby d12_18) ?_
    refine XS.aloadN X388.here hx rfl (hb hby d12_19) rfl rfl ?_
    show Sp p e below T388 (mkF m 20 (lt22 r0 (0 : Int32) ((0 : Int32) + ((4 : Int32) - (1 : Int32))) (((0 : Int32) + ((4 : Int32) - (1 : Int32))) - (0 : Int32)) b388) [(.ref r0), (.int (0 : Int32)), (.ref b388), (.int (0 : Int32)), (.ref r0)]) _
    refine X388.arraylength hx (by rw [e388]; exact Ar390.1) (State.isArrayOf_alike hZ.alike Ar390.2.1) (g := (mkF m 20 (lt22 r0 (0 : Int32) ((0 : Int32) + ((4 : Int32) - (1 : Int32))) (((0 : Int32) + ((4 : Int32) - (1 : Int32))) - (0 : Int32)) b388) [(.ref r0), (.int (0 : Int32)), (.ref b388), (.int (0 : Int32)), (.ref r0)])) rfl rfl (hb hby d12_20) _ ?_
    rw [len_of Sa390 Ma390]
    show Sp p e below T388 (mkF m 21 (lt22 r0 (0 : Int32) ((0 : Int32) + ((4 : Int32) - (1 : Int32))) (((0 : Int32) + ((4 : Int32) - (1 : Int32))) - (0 : Int32)) b388) [(.int (4 : Int32)), (.int (0 : Int32)), (.ref b388), (.int (0 : Int32)), (.ref r0)]) _
    refine XS.iloadN X388.here hx rfl (hb hby d12_21) rfl ?_
    refine XS.isub X388.here hx rfl (hb hby d12_22) rfl ?_
    show Sp p e below T388 (mkF m 23 (lt22 r0 (0 : Int32) ((0 : Int32) + ((4 : Int32) - (1 : Int32))) (((0 : Int32) + ((4 : Int32) - (1 : Int32))) - (0 : Int32)) b388) [(.int ((4 : Int32) - (0 : Int32))), (.int (0 : Int32)), (.ref b388), (.int (0 : Int32)), (.ref r0)]) _
    refine XS.iloadN X388.here hx rfl (hb hby d12_23) rfl ?_
    show Sp p e below T388 (mkF m 24 (lt22 r0 (0 : Int32) ((0 : Int32) + ((4 : Int32) - (1 : Int32))) (((0 : Int32) + ((4 : Int32) - (1 : Int32))) - (0 : Int32)) b388) [(.int (((0 : Int32) + ((4 : Int32) - (1 : Int32))) - (0 : Int32))), (.int ((4 : Int32) - (0 : Int32))), (.int (0 : Int32)), (.ref b388), (.int (0 : Int32)), (.ref r0)]) _
    refine st391 _ ?_
    show Sp p e below T391 (mkF m 27 (lt22 r0 (0 : Int32) ((0 : Int32) + ((4 : Int32) - (1 : Int32))) (((0 : Int32) + ((4 : Int32) - (1 : Int32))) - (0 : Int32)) b388) [(.int (((0 : Int32) + ((4 : Int32) - (1 : Int32))) - (0 : Int32))), (.int (0 : Int32)), (.ref b388), (.int (0 : Int32)), (.ref r0)]) _
    refine st392 _ ?_
    show Sp p e below T392 (mkF m 30 (lt22 r0 (0 : Int32) ((0 : Int32) + ((4 : Int32) - (1 : Int32))) (((0 : Int32) + ((4 : Int32) - (1 : Int32))) - (0 : Int32)) b388) []) _
    refine XS.aload X392.here hx rfl (hb hby d12_30) rfl rfl ?_
    show Sp p e below T392 (mkF m 32 (lt22 r0 (0 : Int32) ((0 : Int32) + ((4 : Int32) - (1 : Int32))) (((0 : Int32) + ((4 : Int32) - (1 : Int32))) - (0 : Int32)) b388) [(.ref b388)]) _
    jvm_step X392.here [X392.here.top, hx, (hb hby d12_32), X392.method', Bd.returns, Value.isRef, FieldType.isReference]
    first | (intro acts; rw [hr _ acts rfl rfl rfl]) | rw [hr _ _ rfl rfl rfl]
    exact Steps.refl _
  · show Q12x5 Z w_1 w_2 w_4 w_5 r0 k_r0 x_r0_0 x_r0_1 x_r0_2 x_r0_3 h0 n0 _ T392.heap _
    rw [e392]
    exact ⟨b388, k388, rfl, N392, O392, K392, g_b388, sz_b388, Vb392⟩
theorem pn_11x5 : plainName "java/util/Arrays" = true := by first | (simp [plainName, overriddenIn]; done) | decide +kernel
theorem ef_11x5 (m : MethodId) (r0 : Addr) : entryFrame m #[(.ref r0), (.int (0 : Int32)), (.int ((0 : Int32) + ((4 : Int32) - (1 : Int32))))] 3 = mkF m 0 #[.val (.ref r0), .val (.int (0 : Int32)), .val (.int ((0 : Int32) + ((4 : Int32) - (1 : Int32))))] [] := by first | (simp [entryFrame, mkF, argsToLocals, Value.category]; done) | rfl
def Q11x5 (Z : State) (w_1 : Addr) (w_2 : Addr) (w_4 : Int32) (w_5 : Value) (r0 : Addr) (k_r0 : ClassId) (x_r0_0 : Int32) (x_r0_1 : Int32) (x_r0_2 : Int32) (x_r0_3 : Int32) (h0 : Heap) (n0 : Nat) (v : Option Value) (h : Heap) (L : List Loc) : Prop := ∃ (b394 : Addr) (k395 : ClassId), v = some (.ref b394) ∧ Fr n0 L ∧ Old Z n0 h ∧ Keep h0 h [] ∧ n0 ≤ b394 ∧ h0.size ≤ b394 ∧ Arv Z h b394 k395 .byte (((0 : Int32) + ((4 : Int32) - (1 : Int32))) - (0 : Int32)) [(.int x_r0_0), (.int x_r0_1), (.int x_r0_2)] (.int (0 : Int32))
set_option maxRecDepth 65536 in
set_option maxHeartbeats 40000000 in
theorem rm11x5 (l : Launch) (Z : State) (a0 : Array Value) (hw : ∀ d ∈ tables_1, d.before a0 Z = true) (hv : ∀ d ∈ jdkStatics_1, d.before a0 Z = true) (ws : List Jvm.Cond) (w_1 : Addr) (w_2 : Addr) (w_4 : Int32) (w_5 : Value) (hS : StF Z w_1 w_2 w_4 w_5) (r0 : Addr) (k_r0 : ClassId) (x_r0_0 : Int32) (x_r0_1 : Int32) (x_r0_2 : Int32) (x_r0_3 : Int32) (h0 : Heap) (n0 : Nat) (O0 : Old Z n0 h0) (g_r0 : n0 ≤ r0) (V_r0 : Arv Z h0 r0 k_r0 .byte (4 : Int32) [(.int x_r0_0), (.int x_r0_1), (.int x_r0_2), (.int x_r0_3)] (.int (0 : Int32))) :
    MetFree l Y34 (head1 (Jvm.Cond.code Y34 jdk_65_method_132_code 3 (some (.array .byte)) :: ws) ({ frames := 2, cells := 1, slots := 3, locals := 34 } : Room)) (fun a U => a = #[(.ref r0), (.int (0 : Int32)), (.int ((0 : Int32) + ((4 : Int32) - (1 : Int32))))] ∧ Z.Warmed39 U.vm ∧ U.heap = h0) (fun _ _ _ _ _ => True) (fun _ U o U' => ∃ v L, o = .returned v ∧ Q11x5 Z w_1 w_2 w_4 w_5 r0 k_r0 x_r0_0 x_r0_1 x_r0_2 x_r0_3 h0 n0 v U'.heap L ∧ FrameEnd U o U' L ({ frames := 2, cells := 1, slots := 3, locals := 34 } : Room).cells ({ frames := 2, cells := 1, slots := 3, locals := 34 } : Room).slots) := by
  refine MetFree.of_bodySF (plainFor_of_name pn_11x5) hisR ?_
  intro p e s m args below meth c s₁ Bd hml0 hP hK
  obtain ⟨rfl, hZ, hh⟩ := hP
  have hx := Bd.exec
  have hby := Bd.bytes
  have hml : c.maxLocals = 3 := hml0
  have hown : s.vm.findClass "java/util/Arrays" = some m.cls := findClass_of_methodNamed Bd.named
  have hnm := (name_of_methodNamed Bd.named Bd.method).1
  have X0 : Stand p l e ({ frames := 2, cells := 1, slots := 3, locals := 34 } : Room) s m #[(.ref r0), (.int (0 : Int32)), (.int ((0 : Int32) + ((4 : Int32) - (1 : Int32))))] below meth c s₁ [] 0 0 := Stand.of_body Bd
  have e0 : s₁.heap = h0 := by rw [← hh, Bd.state]; rfl
  have N0 := Fr.nil n0
  have hS0 := hS
  obtain ⟨S_1, E_1, S_2, E_2, S_3, E_3, S_4, NE_4, S_5, IR_5⟩ := hS
  have pre0 : ∀ t, Steps p.tables e below (s₁.setTop (mkF m 0 #[.val (.ref r0), .val (.int (0 : Int32)), .val (.int ((0 : Int32) + ((4 : Int32) - (1 : Int32))))] [])) t → Steps p.tables e below (s₁.setTop (entryFrame m #[(.ref r0), (.int (0 : Int32)), (.int ((0 : Int32) + ((4 : Int32) - (1 : Int32))))] 3)) t := fun t k => castTop (ef_11x5 m r0) k
  generalize hE0 : s₁.setTop (entryFrame m #[(.ref r0), (.int (0 : Int32)), (.int ((0 : Int32) + ((4 : Int32) - (1 : Int32))))] 3) = E0 at pre0 ⊢
  obtain ⟨cl386, Ar386, qa386, Sa386, Ma386, Ha386, Ga386⟩ := id V_r0
  obtain ⟨_, _, ⟨T393, L393, k393, n393⟩, -, X393, ⟨Lc393, hQ393, l393, y393, z393⟩, st393⟩ := Jvm.LawKit.callS X0 hx (y := Y33) hown (mvT hZ (hw _ (tk 62 rfl))) (mvT hZ (hw _ (tk 63 rfl))) (mvT hZ (hw _ (tk 60 rfl))) (mvT hZ (hw _ (tk 64 rfl))) (by decide) (backOf (W := 0) (rm12x5 l Z a0 hw hv [] w_1 w_2 w_4 w_5 hS0 r0 k_r0 x_r0_0 x_r0_1 x_r0_2 x_r0_3 h0 n0 O0 g_r0 V_r0) hZ (hw _ (tk 64 rfl)) (hw _ (tk 60 rfl)) (by decide) (by decide)) (g := (mkF m 13 (lt18 r0 (0 : Int32) ((0 : Int32) + ((4 : Int32) - (1 : Int32)))) [(.int ((0 : Int32) + ((4 : Int32) - (1 : Int32)))), (.int (0 : Int32)), (.ref r0)])) rfl (by rw [hml]; rfl) (argsL := [(.ref r0), (.int (0 : Int32)), (.int ((0 : Int32) + ((4 : Int32) - (1 : Int32))))]) (rest := []) (lenOf pd_11 rfl) rfl (by show 2 * 0 + _ ≤ _; exact Nat.le_of_eq rfl) (hb hby d11_13) (fun _ _ => ⟨rfl, e0, (by decide : 0 + 1 ≤ _), (by decide : 0 + 3 ≤ _)⟩)
  dsimp only [Pt.U, Pt.locs, Pt.cells, Pt.slots] at X393 l393 y393 z393 st393 hQ393
  subst l393 y393 z393
  obtain ⟨b394, k395, rv393, N393q, O393, K393c, Fx393_0, Fx393_1, Fx393_2⟩ := hQ393
  subst rv393
  have N393 := Fr.app N0 N393q
  have K393 : Keep h0 T393.heap [] := (Keep.refl h0 []).trans K393c all0
  have g_b394 := Fx393_0
  have sz_b394 : h0.size ≤ b394 := Nat.le_trans (Keep.refl h0 []).1 Fx393_1
  have ne_r0_b394 : r0 ≠ b394 := Nat.ne_of_lt (Nat.lt_of_lt_of_le V_r0.lt Fx393_1)
  obtain ⟨fs, hr, hrun, hended, hW, hsame⟩ := X393.leave (v := some (.ref b394)) (fun h => by rw [Bd.returns] at h; cases h)
  refine ⟨_, _, pre0 _ ?_, hrun, hended, _, _, rfl, ?_, ⟨_, rfl⟩, hW, hsame.mono (by decide) (by decide)⟩
  · show Sp p e below s₁ (mkF m 0 (lt18 r0 (0 : Int32) ((0 : Int32) + ((4 : Int32) - (1 : Int32)))) []) _
    refine XS.iloadN X0.here hx rfl (hb hby d11_0) rfl ?_
    show Sp p e below s₁ (mkF m 1 (lt18 r0 (0 : Int32) ((0 : Int32) + ((4 : Int32) - (1 : Int32)))) [(.int (0 : Int32))]) _
    refine XS.ifNo X0.here hx rfl (hb hby d11_1) rfl ((if0 _ _).trans (teq (by decide : ((0 : Int32) = (0 : Int32)))).2) ?_
    show Sp p e below s₁ (mkF m 4 (lt18 r0 (0 : Int32) ((0 : Int32) + ((4 : Int32) - (1 : Int32)))) []) _
    refine XS.iloadN X0.here hx rfl (hb hby d11_4) rfl ?_
    refine XS.aloadN X0.here hx rfl (hb hby d11_5) rfl rfl ?_
    show Sp p e below s₁ (mkF m 6 (lt18 r0 (0 : Int32) ((0 : Int32) + ((4 : Int32) - (1 : Int32)))) [(.ref r0), (.int ((0 : Int32) + ((4 : Int32) - (1 : Int32))))]) _
    refine X0.arraylength hx (by rw [e0]; exact Ar386.1) (State.isArrayOf_alike hZ.alike Ar386.2.1) (g := (mkF m 6 (lt18 r0 (0 : Int32) ((0 : Int32) + ((4 : Int32) - (1 : Int32)))) [(.ref r0), (.int ((0 : Int32) + ((4 : Int32) - (1 : Int32))))])) rfl rfl (hb hby d11_6) _ ?_
    rw [len_of Sa386 Ma386]
    show Sp p e below s₁ (mkF m 7 (lt18 r0 (0 : Int32) ((0 : Int32) + ((4 : Int32) - (1 : Int32)))) [(.int (4 : Int32)), (.int ((0 : Int32) + ((4 : Int32) - (1 : Int32))))]) _
    refine XS.icmpNo X0.here hx rfl (hb hby d11_7) rfl (feq (by decide : ¬ (((0 : Int32) + ((4 : Int32) - (1 : Int32))) = (4 : Int32)))).1 ?_
    show Sp p e below s₁ (mkF m 10 (lt18 r0 (0 : Int32) ((0 : Int32) + ((4 : Int32) - (1 : Int32)))) []) _
    refine XS.aloadN X0.here hx rfl (hb hby d11_10) rfl rfl ?_
    refine XS.iloadN X0.here hx rfl (hb hby d11_11) rfl ?_
    show Sp p e below s₁ (mkF m 12 (lt18 r0 (0 : Int32) ((0 : Int32) + ((4 : Int32) - (1 : Int32)))) [(.int (0 : Int32)), (.ref r0)]) _
    refine XS.iloadN X0.here hx rfl (hb hby d11_12) rfl ?_
    show Sp p e below s₁ (mkF m 13 (lt18 r0 (0 : Int32) ((0 : Int32) + ((4 : Int32) - (1 : Int32)))) [(.int ((0 : Int32) + ((4 : Int32) - (1 : Int32)))), (.int (0 : Int32)), (.ref r0)]) _
    refine st393 _ ?_
    show Sp p e below T393 (mkF m 16 (lt18 r0 (0 : Int32) ((0 : Int32) + ((4 : Int32) - (1 : Int32)))) [(.ref b394)]) _
    jvm_step X393.here [X393.here.top, hx, (hb hby d11_16), X393.method', Bd.returns, Value.isRef, FieldType.isReference]
    first | (intro acts; rw [hr _ acts rfl rfl rfl]) | rw [hr _ _ rfl rfl rfl]
    exact Steps.refl _
  · show Q11x5 Z w_1 w_2 w_4 w_5 r0 k_r0 x_r0_0 x_r0_1 x_r0_2 x_r0_3 h0 n0 _ T393.heap _
    exact ⟨b394, k395, rfl, N393, O393, K393, g_b394, sz_b394, Fx393_2⟩
theorem pn_8x7 : plainName "java/lang/String" = true := by first | (simp [plainName, overriddenIn]; done) | decide +kernel
theorem ef_8x7 (m : MethodId) (r0 : Addr) (w_1 : Addr) (r2 : Addr) : entryFrame m #[(.ref r0), (.ref w_1), (.ref r2), (.int (0 : Int32)), (.int ((4 : Int32) - (1 : Int32)))] 11 = mkF m 0 #[.val (.ref r0), .val (.ref w_1), .val (.ref r2), .val (.int (0 : Int32)), .val (.int ((4 : Int32) - (1 : Int32))), .unset, .unset, .unset, .unset, .unset, .unset] [] := by first | (simp [entryFrame, mkF, argsToLocals, Value.category]; done) | rfl
def Q8x7 (Z : State) (w_1 : Addr) (w_2 : Addr) (w_4 : Int32) (w_5 : Value) (r0 : Addr) (r2 : Addr) (k_r2 : ClassId) (x_r2_0 : Int32) (x_r2_1 : Int32) (x_r2_2 : Int32) (x_r2_3 : Int32) (h0 : Heap) (n0 : Nat) (v : Option Value) (h : Heap) (L : List Loc) : Prop := ∃ (b397 : Addr) (k398 : ClassId), v = none ∧ Fr n0 L ∧ Old Z n0 h ∧ Keep h0 h [r0] ∧ Fld Z h r0 "java/lang/String" "coder" "B" (.int (0 : Int32)) ∧ Fld Z h r0 "java/lang/String" "value" "[B" (.ref b397) ∧ n0 ≤ b397 ∧ h0.size ≤ b397 ∧ Arv Z h b397 k398 .byte (((0 : Int32) + ((4 : Int32) - (1 : Int32))) - (0 : Int32)) [(.int x_r2_0), (.int x_r2_1), (.int x_r2_2)] (.int (0 : Int32))
set_option maxRecDepth 65536 in
set_option maxHeartbeats 40000000 in
theorem rm8x7 (l : Launch) (Z : State) (a0 : Array Value) (hw : ∀ d ∈ tables_1, d.before a0 Z = true) (hv : ∀ d ∈ jdkStatics_1, d.before a0 Z = true) (ws : List Jvm.Cond) (w_1 : Addr) (w_2 : Addr) (w_4 : Int32) (w_5 : Value) (hS : StF Z w_1 w_2 w_4 w_5) (r0 : Addr) (r2 : Addr) (k_r2 : ClassId) (x_r2_0 : Int32) (x_r2_1 : Int32) (x_r2_2 : Int32) (x_r2_3 : Int32) (h0 : Heap) (n0 : Nat) (O0 : Old Z n0 h0) (g_r0 : n0 ≤ r0) (g_r2 : n0 ≤ r2) (E_r0 : Exa Z h0 r0 "java/lang/String") (F_coder_r0 : Fld Z h0 r0 "java/lang/String" "coder" "B" (.int (0 : Int32))) (F_value_r0 : Fld Z h0 r0 "java/lang/String" "value" "[B" .null) (V_r2 : Arv Z h0 r2 k_r2 .byte (4 : Int32) [(.int x_r2_0), (.int x_r2_1), (.int x_r2_2), (.int x_r2_3)] (.int (0 : Int32))) (ne_r0_r2 : r0 ≠ r2) :
    MetFree l Y21 (head1 (Jvm.Cond.codeWith Y21 jdk_42_method_11_code 11 none [(800, 813, 816, 202)] :: ws) ({ frames := 3, cells := 1, slots := 3, locals := 49 } : Room)) (fun a U => a = #[(.ref r0), (.ref w_1), (.ref r2), (.int (0 : Int32)), (.int ((4 : Int32) - (1 : Int32)))] ∧ Z.Warmed39 U.vm ∧ U.heap = h0) (fun _ _ _ _ _ => True) (fun _ U o U' => ∃ v L, o = .returned v ∧ Q8x7 Z w_1 w_2 w_4 w_5 r0 r2 k_r2 x_r2_0 x_r2_1 x_r2_2 x_r2_3 h0 n0 v U'.heap L ∧ FrameEnd U o U' L ({ frames := 3, cells := 1, slots := 3, locals := 49 } : Room).cells ({ frames := 3, cells := 1, slots := 3, locals := 49 } : Room).slots) := by
  refine MetFree.of_bodySF (plainFor_of_name pn_8x7) hisWith ?_
  intro p e s m args below meth c s₁ Bd hml0 hP hK
  obtain ⟨rfl, hZ, hh⟩ := hP
  have hx := Bd.exec
  have hby := Bd.bytes
  have hml : c.maxLocals = 11 := hml0
  have hown : s.vm.findClass "java/lang/String" = some m.cls := findClass_of_methodNamed Bd.named
  have hnm := (name_of_methodNamed Bd.named Bd.method).1
  have X0 : Stand p l e ({ frames := 3, cells := 1, slots := 3, locals := 49 } : Room) s m #[(.ref r0), (.ref w_1), (.ref r2), (.int (0 : Int32)), (.int ((4 : Int32) - (1 : Int32)))] below meth c s₁ [] 0 0 := Stand.of_body Bd
  have e0 : s₁.heap = h0 := by rw [← hh, Bd.state]; rfl
  have N0 := Fr.nil n0
  have hS0 := hS
  obtain ⟨S_1, E_1, S_2, E_2, S_3, E_3, S_4, NE_4, S_5, IR_5⟩ := hS
  have pre0 : ∀ t, Steps p.tables e below (s₁.setTop (mkF m 0 #[.val (.ref r0), .val (.ref w_1), .val (.ref r2), .val (.int (0 : Int32)), .val (.int ((4 : Int32) - (1 : Int32))), .unset, .unset, .unset, .unset, .unset, .unset] [])) t → Steps p.tables e below (s₁.setTop (entryFrame m #[(.ref r0), (.ref w_1), (.ref r2), (.int (0 : Int32)), (.int ((4 : Int32) - (1 : Int32)))] 11)) t := fun t k => castTop (ef_8x7 m r0 w_1 r2) k
  generalize hE0 : s₁.setTop (entryFrame m #[(.ref r0), (.ref w_1), (.ref r2), (.int (0 : Int32)), (.int ((4 : Int32) - (1 : Int32)))] 11) = E0 at pre0 ⊢
  obtain ⟨T382, X382, e382, st382⟩ := initO X0 hx hZ hown (hw _ (tk 38 rfl)) (hw _ (tk 39 rfl)) (hw _ (tk 40 rfl)) e0 (g := (mkF m 1 (lt16 r0 w_1 r2 (0 : Int32) ((4 : Int32) - (1 : Int32))) [(.ref r0)])) rfl (by rw [hml]; rfl) rfl (hb hby d8_1) (by decide) (W := 0) (by show 2 * 0 + _ ≤ _; exact Nat.le_of_eq rfl) (by decide)
  obtain ⟨T383, X383, e383, st383⟩ := getS2 X382 hx hZ hown (host := "") (Or.inl (hw _ (tk 53 rfl))) Via.refl e382 (S_2.ext O0.2) (g := (mkF m 31 (lt16 r0 w_1 r2 (0 : Int32) ((4 : Int32) - (1 : Int32))) [(.ref w_1)])) rfl (hb hby d8_31)
  obtain ⟨T384, X384, e384, st384⟩ := getS2 X383 hx hZ hown (host := "") (Or.inl (hw _ (tk 55 rfl))) Via.refl e383 (S_3.ext O0.2) (g := (mkF m 347 (lt16 r0 w_1 r2 (0 : Int32) ((4 : Int32) - (1 : Int32))) [(.ref w_1)])) rfl (hb hby d8_347)
  obtain ⟨T385, X385, e385, st385⟩ := getS2 X384 hx hZ hown (host := "") (Or.inl (hw _ (tk 57 rfl))) Via.refl e384 (S_4.ext O0.2) (g := (mkF m 353 (lt16 r0 w_1 r2 (0 : Int32) ((4 : Int32) - (1 : Int32))) [])) rfl (hb hby d8_353)
  obtain ⟨_, _, ⟨T396, L396, k396, n396⟩, -, X396, ⟨Lc396, hQ396, l396, y396, z396⟩, st396⟩ := Jvm.LawKit.callS X385 hx (y := Y34) hown (mvT hZ (hw _ (tk 58 rfl))) (mvT hZ (hw _ (tk 59 rfl))) (mvT hZ (hw _ (tk 60 rfl))) (mvT hZ (hw _ (tk 61 rfl))) (by decide) (backOf (W := 1) (rm11x5 l Z a0 hw hv [] w_1 w_2 w_4 w_5 hS0 r2 k_r2 x_r2_0 x_r2_1 x_r2_2 x_r2_3 h0 n0 O0 g_r2 V_r2) hZ (hw _ (tk 61 rfl)) (hw _ (tk 60 rfl)) (by decide) (by decide)) (g := (mkF m 366 (lt16 r0 w_1 r2 (0 : Int32) ((4 : Int32) - (1 : Int32))) [(.int ((0 : Int32) + ((4 : Int32) - (1 : Int32)))), (.int (0 : Int32)), (.ref r2), (.ref r0)])) rfl (by rw [hml]; rfl) (argsL := [(.ref r2), (.int (0 : Int32)), (.int ((0 : Int32) + ((4 : Int32) - (1 : Int32))))]) (rest := [(.ref r0)]) (lenOf pd_11 rfl) rfl (by show 2 * 0 + _ ≤ _; exact Nat.le_of_eq rfl) (hb hby d8_366) (fun _ _ => ⟨rfl, e385, (by decide : 0 + 1 ≤ _), (by decide : 0 + 3 ≤ _)⟩)
  dsimp only [Pt.U, Pt.locs, Pt.cells, Pt.slots] at X396 l396 y396 z396 st396 hQ396
  subst l396 y396 z396
  obtain ⟨b397, k398, rv396, N396q, O396, K396c, Fx396_0, Fx396_1, Fx396_2⟩ := hQ396
  subst rv396
  have N396 := Fr.app N0 N396q
  have K396 : Keep h0 T396.heap [r0] := (Keep.refl h0 [r0]).trans K396c all0
  have g_b397 := Fx396_0
  have sz_b397 : h0.size ≤ b397 := Nat.le_trans (Keep.refl h0 [r0]).1 Fx396_1
  have ne_r0_b397 : r0 ≠ b397 := Nat.ne_of_lt (Nat.lt_of_lt_of_le E_r0.lt Fx396_1)
  have ne_r2_b397 : r2 ≠ b397 := Nat.ne_of_lt (Nat.lt_of_lt_of_le V_r2.lt Fx396_1)
  have c399 := (E_r0.keep K396c)
  have c400 := (F_value_r0.keep K396c nin0)
  obtain ⟨T401, h401, X401, e401, W401, st401⟩ := putF X396 hx hZ hown (host := "") (Or.inl (hw _ (tk 46 rfl))) Via.refl rfl c400 c399 (Or.inr ⟨(hw _ (tk 42 rfl)), rfl, hnm⟩) (hw _ (tk 13 rfl)) (ty := (.array .byte)) (by decide) rfl rfl (g := (mkF m 369 (lt16 r0 w_1 r2 (0 : Int32) ((4 : Int32) - (1 : Int32))) [(.ref b397), (.ref r0)])) rfl rfl (hb hby d8_369)
  have Fw401 := c400.same W401
  have O401 : Old Z n0 h401 := O396.wr W401 g_r0
  have N401 := Fr.snoc X401 N396 g_r0
  have K401 : Keep h0 h401 [r0] := K396.wr W401 (Or.inl (List.mem_of_getElem? (i := 0) rfl))
  have c402 := (c399.wr W401)
  have c403 := ((F_coder_r0.keep K396c nin0).other W401 (Or.inr (slot_ne (Or.inr (hw _ (tk 43 rfl))) (Or.inr (hw _ (tk 42 rfl))) (by decide) (t := .byte) (t' := (.array .byte)) (by decide) (by decide))))
  obtain ⟨T404, h404, X404, e404, W404, st404⟩ := putFN X401 hx hZ hown (hw _ (tk 47 rfl)) Via.refl e401 c403 c402 (Or.inr ⟨(hw _ (tk 43 rfl)), rfl, hnm⟩) (hw _ (tk 13 rfl)) (ty := .byte) (v' := (.int (0 : Int32))) (by decide) rfl (by decide) (g := (mkF m 374 (lt16 r0 w_1 r2 (0 : Int32) ((4 : Int32) - (1 : Int32))) [(.int (0 : Int32)), (.ref r0)])) rfl rfl (hb hby d8_374)
  have Fw404 := c403.same W404
  have O404 : Old Z n0 h404 := O401.wr W404 g_r0
  have N404 := Fr.snoc X404 N401 g_r0
  have K404 : Keep h0 h404 [r0] := K401.wr W404 (Or.inl (List.mem_of_getElem? (i := 0) rfl))
  obtain ⟨fs, hr, hrun, hended, hW, hsame⟩ := X404.leave (v := none) (fun _ => rfl)
  have c405 := ((Fx396_2.other W401 (Ne.symm ne_r0_b397)).other W404 (Ne.symm ne_r0_b397))
  have c406 := (Fw401.other W404 (Or.inr (slot_ne (Or.inr (hw _ (tk 42 rfl))) (Or.inr (hw _ (tk 43 rfl))) (by decide) (t := (.array .byte)) (t' := .byte) (by decide) (by decide))))
  refine ⟨_, _, pre0 _ ?_, hrun, hended, _, _, rfl, ?_, ⟨_, rfl⟩, hW, hsame.mono (by decide) (by decide)⟩
  · show Sp p e below s₁ (mkF m 0 (lt16 r0 w_1 r2 (0 : Int32) ((4 : Int32) - (1 : Int32))) []) _
    refine XS.aloadN X0.here hx rfl (hb hby d8_0) rfl rfl ?_
    show Sp p e below s₁ (mkF m 1 (lt16 r0 w_1 r2 (0 : Int32) ((4 : Int32) - (1 : Int32))) [(.ref r0)]) _
    refine st382 _ ?_
    show Sp p e below T382 (mkF m 4 (lt16 r0 w_1 r2 (0 : Int32) ((4 : Int32) - (1 : Int32))) []) _
    refine XS.iload X382.here hx rfl (hb hby d8_4) rfl ?_
    show Sp p e below T382 (mkF m 6 (lt16 r0 w_1 r2 (0 : Int32) ((4 : Int32) - (1 : Int32))) [(.int ((4 : Int32) - (1 : Int32)))]) _
    refine XS.ifYes X382.here hx rfl (pc0 := 6) (pc' := 30) rfl (hb hby d8_6) rfl ((if0 _ _).trans (feq (by decide : ¬ (((4 : Int32) - (1 : Int32)) = (0 : Int32)))).2) (by decide) (by decide) ?_
    show Sp p e below T382 (mkF m 30 (lt16 r0 w_1 r2 (0 : Int32) ((4 : Int32) - (1 : Int32))) []) _
    refine XS.aloadN X382.here hx rfl (hb hby d8_30) rfl rfl ?_
    show Sp p e below T382 (mkF m 31 (lt16 r0 w_1 r2 (0 : Int32) ((4 : Int32) - (1 : Int32))) [(.ref w_1)]) _
    refine st383 _ ?_
    show Sp p e below T383 (mkF m 34 (lt16 r0 w_1 r2 (0 : Int32) ((4 : Int32) - (1 : Int32))) [(.ref w_2), (.ref w_1)]) _
    refine Jvm.RoadKit.acmp (g := (mkF m 34 (lt16 r0 w_1 r2 (0 : Int32) ((4 : Int32) - (1 : Int32))) [(.ref w_2), (.ref w_1)])) X383 hx rfl rfl rfl (pc0 := 34) (pc' := 346) (same := false) rfl (hb hby d8_34) rfl (decide_eq_false fun q => (ne_exa E_1 E_2 (by decide)) (Value.ref.inj q)) (by decide) (by decide) ?_
    show Sp p e below T383 (mkF m 346 (lt16 r0 w_1 r2 (0 : Int32) ((4 : Int32) - (1 : Int32))) []) _
    refine XS.aloadN X383.here hx rfl (hb hby d8_346) rfl rfl ?_
    show Sp p e below T383 (mkF m 347 (lt16 r0 w_1 r2 (0 : Int32) ((4 : Int32) - (1 : Int32))) [(.ref w_1)]) _
    refine st384 _ ?_
    show Sp p e below T384 (mkF m 350 (lt16 r0 w_1 r2 (0 : Int32) ((4 : Int32) - (1 : Int32))) [(.ref w_1), (.ref w_1)]) _
    refine Jvm.RoadKit.acmp (g := (mkF m 350 (lt16 r0 w_1 r2 (0 : Int32) ((4 : Int32) - (1 : Int32))) [(.ref w_1), (.ref w_1)])) X384 hx rfl rfl rfl (pc0 := 350) (pc' := 353) (same := true) rfl (hb hby d8_350) rfl (decide_eq_true (congrArg Value.ref rfl)) (by decide) (by decide) ?_
    show Sp p e below T384 (mkF m 353 (lt16 r0 w_1 r2 (0 : Int32) ((4 : Int32) - (1 : Int32))) []) _
    refine st385 _ ?_
    show Sp p e below T385 (mkF m 356 (lt16 r0 w_1 r2 (0 : Int32) ((4 : Int32) - (1 : Int32))) [(.int w_4)]) _
    refine XS.ifNo X385.here hx rfl (hb hby d8_356) rfl ((if0 _ _).trans (feq NE_4).1) ?_
    show Sp p e below T385 (mkF m 359 (lt16 r0 w_1 r2 (0 : Int32) ((4 : Int32) - (1 : Int32))) []) _
    refine XS.aloadN X385.here hx rfl (hb hby d8_359) rfl rfl ?_
    refine XS.aloadN X385.here hx rfl (hb hby d8_360) rfl rfl ?_
    show Sp p e below T385 (mkF m 361 (lt16 r0 w_1 r2 (0 : Int32) ((4 : Int32) - (1 : Int32))) [(.ref r2), (.ref r0)]) _
    refine XS.iloadN X385.here hx rfl (hb hby d8_361) rfl ?_
    refine XS.iloadN X385.here hx rfl (hb hby d8_362) rfl ?_
    show Sp p e below T385 (mkF m 363 (lt16 r0 w_1 r2 (0 : Int32) ((4 : Int32) - (1 : Int32))) [(.int (0 : Int32)), (.int (0 : Int32)), (.ref r2), (.ref r0)]) _
    refine XS.iload X385.here hx rfl (hb hby d8_363) rfl ?_
    refine XS.iadd X385.here hx rfl (hb hby d8_365) rfl ?_
    show Sp p e below T385 (mkF m 366 (lt16 r0 w_1 r2 (0 : Int32) ((4 : Int32) - (1 : Int32))) [(.int ((0 : Int32) + ((4 : Int32) - (1 : Int32)))), (.int (0 : Int32)), (.ref r2), (.ref r0)]) _
    refine st396 _ ?_
    show Sp p e below T396 (mkF m 369 (lt16 r0 w_1 r2 (0 : Int32) ((4 : Int32) - (1 : Int32))) [(.ref b397), (.ref r0)]) _
    refine st401 _ ?_
    show Sp p e below T401 (mkF m 372 (lt16 r0 w_1 r2 (0 : Int32) ((4 : Int32) - (1 : Int32))) []) _
    refine XS.aloadN X401.here hx rfl (hb hby d8_372) rfl rfl ?_
    refine XS.iconst X401.here hx rfl (hb hby d8_373) ?_
    show Sp p e below T401 (mkF m 374 (lt16 r0 w_1 r2 (0 : Int32) ((4 : Int32) - (1 : Int32))) [(.int (0 : Int32)), (.ref r0)]) _
    refine st404 _ ?_
    show Sp p e below T404 (mkF m 377 (lt16 r0 w_1 r2 (0 : Int32) ((4 : Int32) - (1 : Int32))) []) _
    refine XS.goto X404.here hx rfl (pc0 := 377) (pc' := 879) rfl (hb hby d8_377) (by decide) (by decide) ?_
    show Sp p e below T404 (mkF m 879 (lt16 r0 w_1 r2 (0 : Int32) ((4 : Int32) - (1 : Int32))) []) _
    exact X404.returnOut hx Bd.returns (hb hby d8_879) hr
  · show Q8x7 Z w_1 w_2 w_4 w_5 r0 r2 k_r2 x_r2_0 x_r2_1 x_r2_2 x_r2_3 h0 n0 _ T404.heap _
    rw [e404]
    exact ⟨b397, k398, rfl, N404, O404, K404, Fw404, c406, g_b397, sz_b397, c405⟩
theorem pn_4x7 : plainName "java/lang/String" = true := by first | (simp [plainName, overriddenIn]; done) | decide +kernel
theorem ef_4x7 (m : MethodId) (r0 : Addr) (r1 : Addr) (w_1 : Addr) : entryFrame m #[(.ref r0), (.ref r1), (.int (0 : Int32)), (.int ((4 : Int32) - (1 : Int32))), (.ref w_1)] 5 = mkF m 0 #[.val (.ref r0), .val (.ref r1), .val (.int (0 : Int32)), .val (.int ((4 : Int32) - (1 : Int32))), .val (.ref w_1)] [] := by first | (simp [entryFrame, mkF, argsToLocals, Value.category]; done) | rfl
def Q4x7 (Z : State) (w_1 : Addr) (w_2 : Addr) (w_4 : Int32) (w_5 : Value) (r0 : Addr) (r1 : Addr) (k_r1 : ClassId) (x_r1_0 : Int32) (x_r1_1 : Int32) (x_r1_2 : Int32) (x_r1_3 : Int32) (h0 : Heap) (n0 : Nat) (v : Option Value) (h : Heap) (L : List Loc) : Prop := ∃ (b408 : Addr) (k409 : ClassId), v = none ∧ Fr n0 L ∧ Old Z n0 h ∧ Keep h0 h [r0] ∧ Fld Z h r0 "java/lang/String" "coder" "B" (.int (0 : Int32)) ∧ Fld Z h r0 "java/lang/String" "value" "[B" (.ref b408) ∧ n0 ≤ b408 ∧ h0.size ≤ b408 ∧ Arv Z h b408 k409 .byte (((0 : Int32) + ((4 : Int32) - (1 : Int32))) - (0 : Int32)) [(.int x_r1_0), (.int x_r1_1), (.int x_r1_2)] (.int (0 : Int32))
set_option maxRecDepth 65536 in
set_option maxHeartbeats 40000000 in
theorem rm4x7 (l : Launch) (Z : State) (a0 : Array Value) (hw : ∀ d ∈ tables_1, d.before a0 Z = true) (hv : ∀ d ∈ jdkStatics_1, d.before a0 Z = true) (ws : List Jvm.Cond) (w_1 : Addr) (w_2 : Addr) (w_4 : Int32) (w_5 : Value) (hS : StF Z w_1 w_2 w_4 w_5) (r0 : Addr) (r1 : Addr) (k_r1 : ClassId) (x_r1_0 : Int32) (x_r1_1 : Int32) (x_r1_2 : Int32) (x_r1_3 : Int32) (h0 : Heap) (n0 : Nat) (O0 : Old Z n0 h0) (g_r0 : n0 ≤ r0) (g_r1 : n0 ≤ r1) (E_r0 : Exa Z h0 r0 "java/lang/String") (F_coder_r0 : Fld Z h0 r0 "java/lang/String" "coder" "B" (.int (0 : Int32))) (F_value_r0 : Fld Z h0 r0 "java/lang/String" "value" "[B" .null) (V_r1 : Arv Z h0 r1 k_r1 .byte (4 : Int32) [(.int x_r1_0), (.int x_r1_1), (.int x_r1_2), (.int x_r1_3)] (.int (0 : Int32))) (ne_r0_r1 : r0 ≠ r1) :
    MetFree l Y22 (head1 (Jvm.Cond.code Y22 jdk_42_method_10_code 5 none :: ws) ({ frames := 4, cells := 1, slots := 3, locals := 71 } : Room)) (fun a U => a = #[(.ref r0), (.ref r1), (.int (0 : Int32)), (.int ((4 : Int32) - (1 : Int32))), (.ref w_1)] ∧ Z.Warmed39 U.vm ∧ U.heap = h0) (fun _ _ _ _ _ => True) (fun _ U o U' => ∃ v L, o = .returned v ∧ Q4x7 Z w_1 w_2 w_4 w_5 r0 r1 k_r1 x_r1_0 x_r1_1 x_r1_2 x_r1_3 h0 n0 v U'.heap L ∧ FrameEnd U o U' L ({ frames := 4, cells := 1, slots := 3, locals := 71 } : Room).cells ({ frames := 4, cells := 1, slots := 3, locals := 71 } : Room).slots) := by
  refine MetFree.of_bodySF (plainFor_of_name pn_4x7) hisR ?_
  intro p e s m args below meth c s₁ Bd hml0 hP hK
  obtain ⟨rfl, hZ, hh⟩ := hP
  have hx := Bd.exec
  have hby := Bd.bytes
  have hml : c.maxLocals = 5 := hml0
  have hown : s.vm.findClass "java/lang/String" = some m.cls := findClass_of_methodNamed Bd.named
  have hnm := (name_of_methodNamed Bd.named Bd.method).1
  have X0 : Stand p l e ({ frames := 4, cells := 1, slots := 3, locals := 71 } : Room) s m #[(.ref r0), (.ref r1), (.int (0 : Int32)), (.int ((4 : Int32) - (1 : Int32))), (.ref w_1)] below meth c s₁ [] 0 0 := Stand.of_body Bd
  have e0 : s₁.heap = h0 := by rw [← hh, Bd.state]; rfl
  have N0 := Fr.nil n0
  have hS0 := hS
  obtain ⟨S_1, E_1, S_2, E_2, S_3, E_3, S_4, NE_4, S_5, IR_5⟩ := hS
  have pre0 : ∀ t, Steps p.tables e below (s₁.setTop (mkF m 0 #[.val (.ref r0), .val (.ref r1), .val (.int (0 : Int32)), .val (.int ((4 : Int32) - (1 : Int32))), .val (.ref w_1)] [])) t → Steps p.tables e below (s₁.setTop (entryFrame m #[(.ref r0), (.ref r1), (.int (0 : Int32)), (.int ((4 : Int32) - (1 : Int32))), (.ref w_1)] 5)) t := fun t k => castTop (ef_4x7 m r0 r1 w_1) k
  generalize hE0 : s₁.setTop (entryFrame m #[(.ref r0), (.ref r1), (.int (0 : Int32)), (.int ((4 : Int32) - (1 : Int32))), (.ref w_1)] 5) = E0 at pre0 ⊢
  obtain ⟨_, _, ⟨T376, L376, k376, n376⟩, -, X376, ⟨Lc376, hQ376, l376, y376, z376⟩, st376⟩ := Jvm.LawKit.callS X0 hx (y := Y16) hown (mvT hZ (hw _ (tk 20 rfl))) (mvT hZ (hw _ (tk 21 rfl))) (mvT hZ (hw _ (tk 22 rfl))) (mvT hZ (hw _ (tk 23 rfl))) (by decide) (backOf (W := 1) (rm5x1 l Z a0 hw hv [] w_1 w_2 w_4 w_5 hS0 h0 n0 O0) hZ (hw _ (tk 23 rfl)) (hw _ (tk 22 rfl)) (by decide) (by decide)) (g := (mkF m 3 (lt14 r0 r1 (0 : Int32) ((4 : Int32) - (1 : Int32)) w_1) [(.ref w_1), (.ref r0)])) rfl (by rw [hml]; rfl) (argsL := [(.ref w_1)]) (rest := [(.ref r0)]) (lenOf pd_2 rfl) rfl (by show 2 * 0 + _ ≤ _; exact Nat.le_of_eq rfl) (hb hby d4_3) (fun _ _ => ⟨rfl, e0, (by decide : 0 + 0 ≤ _), (by decide : 0 + 0 ≤ _)⟩)
  dsimp only [Pt.U, Pt.locs, Pt.cells, Pt.slots] at X376 l376 y376 z376 st376 hQ376
  subst l376 y376 z376
  obtain ⟨rv376, N376q, e376⟩ := hQ376
  subst rv376
  have N376 := Fr.app N0 N376q
  obtain ⟨T377, X377, e377, st377⟩ := castY X376 hx hZ hown (hw _ (tk 24 rfl)) e376 (Ins.of_exa (E_1.ext O0.2) (hw _ (tk 25 rfl))) (g := (mkF m 6 (lt14 r0 r1 (0 : Int32) ((4 : Int32) - (1 : Int32)) w_1) [(.ref w_1), (.ref r0)])) rfl rfl (hb hby d4_6)
  obtain ⟨cl378, Ar378, qa378, Sa378, Ma378, Ha378, Ga378⟩ := id V_r1
  obtain ⟨_, _, ⟨T381, L381, k381, n381⟩, -, X381, ⟨Lc381, hQ381, l381, y381, z381⟩, st381⟩ := Jvm.LawKit.callS X377 hx (y := Y19) hown (mvT hZ (hw _ (tk 26 rfl))) (mvT hZ (hw _ (tk 27 rfl))) (mvT hZ (hw _ (tk 14 rfl))) (mvT hZ (hw _ (tk 28 rfl))) (by decide) (backOf (W := 3) (rm6x7 l Z a0 hw hv [] w_1 w_2 w_4 w_5 hS0 h0 n0 O0) hZ (hw _ (tk 28 rfl)) (hw _ (tk 14 rfl)) (by decide) (by decide)) (g := (mkF m 14 (lt14 r0 r1 (0 : Int32) ((4 : Int32) - (1 : Int32)) w_1) [(.int (4 : Int32)), (.int ((4 : Int32) - (1 : Int32))), (.int (0 : Int32)), (.ref r1), (.ref w_1), (.ref r0)])) rfl (by rw [hml]; rfl) (argsL := [(.int (0 : Int32)), (.int ((4 : Int32) - (1 : Int32))), (.int (4 : Int32))]) (rest := [(.ref r1), (.ref w_1), (.ref r0)]) (lenOf pd_4 rfl) rfl (by show 2 * 0 + _ ≤ _; exact Nat.le_of_eq rfl) (hb hby d4_14) (fun _ _ => ⟨rfl, e377, (by decide : 0 + 0 ≤ _), (by decide : 0 + 0 ≤ _)⟩)
  dsimp only [Pt.U, Pt.locs, Pt.cells, Pt.slots] at X381 l381 y381 z381 st381 hQ381
  subst l381 y381 z381
  obtain ⟨rv381, N381q, e381⟩ := hQ381
  subst rv381
  have N381 := Fr.app N376 N381q
  obtain ⟨_, _, ⟨T407, L407, k407, n407⟩, -, X407, ⟨Lc407, hQ407, l407, y407, z407⟩, st407⟩ := X381.specialBackH hx (y := Y21) rfl hown (mvT hZ (hw _ (tk 34 rfl))) (mvT hZ (hw _ (tk 35 rfl))) (mvT hZ (hw _ (tk 37 rfl))) (by decide) (backOfWith (W := 0) (rm8x7 l Z a0 hw hv [] w_1 w_2 w_4 w_5 hS0 r0 r1 k_r1 x_r1_0 x_r1_1 x_r1_2 x_r1_3 h0 n0 O0 g_r0 g_r1 E_r0 F_coder_r0 F_value_r0 V_r1 ne_r0_r1) hZ (hw _ (tk 37 rfl)) (hw _ (tk 14 rfl)) (by decide) (by decide)) (g := (mkF m 18 (lt14 r0 r1 (0 : Int32) ((4 : Int32) - (1 : Int32)) w_1) [(.int ((4 : Int32) - (1 : Int32))), (.int (0 : Int32)), (.ref r1), (.ref w_1), (.ref r0)])) rfl (by rw [hml]; rfl) (Steps.refl _) (a := r0) (argsL := [(.ref w_1), (.ref r1), (.int (0 : Int32)), (.int ((4 : Int32) - (1 : Int32)))]) (rest := []) (lenOf pd_5 rfl) rfl (by show 2 * 0 + _ ≤ _; exact Nat.le_of_eq rfl) (hb hby d4_18) (fun _ _ => ⟨rfl, e381, (by decide : 0 + 1 ≤ _), (by decide : 0 + 3 ≤ _)⟩)
  dsimp only [Pt.U, Pt.locs, Pt.cells, Pt.slots] at X407 l407 y407 z407 st407 hQ407
  subst l407 y407 z407
  obtain ⟨b408, k409, rv407, N407q, O407, K407c, Fe407_0, Fe407_1, Fx407_0, Fx407_1, Fx407_2⟩ := hQ407
  subst rv407
  have N407 := Fr.app N381 N407q
  have K407 : Keep h0 T407.heap [r0] := (Keep.refl h0 [r0]).trans K407c (allS (Or.inl (List.mem_of_getElem? (i := 0) rfl)) all0)
  have g_b408 := Fx407_0
  have sz_b408 : h0.size ≤ b408 := Nat.le_trans (Keep.refl h0 [r0]).1 Fx407_1
  have ne_r0_b408 : r0 ≠ b408 := Nat.ne_of_lt (Nat.lt_of_lt_of_le E_r0.lt Fx407_1)
  have ne_r1_b408 : r1 ≠ b408 := Nat.ne_of_lt (Nat.lt_of_lt_of_le V_r1.lt Fx407_1)
  obtain ⟨fs, hr, hrun, hended, hW, hsame⟩ := X407.leave (v := none) (fun _ => rfl)
  refine ⟨_, _, pre0 _ ?_, hrun, hended, _, _, rfl, ?_, ⟨_, rfl⟩, hW, hsame.mono (by decide) (by decide)⟩
  · show Sp p e below s₁ (mkF m 0 (lt14 r0 r1 (0 : Int32) ((4 : Int32) - (1 : Int32)) w_1) []) _
    refine XS.aloadN X0.here hx rfl (hb hby d4_0) rfl rfl ?_
    refine XS.aload X0.here hx rfl (hb hby d4_1) rfl rfl ?_
    show Sp p e below s₁ (mkF m 3 (lt14 r0 r1 (0 : Int32) ((4 : Int32) - (1 : Int32)) w_1) [(.ref w_1), (.ref r0)]) _
    refine st376 _ ?_
    show Sp p e below T376 (mkF m 6 (lt14 r0 r1 (0 : Int32) ((4 : Int32) - (1 : Int32)) w_1) [(.ref w_1), (.ref r0)]) _
    refine st377 _ ?_
    show Sp p e below T377 (mkF m 9 (lt14 r0 r1 (0 : Int32) ((4 : Int32) - (1 : Int32)) w_1) [(.ref w_1), (.ref r0)]) _
    refine XS.aloadN X377.here hx rfl (hb hby d4_9) rfl rfl ?_
    refine XS.iloadN X377.here hx rfl (hb hby d4_10) rfl ?_
    show Sp p e below T377 (mkF m 11 (lt14 r0 r1 (0 : Int32) ((4 : Int32) - (1 : Int32)) w_1) [(.int (0 : Int32)), (.ref r1), (.ref w_1), (.ref r0)]) _
    refine XS.iloadN X377.here hx rfl (hb hby d4_11) rfl ?_
    refine XS.aloadN X377.here hx rfl (hb hby d4_12) rfl rfl ?_
    show Sp p e below T377 (mkF m 13 (lt14 r0 r1 (0 : Int32) ((4 : Int32) - (1 : Int32)) w_1) [(.ref r1), (.int ((4 : Int32) - (1 : Int32))), (.int (0 : Int32)), (.ref r1), (.ref w_1), (.ref r0)]) _
    refine X377.arraylength hx (by rw [e377]; exact Ar378.1) (State.isArrayOf_alike hZ.alike Ar378.2.1) (g := (mkF m 13 (lt14 r0 r1 (0 : Int32) ((4 : Int32) - (1 : Int32)) w_1) [(.ref r1), (.int ((4 : Int32) - (1 : Int32))), (.int (0 : Int32)), (.ref r1), (.ref w_1), (.ref r0)])) rfl rfl (hb hby d4_13) _ ?_
    rw [len_of Sa378 Ma378]
    show Sp p e below T377 (mkF m 14 (lt14 r0 r1 (0 : Int32) ((4 : Int32) - (1 : Int32)) w_1) [(.int (4 : Int32)), (.int ((4 : Int32) - (1 : Int32))), (.int (0 : Int32)), (.ref r1), (.ref w_1), (.ref r0)]) _
    refine st381 _ ?_
    show Sp p e below T381 (mkF m 17 (lt14 r0 r1 (0 : Int32) ((4 : Int32) - (1 : Int32)) w_1) [(.int (0 : Int32)), (.ref r1), (.ref w_1), (.ref r0)]) _
    refine XS.iloadN X381.here hx rfl (hb hby d4_17) rfl ?_
    show Sp p e below T381 (mkF m 18 (lt14 r0 r1 (0 : Int32) ((4 : Int32) - (1 : Int32)) w_1) [(.int ((4 : Int32) - (1 : Int32))), (.int (0 : Int32)), (.ref r1), (.ref w_1), (.ref r0)]) _
    refine st407.trans ?_
    show Sp p e below T407 (mkF m 21 (lt14 r0 r1 (0 : Int32) ((4 : Int32) - (1 : Int32)) w_1) []) _
    exact X407.returnOut hx Bd.returns (hb hby d4_21) hr
  · show Q4x7 Z w_1 w_2 w_4 w_5 r0 r1 k_r1 x_r1_0 x_r1_1 x_r1_2 x_r1_3 h0 n0 _ T407.heap _
    exact ⟨b408, k409, rfl, N407, O407, K407, Fe407_0, Fe407_1, g_b408, sz_b408, Fx407_2⟩
theorem pn_3x7 : plainName "com/example/bristlecone/bristlecone/io/HttpLine" = true := by first | (simp [plainName, overriddenIn]; done) | decide +kernel
theorem ef_3x7 (m : MethodId) (r0 : Addr) : entryFrame m #[(.ref r0)] 2 = mkF m 0 #[.val (.ref r0), .unset] [] := by first | (simp [entryFrame, mkF, argsToLocals, Value.category]; done) | rfl
def Q3x7 (Z : State) (w_1 : Addr) (w_2 : Addr) (w_4 : Int32) (w_5 : Value) (r0 : Addr) (k_r0 : ClassId) (x_r0_0 : Int32) (x_r0_1 : Int32) (x_r0_2 : Int32) (x_r0_3 : Int32) (h0 : Heap) (n0 : Nat) (v : Option Value) (h : Heap) (L : List Loc) : Prop := ∃ (b374 : Addr) (b412 : Addr) (k413 : ClassId), v = some (.ref b374) ∧ Fr n0 L ∧ Old Z n0 h ∧ Keep h0 h [] ∧ n0 ≤ b374 ∧ h0.size ≤ b374 ∧ Exa Z h b374 "java/lang/String" ∧ Fld Z h b374 "java/lang/String" "value" "[B" (.ref b412) ∧ Fld Z h b374 "java/lang/String" "coder" "B" (.int (0 : Int32)) ∧ n0 ≤ b412 ∧ h0.size ≤ b412 ∧ Arv Z h b412 k413 .byte (((0 : Int32) + ((4 : Int32) - (1 : Int32))) - (0 : Int32)) [(.int x_r0_0), (.int x_r0_1), (.int x_r0_2)] (.int (0 : Int32)) ∧ b374 ≠ b412
set_option maxRecDepth 65536 in
set_option maxHeartbeats 40000000 in
theorem rm3x7 (l : Launch) (Z : State) (a0 : Array Value) (hw : ∀ d ∈ tables_1, d.before a0 Z = true) (hv : ∀ d ∈ jdkStatics_1, d.before a0 Z = true) (ws : List Jvm.Cond) (w_1 : Addr) (w_2 : Addr) (w_4 : Int32) (w_5 : Value) (hS : StF Z w_1 w_2 w_4 w_5) (r0 : Addr) (k_r0 : ClassId) (x_r0_0 : Int32) (x_r0_1 : Int32) (x_r0_2 : Int32) (x_r0_3 : Int32) (h0 : Heap) (n0 : Nat) (O0 : Old Z n0 h0) (g_r0 : n0 ≤ r0) (V_r0 : Arv Z h0 r0 k_r0 .byte (4 : Int32) [(.int x_r0_0), (.int x_r0_1), (.int x_r0_2), (.int x_r0_3)] (.int (0 : Int32))) (as0 : ¬ (x_r0_2 = (13 : Int32))) :
    MetFree l Y23 (head1 (Jvm.Cond.code Y23 prog_8_method_4_code 2 (some (.object "java/lang/String")) :: ws) ({ frames := 5, cells := 2, slots := 7, locals := 88 } : Room)) (fun a U => a = #[(.ref r0)] ∧ Z.Warmed39 U.vm ∧ U.heap = h0) (fun _ _ _ _ _ => True) (fun _ U o U' => ∃ v L, o = .returned v ∧ Q3x7 Z w_1 w_2 w_4 w_5 r0 k_r0 x_r0_0 x_r0_1 x_r0_2 x_r0_3 h0 n0 v U'.heap L ∧ FrameEnd U o U' L ({ frames := 5, cells := 2, slots := 7, locals := 88 } : Room).cells ({ frames := 5, cells := 2, slots := 7, locals := 88 } : Room).slots) := by
  refine MetFree.of_bodySF (plainFor_of_name pn_3x7) hisR ?_
  intro p e s m args below meth c s₁ Bd hml0 hP hK
  obtain ⟨rfl, hZ, hh⟩ := hP
  have hx := Bd.exec
  have hby := Bd.bytes
  have hml : c.maxLocals = 2 := hml0
  have hown : s.vm.findClass "com/example/bristlecone/bristlecone/io/HttpLine" = some m.cls := findClass_of_methodNamed Bd.named
  have hnm := (name_of_methodNamed Bd.named Bd.method).1
  have X0 : Stand p l e ({ frames := 5, cells := 2, slots := 7, locals := 88 } : Room) s m #[(.ref r0)] below meth c s₁ [] 0 0 := Stand.of_body Bd
  have e0 : s₁.heap = h0 := by rw [← hh, Bd.state]; rfl
  have N0 := Fr.nil n0
  have hS0 := hS
  obtain ⟨S_1, E_1, S_2, E_2, S_3, E_3, S_4, NE_4, S_5, IR_5⟩ := hS
  have pre0 : ∀ t, Steps p.tables e below (s₁.setTop (mkF m 0 #[.val (.ref r0), .unset] [])) t → Steps p.tables e below (s₁.setTop (entryFrame m #[(.ref r0)] 2)) t := fun t k => castTop (ef_3x7 m r0) k
  generalize hE0 : s₁.setTop (entryFrame m #[(.ref r0)] 2) = E0 at pre0 ⊢
  obtain ⟨cl372, Ar372, qa372, Sa372, Ma372, Ha372, Ga372⟩ := id V_r0
  obtain ⟨cl373, Ar373, qa373, Sa373, Ma373, Ha373, Ga373⟩ := id V_r0
  have hin373 : ¬ ((((4 : Int32) - (1 : Int32)) - (1 : Int32)) < 0 ∨ cl373.slots.size ≤ ((((4 : Int32) - (1 : Int32)) - (1 : Int32))).toNatClampNeg) := by  exact inb_of Sa373 ⟨by decide, by decide⟩
  have hat373 : cl373.slots[((((4 : Int32) - (1 : Int32)) - (1 : Int32))).toNatClampNeg]? = some (.int x_r0_2) := Has.at Ha373 hin373 (by rfl)
  obtain ⟨T374, h374, X374, e374, E374, A374, D374, -, st374⟩ := newO X0 hx hZ hown (hw _ (tk 12 rfl)) (hw _ (tk 13 rfl)) (hw _ (tk 14 rfl)) e0 (g := (mkF m 22 (lt13 r0 ((4 : Int32) - (1 : Int32))) [])) rfl (hb hby d3_22) (by decide) (by decide)
  obtain ⟨b374, g374⟩ : ∃ z, z = h0.size := ⟨_, rfl⟩
  rw [← g374] at A374 D374 st374
  have g_b374 : n0 ≤ b374 := Nat.le_trans (own_old O0) (Nat.le_of_eq g374.symm)
  have sz_b374 : h0.size ≤ b374 := Nat.le_trans (Keep.refl h0 []).1 (Nat.le_of_eq g374.symm)
  have ne_r0_b374 : r0 ≠ b374 := Nat.ne_of_lt (Nat.lt_of_lt_of_le V_r0.lt (Nat.le_of_eq g374.symm))
  have O374 : Old Z n0 h374 := O0.ext E374
  have K374 : Keep h0 h374 [] := (Keep.refl h0 []).ext E374
  have F_value_b374 : Fld Z h374 b374 "java/lang/String" "value" "[B" .null := D374 (Or.inr (hw _ (tk 42 rfl))) (ty := (.array .byte)) (by decide)
  have F_coder_b374 : Fld Z h374 b374 "java/lang/String" "coder" "B" (.int (0 : Int32)) := D374 (Or.inr (hw _ (tk 43 rfl))) (ty := .byte) (by decide)
  obtain ⟨T375, X375, e375, st375⟩ := getS2 X374 hx hZ hown (host := "") (Or.inl (hw _ (tk 15 rfl))) Via.refl e374 (S_1.ext O374.2) (g := (mkF m 29 (lt13 r0 ((4 : Int32) - (1 : Int32))) [(.int ((4 : Int32) - (1 : Int32))), (.int (0 : Int32)), (.ref r0), (.ref b374), (.ref b374)])) rfl (hb hby d3_29)
  have c410 := (V_r0.ext E374)
  obtain ⟨_, _, ⟨T411, L411, k411, n411⟩, -, X411, ⟨Lc411, hQ411, l411, y411, z411⟩, st411⟩ := X375.specialBack hx (y := Y22) rfl hown (mvT hZ (hw _ (tk 17 rfl))) (mvT hZ (hw _ (tk 18 rfl))) (mvT hZ (hw _ (tk 19 rfl))) (by decide) (backOf (W := 1) (rm4x7 l Z a0 hw hv [] w_1 w_2 w_4 w_5 hS0 b374 r0 k_r0 x_r0_0 x_r0_1 x_r0_2 x_r0_3 h374 n0 O374 g_b374 g_r0 A374 F_coder_b374 F_value_b374 c410 (Ne.symm ne_r0_b374)) hZ (hw _ (tk 19 rfl)) (hw _ (tk 14 rfl)) (by decide) (by decide)) (g := (mkF m 32 (lt13 r0 ((4 : Int32) - (1 : Int32))) [(.ref w_1), (.int ((4 : Int32) - (1 : Int32))), (.int (0 : Int32)), (.ref r0), (.ref b374), (.ref b374)])) rfl (by rw [hml]; rfl) (Steps.refl _) (a := b374) (argsL := [(.ref r0), (.int (0 : Int32)), (.int ((4 : Int32) - (1 : Int32))), (.ref w_1)]) (rest := [(.ref b374)]) (lenOf pd_6 rfl) rfl (by show 2 * 0 + _ ≤ _; exact Nat.le_of_eq rfl) (hb hby d3_32) (fun _ _ => ⟨rfl, e375, (by decide : 1 + 1 ≤ _), (by decide : 4 + 3 ≤ _)⟩)
  dsimp only [Pt.U, Pt.locs, Pt.cells, Pt.slots] at X411 l411 y411 z411 st411 hQ411
  subst l411 y411 z411
  obtain ⟨b412, k413, rv411, N411q, O411, K411c, Fe411_0, Fe411_1, Fx411_0, Fx411_1, Fx411_2⟩ := hQ411
  subst rv411
  have N411 := Fr.app N0 N411q
  have K411 : Keep h0 T411.heap [] := K374.trans K411c (allS (Or.inr sz_b374) all0)
  have g_b412 := Fx411_0
  have sz_b412 : h0.size ≤ b412 := Nat.le_trans K374.1 Fx411_1
  have ne_r0_b412 : r0 ≠ b412 := Nat.ne_of_lt (Nat.lt_of_lt_of_le c410.lt Fx411_1)
  have ne_b374_b412 : b374 ≠ b412 := Nat.ne_of_lt (Nat.lt_of_lt_of_le A374.lt Fx411_1)
  obtain ⟨fs, hr, hrun, hended, hW, hsame⟩ := X411.leave (v := some (.ref b374)) (fun h => by rw [Bd.returns] at h; cases h)
  have c414 := (A374.keep K411c)
  refine ⟨_, _, pre0 _ ?_, hrun, hended, _, _, rfl, ?_, ⟨_, rfl⟩, hW, hsame.mono (by decide) (by decide)⟩
  · show Sp p e below s₁ (mkF m 0 (lt12 r0) []) _
    refine XS.aloadN X0.here hx rfl (hb hby d3_0) rfl rfl ?_
    show Sp p e below s₁ (mkF m 1 (lt12 r0) [(.ref r0)]) _
    refine X0.arraylength hx (by rw [e0]; exact Ar372.1) (State.isArrayOf_alike hZ.alike Ar372.2.1) (g := (mkF m 1 (lt12 r0) [(.ref r0)])) rfl rfl (hb hby d3_1) _ ?_
    rw [len_of Sa372 Ma372]
    show Sp p e below s₁ (mkF m 2 (lt12 r0) [(.int (4 : Int32))]) _
    refine XS.iconst X0.here hx rfl (hb hby d3_2) ?_
    refine XS.isub X0.here hx rfl (hb hby d3_3) rfl ?_
    show Sp p e below s₁ (mkF m 4 (lt12 r0) [(.int ((4 : Int32) - (1 : Int32)))]) _
    refine XS.istoreN X0.here hx rfl (hb hby d3_4) rfl (l' := (lt13 r0 ((4 : Int32) - (1 : Int32)))) rfl ?_
    refine XS.iloadN X0.here hx rfl (hb hby d3_5) rfl ?_
    show Sp p e below s₁ (mkF m 6 (lt13 r0 ((4 : Int32) - (1 : Int32))) [(.int ((4 : Int32) - (1 : Int32)))]) _
    refine XS.ifNo X0.here hx rfl (hb hby d3_6) rfl ((if0 _ _).trans (tlt (by decide : ((0 : Int32) < ((4 : Int32) - (1 : Int32))))).2.2.2) ?_
    show Sp p e below s₁ (mkF m 9 (lt13 r0 ((4 : Int32) - (1 : Int32))) []) _
    refine XS.aloadN X0.here hx rfl (hb hby d3_9) rfl rfl ?_
    refine XS.iloadN X0.here hx rfl (hb hby d3_10) rfl ?_
    show Sp p e below s₁ (mkF m 11 (lt13 r0 ((4 : Int32) - (1 : Int32))) [(.int ((4 : Int32) - (1 : Int32))), (.ref r0)]) _
    refine XS.iconst X0.here hx rfl (hb hby d3_11) ?_
    refine XS.isub X0.here hx rfl (hb hby d3_12) rfl ?_
    show Sp p e below s₁ (mkF m 13 (lt13 r0 ((4 : Int32) - (1 : Int32))) [(.int (((4 : Int32) - (1 : Int32)) - (1 : Int32))), (.ref r0)]) _
    refine X0.baloadBytes hx (j := (((4 : Int32) - (1 : Int32)) - (1 : Int32))) (v := (.int x_r0_2)) (by rw [e0]; exact Ar373.1) (State.isArrayOf_alike hZ.alike Ar373.2.1) Ar373.2.2 hin373 hat373 (g := (mkF m 13 (lt13 r0 ((4 : Int32) - (1 : Int32))) [(.int (((4 : Int32) - (1 : Int32)) - (1 : Int32))), (.ref r0)])) rfl rfl (hb hby d3_13) _ ?_
    show Sp p e below s₁ (mkF m 14 (lt13 r0 ((4 : Int32) - (1 : Int32))) [(.int x_r0_2)]) _
    refine XS.bipush X0.here hx rfl (hb hby d3_14) ?_
    show Sp p e below s₁ (mkF m 16 (lt13 r0 ((4 : Int32) - (1 : Int32))) [(.int (13 : Int32)), (.int x_r0_2)]) _
    refine XS.icmpYes X0.here hx rfl (pc0 := 16) (pc' := 22) rfl (hb hby d3_16) rfl (feq as0).2 (by decide) (by decide) ?_
    show Sp p e below s₁ (mkF m 22 (lt13 r0 ((4 : Int32) - (1 : Int32))) []) _
    refine st374 _ ?_
    show Sp p e below T374 (mkF m 25 (lt13 r0 ((4 : Int32) - (1 : Int32))) [(.ref b374)]) _
    refine XS.dup X374.here hx rfl (hb hby d3_25) rfl rfl ?_
    refine XS.aloadN X374.here hx rfl (hb hby d3_26) rfl rfl ?_
    show Sp p e below T374 (mkF m 27 (lt13 r0 ((4 : Int32) - (1 : Int32))) [(.ref r0), (.ref b374), (.ref b374)]) _
    refine XS.iconst X374.here hx rfl (hb hby d3_27) ?_
    refine XS.iloadN X374.here hx rfl (hb hby d3_28) rfl ?_
    show Sp p e below T374 (mkF m 29 (lt13 r0 ((4 : Int32) - (1 : Int32))) [(.int ((4 : Int32) - (1 : Int32))), (.int (0 : Int32)), (.ref r0), (.ref b374), (.ref b374)]) _
    refine st375 _ ?_
    show Sp p e below T375 (mkF m 32 (lt13 r0 ((4 : Int32) - (1 : Int32))) [(.ref w_1), (.int ((4 : Int32) - (1 : Int32))), (.int (0 : Int32)), (.ref r0), (.ref b374), (.ref b374)]) _
    refine st411.trans ?_
    show Sp p e below T411 (mkF m 35 (lt13 r0 ((4 : Int32) - (1 : Int32))) [(.ref b374)]) _
    jvm_step X411.here [X411.here.top, hx, (hb hby d3_35), X411.method', Bd.returns, Value.isRef, FieldType.isReference]
    first | (intro acts; rw [hr _ acts rfl rfl rfl]) | rw [hr _ _ rfl rfl rfl]
    exact Steps.refl _
  · show Q3x7 Z w_1 w_2 w_4 w_5 r0 k_r0 x_r0_0 x_r0_1 x_r0_2 x_r0_3 h0 n0 _ T411.heap _
    exact ⟨b374, b412, k413, rfl, N411, O411, K411, g_b374, sz_b374, c414, Fe411_1, Fe411_0, g_b412, sz_b412, Fx411_2, ne_b374_b412⟩
theorem pn_10x6 : plainName "java/lang/String" = true := by first | (simp [plainName, overriddenIn]; done) | decide +kernel
theorem ef_10x6 (m : MethodId) (r0 : Addr) : entryFrame m #[(.ref r0)] 1 = mkF m 0 #[.val (.ref r0)] [] := by first | (simp [entryFrame, mkF, argsToLocals, Value.category]; done) | rfl
def sp10x6  : Int32 := (0 : Int32)
def Q10x6 (Z : State) (w_1 : Addr) (w_2 : Addr) (w_4 : Int32) (w_5 : Value) (r0 : Addr) (r0_f1 : Addr) (k_r0_f1 : ClassId) (x_r0_f1_0 : Int32) (x_r0_f1_1 : Int32) (x_r0_f1_2 : Int32) (h0 : Heap) (n0 : Nat) (v : Option Value) (h : Heap) (L : List Loc) : Prop := v = some (.int (sp10x6)) ∧ Fr n0 L ∧ h = h0
set_option maxRecDepth 65536 in
set_option maxHeartbeats 40000000 in
theorem rm10x6 (l : Launch) (Z : State) (a0 : Array Value) (hw : ∀ d ∈ tables_1, d.before a0 Z = true) (hv : ∀ d ∈ jdkStatics_1, d.before a0 Z = true) (ws : List Jvm.Cond) (w_1 : Addr) (w_2 : Addr) (w_4 : Int32) (w_5 : Value) (hS : StF Z w_1 w_2 w_4 w_5) (r0 : Addr) (r0_f1 : Addr) (k_r0_f1 : ClassId) (x_r0_f1_0 : Int32) (x_r0_f1_1 : Int32) (x_r0_f1_2 : Int32) (h0 : Heap) (n0 : Nat) (O0 : Old Z n0 h0) (g_r0 : n0 ≤ r0) (g_r0_f1 : n0 ≤ r0_f1) (E_r0 : Exa Z h0 r0 "java/lang/String") (F_value_r0 : Fld Z h0 r0 "java/lang/String" "value" "[B" (.ref r0_f1)) (V_r0_f1 : Arv Z h0 r0_f1 k_r0_f1 .byte (((0 : Int32) + ((4 : Int32) - (1 : Int32))) - (0 : Int32)) [(.int x_r0_f1_0), (.int x_r0_f1_1), (.int x_r0_f1_2)] (.int (0 : Int32))) (ne_r0_r0_f1 : r0 ≠ r0_f1) :
    MetFree l Y24 (head1 (Jvm.Cond.code Y24 jdk_42_method_55_code 1 (some .boolean) :: ws) ({ frames := 0, cells := 0, slots := 0, locals := 0 } : Room)) (fun a U => a = #[(.ref r0)] ∧ Z.Warmed39 U.vm ∧ U.heap = h0) (fun _ _ _ _ _ => True) (fun _ U o U' => ∃ v L, o = .returned v ∧ Q10x6 Z w_1 w_2 w_4 w_5 r0 r0_f1 k_r0_f1 x_r0_f1_0 x_r0_f1_1 x_r0_f1_2 h0 n0 v U'.heap L ∧ FrameEnd U o U' L ({ frames := 0, cells := 0, slots := 0, locals := 0 } : Room).cells ({ frames := 0, cells := 0, slots := 0, locals := 0 } : Room).slots) := by
  refine MetFree.of_bodySF (plainFor_of_name pn_10x6) hisR ?_
  intro p e s m args below meth c s₁ Bd hml0 hP hK
  obtain ⟨rfl, hZ, hh⟩ := hP
  have hx := Bd.exec
  have hby := Bd.bytes
  have hml : c.maxLocals = 1 := hml0
  have hown : s.vm.findClass "java/lang/String" = some m.cls := findClass_of_methodNamed Bd.named
  have hnm := (name_of_methodNamed Bd.named Bd.method).1
  have X0 : Stand p l e ({ frames := 0, cells := 0, slots := 0, locals := 0 } : Room) s m #[(.ref r0)] below meth c s₁ [] 0 0 := Stand.of_body Bd
  have e0 : s₁.heap = h0 := by rw [← hh, Bd.state]; rfl
  have N0 := Fr.nil n0
  have hS0 := hS
  obtain ⟨S_1, E_1, S_2, E_2, S_3, E_3, S_4, NE_4, S_5, IR_5⟩ := hS
  have pre0 : ∀ t, Steps p.tables e below (s₁.setTop (mkF m 0 #[.val (.ref r0)] [])) t → Steps p.tables e below (s₁.setTop (entryFrame m #[(.ref r0)] 1)) t := fun t k => castTop (ef_10x6 m r0) k
  generalize hE0 : s₁.setTop (entryFrame m #[(.ref r0)] 1) = E0 at pre0 ⊢
  obtain ⟨T419, X419, e419, st419⟩ := getF X0 hx hZ hown (host := "") (Or.inl (hw _ (tk 46 rfl))) Via.refl e0 F_value_r0 (g := (mkF m 1 (lt10 r0) [(.ref r0)])) rfl rfl (hb hby d10_1)
  obtain ⟨cl420, Ar420, qa420, Sa420, Ma420, Ha420, Ga420⟩ := id V_r0_f1
  obtain ⟨fs, hr, hrun, hended, hW, hsame⟩ := X419.leave (v := some (.int (0 : Int32))) (fun h => by rw [Bd.returns] at h; cases h)
  refine ⟨_, _, pre0 _ ?_, hrun, hended, _, _, rfl, ?_, ⟨_, rfl⟩, hW, hsame.mono (by decide) (by decide)⟩
  · show Sp p e below s₁ (mkF m 0 (lt10 r0) []) _
    refine XS.aloadN X0.here hx rfl (hb hby d10_0) rfl rfl ?_
    show Sp p e below s₁ (mkF m 1 (lt10 r0) [(.ref r0)]) _
    refine st419 _ ?_
    show Sp p e below T419 (mkF m 4 (lt10 r0) [(.ref r0_f1)]) _
    refine X419.arraylength hx (by rw [e419]; exact Ar420.1) (State.isArrayOf_alike hZ.alike Ar420.2.1) (g := (mkF m 4 (lt10 r0) [(.ref r0_f1)])) rfl rfl (hb hby d10_4) _ ?_
    rw [len_of Sa420 Ma420]
    show Sp p e below T419 (mkF m 5 (lt10 r0) [(.int (((0 : Int32) + ((4 : Int32) - (1 : Int32))) - (0 : Int32)))]) _
    refine XS.ifYes X419.here hx rfl (pc0 := 5) (pc' := 12) rfl (hb hby d10_5) rfl ((if0 _ _).trans (feq (by decide : ¬ ((((0 : Int32) + ((4 : Int32) - (1 : Int32))) - (0 : Int32)) = (0 : Int32)))).2) (by decide) (by decide) ?_
    show Sp p e below T419 (mkF m 12 (lt10 r0) []) _
    refine XS.iconst X419.here hx rfl (hb hby d10_12) ?_
    show Sp p e below T419 (mkF m 13 (lt10 r0) [(.int (0 : Int32))]) _
    exact retN X419 hx (t := .boolean) Bd.returns (by simp) (hb hby d10_13) hr
  · show Q10x6 Z w_1 w_2 w_4 w_5 r0 r0_f1 k_r0_f1 x_r0_f1_0 x_r0_f1_1 x_r0_f1_2 h0 n0 _ T419.heap _
    rw [e419]
    exact ⟨by unfold sp10x6; rfl, N0, rfl⟩
theorem pn_0 : plainName "com/example/bristlecone/bristlecone/io/HttpLineIsEmptyPinLaw" = true := by first | (simp [plainName, overriddenIn]; done) | decide +kernel
theorem ef_0 (m : MethodId) (p0 : Int32) (p1 : Int32) (p2 : Int32) (p3 : Int32) (p4 : Int32) : entryFrame m #[(.int p0), (.int p1), (.int p2), (.int p3), (.int p4)] maxLocals = mkF m 0 #[.val (.int p0), .val (.int p1), .val (.int p2), .val (.int p3), .val (.int p4), .unset, .unset, .unset, .unset, .unset, .unset, .unset, .unset, .unset] [] := by first | (simp [entryFrame, mkF, argsToLocals, Value.category, maxLocals]; done) | rfl
def sp0 (p0 : Int32) (p1 : Int32) (p2 : Int32) (p3 : Int32) (p4 : Int32) : Int32 := (if (p0 &&& (3 : Int32)) = (0 : Int32) then (1 : Int32) else (if (p0 &&& (3 : Int32)) = (1 : Int32) then (if (nar .byte (sp1 p4 (0 : Int32) p1)) = (13 : Int32) then (1 : Int32) else (1 : Int32)) else (if (p0 &&& (3 : Int32)) = (2 : Int32) then (if (nar .byte (sp1 p4 (1 : Int32) p2)) = (13 : Int32) then (1 : Int32) else (1 : Int32)) else (if (nar .byte (sp1 p4 (2 : Int32) p3)) = (13 : Int32) then (1 : Int32) else (1 : Int32)))))
def Q0 (Z : State) (w_1 : Addr) (w_2 : Addr) (w_4 : Int32) (w_5 : Value) (p0 : Int32) (p1 : Int32) (p2 : Int32) (p3 : Int32) (p4 : Int32) (h0 : Heap) (n0 : Nat) (v : Option Value) (h : Heap) (L : List Loc) : Prop := v = some (.int (sp0 p0 p1 p2 p3 p4)) ∧ Fr n0 L ∧ True
set_option maxRecDepth 65536 in
set_option maxHeartbeats 40000000 in
theorem rm0_1 (l : Launch) (Z : State) (a0 : Array Value) (hw : ∀ d ∈ tables_1, d.before a0 Z = true) (hv : ∀ d ∈ jdkStatics_1, d.before a0 Z = true) (wS : ∀ d ∈ Bundle.stringAtoms, d.before a0 Z = true) (hEL : EW Z a0 EL1) (ws : List Jvm.Cond) (w_1 : Addr) (w_2 : Addr) (w_4 : Int32) (w_5 : Value) (hS : StF Z w_1 w_2 w_4 w_5) (p0 : Int32) (p1 : Int32) (p2 : Int32) (p3 : Int32) (p4 : Int32) (h0 : Heap) (n0 : Nat) (O0 : Old Z n0 h0) (hc1 : ((p0 &&& (3 : Int32)) = (0 : Int32))) :
    MetFree l x (head1 (Jvm.Cond.code x code maxLocals ret :: ws) room_1) (fun a U => a = #[(.int p0), (.int p1), (.int p2), (.int p3), (.int p4)] ∧ Z.Warmed39 U.vm ∧ U.heap = h0 ∧ CHv Z EL1 U.vm Z.heap) (fun _ _ _ _ _ => True) (fun _ U o U' => ∃ v L, o = .returned v ∧ Q0 Z w_1 w_2 w_4 w_5 p0 p1 p2 p3 p4 h0 n0 v U'.heap L ∧ ReturnedEndW U o U' L room_1.cells room_1.slots) := by
  refine MetFree.of_bodySF (plainFor_of_name pn_0) hisR ?_
  intro p e s m args below meth c s₁ Bd hml0 hP hK
  obtain ⟨rfl, hZ, hh, hC⟩ := hP
  have hx := Bd.exec
  have hby := Bd.bytes
  have hml : c.maxLocals = 14 := hml0
  have hown : s.vm.findClass "com/example/bristlecone/bristlecone/io/HttpLineIsEmptyPinLaw" = some m.cls := findClass_of_methodNamed Bd.named
  have hnm := (name_of_methodNamed Bd.named Bd.method).1
  have X0 : Stand p l e room_1 s m #[(.int p0), (.int p1), (.int p2), (.int p3), (.int p4)] below meth c s₁ [] 0 0 := Stand.of_body Bd
  have e0 : s₁.heap = h0 := by rw [← hh, Bd.state]; rfl
  have N0 := Fr.nil n0
  have hS0 := hS
  obtain ⟨S_1, E_1, S_2, E_2, S_3, E_3, S_4, NE_4, S_5, IR_5⟩ := hS
  have pre0 : ∀ t, Steps p.tables e below (s₁.setTop (mkF m 0 #[.val (.int p0), .val (.int p1), .val (.int p2), .val (.int p3), .val (.int p4), .unset, .unset, .unset, .unset, .unset, .unset, .unset, .unset, .unset] [])) t → Steps p.tables e below (s₁.setTop (entryFrame m #[(.int p0), (.int p1), (.int p2), (.int p3), (.int p4)] maxLocals)) t := fun t k => castTop (ef_0 m p0 p1 p2 p3 p4) k
  generalize hE0 : s₁.setTop (entryFrame m #[(.int p0), (.int p1), (.int p2), (.int p3), (.int p4)] maxLocals) = E0 at pre0 ⊢
  have pre2 : Cm p e below E0 (s₁.setTop (mkF m 5 (lt1 p0 p1 p2 p3 p4) [(.int ((p0 &&& (3 : Int32)) + (1 : Int32)))])) := fun t kt => by
    refine pre0 t ?_
    show Sp p e below s₁ (mkF m 0 (lt1 p0 p1 p2 p3 p4) []) _
    refine XS.iloadN X0.here hx rfl (hb hby at_0) rfl ?_
    refine XS.iconst X0.here hx rfl (hb hby at_1) ?_
    show Sp p e below s₁ (mkF m 2 (lt1 p0 p1 p2 p3 p4) [(.int (3 : Int32)), (.int p0)]) _
    refine XS.iand X0.here hx rfl (hb hby at_2) rfl ?_
    refine XS.iconst X0.here hx rfl (hb hby at_3) ?_
    show Sp p e below s₁ (mkF m 4 (lt1 p0 p1 p2 p3 p4) [(.int (1 : Int32)), (.int (p0 &&& (3 : Int32)))]) _
    refine XS.iadd X0.here hx rfl (hb hby at_4) rfl ?_
    show Sp p e below s₁ (mkF m 5 (lt1 p0 p1 p2 p3 p4) [(.int ((p0 &&& (3 : Int32)) + (1 : Int32)))]) _
    exact kt
  have pre3 : Cm p e below E0 (s₁.setTop (mkF m 5 (lt1 p0 p1 p2 p3 p4) [(.int (1 : Int32))])) := fun t kt => pre2 t (by rw [(by rw [hc1] <;> decide : ((p0 &&& (3 : Int32)) + (1 : Int32)) = (1 : Int32))]; exact kt)
  obtain ⟨T4, h4, k4, X4, e4, E4, A4, st4⟩ := newP X0 hx hZ (hw _ (tk 0 rfl)) e0 (g := (mkF m 9 (lt2 p0 p1 p2 p3 p4 (1 : Int32)) [(.int (1 : Int32))])) rfl (hb hby at_9) rfl (by decide) (cap := 1) (by decide) (by decide) (by decide) (by decide)
  obtain ⟨b4, g4⟩ : ∃ z, z = h0.size := ⟨_, rfl⟩
  rw [← g4] at A4 st4
  have g_b4 : n0 ≤ b4 := Nat.le_trans (own_old O0) (Nat.le_of_eq g4.symm)
  have O4 : Old Z n0 h4 := O0.ext E4
  have V_b4 : Arv Z h4 b4 k4 .byte (1 : Int32) [(.int (0 : Int32))] (.int (0 : Int32)) := (Arv.new A4 (by decide)).pad (pad_rep [] (.int (0 : Int32)) 1)
  obtain ⟨_, _, ⟨T7, L7, k7, n7⟩, -, X7, ⟨Lc7, hQ7, l7, y7, z7⟩, st7⟩ := Jvm.LawKit.callS X4 hx (y := Y4) hown (mvT hZ (hw _ (tk 1 rfl))) (mvT hZ (hw _ (tk 2 rfl))) (mvT hZ (hw _ (tk 3 rfl))) (mvT hZ (hw _ (tk 4 rfl))) (by decide) (backOf (W := 0) (rm1 l Z a0 hw hv [] w_1 w_2 w_4 w_5 hS0 p4 (0 : Int32) p1 h4 n0 O4) hZ (hw _ (tk 4 rfl)) (hw _ (tk 3 rfl)) (by decide) (by decide)) (g := (mkF m 17 (lt3 p0 p1 p2 p3 p4 (1 : Int32) b4) [(.int p1), (.int (0 : Int32)), (.int p4)])) rfl (by rw [hml]; rfl) (argsL := [(.int p4), (.int (0 : Int32)), (.int p1)]) (rest := []) (lenOf pd_0 rfl) rfl (by show 2 * 0 + _ ≤ _; exact Nat.le_of_eq rfl) (hb hby at_17) (fun _ _ => ⟨rfl, e4, (by decide : 1 + 0 ≤ _), (by decide : 1 + 0 ≤ _)⟩)
  dsimp only [Pt.U, Pt.locs, Pt.cells, Pt.slots] at X7 l7 y7 z7 st7 hQ7
  subst l7 y7 z7
  obtain ⟨rv7, N7q, e7⟩ := hQ7
  subst rv7
  have N7 := Fr.app N0 N7q
  obtain ⟨_, _, ⟨T8, L8, k8, n8⟩, -, X8, ⟨Lc8, hQ8, l8, y8, z8⟩, st8⟩ := Jvm.LawKit.callS X7 hx (y := Y4) hown (mvT hZ (hw _ (tk 1 rfl))) (mvT hZ (hw _ (tk 2 rfl))) (mvT hZ (hw _ (tk 3 rfl))) (mvT hZ (hw _ (tk 4 rfl))) (by decide) (backOf (W := 0) (rm1 l Z a0 hw hv [] w_1 w_2 w_4 w_5 hS0 p4 (1 : Int32) p2 h4 n0 O4) hZ (hw _ (tk 4 rfl)) (hw _ (tk 3 rfl)) (by decide) (by decide)) (g := (mkF m 26 (lt5 p0 p1 p2 p3 p4 (1 : Int32) b4 (sp1 p4 (0 : Int32) p1)) [(.int p2), (.int (1 : Int32)), (.int p4)])) rfl (by rw [hml]; rfl) (argsL := [(.int p4), (.int (1 : Int32)), (.int p2)]) (rest := []) (lenOf pd_0 rfl) rfl (by show 2 * 0 + _ ≤ _; exact Nat.le_of_eq rfl) (hb hby at_26) (fun _ _ => ⟨rfl, e7, (by decide : 1 + 0 ≤ _), (by decide : 1 + 0 ≤ _)⟩)
  dsimp only [Pt.U, Pt.locs, Pt.cells, Pt.slots] at X8 l8 y8 z8 st8 hQ8
  subst l8 y8 z8
  obtain ⟨rv8, N8q, e8⟩ := hQ8
  subst rv8
  have N8 := Fr.app N7 N8q
  obtain ⟨_, _, ⟨T9, L9, k9, n9⟩, -, X9, ⟨Lc9, hQ9, l9, y9, z9⟩, st9⟩ := Jvm.LawKit.callS X8 hx (y := Y4) hown (mvT hZ (hw _ (tk 1 rfl))) (mvT hZ (hw _ (tk 2 rfl))) (mvT hZ (hw _ (tk 3 rfl))) (mvT hZ (hw _ (tk 4 rfl))) (by decide) (backOf (W := 0) (rm1 l Z a0 hw hv [] w_1 w_2 w_4 w_5 hS0 p4 (2 : Int32) p3 h4 n0 O4) hZ (hw _ (tk 4 rfl)) (hw _ (tk 3 rfl)) (by decide) (by decide)) (g := (mkF m 35 (lt6 p0 p1 p2 p3 p4 (1 : Int32) b4 (sp1 p4 (0 : Int32) p1) (sp1 p4 (1 : Int32) p2)) [(.int p3), (.int (2 : Int32)), (.int p4)])) rfl (by rw [hml]; rfl) (argsL := [(.int p4), (.int (2 : Int32)), (.int p3)]) (rest := []) (lenOf pd_0 rfl) rfl (by show 2 * 0 + _ ≤ _; exact Nat.le_of_eq rfl) (hb hby at_35) (fun _ _ => ⟨rfl, e8, (by decide : 1 + 0 ≤ _), (by decide : 1 + 0 ≤ _)⟩)
  dsimp only [Pt.U, Pt.locs, Pt.cells, Pt.slots] at X9 l9 y9 z9 st9 hQ9
  subst l9 y9 z9
  obtain ⟨rv9, N9q, e9⟩ := hQ9
  subst rv9
  have N9 := Fr.app N8 N9q
  obtain ⟨cl10, Ar10, qa10, Sa10, Ma10, Ha10, Ga10⟩ := id V_b4
  have hin10 : ¬ (((1 : Int32) - (1 : Int32)) < 0 ∨ cl10.slots.size ≤ (((1 : Int32) - (1 : Int32))).toNatClampNeg) := by exact inb_of Sa10 ⟨by decide, by decide⟩
  obtain ⟨T11, h11, X11, e11, W11, st11⟩ := stB X9 hx hZ e9 Ar10 (j := ((1 : Int32) - (1 : Int32))) hin10 (g := (mkF m 84 (lt7 p0 p1 p2 p3 p4 (1 : Int32) b4 (sp1 p4 (0 : Int32) p1) (sp1 p4 (1 : Int32) p2) (sp1 p4 (2 : Int32) p3)) [(.int (10 : Int32)), (.int ((1 : Int32) - (1 : Int32))), (.ref b4)])) rfl rfl (hb hby at_84)
  have V_b4_11 : Arv Z h11 b4 k4 .byte (1 : Int32) [(.int (nar .byte (10 : Int32)))] (.int (0 : Int32)) := Arv.set Ar10 qa10 Sa10 Ma10 Ha10 Ga10 (fits_nar_byte _) W11 0 rfl (Nat.le_of_ble_eq_true rfl)
  have O11 : Old Z n0 h11 := O4.wr W11 g_b4
  have N11 := Fr.snoc X11 N9 g_b4
  obtain ⟨_, _, ⟨T13, L13, k13, n13⟩, -, X13, ⟨Lc13, hQ13, l13, y13, z13⟩, st13⟩ := Jvm.LawKit.callS X11 hx (y := Y11) hown (mvT hZ (hw _ (tk 5 rfl))) (mvT hZ (hw _ (tk 6 rfl))) (mvT hZ (hw _ (tk 7 rfl))) (mvT hZ (hw _ (tk 8 rfl))) (by decide) (backOf (W := 0) (rm2x1 l Z a0 hw hv [] w_1 w_2 w_4 w_5 hS0 b4 k4 (nar .byte (10 : Int32)) h11 n0 O11 g_b4 V_b4_11) hZ (hw _ (tk 8 rfl)) (hw _ (tk 7 rfl)) (by decide) (by decide)) (g := (mkF m 128 (lt9 p0 p1 p2 p3 p4 (1 : Int32) b4 (sp1 p4 (0 : Int32) p1) (sp1 p4 (1 : Int32) p2) (sp1 p4 (2 : Int32) p3) ((1 : Int32) - (1 : Int32)) (1 : Int32)) [(.ref b4)])) rfl (by rw [hml]; rfl) (argsL := [(.ref b4)]) (rest := []) (lenOf pd_1 rfl) rfl (by show 2 * 0 + _ ≤ _; exact Nat.le_of_eq rfl) (hb hby at_128) (fun _ _ => ⟨rfl, e11, (by decide : 1 + 0 ≤ _), (by decide : 1 + 0 ≤ _)⟩)
  dsimp only [Pt.U, Pt.locs, Pt.cells, Pt.slots] at X13 l13 y13 z13 st13 hQ13
  subst l13 y13 z13
  obtain ⟨rv13, N13q, e13⟩ := hQ13
  rw [show sp2x1 = (1 : Int32) from by unfold sp2x1; rfl] at rv13
  subst rv13
  have N13 := Fr.app N11 N13q
  have pre48 : Cm p e below E0 (T13.setTop (mkF m 135 (lt11 p0 p1 p2 p3 p4 (1 : Int32) b4 (sp1 p4 (0 : Int32) p1) (sp1 p4 (1 : Int32) p2) (sp1 p4 (2 : Int32) p3) ((1 : Int32) - (1 : Int32)) (1 : Int32) (1 : Int32)) [(.ref b4)])) := fun t kt => by
    refine pre3 t ?_
    show Sp p e below s₁ (mkF m 5 (lt1 p0 p1 p2 p3 p4) [(.int (1 : Int32))]) _
    refine XS.istore X0.here hx rfl (hb hby at_5) rfl (l' := (lt2 p0 p1 p2 p3 p4 (1 : Int32))) rfl ?_
    refine XS.iload X0.here hx rfl (hb hby at_7) rfl ?_
    show Sp p e below s₁ (mkF m 9 (lt2 p0 p1 p2 p3 p4 (1 : Int32)) [(.int (1 : Int32))]) _
    refine st4 _ ?_
    show Sp p e below T4 (mkF m 11 (lt2 p0 p1 p2 p3 p4 (1 : Int32)) [(.ref b4)]) _
    refine XS.astore X4.here hx rfl (hb hby at_11) rfl rfl (l' := (lt3 p0 p1 p2 p3 p4 (1 : Int32) b4)) rfl ?_
    refine XS.iload X4.here hx rfl (hb hby at_13) rfl ?_
    show Sp p e below T4 (mkF m 15 (lt3 p0 p1 p2 p3 p4 (1 : Int32) b4) [(.int p4)]) _
    refine XS.iconst X4.here hx rfl (hb hby at_15) ?_
    refine XS.iloadN X4.here hx rfl (hb hby at_16) rfl ?_
    show Sp p e below T4 (mkF m 17 (lt3 p0 p1 p2 p3 p4 (1 : Int32) b4) [(.int p1), (.int (0 : Int32)), (.int p4)]) _
    refine st7 _ ?_
    show Sp p e below T7 (mkF m 20 (lt3 p0 p1 p2 p3 p4 (1 : Int32) b4) [(.int (sp1 p4 (0 : Int32) p1))]) _
    refine XS.istore X7.here hx rfl (hb hby at_20) rfl (l' := (lt5 p0 p1 p2 p3 p4 (1 : Int32) b4 (sp1 p4 (0 : Int32) p1))) rfl ?_
    refine XS.iload X7.here hx rfl (hb hby at_22) rfl ?_
    show Sp p e below T7 (mkF m 24 (lt5 p0 p1 p2 p3 p4 (1 : Int32) b4 (sp1 p4 (0 : Int32) p1)) [(.int p4)]) _
    refine XS.iconst X7.here hx rfl (hb hby at_24) ?_
    refine XS.iloadN X7.here hx rfl (hb hby at_25) rfl ?_
    show Sp p e below T7 (mkF m 26 (lt5 p0 p1 p2 p3 p4 (1 : Int32) b4 (sp1 p4 (0 : Int32) p1)) [(.int p2), (.int (1 : Int32)), (.int p4)]) _
    refine st8 _ ?_
    show Sp p e below T8 (mkF m 29 (lt5 p0 p1 p2 p3 p4 (1 : Int32) b4 (sp1 p4 (0 : Int32) p1)) [(.int (sp1 p4 (1 : Int32) p2))]) _
    refine XS.istore X8.here hx rfl (hb hby at_29) rfl (l' := (lt6 p0 p1 p2 p3 p4 (1 : Int32) b4 (sp1 p4 (0 : Int32) p1) (sp1 p4 (1 : Int32) p2))) rfl ?_
    refine XS.iload X8.here hx rfl (hb hby at_31) rfl ?_
    show Sp p e below T8 (mkF m 33 (lt6 p0 p1 p2 p3 p4 (1 : Int32) b4 (sp1 p4 (0 : Int32) p1) (sp1 p4 (1 : Int32) p2)) [(.int p4)]) _
    refine XS.iconst X8.here hx rfl (hb hby at_33) ?_
    refine XS.iloadN X8.here hx rfl (hb hby at_34) rfl ?_
    show Sp p e below T8 (mkF m 35 (lt6 p0 p1 p2 p3 p4 (1 : Int32) b4 (sp1 p4 (0 : Int32) p1) (sp1 p4 (1 : Int32) p2)) [(.int p3), (.int (2 : Int32)), (.int p4)]) _
    refine st9 _ ?_
    show Sp p e below T9 (mkF m 38 (lt6 p0 p1 p2 p3 p4 (1 : Int32) b4 (sp1 p4 (0 : Int32) p1) (sp1 p4 (1 : Int32) p2)) [(.int (sp1 p4 (2 : Int32) p3))]) _
    refine XS.istore X9.here hx rfl (hb hby at_38) rfl (l' := (lt7 p0 p1 p2 p3 p4 (1 : Int32) b4 (sp1 p4 (0 : Int32) p1) (sp1 p4 (1 : Int32) p2) (sp1 p4 (2 : Int32) p3))) rfl ?_
    refine XS.iload X9.here hx rfl (hb hby at_40) rfl ?_
    show Sp p e below T9 (mkF m 42 (lt7 p0 p1 p2 p3 p4 (1 : Int32) b4 (sp1 p4 (0 : Int32) p1) (sp1 p4 (1 : Int32) p2) (sp1 p4 (2 : Int32) p3)) [(.int (1 : Int32))]) _
    refine XS.iconst X9.here hx rfl (hb hby at_42) ?_
    show Sp p e below T9 (mkF m 43 (lt7 p0 p1 p2 p3 p4 (1 : Int32) b4 (sp1 p4 (0 : Int32) p1) (sp1 p4 (1 : Int32) p2) (sp1 p4 (2 : Int32) p3)) [(.int (2 : Int32)), (.int (1 : Int32))]) _
    refine XS.icmpYes X9.here hx rfl (pc0 := 43) (pc' := 52) rfl (hb hby at_43) rfl (tlt (by decide : ((1 : Int32) < (2 : Int32)))).1 (by decide) (by decide) ?_
    show Sp p e below T9 (mkF m 52 (lt7 p0 p1 p2 p3 p4 (1 : Int32) b4 (sp1 p4 (0 : Int32) p1) (sp1 p4 (1 : Int32) p2) (sp1 p4 (2 : Int32) p3)) []) _
    refine XS.iload X9.here hx rfl (hb hby at_52) rfl ?_
    refine XS.iconst X9.here hx rfl (hb hby at_54) ?_
    show Sp p e below T9 (mkF m 55 (lt7 p0 p1 p2 p3 p4 (1 : Int32) b4 (sp1 p4 (0 : Int32) p1) (sp1 p4 (1 : Int32) p2) (sp1 p4 (2 : Int32) p3)) [(.int (3 : Int32)), (.int (1 : Int32))]) _
    refine XS.icmpYes X9.here hx rfl (pc0 := 55) (pc' := 64) rfl (hb hby at_55) rfl (tlt (by decide : ((1 : Int32) < (3 : Int32)))).1 (by decide) (by decide) ?_
    show Sp p e below T9 (mkF m 64 (lt7 p0 p1 p2 p3 p4 (1 : Int32) b4 (sp1 p4 (0 : Int32) p1) (sp1 p4 (1 : Int32) p2) (sp1 p4 (2 : Int32) p3)) []) _
    refine XS.iload X9.here hx rfl (hb hby at_64) rfl ?_
    refine XS.iconst X9.here hx rfl (hb hby at_66) ?_
    show Sp p e below T9 (mkF m 67 (lt7 p0 p1 p2 p3 p4 (1 : Int32) b4 (sp1 p4 (0 : Int32) p1) (sp1 p4 (1 : Int32) p2) (sp1 p4 (2 : Int32) p3)) [(.int (4 : Int32)), (.int (1 : Int32))]) _
    refine XS.icmpYes X9.here hx rfl (pc0 := 67) (pc' := 76) rfl (hb hby at_67) rfl (tlt (by decide : ((1 : Int32) < (4 : Int32)))).1 (by decide) (by decide) ?_
    show Sp p e below T9 (mkF m 76 (lt7 p0 p1 p2 p3 p4 (1 : Int32) b4 (sp1 p4 (0 : Int32) p1) (sp1 p4 (1 : Int32) p2) (sp1 p4 (2 : Int32) p3)) []) _
    refine XS.aload X9.here hx rfl (hb hby at_76) rfl rfl ?_
    refine XS.iload X9.here hx rfl (hb hby at_78) rfl ?_
    show Sp p e below T9 (mkF m 80 (lt7 p0 p1 p2 p3 p4 (1 : Int32) b4 (sp1 p4 (0 : Int32) p1) (sp1 p4 (1 : Int32) p2) (sp1 p4 (2 : Int32) p3)) [(.int (1 : Int32)), (.ref b4)]) _
    refine XS.iconst X9.here hx rfl (hb hby at_80) ?_
    refine XS.isub X9.here hx rfl (hb hby at_81) rfl ?_
    show Sp p e below T9 (mkF m 82 (lt7 p0 p1 p2 p3 p4 (1 : Int32) b4 (sp1 p4 (0 : Int32) p1) (sp1 p4 (1 : Int32) p2) (sp1 p4 (2 : Int32) p3)) [(.int ((1 : Int32) - (1 : Int32))), (.ref b4)]) _
    refine XS.bipush X9.here hx rfl (hb hby at_82) ?_
    show Sp p e below T9 (mkF m 84 (lt7 p0 p1 p2 p3 p4 (1 : Int32) b4 (sp1 p4 (0 : Int32) p1) (sp1 p4 (1 : Int32) p2) (sp1 p4 (2 : Int32) p3)) [(.int (10 : Int32)), (.int ((1 : Int32) - (1 : Int32))), (.ref b4)]) _
    refine st11 _ ?_
    show Sp p e below T11 (mkF m 85 (lt7 p0 p1 p2 p3 p4 (1 : Int32) b4 (sp1 p4 (0 : Int32) p1) (sp1 p4 (1 : Int32) p2) (sp1 p4 (2 : Int32) p3)) []) _
    refine XS.iload X11.here hx rfl (hb hby at_85) rfl ?_
    refine XS.iconst X11.here hx rfl (hb hby at_87) ?_
    show Sp p e below T11 (mkF m 88 (lt7 p0 p1 p2 p3 p4 (1 : Int32) b4 (sp1 p4 (0 : Int32) p1) (sp1 p4 (1 : Int32) p2) (sp1 p4 (2 : Int32) p3)) [(.int (1 : Int32)), (.int (1 : Int32))]) _
    refine XS.isub X11.here hx rfl (hb hby at_88) rfl ?_
    refine XS.istore X11.here hx rfl (hb hby at_89) rfl (l' := (lt8 p0 p1 p2 p3 p4 (1 : Int32) b4 (sp1 p4 (0 : Int32) p1) (sp1 p4 (1 : Int32) p2) (sp1 p4 (2 : Int32) p3) ((1 : Int32) - (1 : Int32)))) rfl ?_
    show Sp p e below T11 (mkF m 91 (lt8 p0 p1 p2 p3 p4 (1 : Int32) b4 (sp1 p4 (0 : Int32) p1) (sp1 p4 (1 : Int32) p2) (sp1 p4 (2 : Int32) p3) ((1 : Int32) - (1 : Int32))) []) _
    refine XS.iload X11.here hx rfl (hb hby at_91) rfl ?_
    show Sp p e below T11 (mkF m 93 (lt8 p0 p1 p2 p3 p4 (1 : Int32) b4 (sp1 p4 (0 : Int32) p1) (sp1 p4 (1 : Int32) p2) (sp1 p4 (2 : Int32) p3) ((1 : Int32) - (1 : Int32))) [(.int ((1 : Int32) - (1 : Int32)))]) _
    refine XS.ifYes X11.here hx rfl (pc0 := 93) (pc' := 114) rfl (hb hby at_93) rfl ((if0 _ _).trans (flt (by decide : ¬ ((0 : Int32) < ((1 : Int32) - (1 : Int32))))).2.2.2) (by decide) (by decide) ?_
    show Sp p e below T11 (mkF m 114 (lt8 p0 p1 p2 p3 p4 (1 : Int32) b4 (sp1 p4 (0 : Int32) p1) (sp1 p4 (1 : Int32) p2) (sp1 p4 (2 : Int32) p3) ((1 : Int32) - (1 : Int32))) []) _
    refine XS.iload X11.here hx rfl (hb hby at_114) rfl ?_
    show Sp p e below T11 (mkF m 116 (lt8 p0 p1 p2 p3 p4 (1 : Int32) b4 (sp1 p4 (0 : Int32) p1) (sp1 p4 (1 : Int32) p2) (sp1 p4 (2 : Int32) p3) ((1 : Int32) - (1 : Int32))) [(.int ((1 : Int32) - (1 : Int32)))]) _
    refine XS.ifNo X11.here hx rfl (hb hby at_116) rfl ((if0 _ _).trans (teq (by decide : (((1 : Int32) - (1 : Int32)) = (0 : Int32)))).2) ?_
    show Sp p e below T11 (mkF m 119 (lt8 p0 p1 p2 p3 p4 (1 : Int32) b4 (sp1 p4 (0 : Int32) p1) (sp1 p4 (1 : Int32) p2) (sp1 p4 (2 : Int32) p3) ((1 : Int32) - (1 : Int32))) []) _
    refine XS.iconst X11.here hx rfl (hb hby at_119) ?_
    show Sp p e below T11 (mkF m 120 (lt8 p0 p1 p2 p3 p4 (1 : Int32) b4 (sp1 p4 (0 : Int32) p1) (sp1 p4 (1 : Int32) p2) (sp1 p4 (2 : Int32) p3) ((1 : Int32) - (1 : Int32))) [(.int (1 : Int32))]) _
    refine XS.goto X11.here hx rfl (pc0 := 120) (pc' := 124) rfl (hb hby at_120) (by decide) (by decide) ?_
    show Sp p e below T11 (mkF m 124 (lt8 p0 p1 p2 p3 p4 (1 : Int32) b4 (sp1 p4 (0 : Int32) p1) (sp1 p4 (1 : Int32) p2) (sp1 p4 (2 : Int32) p3) ((1 : Int32) - (1 : Int32))) [(.int (1 : Int32))]) _
    refine XS.istore X11.here hx rfl (hb hby at_124) rfl (l' := (lt9 p0 p1 p2 p3 p4 (1 : Int32) b4 (sp1 p4 (0 : Int32) p1) (sp1 p4 (1 : Int32) p2) (sp1 p4 (2 : Int32) p3) ((1 : Int32) - (1 : Int32)) (1 : Int32))) rfl ?_
    refine XS.aload X11.here hx rfl (hb hby at_126) rfl rfl ?_
    show Sp p e below T11 (mkF m 128 (lt9 p0 p1 p2 p3 p4 (1 : Int32) b4 (sp1 p4 (0 : Int32) p1) (sp1 p4 (1 : Int32) p2) (sp1 p4 (2 : Int32) p3) ((1 : Int32) - (1 : Int32)) (1 : Int32)) [(.ref b4)]) _
    refine st13 _ ?_
    show Sp p e below T13 (mkF m 131 (lt9 p0 p1 p2 p3 p4 (1 : Int32) b4 (sp1 p4 (0 : Int32) p1) (sp1 p4 (1 : Int32) p2) (sp1 p4 (2 : Int32) p3) ((1 : Int32) - (1 : Int32)) (1 : Int32)) [(.int (1 : Int32))]) _
    refine XS.istore X13.here hx rfl (hb hby at_131) rfl (l' := (lt11 p0 p1 p2 p3 p4 (1 : Int32) b4 (sp1 p4 (0 : Int32) p1) (sp1 p4 (1 : Int32) p2) (sp1 p4 (2 : Int32) p3) ((1 : Int32) - (1 : Int32)) (1 : Int32) (1 : Int32))) rfl ?_
    refine XS.aload X13.here hx rfl (hb hby at_133) rfl rfl ?_
    show Sp p e below T13 (mkF m 135 (lt11 p0 p1 p2 p3 p4 (1 : Int32) b4 (sp1 p4 (0 : Int32) p1) (sp1 p4 (1 : Int32) p2) (sp1 p4 (2 : Int32) p3) ((1 : Int32) - (1 : Int32)) (1 : Int32) (1 : Int32)) [(.ref b4)]) _
    exact kt
  obtain ⟨_, _, ⟨T47, L47, k47, n47⟩, -, X47, hSi, -, ⟨Lc47, hQ47, l47, y47, z47⟩, st47⟩ := callSS X13 hx (y := Y23) hown (mvT hZ (hw _ (tk 9 rfl))) (mvT hZ (hw _ (tk 10 rfl))) (mvT hZ (hw _ (tk 7 rfl))) (mvT hZ (hw _ (tk 11 rfl))) (by decide) (own_backSZ (W := 0) (rm3x1 l Z a0 hw hv wS hEL [] w_1 w_2 w_4 w_5 hS0 b4 k4 (nar .byte (10 : Int32)) h11 n0 O11 g_b4 V_b4_11) hZ (hw _ (tk 11 rfl)) (hw _ (tk 7 rfl)) (by decide) (by decide) hEL hC) (g := (mkF m 135 (lt11 p0 p1 p2 p3 p4 (1 : Int32) b4 (sp1 p4 (0 : Int32) p1) (sp1 p4 (1 : Int32) p2) (sp1 p4 (2 : Int32) p3) ((1 : Int32) - (1 : Int32)) (1 : Int32) (1 : Int32)) [(.ref b4)])) rfl (by rw [hml]; rfl) (argsL := [(.ref b4)]) (rest := []) (lenOf pd_7 rfl) rfl (by show 2 * 0 + _ ≤ _; exact Nat.le_of_eq rfl) (hb hby at_135) (fun _ _ => ⟨rfl, e13, (by decide : 1 + 3 ≤ _), (by decide : 1 + 8 ≤ _)⟩)
  dsimp only [Pt.U, Pt.locs, Pt.cells, Pt.slots] at X47 l47 y47 z47 st47 hQ47
  subst l47 y47 z47
  have hki := Nat.le_refl T47.heap.size
  have hZ : Z.Warmed39 (s.setVm T47.vm).vm := State.Warmed39.trans hZ hSi.1
  have hown : (s.setVm T47.vm).vm.findClass "com/example/bristlecone/bristlecone/io/HttpLineIsEmptyPinLaw" = some m.cls := by rw [show (s.setVm T47.vm).vm = T47.vm from rfl, hSi.1.alike.findClass]; exact hown
  obtain ⟨b49, b50, k51, rv47, N47q, O47, K47c, Fx47_0, Fx47_1, Fx47_2, Fx47_3, Fx47_4, Fx47_5, Fx47_6, Fx47_7⟩ := hQ47
  subst rv47
  have N47 := Fr.app N13 N47q
  have g_b49 := Fx47_0
  have ne_b4_b49 : b4 ≠ b49 := Nat.ne_of_lt (Nat.lt_of_lt_of_le V_b4_11.lt Fx47_1)
  obtain ⟨cq54, kq54, q54a, q54b, q54c⟩ := isOf hZ rfl Fx47_2
  obtain ⟨_, _, ⟨T54, L54, k54, n54⟩, -, X54, ⟨Lc54, hQ54, l54, y54, z54⟩, st54⟩ := X47.virtualBack hx (y := Y24) (z := Y24) hown (mvT hZ (hw _ (tk 48 rfl))) (mvT hZ (hw _ (tk 49 rfl))) (notFace_of_selects (args := #[]) (mvT hZ (hw _ (tk 51 rfl)))) (mvT hZ (hw _ (tk 51 rfl))) (mvT hZ (hw _ (tk 50 rfl))) (by decide) (backOf (W := 0) (rm10x1 l Z a0 hw hv [] w_1 w_2 w_4 w_5 hS0 b49 b50 k51 T47.heap n0 O47 g_b49 Fx47_2 Fx47_3 Fx47_6 Fx47_7) hZ (hw _ (tk 52 rfl)) (hw _ (tk 14 rfl)) (by decide) (by decide)) q54a q54c (g := (mkF m 138 (lt11 p0 p1 p2 p3 p4 (1 : Int32) b4 (sp1 p4 (0 : Int32) p1) (sp1 p4 (1 : Int32) p2) (sp1 p4 (2 : Int32) p3) ((1 : Int32) - (1 : Int32)) (1 : Int32) (1 : Int32)) [(.ref b49)])) rfl (by rw [hml]; rfl) (Steps.refl _) (argsL := []) (rest := []) (lenOf pd_8 rfl) rfl (by show 2 * 0 + _ ≤ _; exact Nat.le_of_eq rfl) (hb hby at_138) (fun _ _ => ⟨rfl, rfl, (by decide : 4 + 0 ≤ _), (by decide : 9 + 0 ≤ _)⟩)
  dsimp only [Pt.U, Pt.locs, Pt.cells, Pt.slots] at X54 l54 y54 z54 st54 hQ54
  subst l54 y54 z54
  obtain ⟨rv54, N54q, e54⟩ := hQ54
  rw [show sp10x1 = (1 : Int32) from by unfold sp10x1; rfl] at rv54
  subst rv54
  have N54 := Fr.app N47 N54q
  obtain ⟨fs, hr, hrun, hended, hRW⟩ := leaveW (s := s) (vm₁ := T47.vm) X54 hSi (n := _) (by rw [e54]; exact hki) (v := some (.int (1 : Int32))) (fun h => by rw [Bd.returns] at h; cases h)
  refine ⟨_, _, pre48 _ ?_, hrun, hended, _, _, rfl, ?_, hRW.1, hRW.2.1, hRW.2.2.1, hRW.2.2.2.mono (by decide) (by decide)⟩
  · refine st47.trans ?_
    show Sp p e below T47 (mkF m 138 (lt11 p0 p1 p2 p3 p4 (1 : Int32) b4 (sp1 p4 (0 : Int32) p1) (sp1 p4 (1 : Int32) p2) (sp1 p4 (2 : Int32) p3) ((1 : Int32) - (1 : Int32)) (1 : Int32) (1 : Int32)) [(.ref b49)]) _
    refine st54.trans ?_
    show Sp p e below T54 (mkF m 141 (lt11 p0 p1 p2 p3 p4 (1 : Int32) b4 (sp1 p4 (0 : Int32) p1) (sp1 p4 (1 : Int32) p2) (sp1 p4 (2 : Int32) p3) ((1 : Int32) - (1 : Int32)) (1 : Int32) (1 : Int32)) [(.int (1 : Int32))]) _
    refine XS.istore X54.here hx rfl (hb hby at_141) rfl (l' := (lt17 p0 p1 p2 p3 p4 (1 : Int32) b4 (sp1 p4 (0 : Int32) p1) (sp1 p4 (1 : Int32) p2) (sp1 p4 (2 : Int32) p3) ((1 : Int32) - (1 : Int32)) (1 : Int32) (1 : Int32) (1 : Int32))) rfl ?_
    refine XS.iload X54.here hx rfl (hb hby at_143) rfl ?_
    show Sp p e below T54 (mkF m 145 (lt17 p0 p1 p2 p3 p4 (1 : Int32) b4 (sp1 p4 (0 : Int32) p1) (sp1 p4 (1 : Int32) p2) (sp1 p4 (2 : Int32) p3) ((1 : Int32) - (1 : Int32)) (1 : Int32) (1 : Int32) (1 : Int32)) [(.int (1 : Int32))]) _
    refine XS.iload X54.here hx rfl (hb hby at_145) rfl ?_
    show Sp p e below T54 (mkF m 147 (lt17 p0 p1 p2 p3 p4 (1 : Int32) b4 (sp1 p4 (0 : Int32) p1) (sp1 p4 (1 : Int32) p2) (sp1 p4 (2 : Int32) p3) ((1 : Int32) - (1 : Int32)) (1 : Int32) (1 : Int32) (1 : Int32)) [(.int (1 : Int32)), (.int (1 : Int32))]) _
    refine XS.icmpNo X54.here hx rfl (hb hby at_147) rfl (teq (by decide : ((1 : Int32) = (1 : Int32)))).2 ?_
    show Sp p e below T54 (mkF m 150 (lt17 p0 p1 p2 p3 p4 (1 : Int32) b4 (sp1 p4 (0 : Int32) p1) (sp1 p4 (1 : Int32) p2) (sp1 p4 (2 : Int32) p3) ((1 : Int32) - (1 : Int32)) (1 : Int32) (1 : Int32) (1 : Int32)) []) _
    refine XS.iload X54.here hx rfl (hb hby at_150) rfl ?_
    refine XS.iload X54.here hx rfl (hb hby at_152) rfl ?_
    show Sp p e below T54 (mkF m 154 (lt17 p0 p1 p2 p3 p4 (1 : Int32) b4 (sp1 p4 (0 : Int32) p1) (sp1 p4 (1 : Int32) p2) (sp1 p4 (2 : Int32) p3) ((1 : Int32) - (1 : Int32)) (1 : Int32) (1 : Int32) (1 : Int32)) [(.int (1 : Int32)), (.int (1 : Int32))]) _
    refine XS.icmpNo X54.here hx rfl (hb hby at_154) rfl (teq (by decide : ((1 : Int32) = (1 : Int32)))).2 ?_
    show Sp p e below T54 (mkF m 157 (lt17 p0 p1 p2 p3 p4 (1 : Int32) b4 (sp1 p4 (0 : Int32) p1) (sp1 p4 (1 : Int32) p2) (sp1 p4 (2 : Int32) p3) ((1 : Int32) - (1 : Int32)) (1 : Int32) (1 : Int32) (1 : Int32)) []) _
    refine XS.iconst X54.here hx rfl (hb hby at_157) ?_
    show Sp p e below T54 (mkF m 158 (lt17 p0 p1 p2 p3 p4 (1 : Int32) b4 (sp1 p4 (0 : Int32) p1) (sp1 p4 (1 : Int32) p2) (sp1 p4 (2 : Int32) p3) ((1 : Int32) - (1 : Int32)) (1 : Int32) (1 : Int32) (1 : Int32)) [(.int (1 : Int32))]) _
    refine XS.goto X54.here hx rfl (pc0 := 158) (pc' := 162) rfl (hb hby at_158) (by decide) (by decide) ?_
    show Sp p e below T54 (mkF m 162 (lt17 p0 p1 p2 p3 p4 (1 : Int32) b4 (sp1 p4 (0 : Int32) p1) (sp1 p4 (1 : Int32) p2) (sp1 p4 (2 : Int32) p3) ((1 : Int32) - (1 : Int32)) (1 : Int32) (1 : Int32) (1 : Int32)) [(.int (1 : Int32))]) _
    exact retN X54 hx (t := .boolean) Bd.returns (by simp) (hb hby at_162) hr
  · show Q0 Z w_1 w_2 w_4 w_5 p0 p1 p2 p3 p4 h0 n0 _ T54.heap _
    rw [e54]
    exact ⟨by unfold sp0; rw [if_pos hc1], N54, trivial⟩
set_option maxRecDepth 65536 in
set_option maxHeartbeats 40000000 in
theorem rm0_2 (l : Launch) (Z : State) (a0 : Array Value) (hw : ∀ d ∈ tables_1, d.before a0 Z = true) (hv : ∀ d ∈ jdkStatics_1, d.before a0 Z = true) (wS : ∀ d ∈ Bundle.stringAtoms, d.before a0 Z = true) (hEL : EW Z a0 EL1) (ws : List Jvm.Cond) (w_1 : Addr) (w_2 : Addr) (w_4 : Int32) (w_5 : Value) (hS : StF Z w_1 w_2 w_4 w_5) (p0 : Int32) (p1 : Int32) (p2 : Int32) (p3 : Int32) (p4 : Int32) (h0 : Heap) (n0 : Nat) (O0 : Old Z n0 h0) (hc1 : ¬ ((p0 &&& (3 : Int32)) = (0 : Int32))) (hc55 : ((p0 &&& (3 : Int32)) = (1 : Int32))) :
    MetFree l x (head1 (Jvm.Cond.code x code maxLocals ret :: ws) room_1) (fun a U => a = #[(.int p0), (.int p1), (.int p2), (.int p3), (.int p4)] ∧ Z.Warmed39 U.vm ∧ U.heap = h0 ∧ CHv Z EL1 U.vm Z.heap) (fun _ _ _ _ _ => True) (fun _ U o U' => ∃ v L, o = .returned v ∧ Q0 Z w_1 w_2 w_4 w_5 p0 p1 p2 p3 p4 h0 n0 v U'.heap L ∧ ReturnedEndW U o U' L room_1.cells room_1.slots) := by
  refine MetFree.of_bodySF (plainFor_of_name pn_0) hisR ?_
  intro p e s m args below meth c s₁ Bd hml0 hP hK
  obtain ⟨rfl, hZ, hh, hC⟩ := hP
  have hx := Bd.exec
  have hby := Bd.bytes
  have hml : c.maxLocals = 14 := hml0
  have hown : s.vm.findClass "com/example/bristlecone/bristlecone/io/HttpLineIsEmptyPinLaw" = some m.cls := findClass_of_methodNamed Bd.named
  have hnm := (name_of_methodNamed Bd.named Bd.method).1
  have X0 : Stand p l e room_1 s m #[(.int p0), (.int p1), (.int p2), (.int p3), (.int p4)] below meth c s₁ [] 0 0 := Stand.of_body Bd
  have e0 : s₁.heap = h0 := by rw [← hh, Bd.state]; rfl
  have N0 := Fr.nil n0
  have hS0 := hS
  obtain ⟨S_1, E_1, S_2, E_2, S_3, E_3, S_4, NE_4, S_5, IR_5⟩ := hS
  have pre0 : ∀ t, Steps p.tables e below (s₁.setTop (mkF m 0 #[.val (.int p0), .val (.int p1), .val (.int p2), .val (.int p3), .val (.int p4), .unset, .unset, .unset, .unset, .unset, .unset, .unset, .unset, .unset] [])) t → Steps p.tables e below (s₁.setTop (entryFrame m #[(.int p0), (.int p1), (.int p2), (.int p3), (.int p4)] maxLocals)) t := fun t k => castTop (ef_0 m p0 p1 p2 p3 p4) k
  generalize hE0 : s₁.setTop (entryFrame m #[(.int p0), (.int p1), (.int p2), (.int p3), (.int p4)] maxLocals) = E0 at pre0 ⊢
  have pre56 : Cm p e below E0 (s₁.setTop (mkF m 5 (lt1 p0 p1 p2 p3 p4) [(.int ((p0 &&& (3 : Int32)) + (1 : Int32)))])) := fun t kt => by
    refine pre0 t ?_
    show Sp p e below s₁ (mkF m 0 (lt1 p0 p1 p2 p3 p4) []) _
    refine XS.iloadN X0.here hx rfl (hb hby at_0) rfl ?_
    refine XS.iconst X0.here hx rfl (hb hby at_1) ?_
    show Sp p e below s₁ (mkF m 2 (lt1 p0 p1 p2 p3 p4) [(.int (3 : Int32)), (.int p0)]) _
    refine XS.iand X0.here hx rfl (hb hby at_2) rfl ?_
    refine XS.iconst X0.here hx rfl (hb hby at_3) ?_
    show Sp p e below s₁ (mkF m 4 (lt1 p0 p1 p2 p3 p4) [(.int (1 : Int32)), (.int (p0 &&& (3 : Int32)))]) _
    refine XS.iadd X0.here hx rfl (hb hby at_4) rfl ?_
    show Sp p e below s₁ (mkF m 5 (lt1 p0 p1 p2 p3 p4) [(.int ((p0 &&& (3 : Int32)) + (1 : Int32)))]) _
    exact kt
  have pre57 : Cm p e below E0 (s₁.setTop (mkF m 5 (lt1 p0 p1 p2 p3 p4) [(.int (2 : Int32))])) := fun t kt => pre56 t (by rw [(by rw [hc55] <;> decide : ((p0 &&& (3 : Int32)) + (1 : Int32)) = (2 : Int32))]; exact kt)
  obtain ⟨T58, h58, k58, X58, e58, E58, A58, st58⟩ := newP X0 hx hZ (hw _ (tk 0 rfl)) e0 (g := (mkF m 9 (lt2 p0 p1 p2 p3 p4 (2 : Int32)) [(.int (2 : Int32))])) rfl (hb hby at_9) rfl (by decide) (cap := 2) (by decide) (by decide) (by decide) (by decide)
  obtain ⟨b58, g58⟩ : ∃ z, z = h0.size := ⟨_, rfl⟩
  rw [← g58] at A58 st58
  have g_b58 : n0 ≤ b58 := Nat.le_trans (own_old O0) (Nat.le_of_eq g58.symm)
  have O58 : Old Z n0 h58 := O0.ext E58
  have V_b58 : Arv Z h58 b58 k58 .byte (2 : Int32) [(.int (0 : Int32)), (.int (0 : Int32))] (.int (0 : Int32)) := (Arv.new A58 (by decide)).pad (pad_rep [] (.int (0 : Int32)) 2)
  obtain ⟨_, _, ⟨T59, L59, k59, n59⟩, -, X59, ⟨Lc59, hQ59, l59, y59, z59⟩, st59⟩ := Jvm.LawKit.callS X58 hx (y := Y4) hown (mvT hZ (hw _ (tk 1 rfl))) (mvT hZ (hw _ (tk 2 rfl))) (mvT hZ (hw _ (tk 3 rfl))) (mvT hZ (hw _ (tk 4 rfl))) (by decide) (backOf (W := 0) (rm1 l Z a0 hw hv [] w_1 w_2 w_4 w_5 hS0 p4 (0 : Int32) p1 h58 n0 O58) hZ (hw _ (tk 4 rfl)) (hw _ (tk 3 rfl)) (by decide) (by decide)) (g := (mkF m 17 (lt3 p0 p1 p2 p3 p4 (2 : Int32) b58) [(.int p1), (.int (0 : Int32)), (.int p4)])) rfl (by rw [hml]; rfl) (argsL := [(.int p4), (.int (0 : Int32)), (.int p1)]) (rest := []) (lenOf pd_0 rfl) rfl (by show 2 * 0 + _ ≤ _; exact Nat.le_of_eq rfl) (hb hby at_17) (fun _ _ => ⟨rfl, e58, (by decide : 1 + 0 ≤ _), (by decide : 2 + 0 ≤ _)⟩)
  dsimp only [Pt.U, Pt.locs, Pt.cells, Pt.slots] at X59 l59 y59 z59 st59 hQ59
  subst l59 y59 z59
  obtain ⟨rv59, N59q, e59⟩ := hQ59
  subst rv59
  have N59 := Fr.app N0 N59q
  obtain ⟨_, _, ⟨T60, L60, k60, n60⟩, -, X60, ⟨Lc60, hQ60, l60, y60, z60⟩, st60⟩ := Jvm.LawKit.callS X59 hx (y := Y4) hown (mvT hZ (hw _ (tk 1 rfl))) (mvT hZ (hw _ (tk 2 rfl))) (mvT hZ (hw _ (tk 3 rfl))) (mvT hZ (hw _ (tk 4 rfl))) (by decide) (backOf (W := 0) (rm1 l Z a0 hw hv [] w_1 w_2 w_4 w_5 hS0 p4 (1 : Int32) p2 h58 n0 O58) hZ (hw _ (tk 4 rfl)) (hw _ (tk 3 rfl)) (by decide) (by decide)) (g := (mkF m 26 (lt5 p0 p1 p2 p3 p4 (2 : Int32) b58 (sp1 p4 (0 : Int32) p1)) [(.int p2), (.int (1 : Int32)), (.int p4)])) rfl (by rw [hml]; rfl) (argsL := [(.int p4), (.int (1 : Int32)), (.int p2)]) (rest := []) (lenOf pd_0 rfl) rfl (by show 2 * 0 + _ ≤ _; exact Nat.le_of_eq rfl) (hb hby at_26) (fun _ _ => ⟨rfl, e59, (by decide : 1 + 0 ≤ _), (by decide : 2 + 0 ≤ _)⟩)
  dsimp only [Pt.U, Pt.locs, Pt.cells, Pt.slots] at X60 l60 y60 z60 st60 hQ60
  subst l60 y60 z60
  obtain ⟨rv60, N60q, e60⟩ := hQ60
  subst rv60
  have N60 := Fr.app N59 N60q
  obtain ⟨_, _, ⟨T61, L61, k61, n61⟩, -, X61, ⟨Lc61, hQ61, l61, y61, z61⟩, st61⟩ := Jvm.LawKit.callS X60 hx (y := Y4) hown (mvT hZ (hw _ (tk 1 rfl))) (mvT hZ (hw _ (tk 2 rfl))) (mvT hZ (hw _ (tk 3 rfl))) (mvT hZ (hw _ (tk 4 rfl))) (by decide) (backOf (W := 0) (rm1 l Z a0 hw hv [] w_1 w_2 w_4 w_5 hS0 p4 (2 : Int32) p3 h58 n0 O58) hZ (hw _ (tk 4 rfl)) (hw _ (tk 3 rfl)) (by decide) (by decide)) (g := (mkF m 35 (lt6 p0 p1 p2 p3 p4 (2 : Int32) b58 (sp1 p4 (0 : Int32) p1) (sp1 p4 (1 : Int32) p2)) [(.int p3), (.int (2 : Int32)), (.int p4)])) rfl (by rw [hml]; rfl) (argsL := [(.int p4), (.int (2 : Int32)), (.int p3)]) (rest := []) (lenOf pd_0 rfl) rfl (by show 2 * 0 + _ ≤ _; exact Nat.le_of_eq rfl) (hb hby at_35) (fun _ _ => ⟨rfl, e60, (by decide : 1 + 0 ≤ _), (by decide : 2 + 0 ≤ _)⟩)
  dsimp only [Pt.U, Pt.locs, Pt.cells, Pt.slots] at X61 l61 y61 z61 st61 hQ61
  subst l61 y61 z61
  obtain ⟨rv61, N61q, e61⟩ := hQ61
  subst rv61
  have N61 := Fr.app N60 N61q
  obtain ⟨cl62, Ar62, qa62, Sa62, Ma62, Ha62, Ga62⟩ := id V_b58
  have hin62 : ¬ ((0 : Int32) < 0 ∨ cl62.slots.size ≤ ((0 : Int32)).toNatClampNeg) := by exact inb_of Sa62 ⟨by decide, by decide⟩
  obtain ⟨T63, h63, X63, e63, W63, st63⟩ := stB X61 hx hZ e61 Ar62 (j := (0 : Int32)) hin62 (g := (mkF m 51 (lt7 p0 p1 p2 p3 p4 (2 : Int32) b58 (sp1 p4 (0 : Int32) p1) (sp1 p4 (1 : Int32) p2) (sp1 p4 (2 : Int32) p3)) [(.int (sp1 p4 (0 : Int32) p1)), (.int (0 : Int32)), (.ref b58)])) rfl rfl (hb hby at_51)
  have V_b58_63 : Arv Z h63 b58 k58 .byte (2 : Int32) [(.int (nar .byte (sp1 p4 (0 : Int32) p1))), (.int (0 : Int32))] (.int (0 : Int32)) := Arv.set Ar62 qa62 Sa62 Ma62 Ha62 Ga62 (fits_nar_byte _) W63 0 rfl (Nat.le_of_ble_eq_true rfl)
  have O63 : Old Z n0 h63 := O58.wr W63 g_b58
  have N63 := Fr.snoc X63 N61 g_b58
  obtain ⟨cl64, Ar64, qa64, Sa64, Ma64, Ha64, Ga64⟩ := id V_b58_63
  have hin64 : ¬ (((2 : Int32) - (1 : Int32)) < 0 ∨ cl64.slots.size ≤ (((2 : Int32) - (1 : Int32))).toNatClampNeg) := by exact inb_of Sa64 ⟨by decide, by decide⟩
  obtain ⟨T65, h65, X65, e65, W65, st65⟩ := stB X63 hx hZ e63 Ar64 (j := ((2 : Int32) - (1 : Int32))) hin64 (g := (mkF m 84 (lt7 p0 p1 p2 p3 p4 (2 : Int32) b58 (sp1 p4 (0 : Int32) p1) (sp1 p4 (1 : Int32) p2) (sp1 p4 (2 : Int32) p3)) [(.int (10 : Int32)), (.int ((2 : Int32) - (1 : Int32))), (.ref b58)])) rfl rfl (hb hby at_84)
  have V_b58_65 : Arv Z h65 b58 k58 .byte (2 : Int32) [(.int (nar .byte (sp1 p4 (0 : Int32) p1))), (.int (nar .byte (10 : Int32)))] (.int (0 : Int32)) := Arv.set Ar64 qa64 Sa64 Ma64 Ha64 Ga64 (fits_nar_byte _) W65 1 rfl (Nat.le_of_ble_eq_true rfl)
  have O65 : Old Z n0 h65 := O63.wr W65 g_b58
  have N65 := Fr.snoc X65 N63 g_b58
  obtain ⟨cl66, Ar66, qa66, Sa66, Ma66, Ha66, Ga66⟩ := id V_b58_65
  have hin66 : ¬ (((2 : Int32) - (2 : Int32)) < 0 ∨ cl66.slots.size ≤ (((2 : Int32) - (2 : Int32))).toNatClampNeg) := by  exact inb_of Sa66 ⟨by decide, by decide⟩
  have hat66 : cl66.slots[(((2 : Int32) - (2 : Int32))).toNatClampNeg]? = some (.int (nar .byte (sp1 p4 (0 : Int32) p1))) := Has.at Ha66 hin66 (by rfl)
  have pre67 : Cm p e below E0 (T65.setTop (mkF m 105 (lt8 p0 p1 p2 p3 p4 (2 : Int32) b58 (sp1 p4 (0 : Int32) p1) (sp1 p4 (1 : Int32) p2) (sp1 p4 (2 : Int32) p3) ((2 : Int32) - (1 : Int32))) [(.int (13 : Int32)), (.int (nar .byte (sp1 p4 (0 : Int32) p1)))])) := fun t kt => by
    refine pre57 t ?_
    show Sp p e below s₁ (mkF m 5 (lt1 p0 p1 p2 p3 p4) [(.int (2 : Int32))]) _
    refine XS.istore X0.here hx rfl (hb hby at_5) rfl (l' := (lt2 p0 p1 p2 p3 p4 (2 : Int32))) rfl ?_
    refine XS.iload X0.here hx rfl (hb hby at_7) rfl ?_
    show Sp p e below s₁ (mkF m 9 (lt2 p0 p1 p2 p3 p4 (2 : Int32)) [(.int (2 : Int32))]) _
    refine st58 _ ?_
    show Sp p e below T58 (mkF m 11 (lt2 p0 p1 p2 p3 p4 (2 : Int32)) [(.ref b58)]) _
    refine XS.astore X58.here hx rfl (hb hby at_11) rfl rfl (l' := (lt3 p0 p1 p2 p3 p4 (2 : Int32) b58)) rfl ?_
    refine XS.iload X58.here hx rfl (hb hby at_13) rfl ?_
    show Sp p e below T58 (mkF m 15 (lt3 p0 p1 p2 p3 p4 (2 : Int32) b58) [(.int p4)]) _
    refine XS.iconst X58.here hx rfl (hb hby at_15) ?_
    refine XS.iloadN X58.here hx rfl (hb hby at_16) rfl ?_
    show Sp p e below T58 (mkF m 17 (lt3 p0 p1 p2 p3 p4 (2 : Int32) b58) [(.int p1), (.int (0 : Int32)), (.int p4)]) _
    refine st59 _ ?_
    show Sp p e below T59 (mkF m 20 (lt3 p0 p1 p2 p3 p4 (2 : Int32) b58) [(.int (sp1 p4 (0 : Int32) p1))]) _
    refine XS.istore X59.here hx rfl (hb hby at_20) rfl (l' := (lt5 p0 p1 p2 p3 p4 (2 : Int32) b58 (sp1 p4 (0 : Int32) p1))) rfl ?_
    refine XS.iload X59.here hx rfl (hb hby at_22) rfl ?_
    show Sp p e below T59 (mkF m 24 (lt5 p0 p1 p2 p3 p4 (2 : Int32) b58 (sp1 p4 (0 : Int32) p1)) [(.int p4)]) _
    refine XS.iconst X59.here hx rfl (hb hby at_24) ?_
    refine XS.iloadN X59.here hx rfl (hb hby at_25) rfl ?_
    show Sp p e below T59 (mkF m 26 (lt5 p0 p1 p2 p3 p4 (2 : Int32) b58 (sp1 p4 (0 : Int32) p1)) [(.int p2), (.int (1 : Int32)), (.int p4)]) _
    refine st60 _ ?_
    show Sp p e below T60 (mkF m 29 (lt5 p0 p1 p2 p3 p4 (2 : Int32) b58 (sp1 p4 (0 : Int32) p1)) [(.int (sp1 p4 (1 : Int32) p2))]) _
    refine XS.istore X60.here hx rfl (hb hby at_29) rfl (l' := (lt6 p0 p1 p2 p3 p4 (2 : Int32) b58 (sp1 p4 (0 : Int32) p1) (sp1 p4 (1 : Int32) p2))) rfl ?_
    refine XS.iload X60.here hx rfl (hb hby at_31) rfl ?_
    show Sp p e below T60 (mkF m 33 (lt6 p0 p1 p2 p3 p4 (2 : Int32) b58 (sp1 p4 (0 : Int32) p1) (sp1 p4 (1 : Int32) p2)) [(.int p4)]) _
    refine XS.iconst X60.here hx rfl (hb hby at_33) ?_
    refine XS.iloadN X60.here hx rfl (hb hby at_34) rfl ?_
    show Sp p e below T60 (mkF m 35 (lt6 p0 p1 p2 p3 p4 (2 : Int32) b58 (sp1 p4 (0 : Int32) p1) (sp1 p4 (1 : Int32) p2)) [(.int p3), (.int (2 : Int32)), (.int p4)]) _
    refine st61 _ ?_
    show Sp p e below T61 (mkF m 38 (lt6 p0 p1 p2 p3 p4 (2 : Int32) b58 (sp1 p4 (0 : Int32) p1) (sp1 p4 (1 : Int32) p2)) [(.int (sp1 p4 (2 : Int32) p3))]) _
    refine XS.istore X61.here hx rfl (hb hby at_38) rfl (l' := (lt7 p0 p1 p2 p3 p4 (2 : Int32) b58 (sp1 p4 (0 : Int32) p1) (sp1 p4 (1 : Int32) p2) (sp1 p4 (2 : Int32) p3))) rfl ?_
    refine XS.iload X61.here hx rfl (hb hby at_40) rfl ?_
    show Sp p e below T61 (mkF m 42 (lt7 p0 p1 p2 p3 p4 (2 : Int32) b58 (sp1 p4 (0 : Int32) p1) (sp1 p4 (1 : Int32) p2) (sp1 p4 (2 : Int32) p3)) [(.int (2 : Int32))]) _
    refine XS.iconst X61.here hx rfl (hb hby at_42) ?_
    show Sp p e below T61 (mkF m 43 (lt7 p0 p1 p2 p3 p4 (2 : Int32) b58 (sp1 p4 (0 : Int32) p1) (sp1 p4 (1 : Int32) p2) (sp1 p4 (2 : Int32) p3)) [(.int (2 : Int32)), (.int (2 : Int32))]) _
    refine XS.icmpNo X61.here hx rfl (hb hby at_43) rfl (flt (by decide : ¬ ((2 : Int32) < (2 : Int32)))).1 ?_
    show Sp p e below T61 (mkF m 46 (lt7 p0 p1 p2 p3 p4 (2 : Int32) b58 (sp1 p4 (0 : Int32) p1) (sp1 p4 (1 : Int32) p2) (sp1 p4 (2 : Int32) p3)) []) _
    refine XS.aload X61.here hx rfl (hb hby at_46) rfl rfl ?_
    refine XS.iconst X61.here hx rfl (hb hby at_48) ?_
    show Sp p e below T61 (mkF m 49 (lt7 p0 p1 p2 p3 p4 (2 : Int32) b58 (sp1 p4 (0 : Int32) p1) (sp1 p4 (1 : Int32) p2) (sp1 p4 (2 : Int32) p3)) [(.int (0 : Int32)), (.ref b58)]) _
    refine XS.iload X61.here hx rfl (hb hby at_49) rfl ?_
    show Sp p e below T61 (mkF m 51 (lt7 p0 p1 p2 p3 p4 (2 : Int32) b58 (sp1 p4 (0 : Int32) p1) (sp1 p4 (1 : Int32) p2) (sp1 p4 (2 : Int32) p3)) [(.int (sp1 p4 (0 : Int32) p1)), (.int (0 : Int32)), (.ref b58)]) _
    refine st63 _ ?_
    show Sp p e below T63 (mkF m 52 (lt7 p0 p1 p2 p3 p4 (2 : Int32) b58 (sp1 p4 (0 : Int32) p1) (sp1 p4 (1 : Int32) p2) (sp1 p4 (2 : Int32) p3)) []) _
    refine XS.iload X63.here hx rfl (hb hby at_52) rfl ?_
    refine XS.iconst X63.here hx rfl (hb hby at_54) ?_
    show Sp p e below T63 (mkF m 55 (lt7 p0 p1 p2 p3 p4 (2 : Int32) b58 (sp1 p4 (0 : Int32) p1) (sp1 p4 (1 : Int32) p2) (sp1 p4 (2 : Int32) p3)) [(.int (3 : Int32)), (.int (2 : Int32))]) _
    refine XS.icmpYes X63.here hx rfl (pc0 := 55) (pc' := 64) rfl (hb hby at_55) rfl (tlt (by decide : ((2 : Int32) < (3 : Int32)))).1 (by decide) (by decide) ?_
    show Sp p e below T63 (mkF m 64 (lt7 p0 p1 p2 p3 p4 (2 : Int32) b58 (sp1 p4 (0 : Int32) p1) (sp1 p4 (1 : Int32) p2) (sp1 p4 (2 : Int32) p3)) []) _
    refine XS.iload X63.here hx rfl (hb hby at_64) rfl ?_
    refine XS.iconst X63.here hx rfl (hb hby at_66) ?_
    show Sp p e below T63 (mkF m 67 (lt7 p0 p1 p2 p3 p4 (2 : Int32) b58 (sp1 p4 (0 : Int32) p1) (sp1 p4 (1 : Int32) p2) (sp1 p4 (2 : Int32) p3)) [(.int (4 : Int32)), (.int (2 : Int32))]) _
    refine XS.icmpYes X63.here hx rfl (pc0 := 67) (pc' := 76) rfl (hb hby at_67) rfl (tlt (by decide : ((2 : Int32) < (4 : Int32)))).1 (by decide) (by decide) ?_
    show Sp p e below T63 (mkF m 76 (lt7 p0 p1 p2 p3 p4 (2 : Int32) b58 (sp1 p4 (0 : Int32) p1) (sp1 p4 (1 : Int32) p2) (sp1 p4 (2 : Int32) p3)) []) _
    refine XS.aload X63.here hx rfl (hb hby at_76) rfl rfl ?_
    refine XS.iload X63.here hx rfl (hb hby at_78) rfl ?_
    show Sp p e below T63 (mkF m 80 (lt7 p0 p1 p2 p3 p4 (2 : Int32) b58 (sp1 p4 (0 : Int32) p1) (sp1 p4 (1 : Int32) p2) (sp1 p4 (2 : Int32) p3)) [(.int (2 : Int32)), (.ref b58)]) _
    refine XS.iconst X63.here hx rfl (hb hby at_80) ?_
    refine XS.isub X63.here hx rfl (hb hby at_81) rfl ?_
    show Sp p e below T63 (mkF m 82 (lt7 p0 p1 p2 p3 p4 (2 : Int32) b58 (sp1 p4 (0 : Int32) p1) (sp1 p4 (1 : Int32) p2) (sp1 p4 (2 : Int32) p3)) [(.int ((2 : Int32) - (1 : Int32))), (.ref b58)]) _
    refine XS.bipush X63.here hx rfl (hb hby at_82) ?_
    show Sp p e below T63 (mkF m 84 (lt7 p0 p1 p2 p3 p4 (2 : Int32) b58 (sp1 p4 (0 : Int32) p1) (sp1 p4 (1 : Int32) p2) (sp1 p4 (2 : Int32) p3)) [(.int (10 : Int32)), (.int ((2 : Int32) - (1 : Int32))), (.ref b58)]) _
    refine st65 _ ?_
    show Sp p e below T65 (mkF m 85 (lt7 p0 p1 p2 p3 p4 (2 : Int32) b58 (sp1 p4 (0 : Int32) p1) (sp1 p4 (1 : Int32) p2) (sp1 p4 (2 : Int32) p3)) []) _
    refine XS.iload X65.here hx rfl (hb hby at_85) rfl ?_
    refine XS.iconst X65.here hx rfl (hb hby at_87) ?_
    show Sp p e below T65 (mkF m 88 (lt7 p0 p1 p2 p3 p4 (2 : Int32) b58 (sp1 p4 (0 : Int32) p1) (sp1 p4 (1 : Int32) p2) (sp1 p4 (2 : Int32) p3)) [(.int (1 : Int32)), (.int (2 : Int32))]) _
    refine XS.isub X65.here hx rfl (hb hby at_88) rfl ?_
    refine XS.istore X65.here hx rfl (hb hby at_89) rfl (l' := (lt8 p0 p1 p2 p3 p4 (2 : Int32) b58 (sp1 p4 (0 : Int32) p1) (sp1 p4 (1 : Int32) p2) (sp1 p4 (2 : Int32) p3) ((2 : Int32) - (1 : Int32)))) rfl ?_
    show Sp p e below T65 (mkF m 91 (lt8 p0 p1 p2 p3 p4 (2 : Int32) b58 (sp1 p4 (0 : Int32) p1) (sp1 p4 (1 : Int32) p2) (sp1 p4 (2 : Int32) p3) ((2 : Int32) - (1 : Int32))) []) _
    refine XS.iload X65.here hx rfl (hb hby at_91) rfl ?_
    show Sp p e below T65 (mkF m 93 (lt8 p0 p1 p2 p3 p4 (2 : Int32) b58 (sp1 p4 (0 : Int32) p1) (sp1 p4 (1 : Int32) p2) (sp1 p4 (2 : Int32) p3) ((2 : Int32) - (1 : Int32))) [(.int ((2 : Int32) - (1 : Int32)))]) _
    refine XS.ifNo X65.here hx rfl (hb hby at_93) rfl ((if0 _ _).trans (tlt (by decide : ((0 : Int32) < ((2 : Int32) - (1 : Int32))))).2.2.2) ?_
    show Sp p e below T65 (mkF m 96 (lt8 p0 p1 p2 p3 p4 (2 : Int32) b58 (sp1 p4 (0 : Int32) p1) (sp1 p4 (1 : Int32) p2) (sp1 p4 (2 : Int32) p3) ((2 : Int32) - (1 : Int32))) []) _
    refine XS.aload X65.here hx rfl (hb hby at_96) rfl rfl ?_
    refine XS.iload X65.here hx rfl (hb hby at_98) rfl ?_
    show Sp p e below T65 (mkF m 100 (lt8 p0 p1 p2 p3 p4 (2 : Int32) b58 (sp1 p4 (0 : Int32) p1) (sp1 p4 (1 : Int32) p2) (sp1 p4 (2 : Int32) p3) ((2 : Int32) - (1 : Int32))) [(.int (2 : Int32)), (.ref b58)]) _
    refine XS.iconst X65.here hx rfl (hb hby at_100) ?_
    refine XS.isub X65.here hx rfl (hb hby at_101) rfl ?_
    show Sp p e below T65 (mkF m 102 (lt8 p0 p1 p2 p3 p4 (2 : Int32) b58 (sp1 p4 (0 : Int32) p1) (sp1 p4 (1 : Int32) p2) (sp1 p4 (2 : Int32) p3) ((2 : Int32) - (1 : Int32))) [(.int ((2 : Int32) - (2 : Int32))), (.ref b58)]) _
    refine X65.baloadBytes hx (j := ((2 : Int32) - (2 : Int32))) (v := (.int (nar .byte (sp1 p4 (0 : Int32) p1)))) (by rw [e65]; exact Ar66.1) (State.isArrayOf_alike hZ.alike Ar66.2.1) Ar66.2.2 hin66 hat66 (g := (mkF m 102 (lt8 p0 p1 p2 p3 p4 (2 : Int32) b58 (sp1 p4 (0 : Int32) p1) (sp1 p4 (1 : Int32) p2) (sp1 p4 (2 : Int32) p3) ((2 : Int32) - (1 : Int32))) [(.int ((2 : Int32) - (2 : Int32))), (.ref b58)])) rfl rfl (hb hby at_102) _ ?_
    show Sp p e below T65 (mkF m 103 (lt8 p0 p1 p2 p3 p4 (2 : Int32) b58 (sp1 p4 (0 : Int32) p1) (sp1 p4 (1 : Int32) p2) (sp1 p4 (2 : Int32) p3) ((2 : Int32) - (1 : Int32))) [(.int (nar .byte (sp1 p4 (0 : Int32) p1)))]) _
    refine XS.bipush X65.here hx rfl (hb hby at_103) ?_
    show Sp p e below T65 (mkF m 105 (lt8 p0 p1 p2 p3 p4 (2 : Int32) b58 (sp1 p4 (0 : Int32) p1) (sp1 p4 (1 : Int32) p2) (sp1 p4 (2 : Int32) p3) ((2 : Int32) - (1 : Int32))) [(.int (13 : Int32)), (.int (nar .byte (sp1 p4 (0 : Int32) p1)))]) _
    exact kt
  by_cases hc68 : (nar .byte (sp1 p4 (0 : Int32) p1)) = (13 : Int32)
  · obtain ⟨_, _, ⟨T74, L74, k74, n74⟩, -, X74, ⟨Lc74, hQ74, l74, y74, z74⟩, st74⟩ := Jvm.LawKit.callS X65 hx (y := Y11) hown (mvT hZ (hw _ (tk 5 rfl))) (mvT hZ (hw _ (tk 6 rfl))) (mvT hZ (hw _ (tk 7 rfl))) (mvT hZ (hw _ (tk 8 rfl))) (by decide) (backOf (W := 0) (rm2x2 l Z a0 hw hv [] w_1 w_2 w_4 w_5 hS0 b58 k58 (nar .byte (sp1 p4 (0 : Int32) p1)) (nar .byte (10 : Int32)) h65 n0 O65 g_b58 V_b58_65) hZ (hw _ (tk 8 rfl)) (hw _ (tk 7 rfl)) (by decide) (by decide)) (g := (mkF m 128 (lt9 p0 p1 p2 p3 p4 (2 : Int32) b58 (sp1 p4 (0 : Int32) p1) (sp1 p4 (1 : Int32) p2) (sp1 p4 (2 : Int32) p3) (((2 : Int32) - (1 : Int32)) - (1 : Int32)) (1 : Int32)) [(.ref b58)])) rfl (by rw [hml]; rfl) (argsL := [(.ref b58)]) (rest := []) (lenOf pd_1 rfl) rfl (by show 2 * 0 + _ ≤ _; exact Nat.le_of_eq rfl) (hb hby at_128) (fun _ _ => ⟨rfl, e65, (by decide : 1 + 0 ≤ _), (by decide : 2 + 0 ≤ _)⟩)
    dsimp only [Pt.U, Pt.locs, Pt.cells, Pt.slots] at X74 l74 y74 z74 st74 hQ74
    subst l74 y74 z74
    obtain ⟨rv74, N74q, e74⟩ := hQ74
    rw [show sp2x2 (nar .byte (sp1 p4 (0 : Int32) p1)) = (1 : Int32) from by unfold sp2x2; rw [if_pos hc68]] at rv74
    subst rv74
    have N74 := Fr.app N65 N74q
    have pre112 : Cm p e below E0 (T74.setTop (mkF m 135 (lt11 p0 p1 p2 p3 p4 (2 : Int32) b58 (sp1 p4 (0 : Int32) p1) (sp1 p4 (1 : Int32) p2) (sp1 p4 (2 : Int32) p3) (((2 : Int32) - (1 : Int32)) - (1 : Int32)) (1 : Int32) (1 : Int32)) [(.ref b58)])) := fun t kt => by
      refine pre67 t ?_
      show Sp p e below T65 (mkF m 105 (lt8 p0 p1 p2 p3 p4 (2 : Int32) b58 (sp1 p4 (0 : Int32) p1) (sp1 p4 (1 : Int32) p2) (sp1 p4 (2 : Int32) p3) ((2 : Int32) - (1 : Int32))) [(.int (13 : Int32)), (.int (nar .byte (sp1 p4 (0 : Int32) p1)))]) _
      refine XS.icmpNo X65.here hx rfl (hb hby at_105) rfl (teq hc68).2 ?_
      show Sp p e below T65 (mkF m 108 (lt8 p0 p1 p2 p3 p4 (2 : Int32) b58 (sp1 p4 (0 : Int32) p1) (sp1 p4 (1 : Int32) p2) (sp1 p4 (2 : Int32) p3) ((2 : Int32) - (1 : Int32))) []) _
      refine XS.iload X65.here hx rfl (hb hby at_108) rfl ?_
      refine XS.iconst X65.here hx rfl (hb hby at_110) ?_
      show Sp p e below T65 (mkF m 111 (lt8 p0 p1 p2 p3 p4 (2 : Int32) b58 (sp1 p4 (0 : Int32) p1) (sp1 p4 (1 : Int32) p2) (sp1 p4 (2 : Int32) p3) ((2 : Int32) - (1 : Int32))) [(.int (1 : Int32)), (.int ((2 : Int32) - (1 : Int32)))]) _
      refine XS.isub X65.here hx rfl (hb hby at_111) rfl ?_
      refine XS.istore X65.here hx rfl (hb hby at_112) rfl (l' := (lt8 p0 p1 p2 p3 p4 (2 : Int32) b58 (sp1 p4 (0 : Int32) p1) (sp1 p4 (1 : Int32) p2) (sp1 p4 (2 : Int32) p3) (((2 : Int32) - (1 : Int32)) - (1 : Int32)))) rfl ?_
      show Sp p e below T65 (mkF m 114 (lt8 p0 p1 p2 p3 p4 (2 : Int32) b58 (sp1 p4 (0 : Int32) p1) (sp1 p4 (1 : Int32) p2) (sp1 p4 (2 : Int32) p3) (((2 : Int32) - (1 : Int32)) - (1 : Int32))) []) _
      refine XS.iload X65.here hx rfl (hb hby at_114) rfl ?_
      show Sp p e below T65 (mkF m 116 (lt8 p0 p1 p2 p3 p4 (2 : Int32) b58 (sp1 p4 (0 : Int32) p1) (sp1 p4 (1 : Int32) p2) (sp1 p4 (2 : Int32) p3) (((2 : Int32) - (1 : Int32)) - (1 : Int32))) [(.int (((2 : Int32) - (1 : Int32)) - (1 : Int32)))]) _
      refine XS.ifNo X65.here hx rfl (hb hby at_116) rfl ((if0 _ _).trans (teq (by decide : ((((2 : Int32) - (1 : Int32)) - (1 : Int32)) = (0 : Int32)))).2) ?_
      show Sp p e below T65 (mkF m 119 (lt8 p0 p1 p2 p3 p4 (2 : Int32) b58 (sp1 p4 (0 : Int32) p1) (sp1 p4 (1 : Int32) p2) (sp1 p4 (2 : Int32) p3) (((2 : Int32) - (1 : Int32)) - (1 : Int32))) []) _
      refine XS.iconst X65.here hx rfl (hb hby at_119) ?_
      show Sp p e below T65 (mkF m 120 (lt8 p0 p1 p2 p3 p4 (2 : Int32) b58 (sp1 p4 (0 : Int32) p1) (sp1 p4 (1 : Int32) p2) (sp1 p4 (2 : Int32) p3) (((2 : Int32) - (1 : Int32)) - (1 : Int32))) [(.int (1 : Int32))]) _
      refine XS.goto X65.here hx rfl (pc0 := 120) (pc' := 124) rfl (hb hby at_120) (by decide) (by decide) ?_
      show Sp p e below T65 (mkF m 124 (lt8 p0 p1 p2 p3 p4 (2 : Int32) b58 (sp1 p4 (0 : Int32) p1) (sp1 p4 (1 : Int32) p2) (sp1 p4 (2 : Int32) p3) (((2 : Int32) - (1 : Int32)) - (1 : Int32))) [(.int (1 : Int32))]) _
      refine XS.istore X65.here hx rfl (hb hby at_124) rfl (l' := (lt9 p0 p1 p2 p3 p4 (2 : Int32) b58 (sp1 p4 (0 : Int32) p1) (sp1 p4 (1 : Int32) p2) (sp1 p4 (2 : Int32) p3) (((2 : Int32) - (1 : Int32)) - (1 : Int32)) (1 : Int32))) rfl ?_
      refine XS.aload X65.here hx rfl (hb hby at_126) rfl rfl ?_
      show Sp p e below T65 (mkF m 128 (lt9 p0 p1 p2 p3 p4 (2 : Int32) b58 (sp1 p4 (0 : Int32) p1) (sp1 p4 (1 : Int32) p2) (sp1 p4 (2 : Int32) p3) (((2 : Int32) - (1 : Int32)) - (1 : Int32)) (1 : Int32)) [(.ref b58)]) _
      refine st74 _ ?_
      show Sp p e below T74 (mkF m 131 (lt9 p0 p1 p2 p3 p4 (2 : Int32) b58 (sp1 p4 (0 : Int32) p1) (sp1 p4 (1 : Int32) p2) (sp1 p4 (2 : Int32) p3) (((2 : Int32) - (1 : Int32)) - (1 : Int32)) (1 : Int32)) [(.int (1 : Int32))]) _
      refine XS.istore X74.here hx rfl (hb hby at_131) rfl (l' := (lt11 p0 p1 p2 p3 p4 (2 : Int32) b58 (sp1 p4 (0 : Int32) p1) (sp1 p4 (1 : Int32) p2) (sp1 p4 (2 : Int32) p3) (((2 : Int32) - (1 : Int32)) - (1 : Int32)) (1 : Int32) (1 : Int32))) rfl ?_
      refine XS.aload X74.here hx rfl (hb hby at_133) rfl rfl ?_
      show Sp p e below T74 (mkF m 135 (lt11 p0 p1 p2 p3 p4 (2 : Int32) b58 (sp1 p4 (0 : Int32) p1) (sp1 p4 (1 : Int32) p2) (sp1 p4 (2 : Int32) p3) (((2 : Int32) - (1 : Int32)) - (1 : Int32)) (1 : Int32) (1 : Int32)) [(.ref b58)]) _
      exact kt
    obtain ⟨_, _, ⟨T111, L111, k111, n111⟩, -, X111, hSi, -, ⟨Lc111, hQ111, l111, y111, z111⟩, st111⟩ := callSS X74 hx (y := Y23) hown (mvT hZ (hw _ (tk 9 rfl))) (mvT hZ (hw _ (tk 10 rfl))) (mvT hZ (hw _ (tk 7 rfl))) (mvT hZ (hw _ (tk 11 rfl))) (by decide) (own_backSZ (W := 0) (rm3x2 l Z a0 hw hv wS hEL [] w_1 w_2 w_4 w_5 hS0 b58 k58 (nar .byte (sp1 p4 (0 : Int32) p1)) (nar .byte (10 : Int32)) h65 n0 O65 g_b58 V_b58_65 hc68) hZ (hw _ (tk 11 rfl)) (hw _ (tk 7 rfl)) (by decide) (by decide) hEL hC) (g := (mkF m 135 (lt11 p0 p1 p2 p3 p4 (2 : Int32) b58 (sp1 p4 (0 : Int32) p1) (sp1 p4 (1 : Int32) p2) (sp1 p4 (2 : Int32) p3) (((2 : Int32) - (1 : Int32)) - (1 : Int32)) (1 : Int32) (1 : Int32)) [(.ref b58)])) rfl (by rw [hml]; rfl) (argsL := [(.ref b58)]) (rest := []) (lenOf pd_7 rfl) rfl (by show 2 * 0 + _ ≤ _; exact Nat.le_of_eq rfl) (hb hby at_135) (fun _ _ => ⟨rfl, e74, (by decide : 1 + 3 ≤ _), (by decide : 2 + 8 ≤ _)⟩)
    dsimp only [Pt.U, Pt.locs, Pt.cells, Pt.slots] at X111 l111 y111 z111 st111 hQ111
    subst l111 y111 z111
    have hki := Nat.le_refl T111.heap.size
    have hZ : Z.Warmed39 (s.setVm T111.vm).vm := State.Warmed39.trans hZ hSi.1
    have hown : (s.setVm T111.vm).vm.findClass "com/example/bristlecone/bristlecone/io/HttpLineIsEmptyPinLaw" = some m.cls := by rw [show (s.setVm T111.vm).vm = T111.vm from rfl, hSi.1.alike.findClass]; exact hown
    obtain ⟨b113, b114, k115, rv111, N111q, O111, K111c, Fx111_0, Fx111_1, Fx111_2, Fx111_3, Fx111_4, Fx111_5, Fx111_6, Fx111_7⟩ := hQ111
    subst rv111
    have N111 := Fr.app N74 N111q
    have g_b113 := Fx111_0
    have ne_b58_b113 : b58 ≠ b113 := Nat.ne_of_lt (Nat.lt_of_lt_of_le V_b58_65.lt Fx111_1)
    obtain ⟨cq116, kq116, q116a, q116b, q116c⟩ := isOf hZ rfl Fx111_2
    obtain ⟨_, _, ⟨T116, L116, k116, n116⟩, -, X116, ⟨Lc116, hQ116, l116, y116, z116⟩, st116⟩ := X111.virtualBack hx (y := Y24) (z := Y24) hown (mvT hZ (hw _ (tk 48 rfl))) (mvT hZ (hw _ (tk 49 rfl))) (notFace_of_selects (args := #[]) (mvT hZ (hw _ (tk 51 rfl)))) (mvT hZ (hw _ (tk 51 rfl))) (mvT hZ (hw _ (tk 50 rfl))) (by decide) (backOf (W := 0) (rm10x1 l Z a0 hw hv [] w_1 w_2 w_4 w_5 hS0 b113 b114 k115 T111.heap n0 O111 g_b113 Fx111_2 Fx111_3 Fx111_6 Fx111_7) hZ (hw _ (tk 52 rfl)) (hw _ (tk 14 rfl)) (by decide) (by decide)) q116a q116c (g := (mkF m 138 (lt11 p0 p1 p2 p3 p4 (2 : Int32) b58 (sp1 p4 (0 : Int32) p1) (sp1 p4 (1 : Int32) p2) (sp1 p4 (2 : Int32) p3) (((2 : Int32) - (1 : Int32)) - (1 : Int32)) (1 : Int32) (1 : Int32)) [(.ref b113)])) rfl (by rw [hml]; rfl) (Steps.refl _) (argsL := []) (rest := []) (lenOf pd_8 rfl) rfl (by show 2 * 0 + _ ≤ _; exact Nat.le_of_eq rfl) (hb hby at_138) (fun _ _ => ⟨rfl, rfl, (by decide : 4 + 0 ≤ _), (by decide : 10 + 0 ≤ _)⟩)
    dsimp only [Pt.U, Pt.locs, Pt.cells, Pt.slots] at X116 l116 y116 z116 st116 hQ116
    subst l116 y116 z116
    obtain ⟨rv116, N116q, e116⟩ := hQ116
    rw [show sp10x1 = (1 : Int32) from by unfold sp10x1; rfl] at rv116
    subst rv116
    have N116 := Fr.app N111 N116q
    obtain ⟨fs, hr, hrun, hended, hRW⟩ := leaveW (s := s) (vm₁ := T111.vm) X116 hSi (n := _) (by rw [e116]; exact hki) (v := some (.int (1 : Int32))) (fun h => by rw [Bd.returns] at h; cases h)
    refine ⟨_, _, pre112 _ ?_, hrun, hended, _, _, rfl, ?_, hRW.1, hRW.2.1, hRW.2.2.1, hRW.2.2.2.mono (by decide) (by decide)⟩
    · refine st111.trans ?_
      show Sp p e below T111 (mkF m 138 (lt11 p0 p1 p2 p3 p4 (2 : Int32) b58 (sp1 p4 (0 : Int32) p1) (sp1 p4 (1 : Int32) p2) (sp1 p4 (2 : Int32) p3) (((2 : Int32) - (1 : Int32)) - (1 : Int32)) (1 : Int32) (1 : Int32)) [(.ref b113)]) _
      refine st116.trans ?_
      show Sp p e below T116 (mkF m 141 (lt11 p0 p1 p2 p3 p4 (2 : Int32) b58 (sp1 p4 (0 : Int32) p1) (sp1 p4 (1 : Int32) p2) (sp1 p4 (2 : Int32) p3) (((2 : Int32) - (1 : Int32)) - (1 : Int32)) (1 : Int32) (1 : Int32)) [(.int (1 : Int32))]) _
      refine XS.istore X116.here hx rfl (hb hby at_141) rfl (l' := (lt17 p0 p1 p2 p3 p4 (2 : Int32) b58 (sp1 p4 (0 : Int32) p1) (sp1 p4 (1 : Int32) p2) (sp1 p4 (2 : Int32) p3) (((2 : Int32) - (1 : Int32)) - (1 : Int32)) (1 : Int32) (1 : Int32) (1 : Int32))) rfl ?_
      refine XS.iload X116.here hx rfl (hb hby at_143) rfl ?_
      show Sp p e below T116 (mkF m 145 (lt17 p0 p1 p2 p3 p4 (2 : Int32) b58 (sp1 p4 (0 : Int32) p1) (sp1 p4 (1 : Int32) p2) (sp1 p4 (2 : Int32) p3) (((2 : Int32) - (1 : Int32)) - (1 : Int32)) (1 : Int32) (1 : Int32) (1 : Int32)) [(.int (1 : Int32))]) _
      refine XS.iload X116.here hx rfl (hb hby at_145) rfl ?_
      show Sp p e below T116 (mkF m 147 (lt17 p0 p1 p2 p3 p4 (2 : Int32) b58 (sp1 p4 (0 : Int32) p1) (sp1 p4 (1 : Int32) p2) (sp1 p4 (2 : Int32) p3) (((2 : Int32) - (1 : Int32)) - (1 : Int32)) (1 : Int32) (1 : Int32) (1 : Int32)) [(.int (1 : Int32)), (.int (1 : Int32))]) _
      refine XS.icmpNo X116.here hx rfl (hb hby at_147) rfl (teq (by decide : ((1 : Int32) = (1 : Int32)))).2 ?_
      show Sp p e below T116 (mkF m 150 (lt17 p0 p1 p2 p3 p4 (2 : Int32) b58 (sp1 p4 (0 : Int32) p1) (sp1 p4 (1 : Int32) p2) (sp1 p4 (2 : Int32) p3) (((2 : Int32) - (1 : Int32)) - (1 : Int32)) (1 : Int32) (1 : Int32) (1 : Int32)) []) _
      refine XS.iload X116.here hx rfl (hb hby at_150) rfl ?_
      refine XS.iload X116.here hx rfl (hb hby at_152) rfl ?_
      show Sp p e below T116 (mkF m 154 (lt17 p0 p1 p2 p3 p4 (2 : Int32) b58 (sp1 p4 (0 : Int32) p1) (sp1 p4 (1 : Int32) p2) (sp1 p4 (2 : Int32) p3) (((2 : Int32) - (1 : Int32)) - (1 : Int32)) (1 : Int32) (1 : Int32) (1 : Int32)) [(.int (1 : Int32)), (.int (1 : Int32))]) _
      refine XS.icmpNo X116.here hx rfl (hb hby at_154) rfl (teq (by decide : ((1 : Int32) = (1 : Int32)))).2 ?_
      show Sp p e below T116 (mkF m 157 (lt17 p0 p1 p2 p3 p4 (2 : Int32) b58 (sp1 p4 (0 : Int32) p1) (sp1 p4 (1 : Int32) p2) (sp1 p4 (2 : Int32) p3) (((2 : Int32) - (1 : Int32)) - (1 : Int32)) (1 : Int32) (1 : Int32) (1 : Int32)) []) _
      refine XS.iconst X116.here hx rfl (hb hby at_157) ?_
      show Sp p e below T116 (mkF m 158 (lt17 p0 p1 p2 p3 p4 (2 : Int32) b58 (sp1 p4 (0 : Int32) p1) (sp1 p4 (1 : Int32) p2) (sp1 p4 (2 : Int32) p3) (((2 : Int32) - (1 : Int32)) - (1 : Int32)) (1 : Int32) (1 : Int32) (1 : Int32)) [(.int (1 : Int32))]) _
      refine XS.goto X116.here hx rfl (pc0 := 158) (pc' := 162) rfl (hb hby at_158) (by decide) (by decide) ?_
      show Sp p e below T116 (mkF m 162 (lt17 p0 p1 p2 p3 p4 (2 : Int32) b58 (sp1 p4 (0 : Int32) p1) (sp1 p4 (1 : Int32) p2) (sp1 p4 (2 : Int32) p3) (((2 : Int32) - (1 : Int32)) - (1 : Int32)) (1 : Int32) (1 : Int32) (1 : Int32)) [(.int (1 : Int32))]) _
      exact retN X116 hx (t := .boolean) Bd.returns (by simp) (hb hby at_162) hr
    · show Q0 Z w_1 w_2 w_4 w_5 p0 p1 p2 p3 p4 h0 n0 _ T116.heap _
      rw [e116]
      exact ⟨by unfold sp0; rw [if_neg hc1, if_pos hc55, if_pos hc68], N116, trivial⟩
  · obtain ⟨_, _, ⟨T117, L117, k117, n117⟩, -, X117, ⟨Lc117, hQ117, l117, y117, z117⟩, st117⟩ := Jvm.LawKit.callS X65 hx (y := Y11) hown (mvT hZ (hw _ (tk 5 rfl))) (mvT hZ (hw _ (tk 6 rfl))) (mvT hZ (hw _ (tk 7 rfl))) (mvT hZ (hw _ (tk 8 rfl))) (by decide) (backOf (W := 0) (rm2x2 l Z a0 hw hv [] w_1 w_2 w_4 w_5 hS0 b58 k58 (nar .byte (sp1 p4 (0 : Int32) p1)) (nar .byte (10 : Int32)) h65 n0 O65 g_b58 V_b58_65) hZ (hw _ (tk 8 rfl)) (hw _ (tk 7 rfl)) (by decide) (by decide)) (g := (mkF m 128 (lt9 p0 p1 p2 p3 p4 (2 : Int32) b58 (sp1 p4 (0 : Int32) p1) (sp1 p4 (1 : Int32) p2) (sp1 p4 (2 : Int32) p3) ((2 : Int32) - (1 : Int32)) (0 : Int32)) [(.ref b58)])) rfl (by rw [hml]; rfl) (argsL := [(.ref b58)]) (rest := []) (lenOf pd_1 rfl) rfl (by show 2 * 0 + _ ≤ _; exact Nat.le_of_eq rfl) (hb hby at_128) (fun _ _ => ⟨rfl, e65, (by decide : 1 + 0 ≤ _), (by decide : 2 + 0 ≤ _)⟩)
    dsimp only [Pt.U, Pt.locs, Pt.cells, Pt.slots] at X117 l117 y117 z117 st117 hQ117
    subst l117 y117 z117
    obtain ⟨rv117, N117q, e117⟩ := hQ117
    rw [show sp2x2 (nar .byte (sp1 p4 (0 : Int32) p1)) = (0 : Int32) from by unfold sp2x2; rw [if_neg hc68]] at rv117
    subst rv117
    have N117 := Fr.app N65 N117q
    obtain ⟨_, _, ⟨T165, L165, k165, n165⟩, -, X165, ⟨Lc165, hQ165, l165, y165, z165⟩, st165⟩ := Jvm.LawKit.callS X117 hx (y := Y23) hown (mvT hZ (hw _ (tk 9 rfl))) (mvT hZ (hw _ (tk 10 rfl))) (mvT hZ (hw _ (tk 7 rfl))) (mvT hZ (hw _ (tk 11 rfl))) (by decide) (backOf (W := 0) (rm3x3 l Z a0 hw hv [] w_1 w_2 w_4 w_5 hS0 b58 k58 (nar .byte (sp1 p4 (0 : Int32) p1)) (nar .byte (10 : Int32)) h65 n0 O65 g_b58 V_b58_65 hc68) hZ (hw _ (tk 11 rfl)) (hw _ (tk 7 rfl)) (by decide) (by decide)) (g := (mkF m 135 (lt11 p0 p1 p2 p3 p4 (2 : Int32) b58 (sp1 p4 (0 : Int32) p1) (sp1 p4 (1 : Int32) p2) (sp1 p4 (2 : Int32) p3) ((2 : Int32) - (1 : Int32)) (0 : Int32) (0 : Int32)) [(.ref b58)])) rfl (by rw [hml]; rfl) (argsL := [(.ref b58)]) (rest := []) (lenOf pd_7 rfl) rfl (by show 2 * 0 + _ ≤ _; exact Nat.le_of_eq rfl) (hb hby at_135) (fun _ _ => ⟨rfl, e117, (by decide : 1 + 2 ≤ _), (by decide : 2 + 5 ≤ _)⟩)
    dsimp only [Pt.U, Pt.locs, Pt.cells, Pt.slots] at X165 l165 y165 z165 st165 hQ165
    subst l165 y165 z165
    obtain ⟨b166, b167, k168, rv165, N165q, O165, K165c, Fx165_0, Fx165_1, Fx165_2, Fx165_3, Fx165_4, Fx165_5, Fx165_6, Fx165_7, Fx165_8⟩ := hQ165
    subst rv165
    have N165 := Fr.app N117 N165q
    have g_b166 := Fx165_0
    have ne_b58_b166 : b58 ≠ b166 := Nat.ne_of_lt (Nat.lt_of_lt_of_le V_b58_65.lt Fx165_1)
    have g_b167 := Fx165_5
    have ne_b58_b167 : b58 ≠ b167 := Nat.ne_of_lt (Nat.lt_of_lt_of_le V_b58_65.lt Fx165_6)
    obtain ⟨cq171, kq171, q171a, q171b, q171c⟩ := isOf hZ rfl Fx165_2
    obtain ⟨_, _, ⟨T171, L171, k171, n171⟩, -, X171, ⟨Lc171, hQ171, l171, y171, z171⟩, st171⟩ := X165.virtualBack hx (y := Y24) (z := Y24) hown (mvT hZ (hw _ (tk 48 rfl))) (mvT hZ (hw _ (tk 49 rfl))) (notFace_of_selects (args := #[]) (mvT hZ (hw _ (tk 51 rfl)))) (mvT hZ (hw _ (tk 51 rfl))) (mvT hZ (hw _ (tk 50 rfl))) (by decide) (backOf (W := 0) (rm10x2 l Z a0 hw hv [] w_1 w_2 w_4 w_5 hS0 b166 b167 k168 (nar .byte (sp1 p4 (0 : Int32) p1)) T165.heap n0 O165 g_b166 g_b167 Fx165_2 Fx165_3 Fx165_7 Fx165_8) hZ (hw _ (tk 52 rfl)) (hw _ (tk 14 rfl)) (by decide) (by decide)) q171a q171c (g := (mkF m 138 (lt11 p0 p1 p2 p3 p4 (2 : Int32) b58 (sp1 p4 (0 : Int32) p1) (sp1 p4 (1 : Int32) p2) (sp1 p4 (2 : Int32) p3) ((2 : Int32) - (1 : Int32)) (0 : Int32) (0 : Int32)) [(.ref b166)])) rfl (by rw [hml]; rfl) (Steps.refl _) (argsL := []) (rest := []) (lenOf pd_8 rfl) rfl (by show 2 * 0 + _ ≤ _; exact Nat.le_of_eq rfl) (hb hby at_138) (fun _ _ => ⟨rfl, rfl, (by decide : 3 + 0 ≤ _), (by decide : 7 + 0 ≤ _)⟩)
    dsimp only [Pt.U, Pt.locs, Pt.cells, Pt.slots] at X171 l171 y171 z171 st171 hQ171
    subst l171 y171 z171
    obtain ⟨rv171, N171q, e171⟩ := hQ171
    rw [show sp10x2 = (0 : Int32) from by unfold sp10x2; rfl] at rv171
    subst rv171
    have N171 := Fr.app N165 N171q
    obtain ⟨fs, hr, hrun, hended, hW, hsame⟩ := X171.leave (v := some (.int (1 : Int32))) (fun h => by rw [Bd.returns] at h; cases h)
    refine ⟨_, _, pre67 _ ?_, hrun, hended, _, _, rfl, ?_, ReturnedEndW.of_narrow ⟨_, rfl⟩ hW (hsame.mono (by decide) (by decide))⟩
    · show Sp p e below T65 (mkF m 105 (lt8 p0 p1 p2 p3 p4 (2 : Int32) b58 (sp1 p4 (0 : Int32) p1) (sp1 p4 (1 : Int32) p2) (sp1 p4 (2 : Int32) p3) ((2 : Int32) - (1 : Int32))) [(.int (13 : Int32)), (.int (nar .byte (sp1 p4 (0 : Int32) p1)))]) _
      refine XS.icmpYes X65.here hx rfl (pc0 := 105) (pc' := 114) rfl (hb hby at_105) rfl (feq hc68).2 (by decide) (by decide) ?_
      show Sp p e below T65 (mkF m 114 (lt8 p0 p1 p2 p3 p4 (2 : Int32) b58 (sp1 p4 (0 : Int32) p1) (sp1 p4 (1 : Int32) p2) (sp1 p4 (2 : Int32) p3) ((2 : Int32) - (1 : Int32))) []) _
      refine XS.iload X65.here hx rfl (hb hby at_114) rfl ?_
      show Sp p e below T65 (mkF m 116 (lt8 p0 p1 p2 p3 p4 (2 : Int32) b58 (sp1 p4 (0 : Int32) p1) (sp1 p4 (1 : Int32) p2) (sp1 p4 (2 : Int32) p3) ((2 : Int32) - (1 : Int32))) [(.int ((2 : Int32) - (1 : Int32)))]) _
      refine XS.ifYes X65.here hx rfl (pc0 := 116) (pc' := 123) rfl (hb hby at_116) rfl ((if0 _ _).trans (feq (by decide : ¬ (((2 : Int32) - (1 : Int32)) = (0 : Int32)))).2) (by decide) (by decide) ?_
      show Sp p e below T65 (mkF m 123 (lt8 p0 p1 p2 p3 p4 (2 : Int32) b58 (sp1 p4 (0 : Int32) p1) (sp1 p4 (1 : Int32) p2) (sp1 p4 (2 : Int32) p3) ((2 : Int32) - (1 : Int32))) []) _
      refine XS.iconst X65.here hx rfl (hb hby at_123) ?_
      refine XS.istore X65.here hx rfl (hb hby at_124) rfl (l' := (lt9 p0 p1 p2 p3 p4 (2 : Int32) b58 (sp1 p4 (0 : Int32) p1) (sp1 p4 (1 : Int32) p2) (sp1 p4 (2 : Int32) p3) ((2 : Int32) - (1 : Int32)) (0 : Int32))) rfl ?_
      show Sp p e below T65 (mkF m 126 (lt9 p0 p1 p2 p3 p4 (2 : Int32) b58 (sp1 p4 (0 : Int32) p1) (sp1 p4 (1 : Int32) p2) (sp1 p4 (2 : Int32) p3) ((2 : Int32) - (1 : Int32)) (0 : Int32)) []) _
      refine XS.aload X65.here hx rfl (hb hby at_126) rfl rfl ?_
      show Sp p e below T65 (mkF m 128 (lt9 p0 p1 p2 p3 p4 (2 : Int32) b58 (sp1 p4 (0 : Int32) p1) (sp1 p4 (1 : Int32) p2) (sp1 p4 (2 : Int32) p3) ((2 : Int32) - (1 : Int32)) (0 : Int32)) [(.ref b58)]) _
      refine st117 _ ?_
      show Sp p e below T117 (mkF m 131 (lt9 p0 p1 p2 p3 p4 (2 : Int32) b58 (sp1 p4 (0 : Int32) p1) (sp1 p4 (1 : Int32) p2) (sp1 p4 (2 : Int32) p3) ((2 : Int32) - (1 : Int32)) (0 : Int32)) [(.int (0 : Int32))]) _
      refine XS.istore X117.here hx rfl (hb hby at_131) rfl (l' := (lt11 p0 p1 p2 p3 p4 (2 : Int32) b58 (sp1 p4 (0 : Int32) p1) (sp1 p4 (1 : Int32) p2) (sp1 p4 (2 : Int32) p3) ((2 : Int32) - (1 : Int32)) (0 : Int32) (0 : Int32))) rfl ?_
      refine XS.aload X117.here hx rfl (hb hby at_133) rfl rfl ?_
      show Sp p e below T117 (mkF m 135 (lt11 p0 p1 p2 p3 p4 (2 : Int32) b58 (sp1 p4 (0 : Int32) p1) (sp1 p4 (1 : Int32) p2) (sp1 p4 (2 : Int32) p3) ((2 : Int32) - (1 : Int32)) (0 : Int32) (0 : Int32)) [(.ref b58)]) _
      refine st165 _ ?_
      show Sp p e below T165 (mkF m 138 (lt11 p0 p1 p2 p3 p4 (2 : Int32) b58 (sp1 p4 (0 : Int32) p1) (sp1 p4 (1 : Int32) p2) (sp1 p4 (2 : Int32) p3) ((2 : Int32) - (1 : Int32)) (0 : Int32) (0 : Int32)) [(.ref b166)]) _
      refine st171.trans ?_
      show Sp p e below T171 (mkF m 141 (lt11 p0 p1 p2 p3 p4 (2 : Int32) b58 (sp1 p4 (0 : Int32) p1) (sp1 p4 (1 : Int32) p2) (sp1 p4 (2 : Int32) p3) ((2 : Int32) - (1 : Int32)) (0 : Int32) (0 : Int32)) [(.int (0 : Int32))]) _
      refine XS.istore X171.here hx rfl (hb hby at_141) rfl (l' := (lt17 p0 p1 p2 p3 p4 (2 : Int32) b58 (sp1 p4 (0 : Int32) p1) (sp1 p4 (1 : Int32) p2) (sp1 p4 (2 : Int32) p3) ((2 : Int32) - (1 : Int32)) (0 : Int32) (0 : Int32) (0 : Int32))) rfl ?_
      refine XS.iload X171.here hx rfl (hb hby at_143) rfl ?_
      show Sp p e below T171 (mkF m 145 (lt17 p0 p1 p2 p3 p4 (2 : Int32) b58 (sp1 p4 (0 : Int32) p1) (sp1 p4 (1 : Int32) p2) (sp1 p4 (2 : Int32) p3) ((2 : Int32) - (1 : Int32)) (0 : Int32) (0 : Int32) (0 : Int32)) [(.int (0 : Int32))]) _
      refine XS.iload X171.here hx rfl (hb hby at_145) rfl ?_
      show Sp p e below T171 (mkF m 147 (lt17 p0 p1 p2 p3 p4 (2 : Int32) b58 (sp1 p4 (0 : Int32) p1) (sp1 p4 (1 : Int32) p2) (sp1 p4 (2 : Int32) p3) ((2 : Int32) - (1 : Int32)) (0 : Int32) (0 : Int32) (0 : Int32)) [(.int (0 : Int32)), (.int (0 : Int32))]) _
      refine XS.icmpNo X171.here hx rfl (hb hby at_147) rfl (teq (by decide : ((0 : Int32) = (0 : Int32)))).2 ?_
      show Sp p e below T171 (mkF m 150 (lt17 p0 p1 p2 p3 p4 (2 : Int32) b58 (sp1 p4 (0 : Int32) p1) (sp1 p4 (1 : Int32) p2) (sp1 p4 (2 : Int32) p3) ((2 : Int32) - (1 : Int32)) (0 : Int32) (0 : Int32) (0 : Int32)) []) _
      refine XS.iload X171.here hx rfl (hb hby at_150) rfl ?_
      refine XS.iload X171.here hx rfl (hb hby at_152) rfl ?_
      show Sp p e below T171 (mkF m 154 (lt17 p0 p1 p2 p3 p4 (2 : Int32) b58 (sp1 p4 (0 : Int32) p1) (sp1 p4 (1 : Int32) p2) (sp1 p4 (2 : Int32) p3) ((2 : Int32) - (1 : Int32)) (0 : Int32) (0 : Int32) (0 : Int32)) [(.int (0 : Int32)), (.int (0 : Int32))]) _
      refine XS.icmpNo X171.here hx rfl (hb hby at_154) rfl (teq (by decide : ((0 : Int32) = (0 : Int32)))).2 ?_
      show Sp p e below T171 (mkF m 157 (lt17 p0 p1 p2 p3 p4 (2 : Int32) b58 (sp1 p4 (0 : Int32) p1) (sp1 p4 (1 : Int32) p2) (sp1 p4 (2 : Int32) p3) ((2 : Int32) - (1 : Int32)) (0 : Int32) (0 : Int32) (0 : Int32)) []) _
      refine XS.iconst X171.here hx rfl (hb hby at_157) ?_
      show Sp p e below T171 (mkF m 158 (lt17 p0 p1 p2 p3 p4 (2 : Int32) b58 (sp1 p4 (0 : Int32) p1) (sp1 p4 (1 : Int32) p2) (sp1 p4 (2 : Int32) p3) ((2 : Int32) - (1 : Int32)) (0 : Int32) (0 : Int32) (0 : Int32)) [(.int (1 : Int32))]) _
      refine XS.goto X171.here hx rfl (pc0 := 158) (pc' := 162) rfl (hb hby at_158) (by decide) (by decide) ?_
      show Sp p e below T171 (mkF m 162 (lt17 p0 p1 p2 p3 p4 (2 : Int32) b58 (sp1 p4 (0 : Int32) p1) (sp1 p4 (1 : Int32) p2) (sp1 p4 (2 : Int32) p3) ((2 : Int32) - (1 : Int32)) (0 : Int32) (0 : Int32) (0 : Int32)) [(.int (1 : Int32))]) _
      exact retN X171 hx (t := .boolean) Bd.returns (by simp) (hb hby at_162) hr
    · show Q0 Z w_1 w_2 w_4 w_5 p0 p1 p2 p3 p4 h0 n0 _ T171.heap _
      rw [e171]
      exact ⟨by unfold sp0; rw [if_neg hc1, if_pos hc55, if_neg hc68], N171, trivial⟩
set_option maxRecDepth 65536 in
set_option maxHeartbeats 40000000 in
theorem rm0_3 (l : Launch) (Z : State) (a0 : Array Value) (hw : ∀ d ∈ tables_1, d.before a0 Z = true) (hv : ∀ d ∈ jdkStatics_1, d.before a0 Z = true) (wS : ∀ d ∈ Bundle.stringAtoms, d.before a0 Z = true) (hEL : EW Z a0 EL1) (ws : List Jvm.Cond) (w_1 : Addr) (w_2 : Addr) (w_4 : Int32) (w_5 : Value) (hS : StF Z w_1 w_2 w_4 w_5) (p0 : Int32) (p1 : Int32) (p2 : Int32) (p3 : Int32) (p4 : Int32) (h0 : Heap) (n0 : Nat) (O0 : Old Z n0 h0) (hc1 : ¬ ((p0 &&& (3 : Int32)) = (0 : Int32))) (hc55 : ¬ ((p0 &&& (3 : Int32)) = (1 : Int32))) (hc172 : ((p0 &&& (3 : Int32)) = (2 : Int32))) :
    MetFree l x (head1 (Jvm.Cond.code x code maxLocals ret :: ws) room_1) (fun a U => a = #[(.int p0), (.int p1), (.int p2), (.int p3), (.int p4)] ∧ Z.Warmed39 U.vm ∧ U.heap = h0 ∧ CHv Z EL1 U.vm Z.heap) (fun _ _ _ _ _ => True) (fun _ U o U' => ∃ v L, o = .returned v ∧ Q0 Z w_1 w_2 w_4 w_5 p0 p1 p2 p3 p4 h0 n0 v U'.heap L ∧ ReturnedEndW U o U' L room_1.cells room_1.slots) := by
  refine MetFree.of_bodySF (plainFor_of_name pn_0) hisR ?_
  intro p e s m args below meth c s₁ Bd hml0 hP hK
  obtain ⟨rfl, hZ, hh, hC⟩ := hP
  have hx := Bd.exec
  have hby := Bd.bytes
  have hml : c.maxLocals = 14 := hml0
  have hown : s.vm.findClass "com/example/bristlecone/bristlecone/io/HttpLineIsEmptyPinLaw" = some m.cls := findClass_of_methodNamed Bd.named
  have hnm := (name_of_methodNamed Bd.named Bd.method).1
  have X0 : Stand p l e room_1 s m #[(.int p0), (.int p1), (.int p2), (.int p3), (.int p4)] below meth c s₁ [] 0 0 := Stand.of_body Bd
  have e0 : s₁.heap = h0 := by rw [← hh, Bd.state]; rfl
  have N0 := Fr.nil n0
  have hS0 := hS
  obtain ⟨S_1, E_1, S_2, E_2, S_3, E_3, S_4, NE_4, S_5, IR_5⟩ := hS
  have pre0 : ∀ t, Steps p.tables e below (s₁.setTop (mkF m 0 #[.val (.int p0), .val (.int p1), .val (.int p2), .val (.int p3), .val (.int p4), .unset, .unset, .unset, .unset, .unset, .unset, .unset, .unset, .unset] [])) t → Steps p.tables e below (s₁.setTop (entryFrame m #[(.int p0), (.int p1), (.int p2), (.int p3), (.int p4)] maxLocals)) t := fun t k => castTop (ef_0 m p0 p1 p2 p3 p4) k
  generalize hE0 : s₁.setTop (entryFrame m #[(.int p0), (.int p1), (.int p2), (.int p3), (.int p4)] maxLocals) = E0 at pre0 ⊢
  have pre173 : Cm p e below E0 (s₁.setTop (mkF m 5 (lt1 p0 p1 p2 p3 p4) [(.int ((p0 &&& (3 : Int32)) + (1 : Int32)))])) := fun t kt => by
    refine pre0 t ?_
    show Sp p e below s₁ (mkF m 0 (lt1 p0 p1 p2 p3 p4) []) _
    refine XS.iloadN X0.here hx rfl (hb hby at_0) rfl ?_
    refine XS.iconst X0.here hx rfl (hb hby at_1) ?_
    show Sp p e below s₁ (mkF m 2 (lt1 p0 p1 p2 p3 p4) [(.int (3 : Int32)), (.int p0)]) _
    refine XS.iand X0.here hx rfl (hb hby at_2) rfl ?_
    refine XS.iconst X0.here hx rfl (hb hby at_3) ?_
    show Sp p e below s₁ (mkF m 4 (lt1 p0 p1 p2 p3 p4) [(.int (1 : Int32)), (.int (p0 &&& (3 : Int32)))]) _
    refine XS.iadd X0.here hx rfl (hb hby at_4) rfl ?_
    show Sp p e below s₁ (mkF m 5 (lt1 p0 p1 p2 p3 p4) [(.int ((p0 &&& (3 : Int32)) + (1 : Int32)))]) _
    exact kt
  have pre174 : Cm p e below E0 (s₁.setTop (mkF m 5 (lt1 p0 p1 p2 p3 p4) [(.int (3 : Int32))])) := fun t kt => pre173 t (by rw [(by rw [hc172] <;> decide : ((p0 &&& (3 : Int32)) + (1 : Int32)) = (3 : Int32))]; exact kt)
  obtain ⟨T175, h175, k175, X175, e175, E175, A175, st175⟩ := newP X0 hx hZ (hw _ (tk 0 rfl)) e0 (g := (mkF m 9 (lt2 p0 p1 p2 p3 p4 (3 : Int32)) [(.int (3 : Int32))])) rfl (hb hby at_9) rfl (by decide) (cap := 3) (by decide) (by decide) (by decide) (by decide)
  obtain ⟨b175, g175⟩ : ∃ z, z = h0.size := ⟨_, rfl⟩
  rw [← g175] at A175 st175
  have g_b175 : n0 ≤ b175 := Nat.le_trans (own_old O0) (Nat.le_of_eq g175.symm)
  have O175 : Old Z n0 h175 := O0.ext E175
  have V_b175 : Arv Z h175 b175 k175 .byte (3 : Int32) [(.int (0 : Int32)), (.int (0 : Int32)), (.int (0 : Int32))] (.int (0 : Int32)) := (Arv.new A175 (by decide)).pad (pad_rep [] (.int (0 : Int32)) 3)
  obtain ⟨_, _, ⟨T176, L176, k176, n176⟩, -, X176, ⟨Lc176, hQ176, l176, y176, z176⟩, st176⟩ := Jvm.LawKit.callS X175 hx (y := Y4) hown (mvT hZ (hw _ (tk 1 rfl))) (mvT hZ (hw _ (tk 2 rfl))) (mvT hZ (hw _ (tk 3 rfl))) (mvT hZ (hw _ (tk 4 rfl))) (by decide) (backOf (W := 0) (rm1 l Z a0 hw hv [] w_1 w_2 w_4 w_5 hS0 p4 (0 : Int32) p1 h175 n0 O175) hZ (hw _ (tk 4 rfl)) (hw _ (tk 3 rfl)) (by decide) (by decide)) (g := (mkF m 17 (lt3 p0 p1 p2 p3 p4 (3 : Int32) b175) [(.int p1), (.int (0 : Int32)), (.int p4)])) rfl (by rw [hml]; rfl) (argsL := [(.int p4), (.int (0 : Int32)), (.int p1)]) (rest := []) (lenOf pd_0 rfl) rfl (by show 2 * 0 + _ ≤ _; exact Nat.le_of_eq rfl) (hb hby at_17) (fun _ _ => ⟨rfl, e175, (by decide : 1 + 0 ≤ _), (by decide : 3 + 0 ≤ _)⟩)
  dsimp only [Pt.U, Pt.locs, Pt.cells, Pt.slots] at X176 l176 y176 z176 st176 hQ176
  subst l176 y176 z176
  obtain ⟨rv176, N176q, e176⟩ := hQ176
  subst rv176
  have N176 := Fr.app N0 N176q
  obtain ⟨_, _, ⟨T177, L177, k177, n177⟩, -, X177, ⟨Lc177, hQ177, l177, y177, z177⟩, st177⟩ := Jvm.LawKit.callS X176 hx (y := Y4) hown (mvT hZ (hw _ (tk 1 rfl))) (mvT hZ (hw _ (tk 2 rfl))) (mvT hZ (hw _ (tk 3 rfl))) (mvT hZ (hw _ (tk 4 rfl))) (by decide) (backOf (W := 0) (rm1 l Z a0 hw hv [] w_1 w_2 w_4 w_5 hS0 p4 (1 : Int32) p2 h175 n0 O175) hZ (hw _ (tk 4 rfl)) (hw _ (tk 3 rfl)) (by decide) (by decide)) (g := (mkF m 26 (lt5 p0 p1 p2 p3 p4 (3 : Int32) b175 (sp1 p4 (0 : Int32) p1)) [(.int p2), (.int (1 : Int32)), (.int p4)])) rfl (by rw [hml]; rfl) (argsL := [(.int p4), (.int (1 : Int32)), (.int p2)]) (rest := []) (lenOf pd_0 rfl) rfl (by show 2 * 0 + _ ≤ _; exact Nat.le_of_eq rfl) (hb hby at_26) (fun _ _ => ⟨rfl, e176, (by decide : 1 + 0 ≤ _), (by decide : 3 + 0 ≤ _)⟩)
  dsimp only [Pt.U, Pt.locs, Pt.cells, Pt.slots] at X177 l177 y177 z177 st177 hQ177
  subst l177 y177 z177
  obtain ⟨rv177, N177q, e177⟩ := hQ177
  subst rv177
  have N177 := Fr.app N176 N177q
  obtain ⟨_, _, ⟨T178, L178, k178, n178⟩, -, X178, ⟨Lc178, hQ178, l178, y178, z178⟩, st178⟩ := Jvm.LawKit.callS X177 hx (y := Y4) hown (mvT hZ (hw _ (tk 1 rfl))) (mvT hZ (hw _ (tk 2 rfl))) (mvT hZ (hw _ (tk 3 rfl))) (mvT hZ (hw _ (tk 4 rfl))) (by decide) (backOf (W := 0) (rm1 l Z a0 hw hv [] w_1 w_2 w_4 w_5 hS0 p4 (2 : Int32) p3 h175 n0 O175) hZ (hw _ (tk 4 rfl)) (hw _ (tk 3 rfl)) (by decide) (by decide)) (g := (mkF m 35 (lt6 p0 p1 p2 p3 p4 (3 : Int32) b175 (sp1 p4 (0 : Int32) p1) (sp1 p4 (1 : Int32) p2)) [(.int p3), (.int (2 : Int32)), (.int p4)])) rfl (by rw [hml]; rfl) (argsL := [(.int p4), (.int (2 : Int32)), (.int p3)]) (rest := []) (lenOf pd_0 rfl) rfl (by show 2 * 0 + _ ≤ _; exact Nat.le_of_eq rfl) (hb hby at_35) (fun _ _ => ⟨rfl, e177, (by decide : 1 + 0 ≤ _), (by decide : 3 + 0 ≤ _)⟩)
  dsimp only [Pt.U, Pt.locs, Pt.cells, Pt.slots] at X178 l178 y178 z178 st178 hQ178
  subst l178 y178 z178
  obtain ⟨rv178, N178q, e178⟩ := hQ178
  subst rv178
  have N178 := Fr.app N177 N178q
  obtain ⟨cl179, Ar179, qa179, Sa179, Ma179, Ha179, Ga179⟩ := id V_b175
  have hin179 : ¬ ((0 : Int32) < 0 ∨ cl179.slots.size ≤ ((0 : Int32)).toNatClampNeg) := by exact inb_of Sa179 ⟨by decide, by decide⟩
  obtain ⟨T180, h180, X180, e180, W180, st180⟩ := stB X178 hx hZ e178 Ar179 (j := (0 : Int32)) hin179 (g := (mkF m 51 (lt7 p0 p1 p2 p3 p4 (3 : Int32) b175 (sp1 p4 (0 : Int32) p1) (sp1 p4 (1 : Int32) p2) (sp1 p4 (2 : Int32) p3)) [(.int (sp1 p4 (0 : Int32) p1)), (.int (0 : Int32)), (.ref b175)])) rfl rfl (hb hby at_51)
  have V_b175_180 : Arv Z h180 b175 k175 .byte (3 : Int32) [(.int (nar .byte (sp1 p4 (0 : Int32) p1))), (.int (0 : Int32)), (.int (0 : Int32))] (.int (0 : Int32)) := Arv.set Ar179 qa179 Sa179 Ma179 Ha179 Ga179 (fits_nar_byte _) W180 0 rfl (Nat.le_of_ble_eq_true rfl)
  have O180 : Old Z n0 h180 := O175.wr W180 g_b175
  have N180 := Fr.snoc X180 N178 g_b175
  obtain ⟨cl181, Ar181, qa181, Sa181, Ma181, Ha181, Ga181⟩ := id V_b175_180
  have hin181 : ¬ ((1 : Int32) < 0 ∨ cl181.slots.size ≤ ((1 : Int32)).toNatClampNeg) := by exact inb_of Sa181 ⟨by decide, by decide⟩
  obtain ⟨T182, h182, X182, e182, W182, st182⟩ := stB X180 hx hZ e180 Ar181 (j := (1 : Int32)) hin181 (g := (mkF m 63 (lt7 p0 p1 p2 p3 p4 (3 : Int32) b175 (sp1 p4 (0 : Int32) p1) (sp1 p4 (1 : Int32) p2) (sp1 p4 (2 : Int32) p3)) [(.int (sp1 p4 (1 : Int32) p2)), (.int (1 : Int32)), (.ref b175)])) rfl rfl (hb hby at_63)
  have V_b175_182 : Arv Z h182 b175 k175 .byte (3 : Int32) [(.int (nar .byte (sp1 p4 (0 : Int32) p1))), (.int (nar .byte (sp1 p4 (1 : Int32) p2))), (.int (0 : Int32))] (.int (0 : Int32)) := Arv.set Ar181 qa181 Sa181 Ma181 Ha181 Ga181 (fits_nar_byte _) W182 1 rfl (Nat.le_of_ble_eq_true rfl)
  have O182 : Old Z n0 h182 := O180.wr W182 g_b175
  have N182 := Fr.snoc X182 N180 g_b175
  obtain ⟨cl183, Ar183, qa183, Sa183, Ma183, Ha183, Ga183⟩ := id V_b175_182
  have hin183 : ¬ (((3 : Int32) - (1 : Int32)) < 0 ∨ cl183.slots.size ≤ (((3 : Int32) - (1 : Int32))).toNatClampNeg) := by exact inb_of Sa183 ⟨by decide, by decide⟩
  obtain ⟨T184, h184, X184, e184, W184, st184⟩ := stB X182 hx hZ e182 Ar183 (j := ((3 : Int32) - (1 : Int32))) hin183 (g := (mkF m 84 (lt7 p0 p1 p2 p3 p4 (3 : Int32) b175 (sp1 p4 (0 : Int32) p1) (sp1 p4 (1 : Int32) p2) (sp1 p4 (2 : Int32) p3)) [(.int (10 : Int32)), (.int ((3 : Int32) - (1 : Int32))), (.ref b175)])) rfl rfl (hb hby at_84)
  have V_b175_184 : Arv Z h184 b175 k175 .byte (3 : Int32) [(.int (nar .byte (sp1 p4 (0 : Int32) p1))), (.int (nar .byte (sp1 p4 (1 : Int32) p2))), (.int (nar .byte (10 : Int32)))] (.int (0 : Int32)) := Arv.set Ar183 qa183 Sa183 Ma183 Ha183 Ga183 (fits_nar_byte _) W184 2 rfl (Nat.le_of_ble_eq_true rfl)
  have O184 : Old Z n0 h184 := O182.wr W184 g_b175
  have N184 := Fr.snoc X184 N182 g_b175
  obtain ⟨cl185, Ar185, qa185, Sa185, Ma185, Ha185, Ga185⟩ := id V_b175_184
  have hin185 : ¬ (((3 : Int32) - (2 : Int32)) < 0 ∨ cl185.slots.size ≤ (((3 : Int32) - (2 : Int32))).toNatClampNeg) := by  exact inb_of Sa185 ⟨by decide, by decide⟩
  have hat185 : cl185.slots[(((3 : Int32) - (2 : Int32))).toNatClampNeg]? = some (.int (nar .byte (sp1 p4 (1 : Int32) p2))) := Has.at Ha185 hin185 (by rfl)
  have pre186 : Cm p e below E0 (T184.setTop (mkF m 105 (lt8 p0 p1 p2 p3 p4 (3 : Int32) b175 (sp1 p4 (0 : Int32) p1) (sp1 p4 (1 : Int32) p2) (sp1 p4 (2 : Int32) p3) ((3 : Int32) - (1 : Int32))) [(.int (13 : Int32)), (.int (nar .byte (sp1 p4 (1 : Int32) p2)))])) := fun t kt => by
    refine pre174 t ?_
    show Sp p e below s₁ (mkF m 5 (lt1 p0 p1 p2 p3 p4) [(.int (3 : Int32))]) _
    refine XS.istore X0.here hx rfl (hb hby at_5) rfl (l' := (lt2 p0 p1 p2 p3 p4 (3 : Int32))) rfl ?_
    refine XS.iload X0.here hx rfl (hb hby at_7) rfl ?_
    show Sp p e below s₁ (mkF m 9 (lt2 p0 p1 p2 p3 p4 (3 : Int32)) [(.int (3 : Int32))]) _
    refine st175 _ ?_
    show Sp p e below T175 (mkF m 11 (lt2 p0 p1 p2 p3 p4 (3 : Int32)) [(.ref b175)]) _
    refine XS.astore X175.here hx rfl (hb hby at_11) rfl rfl (l' := (lt3 p0 p1 p2 p3 p4 (3 : Int32) b175)) rfl ?_
    refine XS.iload X175.here hx rfl (hb hby at_13) rfl ?_
    show Sp p e below T175 (mkF m 15 (lt3 p0 p1 p2 p3 p4 (3 : Int32) b175) [(.int p4)]) _
    refine XS.iconst X175.here hx rfl (hb hby at_15) ?_
    refine XS.iloadN X175.here hx rfl (hb hby at_16) rfl ?_
    show Sp p e below T175 (mkF m 17 (lt3 p0 p1 p2 p3 p4 (3 : Int32) b175) [(.int p1), (.int (0 : Int32)), (.int p4)]) _
    refine st176 _ ?_
    show Sp p e below T176 (mkF m 20 (lt3 p0 p1 p2 p3 p4 (3 : Int32) b175) [(.int (sp1 p4 (0 : Int32) p1))]) _
    refine XS.istore X176.here hx rfl (hb hby at_20) rfl (l' := (lt5 p0 p1 p2 p3 p4 (3 : Int32) b175 (sp1 p4 (0 : Int32) p1))) rfl ?_
    refine XS.iload X176.here hx rfl (hb hby at_22) rfl ?_
    show Sp p e below T176 (mkF m 24 (lt5 p0 p1 p2 p3 p4 (3 : Int32) b175 (sp1 p4 (0 : Int32) p1)) [(.int p4)]) _
    refine XS.iconst X176.here hx rfl (hb hby at_24) ?_
    refine XS.iloadN X176.here hx rfl (hb hby at_25) rfl ?_
    show Sp p e below T176 (mkF m 26 (lt5 p0 p1 p2 p3 p4 (3 : Int32) b175 (sp1 p4 (0 : Int32) p1)) [(.int p2), (.int (1 : Int32)), (.int p4)]) _
    refine st177 _ ?_
    show Sp p e below T177 (mkF m 29 (lt5 p0 p1 p2 p3 p4 (3 : Int32) b175 (sp1 p4 (0 : Int32) p1)) [(.int (sp1 p4 (1 : Int32) p2))]) _
    refine XS.istore X177.here hx rfl (hb hby at_29) rfl (l' := (lt6 p0 p1 p2 p3 p4 (3 : Int32) b175 (sp1 p4 (0 : Int32) p1) (sp1 p4 (1 : Int32) p2))) rfl ?_
    refine XS.iload X177.here hx rfl (hb hby at_31) rfl ?_
    show Sp p e below T177 (mkF m 33 (lt6 p0 p1 p2 p3 p4 (3 : Int32) b175 (sp1 p4 (0 : Int32) p1) (sp1 p4 (1 : Int32) p2)) [(.int p4)]) _
    refine XS.iconst X177.here hx rfl (hb hby at_33) ?_
    refine XS.iloadN X177.here hx rfl (hb hby at_34) rfl ?_
    show Sp p e below T177 (mkF m 35 (lt6 p0 p1 p2 p3 p4 (3 : Int32) b175 (sp1 p4 (0 : Int32) p1) (sp1 p4 (1 : Int32) p2)) [(.int p3), (.int (2 : Int32)), (.int p4)]) _
    refine st178 _ ?_
    show Sp p e below T178 (mkF m 38 (lt6 p0 p1 p2 p3 p4 (3 : Int32) b175 (sp1 p4 (0 : Int32) p1) (sp1 p4 (1 : Int32) p2)) [(.int (sp1 p4 (2 : Int32) p3))]) _
    refine XS.istore X178.here hx rfl (hb hby at_38) rfl (l' := (lt7 p0 p1 p2 p3 p4 (3 : Int32) b175 (sp1 p4 (0 : Int32) p1) (sp1 p4 (1 : Int32) p2) (sp1 p4 (2 : Int32) p3))) rfl ?_
    refine XS.iload X178.here hx rfl (hb hby at_40) rfl ?_
    show Sp p e below T178 (mkF m 42 (lt7 p0 p1 p2 p3 p4 (3 : Int32) b175 (sp1 p4 (0 : Int32) p1) (sp1 p4 (1 : Int32) p2) (sp1 p4 (2 : Int32) p3)) [(.int (3 : Int32))]) _
    refine XS.iconst X178.here hx rfl (hb hby at_42) ?_
    show Sp p e below T178 (mkF m 43 (lt7 p0 p1 p2 p3 p4 (3 : Int32) b175 (sp1 p4 (0 : Int32) p1) (sp1 p4 (1 : Int32) p2) (sp1 p4 (2 : Int32) p3)) [(.int (2 : Int32)), (.int (3 : Int32))]) _
    refine XS.icmpNo X178.here hx rfl (hb hby at_43) rfl (flt (by decide : ¬ ((3 : Int32) < (2 : Int32)))).1 ?_
    show Sp p e below T178 (mkF m 46 (lt7 p0 p1 p2 p3 p4 (3 : Int32) b175 (sp1 p4 (0 : Int32) p1) (sp1 p4 (1 : Int32) p2) (sp1 p4 (2 : Int32) p3)) []) _
    refine XS.aload X178.here hx rfl (hb hby at_46) rfl rfl ?_
    refine XS.iconst X178.here hx rfl (hb hby at_48) ?_
    show Sp p e below T178 (mkF m 49 (lt7 p0 p1 p2 p3 p4 (3 : Int32) b175 (sp1 p4 (0 : Int32) p1) (sp1 p4 (1 : Int32) p2) (sp1 p4 (2 : Int32) p3)) [(.int (0 : Int32)), (.ref b175)]) _
    refine XS.iload X178.here hx rfl (hb hby at_49) rfl ?_
    show Sp p e below T178 (mkF m 51 (lt7 p0 p1 p2 p3 p4 (3 : Int32) b175 (sp1 p4 (0 : Int32) p1) (sp1 p4 (1 : Int32) p2) (sp1 p4 (2 : Int32) p3)) [(.int (sp1 p4 (0 : Int32) p1)), (.int (0 : Int32)), (.ref b175)]) _
    refine st180 _ ?_
    show Sp p e below T180 (mkF m 52 (lt7 p0 p1 p2 p3 p4 (3 : Int32) b175 (sp1 p4 (0 : Int32) p1) (sp1 p4 (1 : Int32) p2) (sp1 p4 (2 : Int32) p3)) []) _
    refine XS.iload X180.here hx rfl (hb hby at_52) rfl ?_
    refine XS.iconst X180.here hx rfl (hb hby at_54) ?_
    show Sp p e below T180 (mkF m 55 (lt7 p0 p1 p2 p3 p4 (3 : Int32) b175 (sp1 p4 (0 : Int32) p1) (sp1 p4 (1 : Int32) p2) (sp1 p4 (2 : Int32) p3)) [(.int (3 : Int32)), (.int (3 : Int32))]) _
    refine XS.icmpNo X180.here hx rfl (hb hby at_55) rfl (flt (by decide : ¬ ((3 : Int32) < (3 : Int32)))).1 ?_
    show Sp p e below T180 (mkF m 58 (lt7 p0 p1 p2 p3 p4 (3 : Int32) b175 (sp1 p4 (0 : Int32) p1) (sp1 p4 (1 : Int32) p2) (sp1 p4 (2 : Int32) p3)) []) _
    refine XS.aload X180.here hx rfl (hb hby at_58) rfl rfl ?_
    refine XS.iconst X180.here hx rfl (hb hby at_60) ?_
    show Sp p e below T180 (mkF m 61 (lt7 p0 p1 p2 p3 p4 (3 : Int32) b175 (sp1 p4 (0 : Int32) p1) (sp1 p4 (1 : Int32) p2) (sp1 p4 (2 : Int32) p3)) [(.int (1 : Int32)), (.ref b175)]) _
    refine XS.iload X180.here hx rfl (hb hby at_61) rfl ?_
    show Sp p e below T180 (mkF m 63 (lt7 p0 p1 p2 p3 p4 (3 : Int32) b175 (sp1 p4 (0 : Int32) p1) (sp1 p4 (1 : Int32) p2) (sp1 p4 (2 : Int32) p3)) [(.int (sp1 p4 (1 : Int32) p2)), (.int (1 : Int32)), (.ref b175)]) _
    refine st182 _ ?_
    show Sp p e below T182 (mkF m 64 (lt7 p0 p1 p2 p3 p4 (3 : Int32) b175 (sp1 p4 (0 : Int32) p1) (sp1 p4 (1 : Int32) p2) (sp1 p4 (2 : Int32) p3)) []) _
    refine XS.iload X182.here hx rfl (hb hby at_64) rfl ?_
    refine XS.iconst X182.here hx rfl (hb hby at_66) ?_
    show Sp p e below T182 (mkF m 67 (lt7 p0 p1 p2 p3 p4 (3 : Int32) b175 (sp1 p4 (0 : Int32) p1) (sp1 p4 (1 : Int32) p2) (sp1 p4 (2 : Int32) p3)) [(.int (4 : Int32)), (.int (3 : Int32))]) _
    refine XS.icmpYes X182.here hx rfl (pc0 := 67) (pc' := 76) rfl (hb hby at_67) rfl (tlt (by decide : ((3 : Int32) < (4 : Int32)))).1 (by decide) (by decide) ?_
    show Sp p e below T182 (mkF m 76 (lt7 p0 p1 p2 p3 p4 (3 : Int32) b175 (sp1 p4 (0 : Int32) p1) (sp1 p4 (1 : Int32) p2) (sp1 p4 (2 : Int32) p3)) []) _
    refine XS.aload X182.here hx rfl (hb hby at_76) rfl rfl ?_
    refine XS.iload X182.here hx rfl (hb hby at_78) rfl ?_
    show Sp p e below T182 (mkF m 80 (lt7 p0 p1 p2 p3 p4 (3 : Int32) b175 (sp1 p4 (0 : Int32) p1) (sp1 p4 (1 : Int32) p2) (sp1 p4 (2 : Int32) p3)) [(.int (3 : Int32)), (.ref b175)]) _
    refine XS.iconst X182.here hx rfl (hb hby at_80) ?_
    refine XS.isub X182.here hx rfl (hb hby at_81) rfl ?_
    show Sp p e below T182 (mkF m 82 (lt7 p0 p1 p2 p3 p4 (3 : Int32) b175 (sp1 p4 (0 : Int32) p1) (sp1 p4 (1 : Int32) p2) (sp1 p4 (2 : Int32) p3)) [(.int ((3 : Int32) - (1 : Int32))), (.ref b175)]) _
    refine XS.bipush X182.here hx rfl (hb hby at_82) ?_
    show Sp p e below T182 (mkF m 84 (lt7 p0 p1 p2 p3 p4 (3 : Int32) b175 (sp1 p4 (0 : Int32) p1) (sp1 p4 (1 : Int32) p2) (sp1 p4 (2 : Int32) p3)) [(.int (10 : Int32)), (.int ((3 : Int32) - (1 : Int32))), (.ref b175)]) _
    refine st184 _ ?_
    show Sp p e below T184 (mkF m 85 (lt7 p0 p1 p2 p3 p4 (3 : Int32) b175 (sp1 p4 (0 : Int32) p1) (sp1 p4 (1 : Int32) p2) (sp1 p4 (2 : Int32) p3)) []) _
    refine XS.iload X184.here hx rfl (hb hby at_85) rfl ?_
    refine XS.iconst X184.here hx rfl (hb hby at_87) ?_
    show Sp p e below T184 (mkF m 88 (lt7 p0 p1 p2 p3 p4 (3 : Int32) b175 (sp1 p4 (0 : Int32) p1) (sp1 p4 (1 : Int32) p2) (sp1 p4 (2 : Int32) p3)) [(.int (1 : Int32)), (.int (3 : Int32))]) _
    refine XS.isub X184.here hx rfl (hb hby at_88) rfl ?_
    refine XS.istore X184.here hx rfl (hb hby at_89) rfl (l' := (lt8 p0 p1 p2 p3 p4 (3 : Int32) b175 (sp1 p4 (0 : Int32) p1) (sp1 p4 (1 : Int32) p2) (sp1 p4 (2 : Int32) p3) ((3 : Int32) - (1 : Int32)))) rfl ?_
    show Sp p e below T184 (mkF m 91 (lt8 p0 p1 p2 p3 p4 (3 : Int32) b175 (sp1 p4 (0 : Int32) p1) (sp1 p4 (1 : Int32) p2) (sp1 p4 (2 : Int32) p3) ((3 : Int32) - (1 : Int32))) []) _
    refine XS.iload X184.here hx rfl (hb hby at_91) rfl ?_
    show Sp p e below T184 (mkF m 93 (lt8 p0 p1 p2 p3 p4 (3 : Int32) b175 (sp1 p4 (0 : Int32) p1) (sp1 p4 (1 : Int32) p2) (sp1 p4 (2 : Int32) p3) ((3 : Int32) - (1 : Int32))) [(.int ((3 : Int32) - (1 : Int32)))]) _
    refine XS.ifNo X184.here hx rfl (hb hby at_93) rfl ((if0 _ _).trans (tlt (by decide : ((0 : Int32) < ((3 : Int32) - (1 : Int32))))).2.2.2) ?_
    show Sp p e below T184 (mkF m 96 (lt8 p0 p1 p2 p3 p4 (3 : Int32) b175 (sp1 p4 (0 : Int32) p1) (sp1 p4 (1 : Int32) p2) (sp1 p4 (2 : Int32) p3) ((3 : Int32) - (1 : Int32))) []) _
    refine XS.aload X184.here hx rfl (hb hby at_96) rfl rfl ?_
    refine XS.iload X184.here hx rfl (hb hby at_98) rfl ?_
    show Sp p e below T184 (mkF m 100 (lt8 p0 p1 p2 p3 p4 (3 : Int32) b175 (sp1 p4 (0 : Int32) p1) (sp1 p4 (1 : Int32) p2) (sp1 p4 (2 : Int32) p3) ((3 : Int32) - (1 : Int32))) [(.int (3 : Int32)), (.ref b175)]) _
    refine XS.iconst X184.here hx rfl (hb hby at_100) ?_
    refine XS.isub X184.here hx rfl (hb hby at_101) rfl ?_
    show Sp p e below T184 (mkF m 102 (lt8 p0 p1 p2 p3 p4 (3 : Int32) b175 (sp1 p4 (0 : Int32) p1) (sp1 p4 (1 : Int32) p2) (sp1 p4 (2 : Int32) p3) ((3 : Int32) - (1 : Int32))) [(.int ((3 : Int32) - (2 : Int32))), (.ref b175)]) _
    refine X184.baloadBytes hx (j := ((3 : Int32) - (2 : Int32))) (v := (.int (nar .byte (sp1 p4 (1 : Int32) p2)))) (by rw [e184]; exact Ar185.1) (State.isArrayOf_alike hZ.alike Ar185.2.1) Ar185.2.2 hin185 hat185 (g := (mkF m 102 (lt8 p0 p1 p2 p3 p4 (3 : Int32) b175 (sp1 p4 (0 : Int32) p1) (sp1 p4 (1 : Int32) p2) (sp1 p4 (2 : Int32) p3) ((3 : Int32) - (1 : Int32))) [(.int ((3 : Int32) - (2 : Int32))), (.ref b175)])) rfl rfl (hb hby at_102) _ ?_
    show Sp p e below T184 (mkF m 103 (lt8 p0 p1 p2 p3 p4 (3 : Int32) b175 (sp1 p4 (0 : Int32) p1) (sp1 p4 (1 : Int32) p2) (sp1 p4 (2 : Int32) p3) ((3 : Int32) - (1 : Int32))) [(.int (nar .byte (sp1 p4 (1 : Int32) p2)))]) _
    refine XS.bipush X184.here hx rfl (hb hby at_103) ?_
    show Sp p e below T184 (mkF m 105 (lt8 p0 p1 p2 p3 p4 (3 : Int32) b175 (sp1 p4 (0 : Int32) p1) (sp1 p4 (1 : Int32) p2) (sp1 p4 (2 : Int32) p3) ((3 : Int32) - (1 : Int32))) [(.int (13 : Int32)), (.int (nar .byte (sp1 p4 (1 : Int32) p2)))]) _
    exact kt
  by_cases hc187 : (nar .byte (sp1 p4 (1 : Int32) p2)) = (13 : Int32)
  · obtain ⟨_, _, ⟨T190, L190, k190, n190⟩, -, X190, ⟨Lc190, hQ190, l190, y190, z190⟩, st190⟩ := Jvm.LawKit.callS X184 hx (y := Y11) hown (mvT hZ (hw _ (tk 5 rfl))) (mvT hZ (hw _ (tk 6 rfl))) (mvT hZ (hw _ (tk 7 rfl))) (mvT hZ (hw _ (tk 8 rfl))) (by decide) (backOf (W := 0) (rm2x3 l Z a0 hw hv [] w_1 w_2 w_4 w_5 hS0 b175 k175 (nar .byte (sp1 p4 (0 : Int32) p1)) (nar .byte (sp1 p4 (1 : Int32) p2)) (nar .byte (10 : Int32)) h184 n0 O184 g_b175 V_b175_184) hZ (hw _ (tk 8 rfl)) (hw _ (tk 7 rfl)) (by decide) (by decide)) (g := (mkF m 128 (lt9 p0 p1 p2 p3 p4 (3 : Int32) b175 (sp1 p4 (0 : Int32) p1) (sp1 p4 (1 : Int32) p2) (sp1 p4 (2 : Int32) p3) (((3 : Int32) - (1 : Int32)) - (1 : Int32)) (0 : Int32)) [(.ref b175)])) rfl (by rw [hml]; rfl) (argsL := [(.ref b175)]) (rest := []) (lenOf pd_1 rfl) rfl (by show 2 * 0 + _ ≤ _; exact Nat.le_of_eq rfl) (hb hby at_128) (fun _ _ => ⟨rfl, e184, (by decide : 1 + 0 ≤ _), (by decide : 3 + 0 ≤ _)⟩)
    dsimp only [Pt.U, Pt.locs, Pt.cells, Pt.slots] at X190 l190 y190 z190 st190 hQ190
    subst l190 y190 z190
    obtain ⟨rv190, N190q, e190⟩ := hQ190
    rw [show sp2x3 = (0 : Int32) from by unfold sp2x3; rfl] at rv190
    subst rv190
    have N190 := Fr.app N184 N190q
    obtain ⟨_, _, ⟨T236, L236, k236, n236⟩, -, X236, ⟨Lc236, hQ236, l236, y236, z236⟩, st236⟩ := Jvm.LawKit.callS X190 hx (y := Y23) hown (mvT hZ (hw _ (tk 9 rfl))) (mvT hZ (hw _ (tk 10 rfl))) (mvT hZ (hw _ (tk 7 rfl))) (mvT hZ (hw _ (tk 11 rfl))) (by decide) (backOf (W := 0) (rm3x4 l Z a0 hw hv [] w_1 w_2 w_4 w_5 hS0 b175 k175 (nar .byte (sp1 p4 (0 : Int32) p1)) (nar .byte (sp1 p4 (1 : Int32) p2)) (nar .byte (10 : Int32)) h184 n0 O184 g_b175 V_b175_184 hc187) hZ (hw _ (tk 11 rfl)) (hw _ (tk 7 rfl)) (by decide) (by decide)) (g := (mkF m 135 (lt11 p0 p1 p2 p3 p4 (3 : Int32) b175 (sp1 p4 (0 : Int32) p1) (sp1 p4 (1 : Int32) p2) (sp1 p4 (2 : Int32) p3) (((3 : Int32) - (1 : Int32)) - (1 : Int32)) (0 : Int32) (0 : Int32)) [(.ref b175)])) rfl (by rw [hml]; rfl) (argsL := [(.ref b175)]) (rest := []) (lenOf pd_7 rfl) rfl (by show 2 * 0 + _ ≤ _; exact Nat.le_of_eq rfl) (hb hby at_135) (fun _ _ => ⟨rfl, e190, (by decide : 1 + 2 ≤ _), (by decide : 3 + 5 ≤ _)⟩)
    dsimp only [Pt.U, Pt.locs, Pt.cells, Pt.slots] at X236 l236 y236 z236 st236 hQ236
    subst l236 y236 z236
    obtain ⟨b237, b238, k239, rv236, N236q, O236, K236c, Fx236_0, Fx236_1, Fx236_2, Fx236_3, Fx236_4, Fx236_5, Fx236_6, Fx236_7, Fx236_8⟩ := hQ236
    subst rv236
    have N236 := Fr.app N190 N236q
    have g_b237 := Fx236_0
    have ne_b175_b237 : b175 ≠ b237 := Nat.ne_of_lt (Nat.lt_of_lt_of_le V_b175_184.lt Fx236_1)
    have g_b238 := Fx236_5
    have ne_b175_b238 : b175 ≠ b238 := Nat.ne_of_lt (Nat.lt_of_lt_of_le V_b175_184.lt Fx236_6)
    obtain ⟨cq242, kq242, q242a, q242b, q242c⟩ := isOf hZ rfl Fx236_2
    obtain ⟨_, _, ⟨T242, L242, k242, n242⟩, -, X242, ⟨Lc242, hQ242, l242, y242, z242⟩, st242⟩ := X236.virtualBack hx (y := Y24) (z := Y24) hown (mvT hZ (hw _ (tk 48 rfl))) (mvT hZ (hw _ (tk 49 rfl))) (notFace_of_selects (args := #[]) (mvT hZ (hw _ (tk 51 rfl)))) (mvT hZ (hw _ (tk 51 rfl))) (mvT hZ (hw _ (tk 50 rfl))) (by decide) (backOf (W := 0) (rm10x3 l Z a0 hw hv [] w_1 w_2 w_4 w_5 hS0 b237 b238 k239 (nar .byte (sp1 p4 (0 : Int32) p1)) T236.heap n0 O236 g_b237 g_b238 Fx236_2 Fx236_3 Fx236_7 Fx236_8) hZ (hw _ (tk 52 rfl)) (hw _ (tk 14 rfl)) (by decide) (by decide)) q242a q242c (g := (mkF m 138 (lt11 p0 p1 p2 p3 p4 (3 : Int32) b175 (sp1 p4 (0 : Int32) p1) (sp1 p4 (1 : Int32) p2) (sp1 p4 (2 : Int32) p3) (((3 : Int32) - (1 : Int32)) - (1 : Int32)) (0 : Int32) (0 : Int32)) [(.ref b237)])) rfl (by rw [hml]; rfl) (Steps.refl _) (argsL := []) (rest := []) (lenOf pd_8 rfl) rfl (by show 2 * 0 + _ ≤ _; exact Nat.le_of_eq rfl) (hb hby at_138) (fun _ _ => ⟨rfl, rfl, (by decide : 3 + 0 ≤ _), (by decide : 8 + 0 ≤ _)⟩)
    dsimp only [Pt.U, Pt.locs, Pt.cells, Pt.slots] at X242 l242 y242 z242 st242 hQ242
    subst l242 y242 z242
    obtain ⟨rv242, N242q, e242⟩ := hQ242
    rw [show sp10x3 = (0 : Int32) from by unfold sp10x3; rfl] at rv242
    subst rv242
    have N242 := Fr.app N236 N242q
    obtain ⟨fs, hr, hrun, hended, hW, hsame⟩ := X242.leave (v := some (.int (1 : Int32))) (fun h => by rw [Bd.returns] at h; cases h)
    refine ⟨_, _, pre186 _ ?_, hrun, hended, _, _, rfl, ?_, ReturnedEndW.of_narrow ⟨_, rfl⟩ hW (hsame.mono (by decide) (by decide))⟩
    · show Sp p e below T184 (mkF m 105 (lt8 p0 p1 p2 p3 p4 (3 : Int32) b175 (sp1 p4 (0 : Int32) p1) (sp1 p4 (1 : Int32) p2) (sp1 p4 (2 : Int32) p3) ((3 : Int32) - (1 : Int32))) [(.int (13 : Int32)), (.int (nar .byte (sp1 p4 (1 : Int32) p2)))]) _
      refine XS.icmpNo X184.here hx rfl (hb hby at_105) rfl (teq hc187).2 ?_
      show Sp p e below T184 (mkF m 108 (lt8 p0 p1 p2 p3 p4 (3 : Int32) b175 (sp1 p4 (0 : Int32) p1) (sp1 p4 (1 : Int32) p2) (sp1 p4 (2 : Int32) p3) ((3 : Int32) - (1 : Int32))) []) _
      refine XS.iload X184.here hx rfl (hb hby at_108) rfl ?_
      refine XS.iconst X184.here hx rfl (hb hby at_110) ?_
      show Sp p e below T184 (mkF m 111 (lt8 p0 p1 p2 p3 p4 (3 : Int32) b175 (sp1 p4 (0 : Int32) p1) (sp1 p4 (1 : Int32) p2) (sp1 p4 (2 : Int32) p3) ((3 : Int32) - (1 : Int32))) [(.int (1 : Int32)), (.int ((3 : Int32) - (1 : Int32)))]) _
      refine XS.isub X184.here hx rfl (hb hby at_111) rfl ?_
      refine XS.istore X184.here hx rfl (hb hby at_112) rfl (l' := (lt8 p0 p1 p2 p3 p4 (3 : Int32) b175 (sp1 p4 (0 : Int32) p1) (sp1 p4 (1 : Int32) p2) (sp1 p4 (2 : Int32) p3) (((3 : Int32) - (1 : Int32)) - (1 : Int32)))) rfl ?_
      show Sp p e below T184 (mkF m 114 (lt8 p0 p1 p2 p3 p4 (3 : Int32) b175 (sp1 p4 (0 : Int32) p1) (sp1 p4 (1 : Int32) p2) (sp1 p4 (2 : Int32) p3) (((3 : Int32) - (1 : Int32)) - (1 : Int32))) []) _
      refine XS.iload X184.here hx rfl (hb hby at_114) rfl ?_
      show Sp p e below T184 (mkF m 116 (lt8 p0 p1 p2 p3 p4 (3 : Int32) b175 (sp1 p4 (0 : Int32) p1) (sp1 p4 (1 : Int32) p2) (sp1 p4 (2 : Int32) p3) (((3 : Int32) - (1 : Int32)) - (1 : Int32))) [(.int (((3 : Int32) - (1 : Int32)) - (1 : Int32)))]) _
      refine XS.ifYes X184.here hx rfl (pc0 := 116) (pc' := 123) rfl (hb hby at_116) rfl ((if0 _ _).trans (feq (by decide : ¬ ((((3 : Int32) - (1 : Int32)) - (1 : Int32)) = (0 : Int32)))).2) (by decide) (by decide) ?_
      show Sp p e below T184 (mkF m 123 (lt8 p0 p1 p2 p3 p4 (3 : Int32) b175 (sp1 p4 (0 : Int32) p1) (sp1 p4 (1 : Int32) p2) (sp1 p4 (2 : Int32) p3) (((3 : Int32) - (1 : Int32)) - (1 : Int32))) []) _
      refine XS.iconst X184.here hx rfl (hb hby at_123) ?_
      refine XS.istore X184.here hx rfl (hb hby at_124) rfl (l' := (lt9 p0 p1 p2 p3 p4 (3 : Int32) b175 (sp1 p4 (0 : Int32) p1) (sp1 p4 (1 : Int32) p2) (sp1 p4 (2 : Int32) p3) (((3 : Int32) - (1 : Int32)) - (1 : Int32)) (0 : Int32))) rfl ?_
      show Sp p e below T184 (mkF m 126 (lt9 p0 p1 p2 p3 p4 (3 : Int32) b175 (sp1 p4 (0 : Int32) p1) (sp1 p4 (1 : Int32) p2) (sp1 p4 (2 : Int32) p3) (((3 : Int32) - (1 : Int32)) - (1 : Int32)) (0 : Int32)) []) _
      refine XS.aload X184.here hx rfl (hb hby at_126) rfl rfl ?_
      show Sp p e below T184 (mkF m 128 (lt9 p0 p1 p2 p3 p4 (3 : Int32) b175 (sp1 p4 (0 : Int32) p1) (sp1 p4 (1 : Int32) p2) (sp1 p4 (2 : Int32) p3) (((3 : Int32) - (1 : Int32)) - (1 : Int32)) (0 : Int32)) [(.ref b175)]) _
      refine st190 _ ?_
      show Sp p e below T190 (mkF m 131 (lt9 p0 p1 p2 p3 p4 (3 : Int32) b175 (sp1 p4 (0 : Int32) p1) (sp1 p4 (1 : Int32) p2) (sp1 p4 (2 : Int32) p3) (((3 : Int32) - (1 : Int32)) - (1 : Int32)) (0 : Int32)) [(.int (0 : Int32))]) _
      refine XS.istore X190.here hx rfl (hb hby at_131) rfl (l' := (lt11 p0 p1 p2 p3 p4 (3 : Int32) b175 (sp1 p4 (0 : Int32) p1) (sp1 p4 (1 : Int32) p2) (sp1 p4 (2 : Int32) p3) (((3 : Int32) - (1 : Int32)) - (1 : Int32)) (0 : Int32) (0 : Int32))) rfl ?_
      refine XS.aload X190.here hx rfl (hb hby at_133) rfl rfl ?_
      show Sp p e below T190 (mkF m 135 (lt11 p0 p1 p2 p3 p4 (3 : Int32) b175 (sp1 p4 (0 : Int32) p1) (sp1 p4 (1 : Int32) p2) (sp1 p4 (2 : Int32) p3) (((3 : Int32) - (1 : Int32)) - (1 : Int32)) (0 : Int32) (0 : Int32)) [(.ref b175)]) _
      refine st236 _ ?_
      show Sp p e below T236 (mkF m 138 (lt11 p0 p1 p2 p3 p4 (3 : Int32) b175 (sp1 p4 (0 : Int32) p1) (sp1 p4 (1 : Int32) p2) (sp1 p4 (2 : Int32) p3) (((3 : Int32) - (1 : Int32)) - (1 : Int32)) (0 : Int32) (0 : Int32)) [(.ref b237)]) _
      refine st242.trans ?_
      show Sp p e below T242 (mkF m 141 (lt11 p0 p1 p2 p3 p4 (3 : Int32) b175 (sp1 p4 (0 : Int32) p1) (sp1 p4 (1 : Int32) p2) (sp1 p4 (2 : Int32) p3) (((3 : Int32) - (1 : Int32)) - (1 : Int32)) (0 : Int32) (0 : Int32)) [(.int (0 : Int32))]) _
      refine XS.istore X242.here hx rfl (hb hby at_141) rfl (l' := (lt17 p0 p1 p2 p3 p4 (3 : Int32) b175 (sp1 p4 (0 : Int32) p1) (sp1 p4 (1 : Int32) p2) (sp1 p4 (2 : Int32) p3) (((3 : Int32) - (1 : Int32)) - (1 : Int32)) (0 : Int32) (0 : Int32) (0 : Int32))) rfl ?_
      refine XS.iload X242.here hx rfl (hb hby at_143) rfl ?_
      show Sp p e below T242 (mkF m 145 (lt17 p0 p1 p2 p3 p4 (3 : Int32) b175 (sp1 p4 (0 : Int32) p1) (sp1 p4 (1 : Int32) p2) (sp1 p4 (2 : Int32) p3) (((3 : Int32) - (1 : Int32)) - (1 : Int32)) (0 : Int32) (0 : Int32) (0 : Int32)) [(.int (0 : Int32))]) _
      refine XS.iload X242.here hx rfl (hb hby at_145) rfl ?_
      show Sp p e below T242 (mkF m 147 (lt17 p0 p1 p2 p3 p4 (3 : Int32) b175 (sp1 p4 (0 : Int32) p1) (sp1 p4 (1 : Int32) p2) (sp1 p4 (2 : Int32) p3) (((3 : Int32) - (1 : Int32)) - (1 : Int32)) (0 : Int32) (0 : Int32) (0 : Int32)) [(.int (0 : Int32)), (.int (0 : Int32))]) _
      refine XS.icmpNo X242.here hx rfl (hb hby at_147) rfl (teq (by decide : ((0 : Int32) = (0 : Int32)))).2 ?_
      show Sp p e below T242 (mkF m 150 (lt17 p0 p1 p2 p3 p4 (3 : Int32) b175 (sp1 p4 (0 : Int32) p1) (sp1 p4 (1 : Int32) p2) (sp1 p4 (2 : Int32) p3) (((3 : Int32) - (1 : Int32)) - (1 : Int32)) (0 : Int32) (0 : Int32) (0 : Int32)) []) _
      refine XS.iload X242.here hx rfl (hb hby at_150) rfl ?_
      refine XS.iload X242.here hx rfl (hb hby at_152) rfl ?_
      show Sp p e below T242 (mkF m 154 (lt17 p0 p1 p2 p3 p4 (3 : Int32) b175 (sp1 p4 (0 : Int32) p1) (sp1 p4 (1 : Int32) p2) (sp1 p4 (2 : Int32) p3) (((3 : Int32) - (1 : Int32)) - (1 : Int32)) (0 : Int32) (0 : Int32) (0 : Int32)) [(.int (0 : Int32)), (.int (0 : Int32))]) _
      refine XS.icmpNo X242.here hx rfl (hb hby at_154) rfl (teq (by decide : ((0 : Int32) = (0 : Int32)))).2 ?_
      show Sp p e below T242 (mkF m 157 (lt17 p0 p1 p2 p3 p4 (3 : Int32) b175 (sp1 p4 (0 : Int32) p1) (sp1 p4 (1 : Int32) p2) (sp1 p4 (2 : Int32) p3) (((3 : Int32) - (1 : Int32)) - (1 : Int32)) (0 : Int32) (0 : Int32) (0 : Int32)) []) _
      refine XS.iconst X242.here hx rfl (hb hby at_157) ?_
      show Sp p e below T242 (mkF m 158 (lt17 p0 p1 p2 p3 p4 (3 : Int32) b175 (sp1 p4 (0 : Int32) p1) (sp1 p4 (1 : Int32) p2) (sp1 p4 (2 : Int32) p3) (((3 : Int32) - (1 : Int32)) - (1 : Int32)) (0 : Int32) (0 : Int32) (0 : Int32)) [(.int (1 : Int32))]) _
      refine XS.goto X242.here hx rfl (pc0 := 158) (pc' := 162) rfl (hb hby at_158) (by decide) (by decide) ?_
      show Sp p e below T242 (mkF m 162 (lt17 p0 p1 p2 p3 p4 (3 : Int32) b175 (sp1 p4 (0 : Int32) p1) (sp1 p4 (1 : Int32) p2) (sp1 p4 (2 : Int32) p3) (((3 : Int32) - (1 : Int32)) - (1 : Int32)) (0 : Int32) (0 : Int32) (0 : Int32)) [(.int (1 : Int32))]) _
      exact retN X242 hx (t := .boolean) Bd.returns (by simp) (hb hby at_162) hr
    · show Q0 Z w_1 w_2 w_4 w_5 p0 p1 p2 p3 p4 h0 n0 _ T242.heap _
      rw [e242]
      exact ⟨by unfold sp0; rw [if_neg hc1, if_neg hc55, if_pos hc172, if_pos hc187], N242, trivial⟩
  · obtain ⟨_, _, ⟨T243, L243, k243, n243⟩, -, X243, ⟨Lc243, hQ243, l243, y243, z243⟩, st243⟩ := Jvm.LawKit.callS X184 hx (y := Y11) hown (mvT hZ (hw _ (tk 5 rfl))) (mvT hZ (hw _ (tk 6 rfl))) (mvT hZ (hw _ (tk 7 rfl))) (mvT hZ (hw _ (tk 8 rfl))) (by decide) (backOf (W := 0) (rm2x3 l Z a0 hw hv [] w_1 w_2 w_4 w_5 hS0 b175 k175 (nar .byte (sp1 p4 (0 : Int32) p1)) (nar .byte (sp1 p4 (1 : Int32) p2)) (nar .byte (10 : Int32)) h184 n0 O184 g_b175 V_b175_184) hZ (hw _ (tk 8 rfl)) (hw _ (tk 7 rfl)) (by decide) (by decide)) (g := (mkF m 128 (lt9 p0 p1 p2 p3 p4 (3 : Int32) b175 (sp1 p4 (0 : Int32) p1) (sp1 p4 (1 : Int32) p2) (sp1 p4 (2 : Int32) p3) ((3 : Int32) - (1 : Int32)) (0 : Int32)) [(.ref b175)])) rfl (by rw [hml]; rfl) (argsL := [(.ref b175)]) (rest := []) (lenOf pd_1 rfl) rfl (by show 2 * 0 + _ ≤ _; exact Nat.le_of_eq rfl) (hb hby at_128) (fun _ _ => ⟨rfl, e184, (by decide : 1 + 0 ≤ _), (by decide : 3 + 0 ≤ _)⟩)
    dsimp only [Pt.U, Pt.locs, Pt.cells, Pt.slots] at X243 l243 y243 z243 st243 hQ243
    subst l243 y243 z243
    obtain ⟨rv243, N243q, e243⟩ := hQ243
    rw [show sp2x3 = (0 : Int32) from by unfold sp2x3; rfl] at rv243
    subst rv243
    have N243 := Fr.app N184 N243q
    obtain ⟨_, _, ⟨T289, L289, k289, n289⟩, -, X289, ⟨Lc289, hQ289, l289, y289, z289⟩, st289⟩ := Jvm.LawKit.callS X243 hx (y := Y23) hown (mvT hZ (hw _ (tk 9 rfl))) (mvT hZ (hw _ (tk 10 rfl))) (mvT hZ (hw _ (tk 7 rfl))) (mvT hZ (hw _ (tk 11 rfl))) (by decide) (backOf (W := 0) (rm3x5 l Z a0 hw hv [] w_1 w_2 w_4 w_5 hS0 b175 k175 (nar .byte (sp1 p4 (0 : Int32) p1)) (nar .byte (sp1 p4 (1 : Int32) p2)) (nar .byte (10 : Int32)) h184 n0 O184 g_b175 V_b175_184 hc187) hZ (hw _ (tk 11 rfl)) (hw _ (tk 7 rfl)) (by decide) (by decide)) (g := (mkF m 135 (lt11 p0 p1 p2 p3 p4 (3 : Int32) b175 (sp1 p4 (0 : Int32) p1) (sp1 p4 (1 : Int32) p2) (sp1 p4 (2 : Int32) p3) ((3 : Int32) - (1 : Int32)) (0 : Int32) (0 : Int32)) [(.ref b175)])) rfl (by rw [hml]; rfl) (argsL := [(.ref b175)]) (rest := []) (lenOf pd_7 rfl) rfl (by show 2 * 0 + _ ≤ _; exact Nat.le_of_eq rfl) (hb hby at_135) (fun _ _ => ⟨rfl, e243, (by decide : 1 + 2 ≤ _), (by decide : 3 + 6 ≤ _)⟩)
    dsimp only [Pt.U, Pt.locs, Pt.cells, Pt.slots] at X289 l289 y289 z289 st289 hQ289
    subst l289 y289 z289
    obtain ⟨b290, b291, k292, rv289, N289q, O289, K289c, Fx289_0, Fx289_1, Fx289_2, Fx289_3, Fx289_4, Fx289_5, Fx289_6, Fx289_7, Fx289_8⟩ := hQ289
    subst rv289
    have N289 := Fr.app N243 N289q
    have g_b290 := Fx289_0
    have ne_b175_b290 : b175 ≠ b290 := Nat.ne_of_lt (Nat.lt_of_lt_of_le V_b175_184.lt Fx289_1)
    have g_b291 := Fx289_5
    have ne_b175_b291 : b175 ≠ b291 := Nat.ne_of_lt (Nat.lt_of_lt_of_le V_b175_184.lt Fx289_6)
    obtain ⟨cq295, kq295, q295a, q295b, q295c⟩ := isOf hZ rfl Fx289_2
    obtain ⟨_, _, ⟨T295, L295, k295, n295⟩, -, X295, ⟨Lc295, hQ295, l295, y295, z295⟩, st295⟩ := X289.virtualBack hx (y := Y24) (z := Y24) hown (mvT hZ (hw _ (tk 48 rfl))) (mvT hZ (hw _ (tk 49 rfl))) (notFace_of_selects (args := #[]) (mvT hZ (hw _ (tk 51 rfl)))) (mvT hZ (hw _ (tk 51 rfl))) (mvT hZ (hw _ (tk 50 rfl))) (by decide) (backOf (W := 0) (rm10x4 l Z a0 hw hv [] w_1 w_2 w_4 w_5 hS0 b290 b291 k292 (nar .byte (sp1 p4 (0 : Int32) p1)) (nar .byte (sp1 p4 (1 : Int32) p2)) T289.heap n0 O289 g_b290 g_b291 Fx289_2 Fx289_3 Fx289_7 Fx289_8) hZ (hw _ (tk 52 rfl)) (hw _ (tk 14 rfl)) (by decide) (by decide)) q295a q295c (g := (mkF m 138 (lt11 p0 p1 p2 p3 p4 (3 : Int32) b175 (sp1 p4 (0 : Int32) p1) (sp1 p4 (1 : Int32) p2) (sp1 p4 (2 : Int32) p3) ((3 : Int32) - (1 : Int32)) (0 : Int32) (0 : Int32)) [(.ref b290)])) rfl (by rw [hml]; rfl) (Steps.refl _) (argsL := []) (rest := []) (lenOf pd_8 rfl) rfl (by show 2 * 0 + _ ≤ _; exact Nat.le_of_eq rfl) (hb hby at_138) (fun _ _ => ⟨rfl, rfl, (by decide : 3 + 0 ≤ _), (by decide : 9 + 0 ≤ _)⟩)
    dsimp only [Pt.U, Pt.locs, Pt.cells, Pt.slots] at X295 l295 y295 z295 st295 hQ295
    subst l295 y295 z295
    obtain ⟨rv295, N295q, e295⟩ := hQ295
    rw [show sp10x4 = (0 : Int32) from by unfold sp10x4; rfl] at rv295
    subst rv295
    have N295 := Fr.app N289 N295q
    obtain ⟨fs, hr, hrun, hended, hW, hsame⟩ := X295.leave (v := some (.int (1 : Int32))) (fun h => by rw [Bd.returns] at h; cases h)
    refine ⟨_, _, pre186 _ ?_, hrun, hended, _, _, rfl, ?_, ReturnedEndW.of_narrow ⟨_, rfl⟩ hW (hsame.mono (by decide) (by decide))⟩
    · show Sp p e below T184 (mkF m 105 (lt8 p0 p1 p2 p3 p4 (3 : Int32) b175 (sp1 p4 (0 : Int32) p1) (sp1 p4 (1 : Int32) p2) (sp1 p4 (2 : Int32) p3) ((3 : Int32) - (1 : Int32))) [(.int (13 : Int32)), (.int (nar .byte (sp1 p4 (1 : Int32) p2)))]) _
      refine XS.icmpYes X184.here hx rfl (pc0 := 105) (pc' := 114) rfl (hb hby at_105) rfl (feq hc187).2 (by decide) (by decide) ?_
      show Sp p e below T184 (mkF m 114 (lt8 p0 p1 p2 p3 p4 (3 : Int32) b175 (sp1 p4 (0 : Int32) p1) (sp1 p4 (1 : Int32) p2) (sp1 p4 (2 : Int32) p3) ((3 : Int32) - (1 : Int32))) []) _
      refine XS.iload X184.here hx rfl (hb hby at_114) rfl ?_
      show Sp p e below T184 (mkF m 116 (lt8 p0 p1 p2 p3 p4 (3 : Int32) b175 (sp1 p4 (0 : Int32) p1) (sp1 p4 (1 : Int32) p2) (sp1 p4 (2 : Int32) p3) ((3 : Int32) - (1 : Int32))) [(.int ((3 : Int32) - (1 : Int32)))]) _
      refine XS.ifYes X184.here hx rfl (pc0 := 116) (pc' := 123) rfl (hb hby at_116) rfl ((if0 _ _).trans (feq (by decide : ¬ (((3 : Int32) - (1 : Int32)) = (0 : Int32)))).2) (by decide) (by decide) ?_
      show Sp p e below T184 (mkF m 123 (lt8 p0 p1 p2 p3 p4 (3 : Int32) b175 (sp1 p4 (0 : Int32) p1) (sp1 p4 (1 : Int32) p2) (sp1 p4 (2 : Int32) p3) ((3 : Int32) - (1 : Int32))) []) _
      refine XS.iconst X184.here hx rfl (hb hby at_123) ?_
      refine XS.istore X184.here hx rfl (hb hby at_124) rfl (l' := (lt9 p0 p1 p2 p3 p4 (3 : Int32) b175 (sp1 p4 (0 : Int32) p1) (sp1 p4 (1 : Int32) p2) (sp1 p4 (2 : Int32) p3) ((3 : Int32) - (1 : Int32)) (0 : Int32))) rfl ?_
      show Sp p e below T184 (mkF m 126 (lt9 p0 p1 p2 p3 p4 (3 : Int32) b175 (sp1 p4 (0 : Int32) p1) (sp1 p4 (1 : Int32) p2) (sp1 p4 (2 : Int32) p3) ((3 : Int32) - (1 : Int32)) (0 : Int32)) []) _
      refine XS.aload X184.here hx rfl (hb hby at_126) rfl rfl ?_
      show Sp p e below T184 (mkF m 128 (lt9 p0 p1 p2 p3 p4 (3 : Int32) b175 (sp1 p4 (0 : Int32) p1) (sp1 p4 (1 : Int32) p2) (sp1 p4 (2 : Int32) p3) ((3 : Int32) - (1 : Int32)) (0 : Int32)) [(.ref b175)]) _
      refine st243 _ ?_
      show Sp p e below T243 (mkF m 131 (lt9 p0 p1 p2 p3 p4 (3 : Int32) b175 (sp1 p4 (0 : Int32) p1) (sp1 p4 (1 : Int32) p2) (sp1 p4 (2 : Int32) p3) ((3 : Int32) - (1 : Int32)) (0 : Int32)) [(.int (0 : Int32))]) _
      refine XS.istore X243.here hx rfl (hb hby at_131) rfl (l' := (lt11 p0 p1 p2 p3 p4 (3 : Int32) b175 (sp1 p4 (0 : Int32) p1) (sp1 p4 (1 : Int32) p2) (sp1 p4 (2 : Int32) p3) ((3 : Int32) - (1 : Int32)) (0 : Int32) (0 : Int32))) rfl ?_
      refine XS.aload X243.here hx rfl (hb hby at_133) rfl rfl ?_
      show Sp p e below T243 (mkF m 135 (lt11 p0 p1 p2 p3 p4 (3 : Int32) b175 (sp1 p4 (0 : Int32) p1) (sp1 p4 (1 : Int32) p2) (sp1 p4 (2 : Int32) p3) ((3 : Int32) - (1 : Int32)) (0 : Int32) (0 : Int32)) [(.ref b175)]) _
      refine st289 _ ?_
      show Sp p e below T289 (mkF m 138 (lt11 p0 p1 p2 p3 p4 (3 : Int32) b175 (sp1 p4 (0 : Int32) p1) (sp1 p4 (1 : Int32) p2) (sp1 p4 (2 : Int32) p3) ((3 : Int32) - (1 : Int32)) (0 : Int32) (0 : Int32)) [(.ref b290)]) _
      refine st295.trans ?_
      show Sp p e below T295 (mkF m 141 (lt11 p0 p1 p2 p3 p4 (3 : Int32) b175 (sp1 p4 (0 : Int32) p1) (sp1 p4 (1 : Int32) p2) (sp1 p4 (2 : Int32) p3) ((3 : Int32) - (1 : Int32)) (0 : Int32) (0 : Int32)) [(.int (0 : Int32))]) _
      refine XS.istore X295.here hx rfl (hb hby at_141) rfl (l' := (lt17 p0 p1 p2 p3 p4 (3 : Int32) b175 (sp1 p4 (0 : Int32) p1) (sp1 p4 (1 : Int32) p2) (sp1 p4 (2 : Int32) p3) ((3 : Int32) - (1 : Int32)) (0 : Int32) (0 : Int32) (0 : Int32))) rfl ?_
      refine XS.iload X295.here hx rfl (hb hby at_143) rfl ?_
      show Sp p e below T295 (mkF m 145 (lt17 p0 p1 p2 p3 p4 (3 : Int32) b175 (sp1 p4 (0 : Int32) p1) (sp1 p4 (1 : Int32) p2) (sp1 p4 (2 : Int32) p3) ((3 : Int32) - (1 : Int32)) (0 : Int32) (0 : Int32) (0 : Int32)) [(.int (0 : Int32))]) _
      refine XS.iload X295.here hx rfl (hb hby at_145) rfl ?_
      show Sp p e below T295 (mkF m 147 (lt17 p0 p1 p2 p3 p4 (3 : Int32) b175 (sp1 p4 (0 : Int32) p1) (sp1 p4 (1 : Int32) p2) (sp1 p4 (2 : Int32) p3) ((3 : Int32) - (1 : Int32)) (0 : Int32) (0 : Int32) (0 : Int32)) [(.int (0 : Int32)), (.int (0 : Int32))]) _
      refine XS.icmpNo X295.here hx rfl (hb hby at_147) rfl (teq (by decide : ((0 : Int32) = (0 : Int32)))).2 ?_
      show Sp p e below T295 (mkF m 150 (lt17 p0 p1 p2 p3 p4 (3 : Int32) b175 (sp1 p4 (0 : Int32) p1) (sp1 p4 (1 : Int32) p2) (sp1 p4 (2 : Int32) p3) ((3 : Int32) - (1 : Int32)) (0 : Int32) (0 : Int32) (0 : Int32)) []) _
      refine XS.iload X295.here hx rfl (hb hby at_150) rfl ?_
      refine XS.iload X295.here hx rfl (hb hby at_152) rfl ?_
      show Sp p e below T295 (mkF m 154 (lt17 p0 p1 p2 p3 p4 (3 : Int32) b175 (sp1 p4 (0 : Int32) p1) (sp1 p4 (1 : Int32) p2) (sp1 p4 (2 : Int32) p3) ((3 : Int32) - (1 : Int32)) (0 : Int32) (0 : Int32) (0 : Int32)) [(.int (0 : Int32)), (.int (0 : Int32))]) _
      refine XS.icmpNo X295.here hx rfl (hb hby at_154) rfl (teq (by decide : ((0 : Int32) = (0 : Int32)))).2 ?_
      show Sp p e below T295 (mkF m 157 (lt17 p0 p1 p2 p3 p4 (3 : Int32) b175 (sp1 p4 (0 : Int32) p1) (sp1 p4 (1 : Int32) p2) (sp1 p4 (2 : Int32) p3) ((3 : Int32) - (1 : Int32)) (0 : Int32) (0 : Int32) (0 : Int32)) []) _
      refine XS.iconst X295.here hx rfl (hb hby at_157) ?_
      show Sp p e below T295 (mkF m 158 (lt17 p0 p1 p2 p3 p4 (3 : Int32) b175 (sp1 p4 (0 : Int32) p1) (sp1 p4 (1 : Int32) p2) (sp1 p4 (2 : Int32) p3) ((3 : Int32) - (1 : Int32)) (0 : Int32) (0 : Int32) (0 : Int32)) [(.int (1 : Int32))]) _
      refine XS.goto X295.here hx rfl (pc0 := 158) (pc' := 162) rfl (hb hby at_158) (by decide) (by decide) ?_
      show Sp p e below T295 (mkF m 162 (lt17 p0 p1 p2 p3 p4 (3 : Int32) b175 (sp1 p4 (0 : Int32) p1) (sp1 p4 (1 : Int32) p2) (sp1 p4 (2 : Int32) p3) ((3 : Int32) - (1 : Int32)) (0 : Int32) (0 : Int32) (0 : Int32)) [(.int (1 : Int32))]) _
      exact retN X295 hx (t := .boolean) Bd.returns (by simp) (hb hby at_162) hr
    · show Q0 Z w_1 w_2 w_4 w_5 p0 p1 p2 p3 p4 h0 n0 _ T295.heap _
      rw [e295]
      exact ⟨by unfold sp0; rw [if_neg hc1, if_neg hc55, if_pos hc172, if_neg hc187], N295, trivial⟩
set_option maxRecDepth 65536 in
set_option maxHeartbeats 40000000 in
theorem rm0_4 (l : Launch) (Z : State) (a0 : Array Value) (hw : ∀ d ∈ tables_1, d.before a0 Z = true) (hv : ∀ d ∈ jdkStatics_1, d.before a0 Z = true) (wS : ∀ d ∈ Bundle.stringAtoms, d.before a0 Z = true) (hEL : EW Z a0 EL1) (ws : List Jvm.Cond) (w_1 : Addr) (w_2 : Addr) (w_4 : Int32) (w_5 : Value) (hS : StF Z w_1 w_2 w_4 w_5) (p0 : Int32) (p1 : Int32) (p2 : Int32) (p3 : Int32) (p4 : Int32) (h0 : Heap) (n0 : Nat) (O0 : Old Z n0 h0) (hc1 : ¬ ((p0 &&& (3 : Int32)) = (0 : Int32))) (hc55 : ¬ ((p0 &&& (3 : Int32)) = (1 : Int32))) (hc172 : ¬ ((p0 &&& (3 : Int32)) = (2 : Int32))) (hL296 : ((p0 &&& (3 : Int32)) = (3 : Int32))) :
    MetFree l x (head1 (Jvm.Cond.code x code maxLocals ret :: ws) room_1) (fun a U => a = #[(.int p0), (.int p1), (.int p2), (.int p3), (.int p4)] ∧ Z.Warmed39 U.vm ∧ U.heap = h0 ∧ CHv Z EL1 U.vm Z.heap) (fun _ _ _ _ _ => True) (fun _ U o U' => ∃ v L, o = .returned v ∧ Q0 Z w_1 w_2 w_4 w_5 p0 p1 p2 p3 p4 h0 n0 v U'.heap L ∧ ReturnedEndW U o U' L room_1.cells room_1.slots) := by
  refine MetFree.of_bodySF (plainFor_of_name pn_0) hisR ?_
  intro p e s m args below meth c s₁ Bd hml0 hP hK
  obtain ⟨rfl, hZ, hh, hC⟩ := hP
  have hx := Bd.exec
  have hby := Bd.bytes
  have hml : c.maxLocals = 14 := hml0
  have hown : s.vm.findClass "com/example/bristlecone/bristlecone/io/HttpLineIsEmptyPinLaw" = some m.cls := findClass_of_methodNamed Bd.named
  have hnm := (name_of_methodNamed Bd.named Bd.method).1
  have X0 : Stand p l e room_1 s m #[(.int p0), (.int p1), (.int p2), (.int p3), (.int p4)] below meth c s₁ [] 0 0 := Stand.of_body Bd
  have e0 : s₁.heap = h0 := by rw [← hh, Bd.state]; rfl
  have N0 := Fr.nil n0
  have hS0 := hS
  obtain ⟨S_1, E_1, S_2, E_2, S_3, E_3, S_4, NE_4, S_5, IR_5⟩ := hS
  have pre0 : ∀ t, Steps p.tables e below (s₁.setTop (mkF m 0 #[.val (.int p0), .val (.int p1), .val (.int p2), .val (.int p3), .val (.int p4), .unset, .unset, .unset, .unset, .unset, .unset, .unset, .unset, .unset] [])) t → Steps p.tables e below (s₁.setTop (entryFrame m #[(.int p0), (.int p1), (.int p2), (.int p3), (.int p4)] maxLocals)) t := fun t k => castTop (ef_0 m p0 p1 p2 p3 p4) k
  generalize hE0 : s₁.setTop (entryFrame m #[(.int p0), (.int p1), (.int p2), (.int p3), (.int p4)] maxLocals) = E0 at pre0 ⊢
  have pre297 : Cm p e below E0 (s₁.setTop (mkF m 5 (lt1 p0 p1 p2 p3 p4) [(.int ((p0 &&& (3 : Int32)) + (1 : Int32)))])) := fun t kt => by
    refine pre0 t ?_
    show Sp p e below s₁ (mkF m 0 (lt1 p0 p1 p2 p3 p4) []) _
    refine XS.iloadN X0.here hx rfl (hb hby at_0) rfl ?_
    refine XS.iconst X0.here hx rfl (hb hby at_1) ?_
    show Sp p e below s₁ (mkF m 2 (lt1 p0 p1 p2 p3 p4) [(.int (3 : Int32)), (.int p0)]) _
    refine XS.iand X0.here hx rfl (hb hby at_2) rfl ?_
    refine XS.iconst X0.here hx rfl (hb hby at_3) ?_
    show Sp p e below s₁ (mkF m 4 (lt1 p0 p1 p2 p3 p4) [(.int (1 : Int32)), (.int (p0 &&& (3 : Int32)))]) _
    refine XS.iadd X0.here hx rfl (hb hby at_4) rfl ?_
    show Sp p e below s₁ (mkF m 5 (lt1 p0 p1 p2 p3 p4) [(.int ((p0 &&& (3 : Int32)) + (1 : Int32)))]) _
    exact kt
  have pre298 : Cm p e below E0 (s₁.setTop (mkF m 5 (lt1 p0 p1 p2 p3 p4) [(.int (4 : Int32))])) := fun t kt => pre297 t (by rw [(by rw [hL296] <;> decide : ((p0 &&& (3 : Int32)) + (1 : Int32)) = (4 : Int32))]; exact kt)
  obtain ⟨T299, h299, k299, X299, e299, E299, A299, st299⟩ := newP X0 hx hZ (hw _ (tk 0 rfl)) e0 (g := (mkF m 9 (lt2 p0 p1 p2 p3 p4 (4 : Int32)) [(.int (4 : Int32))])) rfl (hb hby at_9) rfl (by decide) (cap := 4) (by decide) (by decide) (by decide) (by decide)
  obtain ⟨b299, g299⟩ : ∃ z, z = h0.size := ⟨_, rfl⟩
  rw [← g299] at A299 st299
  have g_b299 : n0 ≤ b299 := Nat.le_trans (own_old O0) (Nat.le_of_eq g299.symm)
  have O299 : Old Z n0 h299 := O0.ext E299
  have V_b299 : Arv Z h299 b299 k299 .byte (4 : Int32) [(.int (0 : Int32)), (.int (0 : Int32)), (.int (0 : Int32)), (.int (0 : Int32))] (.int (0 : Int32)) := (Arv.new A299 (by decide)).pad (pad_rep [] (.int (0 : Int32)) 4)
  obtain ⟨_, _, ⟨T300, L300, k300, n300⟩, -, X300, ⟨Lc300, hQ300, l300, y300, z300⟩, st300⟩ := Jvm.LawKit.callS X299 hx (y := Y4) hown (mvT hZ (hw _ (tk 1 rfl))) (mvT hZ (hw _ (tk 2 rfl))) (mvT hZ (hw _ (tk 3 rfl))) (mvT hZ (hw _ (tk 4 rfl))) (by decide) (backOf (W := 0) (rm1 l Z a0 hw hv [] w_1 w_2 w_4 w_5 hS0 p4 (0 : Int32) p1 h299 n0 O299) hZ (hw _ (tk 4 rfl)) (hw _ (tk 3 rfl)) (by decide) (by decide)) (g := (mkF m 17 (lt3 p0 p1 p2 p3 p4 (4 : Int32) b299) [(.int p1), (.int (0 : Int32)), (.int p4)])) rfl (by rw [hml]; rfl) (argsL := [(.int p4), (.int (0 : Int32)), (.int p1)]) (rest := []) (lenOf pd_0 rfl) rfl (by show 2 * 0 + _ ≤ _; exact Nat.le_of_eq rfl) (hb hby at_17) (fun _ _ => ⟨rfl, e299, (by decide : 1 + 0 ≤ _), (by decide : 4 + 0 ≤ _)⟩)
  dsimp only [Pt.U, Pt.locs, Pt.cells, Pt.slots] at X300 l300 y300 z300 st300 hQ300
  subst l300 y300 z300
  obtain ⟨rv300, N300q, e300⟩ := hQ300
  subst rv300
  have N300 := Fr.app N0 N300q
  obtain ⟨_, _, ⟨T301, L301, k301, n301⟩, -, X301, ⟨Lc301, hQ301, l301, y301, z301⟩, st301⟩ := Jvm.LawKit.callS X300 hx (y := Y4) hown (mvT hZ (hw _ (tk 1 rfl))) (mvT hZ (hw _ (tk 2 rfl))) (mvT hZ (hw _ (tk 3 rfl))) (mvT hZ (hw _ (tk 4 rfl))) (by decide) (backOf (W := 0) (rm1 l Z a0 hw hv [] w_1 w_2 w_4 w_5 hS0 p4 (1 : Int32) p2 h299 n0 O299) hZ (hw _ (tk 4 rfl)) (hw _ (tk 3 rfl)) (by decide) (by decide)) (g := (mkF m 26 (lt5 p0 p1 p2 p3 p4 (4 : Int32) b299 (sp1 p4 (0 : Int32) p1)) [(.int p2), (.int (1 : Int32)), (.int p4)])) rfl (by rw [hml]; rfl) (argsL := [(.int p4), (.int (1 : Int32)), (.int p2)]) (rest := []) (lenOf pd_0 rfl) rfl (by show 2 * 0 + _ ≤ _; exact Nat.le_of_eq rfl) (hb hby at_26) (fun _ _ => ⟨rfl, e300, (by decide : 1 + 0 ≤ _), (by decide : 4 + 0 ≤ _)⟩)
  dsimp only [Pt.U, Pt.locs, Pt.cells, Pt.slots] at X301 l301 y301 z301 st301 hQ301
  subst l301 y301 z301
  obtain ⟨rv301, N301q, e301⟩ := hQ301
  subst rv301
  have N301 := Fr.app N300 N301q
  obtain ⟨_, _, ⟨T302, L302, k302, n302⟩, -, X302, ⟨Lc302, hQ302, l302, y302, z302⟩, st302⟩ := Jvm.LawKit.callS X301 hx (y := Y4) hown (mvT hZ (hw _ (tk 1 rfl))) (mvT hZ (hw _ (tk 2 rfl))) (mvT hZ (hw _ (tk 3 rfl))) (mvT hZ (hw _ (tk 4 rfl))) (by decide) (backOf (W := 0) (rm1 l Z a0 hw hv [] w_1 w_2 w_4 w_5 hS0 p4 (2 : Int32) p3 h299 n0 O299) hZ (hw _ (tk 4 rfl)) (hw _ (tk 3 rfl)) (by decide) (by decide)) (g := (mkF m 35 (lt6 p0 p1 p2 p3 p4 (4 : Int32) b299 (sp1 p4 (0 : Int32) p1) (sp1 p4 (1 : Int32) p2)) [(.int p3), (.int (2 : Int32)), (.int p4)])) rfl (by rw [hml]; rfl) (argsL := [(.int p4), (.int (2 : Int32)), (.int p3)]) (rest := []) (lenOf pd_0 rfl) rfl (by show 2 * 0 + _ ≤ _; exact Nat.le_of_eq rfl) (hb hby at_35) (fun _ _ => ⟨rfl, e301, (by decide : 1 + 0 ≤ _), (by decide : 4 + 0 ≤ _)⟩)
  dsimp only [Pt.U, Pt.locs, Pt.cells, Pt.slots] at X302 l302 y302 z302 st302 hQ302
  subst l302 y302 z302
  obtain ⟨rv302, N302q, e302⟩ := hQ302
  subst rv302
  have N302 := Fr.app N301 N302q
  obtain ⟨cl303, Ar303, qa303, Sa303, Ma303, Ha303, Ga303⟩ := id V_b299
  have hin303 : ¬ ((0 : Int32) < 0 ∨ cl303.slots.size ≤ ((0 : Int32)).toNatClampNeg) := by exact inb_of Sa303 ⟨by decide, by decide⟩
  obtain ⟨T304, h304, X304, e304, W304, st304⟩ := stB X302 hx hZ e302 Ar303 (j := (0 : Int32)) hin303 (g := (mkF m 51 (lt7 p0 p1 p2 p3 p4 (4 : Int32) b299 (sp1 p4 (0 : Int32) p1) (sp1 p4 (1 : Int32) p2) (sp1 p4 (2 : Int32) p3)) [(.int (sp1 p4 (0 : Int32) p1)), (.int (0 : Int32)), (.ref b299)])) rfl rfl (hb hby at_51)
  have V_b299_304 : Arv Z h304 b299 k299 .byte (4 : Int32) [(.int (nar .byte (sp1 p4 (0 : Int32) p1))), (.int (0 : Int32)), (.int (0 : Int32)), (.int (0 : Int32))] (.int (0 : Int32)) := Arv.set Ar303 qa303 Sa303 Ma303 Ha303 Ga303 (fits_nar_byte _) W304 0 rfl (Nat.le_of_ble_eq_true rfl)
  have O304 : Old Z n0 h304 := O299.wr W304 g_b299
  have N304 := Fr.snoc X304 N302 g_b299
  obtain ⟨cl305, Ar305, qa305, Sa305, Ma305, Ha305, Ga305⟩ := id V_b299_304
  have hin305 : ¬ ((1 : Int32) < 0 ∨ cl305.slots.size ≤ ((1 : Int32)).toNatClampNeg) := by exact inb_of Sa305 ⟨by decide, by decide⟩
  obtain ⟨T306, h306, X306, e306, W306, st306⟩ := stB X304 hx hZ e304 Ar305 (j := (1 : Int32)) hin305 (g := (mkF m 63 (lt7 p0 p1 p2 p3 p4 (4 : Int32) b299 (sp1 p4 (0 : Int32) p1) (sp1 p4 (1 : Int32) p2) (sp1 p4 (2 : Int32) p3)) [(.int (sp1 p4 (1 : Int32) p2)), (.int (1 : Int32)), (.ref b299)])) rfl rfl (hb hby at_63)
  have V_b299_306 : Arv Z h306 b299 k299 .byte (4 : Int32) [(.int (nar .byte (sp1 p4 (0 : Int32) p1))), (.int (nar .byte (sp1 p4 (1 : Int32) p2))), (.int (0 : Int32)), (.int (0 : Int32))] (.int (0 : Int32)) := Arv.set Ar305 qa305 Sa305 Ma305 Ha305 Ga305 (fits_nar_byte _) W306 1 rfl (Nat.le_of_ble_eq_true rfl)
  have O306 : Old Z n0 h306 := O304.wr W306 g_b299
  have N306 := Fr.snoc X306 N304 g_b299
  obtain ⟨cl307, Ar307, qa307, Sa307, Ma307, Ha307, Ga307⟩ := id V_b299_306
  have hin307 : ¬ ((2 : Int32) < 0 ∨ cl307.slots.size ≤ ((2 : Int32)).toNatClampNeg) := by exact inb_of Sa307 ⟨by decide, by decide⟩
  obtain ⟨T308, h308, X308, e308, W308, st308⟩ := stB X306 hx hZ e306 Ar307 (j := (2 : Int32)) hin307 (g := (mkF m 75 (lt7 p0 p1 p2 p3 p4 (4 : Int32) b299 (sp1 p4 (0 : Int32) p1) (sp1 p4 (1 : Int32) p2) (sp1 p4 (2 : Int32) p3)) [(.int (sp1 p4 (2 : Int32) p3)), (.int (2 : Int32)), (.ref b299)])) rfl rfl (hb hby at_75)
  have V_b299_308 : Arv Z h308 b299 k299 .byte (4 : Int32) [(.int (nar .byte (sp1 p4 (0 : Int32) p1))), (.int (nar .byte (sp1 p4 (1 : Int32) p2))), (.int (nar .byte (sp1 p4 (2 : Int32) p3))), (.int (0 : Int32))] (.int (0 : Int32)) := Arv.set Ar307 qa307 Sa307 Ma307 Ha307 Ga307 (fits_nar_byte _) W308 2 rfl (Nat.le_of_ble_eq_true rfl)
  have O308 : Old Z n0 h308 := O306.wr W308 g_b299
  have N308 := Fr.snoc X308 N306 g_b299
  obtain ⟨cl309, Ar309, qa309, Sa309, Ma309, Ha309, Ga309⟩ := id V_b299_308
  have hin309 : ¬ (((4 : Int32) - (1 : Int32)) < 0 ∨ cl309.slots.size ≤ (((4 : Int32) - (1 : Int32))).toNatClampNeg) := by exact inb_of Sa309 ⟨by decide, by decide⟩
  obtain ⟨T310, h310, X310, e310, W310, st310⟩ := stB X308 hx hZ e308 Ar309 (j := ((4 : Int32) - (1 : Int32))) hin309 (g := (mkF m 84 (lt7 p0 p1 p2 p3 p4 (4 : Int32) b299 (sp1 p4 (0 : Int32) p1) (sp1 p4 (1 : Int32) p2) (sp1 p4 (2 : Int32) p3)) [(.int (10 : Int32)), (.int ((4 : Int32) - (1 : Int32))), (.ref b299)])) rfl rfl (hb hby at_84)
  have V_b299_310 : Arv Z h310 b299 k299 .byte (4 : Int32) [(.int (nar .byte (sp1 p4 (0 : Int32) p1))), (.int (nar .byte (sp1 p4 (1 : Int32) p2))), (.int (nar .byte (sp1 p4 (2 : Int32) p3))), (.int (nar .byte (10 : Int32)))] (.int (0 : Int32)) := Arv.set Ar309 qa309 Sa309 Ma309 Ha309 Ga309 (fits_nar_byte _) W310 3 rfl (Nat.le_of_ble_eq_true rfl)
  have O310 : Old Z n0 h310 := O308.wr W310 g_b299
  have N310 := Fr.snoc X310 N308 g_b299
  obtain ⟨cl311, Ar311, qa311, Sa311, Ma311, Ha311, Ga311⟩ := id V_b299_310
  have hin311 : ¬ (((4 : Int32) - (2 : Int32)) < 0 ∨ cl311.slots.size ≤ (((4 : Int32) - (2 : Int32))).toNatClampNeg) := by  exact inb_of Sa311 ⟨by decide, by decide⟩
  have hat311 : cl311.slots[(((4 : Int32) - (2 : Int32))).toNatClampNeg]? = some (.int (nar .byte (sp1 p4 (2 : Int32) p3))) := Has.at Ha311 hin311 (by rfl)
  have pre312 : Cm p e below E0 (T310.setTop (mkF m 105 (lt8 p0 p1 p2 p3 p4 (4 : Int32) b299 (sp1 p4 (0 : Int32) p1) (sp1 p4 (1 : Int32) p2) (sp1 p4 (2 : Int32) p3) ((4 : Int32) - (1 : Int32))) [(.int (13 : Int32)), (.int (nar .byte (sp1 p4 (2 : Int32) p3)))])) := fun t kt => by
    refine pre298 t ?_
    show Sp p e below s₁ (mkF m 5 (lt1 p0 p1 p2 p3 p4) [(.int (4 : Int32))]) _
    refine XS.istore X0.here hx rfl (hb hby at_5) rfl (l' := (lt2 p0 p1 p2 p3 p4 (4 : Int32))) rfl ?_
    refine XS.iload X0.here hx rfl (hb hby at_7) rfl ?_
    show Sp p e below s₁ (mkF m 9 (lt2 p0 p1 p2 p3 p4 (4 : Int32)) [(.int (4 : Int32))]) _
    refine st299 _ ?_
    show Sp p e below T299 (mkF m 11 (lt2 p0 p1 p2 p3 p4 (4 : Int32)) [(.ref b299)]) _
    refine XS.astore X299.here hx rfl (hb hby at_11) rfl rfl (l' := (lt3 p0 p1 p2 p3 p4 (4 : Int32) b299)) rfl ?_
    refine XS.iload X299.here hx rfl (hb hby at_13) rfl ?_
    show Sp p e below T299 (mkF m 15 (lt3 p0 p1 p2 p3 p4 (4 : Int32) b299) [(.int p4)]) _
    refine XS.iconst X299.here hx rfl (hb hby at_15) ?_
    refine XS.iloadN X299.here hx rfl (hb hby at_16) rfl ?_
    show Sp p e below T299 (mkF m 17 (lt3 p0 p1 p2 p3 p4 (4 : Int32) b299) [(.int p1), (.int (0 : Int32)), (.int p4)]) _
    refine st300 _ ?_
    show Sp p e below T300 (mkF m 20 (lt3 p0 p1 p2 p3 p4 (4 : Int32) b299) [(.int (sp1 p4 (0 : Int32) p1))]) _
    refine XS.istore X300.here hx rfl (hb hby at_20) rfl (l' := (lt5 p0 p1 p2 p3 p4 (4 : Int32) b299 (sp1 p4 (0 : Int32) p1))) rfl ?_
    refine XS.iload X300.here hx rfl (hb hby at_22) rfl ?_
    show Sp p e below T300 (mkF m 24 (lt5 p0 p1 p2 p3 p4 (4 : Int32) b299 (sp1 p4 (0 : Int32) p1)) [(.int p4)]) _
    refine XS.iconst X300.here hx rfl (hb hby at_24) ?_
    refine XS.iloadN X300.here hx rfl (hb hby at_25) rfl ?_
    show Sp p e below T300 (mkF m 26 (lt5 p0 p1 p2 p3 p4 (4 : Int32) b299 (sp1 p4 (0 : Int32) p1)) [(.int p2), (.int (1 : Int32)), (.int p4)]) _
    refine st301 _ ?_
    show Sp p e below T301 (mkF m 29 (lt5 p0 p1 p2 p3 p4 (4 : Int32) b299 (sp1 p4 (0 : Int32) p1)) [(.int (sp1 p4 (1 : Int32) p2))]) _
    refine XS.istore X301.here hx rfl (hb hby at_29) rfl (l' := (lt6 p0 p1 p2 p3 p4 (4 : Int32) b299 (sp1 p4 (0 : Int32) p1) (sp1 p4 (1 : Int32) p2))) rfl ?_
    refine XS.iload X301.here hx rfl (hb hby at_31) rfl ?_
    show Sp p e below T301 (mkF m 33 (lt6 p0 p1 p2 p3 p4 (4 : Int32) b299 (sp1 p4 (0 : Int32) p1) (sp1 p4 (1 : Int32) p2)) [(.int p4)]) _
    refine XS.iconst X301.here hx rfl (hb hby at_33) ?_
    refine XS.iloadN X301.here hx rfl (hb hby at_34) rfl ?_
    show Sp p e below T301 (mkF m 35 (lt6 p0 p1 p2 p3 p4 (4 : Int32) b299 (sp1 p4 (0 : Int32) p1) (sp1 p4 (1 : Int32) p2)) [(.int p3), (.int (2 : Int32)), (.int p4)]) _
    refine st302 _ ?_
    show Sp p e below T302 (mkF m 38 (lt6 p0 p1 p2 p3 p4 (4 : Int32) b299 (sp1 p4 (0 : Int32) p1) (sp1 p4 (1 : Int32) p2)) [(.int (sp1 p4 (2 : Int32) p3))]) _
    refine XS.istore X302.here hx rfl (hb hby at_38) rfl (l' := (lt7 p0 p1 p2 p3 p4 (4 : Int32) b299 (sp1 p4 (0 : Int32) p1) (sp1 p4 (1 : Int32) p2) (sp1 p4 (2 : Int32) p3))) rfl ?_
    refine XS.iload X302.here hx rfl (hb hby at_40) rfl ?_
    show Sp p e below T302 (mkF m 42 (lt7 p0 p1 p2 p3 p4 (4 : Int32) b299 (sp1 p4 (0 : Int32) p1) (sp1 p4 (1 : Int32) p2) (sp1 p4 (2 : Int32) p3)) [(.int (4 : Int32))]) _
    refine XS.iconst X302.here hx rfl (hb hby at_42) ?_
    show Sp p e below T302 (mkF m 43 (lt7 p0 p1 p2 p3 p4 (4 : Int32) b299 (sp1 p4 (0 : Int32) p1) (sp1 p4 (1 : Int32) p2) (sp1 p4 (2 : Int32) p3)) [(.int (2 : Int32)), (.int (4 : Int32))]) _
    refine XS.icmpNo X302.here hx rfl (hb hby at_43) rfl (flt (by decide : ¬ ((4 : Int32) < (2 : Int32)))).1 ?_
    show Sp p e below T302 (mkF m 46 (lt7 p0 p1 p2 p3 p4 (4 : Int32) b299 (sp1 p4 (0 : Int32) p1) (sp1 p4 (1 : Int32) p2) (sp1 p4 (2 : Int32) p3)) []) _
    refine XS.aload X302.here hx rfl (hb hby at_46) rfl rfl ?_
    refine XS.iconst X302.here hx rfl (hb hby at_48) ?_
    show Sp p e below T302 (mkF m 49 (lt7 p0 p1 p2 p3 p4 (4 : Int32) b299 (sp1 p4 (0 : Int32) p1) (sp1 p4 (1 : Int32) p2) (sp1 p4 (2 : Int32) p3)) [(.int (0 : Int32)), (.ref b299)]) _
    refine XS.iload X302.here hx rfl (hb hby at_49) rfl ?_
    show Sp p e below T302 (mkF m 51 (lt7 p0 p1 p2 p3 p4 (4 : Int32) b299 (sp1 p4 (0 : Int32) p1) (sp1 p4 (1 : Int32) p2) (sp1 p4 (2 : Int32) p3)) [(.int (sp1 p4 (0 : Int32) p1)), (.int (0 : Int32)), (.ref b299)]) _
    refine st304 _ ?_
    show Sp p e below T304 (mkF m 52 (lt7 p0 p1 p2 p3 p4 (4 : Int32) b299 (sp1 p4 (0 : Int32) p1) (sp1 p4 (1 : Int32) p2) (sp1 p4 (2 : Int32) p3)) []) _
    refine XS.iload X304.here hx rfl (hb hby at_52) rfl ?_
    refine XS.iconst X304.here hx rfl (hb hby at_54) ?_
    show Sp p e below T304 (mkF m 55 (lt7 p0 p1 p2 p3 p4 (4 : Int32) b299 (sp1 p4 (0 : Int32) p1) (sp1 p4 (1 : Int32) p2) (sp1 p4 (2 : Int32) p3)) [(.int (3 : Int32)), (.int (4 : Int32))]) _
    refine XS.icmpNo X304.here hx rfl (hb hby at_55) rfl (flt (by decide : ¬ ((4 : Int32) < (3 : Int32)))).1 ?_
    show Sp p e below T304 (mkF m 58 (lt7 p0 p1 p2 p3 p4 (4 : Int32) b299 (sp1 p4 (0 : Int32) p1) (sp1 p4 (1 : Int32) p2) (sp1 p4 (2 : Int32) p3)) []) _
    refine XS.aload X304.here hx rfl (hb hby at_58) rfl rfl ?_
    refine XS.iconst X304.here hx rfl (hb hby at_60) ?_
    show Sp p e below T304 (mkF m 61 (lt7 p0 p1 p2 p3 p4 (4 : Int32) b299 (sp1 p4 (0 : Int32) p1) (sp1 p4 (1 : Int32) p2) (sp1 p4 (2 : Int32) p3)) [(.int (1 : Int32)), (.ref b299)]) _
    refine XS.iload X304.here hx rfl (hb hby at_61) rfl ?_
    show Sp p e below T304 (mkF m 63 (lt7 p0 p1 p2 p3 p4 (4 : Int32) b299 (sp1 p4 (0 : Int32) p1) (sp1 p4 (1 : Int32) p2) (sp1 p4 (2 : Int32) p3)) [(.int (sp1 p4 (1 : Int32) p2)), (.int (1 : Int32)), (.ref b299)]) _
    refine st306 _ ?_
    show Sp p e below T306 (mkF m 64 (lt7 p0 p1 p2 p3 p4 (4 : Int32) b299 (sp1 p4 (0 : Int32) p1) (sp1 p4 (1 : Int32) p2) (sp1 p4 (2 : Int32) p3)) []) _
    refine XS.iload X306.here hx rfl (hb hby at_64) rfl ?_
    refine XS.iconst X306.here hx rfl (hb hby at_66) ?_
    show Sp p e below T306 (mkF m 67 (lt7 p0 p1 p2 p3 p4 (4 : Int32) b299 (sp1 p4 (0 : Int32) p1) (sp1 p4 (1 : Int32) p2) (sp1 p4 (2 : Int32) p3)) [(.int (4 : Int32)), (.int (4 : Int32))]) _
    refine XS.icmpNo X306.here hx rfl (hb hby at_67) rfl (flt (by decide : ¬ ((4 : Int32) < (4 : Int32)))).1 ?_
    show Sp p e below T306 (mkF m 70 (lt7 p0 p1 p2 p3 p4 (4 : Int32) b299 (sp1 p4 (0 : Int32) p1) (sp1 p4 (1 : Int32) p2) (sp1 p4 (2 : Int32) p3)) []) _
    refine XS.aload X306.here hx rfl (hb hby at_70) rfl rfl ?_
    refine XS.iconst X306.here hx rfl (hb hby at_72) ?_
    show Sp p e below T306 (mkF m 73 (lt7 p0 p1 p2 p3 p4 (4 : Int32) b299 (sp1 p4 (0 : Int32) p1) (sp1 p4 (1 : Int32) p2) (sp1 p4 (2 : Int32) p3)) [(.int (2 : Int32)), (.ref b299)]) _
    refine XS.iload X306.here hx rfl (hb hby at_73) rfl ?_
    show Sp p e below T306 (mkF m 75 (lt7 p0 p1 p2 p3 p4 (4 : Int32) b299 (sp1 p4 (0 : Int32) p1) (sp1 p4 (1 : Int32) p2) (sp1 p4 (2 : Int32) p3)) [(.int (sp1 p4 (2 : Int32) p3)), (.int (2 : Int32)), (.ref b299)]) _
    refine st308 _ ?_
    show Sp p e below T308 (mkF m 76 (lt7 p0 p1 p2 p3 p4 (4 : Int32) b299 (sp1 p4 (0 : Int32) p1) (sp1 p4 (1 : Int32) p2) (sp1 p4 (2 : Int32) p3)) []) _
    refine XS.aload X308.here hx rfl (hb hby at_76) rfl rfl ?_
    refine XS.iload X308.here hx rfl (hb hby at_78) rfl ?_
    show Sp p e below T308 (mkF m 80 (lt7 p0 p1 p2 p3 p4 (4 : Int32) b299 (sp1 p4 (0 : Int32) p1) (sp1 p4 (1 : Int32) p2) (sp1 p4 (2 : Int32) p3)) [(.int (4 : Int32)), (.ref b299)]) _
    refine XS.iconst X308.here hx rfl (hb hby at_80) ?_
    refine XS.isub X308.here hx rfl (hb hby at_81) rfl ?_
    show Sp p e below T308 (mkF m 82 (lt7 p0 p1 p2 p3 p4 (4 : Int32) b299 (sp1 p4 (0 : Int32) p1) (sp1 p4 (1 : Int32) p2) (sp1 p4 (2 : Int32) p3)) [(.int ((4 : Int32) - (1 : Int32))), (.ref b299)]) _
    refine XS.bipush X308.here hx rfl (hb hby at_82) ?_
    show Sp p e below T308 (mkF m 84 (lt7 p0 p1 p2 p3 p4 (4 : Int32) b299 (sp1 p4 (0 : Int32) p1) (sp1 p4 (1 : Int32) p2) (sp1 p4 (2 : Int32) p3)) [(.int (10 : Int32)), (.int ((4 : Int32) - (1 : Int32))), (.ref b299)]) _
    refine st310 _ ?_
    show Sp p e below T310 (mkF m 85 (lt7 p0 p1 p2 p3 p4 (4 : Int32) b299 (sp1 p4 (0 : Int32) p1) (sp1 p4 (1 : Int32) p2) (sp1 p4 (2 : Int32) p3)) []) _
    refine XS.iload X310.here hx rfl (hb hby at_85) rfl ?_
    refine XS.iconst X310.here hx rfl (hb hby at_87) ?_
    show Sp p e below T310 (mkF m 88 (lt7 p0 p1 p2 p3 p4 (4 : Int32) b299 (sp1 p4 (0 : Int32) p1) (sp1 p4 (1 : Int32) p2) (sp1 p4 (2 : Int32) p3)) [(.int (1 : Int32)), (.int (4 : Int32))]) _
    refine XS.isub X310.here hx rfl (hb hby at_88) rfl ?_
    refine XS.istore X310.here hx rfl (hb hby at_89) rfl (l' := (lt8 p0 p1 p2 p3 p4 (4 : Int32) b299 (sp1 p4 (0 : Int32) p1) (sp1 p4 (1 : Int32) p2) (sp1 p4 (2 : Int32) p3) ((4 : Int32) - (1 : Int32)))) rfl ?_
    show Sp p e below T310 (mkF m 91 (lt8 p0 p1 p2 p3 p4 (4 : Int32) b299 (sp1 p4 (0 : Int32) p1) (sp1 p4 (1 : Int32) p2) (sp1 p4 (2 : Int32) p3) ((4 : Int32) - (1 : Int32))) []) _
    refine XS.iload X310.here hx rfl (hb hby at_91) rfl ?_
    show Sp p e below T310 (mkF m 93 (lt8 p0 p1 p2 p3 p4 (4 : Int32) b299 (sp1 p4 (0 : Int32) p1) (sp1 p4 (1 : Int32) p2) (sp1 p4 (2 : Int32) p3) ((4 : Int32) - (1 : Int32))) [(.int ((4 : Int32) - (1 : Int32)))]) _
    refine XS.ifNo X310.here hx rfl (hb hby at_93) rfl ((if0 _ _).trans (tlt (by decide : ((0 : Int32) < ((4 : Int32) - (1 : Int32))))).2.2.2) ?_
    show Sp p e below T310 (mkF m 96 (lt8 p0 p1 p2 p3 p4 (4 : Int32) b299 (sp1 p4 (0 : Int32) p1) (sp1 p4 (1 : Int32) p2) (sp1 p4 (2 : Int32) p3) ((4 : Int32) - (1 : Int32))) []) _
    refine XS.aload X310.here hx rfl (hb hby at_96) rfl rfl ?_
    refine XS.iload X310.here hx rfl (hb hby at_98) rfl ?_
    show Sp p e below T310 (mkF m 100 (lt8 p0 p1 p2 p3 p4 (4 : Int32) b299 (sp1 p4 (0 : Int32) p1) (sp1 p4 (1 : Int32) p2) (sp1 p4 (2 : Int32) p3) ((4 : Int32) - (1 : Int32))) [(.int (4 : Int32)), (.ref b299)]) _
    refine XS.iconst X310.here hx rfl (hb hby at_100) ?_
    refine XS.isub X310.here hx rfl (hb hby at_101) rfl ?_
    show Sp p e below T310 (mkF m 102 (lt8 p0 p1 p2 p3 p4 (4 : Int32) b299 (sp1 p4 (0 : Int32) p1) (sp1 p4 (1 : Int32) p2) (sp1 p4 (2 : Int32) p3) ((4 : Int32) - (1 : Int32))) [(.int ((4 : Int32) - (2 : Int32))), (.ref b299)]) _
    refine X310.baloadBytes hx (j := ((4 : Int32) - (2 : Int32))) (v := (.int (nar .byte (sp1 p4 (2 : Int32) p3)))) (by rw [e310]; exact Ar311.1) (State.isArrayOf_alike hZ.alike Ar311.2.1) Ar311.2.2 hin311 hat311 (g := (mkF m 102 (lt8 p0 p1 p2 p3 p4 (4 : Int32) b299 (sp1 p4 (0 : Int32) p1) (sp1 p4 (1 : Int32) p2) (sp1 p4 (2 : Int32) p3) ((4 : Int32) - (1 : Int32))) [(.int ((4 : Int32) - (2 : Int32))), (.ref b299)])) rfl rfl (hb hby at_102) _ ?_
    show Sp p e below T310 (mkF m 103 (lt8 p0 p1 p2 p3 p4 (4 : Int32) b299 (sp1 p4 (0 : Int32) p1) (sp1 p4 (1 : Int32) p2) (sp1 p4 (2 : Int32) p3) ((4 : Int32) - (1 : Int32))) [(.int (nar .byte (sp1 p4 (2 : Int32) p3)))]) _
    refine XS.bipush X310.here hx rfl (hb hby at_103) ?_
    show Sp p e below T310 (mkF m 105 (lt8 p0 p1 p2 p3 p4 (4 : Int32) b299 (sp1 p4 (0 : Int32) p1) (sp1 p4 (1 : Int32) p2) (sp1 p4 (2 : Int32) p3) ((4 : Int32) - (1 : Int32))) [(.int (13 : Int32)), (.int (nar .byte (sp1 p4 (2 : Int32) p3)))]) _
    exact kt
  by_cases hc313 : (nar .byte (sp1 p4 (2 : Int32) p3)) = (13 : Int32)
  · obtain ⟨_, _, ⟨T316, L316, k316, n316⟩, -, X316, ⟨Lc316, hQ316, l316, y316, z316⟩, st316⟩ := Jvm.LawKit.callS X310 hx (y := Y11) hown (mvT hZ (hw _ (tk 5 rfl))) (mvT hZ (hw _ (tk 6 rfl))) (mvT hZ (hw _ (tk 7 rfl))) (mvT hZ (hw _ (tk 8 rfl))) (by decide) (backOf (W := 0) (rm2x4 l Z a0 hw hv [] w_1 w_2 w_4 w_5 hS0 b299 k299 (nar .byte (sp1 p4 (0 : Int32) p1)) (nar .byte (sp1 p4 (1 : Int32) p2)) (nar .byte (sp1 p4 (2 : Int32) p3)) (nar .byte (10 : Int32)) h310 n0 O310 g_b299 V_b299_310) hZ (hw _ (tk 8 rfl)) (hw _ (tk 7 rfl)) (by decide) (by decide)) (g := (mkF m 128 (lt9 p0 p1 p2 p3 p4 (4 : Int32) b299 (sp1 p4 (0 : Int32) p1) (sp1 p4 (1 : Int32) p2) (sp1 p4 (2 : Int32) p3) (((4 : Int32) - (1 : Int32)) - (1 : Int32)) (0 : Int32)) [(.ref b299)])) rfl (by rw [hml]; rfl) (argsL := [(.ref b299)]) (rest := []) (lenOf pd_1 rfl) rfl (by show 2 * 0 + _ ≤ _; exact Nat.le_of_eq rfl) (hb hby at_128) (fun _ _ => ⟨rfl, e310, (by decide : 1 + 0 ≤ _), (by decide : 4 + 0 ≤ _)⟩)
    dsimp only [Pt.U, Pt.locs, Pt.cells, Pt.slots] at X316 l316 y316 z316 st316 hQ316
    subst l316 y316 z316
    obtain ⟨rv316, N316q, e316⟩ := hQ316
    rw [show sp2x4 = (0 : Int32) from by unfold sp2x4; rfl] at rv316
    subst rv316
    have N316 := Fr.app N310 N316q
    obtain ⟨_, _, ⟨T362, L362, k362, n362⟩, -, X362, ⟨Lc362, hQ362, l362, y362, z362⟩, st362⟩ := Jvm.LawKit.callS X316 hx (y := Y23) hown (mvT hZ (hw _ (tk 9 rfl))) (mvT hZ (hw _ (tk 10 rfl))) (mvT hZ (hw _ (tk 7 rfl))) (mvT hZ (hw _ (tk 11 rfl))) (by decide) (backOf (W := 0) (rm3x6 l Z a0 hw hv [] w_1 w_2 w_4 w_5 hS0 b299 k299 (nar .byte (sp1 p4 (0 : Int32) p1)) (nar .byte (sp1 p4 (1 : Int32) p2)) (nar .byte (sp1 p4 (2 : Int32) p3)) (nar .byte (10 : Int32)) h310 n0 O310 g_b299 V_b299_310 hc313) hZ (hw _ (tk 11 rfl)) (hw _ (tk 7 rfl)) (by decide) (by decide)) (g := (mkF m 135 (lt11 p0 p1 p2 p3 p4 (4 : Int32) b299 (sp1 p4 (0 : Int32) p1) (sp1 p4 (1 : Int32) p2) (sp1 p4 (2 : Int32) p3) (((4 : Int32) - (1 : Int32)) - (1 : Int32)) (0 : Int32) (0 : Int32)) [(.ref b299)])) rfl (by rw [hml]; rfl) (argsL := [(.ref b299)]) (rest := []) (lenOf pd_7 rfl) rfl (by show 2 * 0 + _ ≤ _; exact Nat.le_of_eq rfl) (hb hby at_135) (fun _ _ => ⟨rfl, e316, (by decide : 1 + 2 ≤ _), (by decide : 4 + 6 ≤ _)⟩)
    dsimp only [Pt.U, Pt.locs, Pt.cells, Pt.slots] at X362 l362 y362 z362 st362 hQ362
    subst l362 y362 z362
    obtain ⟨b363, b364, k365, rv362, N362q, O362, K362c, Fx362_0, Fx362_1, Fx362_2, Fx362_3, Fx362_4, Fx362_5, Fx362_6, Fx362_7, Fx362_8⟩ := hQ362
    subst rv362
    have N362 := Fr.app N316 N362q
    have g_b363 := Fx362_0
    have ne_b299_b363 : b299 ≠ b363 := Nat.ne_of_lt (Nat.lt_of_lt_of_le V_b299_310.lt Fx362_1)
    have g_b364 := Fx362_5
    have ne_b299_b364 : b299 ≠ b364 := Nat.ne_of_lt (Nat.lt_of_lt_of_le V_b299_310.lt Fx362_6)
    obtain ⟨cq368, kq368, q368a, q368b, q368c⟩ := isOf hZ rfl Fx362_2
    obtain ⟨_, _, ⟨T368, L368, k368, n368⟩, -, X368, ⟨Lc368, hQ368, l368, y368, z368⟩, st368⟩ := X362.virtualBack hx (y := Y24) (z := Y24) hown (mvT hZ (hw _ (tk 48 rfl))) (mvT hZ (hw _ (tk 49 rfl))) (notFace_of_selects (args := #[]) (mvT hZ (hw _ (tk 51 rfl)))) (mvT hZ (hw _ (tk 51 rfl))) (mvT hZ (hw _ (tk 50 rfl))) (by decide) (backOf (W := 0) (rm10x5 l Z a0 hw hv [] w_1 w_2 w_4 w_5 hS0 b363 b364 k365 (nar .byte (sp1 p4 (0 : Int32) p1)) (nar .byte (sp1 p4 (1 : Int32) p2)) T362.heap n0 O362 g_b363 g_b364 Fx362_2 Fx362_3 Fx362_7 Fx362_8) hZ (hw _ (tk 52 rfl)) (hw _ (tk 14 rfl)) (by decide) (by decide)) q368a q368c (g := (mkF m 138 (lt11 p0 p1 p2 p3 p4 (4 : Int32) b299 (sp1 p4 (0 : Int32) p1) (sp1 p4 (1 : Int32) p2) (sp1 p4 (2 : Int32) p3) (((4 : Int32) - (1 : Int32)) - (1 : Int32)) (0 : Int32) (0 : Int32)) [(.ref b363)])) rfl (by rw [hml]; rfl) (Steps.refl _) (argsL := []) (rest := []) (lenOf pd_8 rfl) rfl (by show 2 * 0 + _ ≤ _; exact Nat.le_of_eq rfl) (hb hby at_138) (fun _ _ => ⟨rfl, rfl, (by decide : 3 + 0 ≤ _), (by decide : 10 + 0 ≤ _)⟩)
    dsimp only [Pt.U, Pt.locs, Pt.cells, Pt.slots] at X368 l368 y368 z368 st368 hQ368
    subst l368 y368 z368
    obtain ⟨rv368, N368q, e368⟩ := hQ368
    rw [show sp10x5 = (0 : Int32) from by unfold sp10x5; rfl] at rv368
    subst rv368
    have N368 := Fr.app N362 N368q
    obtain ⟨fs, hr, hrun, hended, hW, hsame⟩ := X368.leave (v := some (.int (1 : Int32))) (fun h => by rw [Bd.returns] at h; cases h)
    refine ⟨_, _, pre312 _ ?_, hrun, hended, _, _, rfl, ?_, ReturnedEndW.of_narrow ⟨_, rfl⟩ hW (hsame.mono (by decide) (by decide))⟩
    · show Sp p e below T310 (mkF m 105 (lt8 p0 p1 p2 p3 p4 (4 : Int32) b299 (sp1 p4 (0 : Int32) p1) (sp1 p4 (1 : Int32) p2) (sp1 p4 (2 : Int32) p3) ((4 : Int32) - (1 : Int32))) [(.int (13 : Int32)), (.int (nar .byte (sp1 p4 (2 : Int32) p3)))]) _
      refine XS.icmpNo X310.here hx rfl (hb hby at_105) rfl (teq hc313).2 ?_
      show Sp p e below T310 (mkF m 108 (lt8 p0 p1 p2 p3 p4 (4 : Int32) b299 (sp1 p4 (0 : Int32) p1) (sp1 p4 (1 : Int32) p2) (sp1 p4 (2 : Int32) p3) ((4 : Int32) - (1 : Int32))) []) _
      refine XS.iload X310.here hx rfl (hb hby at_108) rfl ?_
      refine XS.iconst X310.here hx rfl (hb hby at_110) ?_
      show Sp p e below T310 (mkF m 111 (lt8 p0 p1 p2 p3 p4 (4 : Int32) b299 (sp1 p4 (0 : Int32) p1) (sp1 p4 (1 : Int32) p2) (sp1 p4 (2 : Int32) p3) ((4 : Int32) - (1 : Int32))) [(.int (1 : Int32)), (.int ((4 : Int32) - (1 : Int32)))]) _
      refine XS.isub X310.here hx rfl (hb hby at_111) rfl ?_
      refine XS.istore X310.here hx rfl (hb hby at_112) rfl (l' := (lt8 p0 p1 p2 p3 p4 (4 : Int32) b299 (sp1 p4 (0 : Int32) p1) (sp1 p4 (1 : Int32) p2) (sp1 p4 (2 : Int32) p3) (((4 : Int32) - (1 : Int32)) - (1 : Int32)))) rfl ?_
      show Sp p e below T310 (mkF m 114 (lt8 p0 p1 p2 p3 p4 (4 : Int32) b299 (sp1 p4 (0 : Int32) p1) (sp1 p4 (1 : Int32) p2) (sp1 p4 (2 : Int32) p3) (((4 : Int32) - (1 : Int32)) - (1 : Int32))) []) _
      refine XS.iload X310.here hx rfl (hb hby at_114) rfl ?_
      show Sp p e below T310 (mkF m 116 (lt8 p0 p1 p2 p3 p4 (4 : Int32) b299 (sp1 p4 (0 : Int32) p1) (sp1 p4 (1 : Int32) p2) (sp1 p4 (2 : Int32) p3) (((4 : Int32) - (1 : Int32)) - (1 : Int32))) [(.int (((4 : Int32) - (1 : Int32)) - (1 : Int32)))]) _
      refine XS.ifYes X310.here hx rfl (pc0 := 116) (pc' := 123) rfl (hb hby at_116) rfl ((if0 _ _).trans (feq (by decide : ¬ ((((4 : Int32) - (1 : Int32)) - (1 : Int32)) = (0 : Int32)))).2) (by decide) (by decide) ?_
      show Sp p e below T310 (mkF m 123 (lt8 p0 p1 p2 p3 p4 (4 : Int32) b299 (sp1 p4 (0 : Int32) p1) (sp1 p4 (1 : Int32) p2) (sp1 p4 (2 : Int32) p3) (((4 : Int32) - (1 : Int32)) - (1 : Int32))) []) _
      refine XS.iconst X310.here hx rfl (hb hby at_123) ?_
      refine XS.istore X310.here hx rfl (hb hby at_124) rfl (l' := (lt9 p0 p1 p2 p3 p4 (4 : Int32) b299 (sp1 p4 (0 : Int32) p1) (sp1 p4 (1 : Int32) p2) (sp1 p4 (2 : Int32) p3) (((4 : Int32) - (1 : Int32)) - (1 : Int32)) (0 : Int32))) rfl ?_
      show Sp p e below T310 (mkF m 126 (lt9 p0 p1 p2 p3 p4 (4 : Int32) b299 (sp1 p4 (0 : Int32) p1) (sp1 p4 (1 : Int32) p2) (sp1 p4 (2 : Int32) p3) (((4 : Int32) - (1 : Int32)) - (1 : Int32)) (0 : Int32)) []) _
      refine XS.aload X310.here hx rfl (hb hby at_126) rfl rfl ?_
      show Sp p e below T310 (mkF m 128 (lt9 p0 p1 p2 p3 p4 (4 : Int32) b299 (sp1 p4 (0 : Int32) p1) (sp1 p4 (1 : Int32) p2) (sp1 p4 (2 : Int32) p3) (((4 : Int32) - (1 : Int32)) - (1 : Int32)) (0 : Int32)) [(.ref b299)]) _
      refine st316 _ ?_
      show Sp p e below T316 (mkF m 131 (lt9 p0 p1 p2 p3 p4 (4 : Int32) b299 (sp1 p4 (0 : Int32) p1) (sp1 p4 (1 : Int32) p2) (sp1 p4 (2 : Int32) p3) (((4 : Int32) - (1 : Int32)) - (1 : Int32)) (0 : Int32)) [(.int (0 : Int32))]) _
      refine XS.istore X316.here hx rfl (hb hby at_131) rfl (l' := (lt11 p0 p1 p2 p3 p4 (4 : Int32) b299 (sp1 p4 (0 : Int32) p1) (sp1 p4 (1 : Int32) p2) (sp1 p4 (2 : Int32) p3) (((4 : Int32) - (1 : Int32)) - (1 : Int32)) (0 : Int32) (0 : Int32))) rfl ?_
      refine XS.aload X316.here hx rfl (hb hby at_133) rfl rfl ?_
      show Sp p e below T316 (mkF m 135 (lt11 p0 p1 p2 p3 p4 (4 : Int32) b299 (sp1 p4 (0 : Int32) p1) (sp1 p4 (1 : Int32) p2) (sp1 p4 (2 : Int32) p3) (((4 : Int32) - (1 : Int32)) - (1 : Int32)) (0 : Int32) (0 : Int32)) [(.ref b299)]) _
      refine st362 _ ?_
      show Sp p e below T362 (mkF m 138 (lt11 p0 p1 p2 p3 p4 (4 : Int32) b299 (sp1 p4 (0 : Int32) p1) (sp1 p4 (1 : Int32) p2) (sp1 p4 (2 : Int32) p3) (((4 : Int32) - (1 : Int32)) - (1 : Int32)) (0 : Int32) (0 : Int32)) [(.ref b363)]) _
      refine st368.trans ?_
      show Sp p e below T368 (mkF m 141 (lt11 p0 p1 p2 p3 p4 (4 : Int32) b299 (sp1 p4 (0 : Int32) p1) (sp1 p4 (1 : Int32) p2) (sp1 p4 (2 : Int32) p3) (((4 : Int32) - (1 : Int32)) - (1 : Int32)) (0 : Int32) (0 : Int32)) [(.int (0 : Int32))]) _
      refine XS.istore X368.here hx rfl (hb hby at_141) rfl (l' := (lt17 p0 p1 p2 p3 p4 (4 : Int32) b299 (sp1 p4 (0 : Int32) p1) (sp1 p4 (1 : Int32) p2) (sp1 p4 (2 : Int32) p3) (((4 : Int32) - (1 : Int32)) - (1 : Int32)) (0 : Int32) (0 : Int32) (0 : Int32))) rfl ?_
      refine XS.iload X368.here hx rfl (hb hby at_143) rfl ?_
      show Sp p e below T368 (mkF m 145 (lt17 p0 p1 p2 p3 p4 (4 : Int32) b299 (sp1 p4 (0 : Int32) p1) (sp1 p4 (1 : Int32) p2) (sp1 p4 (2 : Int32) p3) (((4 : Int32) - (1 : Int32)) - (1 : Int32)) (0 : Int32) (0 : Int32) (0 : Int32)) [(.int (0 : Int32))]) _
      refine XS.iload X368.here hx rfl (hb hby at_145) rfl ?_
      show Sp p e below T368 (mkF m 147 (lt17 p0 p1 p2 p3 p4 (4 : Int32) b299 (sp1 p4 (0 : Int32) p1) (sp1 p4 (1 : Int32) p2) (sp1 p4 (2 : Int32) p3) (((4 : Int32) - (1 : Int32)) - (1 : Int32)) (0 : Int32) (0 : Int32) (0 : Int32)) [(.int (0 : Int32)), (.int (0 : Int32))]) _
      refine XS.icmpNo X368.here hx rfl (hb hby at_147) rfl (teq (by decide : ((0 : Int32) = (0 : Int32)))).2 ?_
      show Sp p e below T368 (mkF m 150 (lt17 p0 p1 p2 p3 p4 (4 : Int32) b299 (sp1 p4 (0 : Int32) p1) (sp1 p4 (1 : Int32) p2) (sp1 p4 (2 : Int32) p3) (((4 : Int32) - (1 : Int32)) - (1 : Int32)) (0 : Int32) (0 : Int32) (0 : Int32)) []) _
      refine XS.iload X368.here hx rfl (hb hby at_150) rfl ?_
      refine XS.iload X368.here hx rfl (hb hby at_152) rfl ?_
      show Sp p e below T368 (mkF m 154 (lt17 p0 p1 p2 p3 p4 (4 : Int32) b299 (sp1 p4 (0 : Int32) p1) (sp1 p4 (1 : Int32) p2) (sp1 p4 (2 : Int32) p3) (((4 : Int32) - (1 : Int32)) - (1 : Int32)) (0 : Int32) (0 : Int32) (0 : Int32)) [(.int (0 : Int32)), (.int (0 : Int32))]) _
      refine XS.icmpNo X368.here hx rfl (hb hby at_154) rfl (teq (by decide : ((0 : Int32) = (0 : Int32)))).2 ?_
      show Sp p e below T368 (mkF m 157 (lt17 p0 p1 p2 p3 p4 (4 : Int32) b299 (sp1 p4 (0 : Int32) p1) (sp1 p4 (1 : Int32) p2) (sp1 p4 (2 : Int32) p3) (((4 : Int32) - (1 : Int32)) - (1 : Int32)) (0 : Int32) (0 : Int32) (0 : Int32)) []) _
      refine XS.iconst X368.here hx rfl (hb hby at_157) ?_
      show Sp p e below T368 (mkF m 158 (lt17 p0 p1 p2 p3 p4 (4 : Int32) b299 (sp1 p4 (0 : Int32) p1) (sp1 p4 (1 : Int32) p2) (sp1 p4 (2 : Int32) p3) (((4 : Int32) - (1 : Int32)) - (1 : Int32)) (0 : Int32) (0 : Int32) (0 : Int32)) [(.int (1 : Int32))]) _
      refine XS.goto X368.here hx rfl (pc0 := 158) (pc' := 162) rfl (hb hby at_158) (by decide) (by decide) ?_
      show Sp p e below T368 (mkF m 162 (lt17 p0 p1 p2 p3 p4 (4 : Int32) b299 (sp1 p4 (0 : Int32) p1) (sp1 p4 (1 : Int32) p2) (sp1 p4 (2 : Int32) p3) (((4 : Int32) - (1 : Int32)) - (1 : Int32)) (0 : Int32) (0 : Int32) (0 : Int32)) [(.int (1 : Int32))]) _
      exact retN X368 hx (t := .boolean) Bd.returns (by simp) (hb hby at_162) hr
    · show Q0 Z w_1 w_2 w_4 w_5 p0 p1 p2 p3 p4 h0 n0 _ T368.heap _
      rw [e368]
      exact ⟨by unfold sp0; rw [if_neg hc1, if_neg hc55, if_neg hc172, if_pos hc313], N368, trivial⟩
  · obtain ⟨_, _, ⟨T369, L369, k369, n369⟩, -, X369, ⟨Lc369, hQ369, l369, y369, z369⟩, st369⟩ := Jvm.LawKit.callS X310 hx (y := Y11) hown (mvT hZ (hw _ (tk 5 rfl))) (mvT hZ (hw _ (tk 6 rfl))) (mvT hZ (hw _ (tk 7 rfl))) (mvT hZ (hw _ (tk 8 rfl))) (by decide) (backOf (W := 0) (rm2x4 l Z a0 hw hv [] w_1 w_2 w_4 w_5 hS0 b299 k299 (nar .byte (sp1 p4 (0 : Int32) p1)) (nar .byte (sp1 p4 (1 : Int32) p2)) (nar .byte (sp1 p4 (2 : Int32) p3)) (nar .byte (10 : Int32)) h310 n0 O310 g_b299 V_b299_310) hZ (hw _ (tk 8 rfl)) (hw _ (tk 7 rfl)) (by decide) (by decide)) (g := (mkF m 128 (lt9 p0 p1 p2 p3 p4 (4 : Int32) b299 (sp1 p4 (0 : Int32) p1) (sp1 p4 (1 : Int32) p2) (sp1 p4 (2 : Int32) p3) ((4 : Int32) - (1 : Int32)) (0 : Int32)) [(.ref b299)])) rfl (by rw [hml]; rfl) (argsL := [(.ref b299)]) (rest := []) (lenOf pd_1 rfl) rfl (by show 2 * 0 + _ ≤ _; exact Nat.le_of_eq rfl) (hb hby at_128) (fun _ _ => ⟨rfl, e310, (by decide : 1 + 0 ≤ _), (by decide : 4 + 0 ≤ _)⟩)
    dsimp only [Pt.U, Pt.locs, Pt.cells, Pt.slots] at X369 l369 y369 z369 st369 hQ369
    subst l369 y369 z369
    obtain ⟨rv369, N369q, e369⟩ := hQ369
    rw [show sp2x4 = (0 : Int32) from by unfold sp2x4; rfl] at rv369
    subst rv369
    have N369 := Fr.app N310 N369q
    obtain ⟨_, _, ⟨T415, L415, k415, n415⟩, -, X415, ⟨Lc415, hQ415, l415, y415, z415⟩, st415⟩ := Jvm.LawKit.callS X369 hx (y := Y23) hown (mvT hZ (hw _ (tk 9 rfl))) (mvT hZ (hw _ (tk 10 rfl))) (mvT hZ (hw _ (tk 7 rfl))) (mvT hZ (hw _ (tk 11 rfl))) (by decide) (backOf (W := 0) (rm3x7 l Z a0 hw hv [] w_1 w_2 w_4 w_5 hS0 b299 k299 (nar .byte (sp1 p4 (0 : Int32) p1)) (nar .byte (sp1 p4 (1 : Int32) p2)) (nar .byte (sp1 p4 (2 : Int32) p3)) (nar .byte (10 : Int32)) h310 n0 O310 g_b299 V_b299_310 hc313) hZ (hw _ (tk 11 rfl)) (hw _ (tk 7 rfl)) (by decide) (by decide)) (g := (mkF m 135 (lt11 p0 p1 p2 p3 p4 (4 : Int32) b299 (sp1 p4 (0 : Int32) p1) (sp1 p4 (1 : Int32) p2) (sp1 p4 (2 : Int32) p3) ((4 : Int32) - (1 : Int32)) (0 : Int32) (0 : Int32)) [(.ref b299)])) rfl (by rw [hml]; rfl) (argsL := [(.ref b299)]) (rest := []) (lenOf pd_7 rfl) rfl (by show 2 * 0 + _ ≤ _; exact Nat.le_of_eq rfl) (hb hby at_135) (fun _ _ => ⟨rfl, e369, (by decide : 1 + 2 ≤ _), (by decide : 4 + 7 ≤ _)⟩)
    dsimp only [Pt.U, Pt.locs, Pt.cells, Pt.slots] at X415 l415 y415 z415 st415 hQ415
    subst l415 y415 z415
    obtain ⟨b416, b417, k418, rv415, N415q, O415, K415c, Fx415_0, Fx415_1, Fx415_2, Fx415_3, Fx415_4, Fx415_5, Fx415_6, Fx415_7, Fx415_8⟩ := hQ415
    subst rv415
    have N415 := Fr.app N369 N415q
    have g_b416 := Fx415_0
    have ne_b299_b416 : b299 ≠ b416 := Nat.ne_of_lt (Nat.lt_of_lt_of_le V_b299_310.lt Fx415_1)
    have g_b417 := Fx415_5
    have ne_b299_b417 : b299 ≠ b417 := Nat.ne_of_lt (Nat.lt_of_lt_of_le V_b299_310.lt Fx415_6)
    obtain ⟨cq421, kq421, q421a, q421b, q421c⟩ := isOf hZ rfl Fx415_2
    obtain ⟨_, _, ⟨T421, L421, k421, n421⟩, -, X421, ⟨Lc421, hQ421, l421, y421, z421⟩, st421⟩ := X415.virtualBack hx (y := Y24) (z := Y24) hown (mvT hZ (hw _ (tk 48 rfl))) (mvT hZ (hw _ (tk 49 rfl))) (notFace_of_selects (args := #[]) (mvT hZ (hw _ (tk 51 rfl)))) (mvT hZ (hw _ (tk 51 rfl))) (mvT hZ (hw _ (tk 50 rfl))) (by decide) (backOf (W := 0) (rm10x6 l Z a0 hw hv [] w_1 w_2 w_4 w_5 hS0 b416 b417 k418 (nar .byte (sp1 p4 (0 : Int32) p1)) (nar .byte (sp1 p4 (1 : Int32) p2)) (nar .byte (sp1 p4 (2 : Int32) p3)) T415.heap n0 O415 g_b416 g_b417 Fx415_2 Fx415_3 Fx415_7 Fx415_8) hZ (hw _ (tk 52 rfl)) (hw _ (tk 14 rfl)) (by decide) (by decide)) q421a q421c (g := (mkF m 138 (lt11 p0 p1 p2 p3 p4 (4 : Int32) b299 (sp1 p4 (0 : Int32) p1) (sp1 p4 (1 : Int32) p2) (sp1 p4 (2 : Int32) p3) ((4 : Int32) - (1 : Int32)) (0 : Int32) (0 : Int32)) [(.ref b416)])) rfl (by rw [hml]; rfl) (Steps.refl _) (argsL := []) (rest := []) (lenOf pd_8 rfl) rfl (by show 2 * 0 + _ ≤ _; exact Nat.le_of_eq rfl) (hb hby at_138) (fun _ _ => ⟨rfl, rfl, (by decide : 3 + 0 ≤ _), (by decide : 11 + 0 ≤ _)⟩)
    dsimp only [Pt.U, Pt.locs, Pt.cells, Pt.slots] at X421 l421 y421 z421 st421 hQ421
    subst l421 y421 z421
    obtain ⟨rv421, N421q, e421⟩ := hQ421
    rw [show sp10x6 = (0 : Int32) from by unfold sp10x6; rfl] at rv421
    subst rv421
    have N421 := Fr.app N415 N421q
    obtain ⟨fs, hr, hrun, hended, hW, hsame⟩ := X421.leave (v := some (.int (1 : Int32))) (fun h => by rw [Bd.returns] at h; cases h)
    refine ⟨_, _, pre312 _ ?_, hrun, hended, _, _, rfl, ?_, ReturnedEndW.of_narrow ⟨_, rfl⟩ hW (hsame.mono (by decide) (by decide))⟩
    · show Sp p e below T310 (mkF m 105 (lt8 p0 p1 p2 p3 p4 (4 : Int32) b299 (sp1 p4 (0 : Int32) p1) (sp1 p4 (1 : Int32) p2) (sp1 p4 (2 : Int32) p3) ((4 : Int32) - (1 : Int32))) [(.int (13 : Int32)), (.int (nar .byte (sp1 p4 (2 : Int32) p3)))]) _
      refine XS.icmpYes X310.here hx rfl (pc0 := 105) (pc' := 114) rfl (hb hby at_105) rfl (feq hc313).2 (by decide) (by decide) ?_
      show Sp p e below T310 (mkF m 114 (lt8 p0 p1 p2 p3 p4 (4 : Int32) b299 (sp1 p4 (0 : Int32) p1) (sp1 p4 (1 : Int32) p2) (sp1 p4 (2 : Int32) p3) ((4 : Int32) - (1 : Int32))) []) _
      refine XS.iload X310.here hx rfl (hb hby at_114) rfl ?_
      show Sp p e below T310 (mkF m 116 (lt8 p0 p1 p2 p3 p4 (4 : Int32) b299 (sp1 p4 (0 : Int32) p1) (sp1 p4 (1 : Int32) p2) (sp1 p4 (2 : Int32) p3) ((4 : Int32) - (1 : Int32))) [(.int ((4 : Int32) - (1 : Int32)))]) _
      refine XS.ifYes X310.here hx rfl (pc0 := 116) (pc' := 123) rfl (hb hby at_116) rfl ((if0 _ _).trans (feq (by decide : ¬ (((4 : Int32) - (1 : Int32)) = (0 : Int32)))).2) (by decide) (by decide) ?_
      show Sp p e below T310 (mkF m 123 (lt8 p0 p1 p2 p3 p4 (4 : Int32) b299 (sp1 p4 (0 : Int32) p1) (sp1 p4 (1 : Int32) p2) (sp1 p4 (2 : Int32) p3) ((4 : Int32) - (1 : Int32))) []) _
      refine XS.iconst X310.here hx rfl (hb hby at_123) ?_
      refine XS.istore X310.here hx rfl (hb hby at_124) rfl (l' := (lt9 p0 p1 p2 p3 p4 (4 : Int32) b299 (sp1 p4 (0 : Int32) p1) (sp1 p4 (1 : Int32) p2) (sp1 p4 (2 : Int32) p3) ((4 : Int32) - (1 : Int32)) (0 : Int32))) rfl ?_
      show Sp p e below T310 (mkF m 126 (lt9 p0 p1 p2 p3 p4 (4 : Int32) b299 (sp1 p4 (0 : Int32) p1) (sp1 p4 (1 : Int32) p2) (sp1 p4 (2 : Int32) p3) ((4 : Int32) - (1 : Int32)) (0 : Int32)) []) _
      refine XS.aload X310.here hx rfl (hb hby at_126) rfl rfl ?_
      show Sp p e below T310 (mkF m 128 (lt9 p0 p1 p2 p3 p4 (4 : Int32) b299 (sp1 p4 (0 : Int32) p1) (sp1 p4 (1 : Int32) p2) (sp1 p4 (2 : Int32) p3) ((4 : Int32) - (1 : Int32)) (0 : Int32)) [(.ref b299)]) _
      refine st369 _ ?_
      show Sp p e below T369 (mkF m 131 (lt9 p0 p1 p2 p3 p4 (4 : Int32) b299 (sp1 p4 (0 : Int32) p1) (sp1 p4 (1 : Int32) p2) (sp1 p4 (2 : Int32) p3) ((4 : Int32) - (1 : Int32)) (0 : Int32)) [(.int (0 : Int32))]) _
      refine XS.istore X369.here hx rfl (hb hby at_131) rfl (l' := (lt11 p0 p1 p2 p3 p4 (4 : Int32) b299 (sp1 p4 (0 : Int32) p1) (sp1 p4 (1 : Int32) p2) (sp1 p4 (2 : Int32) p3) ((4 : Int32) - (1 : Int32)) (0 : Int32) (0 : Int32))) rfl ?_
      refine XS.aload X369.here hx rfl (hb hby at_133) rfl rfl ?_
      show Sp p e below T369 (mkF m 135 (lt11 p0 p1 p2 p3 p4 (4 : Int32) b299 (sp1 p4 (0 : Int32) p1) (sp1 p4 (1 : Int32) p2) (sp1 p4 (2 : Int32) p3) ((4 : Int32) - (1 : Int32)) (0 : Int32) (0 : Int32)) [(.ref b299)]) _
      refine st415 _ ?_
      show Sp p e below T415 (mkF m 138 (lt11 p0 p1 p2 p3 p4 (4 : Int32) b299 (sp1 p4 (0 : Int32) p1) (sp1 p4 (1 : Int32) p2) (sp1 p4 (2 : Int32) p3) ((4 : Int32) - (1 : Int32)) (0 : Int32) (0 : Int32)) [(.ref b416)]) _
      refine st421.trans ?_
      show Sp p e below T421 (mkF m 141 (lt11 p0 p1 p2 p3 p4 (4 : Int32) b299 (sp1 p4 (0 : Int32) p1) (sp1 p4 (1 : Int32) p2) (sp1 p4 (2 : Int32) p3) ((4 : Int32) - (1 : Int32)) (0 : Int32) (0 : Int32)) [(.int (0 : Int32))]) _
      refine XS.istore X421.here hx rfl (hb hby at_141) rfl (l' := (lt17 p0 p1 p2 p3 p4 (4 : Int32) b299 (sp1 p4 (0 : Int32) p1) (sp1 p4 (1 : Int32) p2) (sp1 p4 (2 : Int32) p3) ((4 : Int32) - (1 : Int32)) (0 : Int32) (0 : Int32) (0 : Int32))) rfl ?_
      refine XS.iload X421.here hx rfl (hb hby at_143) rfl ?_
      show Sp p e below T421 (mkF m 145 (lt17 p0 p1 p2 p3 p4 (4 : Int32) b299 (sp1 p4 (0 : Int32) p1) (sp1 p4 (1 : Int32) p2) (sp1 p4 (2 : Int32) p3) ((4 : Int32) - (1 : Int32)) (0 : Int32) (0 : Int32) (0 : Int32)) [(.int (0 : Int32))]) _
      refine XS.iload X421.here hx rfl (hb hby at_145) rfl ?_
      show Sp p e below T421 (mkF m 147 (lt17 p0 p1 p2 p3 p4 (4 : Int32) b299 (sp1 p4 (0 : Int32) p1) (sp1 p4 (1 : Int32) p2) (sp1 p4 (2 : Int32) p3) ((4 : Int32) - (1 : Int32)) (0 : Int32) (0 : Int32) (0 : Int32)) [(.int (0 : Int32)), (.int (0 : Int32))]) _
      refine XS.icmpNo X421.here hx rfl (hb hby at_147) rfl (teq (by decide : ((0 : Int32) = (0 : Int32)))).2 ?_
      show Sp p e below T421 (mkF m 150 (lt17 p0 p1 p2 p3 p4 (4 : Int32) b299 (sp1 p4 (0 : Int32) p1) (sp1 p4 (1 : Int32) p2) (sp1 p4 (2 : Int32) p3) ((4 : Int32) - (1 : Int32)) (0 : Int32) (0 : Int32) (0 : Int32)) []) _
      refine XS.iload X421.here hx rfl (hb hby at_150) rfl ?_
      refine XS.iload X421.here hx rfl (hb hby at_152) rfl ?_
      show Sp p e below T421 (mkF m 154 (lt17 p0 p1 p2 p3 p4 (4 : Int32) b299 (sp1 p4 (0 : Int32) p1) (sp1 p4 (1 : Int32) p2) (sp1 p4 (2 : Int32) p3) ((4 : Int32) - (1 : Int32)) (0 : Int32) (0 : Int32) (0 : Int32)) [(.int (0 : Int32)), (.int (0 : Int32))]) _
      refine XS.icmpNo X421.here hx rfl (hb hby at_154) rfl (teq (by decide : ((0 : Int32) = (0 : Int32)))).2 ?_
      show Sp p e below T421 (mkF m 157 (lt17 p0 p1 p2 p3 p4 (4 : Int32) b299 (sp1 p4 (0 : Int32) p1) (sp1 p4 (1 : Int32) p2) (sp1 p4 (2 : Int32) p3) ((4 : Int32) - (1 : Int32)) (0 : Int32) (0 : Int32) (0 : Int32)) []) _
      refine XS.iconst X421.here hx rfl (hb hby at_157) ?_
      show Sp p e below T421 (mkF m 158 (lt17 p0 p1 p2 p3 p4 (4 : Int32) b299 (sp1 p4 (0 : Int32) p1) (sp1 p4 (1 : Int32) p2) (sp1 p4 (2 : Int32) p3) ((4 : Int32) - (1 : Int32)) (0 : Int32) (0 : Int32) (0 : Int32)) [(.int (1 : Int32))]) _
      refine XS.goto X421.here hx rfl (pc0 := 158) (pc' := 162) rfl (hb hby at_158) (by decide) (by decide) ?_
      show Sp p e below T421 (mkF m 162 (lt17 p0 p1 p2 p3 p4 (4 : Int32) b299 (sp1 p4 (0 : Int32) p1) (sp1 p4 (1 : Int32) p2) (sp1 p4 (2 : Int32) p3) ((4 : Int32) - (1 : Int32)) (0 : Int32) (0 : Int32) (0 : Int32)) [(.int (1 : Int32))]) _
      exact retN X421 hx (t := .boolean) Bd.returns (by simp) (hb hby at_162) hr
    · show Q0 Z w_1 w_2 w_4 w_5 p0 p1 p2 p3 p4 h0 n0 _ T421.heap _
      rw [e421]
      exact ⟨by unfold sp0; rw [if_neg hc1, if_neg hc55, if_neg hc172, if_neg hc313], N421, trivial⟩
set_option maxRecDepth 65536 in
set_option maxHeartbeats 40000000 in
theorem rm0 (l : Launch) (Z : State) (a0 : Array Value) (hw : ∀ d ∈ tables_1, d.before a0 Z = true) (hv : ∀ d ∈ jdkStatics_1, d.before a0 Z = true) (wS : ∀ d ∈ Bundle.stringAtoms, d.before a0 Z = true) (hEL : EW Z a0 EL1) (ws : List Jvm.Cond) (w_1 : Addr) (w_2 : Addr) (w_4 : Int32) (w_5 : Value) (hS : StF Z w_1 w_2 w_4 w_5) (p0 : Int32) (p1 : Int32) (p2 : Int32) (p3 : Int32) (p4 : Int32) (h0 : Heap) (n0 : Nat) (O0 : Old Z n0 h0) :
    MetFree l x (head1 (Jvm.Cond.code x code maxLocals ret :: ws) room_1) (fun a U => a = #[(.int p0), (.int p1), (.int p2), (.int p3), (.int p4)] ∧ Z.Warmed39 U.vm ∧ U.heap = h0 ∧ CHv Z EL1 U.vm Z.heap) (fun _ _ _ _ _ => True) (fun _ U o U' => ∃ v L, o = .returned v ∧ Q0 Z w_1 w_2 w_4 w_5 p0 p1 p2 p3 p4 h0 n0 v U'.heap L ∧ ReturnedEndW U o U' L room_1.cells room_1.slots) := by
  by_cases hc1 : (p0 &&& (3 : Int32)) = (0 : Int32)
  · exact rm0_1 l Z a0 hw hv wS hEL ws w_1 w_2 w_4 w_5 hS p0 p1 p2 p3 p4 h0 n0 O0 hc1
  · by_cases hc55 : (p0 &&& (3 : Int32)) = (1 : Int32)
    · exact rm0_2 l Z a0 hw hv wS hEL ws w_1 w_2 w_4 w_5 hS p0 p1 p2 p3 p4 h0 n0 O0 hc1 hc55
    · by_cases hc172 : (p0 &&& (3 : Int32)) = (2 : Int32)
      · exact rm0_3 l Z a0 hw hv wS hEL ws w_1 w_2 w_4 w_5 hS p0 p1 p2 p3 p4 h0 n0 O0 hc1 hc55 hc172
      · have hL296 : (p0 &&& (3 : Int32)) = (3 : Int32) := by
          have r : 0 ≤ ((p0 &&& (3 : Int32))).toInt ∧ ((p0 &&& (3 : Int32))).toInt < 4 := (own_rand p0 (3 : Int32) 4 (by decide) (by decide))
          have q0 := own_ne hc1 (n := 0) (by decide)
          have q1 := own_ne hc55 (n := 1) (by decide)
          have q2 := own_ne hc172 (n := 2) (by decide)
          exact own_eq (n := 3) (by decide) (by omega)
        exact rm0_4 l Z a0 hw hv wS hEL ws w_1 w_2 w_4 w_5 hS p0 p1 p2 p3 p4 h0 n0 O0 hc1 hc55 hc172 hL296

theorem own_plain (p0 : Int32) (p1 : Int32) (p2 : Int32) (p3 : Int32) (p4 : Int32) : sp0 p0 p1 p2 p3 p4 = (1 : Int32) := by
  unfold sp0
  (repeat' split) <;> rfl
set_option maxRecDepth 65536 in
set_option maxHeartbeats 40000000 in
theorem comes_1 {Post : Tables → Env → Array Value → State → Outcome → State → Prop} (hpost : ∀ tb e args s v u, (limb_1_1.after args s (.returned v) u = true ∧ limb_1_2.after args s (.returned v) u = true ∧ True) → ReturnedEndW s (.returned v) u (Jvm.fieldLocs frame_1_writes args s ++ Jvm.arrayLocs frame_1_arrays args s ++ Jvm.staticLocs frame_1_statics s) 16 1152 → Post tb e args s (.returned v) u) :
    ArmFor flags0 classFile x code maxLocals ret World_1 tables_1 room_1 Calls_1 rest_1 Pre_1 Post := by
  intro l hfl _ _ p e ha hc hk s m args below hf hA hF happ hP
  obtain ⟨hcalls, hrest, hpre⟩ := hP
  obtain ⟨-, -, -, hnamed, -, -, -, hat⟩ := (Spec.applies_iff hf).mp happ
  obtain ⟨hg, hn⟩ := and_e (Cond.before_iff.mp (show (Jvm.Cond.and given_1 narrow_1).before args s = true from hpre))
  obtain ⟨g422, g423⟩ := and_e hg
  obtain ⟨g424, g425⟩ := and_e g423
  obtain ⟨g426, g427⟩ := and_e g425
  obtain ⟨g428, g429⟩ := and_e g427
  obtain ⟨g430, g431⟩ := and_e g429
  obtain ⟨w0, w1, w2, w3, w4, rfl⟩ : ∃ w0 w1 w2 w3 w4 : Value, args = #[w0, w1, w2, w3, w4] := by
    have hs : args.size = 5 := by simpa [Cond.value, given_1] using g422
    obtain ⟨L⟩ := args
    match L, hs with
    | [w0, w1, w2, w3, w4], _ => exact ⟨w0, w1, w2, w3, w4, rfl⟩
  have hw := fun d (hd : d ∈ tables_1) => atoms_spec (ws := Jvm.Cond.code x code maxLocals ret :: tables_1) hat d (List.mem_cons_of_mem _ hd)
  have hfit : Fit s := fun {y c} hc i hi => by
    obtain ⟨ha, rfl⟩ := Array.getElem?_eq_some_iff.mp hc
    have q := List.all_eq_true.mp ((Array.all_eq_true_iff_forall_mem.mp hF) _ (Array.getElem_mem ha)) i (List.mem_range.mpr hi)
    simpa [Array.getElem?_eq_getElem hi] using q
  obtain ⟨i0, ei0⟩ := is_v g424
  obtain rfl : w0 = (.int i0) := Option.some.inj ei0
  obtain ⟨i1, ei1⟩ := is_v g426
  obtain rfl : w1 = (.int i1) := Option.some.inj ei1
  obtain ⟨i2, ei2⟩ := is_v g428
  obtain rfl : w2 = (.int i2) := Option.some.inj ei2
  obtain ⟨i3, ei3⟩ := is_v g430
  obtain rfl : w3 = (.int i3) := Option.some.inj ei3
  obtain ⟨i4, ei4⟩ := is_v g431
  obtain rfl : w4 = (.int i4) := Option.some.inj ei4
  obtain ⟨hsets, hown0⟩ := atoms_of _ (rest_1_c_eq ▸ (show rest_1_c.before _ s = true from hrest))
  obtain ⟨w_1, ew_1⟩ := exa_v (Cond.before_iff.mp (hsets _ (tk 5 rfl)))
  have S_1 : Sta s s.heap "java/nio/charset/StandardCharsets" "ISO_8859_1" "Ljava/nio/charset/Charset;" (.ref w_1) := Sta.start ew_1 (Or.inl (hsets _ (tk 1 rfl)))
  have E_1 : Exa s s.heap w_1 "sun/nio/cs/ISO_8859_1" := Exa.start ew_1 (Cond.before_iff.mp (hsets _ (tk 5 rfl)))
  obtain ⟨w_2, ew_2⟩ := exa_v (Cond.before_iff.mp (hsets _ (tk 17 rfl)))
  have S_2 : Sta s s.heap "sun/nio/cs/UTF_8" "INSTANCE" "Lsun/nio/cs/UTF_8;" (.ref w_2) := Sta.start ew_2 (Or.inl (hsets _ (tk 16 rfl)))
  have E_2 : Exa s s.heap w_2 "sun/nio/cs/UTF_8" := Exa.start ew_2 (Cond.before_iff.mp (hsets _ (tk 17 rfl)))
  obtain ⟨w_3, ew_3⟩ := exa_v (Cond.before_iff.mp (hsets _ (tk 20 rfl)))
  have S_3 : Sta s s.heap "sun/nio/cs/ISO_8859_1" "INSTANCE" "Lsun/nio/cs/ISO_8859_1;" (.ref w_3) := Sta.start ew_3 (Or.inl (hsets _ (tk 3 rfl)))
  have E_3 : Exa s s.heap w_3 "sun/nio/cs/ISO_8859_1" := Exa.start ew_3 (Cond.before_iff.mp (hsets _ (tk 20 rfl)))
  obtain rfl : w_1 = w_3 := (own_seq ew_1 ew_3 (Cond.before_iff.mp (hsets _ (tk 4 rfl)))).symm
  obtain ⟨w_4, ew_4⟩ := is_v (Cond.before_iff.mp (hsets _ (tk 7 rfl)))
  have S_4 : Sta s s.heap "java/lang/String" "COMPACT_STRINGS" "Z" (.int w_4) := Sta.start ew_4 (Or.inl (hsets _ (tk 6 rfl)))
  have NE_4 : ¬ (w_4 = (0 : Int32)) := own_snot ew_4 (Cond.before_iff.mp (hsets _ (tk 8 rfl)))
  obtain ⟨w_5, ew_5, IR_5⟩ := isR_v (Cond.before_iff.mp (hsets _ (tk 14 rfl)))
  have S_5 : Sta s s.heap "jdk/internal/util/Preconditions" "SIOOBE_FORMATTER" "Ljava/util/function/BiFunction;" w_5 := Sta.start ew_5 (Or.inl (hsets _ (tk 13 rfl)))
  have hS : StF s w_1 w_2 w_4 w_5 := ⟨S_1, E_1, S_2, E_2, S_3, E_3, S_4, NE_4, S_5, IR_5⟩
  have wS : ∀ d ∈ Bundle.stringAtoms, d.before _ s = true := fun d hd => by
    simp only [Bundle.stringAtoms, List.mem_cons, List.not_mem_nil, or_false] at hd
    rcases hd with rfl | rfl | rfl | rfl | rfl | rfl | rfl
    · exact (hw _ (tk 14 rfl))
    · exact (hw _ (tk 13 rfl))
    · exact (hw _ (tk 0 rfl))
    · exact (hw _ (tk 42 rfl))
    · exact (hw _ (tk 43 rfl))
    · exact (hw _ (tk 44 rfl))
    · exact (hw _ (tk 45 rfl))
  have hEL : EW s _ EL1 := EW.cons (hw _ (tk 41 rfl)) (by decide) EW.nil
  have hCZ : CHv s EL1 s.vm s.heap := CHv.start hEL (fun p hp => hcalls.1 p hp) (hsets _ (tk 8 rfl)) (hw _ (tk 0 rfl)) (hw _ (tk 13 rfl))
  obtain ⟨n, o, h1, h2, h3, _, L, rfl, ⟨hv, N, -⟩, hq⟩ := rm0 l s _ hw hsets wS hEL tables_1 w_1 w_2 w_4 w_5 hS i0 i1 i2 i3 i4 s.heap s.heap.size (Old.start s) p e ha hc hk s m _ below hf ((Spec.applies_iff_loose hf).mp happ).1 ⟨rfl, State.Warmed39.refl s, rfl, hCZ⟩ trivial
  rw [own_plain i0 i1 i2 i3 i4] at hv
  subst hv
  refine ⟨n, _, h1, h2, h3, hpost _ _ _ _ _ _ ⟨Cond.after_iff.mpr rfl, Cond.after_iff.mpr (eq_i res_at (Term.int_eval (1)) rfl), trivial⟩ ⟨hq.1, hq.2.1, hq.2.2.1, (hq.2.2.2.sift fun y hy => Or.inr (N y hy)).mono (by decide) (by decide)⟩⟩
theorem main_1_1 : Claimed_1_1 := comes_1 fun _ _ _ _ _ _ h hF => ⟨h.1, hF⟩
theorem main_1_2 : Claimed_1_2 := comes_1 fun _ _ _ _ _ _ h hF => ⟨h.2.1, hF⟩
end Jvm.Pilot.@@N@@
namespace Jvm.Pilot.@@N@@
open Jvm Jvm.ClassFile Sem Op Lib Jvm.Free Jvm.Stand Jvm.Pilot.@@N@@.Jvm.D
/-! MADE BY PROGRAM (witnessworld.py) out of the Statement's table words and the real class files: 27 classes; the members and pool entries that the words name. The judged class is class 1, her method 2. -/
namespace start1
open Jvm.ClassFile
def u (s : String) : CpInfo := .utf8 (stringToUtf16 s)
/-- a pool by its gaps: so many unusable entries, then the entry; so many at the end -/
def gap : Nat → List CpInfo → List CpInfo
  | 0, r => r
  | n + 1, r => .unusable :: gap n r
def poolList (es : List (Nat × CpInfo)) (last : Nat) : List CpInfo := es.foldr (fun e r => gap e.1 (e.2 :: r)) (gap last [])
def pool (es : List (Nat × CpInfo)) (last : Nat) : Array CpInfo := ⟨poolList es last⟩
def fileOf (pool : Array CpInfo) (this : Nat) (attrs : Array Attribute := #[]) (ms : Array MethodInfo := #[]) (fl : Nat := 33) (sup : Nat := 0) (ifs : Array Nat := #[]) (fds : Array FieldInfo := #[]) : ClassFile where
  minorVersion := 0
  majorVersion := 65
  constantPool := pool
  accessFlags := fl
  thisClass := this
  superClass := sup
  interfaces := ifs
  fields := fds
  methods := ms
  attributes := attrs
def plain (name : String) (sup : Option ClassId) : Class where
  name := name
  kind := .ordinary
  loader := none
  accessFlags := 33
  super := sup
  interfaces := #[]
  cf := none
  fields := #[]
  methods := #[]
  instanceTypes := #[]
  staticTypes := #[]
  resolved := #[]
  callSites := []
  init := .initialized
  statics := none
  mirror := none

def pool0 : Array CpInfo := pool [(5, u "<init>"), (0, u "()V"), (1, .class_ 10), (1, u "java/lang/Object")] 113

def k0c0 : Code := { maxStack := 0, maxLocals := 1, code := object_method_1_code, exceptionTable := #[], attributes := #[] }
def k0m0 : Method := { name := "<init>", desc := "()V", sig := { parameters := [], returnType := none }, accessFlags := 1, code := some k0c0 }
/-- java/lang/Object -/
def k0 : Class := { plain "java/lang/Object" none with
  accessFlags := 33
  interfaces := #[]
  cf := some (fileOf pool0 8 #[] #[{ accessFlags := 1, nameIndex := 5, descriptorIndex := 6, attributes := #[] }] 33 0 #[] #[])
  fields := #[]
  methods := #[k0m0]
  instanceTypes := #[]
  staticTypes := #[]
  resolved := Array.replicate 124 none
  statics := none }

def pool1 : Array CpInfo := pool [(2, .class_ 4), (1, u "java/lang/Object"), (0, u "<init>"), (0, u "()V"), (0, .methodref 8 9), (0, .class_ 10), (0, .nameAndType 11 12), (0, u "com/example/bristlecone/bristlecone/io/HttpLineIsEmptyPinLaw"), (0, u "pick"), (0, u "(III)B"), (0, .methodref 14 15), (0, .class_ 16), (0, .nameAndType 17 18), (0, u "com/example/bristlecone/bristlecone/io/HttpLine"), (0, u "isEmpty"), (0, u "([B)Z"), (0, .methodref 14 20), (0, .nameAndType 21 22), (0, u "text"), (0, u "([B)Ljava/lang/String;"), (0, .methodref 24 25), (0, .class_ 26), (0, .nameAndType 17 27), (0, u "java/lang/String"), (0, u "()Z"), (3, u "law"), (0, u "(IIIII)Z")] 4

def k1m0 : Method := { name := "<init>", desc := "()V", sig := { parameters := [], returnType := none }, accessFlags := 2, code := none }
def k1c1 : Code := { maxStack := 2, maxLocals := 3, code := method_2_code, exceptionTable := #[], attributes := #[] }
def k1m1 : Method := { name := "pick", desc := "(III)B", sig := { parameters := [.int, .int, .int], returnType := some .byte }, accessFlags := 10, code := some k1c1 }
def k1c2 : Code := { maxStack := 3, maxLocals := 14, code := code, exceptionTable := #[], attributes := #[] }
def k1m2 : Method := { name := "law", desc := "(IIIII)Z", sig := { parameters := [.int, .int, .int, .int, .int], returnType := some .boolean }, accessFlags := 9, code := some k1c2 }
/-- com/example/bristlecone/bristlecone/io/HttpLineIsEmptyPinLaw -/
def k1 : Class := { plain "com/example/bristlecone/bristlecone/io/HttpLineIsEmptyPinLaw" (some 0) with
  accessFlags := 49
  interfaces := #[]
  cf := some (fileOf pool1 8 #[] #[{ accessFlags := 2, nameIndex := 5, descriptorIndex := 6, attributes := #[] }, { accessFlags := 10, nameIndex := 11, descriptorIndex := 12, attributes := #[] }, { accessFlags := 9, nameIndex := 31, descriptorIndex := 32, attributes := #[] }] 49 2 #[] #[])
  fields := #[]
  methods := #[k1m0, k1m1, k1m2]
  instanceTypes := #[]
  staticTypes := #[]
  resolved := Array.replicate 37 none
  statics := none }

def pool2 : Array CpInfo := pool [(2, .class_ 4), (1, u "java/lang/Object"), (0, u "<init>"), (0, u "()V"), (35, .class_ 43), (0, u "java/lang/String"), (0, .fieldref 45 46), (0, .class_ 47), (0, .nameAndType 48 49), (0, u "java/nio/charset/StandardCharsets"), (0, u "ISO_8859_1"), (0, u "Ljava/nio/charset/Charset;"), (0, .methodref 42 51), (0, .nameAndType 5 52), (0, u "([BIILjava/nio/charset/Charset;)V"), (0, .class_ 54), (0, u "com/example/bristlecone/bristlecone/io/HttpLine"), (7, u "isEmpty"), (0, u "([B)Z"), (0, u "text"), (0, u "([B)Ljava/lang/String;")] 19

def k2m0 : Method := { name := "<init>", desc := "()V", sig := { parameters := [], returnType := none }, accessFlags := 2, code := none }
def k2c1 : Code := { maxStack := 2, maxLocals := 1, code := prog_8_method_3_code, exceptionTable := #[], attributes := #[] }
def k2m1 : Method := { name := "isEmpty", desc := "([B)Z", sig := { parameters := [(.array .byte)], returnType := some .boolean }, accessFlags := 8, code := some k2c1 }
def k2c2 : Code := { maxStack := 6, maxLocals := 2, code := prog_8_method_4_code, exceptionTable := #[], attributes := #[] }
def k2m2 : Method := { name := "text", desc := "([B)Ljava/lang/String;", sig := { parameters := [(.array .byte)], returnType := some (.object "java/lang/String") }, accessFlags := 8, code := some k2c2 }
/-- com/example/bristlecone/bristlecone/io/HttpLine -/
def k2 : Class := { plain "com/example/bristlecone/bristlecone/io/HttpLine" (some 0) with
  accessFlags := 48
  interfaces := #[]
  cf := some (fileOf pool2 53 #[] #[{ accessFlags := 2, nameIndex := 5, descriptorIndex := 6, attributes := #[] }, { accessFlags := 8, nameIndex := 62, descriptorIndex := 63, attributes := #[] }, { accessFlags := 8, nameIndex := 64, descriptorIndex := 65, attributes := #[] }] 48 2 #[] #[])
  fields := #[]
  methods := #[k2m0, k2m1, k2m2]
  instanceTypes := #[]
  staticTypes := #[]
  resolved := Array.replicate 85 none
  statics := none }

def pool3 : Array CpInfo := pool [(1, .class_ 2), (0, u "java/io/Serializable"), (0, .class_ 4), (0, u "java/lang/Object")] 2

/-- java/io/Serializable -/
def k3 : Class := { plain "java/io/Serializable" (some 0) with
  accessFlags := 1537
  interfaces := #[]
  cf := some (fileOf pool3 1 #[] #[] 1537 3 #[] #[])
  fields := #[]
  methods := #[]
  instanceTypes := #[]
  staticTypes := #[]
  resolved := Array.replicate 7 none
  statics := none }

def pool4 : Array CpInfo := pool [(1, .class_ 2), (0, u "java/lang/Comparable"), (0, .class_ 4), (0, u "java/lang/Object")] 7

/-- java/lang/Comparable -/
def k4 : Class := { plain "java/lang/Comparable" (some 0) with
  accessFlags := 1537
  interfaces := #[]
  cf := some (fileOf pool4 1 #[] #[] 1537 3 #[] #[])
  fields := #[]
  methods := #[]
  instanceTypes := #[]
  staticTypes := #[]
  resolved := Array.replicate 12 none
  statics := none }

def pool5 : Array CpInfo := pool [(2, .class_ 4), (1, u "java/lang/CharSequence"), (42, .class_ 48), (0, u "java/lang/CharSequence$1CodePointIterator"), (10, .class_ 60), (0, u "java/lang/CharSequence$1CharIterator"), (5, .class_ 67), (0, u "java/lang/Object")] 63

/-- java/lang/CharSequence -/
def k5 : Class := { plain "java/lang/CharSequence" (some 0) with
  accessFlags := 1537
  interfaces := #[]
  cf := some (fileOf pool5 2 #[.nestMembers #[47, 59]] #[] 1537 66 #[] #[])
  fields := #[]
  methods := #[]
  instanceTypes := #[]
  staticTypes := #[]
  resolved := Array.replicate 131 none
  statics := none }

def pool6 : Array CpInfo := pool [(1, .class_ 2), (0, u "java/lang/constant/Constable"), (0, .class_ 4), (0, u "java/lang/Object")] 6

/-- java/lang/constant/Constable -/
def k6 : Class := { plain "java/lang/constant/Constable" (some 0) with
  accessFlags := 1537
  interfaces := #[]
  cf := some (fileOf pool6 1 #[] #[] 1537 3 #[] #[])
  fields := #[]
  methods := #[]
  instanceTypes := #[]
  staticTypes := #[]
  resolved := Array.replicate 11 none
  statics := none }

def pool7 : Array CpInfo := pool [(1, .class_ 2), (0, u "java/lang/constant/ConstantDesc"), (0, .class_ 4), (0, u "java/lang/Object")] 32

/-- java/lang/constant/ConstantDesc -/
def k7 : Class := { plain "java/lang/constant/ConstantDesc" (some 0) with
  accessFlags := 1537
  interfaces := #[]
  cf := some (fileOf pool7 1 #[] #[] 1537 3 #[] #[])
  fields := #[]
  methods := #[]
  instanceTypes := #[]
  staticTypes := #[]
  resolved := Array.replicate 37 none
  statics := none }

def pool8 : Array CpInfo := pool [(1, .methodref 2 3), (0, .class_ 4), (0, .nameAndType 5 6), (0, u "java/lang/Object"), (0, u "<init>"), (0, u "()V"), (0, .string 8), (0, u ""), (0, .fieldref 10 11), (0, .class_ 12), (0, .nameAndType 13 14), (0, u "java/lang/String"), (0, u "value"), (0, u "[B"), (0, .fieldref 10 16), (0, .nameAndType 17 18), (0, u "coder"), (0, u "B"), (2, u "hash"), (0, u "I"), (2, u "hashIsZero"), (0, u "Z"), (7, .methodref 10 35), (0, .nameAndType 36 37), (0, u "checkBoundsOffCount"), (0, u "(III)I"), (0, .fieldref 10 39), (0, .nameAndType 40 26), (0, u "COMPACT_STRINGS"), (13, .methodref 55 56), (0, .class_ 57), (0, .nameAndType 58 59), (0, u "java/util/Arrays"), (0, u "copyOfRange"), (0, u "([BII)[B"), (15, .methodref 10 76), (0, .nameAndType 5 77), (0, u "(Ljava/nio/charset/Charset;[BII)V"), (0, .methodref 79 80), (0, .class_ 81), (0, .nameAndType 82 83), (0, u "java/util/Objects"), (0, u "requireNonNull"), (0, u "(Ljava/lang/Object;)Ljava/lang/Object;"), (0, .class_ 85), (0, u "java/nio/charset/Charset"), (0, .fieldref 87 88), (0, .class_ 89), (0, .nameAndType 90 91), (0, u "sun/nio/cs/UTF_8"), (0, u "INSTANCE"), (0, u "Lsun/nio/cs/UTF_8;"), (24, .fieldref 117 118), (0, .class_ 119), (0, .nameAndType 90 120), (0, u "sun/nio/cs/ISO_8859_1"), (0, u "Lsun/nio/cs/ISO_8859_1;"), (21, u "()Z"), (95, u "([BIILjava/nio/charset/Charset;)V"), (336, .class_ 576), (0, u "java/lang/CharSequence"), (22, u "CASE_INSENSITIVE_ORDER"), (0, u "Ljava/util/Comparator;"), (91, u "isEmpty"), (360, .fieldref 1054 1055), (0, .class_ 1056), (0, .nameAndType 1057 1058), (0, u "jdk/internal/util/Preconditions"), (0, u "SIOOBE_FORMATTER"), (0, u "Ljava/util/function/BiFunction;"), (5, u "(IIILjava/util/function/BiFunction;)I"), (0, .methodref 1054 1066), (0, .nameAndType 1067 1064), (0, u "checkFromIndexSize"), (33, u "serialPersistentFields"), (0, u "[Ljava/io/ObjectStreamField;"), (0, .class_ 1104), (0, u "java/lang/String$CaseInsensitiveComparator"), (1, .class_ 1107), (0, u "java/io/Serializable"), (0, .class_ 1109), (0, u "java/lang/Comparable"), (0, .class_ 1111), (0, u "java/lang/constant/Constable"), (0, .class_ 1113), (0, u "java/lang/constant/ConstantDesc"), (2, u "serialVersionUID"), (0, u "J"), (3, u "REPL"), (0, u "C"), (2, u "LATIN1"), (1, u "UTF16")] 323

def k8m0 : Method := { name := "<init>", desc := "()V", sig := { parameters := [], returnType := none }, accessFlags := 1, code := none }
def k8c1 : Code := { maxStack := 6, maxLocals := 5, code := jdk_42_method_10_code, exceptionTable := #[], attributes := #[] }
def k8m1 : Method := { name := "<init>", desc := "([BIILjava/nio/charset/Charset;)V", sig := { parameters := [(.array .byte), .int, .int, (.object "java/nio/charset/Charset")], returnType := none }, accessFlags := 1, code := some k8c1 }
def k8c2 : Code := { maxStack := 6, maxLocals := 11, code := jdk_42_method_11_code, exceptionTable := #[{ startPc := 800, endPc := 813, handlerPc := 816, catchType := 202 }], attributes := #[] }
def k8m2 : Method := { name := "<init>", desc := "(Ljava/nio/charset/Charset;[BII)V", sig := { parameters := [(.object "java/nio/charset/Charset"), (.array .byte), .int, .int], returnType := none }, accessFlags := 2, code := some k8c2 }
def k8c3 : Code := { maxStack := 1, maxLocals := 1, code := jdk_42_method_55_code, exceptionTable := #[], attributes := #[] }
def k8m3 : Method := { name := "isEmpty", desc := "()Z", sig := { parameters := [], returnType := some .boolean }, accessFlags := 1, code := some k8c3 }
def k8c4 : Code := { maxStack := 4, maxLocals := 3, code := jdk_42_method_157_code, exceptionTable := #[], attributes := #[] }
def k8m4 : Method := { name := "checkBoundsOffCount", desc := "(III)I", sig := { parameters := [.int, .int, .int], returnType := some .int }, accessFlags := 8, code := some k8c4 }
/-- java/lang/String -/
def k8 : Class := { plain "java/lang/String" (some 0) with
  accessFlags := 49
  interfaces := #[3, 4, 5, 6, 7]
  cf := some (fileOf pool8 10 #[.nestMembers #[1103]] #[{ accessFlags := 1, nameIndex := 5, descriptorIndex := 6, attributes := #[] }, { accessFlags := 1, nameIndex := 5, descriptorIndex := 238, attributes := #[] }, { accessFlags := 2, nameIndex := 5, descriptorIndex := 77, attributes := #[] }, { accessFlags := 1, nameIndex := 692, descriptorIndex := 142, attributes := #[] }, { accessFlags := 8, nameIndex := 36, descriptorIndex := 37, attributes := #[] }] 49 2 #[1106, 1108, 575, 1110, 1112] #[{ accessFlags := 18, nameIndex := 13, descriptorIndex := 14, attributes := #[] }, { accessFlags := 18, nameIndex := 17, descriptorIndex := 18, attributes := #[] }, { accessFlags := 2, nameIndex := 21, descriptorIndex := 22, attributes := #[] }, { accessFlags := 2, nameIndex := 25, descriptorIndex := 26, attributes := #[] }, { accessFlags := 26, nameIndex := 1116, descriptorIndex := 1117, attributes := #[] }, { accessFlags := 24, nameIndex := 40, descriptorIndex := 26, attributes := #[] }, { accessFlags := 26, nameIndex := 1101, descriptorIndex := 1102, attributes := #[] }, { accessFlags := 26, nameIndex := 1121, descriptorIndex := 1122, attributes := #[] }, { accessFlags := 25, nameIndex := 599, descriptorIndex := 600, attributes := #[] }, { accessFlags := 24, nameIndex := 1125, descriptorIndex := 18, attributes := #[] }, { accessFlags := 24, nameIndex := 1127, descriptorIndex := 18, attributes := #[] }])
  fields := #[{ name := "value", type := (.array .byte), accessFlags := 18, slot := 0, constantValue := 0 }, { name := "coder", type := .byte, accessFlags := 18, slot := 1, constantValue := 0 }, { name := "hash", type := .int, accessFlags := 2, slot := 2, constantValue := 0 }, { name := "hashIsZero", type := .boolean, accessFlags := 2, slot := 3, constantValue := 0 }, { name := "serialVersionUID", type := .long, accessFlags := 26, slot := 0, constantValue := 0 }, { name := "COMPACT_STRINGS", type := .boolean, accessFlags := 24, slot := 1, constantValue := 0 }, { name := "serialPersistentFields", type := (.array (.object "java/io/ObjectStreamField")), accessFlags := 26, slot := 2, constantValue := 0 }, { name := "REPL", type := .char, accessFlags := 26, slot := 3, constantValue := 0 }, { name := "CASE_INSENSITIVE_ORDER", type := (.object "java/util/Comparator"), accessFlags := 25, slot := 4, constantValue := 0 }, { name := "LATIN1", type := .byte, accessFlags := 24, slot := 5, constantValue := 0 }, { name := "UTF16", type := .byte, accessFlags := 24, slot := 6, constantValue := 0 }]
  methods := #[k8m0, k8m1, k8m2, k8m3, k8m4]
  instanceTypes := #[(.array .byte), .byte, .int, .boolean]
  staticTypes := #[.long, .boolean, (.array (.object "java/io/ObjectStreamField")), .char, (.object "java/util/Comparator"), .byte, .byte]
  resolved := Array.replicate 1451 none
  statics := some 0 }

def pool9 : Array CpInfo := pool [(2, .class_ 4), (1, u "java/lang/Object"), (0, u "<init>"), (0, u "()V"), (14, .class_ 23), (1, u "java/nio/charset/StandardCharsets"), (0, u "US_ASCII"), (0, u "Ljava/nio/charset/Charset;"), (7, u "ISO_8859_1"), (7, u "UTF_8"), (5, u "UTF_16BE"), (5, u "UTF_16LE"), (5, u "UTF_16")] 8

def k9m0 : Method := { name := "<init>", desc := "()V", sig := { parameters := [], returnType := none }, accessFlags := 2, code := none }
/-- java/nio/charset/StandardCharsets -/
def k9 : Class := { plain "java/nio/charset/StandardCharsets" (some 0) with
  accessFlags := 49
  interfaces := #[]
  cf := some (fileOf pool9 21 #[] #[{ accessFlags := 2, nameIndex := 5, descriptorIndex := 6, attributes := #[] }] 49 2 #[] #[{ accessFlags := 25, nameIndex := 24, descriptorIndex := 25, attributes := #[] }, { accessFlags := 25, nameIndex := 33, descriptorIndex := 25, attributes := #[] }, { accessFlags := 25, nameIndex := 41, descriptorIndex := 25, attributes := #[] }, { accessFlags := 25, nameIndex := 47, descriptorIndex := 25, attributes := #[] }, { accessFlags := 25, nameIndex := 53, descriptorIndex := 25, attributes := #[] }, { accessFlags := 25, nameIndex := 59, descriptorIndex := 25, attributes := #[] }])
  fields := #[{ name := "US_ASCII", type := (.object "java/nio/charset/Charset"), accessFlags := 25, slot := 0, constantValue := 0 }, { name := "ISO_8859_1", type := (.object "java/nio/charset/Charset"), accessFlags := 25, slot := 1, constantValue := 0 }, { name := "UTF_8", type := (.object "java/nio/charset/Charset"), accessFlags := 25, slot := 2, constantValue := 0 }, { name := "UTF_16BE", type := (.object "java/nio/charset/Charset"), accessFlags := 25, slot := 3, constantValue := 0 }, { name := "UTF_16LE", type := (.object "java/nio/charset/Charset"), accessFlags := 25, slot := 4, constantValue := 0 }, { name := "UTF_16", type := (.object "java/nio/charset/Charset"), accessFlags := 25, slot := 5, constantValue := 0 }]
  methods := #[k9m0]
  instanceTypes := #[]
  staticTypes := #[(.object "java/nio/charset/Charset"), (.object "java/nio/charset/Charset"), (.object "java/nio/charset/Charset"), (.object "java/nio/charset/Charset"), (.object "java/nio/charset/Charset"), (.object "java/nio/charset/Charset")]
  resolved := Array.replicate 68 none
  statics := some 1 }

def pool10 : Array CpInfo := pool [(2, .class_ 4), (1, u "java/lang/Object"), (0, u "<init>"), (0, u "()V"), (35, .class_ 44), (1, u "java/util/Objects"), (0, u "requireNonNull"), (0, u "(Ljava/lang/Object;)Ljava/lang/Object;")] 137

def k10m0 : Method := { name := "<init>", desc := "()V", sig := { parameters := [], returnType := none }, accessFlags := 2, code := none }
def k10c1 : Code := { maxStack := 2, maxLocals := 1, code := jdk_31_method_10_code, exceptionTable := #[], attributes := #[] }
def k10m1 : Method := { name := "requireNonNull", desc := "(Ljava/lang/Object;)Ljava/lang/Object;", sig := { parameters := [(.object "java/lang/Object")], returnType := some (.object "java/lang/Object") }, accessFlags := 9, code := some k10c1 }
/-- java/util/Objects -/
def k10 : Class := { plain "java/util/Objects" (some 0) with
  accessFlags := 49
  interfaces := #[]
  cf := some (fileOf pool10 42 #[] #[{ accessFlags := 2, nameIndex := 5, descriptorIndex := 6, attributes := #[] }, { accessFlags := 9, nameIndex := 45, descriptorIndex := 46, attributes := #[] }] 49 2 #[] #[])
  fields := #[]
  methods := #[k10m0, k10m1]
  instanceTypes := #[]
  staticTypes := #[]
  resolved := Array.replicate 184 none
  statics := none }

def pool11 : Array CpInfo := pool [(18, .class_ 20), (1, u "java/nio/charset/Charset"), (0, u "cache1"), (0, u "[Ljava/lang/Object;"), (2, u "cache2"), (0, .class_ 27), (0, u "java/lang/Object"), (0, .class_ 29), (0, u "java/nio/charset/Charset$1"), (4, .class_ 36), (1, u "java/nio/charset/Charset$ThreadTrackHolder"), (21, .class_ 59), (0, u "java/nio/charset/Charset$2"), (11, .class_ 73), (1, u "java/nio/charset/Charset$ExtendedProviderHolder"), (22, u "standardProvider"), (0, u "Ljava/nio/charset/spi/CharsetProvider;"), (29, u "name"), (7, .class_ 136), (0, u "java/nio/charset/Charset$3"), (5, u "defaultCharset"), (0, u "Ljava/nio/charset/Charset;"), (14, u "zeroAliases"), (0, u "[Ljava/lang/String;"), (29, u "Ljava/lang/String;"), (2, u "aliases"), (2, u "aliasSet"), (0, u "Ljava/util/Set;"), (82, .class_ 280), (0, u "java/lang/Comparable"), (84, .class_ 366), (0, u "java/nio/charset/Charset$ExtendedProviderHolder$1")] 3

/-- java/nio/charset/Charset -/
def k11 : Class := { plain "java/nio/charset/Charset" (some 0) with
  accessFlags := 1057
  interfaces := #[4]
  cf := some (fileOf pool11 18 #[.nestMembers #[71, 365, 34, 135, 58, 28]] #[] 1057 26 #[279] #[{ accessFlags := 26, nameIndex := 96, descriptorIndex := 97, attributes := #[] }, { accessFlags := 26, nameIndex := 158, descriptorIndex := 159, attributes := #[] }, { accessFlags := 74, nameIndex := 21, descriptorIndex := 22, attributes := #[] }, { accessFlags := 74, nameIndex := 25, descriptorIndex := 22, attributes := #[] }, { accessFlags := 10, nameIndex := 142, descriptorIndex := 143, attributes := #[] }, { accessFlags := 18, nameIndex := 127, descriptorIndex := 189, attributes := #[] }, { accessFlags := 18, nameIndex := 192, descriptorIndex := 159, attributes := #[] }, { accessFlags := 2, nameIndex := 195, descriptorIndex := 196, attributes := #[] }])
  fields := #[{ name := "standardProvider", type := (.object "java/nio/charset/spi/CharsetProvider"), accessFlags := 26, slot := 0, constantValue := 0 }, { name := "zeroAliases", type := (.array (.object "java/lang/String")), accessFlags := 26, slot := 1, constantValue := 0 }, { name := "cache1", type := (.array (.object "java/lang/Object")), accessFlags := 74, slot := 2, constantValue := 0 }, { name := "cache2", type := (.array (.object "java/lang/Object")), accessFlags := 74, slot := 3, constantValue := 0 }, { name := "defaultCharset", type := (.object "java/nio/charset/Charset"), accessFlags := 10, slot := 4, constantValue := 0 }, { name := "name", type := (.object "java/lang/String"), accessFlags := 18, slot := 0, constantValue := 0 }, { name := "aliases", type := (.array (.object "java/lang/String")), accessFlags := 18, slot := 1, constantValue := 0 }, { name := "aliasSet", type := (.object "java/util/Set"), accessFlags := 2, slot := 2, constantValue := 0 }]
  methods := #[]
  instanceTypes := #[(.object "java/lang/String"), (.array (.object "java/lang/String")), (.object "java/util/Set")]
  staticTypes := #[(.object "java/nio/charset/spi/CharsetProvider"), (.array (.object "java/lang/String")), (.array (.object "java/lang/Object")), (.array (.object "java/lang/Object")), (.object "java/nio/charset/Charset")]
  resolved := Array.replicate 370 none
  statics := none }

def pool12 : Array CpInfo := pool [(1, .class_ 2), (0, u "sun/nio/cs/HistoricallyNamedCharset"), (0, .class_ 4), (0, u "java/lang/Object")] 4

/-- sun/nio/cs/HistoricallyNamedCharset -/
def k12 : Class := { plain "sun/nio/cs/HistoricallyNamedCharset" (some 0) with
  accessFlags := 1537
  interfaces := #[]
  cf := some (fileOf pool12 1 #[] #[] 1537 3 #[] #[])
  fields := #[]
  methods := #[]
  instanceTypes := #[]
  staticTypes := #[]
  resolved := Array.replicate 9 none
  statics := none }

def pool13 : Array CpInfo := pool [(10, .class_ 12), (1, u "java/nio/charset/Charset"), (0, u "<init>"), (5, .class_ 20), (0, u "sun/nio/cs/ISO_8859_1"), (0, .class_ 22), (0, u "sun/nio/cs/ISO_8859_1$Decoder"), (3, .class_ 27), (0, u "sun/nio/cs/ISO_8859_1$Encoder"), (3, u "()V"), (2, u "INSTANCE"), (0, u "Lsun/nio/cs/ISO_8859_1;"), (0, .class_ 37), (0, u "sun/nio/cs/HistoricallyNamedCharset")] 22

def k13m0 : Method := { name := "<init>", desc := "()V", sig := { parameters := [], returnType := none }, accessFlags := 1, code := none }
/-- sun/nio/cs/ISO_8859_1 -/
def k13 : Class := { plain "sun/nio/cs/ISO_8859_1" (some 11) with
  accessFlags := 33
  interfaces := #[12]
  cf := some (fileOf pool13 19 #[.nestMembers #[26, 21]] #[{ accessFlags := 1, nameIndex := 13, descriptorIndex := 31, attributes := #[] }] 33 10 #[36] #[{ accessFlags := 25, nameIndex := 34, descriptorIndex := 35, attributes := #[] }])
  fields := #[{ name := "INSTANCE", type := (.object "sun/nio/cs/ISO_8859_1"), accessFlags := 25, slot := 0, constantValue := 0 }]
  methods := #[k13m0]
  instanceTypes := #[(.object "java/lang/String"), (.array (.object "java/lang/String")), (.object "java/util/Set")]
  staticTypes := #[(.object "sun/nio/cs/ISO_8859_1")]
  resolved := Array.replicate 60 none
  statics := some 2 }

def pool14 : Array CpInfo := pool [(2, .class_ 4), (1, u "java/lang/Object"), (0, u "<init>"), (0, u "()V"), (17, .class_ 26), (1, u "jdk/internal/util/Preconditions"), (22, u "checkFromIndexSize"), (5, .class_ 56), (0, u "jdk/internal/util/Preconditions$4"), (57, .class_ 115), (0, u "jdk/internal/util/Preconditions$1"), (7, u "SIOOBE_FORMATTER"), (0, u "Ljava/util/function/BiFunction;"), (0, .class_ 126), (0, u "jdk/internal/util/Preconditions$2"), (3, u "AIOOBE_FORMATTER"), (0, .class_ 132), (0, u "jdk/internal/util/Preconditions$3"), (3, u "IOOBE_FORMATTER"), (46, u "(IIILjava/util/function/BiFunction;)I")] 10

def k14m0 : Method := { name := "<init>", desc := "()V", sig := { parameters := [], returnType := none }, accessFlags := 1, code := none }
def k14c1 : Code := { maxStack := 4, maxLocals := 4, code := jdk_41_method_13_code, exceptionTable := #[], attributes := #[] }
def k14m1 : Method := { name := "checkFromIndexSize", desc := "(IIILjava/util/function/BiFunction;)I", sig := { parameters := [.int, .int, .int, (.object "java/util/function/BiFunction")], returnType := some .int }, accessFlags := 9, code := some k14c1 }
/-- jdk/internal/util/Preconditions -/
def k14 : Class := { plain "jdk/internal/util/Preconditions" (some 0) with
  accessFlags := 33
  interfaces := #[]
  cf := some (fileOf pool14 24 #[.nestMembers #[55, 131, 125, 114]] #[{ accessFlags := 1, nameIndex := 5, descriptorIndex := 6, attributes := #[] }, { accessFlags := 9, nameIndex := 49, descriptorIndex := 183, attributes := #[] }] 33 2 #[] #[{ accessFlags := 25, nameIndex := 123, descriptorIndex := 124, attributes := #[] }, { accessFlags := 25, nameIndex := 130, descriptorIndex := 124, attributes := #[] }, { accessFlags := 25, nameIndex := 136, descriptorIndex := 124, attributes := #[] }])
  fields := #[{ name := "SIOOBE_FORMATTER", type := (.object "java/util/function/BiFunction"), accessFlags := 25, slot := 0, constantValue := 0 }, { name := "AIOOBE_FORMATTER", type := (.object "java/util/function/BiFunction"), accessFlags := 25, slot := 1, constantValue := 0 }, { name := "IOOBE_FORMATTER", type := (.object "java/util/function/BiFunction"), accessFlags := 25, slot := 2, constantValue := 0 }]
  methods := #[k14m0, k14m1]
  instanceTypes := #[]
  staticTypes := #[(.object "java/util/function/BiFunction"), (.object "java/util/function/BiFunction"), (.object "java/util/function/BiFunction")]
  resolved := Array.replicate 194 none
  statics := some 3 }

def pool15 : Array CpInfo := pool [(2, .class_ 4), (1, u "java/nio/charset/Charset"), (130, .class_ 136), (0, u "sun/nio/cs/Unicode"), (0, .class_ 138), (0, u "sun/nio/cs/HistoricallyNamedCharset")] 15

/-- sun/nio/cs/Unicode -/
def k15 : Class := { plain "sun/nio/cs/Unicode" (some 11) with
  accessFlags := 1056
  interfaces := #[12]
  cf := some (fileOf pool15 135 #[] #[] 1056 2 #[137] #[])
  fields := #[]
  methods := #[]
  instanceTypes := #[(.object "java/lang/String"), (.array (.object "java/lang/String")), (.object "java/util/Set")]
  staticTypes := #[]
  resolved := Array.replicate 154 none
  statics := none }

def pool16 : Array CpInfo := pool [(10, .class_ 12), (1, u "sun/nio/cs/Unicode"), (0, u "<init>"), (3, .class_ 18), (0, u "sun/nio/cs/UTF_8$Decoder"), (3, .class_ 23), (0, u "sun/nio/cs/UTF_8$Encoder"), (15, .class_ 40), (0, u "sun/nio/cs/UTF_8"), (2, u "()V"), (2, u "INSTANCE"), (0, u "Lsun/nio/cs/UTF_8;"), (8, u "JLA"), (0, u "Ljdk/internal/access/JavaLangAccess;")] 26

def k16m0 : Method := { name := "<init>", desc := "()V", sig := { parameters := [], returnType := none }, accessFlags := 1, code := none }
/-- sun/nio/cs/UTF_8 -/
def k16 : Class := { plain "sun/nio/cs/UTF_8" (some 15) with
  accessFlags := 49
  interfaces := #[]
  cf := some (fileOf pool16 39 #[.nestMembers #[22, 17]] #[{ accessFlags := 1, nameIndex := 13, descriptorIndex := 43, attributes := #[] }] 49 10 #[] #[{ accessFlags := 25, nameIndex := 46, descriptorIndex := 47, attributes := #[] }, { accessFlags := 26, nameIndex := 56, descriptorIndex := 57, attributes := #[] }])
  fields := #[{ name := "INSTANCE", type := (.object "sun/nio/cs/UTF_8"), accessFlags := 25, slot := 0, constantValue := 0 }, { name := "JLA", type := (.object "jdk/internal/access/JavaLangAccess"), accessFlags := 26, slot := 1, constantValue := 0 }]
  methods := #[k16m0]
  instanceTypes := #[(.object "java/lang/String"), (.array (.object "java/lang/String")), (.object "java/util/Set")]
  staticTypes := #[(.object "sun/nio/cs/UTF_8"), (.object "jdk/internal/access/JavaLangAccess")]
  resolved := Array.replicate 84 none
  statics := some 4 }

def pool17 : Array CpInfo := pool [(2, .class_ 4), (1, u "java/lang/Object"), (0, u "<init>"), (0, u "()V"), (7, .class_ 16), (1, u "java/util/Arrays"), (57, .class_ 76), (1, u "java/util/Arrays$NaturalOrder"), (36, .class_ 115), (1, u "java/util/Arrays$LegacyMergeSort"), (1, u "Z"), (21, u "copyOfRange"), (10, .methodref 151 152), (0, .class_ 153), (0, .nameAndType 154 155), (0, u "java/lang/System"), (0, u "arraycopy"), (0, u "(Ljava/lang/Object;ILjava/lang/Object;II)V"), (148, .methodref 305 306), (0, .class_ 307), (0, .nameAndType 308 309), (0, u "java/lang/Math"), (0, u "min"), (0, u "(II)I"), (29, .methodref 14 340), (0, .nameAndType 341 342), (0, u "copyOfRangeByte"), (0, u "([BII)[B"), (0, .methodref 14 344), (0, .nameAndType 345 346), (0, u "checkLength"), (0, u "(II)V"), (28, .class_ 376), (0, u "java/util/Arrays$ArrayList"), (68, u "$assertionsDisabled"), (269, u "MIN_ARRAY_SORT_GRAN"), (0, u "I"), (2, u "INSERTIONSORT_THRESHOLD"), (255, .class_ 976), (0, u "java/util/Arrays$ArrayItr")] 52

def k17m0 : Method := { name := "<init>", desc := "()V", sig := { parameters := [], returnType := none }, accessFlags := 2, code := none }
def k17c1 : Code := { maxStack := 4, maxLocals := 2, code := jdk_65_method_131_code, exceptionTable := #[], attributes := #[] }
def k17m1 : Method := { name := "checkLength", desc := "(II)V", sig := { parameters := [.int, .int], returnType := none }, accessFlags := 10, code := some k17c1 }
def k17c2 : Code := { maxStack := 3, maxLocals := 3, code := jdk_65_method_132_code, exceptionTable := #[], attributes := #[] }
def k17m2 : Method := { name := "copyOfRange", desc := "([BII)[B", sig := { parameters := [(.array .byte), .int, .int], returnType := some (.array .byte) }, accessFlags := 9, code := some k17c2 }
def k17c3 : Code := { maxStack := 6, maxLocals := 5, code := jdk_65_method_133_code, exceptionTable := #[], attributes := #[] }
def k17m3 : Method := { name := "copyOfRangeByte", desc := "([BII)[B", sig := { parameters := [(.array .byte), .int, .int], returnType := some (.array .byte) }, accessFlags := 10, code := some k17c3 }
/-- java/util/Arrays -/
def k17 : Class := { plain "java/util/Arrays" (some 0) with
  accessFlags := 49
  interfaces := #[]
  cf := some (fileOf pool17 14 #[.nestMembers #[975, 375, 113, 74]] #[{ accessFlags := 2, nameIndex := 5, descriptorIndex := 6, attributes := #[] }, { accessFlags := 10, nameIndex := 345, descriptorIndex := 346, attributes := #[] }, { accessFlags := 9, nameIndex := 139, descriptorIndex := 342, attributes := #[] }, { accessFlags := 10, nameIndex := 341, descriptorIndex := 342, attributes := #[] }] 49 2 #[] #[{ accessFlags := 26, nameIndex := 715, descriptorIndex := 716, attributes := #[] }, { accessFlags := 26, nameIndex := 719, descriptorIndex := 716, attributes := #[] }, { accessFlags := 4120, nameIndex := 445, descriptorIndex := 117, attributes := #[] }])
  fields := #[{ name := "MIN_ARRAY_SORT_GRAN", type := .int, accessFlags := 26, slot := 0, constantValue := 0 }, { name := "INSERTIONSORT_THRESHOLD", type := .int, accessFlags := 26, slot := 1, constantValue := 0 }, { name := "$assertionsDisabled", type := .boolean, accessFlags := 4120, slot := 2, constantValue := 0 }]
  methods := #[k17m0, k17m1, k17m2, k17m3]
  instanceTypes := #[]
  staticTypes := #[.int, .int, .boolean]
  resolved := Array.replicate 1029 none
  statics := none }

def pool18 : Array CpInfo := pool [(1, .class_ 2), (0, u "java/lang/Math"), (1, .class_ 6), (1, u "java/lang/Object"), (0, u "<init>"), (0, u "()V"), (89, .class_ 100), (1, u "java/lang/Math$RandomNumberGeneratorHolder"), (71, u "negativeZeroFloatBits"), (0, u "J"), (2, u "negativeZeroDoubleBits"), (24, u "min"), (43, u "$assertionsDisabled"), (0, u "Z"), (88, u "(II)I"), (2, u "twoToTheDoubleScaleDown"), (0, u "D"), (4, u "twoToTheDoubleScaleUp"), (9, u "E"), (3, u "PI"), (2, u "TAU"), (2, u "DEGREES_TO_RADIANS"), (0, u "RADIANS_TO_DEGREES")] 94

def k18m0 : Method := { name := "<init>", desc := "()V", sig := { parameters := [], returnType := none }, accessFlags := 2, code := none }
def k18c1 : Code := { maxStack := 2, maxLocals := 2, code := jdk_29_method_69_code, exceptionTable := #[], attributes := #[] }
def k18m1 : Method := { name := "min", desc := "(II)I", sig := { parameters := [.int, .int], returnType := some .int }, accessFlags := 9, code := some k18c1 }
/-- java/lang/Math -/
def k18 : Class := { plain "java/lang/Math" (some 0) with
  accessFlags := 49
  interfaces := #[]
  cf := some (fileOf pool18 1 #[.nestMembers #[98]] #[{ accessFlags := 2, nameIndex := 7, descriptorIndex := 8, attributes := #[] }, { accessFlags := 9, nameIndex := 201, descriptorIndex := 335, attributes := #[] }] 49 4 #[] #[{ accessFlags := 25, nameIndex := 354, descriptorIndex := 339, attributes := #[] }, { accessFlags := 25, nameIndex := 358, descriptorIndex := 339, attributes := #[] }, { accessFlags := 25, nameIndex := 361, descriptorIndex := 339, attributes := #[] }, { accessFlags := 26, nameIndex := 364, descriptorIndex := 339, attributes := #[] }, { accessFlags := 26, nameIndex := 365, descriptorIndex := 339, attributes := #[] }, { accessFlags := 26, nameIndex := 172, descriptorIndex := 173, attributes := #[] }, { accessFlags := 26, nameIndex := 176, descriptorIndex := 173, attributes := #[] }, { accessFlags := 8, nameIndex := 344, descriptorIndex := 339, attributes := #[] }, { accessFlags := 8, nameIndex := 338, descriptorIndex := 339, attributes := #[] }, { accessFlags := 4120, nameIndex := 245, descriptorIndex := 246, attributes := #[] }])
  fields := #[{ name := "E", type := .double, accessFlags := 25, slot := 0, constantValue := 0 }, { name := "PI", type := .double, accessFlags := 25, slot := 1, constantValue := 0 }, { name := "TAU", type := .double, accessFlags := 25, slot := 2, constantValue := 0 }, { name := "DEGREES_TO_RADIANS", type := .double, accessFlags := 26, slot := 3, constantValue := 0 }, { name := "RADIANS_TO_DEGREES", type := .double, accessFlags := 26, slot := 4, constantValue := 0 }, { name := "negativeZeroFloatBits", type := .long, accessFlags := 26, slot := 5, constantValue := 0 }, { name := "negativeZeroDoubleBits", type := .long, accessFlags := 26, slot := 6, constantValue := 0 }, { name := "twoToTheDoubleScaleUp", type := .double, accessFlags := 8, slot := 7, constantValue := 0 }, { name := "twoToTheDoubleScaleDown", type := .double, accessFlags := 8, slot := 8, constantValue := 0 }, { name := "$assertionsDisabled", type := .boolean, accessFlags := 4120, slot := 9, constantValue := 0 }]
  methods := #[k18m0, k18m1]
  instanceTypes := #[]
  staticTypes := #[.double, .double, .double, .double, .double, .long, .long, .double, .double, .boolean]
  resolved := Array.replicate 460 none
  statics := none }

def pool19 : Array CpInfo := pool [(2, .class_ 4), (1, u "java/lang/Object"), (0, u "<init>"), (0, u "()V"), (1, .class_ 10), (1, u "java/lang/System"), (0, u "allowSecurityManager"), (0, u "I"), (16, u "cons"), (0, u "Ljava/io/Console;"), (77, .class_ 110), (1, u "java/lang/System$CallersHolder"), (43, u "initialErrStream"), (0, u "Ljava/io/PrintStream;"), (19, u "security"), (0, u "Ljava/lang/SecurityManager;"), (31, .class_ 209), (0, u "java/lang/System$1"), (7, u "props"), (0, u "Ljava/util/Properties;"), (2, u "lineSeparator"), (0, u "Ljava/lang/String;"), (96, .class_ 321), (1, u "java/lang/System$LoggerFinder"), (5, .class_ 328), (0, u "java/lang/System$Logger"), (67, u "err"), (2, u "out"), (91, u "notSupportedJnuEncoding"), (15, u "in"), (17, u "initialIn"), (0, u "Ljava/io/InputStream;"), (35, u "bootLayer"), (0, u "Ljava/lang/ModuleLayer;"), (99, .class_ 664), (0, u "java/lang/System$2"), (9, u "NEVER"), (2, u "MAYBE"), (49, u "arraycopy"), (0, u "(Ljava/lang/Object;ILjava/lang/Object;II)V"), (72, .class_ 802), (0, u "java/lang/System$Logger$Level")] 31

def k19m0 : Method := { name := "<init>", desc := "()V", sig := { parameters := [], returnType := none }, accessFlags := 2, code := none }
def k19m1 : Method := { name := "arraycopy", desc := "(Ljava/lang/Object;ILjava/lang/Object;II)V", sig := { parameters := [(.object "java/lang/Object"), .int, (.object "java/lang/Object"), .int, .int], returnType := none }, accessFlags := 265, code := none }
/-- java/lang/System -/
def k19 : Class := { plain "java/lang/System" (some 0) with
  accessFlags := 49
  interfaces := #[]
  cf := some (fileOf pool19 8 #[.nestMembers #[319, 327, 801, 108, 663, 208]] #[{ accessFlags := 2, nameIndex := 5, descriptorIndex := 6, attributes := #[] }, { accessFlags := 265, nameIndex := 727, descriptorIndex := 728, attributes := #[] }] 49 2 #[] #[{ accessFlags := 25, nameIndex := 507, descriptorIndex := 526, attributes := #[] }, { accessFlags := 25, nameIndex := 399, descriptorIndex := 155, attributes := #[] }, { accessFlags := 25, nameIndex := 396, descriptorIndex := 155, attributes := #[] }, { accessFlags := 10, nameIndex := 525, descriptorIndex := 526, attributes := #[] }, { accessFlags := 26, nameIndex := 674, descriptorIndex := 12, attributes := #[] }, { accessFlags := 26, nameIndex := 677, descriptorIndex := 12, attributes := #[] }, { accessFlags := 10, nameIndex := 11, descriptorIndex := 12, attributes := #[] }, { accessFlags := 74, nameIndex := 175, descriptorIndex := 176, attributes := #[] }, { accessFlags := 10, nameIndex := 491, descriptorIndex := 222, attributes := #[] }, { accessFlags := 74, nameIndex := 29, descriptorIndex := 30, attributes := #[] }, { accessFlags := 74, nameIndex := 154, descriptorIndex := 155, attributes := #[] }, { accessFlags := 10, nameIndex := 217, descriptorIndex := 218, attributes := #[] }, { accessFlags := 10, nameIndex := 221, descriptorIndex := 222, attributes := #[] }, { accessFlags := 8, nameIndex := 562, descriptorIndex := 563, attributes := #[] }])
  fields := #[{ name := "in", type := (.object "java/io/InputStream"), accessFlags := 25, slot := 0, constantValue := 0 }, { name := "out", type := (.object "java/io/PrintStream"), accessFlags := 25, slot := 1, constantValue := 0 }, { name := "err", type := (.object "java/io/PrintStream"), accessFlags := 25, slot := 2, constantValue := 0 }, { name := "initialIn", type := (.object "java/io/InputStream"), accessFlags := 10, slot := 3, constantValue := 0 }, { name := "NEVER", type := .int, accessFlags := 26, slot := 4, constantValue := 0 }, { name := "MAYBE", type := .int, accessFlags := 26, slot := 5, constantValue := 0 }, { name := "allowSecurityManager", type := .int, accessFlags := 10, slot := 6, constantValue := 0 }, { name := "security", type := (.object "java/lang/SecurityManager"), accessFlags := 74, slot := 7, constantValue := 0 }, { name := "notSupportedJnuEncoding", type := (.object "java/lang/String"), accessFlags := 10, slot := 8, constantValue := 0 }, { name := "cons", type := (.object "java/io/Console"), accessFlags := 74, slot := 9, constantValue := 0 }, { name := "initialErrStream", type := (.object "java/io/PrintStream"), accessFlags := 74, slot := 10, constantValue := 0 }, { name := "props", type := (.object "java/util/Properties"), accessFlags := 10, slot := 11, constantValue := 0 }, { name := "lineSeparator", type := (.object "java/lang/String"), accessFlags := 10, slot := 12, constantValue := 0 }, { name := "bootLayer", type := (.object "java/lang/ModuleLayer"), accessFlags := 8, slot := 13, constantValue := 0 }]
  methods := #[k19m0, k19m1]
  instanceTypes := #[]
  staticTypes := #[(.object "java/io/InputStream"), (.object "java/io/PrintStream"), (.object "java/io/PrintStream"), (.object "java/io/InputStream"), .int, .int, .int, (.object "java/lang/SecurityManager"), (.object "java/lang/String"), (.object "java/io/Console"), (.object "java/io/PrintStream"), (.object "java/util/Properties"), (.object "java/lang/String"), (.object "java/lang/ModuleLayer")]
  resolved := Array.replicate 834 none
  statics := none }

def pool20 : Array CpInfo := pool [(4, .class_ 6), (1, u "java/lang/Object"), (0, u "<init>"), (0, u "()V"), (5, .class_ 16), (1, u "java/lang/StringLatin1"), (104, u "$assertionsDisabled"), (0, u "Z"), (98, .class_ 223), (1, u "java/lang/StringLatin1$LinesSpliterator"), (166, .class_ 391), (0, u "java/lang/StringLatin1$CharsSpliterator")] 3

def k20m0 : Method := { name := "<init>", desc := "()V", sig := { parameters := [], returnType := none }, accessFlags := 0, code := none }
/-- java/lang/StringLatin1 -/
def k20 : Class := { plain "java/lang/StringLatin1" (some 0) with
  accessFlags := 48
  interfaces := #[]
  cf := some (fileOf pool20 14 #[.nestMembers #[390, 221]] #[{ accessFlags := 0, nameIndex := 7, descriptorIndex := 8, attributes := #[] }] 48 4 #[] #[{ accessFlags := 4120, nameIndex := 121, descriptorIndex := 122, attributes := #[] }])
  fields := #[{ name := "$assertionsDisabled", type := .boolean, accessFlags := 4120, slot := 0, constantValue := 0 }]
  methods := #[k20m0]
  instanceTypes := #[]
  staticTypes := #[.boolean]
  resolved := Array.replicate 395 none
  statics := none }

def pool21 : Array CpInfo := pool [(9, u "<init>"), (6, .class_ 18), (1, u "java/lang/Object"), (0, u "()V"), (1, .class_ 23), (1, u "jdk/internal/util/ArraysSupport"), (0, u "LOG2_ARRAY_LONG_INDEX_SCALE"), (0, u "I"), (2, u "U"), (0, u "Ljdk/internal/misc/Unsafe;"), (8, u "BIG_ENDIAN"), (0, u "Z"), (8, u "LOG2_BYTE_BIT_SIZE"), (4, u "LOG2_ARRAY_INT_INDEX_SCALE"), (54, u "JLA"), (0, u "Ljdk/internal/access/JavaLangAccess;"), (11, u "LOG2_ARRAY_BOOLEAN_INDEX_SCALE"), (9, u "LOG2_ARRAY_BYTE_INDEX_SCALE"), (5, u "LOG2_ARRAY_CHAR_INDEX_SCALE"), (5, u "LOG2_ARRAY_SHORT_INDEX_SCALE"), (18, u "LOG2_ARRAY_FLOAT_INDEX_SCALE"), (24, u "LOG2_ARRAY_DOUBLE_INDEX_SCALE"), (89, u "T_BOOLEAN"), (2, u "T_CHAR"), (1, u "T_FLOAT"), (1, u "T_DOUBLE"), (1, u "T_BYTE"), (1, u "T_SHORT"), (1, u "T_INT"), (1, u "T_LONG"), (1, u "SOFT_MAX_ARRAY_LENGTH")] 83

def k21m0 : Method := { name := "<init>", desc := "()V", sig := { parameters := [], returnType := none }, accessFlags := 2, code := none }
/-- jdk/internal/util/ArraysSupport -/
def k21 : Class := { plain "jdk/internal/util/ArraysSupport" (some 0) with
  accessFlags := 33
  interfaces := #[]
  cf := some (fileOf pool21 21 #[] #[{ accessFlags := 2, nameIndex := 9, descriptorIndex := 19, attributes := #[] }] 33 16 #[] #[{ accessFlags := 24, nameIndex := 28, descriptorIndex := 29, attributes := #[] }, { accessFlags := 26, nameIndex := 38, descriptorIndex := 39, attributes := #[] }, { accessFlags := 25, nameIndex := 121, descriptorIndex := 25, attributes := #[] }, { accessFlags := 25, nameIndex := 131, descriptorIndex := 25, attributes := #[] }, { accessFlags := 25, nameIndex := 137, descriptorIndex := 25, attributes := #[] }, { accessFlags := 25, nameIndex := 143, descriptorIndex := 25, attributes := #[] }, { accessFlags := 25, nameIndex := 53, descriptorIndex := 25, attributes := #[] }, { accessFlags := 25, nameIndex := 24, descriptorIndex := 25, attributes := #[] }, { accessFlags := 25, nameIndex := 162, descriptorIndex := 25, attributes := #[] }, { accessFlags := 25, nameIndex := 187, descriptorIndex := 25, attributes := #[] }, { accessFlags := 26, nameIndex := 48, descriptorIndex := 25, attributes := #[] }, { accessFlags := 25, nameIndex := 277, descriptorIndex := 25, attributes := #[] }, { accessFlags := 25, nameIndex := 280, descriptorIndex := 25, attributes := #[] }, { accessFlags := 25, nameIndex := 282, descriptorIndex := 25, attributes := #[] }, { accessFlags := 25, nameIndex := 284, descriptorIndex := 25, attributes := #[] }, { accessFlags := 25, nameIndex := 286, descriptorIndex := 25, attributes := #[] }, { accessFlags := 25, nameIndex := 288, descriptorIndex := 25, attributes := #[] }, { accessFlags := 25, nameIndex := 290, descriptorIndex := 25, attributes := #[] }, { accessFlags := 25, nameIndex := 292, descriptorIndex := 25, attributes := #[] }, { accessFlags := 26, nameIndex := 108, descriptorIndex := 109, attributes := #[] }, { accessFlags := 25, nameIndex := 294, descriptorIndex := 25, attributes := #[] }])
  fields := #[{ name := "U", type := (.object "jdk/internal/misc/Unsafe"), accessFlags := 24, slot := 0, constantValue := 0 }, { name := "BIG_ENDIAN", type := .boolean, accessFlags := 26, slot := 1, constantValue := 0 }, { name := "LOG2_ARRAY_BOOLEAN_INDEX_SCALE", type := .int, accessFlags := 25, slot := 2, constantValue := 0 }, { name := "LOG2_ARRAY_BYTE_INDEX_SCALE", type := .int, accessFlags := 25, slot := 3, constantValue := 0 }, { name := "LOG2_ARRAY_CHAR_INDEX_SCALE", type := .int, accessFlags := 25, slot := 4, constantValue := 0 }, { name := "LOG2_ARRAY_SHORT_INDEX_SCALE", type := .int, accessFlags := 25, slot := 5, constantValue := 0 }, { name := "LOG2_ARRAY_INT_INDEX_SCALE", type := .int, accessFlags := 25, slot := 6, constantValue := 0 }, { name := "LOG2_ARRAY_LONG_INDEX_SCALE", type := .int, accessFlags := 25, slot := 7, constantValue := 0 }, { name := "LOG2_ARRAY_FLOAT_INDEX_SCALE", type := .int, accessFlags := 25, slot := 8, constantValue := 0 }, { name := "LOG2_ARRAY_DOUBLE_INDEX_SCALE", type := .int, accessFlags := 25, slot := 9, constantValue := 0 }, { name := "LOG2_BYTE_BIT_SIZE", type := .int, accessFlags := 26, slot := 10, constantValue := 0 }, { name := "T_BOOLEAN", type := .int, accessFlags := 25, slot := 11, constantValue := 0 }, { name := "T_CHAR", type := .int, accessFlags := 25, slot := 12, constantValue := 0 }, { name := "T_FLOAT", type := .int, accessFlags := 25, slot := 13, constantValue := 0 }, { name := "T_DOUBLE", type := .int, accessFlags := 25, slot := 14, constantValue := 0 }, { name := "T_BYTE", type := .int, accessFlags := 25, slot := 15, constantValue := 0 }, { name := "T_SHORT", type := .int, accessFlags := 25, slot := 16, constantValue := 0 }, { name := "T_INT", type := .int, accessFlags := 25, slot := 17, constantValue := 0 }, { name := "T_LONG", type := .int, accessFlags := 25, slot := 18, constantValue := 0 }, { name := "JLA", type := (.object "jdk/internal/access/JavaLangAccess"), accessFlags := 26, slot := 19, constantValue := 0 }, { name := "SOFT_MAX_ARRAY_LENGTH", type := .int, accessFlags := 25, slot := 20, constantValue := 0 }]
  methods := #[k21m0]
  instanceTypes := #[]
  staticTypes := #[(.object "jdk/internal/misc/Unsafe"), .boolean, .int, .int, .int, .int, .int, .int, .int, .int, .int, .int, .int, .int, .int, .int, .int, .int, .int, (.object "jdk/internal/access/JavaLangAccess"), .int]
  resolved := Array.replicate 378 none
  statics := none }

def pool22 : Array CpInfo := pool [(1, u "java/lang/Cloneable"), (0, .class_ 1), (0, u "java/lang/Object"), (0, .class_ 3)] 3

/-- java/lang/Cloneable -/
def k22 : Class := { plain "java/lang/Cloneable" (some 0) with
  accessFlags := 1537
  interfaces := #[]
  cf := some (fileOf pool22 2 #[] #[] 1537 4 #[] #[])
  fields := #[]
  methods := #[]
  instanceTypes := #[]
  staticTypes := #[]
  resolved := Array.replicate 8 none
  statics := none }

/-- the primitive byte -/
def k23 : Class := { plain "byte" none with kind := .primitive 'B', accessFlags := 0x411 }
/-- [B -/
def k24 : Class := { plain "[B" (some 0) with kind := .array 23 .byte, interfaces := #[22, 3], accessFlags := 1041 }

/-- the primitive int -/
def k25 : Class := { plain "int" none with kind := .primitive 'I', accessFlags := 0x411 }
/-- [I -/
def k26 : Class := { plain "[I" (some 0) with kind := .array 25 .int, interfaces := #[22, 3], accessFlags := 1041 }

def heap : Heap := #[{ cls := 8, slots := #[.long 0, .int 1, .null, .int 0, .null, .int 0, .int 0], vm := .statics 8 },
  { cls := 9, slots := #[.null, .ref 5, .null, .null, .null, .null], vm := .statics 9 },
  { cls := 13, slots := #[.ref 5], vm := .statics 13 },
  { cls := 14, slots := #[.null, .null, .null], vm := .statics 14 },
  { cls := 16, slots := #[.ref 6, .null], vm := .statics 16 },
  { cls := 13, slots := #[.null, .null, .null], vm := .none },
  { cls := 16, slots := #[.null, .null, .null], vm := .none }]
def classes : Array Class := #[k0, k1, k2, k3, k4, k5, k6, k7, k8, k9, k10, k11, k12, k13, k14, k15, k16, k17, k18, k19, k20, k21, k22, k23, k24, k25, k26]
def interned : List (Array UInt16 × Addr) := []
def slotsUsed : Nat := 25
def theMethod : MethodId := ⟨1, 2⟩
def args0 : Array Value := #[.int 5, .int 7, .int 3, .int 2, .int 1]
def aboutOver (below : List Frame) : State where
  vm := { classes := classes, interned := interned.toArray }
  heap := heap
  slotsUsed := slotsUsed
  threads := #[{ frames := .invoking theMethod args0 :: below }]
def below0 : List Frame := [.native { method := ⟨0, 0⟩, args := #[] }]
def about1 : State := aboutOver below0
def p0 : Program := .bare "" "" ""
def e0 : Env := launch0.env 0 0 0
theorem w_frames : about1.frames = Frame.invoking theMethod args0 :: below0 := rfl
set_option maxRecDepth 65536 in
theorem w_args : argsFit about1.vm theMethod args0 = true := by decide +kernel
set_option maxRecDepth 65536 in
theorem w_heap : heapFits about1 = true := by decide +kernel
set_option maxRecDepth 65536 in
theorem w_runnable : about1.curStatus? = some .runnable := by decide +kernel
set_option maxRecDepth 65536 in
theorem w_alone : about1.alone = true := by decide +kernel
set_option maxRecDepth 65536 in
theorem w_named : about1.methodNamed? x = some theMethod := by decide +kernel
set_option maxRecDepth 65536 in
theorem w_hears : about1.hears theMethod below0 = true := by decide +kernel
set_option maxRecDepth 65536 in
theorem w_ripe : about1.ripe theMethod args0 below0 = true := by decide +kernel
theorem w_running : about1.status = .running := rfl
set_option maxRecDepth 65536 in
theorem w_room : about1.hasRoom e0.platform room_1 = true :=
  launch0.hasRoom_least _ room_1 (by decide +kernel) (by decide +kernel) (by decide +kernel) (by decide +kernel) (by decide +kernel) (by decide +kernel)
theorem allAtoms_all (ts : List Jvm.Cond) (a : Array Jvm.Value) (st : Jvm.State) : (allAtoms ts).before a st = ts.all (fun c => c.before a st) := by
  induction ts with
  | nil => rfl
  | cons c t ih =>
    show (Jvm.Cond.and c (allAtoms t)).before a st = _
    rw [Jvm.Cond.before_and, ih, List.all_cons]
def words1 : List Jvm.Cond := Jvm.Cond.code x code maxLocals ret :: tables_1
/-- a 'code' word, met by the world's own term for the bytes: nothing is compared byte by byte -/
theorem code_word {y : MethodName} {bytes : ByteArray} {mx : Nat} {rt : Option FieldType} {a : Array Value} {s : State} {m : MethodId} {meth : Method} {c : Code} (h1 : s.methodNamed? y = some m) (h2 : s.vm.method? m = some meth) (h3 : meth.code = some c) (h4 : c.code = bytes)
    (h5 : (c.maxLocals == mx && c.exceptionTable.isEmpty && decide (c.maxStack ≤ mostOperands) && decide (meth.sig.returnType = rt) && !meth.locks && decide (parseMethodDescriptor y.desc = some meth.sig)) = true) : (Jvm.Cond.code y bytes mx rt).before a s = true := by
  simp only [Bool.and_eq_true, beq_iff_eq, Bool.not_eq_true', decide_eq_true_eq] at h5
  obtain ⟨⟨⟨⟨⟨g1, g2⟩, g3⟩, g4⟩, g5⟩, g6⟩ := h5
  simp [Cond.before, Cond.holds, Cond.value, h1, h2, h3, h4, g1, g2, g3, g4, g5, g6]
theorem own_codeW {y : MethodName} {bytes : ByteArray} {mx : Nat} {rt : Option FieldType} {hs : List (Nat × Nat × Nat × Nat)} {a : Array Value} {s : State} {m : MethodId} {meth : Method} {c : Code} (h1 : s.methodNamed? y = some m) (h2 : s.vm.method? m = some meth) (h3 : meth.code = some c) (h4 : c.code = bytes)
    (h5 : (c.maxLocals == mx && decide (c.exceptionTable.toList.map (fun h => (h.startPc, h.endPc, h.handlerPc, h.catchType)) = hs) && decide (c.maxStack ≤ mostOperands) && decide (meth.sig.returnType = rt) && !meth.locks && decide (parseMethodDescriptor y.desc = some meth.sig)) = true) : (Jvm.Cond.codeWith y bytes mx rt hs).before a s = true := by
  simp only [Bool.and_eq_true, beq_iff_eq, Bool.not_eq_true', decide_eq_true_eq] at h5
  obtain ⟨⟨⟨⟨⟨g1, g2⟩, g3⟩, g4⟩, g5⟩, g6⟩ := h5
  simp [Cond.before, Cond.holds, Cond.value, h1, h2, h3, h4, g1, g2, g3, g4, g5, g6]
def isCode : Jvm.Cond → Bool
  | .code _ _ _ _ => true
  | .codeWith _ _ _ _ _ => true
  | _ => false
theorem all_split {L : List Jvm.Cond} {P : Jvm.Cond → Bool} (h1 : L.all (fun c => isCode c || P c) = true) (h2 : ∀ c ∈ L.filter isCode, P c = true) : L.all P = true := by
  refine List.all_eq_true.mpr fun c hc => ?_
  have h := List.all_eq_true.mp h1 c hc
  rcases Bool.eq_false_or_eq_true (isCode c) with hi | hi
  · exact h2 c (List.mem_filter.mpr ⟨hc, hi⟩)
  · simpa [hi] using h
set_option maxRecDepth 65536 in
theorem w_c0 : (Jvm.Cond.code x code maxLocals ret).before args0 about1 = true := code_word (m := ⟨1, 2⟩) (meth := k1m2) (c := k1c2) (by decide +kernel) rfl rfl rfl (by decide +kernel)
set_option maxRecDepth 65536 in
theorem w_c1 : (Jvm.Cond.code ({ cls := "com/example/bristlecone/bristlecone/io/HttpLineIsEmptyPinLaw", name := "pick", desc := "(III)B" } : Jvm.MethodName) method_2_code (3 : Nat) (Option.some Jvm.ClassFile.FieldType.byte)).before args0 about1 = true := code_word (m := ⟨1, 1⟩) (meth := k1m1) (c := k1c1) (by decide +kernel) rfl rfl rfl (by decide +kernel)
set_option maxRecDepth 65536 in
theorem w_c2 : (Jvm.Cond.code ({ cls := "com/example/bristlecone/bristlecone/io/HttpLine", name := "isEmpty", desc := "([B)Z" } : Jvm.MethodName) prog_8_method_3_code (1 : Nat) (Option.some Jvm.ClassFile.FieldType.boolean)).before args0 about1 = true := code_word (m := ⟨2, 1⟩) (meth := k2m1) (c := k2c1) (by decide +kernel) rfl rfl rfl (by decide +kernel)
set_option maxRecDepth 65536 in
theorem w_c3 : (Jvm.Cond.code ({ cls := "com/example/bristlecone/bristlecone/io/HttpLine", name := "text", desc := "([B)Ljava/lang/String;" } : Jvm.MethodName) prog_8_method_4_code (2 : Nat) (Option.some (Jvm.ClassFile.FieldType.object "java/lang/String"))).before args0 about1 = true := code_word (m := ⟨2, 2⟩) (meth := k2m2) (c := k2c2) (by decide +kernel) rfl rfl rfl (by decide +kernel)
set_option maxRecDepth 65536 in
theorem w_c4 : (Jvm.Cond.code ({ cls := "java/lang/String", name := "<init>", desc := "([BIILjava/nio/charset/Charset;)V" } : Jvm.MethodName) jdk_42_method_10_code (5 : Nat) (Option.none : Option Jvm.ClassFile.FieldType)).before args0 about1 = true := code_word (m := ⟨8, 1⟩) (meth := k8m1) (c := k8c1) (by decide +kernel) rfl rfl rfl (by decide +kernel)
set_option maxRecDepth 65536 in
theorem w_c5 : (Jvm.Cond.code ({ cls := "java/util/Objects", name := "requireNonNull", desc := "(Ljava/lang/Object;)Ljava/lang/Object;" } : Jvm.MethodName) jdk_31_method_10_code (1 : Nat) (Option.some (Jvm.ClassFile.FieldType.object "java/lang/Object"))).before args0 about1 = true := code_word (m := ⟨10, 1⟩) (meth := k10m1) (c := k10c1) (by decide +kernel) rfl rfl rfl (by decide +kernel)
set_option maxRecDepth 65536 in
theorem w_c6 : (Jvm.Cond.code ({ cls := "java/lang/String", name := "checkBoundsOffCount", desc := "(III)I" } : Jvm.MethodName) jdk_42_method_157_code (3 : Nat) (Option.some Jvm.ClassFile.FieldType.int)).before args0 about1 = true := code_word (m := ⟨8, 4⟩) (meth := k8m4) (c := k8c4) (by decide +kernel) rfl rfl rfl (by decide +kernel)
set_option maxRecDepth 65536 in
theorem w_c7 : (Jvm.Cond.code ({ cls := "jdk/internal/util/Preconditions", name := "checkFromIndexSize", desc := "(IIILjava/util/function/BiFunction;)I" } : Jvm.MethodName) jdk_41_method_13_code (4 : Nat) (Option.some Jvm.ClassFile.FieldType.int)).before args0 about1 = true := code_word (m := ⟨14, 1⟩) (meth := k14m1) (c := k14c1) (by decide +kernel) rfl rfl rfl (by decide +kernel)
set_option maxRecDepth 65536 in
theorem w_c8 : (Jvm.Cond.code ({ cls := "java/lang/Object", name := "<init>", desc := "()V" } : Jvm.MethodName) object_method_1_code (1 : Nat) (Option.none : Option Jvm.ClassFile.FieldType)).before args0 about1 = true := code_word (m := ⟨0, 0⟩) (meth := k0m0) (c := k0c0) (by decide +kernel) rfl rfl rfl (by decide +kernel)
set_option maxRecDepth 65536 in
theorem w_c9 : (Jvm.Cond.code ({ cls := "java/lang/String", name := "isEmpty", desc := "()Z" } : Jvm.MethodName) jdk_42_method_55_code (1 : Nat) (Option.some Jvm.ClassFile.FieldType.boolean)).before args0 about1 = true := code_word (m := ⟨8, 3⟩) (meth := k8m3) (c := k8c3) (by decide +kernel) rfl rfl rfl (by decide +kernel)
set_option maxRecDepth 65536 in
theorem w_c10 : (Jvm.Cond.code ({ cls := "java/util/Arrays", name := "copyOfRange", desc := "([BII)[B" } : Jvm.MethodName) jdk_65_method_132_code (3 : Nat) (Option.some (Jvm.ClassFile.FieldType.array Jvm.ClassFile.FieldType.byte))).before args0 about1 = true := code_word (m := ⟨17, 2⟩) (meth := k17m2) (c := k17c2) (by decide +kernel) rfl rfl rfl (by decide +kernel)
set_option maxRecDepth 65536 in
theorem w_c11 : (Jvm.Cond.code ({ cls := "java/util/Arrays", name := "copyOfRangeByte", desc := "([BII)[B" } : Jvm.MethodName) jdk_65_method_133_code (5 : Nat) (Option.some (Jvm.ClassFile.FieldType.array Jvm.ClassFile.FieldType.byte))).before args0 about1 = true := code_word (m := ⟨17, 3⟩) (meth := k17m3) (c := k17c3) (by decide +kernel) rfl rfl rfl (by decide +kernel)
set_option maxRecDepth 65536 in
theorem w_c12 : (Jvm.Cond.code ({ cls := "java/util/Arrays", name := "checkLength", desc := "(II)V" } : Jvm.MethodName) jdk_65_method_131_code (2 : Nat) (Option.none : Option Jvm.ClassFile.FieldType)).before args0 about1 = true := code_word (m := ⟨17, 1⟩) (meth := k17m1) (c := k17c1) (by decide +kernel) rfl rfl rfl (by decide +kernel)
set_option maxRecDepth 65536 in
theorem w_c13 : (Jvm.Cond.code ({ cls := "java/lang/Math", name := "min", desc := "(II)I" } : Jvm.MethodName) jdk_29_method_69_code (2 : Nat) (Option.some Jvm.ClassFile.FieldType.int)).before args0 about1 = true := code_word (m := ⟨18, 1⟩) (meth := k18m1) (c := k18c1) (by decide +kernel) rfl rfl rfl (by decide +kernel)
set_option maxRecDepth 65536 in
theorem w_d8 : (Jvm.Cond.codeWith ({ cls := "java/lang/String", name := "<init>", desc := "(Ljava/nio/charset/Charset;[BII)V" } : Jvm.MethodName) jdk_42_method_11_code (11 : Nat) (Option.none : Option Jvm.ClassFile.FieldType) [((800 : Nat), (813 : Nat), (816 : Nat), (202 : Nat))]).before args0 about1 = true := own_codeW (m := ⟨8, 2⟩) (meth := k8m2) (c := k8c2) (by decide +kernel) rfl rfl rfl (by decide +kernel)
def codes1 : List Jvm.Cond := [Jvm.Cond.code x code maxLocals ret, Jvm.Cond.code ({ cls := "com/example/bristlecone/bristlecone/io/HttpLineIsEmptyPinLaw", name := "pick", desc := "(III)B" } : Jvm.MethodName) method_2_code (3 : Nat) (Option.some Jvm.ClassFile.FieldType.byte), Jvm.Cond.code ({ cls := "com/example/bristlecone/bristlecone/io/HttpLine", name := "isEmpty", desc := "([B)Z" } : Jvm.MethodName) prog_8_method_3_code (1 : Nat) (Option.some Jvm.ClassFile.FieldType.boolean), Jvm.Cond.code ({ cls := "com/example/bristlecone/bristlecone/io/HttpLine", name := "text", desc := "([B)Ljava/lang/String;" } : Jvm.MethodName) prog_8_method_4_code (2 : Nat) (Option.some (Jvm.ClassFile.FieldType.object "java/lang/String")), Jvm.Cond.code ({ cls := "java/lang/String", name := "<init>", desc := "([BIILjava/nio/charset/Charset;)V" } : Jvm.MethodName) jdk_42_method_10_code (5 : Nat) (Option.none : Option Jvm.ClassFile.FieldType), Jvm.Cond.code ({ cls := "java/util/Objects", name := "requireNonNull", desc := "(Ljava/lang/Object;)Ljava/lang/Object;" } : Jvm.MethodName) jdk_31_method_10_code (1 : Nat) (Option.some (Jvm.ClassFile.FieldType.object "java/lang/Object")), Jvm.Cond.code ({ cls := "java/lang/String", name := "checkBoundsOffCount", desc := "(III)I" } : Jvm.MethodName) jdk_42_method_157_code (3 : Nat) (Option.some Jvm.ClassFile.FieldType.int), Jvm.Cond.code ({ cls := "jdk/internal/util/Preconditions", name := "checkFromIndexSize", desc := "(IIILjava/util/function/BiFunction;)I" } : Jvm.MethodName) jdk_41_method_13_code (4 : Nat) (Option.some Jvm.ClassFile.FieldType.int), Jvm.Cond.codeWith ({ cls := "java/lang/String", name := "<init>", desc := "(Ljava/nio/charset/Charset;[BII)V" } : Jvm.MethodName) jdk_42_method_11_code (11 : Nat) (Option.none : Option Jvm.ClassFile.FieldType) [((800 : Nat), (813 : Nat), (816 : Nat), (202 : Nat))], Jvm.Cond.code ({ cls := "java/lang/Object", name := "<init>", desc := "()V" } : Jvm.MethodName) object_method_1_code (1 : Nat) (Option.none : Option Jvm.ClassFile.FieldType), Jvm.Cond.code ({ cls := "java/lang/String", name := "isEmpty", desc := "()Z" } : Jvm.MethodName) jdk_42_method_55_code (1 : Nat) (Option.some Jvm.ClassFile.FieldType.boolean), Jvm.Cond.code ({ cls := "java/util/Arrays", name := "copyOfRange", desc := "([BII)[B" } : Jvm.MethodName) jdk_65_method_132_code (3 : Nat) (Option.some (Jvm.ClassFile.FieldType.array Jvm.ClassFile.FieldType.byte)), Jvm.Cond.code ({ cls := "java/util/Arrays", name := "copyOfRangeByte", desc := "([BII)[B" } : Jvm.MethodName) jdk_65_method_133_code (5 : Nat) (Option.some (Jvm.ClassFile.FieldType.array Jvm.ClassFile.FieldType.byte)), Jvm.Cond.code ({ cls := "java/util/Arrays", name := "checkLength", desc := "(II)V" } : Jvm.MethodName) jdk_65_method_131_code (2 : Nat) (Option.none : Option Jvm.ClassFile.FieldType), Jvm.Cond.code ({ cls := "java/lang/Math", name := "min", desc := "(II)I" } : Jvm.MethodName) jdk_29_method_69_code (2 : Nat) (Option.some Jvm.ClassFile.FieldType.int)]
set_option maxRecDepth 65536 in
theorem codes_eq : words1.filter isCode = codes1 := rfl
theorem w_codes : ∀ c ∈ words1.filter isCode, c.before args0 about1 = true := by
  rw [codes_eq]
  intro c hc
  simp only [codes1, List.mem_cons, List.not_mem_nil, or_false] at hc
  rcases hc with rfl | rfl | rfl | rfl | rfl | rfl | rfl | rfl | rfl | rfl | rfl | rfl | rfl | rfl | rfl
  · exact w_c0
  · exact w_c1
  · exact w_c2
  · exact w_c3
  · exact w_c4
  · exact w_c5
  · exact w_c6
  · exact w_c7
  · exact w_d8
  · exact w_c8
  · exact w_c9
  · exact w_c10
  · exact w_c11
  · exact w_c12
  · exact w_c13
set_option maxRecDepth 65536 in
theorem w_t1 : (words1.take 24).all (fun c => isCode c || c.before args0 about1) = true := by decide +kernel
set_option maxRecDepth 65536 in
theorem w_t2 : ((words1.drop 24).take 24).all (fun c => isCode c || c.before args0 about1) = true := by decide +kernel
set_option maxRecDepth 65536 in
theorem w_t3 : (((words1.drop 24).drop 24).take 24).all (fun c => isCode c || c.before args0 about1) = true := by decide +kernel
set_option maxRecDepth 65536 in
theorem w_t4 : (((words1.drop 24).drop 24).drop 24).all (fun c => isCode c || c.before args0 about1) = true := by decide +kernel
theorem w_tables : (allAtoms (Jvm.Cond.code x code maxLocals ret :: tables_1)).before args0 about1 = true := by
  rw [allAtoms_all]
  show words1.all (fun c => c.before args0 about1) = true
  refine all_split ?_ w_codes
  rw [← List.take_append_drop 24 words1, List.all_append, w_t1, ← List.take_append_drop 24 (words1.drop 24), List.all_append, w_t2, ← List.take_append_drop 24 ((words1.drop 24).drop 24), List.all_append, w_t3, w_t4]
  rfl
set_option maxRecDepth 65536 in
theorem w_rest : rest_1_c.before args0 about1 = true := by decide +kernel
set_option maxRecDepth 65536 in
theorem w_case : (Jvm.Cond.and given_1 narrow_1).before args0 about1 = true := by decide +kernel
set_option maxRecDepth 65536 in
theorem w_consts : constsHeld consts_1 about1 := Jvm.Lit.constsHeldB_iff.mp (by decide +kernel)
theorem w_applies : (headSpec (Jvm.Cond.code x code maxLocals ret :: tables_1) room_1).applies x e0.platform about1 = true :=
  (Spec.applies_iff w_frames).mpr ⟨w_running, w_runnable, w_alone, w_named, w_hears, w_ripe, w_room, w_tables⟩
theorem atStart : AtStart classFile x code maxLocals ret World_1 tables_1 room_1 Calls_1 rest_1 Pre_1 launch0 p0 e0 about1 theMethod args0 below0 :=
  ⟨lists_1, trivial, launch0.admits_env _ _ _, launch0.least_env, fairChoices_fair.cas, fairChoices_fair.clock, w_frames, w_args, w_heap, w_applies, ⟨w_consts, trivial⟩, w_rest, w_case⟩
end start1
theorem witness_1 : WitnessClaimed_1 := ⟨start1.p0, start1.e0, start1.about1, start1.theMethod, start1.args0, start1.below0, start1.atStart⟩
end Jvm.Pilot.@@N@@
