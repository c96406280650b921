import JvmDerived
import JvmDerived.Pilot.@@N@@Statement
import JvmDerived.Pilot.@@N@@Code
set_option linter.unusedVariables false
set_option linter.unusedSimpArgs false
namespace Jvm.RoadKit
open Sem ClassFile Op Lib Jvm.Stand Jvm.Free Jvm.LawKit
section New
variable {p : Program} {l : Launch} {e : Env} {R : Room} {s : State} {m : MethodId} {args : Array Value} {below : List Frame} {meth : Method} {c : Code} {T : State} {locs : List Loc} {cells slots : Nat}
theorem retI (X : Stand p l e R s m args below meth c T locs cells slots) (hx : p.tables.exec = Jvm.exec) {pc : Nat} {Ls : Array Slot} {z : Int32} {rest : List Value} (hret : meth.sig.returnType = some .int) (hd : decode c.code pc = .ok (.ireturn, 1)) {fs : List Frame}
    (hl : ∀ (f : JFrame) (acts : List Action), f.method = m → f.locked = none → f.entered = [] → (doReturn e (T.setTop f) acts (some (.int z))).1 = T.setFrames fs) : Steps p.tables e below (T.setTop (mkF m pc Ls (.int z :: rest))) (T.setFrames fs) := by
  have hm' : T.vm.method? m = some meth := X.method'
  have hn : narrow .int (.int z) = .int z := rfl
  show Steps p.tables e below (T.setTop { method := m, pc := pc, locals := Ls, stack := _ :: rest, locked := none }) _
  jvm_step X.here [X.here.top, hx, hd, hm', hret, hn]
  first | (intro acts; rw [hl _ acts rfl rfl rfl]) | rw [hl _ _ rfl rfl rfl]
  exact Steps.refl _
end New
end Jvm.RoadKit
namespace Jvm.Pilot.@@N@@
open Jvm Jvm.ClassFile Sem Op Lib Jvm.Free Jvm.Stand Jvm.LawKit Jvm.RoadKit Bundle Jvm.Pilot.@@N@@.Jvm.D
theorem tk {L : List Jvm.Cond} {d : Jvm.Cond} (i : Nat) (h : L[i]? = some d) : d ∈ L := List.mem_of_getElem? h
/-! own small facts: what the case says of a pinned static's field -/
theorem own_fld {args : Array Value} {s : State} {t : Term} {C n d : String} {w : Addr} {k : Int32} (ht : t.eval args s none [] s = some (.ref w)) (h : (Cond.eq (.field t C n d) (.int k)).value args s none s [] = some true) : Fld s s.heap w C n d (.int k) := by
  obtain ⟨x, y, hx, hy, -, kin⟩ := cmp_v (Or.inl h)
  obtain rfl : Value.int k = y := Option.some.inj hy
  obtain ⟨z, rfl⟩ := kin
  have e : z = k := by simpa [Cond.value, hx, hy] using h
  subst e
  exact Fld.start ((fld_at ht).symm.trans hx)
theorem own_fldN {args : Array Value} {s : State} {t : Term} {C n d : String} {w : Addr} (ht : t.eval args s none [] s = some (.ref w)) (h : (Cond.eq (.field t C n d) .null).value args s none s [] = some true) : Fld s s.heap w C n d .null :=
  Fld.start ((fld_at ht).symm.trans (null_v h))
theorem own_nsroot {Z : State} {a0 : Array Value} {O K : String} {n : Nat} (w : (Cond.noSuperclass O).before a0 Z = true) (wk : (Cond.instantiable K n).before a0 Z = true) (hn : O ≠ K) : NS Z O K := by
  obtain ⟨c, k, h1, h2, h3, -, -⟩ := Cond.noSuperclass_spec w
  obtain ⟨t, -, g1, -⟩ := Cond.instantiable_spec wk
  have ne := ids_ne h1 g1 hn
  refine ⟨c, t, h1, g1, fun fuel => ?_⟩
  cases fuel with
  | zero => rfl
  | succ f => simp [Vm.isSubclassAux, ne, h2, h3]
theorem own_nsno {Z : State} {a0 : Array Value} {C S K : String} {n : Nat} (w : (Cond.superclass C S).before a0 Z = true) (wk : (Cond.instantiable K n).before a0 Z = true) (ns : NS Z C K) (hn : C ≠ K) : ∃ c t, Z.vm.findClass C = some c ∧ Z.vm.findClass K = some t ∧ Z.vm.assignable c t = false := by
  obtain ⟨c, t, h0, g0, n3⟩ := ns
  obtain ⟨p, k, kp, h1, h2, h3, h4, h5, -, h7⟩ := Cond.superclass_spec h0 w
  obtain ⟨t', k', g1, g2, g3, g4, -⟩ := Cond.instantiable_spec wk
  cases g0.symm.trans g1
  have ne := ids_ne h0 g0 hn
  have g5 : k'.isInterface = false := (Bool.or_eq_false_iff.mp g4).1
  refine ⟨c, t, h0, g0, ?_⟩
  show Z.vm.assignableAux (255 + 1) c t = false
  simp [Vm.assignableAux, ne, h2, g2, h5, g3, g5, Vm.isSubclass, n3]
theorem own_nar {v : Value} {C : String} (h : v.isRef = true) : narrow (.object C) v = v := by rcases ref_cases h with rfl | ⟨a, rfl⟩ <;> rfl
theorem own_fit {v : Value} {C : String} (h : v.isRef = true) : fits (.object C) v = true := by rcases ref_cases h with rfl | ⟨a, rfl⟩ <;> rfl
theorem own_refof {v : Value} (h : v.isRef = true) (n : ¬ v = .null) : ∃ a, v = .ref a := (ref_cases h).elim (fun q => absurd q n) id
theorem own_sint {args : Array Value} {s : State} {t : Term} {k : Int32} (h : (Cond.eq t (.int k)).value args s none s [] = some true) : t.eval args s none [] s = some (.int k) := by
  obtain ⟨x, y, hx, hy, -, kin⟩ := cmp_v (Or.inl h)
  obtain rfl : Value.int k = y := Option.some.inj hy
  obtain ⟨z, rfl⟩ := kin
  have e : z = k := by simpa [Cond.value, hx, hy] using h
  subst e; exact hx
theorem own_snot {args : Array Value} {s : State} {t : Term} {k z : Int32} (ht : t.eval args s none [] s = some (.int z)) (h : (Cond.not (Cond.eq t (.int k))).value args s none s [] = some true) : ¬ z = k := by
  have := not_v h
  intro e
  subst e
  simp [Cond.value, ht, Term.eval] at this
theorem own_seq {args : Array Value} {s : State} {t u : Term} {a b : Addr} (ht : t.eval args s none [] s = some (.ref a)) (hu : u.eval args s none [] s = some (.ref b)) (h : (Cond.eq t u).value args s none s [] = some true) : b = a := by
  have e : a = b := by simpa [Cond.value, ht, hu] using h
  exact e.symm
theorem own_len {args : Array Value} {s : State} {t : Term} {a : Addr} {c : Cell} {ty : FieldType} {n : Int32} (ht : t.eval args s none [] s = some (.ref a)) (A : Arr s s.heap a c ty) (h : (Cond.eq (.length t) (.int n)).value args s none s [] = some true) : c.slots.size < 2 ^ 31 ∧ c.slots.size.toInt32 = n := by
  have e0 := own_sint h
  have hfin := A.fin (Vm.Alike.refl _)
  by_cases hl : c.slots.size < 2 ^ 31
  · rw [len_f ht hfin hl] at e0
    exact ⟨hl, Value.int.inj (Option.some.inj e0)⟩
  · exfalso
    simp [Term.eval, ht, hfin, hl] at e0
theorem own_elem {args : Array Value} {s : State} {t u : Term} {a w : Addr} {c : Cell} {i : Int32} (ht : t.eval args s none [] s = some (.ref a)) (hc : s.heap[a]? = some c) (hu : u.eval args s none [] s = some (.ref w)) (h : (Cond.eq (.elem t (.int i)) u).value args s none s [] = some true) : c.slots[i.toNatClampNeg]? = some (.ref w) := by
  obtain ⟨x, y, hx, hy, k1, k2⟩ := cmp_v (Or.inl h)
  obtain rfl : Value.ref w = y := Option.some.inj (hu.symm.trans hy)
  have e := gotT (eq_R hx hu k2.2 rfl) h
  rw [e] at hx
  exact (elem_in hx ht (Term.int_eval i) hc).2
theorem own_ldcF {p : Program} {l : Launch} {e : Env} {R : Room} {s : State} {m : MethodId} {args : Array Value} {below : List Frame} {meth : Method} {c : Code} {T : State} {locs : List Loc} {cells slots : Nat}
    (X : Stand p l e R s m args below meth c T locs cells slots) (hx : p.tables.exec = Jvm.exec) {own : String} {index : Nat} {b : UInt32} (hown : s.vm.findClass own = some m.cls) (w : (Cond.constantFloat own index b).before args s = true) {g : JFrame} (hg : g.method = m) (hd : decode c.code g.pc = .ok (.ldc index, 2)) :
    ∀ target, Steps p.tables e below (T.setTop { g with pc := g.pc + 2, stack := .float b :: g.stack }) target → Steps p.tables e below (T.setTop g) target := by
  obtain ⟨k, cf, h1, h2, h3⟩ := Cond.constantFloat_spec hown w
  exact X.ldcFloat hx h1 h2 h3 hg hd
theorem own_old {Z : State} {n0 : Nat} {h : Heap} (O : Old Z n0 h) : n0 ≤ h.size := O.1 ▸ O.2.1
theorem own_rand (x m : Int32) (n : Int) (h0 : 0 ≤ m.toInt) (h1 : m.toInt < n) : 0 ≤ (x &&& m).toInt ∧ (x &&& m).toInt < n := by
  have := c_and x m h0; omega
theorem own_rrem (x y : Int32) (n : Int) (h0 : 0 ≤ x.toInt) (hy : y.toInt = n) (hn : 0 < n) : 0 ≤ (x % y).toInt ∧ (x % y).toInt < n := by
  rw [(c_irem x y n hy).1 h0]; exact ⟨Int.emod_nonneg _ (by omega), Int.emod_lt_of_pos _ hn⟩
theorem own_rshr (x q : Int32) (k : Nat) (m : Int) {n : Int} (r : 0 ≤ x.toInt ∧ x.toInt < n) (hk : q.toBitVec.toNat % 32 = k) (hm : (n - 1) / ((2 ^ k : Nat) : Int) < m) : 0 ≤ (x >>> (q &&& 31)).toInt ∧ (x >>> (q &&& 31)).toInt < m := by
  rw [c_ishr x q k hk]
  have hp : (0 : Int) < ((2 ^ k : Nat) : Int) := by exact_mod_cast Nat.two_pow_pos k
  exact ⟨Int.ediv_nonneg r.1 (Int.le_of_lt hp), Int.lt_of_le_of_lt (Int.ediv_le_ediv hp (by omega)) hm⟩
theorem own_off {e c : Int32} {n : Int} (r : 0 ≤ e.toInt ∧ e.toInt < n) (h : decide (n ≤ c.toInt ∨ c.toInt < 0) = true) : ¬ e = c := fun z => by
  subst z
  have := of_decide_eq_true h
  omega
theorem own_below {e c : Int32} {n : Int} (r : 0 ≤ e.toInt ∧ e.toInt < n) (h : n ≤ c.toInt) : e < c := by rw [Int32.lt_iff_toInt_lt]; omega
theorem own_notbelow {e c : Int32} {n : Int} (r : 0 ≤ e.toInt ∧ e.toInt < n) (h : c.toInt ≤ 0) : ¬ e < c := by rw [Int32.lt_iff_toInt_lt]; omega
theorem own_notabove {e c : Int32} {n : Int} (r : 0 ≤ e.toInt ∧ e.toInt < n) (h : n - 1 ≤ c.toInt) : ¬ c < e := by rw [Int32.lt_iff_toInt_lt]; omega
theorem own_above {e c : Int32} {n : Int} (r : 0 ≤ e.toInt ∧ e.toInt < n) (h : c.toInt < 0) : c < e := by rw [Int32.lt_iff_toInt_lt]; omega
theorem own_lt {a b : Int32} {n : Int} (h : a < b) (e : b.toInt = n) : a.toInt < n := by rw [← e]; exact Int32.lt_iff_toInt_lt.mp h
theorem own_ne {a b : Int32} {n : Int} (h : ¬ a = b) (e : b.toInt = n) : a.toInt ≠ n := fun z => h (Int32.toInt_inj.mp (z.trans e.symm))
theorem own_eq {a b : Int32} {n : Int} (e : b.toInt = n) (h : a.toInt = n) : a = b := Int32.toInt_inj.mp (h.trans e.symm)
theorem d1_0 : decode method_2_code 0 = .ok (.iload_n 0, 1) := by decide +kernel
theorem d1_1 : decode method_2_code 1 = .ok (.ifCond .ne 7, 3) := by decide +kernel
theorem d1_4 : decode method_2_code 4 = .ok (.getstatic 7, 3) := by decide +kernel
theorem d1_7 : decode method_2_code 7 = .ok (.areturn, 1) := by decide +kernel
theorem d1_8 : decode method_2_code 8 = .ok (.iload_n 0, 1) := by decide +kernel
theorem d1_9 : decode method_2_code 9 = .ok (.iconst 1, 1) := by decide +kernel
theorem d1_10 : decode method_2_code 10 = .ok (.if_icmp .ne 7, 3) := by decide +kernel
theorem d1_13 : decode method_2_code 13 = .ok (.getstatic 13, 3) := by decide +kernel
theorem d1_16 : decode method_2_code 16 = .ok (.areturn, 1) := by decide +kernel
theorem d1_17 : decode method_2_code 17 = .ok (.iload_n 0, 1) := by decide +kernel
theorem d1_18 : decode method_2_code 18 = .ok (.iconst 2, 1) := by decide +kernel
theorem d1_19 : decode method_2_code 19 = .ok (.if_icmp .ne 7, 3) := by decide +kernel
theorem d1_22 : decode method_2_code 22 = .ok (.getstatic 16, 3) := by decide +kernel
theorem d1_25 : decode method_2_code 25 = .ok (.areturn, 1) := by decide +kernel
theorem d1_26 : decode method_2_code 26 = .ok (.iload_n 0, 1) := by decide +kernel
theorem d1_27 : decode method_2_code 27 = .ok (.iconst 3, 1) := by decide +kernel
theorem d1_28 : decode method_2_code 28 = .ok (.if_icmp .ne 7, 3) := by decide +kernel
theorem d1_31 : decode method_2_code 31 = .ok (.getstatic 19, 3) := by decide +kernel
theorem d1_34 : decode method_2_code 34 = .ok (.areturn, 1) := by decide +kernel
theorem d1_35 : decode method_2_code 35 = .ok (.iload_n 0, 1) := by decide +kernel
theorem d1_36 : decode method_2_code 36 = .ok (.iconst 4, 1) := by decide +kernel
theorem d1_37 : decode method_2_code 37 = .ok (.if_icmp .ne 7, 3) := by decide +kernel
theorem d1_40 : decode method_2_code 40 = .ok (.getstatic 22, 3) := by decide +kernel
theorem d1_43 : decode method_2_code 43 = .ok (.areturn, 1) := by decide +kernel
theorem d1_44 : decode method_2_code 44 = .ok (.iload_n 0, 1) := by decide +kernel
theorem d1_45 : decode method_2_code 45 = .ok (.iconst 5, 1) := by decide +kernel
theorem d1_46 : decode method_2_code 46 = .ok (.if_icmp .ne 7, 3) := by decide +kernel
theorem d1_49 : decode method_2_code 49 = .ok (.getstatic 25, 3) := by decide +kernel
theorem d1_52 : decode method_2_code 52 = .ok (.areturn, 1) := by decide +kernel
theorem d1_53 : decode method_2_code 53 = .ok (.iload_n 0, 1) := by decide +kernel
theorem d1_54 : decode method_2_code 54 = .ok (.bipush 6, 2) := by decide +kernel
theorem d1_56 : decode method_2_code 56 = .ok (.if_icmp .ne 7, 3) := by decide +kernel
theorem d1_59 : decode method_2_code 59 = .ok (.getstatic 28, 3) := by decide +kernel
theorem d1_62 : decode method_2_code 62 = .ok (.areturn, 1) := by decide +kernel
theorem d1_63 : decode method_2_code 63 = .ok (.iload_n 0, 1) := by decide +kernel
theorem d1_64 : decode method_2_code 64 = .ok (.bipush 7, 2) := by decide +kernel
theorem d1_66 : decode method_2_code 66 = .ok (.if_icmp .ne 7, 3) := by decide +kernel
theorem d1_69 : decode method_2_code 69 = .ok (.getstatic 31, 3) := by decide +kernel
theorem d1_72 : decode method_2_code 72 = .ok (.areturn, 1) := by decide +kernel
theorem d1_73 : decode method_2_code 73 = .ok (.iload_n 0, 1) := by decide +kernel
theorem d1_74 : decode method_2_code 74 = .ok (.bipush 8, 2) := by decide +kernel
theorem d1_76 : decode method_2_code 76 = .ok (.if_icmp .ne 7, 3) := by decide +kernel
theorem d1_79 : decode method_2_code 79 = .ok (.getstatic 34, 3) := by decide +kernel
theorem d1_82 : decode method_2_code 82 = .ok (.areturn, 1) := by decide +kernel
theorem d1_83 : decode method_2_code 83 = .ok (.iload_n 0, 1) := by decide +kernel
theorem d1_84 : decode method_2_code 84 = .ok (.bipush 9, 2) := by decide +kernel
theorem d1_86 : decode method_2_code 86 = .ok (.if_icmp .ne 7, 3) := by decide +kernel
theorem d1_89 : decode method_2_code 89 = .ok (.getstatic 37, 3) := by decide +kernel
theorem d1_92 : decode method_2_code 92 = .ok (.areturn, 1) := by decide +kernel
theorem d1_93 : decode method_2_code 93 = .ok (.iload_n 0, 1) := by decide +kernel
theorem d1_94 : decode method_2_code 94 = .ok (.bipush 10, 2) := by decide +kernel
theorem d1_96 : decode method_2_code 96 = .ok (.if_icmp .ne 7, 3) := by decide +kernel
theorem d1_99 : decode method_2_code 99 = .ok (.getstatic 40, 3) := by decide +kernel
theorem d1_102 : decode method_2_code 102 = .ok (.areturn, 1) := by decide +kernel
theorem d1_103 : decode method_2_code 103 = .ok (.iload_n 0, 1) := by decide +kernel
theorem d1_104 : decode method_2_code 104 = .ok (.bipush 11, 2) := by decide +kernel
theorem d1_106 : decode method_2_code 106 = .ok (.if_icmp .ne 7, 3) := by decide +kernel
theorem d1_109 : decode method_2_code 109 = .ok (.getstatic 43, 3) := by decide +kernel
theorem d1_112 : decode method_2_code 112 = .ok (.areturn, 1) := by decide +kernel
theorem d1_113 : decode method_2_code 113 = .ok (.aconst_null, 1) := by decide +kernel
theorem d1_114 : decode method_2_code 114 = .ok (.areturn, 1) := by decide +kernel
abbrev Y0 : MethodName := (⟨"com/example/discharge/discharge/frontend/TypeIsVoidPinLaw", "pick", "(I)Lcom/example/discharge/discharge/frontend/IntegerType;"⟩ : MethodName)
theorem pd_0 : parseMethodDescriptor "(I)Lcom/example/discharge/discharge/frontend/IntegerType;" = some ⟨[.int], some (.object "com/example/discharge/discharge/frontend/IntegerType")⟩ := by decide +kernel
theorem d2_0 : decode prog_143_method_1_code 0 = .ok (.aload_n 0, 1) := by decide +kernel
theorem d2_1 : decode prog_143_method_1_code 1 = .ok (.invokespecial 1, 3) := by decide +kernel
theorem d3_0 : decode jdk_30_method_1_code 0 = .ok (.aload_n 0, 1) := by decide +kernel
theorem d3_1 : decode jdk_30_method_1_code 1 = .ok (.invokespecial 1, 3) := by decide +kernel
theorem d3_4 : decode jdk_30_method_1_code 4 = .ok (.return_, 1) := by decide +kernel
abbrev Y1 : MethodName := (⟨"java/lang/Record", "<init>", "()V"⟩ : MethodName)
theorem pd_1 : parseMethodDescriptor "()V" = some ⟨[], none⟩ := by decide +kernel
theorem d2_4 : decode prog_143_method_1_code 4 = .ok (.aload_n 0, 1) := by decide +kernel
theorem d2_5 : decode prog_143_method_1_code 5 = .ok (.aload_n 1, 1) := by decide +kernel
theorem d2_6 : decode prog_143_method_1_code 6 = .ok (.putfield 7, 3) := by decide +kernel
theorem d2_9 : decode prog_143_method_1_code 9 = .ok (.aload_n 0, 1) := by decide +kernel
theorem d2_10 : decode prog_143_method_1_code 10 = .ok (.iload_n 2, 1) := by decide +kernel
theorem d2_11 : decode prog_143_method_1_code 11 = .ok (.putfield 13, 3) := by decide +kernel
theorem d2_14 : decode prog_143_method_1_code 14 = .ok (.return_, 1) := by decide +kernel
abbrev Y2 : MethodName := (⟨"com/example/discharge/discharge/frontend/Syntax$Type", "<init>", "(Lcom/example/discharge/discharge/frontend/IntegerType;Z)V"⟩ : MethodName)
theorem pd_2 : parseMethodDescriptor "(Lcom/example/discharge/discharge/frontend/IntegerType;Z)V" = some ⟨[(.object "com/example/discharge/discharge/frontend/IntegerType"), .boolean], none⟩ := by decide +kernel
theorem d5_0 : decode prog_143_method_3_code 0 = .ok (.aload_n 0, 1) := by decide +kernel
theorem d5_1 : decode prog_143_method_3_code 1 = .ok (.getfield 7, 3) := by decide +kernel
theorem d5_4 : decode prog_143_method_3_code 4 = .ok (.ifnonnull 14, 3) := by decide +kernel
theorem d5_7 : decode prog_143_method_3_code 7 = .ok (.aload_n 0, 1) := by decide +kernel
theorem d5_8 : decode prog_143_method_3_code 8 = .ok (.getfield 13, 3) := by decide +kernel
theorem d5_11 : decode prog_143_method_3_code 11 = .ok (.ifCond .ne 7, 3) := by decide +kernel
theorem d5_14 : decode prog_143_method_3_code 14 = .ok (.iconst 1, 1) := by decide +kernel
theorem d5_15 : decode prog_143_method_3_code 15 = .ok (.goto 4, 3) := by decide +kernel
theorem d5_19 : decode prog_143_method_3_code 19 = .ok (.ireturn, 1) := by decide +kernel
theorem d5_18 : decode prog_143_method_3_code 18 = .ok (.iconst 0, 1) := by decide +kernel
abbrev Y3 : MethodName := (⟨"com/example/discharge/discharge/frontend/Syntax$Type", "isVoid", "()Z"⟩ : MethodName)
theorem pd_3 : parseMethodDescriptor "()Z" = some ⟨[], some .boolean⟩ := by decide +kernel
theorem d6_0 : decode prog_143_method_4_code 0 = .ok (.aload_n 1, 1) := by decide +kernel
theorem d6_1 : decode prog_143_method_4_code 1 = .ok (.instanceof 8, 3) := by decide +kernel
theorem d6_4 : decode prog_143_method_4_code 4 = .ok (.ifCond .eq 34, 3) := by decide +kernel
theorem d6_7 : decode prog_143_method_4_code 7 = .ok (.aload_n 1, 1) := by decide +kernel
theorem d6_8 : decode prog_143_method_4_code 8 = .ok (.checkcast 8, 3) := by decide +kernel
theorem d6_11 : decode prog_143_method_4_code 11 = .ok (.astore_n 2, 1) := by decide +kernel
theorem d6_12 : decode prog_143_method_4_code 12 = .ok (.aload_n 2, 1) := by decide +kernel
theorem d6_13 : decode prog_143_method_4_code 13 = .ok (.getfield 7, 3) := by decide +kernel
theorem d6_16 : decode prog_143_method_4_code 16 = .ok (.aload_n 0, 1) := by decide +kernel
theorem d6_17 : decode prog_143_method_4_code 17 = .ok (.getfield 7, 3) := by decide +kernel
theorem d6_20 : decode prog_143_method_4_code 20 = .ok (.if_acmp .ne 18, 3) := by decide +kernel
theorem d6_23 : decode prog_143_method_4_code 23 = .ok (.aload_n 2, 1) := by decide +kernel
theorem d6_24 : decode prog_143_method_4_code 24 = .ok (.getfield 13, 3) := by decide +kernel
theorem d6_27 : decode prog_143_method_4_code 27 = .ok (.aload_n 0, 1) := by decide +kernel
theorem d6_28 : decode prog_143_method_4_code 28 = .ok (.getfield 13, 3) := by decide +kernel
theorem d6_31 : decode prog_143_method_4_code 31 = .ok (.if_icmp .ne 7, 3) := by decide +kernel
theorem d6_34 : decode prog_143_method_4_code 34 = .ok (.iconst 1, 1) := by decide +kernel
theorem d6_35 : decode prog_143_method_4_code 35 = .ok (.goto 4, 3) := by decide +kernel
theorem d6_39 : decode prog_143_method_4_code 39 = .ok (.ireturn, 1) := by decide +kernel
theorem d6_38 : decode prog_143_method_4_code 38 = .ok (.iconst 0, 1) := by decide +kernel
abbrev Y4 : MethodName := (⟨"com/example/discharge/discharge/frontend/Syntax$Type", "equals", "(Ljava/lang/Object;)Z"⟩ : MethodName)
theorem pd_4 : parseMethodDescriptor "(Ljava/lang/Object;)Z" = some ⟨[(.object "java/lang/Object")], some .boolean⟩ := by decide +kernel

def StF (Z : State) (w_1 : Addr) (w_2 : Addr) (w_3 : Addr) (w_4 : Addr) (w_5 : Addr) (w_6 : Addr) (w_7 : Addr) (w_8 : Addr) (w_9 : Addr) (w_10 : Addr) (w_11 : Addr) (w_12 : Addr) (w_13 : Addr) : Prop :=
  Sta Z Z.heap "com/example/discharge/discharge/frontend/IntegerType" "BOOL" "Lcom/example/discharge/discharge/frontend/IntegerType;" (.ref w_1) ∧
  Exa Z Z.heap w_1 "com/example/discharge/discharge/frontend/IntegerType" ∧
  Sta Z Z.heap "com/example/discharge/discharge/frontend/Syntax$Type" "VOID" "Lcom/example/discharge/discharge/frontend/Syntax$Type;" (.ref w_2) ∧
  Exa Z Z.heap w_2 "com/example/discharge/discharge/frontend/Syntax$Type" ∧
  Sta Z Z.heap "com/example/discharge/discharge/frontend/IntegerType" "CHAR" "Lcom/example/discharge/discharge/frontend/IntegerType;" (.ref w_3) ∧
  Exa Z Z.heap w_3 "com/example/discharge/discharge/frontend/IntegerType" ∧
  Sta Z Z.heap "com/example/discharge/discharge/frontend/IntegerType" "SHORT" "Lcom/example/discharge/discharge/frontend/IntegerType;" (.ref w_4) ∧
  Exa Z Z.heap w_4 "com/example/discharge/discharge/frontend/IntegerType" ∧
  Sta Z Z.heap "com/example/discharge/discharge/frontend/IntegerType" "UNSIGNED_CHAR" "Lcom/example/discharge/discharge/frontend/IntegerType;" (.ref w_5) ∧
  Exa Z Z.heap w_5 "com/example/discharge/discharge/frontend/IntegerType" ∧
  Sta Z Z.heap "com/example/discharge/discharge/frontend/IntegerType" "UNSIGNED_LONG" "Lcom/example/discharge/discharge/frontend/IntegerType;" (.ref w_6) ∧
  Exa Z Z.heap w_6 "com/example/discharge/discharge/frontend/IntegerType" ∧
  Sta Z Z.heap "com/example/discharge/discharge/frontend/IntegerType" "UNSIGNED_SHORT" "Lcom/example/discharge/discharge/frontend/IntegerType;" (.ref w_7) ∧
  Exa Z Z.heap w_7 "com/example/discharge/discharge/frontend/IntegerType" ∧
  Sta Z Z.heap "com/example/discharge/discharge/frontend/IntegerType" "INT" "Lcom/example/discharge/discharge/frontend/IntegerType;" (.ref w_8) ∧
  Exa Z Z.heap w_8 "com/example/discharge/discharge/frontend/IntegerType" ∧
  Sta Z Z.heap "com/example/discharge/discharge/frontend/IntegerType" "LONG" "Lcom/example/discharge/discharge/frontend/IntegerType;" (.ref w_9) ∧
  Exa Z Z.heap w_9 "com/example/discharge/discharge/frontend/IntegerType" ∧
  Sta Z Z.heap "com/example/discharge/discharge/frontend/IntegerType" "SIGNED_CHAR" "Lcom/example/discharge/discharge/frontend/IntegerType;" (.ref w_10) ∧
  Exa Z Z.heap w_10 "com/example/discharge/discharge/frontend/IntegerType" ∧
  Sta Z Z.heap "com/example/discharge/discharge/frontend/IntegerType" "LONG_LONG" "Lcom/example/discharge/discharge/frontend/IntegerType;" (.ref w_11) ∧
  Exa Z Z.heap w_11 "com/example/discharge/discharge/frontend/IntegerType" ∧
  Sta Z Z.heap "com/example/discharge/discharge/frontend/IntegerType" "UNSIGNED_LONG_LONG" "Lcom/example/discharge/discharge/frontend/IntegerType;" (.ref w_12) ∧
  Exa Z Z.heap w_12 "com/example/discharge/discharge/frontend/IntegerType" ∧
  Sta Z Z.heap "com/example/discharge/discharge/frontend/IntegerType" "UNSIGNED_INT" "Lcom/example/discharge/discharge/frontend/IntegerType;" (.ref w_13) ∧
  Exa Z Z.heap w_13 "com/example/discharge/discharge/frontend/IntegerType" ∧
  Fld Z Z.heap w_2 "com/example/discharge/discharge/frontend/Syntax$Type" "integer" "Lcom/example/discharge/discharge/frontend/IntegerType;" .null ∧
  Fld Z Z.heap w_2 "com/example/discharge/discharge/frontend/Syntax$Type" "pointer" "Z" (.int (0 : Int32))
theorem pn_1 : plainName "com/example/discharge/discharge/frontend/TypeIsVoidPinLaw" = true := by first | (simp [plainName, overriddenIn]; done) | decide +kernel
theorem ef_1 (m : MethodId) (p0 : Int32) : entryFrame m #[(.int p0)] 1 = mkF m 0 #[.val (.int p0)] [] := by first | (simp [entryFrame, mkF, argsToLocals, Value.category]; done) | rfl
def sp1 (w_1 : Addr) (w_3 : Addr) (w_4 : Addr) (w_5 : Addr) (w_6 : Addr) (w_7 : Addr) (w_8 : Addr) (w_9 : Addr) (w_10 : Addr) (w_11 : Addr) (w_12 : Addr) (w_13 : Addr) (p0 : Int32) : Value := (if p0 = (0 : Int32) then (.ref w_1) else (if p0 = (1 : Int32) then (.ref w_3) else (if p0 = (2 : Int32) then (.ref w_10) else (if p0 = (3 : Int32) then (.ref w_5) else (if p0 = (4 : Int32) then (.ref w_4) else (if p0 = (5 : Int32) then (.ref w_7) else (if p0 = (6 : Int32) then (.ref w_8) else (if p0 = (7 : Int32) then (.ref w_13) else (if p0 = (8 : Int32) then (.ref w_9) else (if p0 = (9 : Int32) then (.ref w_6) else (if p0 = (10 : Int32) then (.ref w_11) else (if p0 = (11 : Int32) then (.ref w_12) else .null))))))))))))
def Q1 (Z : State) (w_1 : Addr) (w_2 : Addr) (w_3 : Addr) (w_4 : Addr) (w_5 : Addr) (w_6 : Addr) (w_7 : Addr) (w_8 : Addr) (w_9 : Addr) (w_10 : Addr) (w_11 : Addr) (w_12 : Addr) (w_13 : Addr) (p0 : Int32) (h0 : Heap) (n0 : Nat) (v : Option Value) (h : Heap) (L : List Loc) : Prop := v = some (sp1 w_1 w_3 w_4 w_5 w_6 w_7 w_8 w_9 w_10 w_11 w_12 w_13 p0) ∧ Fr n0 L ∧ h = h0
set_option maxRecDepth 65536 in
set_option maxHeartbeats 40000000 in
theorem rm1 (l : Launch) (Z : State) (a0 : Array Value) (hw : ∀ d ∈ tables_1, d.before a0 Z = true) (ws : List Jvm.Cond) (w_1 : Addr) (w_2 : Addr) (w_3 : Addr) (w_4 : Addr) (w_5 : Addr) (w_6 : Addr) (w_7 : Addr) (w_8 : Addr) (w_9 : Addr) (w_10 : Addr) (w_11 : Addr) (w_12 : Addr) (w_13 : Addr) (hS : StF Z w_1 w_2 w_3 w_4 w_5 w_6 w_7 w_8 w_9 w_10 w_11 w_12 w_13) (p0 : Int32) (h0 : Heap) (n0 : Nat) (O0 : Old Z n0 h0) :
    MetFree l Y0 (head1 (Jvm.Cond.code Y0 method_2_code 1 (some (.object "com/example/discharge/discharge/frontend/IntegerType")) :: ws) ({ frames := 0, cells := 0, slots := 0, locals := 0 } : Room)) (fun a U => a = #[(.int p0)] ∧ Z.Warmed39 U.vm ∧ U.heap = h0) (fun _ _ _ _ _ => True) (fun _ U o U' => ∃ v L, o = .returned v ∧ Q1 Z w_1 w_2 w_3 w_4 w_5 w_6 w_7 w_8 w_9 w_10 w_11 w_12 w_13 p0 h0 n0 v U'.heap L ∧ FrameEnd U o U' L ({ frames := 0, cells := 0, slots := 0, locals := 0 } : Room).cells ({ frames := 0, cells := 0, slots := 0, locals := 0 } : Room).slots) := by
  refine MetFree.of_bodySF (plainFor_of_name pn_1) hisR ?_
  intro p e s m args below meth c s₁ Bd hml0 hP hK
  obtain ⟨rfl, hZ, hh⟩ := hP
  have hx := Bd.exec
  have hby := Bd.bytes
  have hml : c.maxLocals = 1 := hml0
  have hown : s.vm.findClass "com/example/discharge/discharge/frontend/TypeIsVoidPinLaw" = some m.cls := findClass_of_methodNamed Bd.named
  have hnm := (name_of_methodNamed Bd.named Bd.method).1
  have X0 : Stand p l e ({ frames := 0, cells := 0, slots := 0, locals := 0 } : Room) s m #[(.int p0)] below meth c s₁ [] 0 0 := Stand.of_body Bd
  have e0 : s₁.heap = h0 := by rw [← hh, Bd.state]; rfl
  have N0 := Fr.nil n0
  have hS0 := hS
  obtain ⟨S_1, E_1, S_2, E_2, S_3, E_3, S_4, E_4, S_5, E_5, S_6, E_6, S_7, E_7, S_8, E_8, S_9, E_9, S_10, E_10, S_11, E_11, S_12, E_12, S_13, E_13, F_2_integer, F_2_pointer⟩ := hS
  have pre0 : ∀ t, Steps p.tables e below (s₁.setTop (mkF m 0 #[.val (.int p0)] [])) t → Steps p.tables e below (s₁.setTop (entryFrame m #[(.int p0)] 1)) t := fun t k => castTop (ef_1 m p0) k
  have pre31 : ∀ t, Steps p.tables e below (s₁.setTop (mkF m 1 #[.val (.int p0)] [(.int p0)])) t → Steps p.tables e below (s₁.setTop (entryFrame m #[(.int p0)] 1)) t := fun t kt => by
    refine pre0 t ?_
    show Steps p.tables e below (s₁.setTop (mkF m 0 #[.val (.int p0)] [])) _
    refine XS.iloadN X0.here hx rfl (hb hby d1_0) rfl ?_
    show Steps p.tables e below (s₁.setTop (mkF m 1 #[.val (.int p0)] [(.int p0)])) _
    exact kt
  by_cases hc32 : p0 = (0 : Int32)
  · obtain ⟨T33, X33, e33, st33⟩ := getS2 X0 hx hZ hown (host := "") (Or.inl (hw _ (tk 5 rfl))) Via.refl e0 (S_1.ext O0.2) (g := (mkF m 4 #[.val (.int p0)] [])) rfl (hb hby d1_4)
    obtain ⟨fs, hr, hrun, hended, hW, hsame⟩ := X33.leave (v := some (.ref w_1)) (fun h => by rw [Bd.returns] at h; cases h)
    refine ⟨_, _, pre31 _ ?_, hrun, hended, _, _, rfl, ?_, ⟨_, rfl⟩, hW, hsame.mono (by decide) (by decide)⟩
    · show Steps p.tables e below (s₁.setTop (mkF m 1 #[.val (.int p0)] [(.int p0)])) _
      refine XS.ifNo X0.here hx rfl (hb hby d1_1) rfl ((if0 _ _).trans (teq hc32).2) ?_
      show Steps p.tables e below (s₁.setTop (mkF m 4 #[.val (.int p0)] [])) _
      refine st33 _ ?_
      show Steps p.tables e below (T33.setTop (mkF m 7 #[.val (.int p0)] [(.ref w_1)])) _
      jvm_step X33.here [X33.here.top, hx, (hb hby d1_7), X33.method', Bd.returns, Value.isRef, FieldType.isReference]
      first | (intro acts; rw [hr _ acts rfl rfl rfl]) | rw [hr _ _ rfl rfl rfl]
      exact Steps.refl _
    · show Q1 Z w_1 w_2 w_3 w_4 w_5 w_6 w_7 w_8 w_9 w_10 w_11 w_12 w_13 p0 h0 n0 _ T33.heap _
      rw [e33]
      exact ⟨by unfold sp1; rw [if_pos hc32], N0, rfl⟩
  · have pre34 : ∀ t, Steps p.tables e below (s₁.setTop (mkF m 10 #[.val (.int p0)] [(.int (1 : Int32)), (.int p0)])) t → Steps p.tables e below (s₁.setTop (entryFrame m #[(.int p0)] 1)) t := fun t kt => by
      refine pre31 t ?_
      show Steps p.tables e below (s₁.setTop (mkF m 1 #[.val (.int p0)] [(.int p0)])) _
      refine XS.ifYes X0.here hx rfl (pc0 := 1) (pc' := 8) rfl (hb hby d1_1) rfl ((if0 _ _).trans (feq hc32).2) (by decide) (by decide) ?_
      show Steps p.tables e below (s₁.setTop (mkF m 8 #[.val (.int p0)] [])) _
      refine XS.iloadN X0.here hx rfl (hb hby d1_8) rfl ?_
      show Steps p.tables e below (s₁.setTop (mkF m 9 #[.val (.int p0)] [(.int p0)])) _
      refine XS.iconst X0.here hx rfl (hb hby d1_9) ?_
      show Steps p.tables e below (s₁.setTop (mkF m 10 #[.val (.int p0)] [(.int (1 : Int32)), (.int p0)])) _
      exact kt
    by_cases hc35 : p0 = (1 : Int32)
    · obtain ⟨T36, X36, e36, st36⟩ := getS2 X0 hx hZ hown (host := "") (Or.inl (hw _ (tk 40 rfl))) Via.refl e0 (S_3.ext O0.2) (g := (mkF m 13 #[.val (.int p0)] [])) rfl (hb hby d1_13)
      obtain ⟨fs, hr, hrun, hended, hW, hsame⟩ := X36.leave (v := some (.ref w_3)) (fun h => by rw [Bd.returns] at h; cases h)
      refine ⟨_, _, pre34 _ ?_, hrun, hended, _, _, rfl, ?_, ⟨_, rfl⟩, hW, hsame.mono (by decide) (by decide)⟩
      · show Steps p.tables e below (s₁.setTop (mkF m 10 #[.val (.int p0)] [(.int (1 : Int32)), (.int p0)])) _
        refine XS.icmpNo X0.here hx rfl (hb hby d1_10) rfl (teq hc35).2 ?_
        show Steps p.tables e below (s₁.setTop (mkF m 13 #[.val (.int p0)] [])) _
        refine st36 _ ?_
        show Steps p.tables e below (T36.setTop (mkF m 16 #[.val (.int p0)] [(.ref w_3)])) _
        jvm_step X36.here [X36.here.top, hx, (hb hby d1_16), X36.method', Bd.returns, Value.isRef, FieldType.isReference]
        first | (intro acts; rw [hr _ acts rfl rfl rfl]) | rw [hr _ _ rfl rfl rfl]
        exact Steps.refl _
      · show Q1 Z w_1 w_2 w_3 w_4 w_5 w_6 w_7 w_8 w_9 w_10 w_11 w_12 w_13 p0 h0 n0 _ T36.heap _
        rw [e36]
        exact ⟨by unfold sp1; rw [if_neg hc32, if_pos hc35], N0, rfl⟩
    · have pre37 : ∀ t, Steps p.tables e below (s₁.setTop (mkF m 19 #[.val (.int p0)] [(.int (2 : Int32)), (.int p0)])) t → Steps p.tables e below (s₁.setTop (entryFrame m #[(.int p0)] 1)) t := fun t kt => by
        refine pre34 t ?_
        show Steps p.tables e below (s₁.setTop (mkF m 10 #[.val (.int p0)] [(.int (1 : Int32)), (.int p0)])) _
        refine XS.icmpYes X0.here hx rfl (pc0 := 10) (pc' := 17) rfl (hb hby d1_10) rfl (feq hc35).2 (by decide) (by decide) ?_
        show Steps p.tables e below (s₁.setTop (mkF m 17 #[.val (.int p0)] [])) _
        refine XS.iloadN X0.here hx rfl (hb hby d1_17) rfl ?_
        show Steps p.tables e below (s₁.setTop (mkF m 18 #[.val (.int p0)] [(.int p0)])) _
        refine XS.iconst X0.here hx rfl (hb hby d1_18) ?_
        show Steps p.tables e below (s₁.setTop (mkF m 19 #[.val (.int p0)] [(.int (2 : Int32)), (.int p0)])) _
        exact kt
      by_cases hc38 : p0 = (2 : Int32)
      · obtain ⟨T39, X39, e39, st39⟩ := getS2 X0 hx hZ hown (host := "") (Or.inl (hw _ (tk 54 rfl))) Via.refl e0 (S_10.ext O0.2) (g := (mkF m 22 #[.val (.int p0)] [])) rfl (hb hby d1_22)
        obtain ⟨fs, hr, hrun, hended, hW, hsame⟩ := X39.leave (v := some (.ref w_10)) (fun h => by rw [Bd.returns] at h; cases h)
        refine ⟨_, _, pre37 _ ?_, hrun, hended, _, _, rfl, ?_, ⟨_, rfl⟩, hW, hsame.mono (by decide) (by decide)⟩
        · show Steps p.tables e below (s₁.setTop (mkF m 19 #[.val (.int p0)] [(.int (2 : Int32)), (.int p0)])) _
          refine XS.icmpNo X0.here hx rfl (hb hby d1_19) rfl (teq hc38).2 ?_
          show Steps p.tables e below (s₁.setTop (mkF m 22 #[.val (.int p0)] [])) _
          refine st39 _ ?_
          show Steps p.tables e below (T39.setTop (mkF m 25 #[.val (.int p0)] [(.ref w_10)])) _
          jvm_step X39.here [X39.here.top, hx, (hb hby d1_25), X39.method', Bd.returns, Value.isRef, FieldType.isReference]
          first | (intro acts; rw [hr _ acts rfl rfl rfl]) | rw [hr _ _ rfl rfl rfl]
          exact Steps.refl _
        · show Q1 Z w_1 w_2 w_3 w_4 w_5 w_6 w_7 w_8 w_9 w_10 w_11 w_12 w_13 p0 h0 n0 _ T39.heap _
          rw [e39]
          exact ⟨by unfold sp1; rw [if_neg hc32, if_neg hc35, if_pos hc38], N0, rfl⟩
      · have pre40 : ∀ t, Steps p.tables e below (s₁.setTop (mkF m 28 #[.val (.int p0)] [(.int (3 : Int32)), (.int p0)])) t → Steps p.tables e below (s₁.setTop (entryFrame m #[(.int p0)] 1)) t := fun t kt => by
          refine pre37 t ?_
          show Steps p.tables e below (s₁.setTop (mkF m 19 #[.val (.int p0)] [(.int (2 : Int32)), (.int p0)])) _
          refine XS.icmpYes X0.here hx rfl (pc0 := 19) (pc' := 26) rfl (hb hby d1_19) rfl (feq hc38).2 (by decide) (by decide) ?_
          show Steps p.tables e below (s₁.setTop (mkF m 26 #[.val (.int p0)] [])) _
          refine XS.iloadN X0.here hx rfl (hb hby d1_26) rfl ?_
          show Steps p.tables e below (s₁.setTop (mkF m 27 #[.val (.int p0)] [(.int p0)])) _
          refine XS.iconst X0.here hx rfl (hb hby d1_27) ?_
          show Steps p.tables e below (s₁.setTop (mkF m 28 #[.val (.int p0)] [(.int (3 : Int32)), (.int p0)])) _
          exact kt
        by_cases hc41 : p0 = (3 : Int32)
        · obtain ⟨T42, X42, e42, st42⟩ := getS2 X0 hx hZ hown (host := "") (Or.inl (hw _ (tk 44 rfl))) Via.refl e0 (S_5.ext O0.2) (g := (mkF m 31 #[.val (.int p0)] [])) rfl (hb hby d1_31)
          obtain ⟨fs, hr, hrun, hended, hW, hsame⟩ := X42.leave (v := some (.ref w_5)) (fun h => by rw [Bd.returns] at h; cases h)
          refine ⟨_, _, pre40 _ ?_, hrun, hended, _, _, rfl, ?_, ⟨_, rfl⟩, hW, hsame.mono (by decide) (by decide)⟩
          · show Steps p.tables e below (s₁.setTop (mkF m 28 #[.val (.int p0)] [(.int (3 : Int32)), (.int p0)])) _
            refine XS.icmpNo X0.here hx rfl (hb hby d1_28) rfl (teq hc41).2 ?_
            show Steps p.tables e below (s₁.setTop (mkF m 31 #[.val (.int p0)] [])) _
            refine st42 _ ?_
            show Steps p.tables e below (T42.setTop (mkF m 34 #[.val (.int p0)] [(.ref w_5)])) _
            jvm_step X42.here [X42.here.top, hx, (hb hby d1_34), X42.method', Bd.returns, Value.isRef, FieldType.isReference]
            first | (intro acts; rw [hr _ acts rfl rfl rfl]) | rw [hr _ _ rfl rfl rfl]
            exact Steps.refl _
          · show Q1 Z w_1 w_2 w_3 w_4 w_5 w_6 w_7 w_8 w_9 w_10 w_11 w_12 w_13 p0 h0 n0 _ T42.heap _
            rw [e42]
            exact ⟨by unfold sp1; rw [if_neg hc32, if_neg hc35, if_neg hc38, if_pos hc41], N0, rfl⟩
        · have pre43 : ∀ t, Steps p.tables e below (s₁.setTop (mkF m 37 #[.val (.int p0)] [(.int (4 : Int32)), (.int p0)])) t → Steps p.tables e below (s₁.setTop (entryFrame m #[(.int p0)] 1)) t := fun t kt => by
            refine pre40 t ?_
            show Steps p.tables e below (s₁.setTop (mkF m 28 #[.val (.int p0)] [(.int (3 : Int32)), (.int p0)])) _
            refine XS.icmpYes X0.here hx rfl (pc0 := 28) (pc' := 35) rfl (hb hby d1_28) rfl (feq hc41).2 (by decide) (by decide) ?_
            show Steps p.tables e below (s₁.setTop (mkF m 35 #[.val (.int p0)] [])) _
            refine XS.iloadN X0.here hx rfl (hb hby d1_35) rfl ?_
            show Steps p.tables e below (s₁.setTop (mkF m 36 #[.val (.int p0)] [(.int p0)])) _
            refine XS.iconst X0.here hx rfl (hb hby d1_36) ?_
            show Steps p.tables e below (s₁.setTop (mkF m 37 #[.val (.int p0)] [(.int (4 : Int32)), (.int p0)])) _
            exact kt
          by_cases hc44 : p0 = (4 : Int32)
          · obtain ⟨T45, X45, e45, st45⟩ := getS2 X0 hx hZ hown (host := "") (Or.inl (hw _ (tk 42 rfl))) Via.refl e0 (S_4.ext O0.2) (g := (mkF m 40 #[.val (.int p0)] [])) rfl (hb hby d1_40)
            obtain ⟨fs, hr, hrun, hended, hW, hsame⟩ := X45.leave (v := some (.ref w_4)) (fun h => by rw [Bd.returns] at h; cases h)
            refine ⟨_, _, pre43 _ ?_, hrun, hended, _, _, rfl, ?_, ⟨_, rfl⟩, hW, hsame.mono (by decide) (by decide)⟩
            · show Steps p.tables e below (s₁.setTop (mkF m 37 #[.val (.int p0)] [(.int (4 : Int32)), (.int p0)])) _
              refine XS.icmpNo X0.here hx rfl (hb hby d1_37) rfl (teq hc44).2 ?_
              show Steps p.tables e below (s₁.setTop (mkF m 40 #[.val (.int p0)] [])) _
              refine st45 _ ?_
              show Steps p.tables e below (T45.setTop (mkF m 43 #[.val (.int p0)] [(.ref w_4)])) _
              jvm_step X45.here [X45.here.top, hx, (hb hby d1_43), X45.method', Bd.returns, Value.isRef, FieldType.isReference]
              first | (intro acts; rw [hr _ acts rfl rfl rfl]) | rw [hr _ _ rfl rfl rfl]
              exact Steps.refl _
            · show Q1 Z w_1 w_2 w_3 w_4 w_5 w_6 w_7 w_8 w_9 w_10 w_11 w_12 w_13 p0 h0 n0 _ T45.heap _
              rw [e45]
              exact ⟨by unfold sp1; rw [if_neg hc32, if_neg hc35, if_neg hc38, if_neg hc41, if_pos hc44], N0, rfl⟩
          · have pre46 : ∀ t, Steps p.tables e below (s₁.setTop (mkF m 46 #[.val (.int p0)] [(.int (5 : Int32)), (.int p0)])) t → Steps p.tables e below (s₁.setTop (entryFrame m #[(.int p0)] 1)) t := fun t kt => by
              refine pre43 t ?_
              show Steps p.tables e below (s₁.setTop (mkF m 37 #[.val (.int p0)] [(.int (4 : Int32)), (.int p0)])) _
              refine XS.icmpYes X0.here hx rfl (pc0 := 37) (pc' := 44) rfl (hb hby d1_37) rfl (feq hc44).2 (by decide) (by decide) ?_
              show Steps p.tables e below (s₁.setTop (mkF m 44 #[.val (.int p0)] [])) _
              refine XS.iloadN X0.here hx rfl (hb hby d1_44) rfl ?_
              show Steps p.tables e below (s₁.setTop (mkF m 45 #[.val (.int p0)] [(.int p0)])) _
              refine XS.iconst X0.here hx rfl (hb hby d1_45) ?_
              show Steps p.tables e below (s₁.setTop (mkF m 46 #[.val (.int p0)] [(.int (5 : Int32)), (.int p0)])) _
              exact kt
            by_cases hc47 : p0 = (5 : Int32)
            · obtain ⟨T48, X48, e48, st48⟩ := getS2 X0 hx hZ hown (host := "") (Or.inl (hw _ (tk 48 rfl))) Via.refl e0 (S_7.ext O0.2) (g := (mkF m 49 #[.val (.int p0)] [])) rfl (hb hby d1_49)
              obtain ⟨fs, hr, hrun, hended, hW, hsame⟩ := X48.leave (v := some (.ref w_7)) (fun h => by rw [Bd.returns] at h; cases h)
              refine ⟨_, _, pre46 _ ?_, hrun, hended, _, _, rfl, ?_, ⟨_, rfl⟩, hW, hsame.mono (by decide) (by decide)⟩
              · show Steps p.tables e below (s₁.setTop (mkF m 46 #[.val (.int p0)] [(.int (5 : Int32)), (.int p0)])) _
                refine XS.icmpNo X0.here hx rfl (hb hby d1_46) rfl (teq hc47).2 ?_
                show Steps p.tables e below (s₁.setTop (mkF m 49 #[.val (.int p0)] [])) _
                refine st48 _ ?_
                show Steps p.tables e below (T48.setTop (mkF m 52 #[.val (.int p0)] [(.ref w_7)])) _
                jvm_step X48.here [X48.here.top, hx, (hb hby d1_52), X48.method', Bd.returns, Value.isRef, FieldType.isReference]
                first | (intro acts; rw [hr _ acts rfl rfl rfl]) | rw [hr _ _ rfl rfl rfl]
                exact Steps.refl _
              · show Q1 Z w_1 w_2 w_3 w_4 w_5 w_6 w_7 w_8 w_9 w_10 w_11 w_12 w_13 p0 h0 n0 _ T48.heap _
                rw [e48]
                exact ⟨by unfold sp1; rw [if_neg hc32, if_neg hc35, if_neg hc38, if_neg hc41, if_neg hc44, if_pos hc47], N0, rfl⟩
            · have pre49 : ∀ t, Steps p.tables e below (s₁.setTop (mkF m 56 #[.val (.int p0)] [(.int (6 : Int32)), (.int p0)])) t → Steps p.tables e below (s₁.setTop (entryFrame m #[(.int p0)] 1)) t := fun t kt => by
                refine pre46 t ?_
                show Steps p.tables e below (s₁.setTop (mkF m 46 #[.val (.int p0)] [(.int (5 : Int32)), (.int p0)])) _
                refine XS.icmpYes X0.here hx rfl (pc0 := 46) (pc' := 53) rfl (hb hby d1_46) rfl (feq hc47).2 (by decide) (by decide) ?_
                show Steps p.tables e below (s₁.setTop (mkF m 53 #[.val (.int p0)] [])) _
                refine XS.iloadN X0.here hx rfl (hb hby d1_53) rfl ?_
                show Steps p.tables e below (s₁.setTop (mkF m 54 #[.val (.int p0)] [(.int p0)])) _
                refine XS.bipush X0.here hx rfl (hb hby d1_54) ?_
                show Steps p.tables e below (s₁.setTop (mkF m 56 #[.val (.int p0)] [(.int (6 : Int32)), (.int p0)])) _
                exact kt
              by_cases hc50 : p0 = (6 : Int32)
              · obtain ⟨T51, X51, e51, st51⟩ := getS2 X0 hx hZ hown (host := "") (Or.inl (hw _ (tk 50 rfl))) Via.refl e0 (S_8.ext O0.2) (g := (mkF m 59 #[.val (.int p0)] [])) rfl (hb hby d1_59)
                obtain ⟨fs, hr, hrun, hended, hW, hsame⟩ := X51.leave (v := some (.ref w_8)) (fun h => by rw [Bd.returns] at h; cases h)
                refine ⟨_, _, pre49 _ ?_, hrun, hended, _, _, rfl, ?_, ⟨_, rfl⟩, hW, hsame.mono (by decide) (by decide)⟩
                · show Steps p.tables e below (s₁.setTop (mkF m 56 #[.val (.int p0)] [(.int (6 : Int32)), (.int p0)])) _
                  refine XS.icmpNo X0.here hx rfl (hb hby d1_56) rfl (teq hc50).2 ?_
                  show Steps p.tables e below (s₁.setTop (mkF m 59 #[.val (.int p0)] [])) _
                  refine st51 _ ?_
                  show Steps p.tables e below (T51.setTop (mkF m 62 #[.val (.int p0)] [(.ref w_8)])) _
                  jvm_step X51.here [X51.here.top, hx, (hb hby d1_62), X51.method', Bd.returns, Value.isRef, FieldType.isReference]
                  first | (intro acts; rw [hr _ acts rfl rfl rfl]) | rw [hr _ _ rfl rfl rfl]
                  exact Steps.refl _
                · show Q1 Z w_1 w_2 w_3 w_4 w_5 w_6 w_7 w_8 w_9 w_10 w_11 w_12 w_13 p0 h0 n0 _ T51.heap _
                  rw [e51]
                  exact ⟨by unfold sp1; rw [if_neg hc32, if_neg hc35, if_neg hc38, if_neg hc41, if_neg hc44, if_neg hc47, if_pos hc50], N0, rfl⟩
              · have pre52 : ∀ t, Steps p.tables e below (s₁.setTop (mkF m 66 #[.val (.int p0)] [(.int (7 : Int32)), (.int p0)])) t → Steps p.tables e below (s₁.setTop (entryFrame m #[(.int p0)] 1)) t := fun t kt => by
                  refine pre49 t ?_
                  show Steps p.tables e below (s₁.setTop (mkF m 56 #[.val (.int p0)] [(.int (6 : Int32)), (.int p0)])) _
                  refine XS.icmpYes X0.here hx rfl (pc0 := 56) (pc' := 63) rfl (hb hby d1_56) rfl (feq hc50).2 (by decide) (by decide) ?_
                  show Steps p.tables e below (s₁.setTop (mkF m 63 #[.val (.int p0)] [])) _
                  refine XS.iloadN X0.here hx rfl (hb hby d1_63) rfl ?_
                  show Steps p.tables e below (s₁.setTop (mkF m 64 #[.val (.int p0)] [(.int p0)])) _
                  refine XS.bipush X0.here hx rfl (hb hby d1_64) ?_
                  show Steps p.tables e below (s₁.setTop (mkF m 66 #[.val (.int p0)] [(.int (7 : Int32)), (.int p0)])) _
                  exact kt
                by_cases hc53 : p0 = (7 : Int32)
                · obtain ⟨T54, X54, e54, st54⟩ := getS2 X0 hx hZ hown (host := "") (Or.inl (hw _ (tk 60 rfl))) Via.refl e0 (S_13.ext O0.2) (g := (mkF m 69 #[.val (.int p0)] [])) rfl (hb hby d1_69)
                  obtain ⟨fs, hr, hrun, hended, hW, hsame⟩ := X54.leave (v := some (.ref w_13)) (fun h => by rw [Bd.returns] at h; cases h)
                  refine ⟨_, _, pre52 _ ?_, hrun, hended, _, _, rfl, ?_, ⟨_, rfl⟩, hW, hsame.mono (by decide) (by decide)⟩
                  · show Steps p.tables e below (s₁.setTop (mkF m 66 #[.val (.int p0)] [(.int (7 : Int32)), (.int p0)])) _
                    refine XS.icmpNo X0.here hx rfl (hb hby d1_66) rfl (teq hc53).2 ?_
                    show Steps p.tables e below (s₁.setTop (mkF m 69 #[.val (.int p0)] [])) _
                    refine st54 _ ?_
                    show Steps p.tables e below (T54.setTop (mkF m 72 #[.val (.int p0)] [(.ref w_13)])) _
                    jvm_step X54.here [X54.here.top, hx, (hb hby d1_72), X54.method', Bd.returns, Value.isRef, FieldType.isReference]
                    first | (intro acts; rw [hr _ acts rfl rfl rfl]) | rw [hr _ _ rfl rfl rfl]
                    exact Steps.refl _
                  · show Q1 Z w_1 w_2 w_3 w_4 w_5 w_6 w_7 w_8 w_9 w_10 w_11 w_12 w_13 p0 h0 n0 _ T54.heap _
                    rw [e54]
                    exact ⟨by unfold sp1; rw [if_neg hc32, if_neg hc35, if_neg hc38, if_neg hc41, if_neg hc44, if_neg hc47, if_neg hc50, if_pos hc53], N0, rfl⟩
                · have pre55 : ∀ t, Steps p.tables e below (s₁.setTop (mkF m 76 #[.val (.int p0)] [(.int (8 : Int32)), (.int p0)])) t → Steps p.tables e below (s₁.setTop (entryFrame m #[(.int p0)] 1)) t := fun t kt => by
                    refine pre52 t ?_
                    show Steps p.tables e below (s₁.setTop (mkF m 66 #[.val (.int p0)] [(.int (7 : Int32)), (.int p0)])) _
                    refine XS.icmpYes X0.here hx rfl (pc0 := 66) (pc' := 73) rfl (hb hby d1_66) rfl (feq hc53).2 (by decide) (by decide) ?_
                    show Steps p.tables e below (s₁.setTop (mkF m 73 #[.val (.int p0)] [])) _
                    refine XS.iloadN X0.here hx rfl (hb hby d1_73) rfl ?_
                    show Steps p.tables e below (s₁.setTop (mkF m 74 #[.val (.int p0)] [(.int p0)])) _
                    refine XS.bipush X0.here hx rfl (hb hby d1_74) ?_
                    show Steps p.tables e below (s₁.setTop (mkF m 76 #[.val (.int p0)] [(.int (8 : Int32)), (.int p0)])) _
                    exact kt
                  by_cases hc56 : p0 = (8 : Int32)
                  · obtain ⟨T57, X57, e57, st57⟩ := getS2 X0 hx hZ hown (host := "") (Or.inl (hw _ (tk 52 rfl))) Via.refl e0 (S_9.ext O0.2) (g := (mkF m 79 #[.val (.int p0)] [])) rfl (hb hby d1_79)
                    obtain ⟨fs, hr, hrun, hended, hW, hsame⟩ := X57.leave (v := some (.ref w_9)) (fun h => by rw [Bd.returns] at h; cases h)
                    refine ⟨_, _, pre55 _ ?_, hrun, hended, _, _, rfl, ?_, ⟨_, rfl⟩, hW, hsame.mono (by decide) (by decide)⟩
                    · show Steps p.tables e below (s₁.setTop (mkF m 76 #[.val (.int p0)] [(.int (8 : Int32)), (.int p0)])) _
                      refine XS.icmpNo X0.here hx rfl (hb hby d1_76) rfl (teq hc56).2 ?_
                      show Steps p.tables e below (s₁.setTop (mkF m 79 #[.val (.int p0)] [])) _
                      refine st57 _ ?_
                      show Steps p.tables e below (T57.setTop (mkF m 82 #[.val (.int p0)] [(.ref w_9)])) _
                      jvm_step X57.here [X57.here.top, hx, (hb hby d1_82), X57.method', Bd.returns, Value.isRef, FieldType.isReference]
                      first | (intro acts; rw [hr _ acts rfl rfl rfl]) | rw [hr _ _ rfl rfl rfl]
                      exact Steps.refl _
                    · show Q1 Z w_1 w_2 w_3 w_4 w_5 w_6 w_7 w_8 w_9 w_10 w_11 w_12 w_13 p0 h0 n0 _ T57.heap _
                      rw [e57]
                      exact ⟨by unfold sp1; rw [if_neg hc32, if_neg hc35, if_neg hc38, if_neg hc41, if_neg hc44, if_neg hc47, if_neg hc50, if_neg hc53, if_pos hc56], N0, rfl⟩
                  · have pre58 : ∀ t, Steps p.tables e below (s₁.setTop (mkF m 86 #[.val (.int p0)] [(.int (9 : Int32)), (.int p0)])) t → Steps p.tables e below (s₁.setTop (entryFrame m #[(.int p0)] 1)) t := fun t kt => by
                      refine pre55 t ?_
                      show Steps p.tables e below (s₁.setTop (mkF m 76 #[.val (.int p0)] [(.int (8 : Int32)), (.int p0)])) _
                      refine XS.icmpYes X0.here hx rfl (pc0 := 76) (pc' := 83) rfl (hb hby d1_76) rfl (feq hc56).2 (by decide) (by decide) ?_
                      show Steps p.tables e below (s₁.setTop (mkF m 83 #[.val (.int p0)] [])) _
                      refine XS.iloadN X0.here hx rfl (hb hby d1_83) rfl ?_
                      show Steps p.tables e below (s₁.setTop (mkF m 84 #[.val (.int p0)] [(.int p0)])) _
                      refine XS.bipush X0.here hx rfl (hb hby d1_84) ?_
                      show Steps p.tables e below (s₁.setTop (mkF m 86 #[.val (.int p0)] [(.int (9 : Int32)), (.int p0)])) _
                      exact kt
                    by_cases hc59 : p0 = (9 : Int32)
                    · obtain ⟨T60, X60, e60, st60⟩ := getS2 X0 hx hZ hown (host := "") (Or.inl (hw _ (tk 46 rfl))) Via.refl e0 (S_6.ext O0.2) (g := (mkF m 89 #[.val (.int p0)] [])) rfl (hb hby d1_89)
                      obtain ⟨fs, hr, hrun, hended, hW, hsame⟩ := X60.leave (v := some (.ref w_6)) (fun h => by rw [Bd.returns] at h; cases h)
                      refine ⟨_, _, pre58 _ ?_, hrun, hended, _, _, rfl, ?_, ⟨_, rfl⟩, hW, hsame.mono (by decide) (by decide)⟩
                      · show Steps p.tables e below (s₁.setTop (mkF m 86 #[.val (.int p0)] [(.int (9 : Int32)), (.int p0)])) _
                        refine XS.icmpNo X0.here hx rfl (hb hby d1_86) rfl (teq hc59).2 ?_
                        show Steps p.tables e below (s₁.setTop (mkF m 89 #[.val (.int p0)] [])) _
                        refine st60 _ ?_
                        show Steps p.tables e below (T60.setTop (mkF m 92 #[.val (.int p0)] [(.ref w_6)])) _
                        jvm_step X60.here [X60.here.top, hx, (hb hby d1_92), X60.method', Bd.returns, Value.isRef, FieldType.isReference]
                        first | (intro acts; rw [hr _ acts rfl rfl rfl]) | rw [hr _ _ rfl rfl rfl]
                        exact Steps.refl _
                      · show Q1 Z w_1 w_2 w_3 w_4 w_5 w_6 w_7 w_8 w_9 w_10 w_11 w_12 w_13 p0 h0 n0 _ T60.heap _
                        rw [e60]
                        exact ⟨by unfold sp1; rw [if_neg hc32, if_neg hc35, if_neg hc38, if_neg hc41, if_neg hc44, if_neg hc47, if_neg hc50, if_neg hc53, if_neg hc56, if_pos hc59], N0, rfl⟩
                    · have pre61 : ∀ t, Steps p.tables e below (s₁.setTop (mkF m 96 #[.val (.int p0)] [(.int (10 : Int32)), (.int p0)])) t → Steps p.tables e below (s₁.setTop (entryFrame m #[(.int p0)] 1)) t := fun t kt => by
                        refine pre58 t ?_
                        show Steps p.tables e below (s₁.setTop (mkF m 86 #[.val (.int p0)] [(.int (9 : Int32)), (.int p0)])) _
                        refine XS.icmpYes X0.here hx rfl (pc0 := 86) (pc' := 93) rfl (hb hby d1_86) rfl (feq hc59).2 (by decide) (by decide) ?_
                        show Steps p.tables e below (s₁.setTop (mkF m 93 #[.val (.int p0)] [])) _
                        refine XS.iloadN X0.here hx rfl (hb hby d1_93) rfl ?_
                        show Steps p.tables e below (s₁.setTop (mkF m 94 #[.val (.int p0)] [(.int p0)])) _
                        refine XS.bipush X0.here hx rfl (hb hby d1_94) ?_
                        show Steps p.tables e below (s₁.setTop (mkF m 96 #[.val (.int p0)] [(.int (10 : Int32)), (.int p0)])) _
                        exact kt
                      by_cases hc62 : p0 = (10 : Int32)
                      · obtain ⟨T63, X63, e63, st63⟩ := getS2 X0 hx hZ hown (host := "") (Or.inl (hw _ (tk 56 rfl))) Via.refl e0 (S_11.ext O0.2) (g := (mkF m 99 #[.val (.int p0)] [])) rfl (hb hby d1_99)
                        obtain ⟨fs, hr, hrun, hended, hW, hsame⟩ := X63.leave (v := some (.ref w_11)) (fun h => by rw [Bd.returns] at h; cases h)
                        refine ⟨_, _, pre61 _ ?_, hrun, hended, _, _, rfl, ?_, ⟨_, rfl⟩, hW, hsame.mono (by decide) (by decide)⟩
                        · show Steps p.tables e below (s₁.setTop (mkF m 96 #[.val (.int p0)] [(.int (10 : Int32)), (.int p0)])) _
                          refine XS.icmpNo X0.here hx rfl (hb hby d1_96) rfl (teq hc62).2 ?_
                          show Steps p.tables e below (s₁.setTop (mkF m 99 #[.val (.int p0)] [])) _
                          refine st63 _ ?_
                          show Steps p.tables e below (T63.setTop (mkF m 102 #[.val (.int p0)] [(.ref w_11)])) _
                          jvm_step X63.here [X63.here.top, hx, (hb hby d1_102), X63.method', Bd.returns, Value.isRef, FieldType.isReference]
                          first | (intro acts; rw [hr _ acts rfl rfl rfl]) | rw [hr _ _ rfl rfl rfl]
                          exact Steps.refl _
                        · show Q1 Z w_1 w_2 w_3 w_4 w_5 w_6 w_7 w_8 w_9 w_10 w_11 w_12 w_13 p0 h0 n0 _ T63.heap _
                          rw [e63]
                          exact ⟨by unfold sp1; rw [if_neg hc32, if_neg hc35, if_neg hc38, if_neg hc41, if_neg hc44, if_neg hc47, if_neg hc50, if_neg hc53, if_neg hc56, if_neg hc59, if_pos hc62], N0, rfl⟩
                      · have pre64 : ∀ t, Steps p.tables e below (s₁.setTop (mkF m 106 #[.val (.int p0)] [(.int (11 : Int32)), (.int p0)])) t → Steps p.tables e below (s₁.setTop (entryFrame m #[(.int p0)] 1)) t := fun t kt => by
                          refine pre61 t ?_
                          show Steps p.tables e below (s₁.setTop (mkF m 96 #[.val (.int p0)] [(.int (10 : Int32)), (.int p0)])) _
                          refine XS.icmpYes X0.here hx rfl (pc0 := 96) (pc' := 103) rfl (hb hby d1_96) rfl (feq hc62).2 (by decide) (by decide) ?_
                          show Steps p.tables e below (s₁.setTop (mkF m 103 #[.val (.int p0)] [])) _
                          refine XS.iloadN X0.here hx rfl (hb hby d1_103) rfl ?_
                          show Steps p.tables e below (s₁.setTop (mkF m 104 #[.val (.int p0)] [(.int p0)])) _
                          refine XS.bipush X0.here hx rfl (hb hby d1_104) ?_
                          show Steps p.tables e below (s₁.setTop (mkF m 106 #[.val (.int p0)] [(.int (11 : Int32)), (.int p0)])) _
                          exact kt
                        by_cases hc65 : p0 = (11 : Int32)
                        · obtain ⟨T66, X66, e66, st66⟩ := getS2 X0 hx hZ hown (host := "") (Or.inl (hw _ (tk 58 rfl))) Via.refl e0 (S_12.ext O0.2) (g := (mkF m 109 #[.val (.int p0)] [])) rfl (hb hby d1_109)
                          obtain ⟨fs, hr, hrun, hended, hW, hsame⟩ := X66.leave (v := some (.ref w_12)) (fun h => by rw [Bd.returns] at h; cases h)
                          refine ⟨_, _, pre64 _ ?_, hrun, hended, _, _, rfl, ?_, ⟨_, rfl⟩, hW, hsame.mono (by decide) (by decide)⟩
                          · show Steps p.tables e below (s₁.setTop (mkF m 106 #[.val (.int p0)] [(.int (11 : Int32)), (.int p0)])) _
                            refine XS.icmpNo X0.here hx rfl (hb hby d1_106) rfl (teq hc65).2 ?_
                            show Steps p.tables e below (s₁.setTop (mkF m 109 #[.val (.int p0)] [])) _
                            refine st66 _ ?_
                            show Steps p.tables e below (T66.setTop (mkF m 112 #[.val (.int p0)] [(.ref w_12)])) _
                            jvm_step X66.here [X66.here.top, hx, (hb hby d1_112), X66.method', Bd.returns, Value.isRef, FieldType.isReference]
                            first | (intro acts; rw [hr _ acts rfl rfl rfl]) | rw [hr _ _ rfl rfl rfl]
                            exact Steps.refl _
                          · show Q1 Z w_1 w_2 w_3 w_4 w_5 w_6 w_7 w_8 w_9 w_10 w_11 w_12 w_13 p0 h0 n0 _ T66.heap _
                            rw [e66]
                            exact ⟨by unfold sp1; rw [if_neg hc32, if_neg hc35, if_neg hc38, if_neg hc41, if_neg hc44, if_neg hc47, if_neg hc50, if_neg hc53, if_neg hc56, if_neg hc59, if_neg hc62, if_pos hc65], N0, rfl⟩
                        · obtain ⟨fs, hr, hrun, hended, hW, hsame⟩ := X0.leave (v := some .null) (fun h => by rw [Bd.returns] at h; cases h)
                          refine ⟨_, _, pre64 _ ?_, hrun, hended, _, _, rfl, ?_, ⟨_, rfl⟩, hW, hsame.mono (by decide) (by decide)⟩
                          · show Steps p.tables e below (s₁.setTop (mkF m 106 #[.val (.int p0)] [(.int (11 : Int32)), (.int p0)])) _
                            refine XS.icmpYes X0.here hx rfl (pc0 := 106) (pc' := 113) rfl (hb hby d1_106) rfl (feq hc65).2 (by decide) (by decide) ?_
                            show Steps p.tables e below (s₁.setTop (mkF m 113 #[.val (.int p0)] [])) _
                            refine XS.aconstNull X0.here hx rfl (hb hby d1_113) ?_
                            show Steps p.tables e below (s₁.setTop (mkF m 114 #[.val (.int p0)] [.null])) _
                            jvm_step X0.here [X0.here.top, hx, (hb hby d1_114), X0.method', Bd.returns, Value.isRef, FieldType.isReference]
                            first | (intro acts; rw [hr _ acts rfl rfl rfl]) | rw [hr _ _ rfl rfl rfl]
                            exact Steps.refl _
                          · show Q1 Z w_1 w_2 w_3 w_4 w_5 w_6 w_7 w_8 w_9 w_10 w_11 w_12 w_13 p0 h0 n0 _ s₁.heap _
                            rw [e0]
                            exact ⟨by unfold sp1; rw [if_neg hc32, if_neg hc35, if_neg hc38, if_neg hc41, if_neg hc44, if_neg hc47, if_neg hc50, if_neg hc53, if_neg hc56, if_neg hc59, if_neg hc62, if_neg hc65], N0, rfl⟩
theorem pn_3c1 : plainName "java/lang/Record" = true := by first | (simp [plainName, overriddenIn]; done) | decide +kernel
theorem ef_3c1 (m : MethodId) (r0 : Addr) : entryFrame m #[(.ref r0)] 1 = mkF m 0 #[.val (.ref r0)] [] := by first | (simp [entryFrame, mkF, argsToLocals, Value.category]; done) | rfl
def Q3c1 (Z : State) (w_1 : Addr) (w_2 : Addr) (w_3 : Addr) (w_4 : Addr) (w_5 : Addr) (w_6 : Addr) (w_7 : Addr) (w_8 : Addr) (w_9 : Addr) (w_10 : Addr) (w_11 : Addr) (w_12 : Addr) (w_13 : Addr) (r0 : Addr) (h0 : Heap) (n0 : Nat) (v : Option Value) (h : Heap) (L : List Loc) : Prop := v = none ∧ Fr n0 L ∧ h = h0
set_option maxRecDepth 65536 in
set_option maxHeartbeats 40000000 in
theorem rm3c1 (l : Launch) (Z : State) (a0 : Array Value) (hw : ∀ d ∈ tables_1, d.before a0 Z = true) (ws : List Jvm.Cond) (w_1 : Addr) (w_2 : Addr) (w_3 : Addr) (w_4 : Addr) (w_5 : Addr) (w_6 : Addr) (w_7 : Addr) (w_8 : Addr) (w_9 : Addr) (w_10 : Addr) (w_11 : Addr) (w_12 : Addr) (w_13 : Addr) (hS : StF Z w_1 w_2 w_3 w_4 w_5 w_6 w_7 w_8 w_9 w_10 w_11 w_12 w_13) (r0 : Addr) (h0 : Heap) (n0 : Nat) (O0 : Old Z n0 h0) (E_r0 : Exa Z h0 r0 "com/example/discharge/discharge/frontend/Syntax$Type") :
    MetFree l Y1 (head1 (Jvm.Cond.code Y1 jdk_30_method_1_code 1 none :: ws) ({ frames := 1, cells := 0, slots := 0, locals := 12 } : Room)) (fun a U => a = #[(.ref r0)] ∧ Z.Warmed39 U.vm ∧ U.heap = h0) (fun _ _ _ _ _ => True) (fun _ U o U' => ∃ v L, o = .returned v ∧ Q3c1 Z w_1 w_2 w_3 w_4 w_5 w_6 w_7 w_8 w_9 w_10 w_11 w_12 w_13 r0 h0 n0 v U'.heap L ∧ FrameEnd U o U' L ({ frames := 1, cells := 0, slots := 0, locals := 12 } : Room).cells ({ frames := 1, cells := 0, slots := 0, locals := 12 } : Room).slots) := by
  refine MetFree.of_bodySF (plainFor_of_name pn_3c1) hisR ?_
  intro p e s m args below meth c s₁ Bd hml0 hP hK
  obtain ⟨rfl, hZ, hh⟩ := hP
  have hx := Bd.exec
  have hby := Bd.bytes
  have hml : c.maxLocals = 1 := hml0
  have hown : s.vm.findClass "java/lang/Record" = some m.cls := findClass_of_methodNamed Bd.named
  have hnm := (name_of_methodNamed Bd.named Bd.method).1
  have X0 : Stand p l e ({ frames := 1, cells := 0, slots := 0, locals := 12 } : Room) s m #[(.ref r0)] below meth c s₁ [] 0 0 := Stand.of_body Bd
  have e0 : s₁.heap = h0 := by rw [← hh, Bd.state]; rfl
  have N0 := Fr.nil n0
  have hS0 := hS
  obtain ⟨S_1, E_1, S_2, E_2, S_3, E_3, S_4, E_4, S_5, E_5, S_6, E_6, S_7, E_7, S_8, E_8, S_9, E_9, S_10, E_10, S_11, E_11, S_12, E_12, S_13, E_13, F_2_integer, F_2_pointer⟩ := hS
  have pre0 : ∀ t, Steps p.tables e below (s₁.setTop (mkF m 0 #[.val (.ref r0)] [])) t → Steps p.tables e below (s₁.setTop (entryFrame m #[(.ref r0)] 1)) t := fun t k => castTop (ef_3c1 m r0) k
  obtain ⟨T71, X71, e71, st71⟩ := initO X0 hx hZ hown (hw _ (tk 19 rfl)) (hw _ (tk 20 rfl)) (hw _ (tk 21 rfl)) e0 (g := (mkF m 1 #[.val (.ref r0)] [(.ref r0)])) rfl (by rw [hml]; rfl) rfl (hb hby d3_1) (by decide) (W := 0) (by show 2 * 0 + _ ≤ _; exact Nat.le_of_eq rfl) (by decide)
  obtain ⟨fs, hr, hrun, hended, hW, hsame⟩ := X71.leave (v := none) (fun _ => rfl)
  refine ⟨_, _, pre0 _ ?_, hrun, hended, _, _, rfl, ?_, ⟨_, rfl⟩, hW, hsame.mono (by decide) (by decide)⟩
  · show Steps p.tables e below (s₁.setTop (mkF m 0 #[.val (.ref r0)] [])) _
    refine XS.aloadN X0.here hx rfl (hb hby d3_0) rfl rfl ?_
    show Steps p.tables e below (s₁.setTop (mkF m 1 #[.val (.ref r0)] [(.ref r0)])) _
    refine st71 _ ?_
    show Steps p.tables e below (T71.setTop (mkF m 4 #[.val (.ref r0)] [])) _
    exact X71.returnOut hx Bd.returns (hb hby d3_4) hr
  · show Q3c1 Z w_1 w_2 w_3 w_4 w_5 w_6 w_7 w_8 w_9 w_10 w_11 w_12 w_13 r0 h0 n0 _ T71.heap _
    rw [e71]
    exact ⟨rfl, N0, rfl⟩
theorem pn_2x1 : plainName "com/example/discharge/discharge/frontend/Syntax$Type" = true := by first | (simp [plainName, overriddenIn]; done) | decide +kernel
theorem ef_2x1 (m : MethodId) (r0 : Addr) (r1 : Addr) (p2 : Int32) : entryFrame m #[(.ref r0), (.ref r1), (.int p2)] 3 = mkF m 0 #[.val (.ref r0), .val (.ref r1), .val (.int p2)] [] := by first | (simp [entryFrame, mkF, argsToLocals, Value.category]; done) | rfl
def Q2x1 (Z : State) (w_1 : Addr) (w_2 : Addr) (w_3 : Addr) (w_4 : Addr) (w_5 : Addr) (w_6 : Addr) (w_7 : Addr) (w_8 : Addr) (w_9 : Addr) (w_10 : Addr) (w_11 : Addr) (w_12 : Addr) (w_13 : Addr) (r0 : Addr) (r1 : Addr) (p2 : Int32) (h0 : Heap) (n0 : Nat) (v : Option Value) (h : Heap) (L : List Loc) : Prop := v = none ∧ Fr n0 L ∧ Old Z n0 h ∧ Keep h0 h [r0] ∧ Fld Z h r0 "com/example/discharge/discharge/frontend/Syntax$Type" "integer" "Lcom/example/discharge/discharge/frontend/IntegerType;" (.ref r1) ∧ Fld Z h r0 "com/example/discharge/discharge/frontend/Syntax$Type" "pointer" "Z" (.int (nar .boolean p2))
set_option maxRecDepth 65536 in
set_option maxHeartbeats 40000000 in
theorem rm2x1 (l : Launch) (Z : State) (a0 : Array Value) (hw : ∀ d ∈ tables_1, d.before a0 Z = true) (ws : List Jvm.Cond) (w_1 : Addr) (w_2 : Addr) (w_3 : Addr) (w_4 : Addr) (w_5 : Addr) (w_6 : Addr) (w_7 : Addr) (w_8 : Addr) (w_9 : Addr) (w_10 : Addr) (w_11 : Addr) (w_12 : Addr) (w_13 : Addr) (hS : StF Z w_1 w_2 w_3 w_4 w_5 w_6 w_7 w_8 w_9 w_10 w_11 w_12 w_13) (r0 : Addr) (r1 : Addr) (p2 : Int32) (h0 : Heap) (n0 : Nat) (O0 : Old Z n0 h0) (g_r0 : n0 ≤ r0) (E_r0 : Exa Z h0 r0 "com/example/discharge/discharge/frontend/Syntax$Type") (F_integer_r0 : Fld Z h0 r0 "com/example/discharge/discharge/frontend/Syntax$Type" "integer" "Lcom/example/discharge/discharge/frontend/IntegerType;" .null) (F_pointer_r0 : Fld Z h0 r0 "com/example/discharge/discharge/frontend/Syntax$Type" "pointer" "Z" (.int (0 : Int32))) :
    MetFree l Y2 (head1 (Jvm.Cond.code Y2 prog_143_method_1_code 3 none :: ws) ({ frames := 2, cells := 0, slots := 0, locals := 24 } : Room)) (fun a U => a = #[(.ref r0), (.ref r1), (.int p2)] ∧ Z.Warmed39 U.vm ∧ U.heap = h0) (fun _ _ _ _ _ => True) (fun _ U o U' => ∃ v L, o = .returned v ∧ Q2x1 Z w_1 w_2 w_3 w_4 w_5 w_6 w_7 w_8 w_9 w_10 w_11 w_12 w_13 r0 r1 p2 h0 n0 v U'.heap L ∧ FrameEnd U o U' L ({ frames := 2, cells := 0, slots := 0, locals := 24 } : Room).cells ({ frames := 2, cells := 0, slots := 0, locals := 24 } : Room).slots) := by
  refine MetFree.of_bodySF (plainFor_of_name pn_2x1) hisR ?_
  intro p e s m args below meth c s₁ Bd hml0 hP hK
  obtain ⟨rfl, hZ, hh⟩ := hP
  have hx := Bd.exec
  have hby := Bd.bytes
  have hml : c.maxLocals = 3 := hml0
  have hown : s.vm.findClass "com/example/discharge/discharge/frontend/Syntax$Type" = some m.cls := findClass_of_methodNamed Bd.named
  have hnm := (name_of_methodNamed Bd.named Bd.method).1
  have X0 : Stand p l e ({ frames := 2, cells := 0, slots := 0, locals := 24 } : Room) s m #[(.ref r0), (.ref r1), (.int p2)] below meth c s₁ [] 0 0 := Stand.of_body Bd
  have e0 : s₁.heap = h0 := by rw [← hh, Bd.state]; rfl
  have N0 := Fr.nil n0
  have hS0 := hS
  obtain ⟨S_1, E_1, S_2, E_2, S_3, E_3, S_4, E_4, S_5, E_5, S_6, E_6, S_7, E_7, S_8, E_8, S_9, E_9, S_10, E_10, S_11, E_11, S_12, E_12, S_13, E_13, F_2_integer, F_2_pointer⟩ := hS
  have pre0 : ∀ t, Steps p.tables e below (s₁.setTop (mkF m 0 #[.val (.ref r0), .val (.ref r1), .val (.int p2)] [])) t → Steps p.tables e below (s₁.setTop (entryFrame m #[(.ref r0), (.ref r1), (.int p2)] 3)) t := fun t k => castTop (ef_2x1 m r0 r1 p2) k
  obtain ⟨_, _, ⟨T72, L72, k72, n72⟩, -, X72, ⟨Lc72, hQ72, l72, y72, z72⟩, st72⟩ := X0.specialBack hx (y := Y1) rfl hown (mvT hZ (hw _ (tk 14 rfl))) (mvT hZ (hw _ (tk 15 rfl))) (mvT hZ (hw _ (tk 18 rfl))) (by decide) (backOf (W := 0) (rm3c1 l Z a0 hw [] w_1 w_2 w_3 w_4 w_5 w_6 w_7 w_8 w_9 w_10 w_11 w_12 w_13 hS0 r0 h0 n0 O0 E_r0) hZ (hw _ (tk 18 rfl)) (hw _ (tk 17 rfl)) (by decide) (by decide)) (g := (mkF m 1 #[.val (.ref r0), .val (.ref r1), .val (.int p2)] [(.ref r0)])) rfl (by rw [hml]; rfl) (Steps.refl _) (a := r0) (argsL := []) (rest := []) (lenOf pd_1 rfl) rfl (by show 2 * 0 + _ ≤ _; exact Nat.le_of_eq rfl) (hb hby d2_1) (fun _ _ => ⟨rfl, e0, (by decide : 0 + 0 ≤ _), (by decide : 0 + 0 ≤ _)⟩)
  dsimp only [Pt.U, Pt.locs, Pt.cells, Pt.slots] at X72 l72 y72 z72 st72 hQ72
  subst l72 y72 z72
  obtain ⟨rv72, N72q, e72⟩ := hQ72
  subst rv72
  have N72 := Fr.app N0 N72q
  obtain ⟨T73, h73, X73, e73, W73, st73⟩ := putF X72 hx hZ hown (host := "") (Or.inl (hw _ (tk 22 rfl))) Via.refl e72 F_integer_r0 E_r0 (Or.inr ⟨(hw _ (tk 23 rfl)), rfl, hnm⟩) (hw _ (tk 9 rfl)) (ty := (.object "com/example/discharge/discharge/frontend/IntegerType")) (by decide) rfl rfl (g := (mkF m 6 #[.val (.ref r0), .val (.ref r1), .val (.int p2)] [(.ref r1), (.ref r0)])) rfl rfl (hb hby d2_6)
  have Fw73 := F_integer_r0.same W73
  have O73 : Old Z n0 h73 := O0.wr W73 g_r0
  have N73 := Fr.snoc X73 N72 g_r0
  have K73 : Keep h0 h73 [r0] := (Keep.refl h0 [r0]).wr W73 (Or.inl (List.mem_of_getElem? (i := 0) rfl))
  have c74 := (E_r0.wr W73)
  have c75 := (F_pointer_r0.other W73 (Or.inr (slot_ne (Or.inr (hw _ (tk 25 rfl))) (Or.inr (hw _ (tk 23 rfl))) (by decide) (t := .boolean) (t' := (.object "com/example/discharge/discharge/frontend/IntegerType")) (by decide) (by decide))))
  obtain ⟨T76, h76, X76, e76, W76, st76⟩ := putFN X73 hx hZ hown (hw _ (tk 24 rfl)) Via.refl e73 c75 c74 (Or.inr ⟨(hw _ (tk 25 rfl)), rfl, hnm⟩) (hw _ (tk 9 rfl)) (ty := .boolean) (v' := (.int (nar .boolean p2))) (by decide) rfl (fits_nar_bool _) (g := (mkF m 11 #[.val (.ref r0), .val (.ref r1), .val (.int p2)] [(.int p2), (.ref r0)])) rfl rfl (hb hby d2_11)
  have Fw76 := c75.same W76
  have O76 : Old Z n0 h76 := O73.wr W76 g_r0
  have N76 := Fr.snoc X76 N73 g_r0
  have K76 : Keep h0 h76 [r0] := K73.wr W76 (Or.inl (List.mem_of_getElem? (i := 0) rfl))
  obtain ⟨fs, hr, hrun, hended, hW, hsame⟩ := X76.leave (v := none) (fun _ => rfl)
  have c77 := (Fw73.other W76 (Or.inr (slot_ne (Or.inr (hw _ (tk 23 rfl))) (Or.inr (hw _ (tk 25 rfl))) (by decide) (t := (.object "com/example/discharge/discharge/frontend/IntegerType")) (t' := .boolean) (by decide) (by decide))))
  refine ⟨_, _, pre0 _ ?_, hrun, hended, _, _, rfl, ?_, ⟨_, rfl⟩, hW, hsame.mono (by decide) (by decide)⟩
  · show Steps p.tables e below (s₁.setTop (mkF m 0 #[.val (.ref r0), .val (.ref r1), .val (.int p2)] [])) _
    refine XS.aloadN X0.here hx rfl (hb hby d2_0) rfl rfl ?_
    show Steps p.tables e below (s₁.setTop (mkF m 1 #[.val (.ref r0), .val (.ref r1), .val (.int p2)] [(.ref r0)])) _
    refine st72.trans ?_
    show Steps p.tables e below (T72.setTop (mkF m 4 #[.val (.ref r0), .val (.ref r1), .val (.int p2)] [])) _
    refine XS.aloadN X72.here hx rfl (hb hby d2_4) rfl rfl ?_
    show Steps p.tables e below (T72.setTop (mkF m 5 #[.val (.ref r0), .val (.ref r1), .val (.int p2)] [(.ref r0)])) _
    refine XS.aloadN X72.here hx rfl (hb hby d2_5) rfl rfl ?_
    show Steps p.tables e below (T72.setTop (mkF m 6 #[.val (.ref r0), .val (.ref r1), .val (.int p2)] [(.ref r1), (.ref r0)])) _
    refine st73 _ ?_
    show Steps p.tables e below (T73.setTop (mkF m 9 #[.val (.ref r0), .val (.ref r1), .val (.int p2)] [])) _
    refine XS.aloadN X73.here hx rfl (hb hby d2_9) rfl rfl ?_
    show Steps p.tables e below (T73.setTop (mkF m 10 #[.val (.ref r0), .val (.ref r1), .val (.int p2)] [(.ref r0)])) _
    refine XS.iloadN X73.here hx rfl (hb hby d2_10) rfl ?_
    show Steps p.tables e below (T73.setTop (mkF m 11 #[.val (.ref r0), .val (.ref r1), .val (.int p2)] [(.int p2), (.ref r0)])) _
    refine st76 _ ?_
    show Steps p.tables e below (T76.setTop (mkF m 14 #[.val (.ref r0), .val (.ref r1), .val (.int p2)] [])) _
    exact X76.returnOut hx Bd.returns (hb hby d2_14) hr
  · show Q2x1 Z w_1 w_2 w_3 w_4 w_5 w_6 w_7 w_8 w_9 w_10 w_11 w_12 w_13 r0 r1 p2 h0 n0 _ T76.heap _
    rw [e76]
    exact ⟨rfl, N76, O76, K76, c77, Fw76⟩
theorem pn_5 : plainName "com/example/discharge/discharge/frontend/Syntax$Type" = true := by first | (simp [plainName, overriddenIn]; done) | decide +kernel
theorem ef_5 (m : MethodId) (r0 : Addr) : entryFrame m #[(.ref r0)] 1 = mkF m 0 #[.val (.ref r0)] [] := by first | (simp [entryFrame, mkF, argsToLocals, Value.category]; done) | rfl
def sp5 (u_integer_r0 : Value) (f_pointer_r0 : Int32) : Int32 := (if u_integer_r0 = .null then (if f_pointer_r0 = (0 : Int32) then (1 : Int32) else (0 : Int32)) else (0 : Int32))
def Q5 (Z : State) (w_1 : Addr) (w_2 : Addr) (w_3 : Addr) (w_4 : Addr) (w_5 : Addr) (w_6 : Addr) (w_7 : Addr) (w_8 : Addr) (w_9 : Addr) (w_10 : Addr) (w_11 : Addr) (w_12 : Addr) (w_13 : Addr) (r0 : Addr) (u_integer_r0 : Value) (f_pointer_r0 : Int32) (h0 : Heap) (n0 : Nat) (v : Option Value) (h : Heap) (L : List Loc) : Prop := v = some (.int (sp5 u_integer_r0 f_pointer_r0)) ∧ Fr n0 L ∧ h = h0
set_option maxRecDepth 65536 in
set_option maxHeartbeats 40000000 in
theorem rm5 (l : Launch) (Z : State) (a0 : Array Value) (hw : ∀ d ∈ tables_1, d.before a0 Z = true) (ws : List Jvm.Cond) (w_1 : Addr) (w_2 : Addr) (w_3 : Addr) (w_4 : Addr) (w_5 : Addr) (w_6 : Addr) (w_7 : Addr) (w_8 : Addr) (w_9 : Addr) (w_10 : Addr) (w_11 : Addr) (w_12 : Addr) (w_13 : Addr) (hS : StF Z w_1 w_2 w_3 w_4 w_5 w_6 w_7 w_8 w_9 w_10 w_11 w_12 w_13) (r0 : Addr) (u_integer_r0 : Value) (f_pointer_r0 : Int32) (h0 : Heap) (n0 : Nat) (O0 : Old Z n0 h0) (F_integer_r0 : Fld Z h0 r0 "com/example/discharge/discharge/frontend/Syntax$Type" "integer" "Lcom/example/discharge/discharge/frontend/IntegerType;" u_integer_r0) (i_u_integer_r0 : u_integer_r0.isRef = true) (F_pointer_r0 : Fld Z h0 r0 "com/example/discharge/discharge/frontend/Syntax$Type" "pointer" "Z" (.int f_pointer_r0)) :
    MetFree l Y3 (head1 (Jvm.Cond.code Y3 prog_143_method_3_code 1 (some .boolean) :: ws) ({ frames := 0, cells := 0, slots := 0, locals := 0 } : Room)) (fun a U => a = #[(.ref r0)] ∧ Z.Warmed39 U.vm ∧ U.heap = h0) (fun _ _ _ _ _ => True) (fun _ U o U' => ∃ v L, o = .returned v ∧ Q5 Z w_1 w_2 w_3 w_4 w_5 w_6 w_7 w_8 w_9 w_10 w_11 w_12 w_13 r0 u_integer_r0 f_pointer_r0 h0 n0 v U'.heap L ∧ FrameEnd U o U' L ({ frames := 0, cells := 0, slots := 0, locals := 0 } : Room).cells ({ frames := 0, cells := 0, slots := 0, locals := 0 } : Room).slots) := by
  refine MetFree.of_bodySF (plainFor_of_name pn_5) hisR ?_
  intro p e s m args below meth c s₁ Bd hml0 hP hK
  obtain ⟨rfl, hZ, hh⟩ := hP
  have hx := Bd.exec
  have hby := Bd.bytes
  have hml : c.maxLocals = 1 := hml0
  have hown : s.vm.findClass "com/example/discharge/discharge/frontend/Syntax$Type" = some m.cls := findClass_of_methodNamed Bd.named
  have hnm := (name_of_methodNamed Bd.named Bd.method).1
  have X0 : Stand p l e ({ frames := 0, cells := 0, slots := 0, locals := 0 } : Room) s m #[(.ref r0)] below meth c s₁ [] 0 0 := Stand.of_body Bd
  have e0 : s₁.heap = h0 := by rw [← hh, Bd.state]; rfl
  have N0 := Fr.nil n0
  have hS0 := hS
  obtain ⟨S_1, E_1, S_2, E_2, S_3, E_3, S_4, E_4, S_5, E_5, S_6, E_6, S_7, E_7, S_8, E_8, S_9, E_9, S_10, E_10, S_11, E_11, S_12, E_12, S_13, E_13, F_2_integer, F_2_pointer⟩ := hS
  have pre0 : ∀ t, Steps p.tables e below (s₁.setTop (mkF m 0 #[.val (.ref r0)] [])) t → Steps p.tables e below (s₁.setTop (entryFrame m #[(.ref r0)] 1)) t := fun t k => castTop (ef_5 m r0) k
  obtain ⟨T79, X79, e79, st79⟩ := getF X0 hx hZ hown (host := "") (Or.inl (hw _ (tk 22 rfl))) Via.refl e0 F_integer_r0 (g := (mkF m 1 #[.val (.ref r0)] [(.ref r0)])) rfl rfl (hb hby d5_1)
  have pre80 : ∀ t, Steps p.tables e below (T79.setTop (mkF m 4 #[.val (.ref r0)] [u_integer_r0])) t → Steps p.tables e below (s₁.setTop (entryFrame m #[(.ref r0)] 1)) t := fun t kt => by
    refine pre0 t ?_
    show Steps p.tables e below (s₁.setTop (mkF m 0 #[.val (.ref r0)] [])) _
    refine XS.aloadN X0.here hx rfl (hb hby d5_0) rfl rfl ?_
    show Steps p.tables e below (s₁.setTop (mkF m 1 #[.val (.ref r0)] [(.ref r0)])) _
    refine st79 _ ?_
    show Steps p.tables e below (T79.setTop (mkF m 4 #[.val (.ref r0)] [u_integer_r0])) _
    exact kt
  by_cases hc81 : u_integer_r0 = .null
  · obtain ⟨T82, X82, e82, st82⟩ := getF X79 hx hZ hown (host := "") (Or.inl (hw _ (tk 24 rfl))) Via.refl e79 F_pointer_r0 (g := (mkF m 8 #[.val (.ref r0)] [(.ref r0)])) rfl rfl (hb hby d5_8)
    have pre83 : ∀ t, Steps p.tables e below (T82.setTop (mkF m 11 #[.val (.ref r0)] [(.int f_pointer_r0)])) t → Steps p.tables e below (s₁.setTop (entryFrame m #[(.ref r0)] 1)) t := fun t kt => by
      refine pre80 t ?_
      show Steps p.tables e below (T79.setTop (mkF m 4 #[.val (.ref r0)] [u_integer_r0])) _
      refine XT.nonnullNo X79.here hx rfl (hb hby d5_4) rfl hc81 ?_
      show Steps p.tables e below (T79.setTop (mkF m 7 #[.val (.ref r0)] [])) _
      refine XS.aloadN X79.here hx rfl (hb hby d5_7) rfl rfl ?_
      show Steps p.tables e below (T79.setTop (mkF m 8 #[.val (.ref r0)] [(.ref r0)])) _
      refine st82 _ ?_
      show Steps p.tables e below (T82.setTop (mkF m 11 #[.val (.ref r0)] [(.int f_pointer_r0)])) _
      exact kt
    by_cases hc84 : f_pointer_r0 = (0 : Int32)
    · obtain ⟨fs, hr, hrun, hended, hW, hsame⟩ := X82.leave (v := some (.int (1 : Int32))) (fun h => by rw [Bd.returns] at h; cases h)
      refine ⟨_, _, pre83 _ ?_, hrun, hended, _, _, rfl, ?_, ⟨_, rfl⟩, hW, hsame.mono (by decide) (by decide)⟩
      · show Steps p.tables e below (T82.setTop (mkF m 11 #[.val (.ref r0)] [(.int f_pointer_r0)])) _
        refine XS.ifNo X82.here hx rfl (hb hby d5_11) rfl ((if0 _ _).trans (teq hc84).2) ?_
        show Steps p.tables e below (T82.setTop (mkF m 14 #[.val (.ref r0)] [])) _
        refine XS.iconst X82.here hx rfl (hb hby d5_14) ?_
        show Steps p.tables e below (T82.setTop (mkF m 15 #[.val (.ref r0)] [(.int (1 : Int32))])) _
        refine XS.goto X82.here hx rfl (pc0 := 15) (pc' := 19) rfl (hb hby d5_15) (by decide) (by decide) ?_
        show Steps p.tables e below (T82.setTop (mkF m 19 #[.val (.ref r0)] [(.int (1 : Int32))])) _
        exact retN X82 hx (t := .boolean) Bd.returns (by simp) (hb hby d5_19) hr
      · show Q5 Z w_1 w_2 w_3 w_4 w_5 w_6 w_7 w_8 w_9 w_10 w_11 w_12 w_13 r0 u_integer_r0 f_pointer_r0 h0 n0 _ T82.heap _
        rw [e82]
        exact ⟨by unfold sp5; rw [if_pos hc81, if_pos hc84], N0, rfl⟩
    · obtain ⟨fs, hr, hrun, hended, hW, hsame⟩ := X82.leave (v := some (.int (0 : Int32))) (fun h => by rw [Bd.returns] at h; cases h)
      refine ⟨_, _, pre83 _ ?_, hrun, hended, _, _, rfl, ?_, ⟨_, rfl⟩, hW, hsame.mono (by decide) (by decide)⟩
      · show Steps p.tables e below (T82.setTop (mkF m 11 #[.val (.ref r0)] [(.int f_pointer_r0)])) _
        refine XS.ifYes X82.here hx rfl (pc0 := 11) (pc' := 18) rfl (hb hby d5_11) rfl ((if0 _ _).trans (feq hc84).2) (by decide) (by decide) ?_
        show Steps p.tables e below (T82.setTop (mkF m 18 #[.val (.ref r0)] [])) _
        refine XS.iconst X82.here hx rfl (hb hby d5_18) ?_
        show Steps p.tables e below (T82.setTop (mkF m 19 #[.val (.ref r0)] [(.int (0 : Int32))])) _
        exact retN X82 hx (t := .boolean) Bd.returns (by simp) (hb hby d5_19) hr
      · show Q5 Z w_1 w_2 w_3 w_4 w_5 w_6 w_7 w_8 w_9 w_10 w_11 w_12 w_13 r0 u_integer_r0 f_pointer_r0 h0 n0 _ T82.heap _
        rw [e82]
        exact ⟨by unfold sp5; rw [if_pos hc81, if_neg hc84], N0, rfl⟩
  · obtain ⟨fs, hr, hrun, hended, hW, hsame⟩ := X79.leave (v := some (.int (0 : Int32))) (fun h => by rw [Bd.returns] at h; cases h)
    refine ⟨_, _, pre80 _ ?_, hrun, hended, _, _, rfl, ?_, ⟨_, rfl⟩, hW, hsame.mono (by decide) (by decide)⟩
    · show Steps p.tables e below (T79.setTop (mkF m 4 #[.val (.ref r0)] [u_integer_r0])) _
      refine XT.nonnullYes X79.here hx rfl (pc0 := 4) (pc' := 18) rfl (hb hby d5_4) rfl i_u_integer_r0 hc81 (by decide) (by decide) ?_
      show Steps p.tables e below (T79.setTop (mkF m 18 #[.val (.ref r0)] [])) _
      refine XS.iconst X79.here hx rfl (hb hby d5_18) ?_
      show Steps p.tables e below (T79.setTop (mkF m 19 #[.val (.ref r0)] [(.int (0 : Int32))])) _
      exact retN X79 hx (t := .boolean) Bd.returns (by simp) (hb hby d5_19) hr
    · show Q5 Z w_1 w_2 w_3 w_4 w_5 w_6 w_7 w_8 w_9 w_10 w_11 w_12 w_13 r0 u_integer_r0 f_pointer_r0 h0 n0 _ T79.heap _
      rw [e79]
      exact ⟨by unfold sp5; rw [if_neg hc81], N0, rfl⟩
theorem pn_6c1 : plainName "com/example/discharge/discharge/frontend/Syntax$Type" = true := by first | (simp [plainName, overriddenIn]; done) | decide +kernel
theorem ef_6c1 (m : MethodId) (r0 : Addr) (r1 : Addr) : entryFrame m #[(.ref r0), (.ref r1)] 3 = mkF m 0 #[.val (.ref r0), .val (.ref r1), .unset] [] := by first | (simp [entryFrame, mkF, argsToLocals, Value.category]; done) | rfl
def sp6c1 (u_integer_r1 : Value) (u_integer_r0 : Value) (f_pointer_r1 : Int32) (f_pointer_r0 : Int32) : Int32 := (if u_integer_r1 = u_integer_r0 then (if f_pointer_r1 = f_pointer_r0 then (1 : Int32) else (0 : Int32)) else (0 : Int32))
def Q6c1 (Z : State) (w_1 : Addr) (w_2 : Addr) (w_3 : Addr) (w_4 : Addr) (w_5 : Addr) (w_6 : Addr) (w_7 : Addr) (w_8 : Addr) (w_9 : Addr) (w_10 : Addr) (w_11 : Addr) (w_12 : Addr) (w_13 : Addr) (r0 : Addr) (r1 : Addr) (u_integer_r1 : Value) (u_integer_r0 : Value) (f_pointer_r1 : Int32) (f_pointer_r0 : Int32) (h0 : Heap) (n0 : Nat) (v : Option Value) (h : Heap) (L : List Loc) : Prop := v = some (.int (sp6c1 u_integer_r1 u_integer_r0 f_pointer_r1 f_pointer_r0)) ∧ Fr n0 L ∧ h = h0
set_option maxRecDepth 65536 in
set_option maxHeartbeats 40000000 in
theorem rm6c1 (l : Launch) (Z : State) (a0 : Array Value) (hw : ∀ d ∈ tables_1, d.before a0 Z = true) (ws : List Jvm.Cond) (w_1 : Addr) (w_2 : Addr) (w_3 : Addr) (w_4 : Addr) (w_5 : Addr) (w_6 : Addr) (w_7 : Addr) (w_8 : Addr) (w_9 : Addr) (w_10 : Addr) (w_11 : Addr) (w_12 : Addr) (w_13 : Addr) (hS : StF Z w_1 w_2 w_3 w_4 w_5 w_6 w_7 w_8 w_9 w_10 w_11 w_12 w_13) (r0 : Addr) (r1 : Addr) (u_integer_r1 : Value) (u_integer_r0 : Value) (f_pointer_r1 : Int32) (f_pointer_r0 : Int32) (h0 : Heap) (n0 : Nat) (O0 : Old Z n0 h0) (E_r1 : Exa Z h0 r1 "com/example/discharge/discharge/frontend/Syntax$Type") (F_integer_r1 : Fld Z h0 r1 "com/example/discharge/discharge/frontend/Syntax$Type" "integer" "Lcom/example/discharge/discharge/frontend/IntegerType;" u_integer_r1) (i_u_integer_r1 : u_integer_r1.isRef = true) (F_integer_r0 : Fld Z h0 r0 "com/example/discharge/discharge/frontend/Syntax$Type" "integer" "Lcom/example/discharge/discharge/frontend/IntegerType;" u_integer_r0) (i_u_integer_r0 : u_integer_r0.isRef = true) (F_pointer_r1 : Fld Z h0 r1 "com/example/discharge/discharge/frontend/Syntax$Type" "pointer" "Z" (.int f_pointer_r1)) (F_pointer_r0 : Fld Z h0 r0 "com/example/discharge/discharge/frontend/Syntax$Type" "pointer" "Z" (.int f_pointer_r0)) :
    MetFree l Y4 (head1 (Jvm.Cond.code Y4 prog_143_method_4_code 3 (some .boolean) :: ws) ({ frames := 0, cells := 0, slots := 0, locals := 0 } : Room)) (fun a U => a = #[(.ref r0), (.ref r1)] ∧ Z.Warmed39 U.vm ∧ U.heap = h0) (fun _ _ _ _ _ => True) (fun _ U o U' => ∃ v L, o = .returned v ∧ Q6c1 Z w_1 w_2 w_3 w_4 w_5 w_6 w_7 w_8 w_9 w_10 w_11 w_12 w_13 r0 r1 u_integer_r1 u_integer_r0 f_pointer_r1 f_pointer_r0 h0 n0 v U'.heap L ∧ FrameEnd U o U' L ({ frames := 0, cells := 0, slots := 0, locals := 0 } : Room).cells ({ frames := 0, cells := 0, slots := 0, locals := 0 } : Room).slots) := by
  refine MetFree.of_bodySF (plainFor_of_name pn_6c1) hisR ?_
  intro p e s m args below meth c s₁ Bd hml0 hP hK
  obtain ⟨rfl, hZ, hh⟩ := hP
  have hx := Bd.exec
  have hby := Bd.bytes
  have hml : c.maxLocals = 3 := hml0
  have hown : s.vm.findClass "com/example/discharge/discharge/frontend/Syntax$Type" = some m.cls := findClass_of_methodNamed Bd.named
  have hnm := (name_of_methodNamed Bd.named Bd.method).1
  have X0 : Stand p l e ({ frames := 0, cells := 0, slots := 0, locals := 0 } : Room) s m #[(.ref r0), (.ref r1)] below meth c s₁ [] 0 0 := Stand.of_body Bd
  have e0 : s₁.heap = h0 := by rw [← hh, Bd.state]; rfl
  have N0 := Fr.nil n0
  have hS0 := hS
  obtain ⟨S_1, E_1, S_2, E_2, S_3, E_3, S_4, E_4, S_5, E_5, S_6, E_6, S_7, E_7, S_8, E_8, S_9, E_9, S_10, E_10, S_11, E_11, S_12, E_12, S_13, E_13, F_2_integer, F_2_pointer⟩ := hS
  have pre0 : ∀ t, Steps p.tables e below (s₁.setTop (mkF m 0 #[.val (.ref r0), .val (.ref r1), .unset] [])) t → Steps p.tables e below (s₁.setTop (entryFrame m #[(.ref r0), (.ref r1)] 3)) t := fun t k => castTop (ef_6c1 m r0 r1) k
  obtain ⟨T88, X88, e88, st88⟩ := instY X0 hx hZ hown (hw _ (tk 38 rfl)) e0 (Ins.self E_r1) (g := (mkF m 1 #[.val (.ref r0), .val (.ref r1), .unset] [(.ref r1)])) rfl rfl (hb hby d6_1)
  obtain ⟨T89, X89, e89, st89⟩ := castY X88 hx hZ hown (hw _ (tk 38 rfl)) e88 (Ins.self E_r1) (g := (mkF m 8 #[.val (.ref r0), .val (.ref r1), .unset] [(.ref r1)])) rfl rfl (hb hby d6_8)
  obtain ⟨T90, X90, e90, st90⟩ := getF X89 hx hZ hown (host := "") (Or.inl (hw _ (tk 22 rfl))) Via.refl e89 F_integer_r1 (g := (mkF m 13 #[.val (.ref r0), .val (.ref r1), .val (.ref r1)] [(.ref r1)])) rfl rfl (hb hby d6_13)
  obtain ⟨T91, X91, e91, st91⟩ := getF X90 hx hZ hown (host := "") (Or.inl (hw _ (tk 22 rfl))) Via.refl e90 F_integer_r0 (g := (mkF m 17 #[.val (.ref r0), .val (.ref r1), .val (.ref r1)] [(.ref r0), u_integer_r1])) rfl rfl (hb hby d6_17)
  have pre92 : ∀ t, Steps p.tables e below (T91.setTop (mkF m 20 #[.val (.ref r0), .val (.ref r1), .val (.ref r1)] [u_integer_r0, u_integer_r1])) t → Steps p.tables e below (s₁.setTop (entryFrame m #[(.ref r0), (.ref r1)] 3)) t := fun t kt => by
    refine pre0 t ?_
    show Steps p.tables e below (s₁.setTop (mkF m 0 #[.val (.ref r0), .val (.ref r1), .unset] [])) _
    refine XS.aloadN X0.here hx rfl (hb hby d6_0) rfl rfl ?_
    show Steps p.tables e below (s₁.setTop (mkF m 1 #[.val (.ref r0), .val (.ref r1), .unset] [(.ref r1)])) _
    refine st88 _ ?_
    show Steps p.tables e below (T88.setTop (mkF m 4 #[.val (.ref r0), .val (.ref r1), .unset] [(.int (1 : Int32))])) _
    refine XS.ifNo X88.here hx rfl (hb hby d6_4) rfl ((if0 _ _).trans (feq (by decide : ¬ ((1 : Int32) = (0 : Int32)))).1) ?_
    show Steps p.tables e below (T88.setTop (mkF m 7 #[.val (.ref r0), .val (.ref r1), .unset] [])) _
    refine XS.aloadN X88.here hx rfl (hb hby d6_7) rfl rfl ?_
    show Steps p.tables e below (T88.setTop (mkF m 8 #[.val (.ref r0), .val (.ref r1), .unset] [(.ref r1)])) _
    refine st89 _ ?_
    show Steps p.tables e below (T89.setTop (mkF m 11 #[.val (.ref r0), .val (.ref r1), .unset] [(.ref r1)])) _
    refine XS.astoreN X89.here hx rfl (hb hby d6_11) rfl rfl (l' := #[.val (.ref r0), .val (.ref r1), .val (.ref r1)]) rfl ?_
    show Steps p.tables e below (T89.setTop (mkF m 12 #[.val (.ref r0), .val (.ref r1), .val (.ref r1)] [])) _
    refine XS.aloadN X89.here hx rfl (hb hby d6_12) rfl rfl ?_
    show Steps p.tables e below (T89.setTop (mkF m 13 #[.val (.ref r0), .val (.ref r1), .val (.ref r1)] [(.ref r1)])) _
    refine st90 _ ?_
    show Steps p.tables e below (T90.setTop (mkF m 16 #[.val (.ref r0), .val (.ref r1), .val (.ref r1)] [u_integer_r1])) _
    refine XS.aloadN X90.here hx rfl (hb hby d6_16) rfl rfl ?_
    show Steps p.tables e below (T90.setTop (mkF m 17 #[.val (.ref r0), .val (.ref r1), .val (.ref r1)] [(.ref r0), u_integer_r1])) _
    refine st91 _ ?_
    show Steps p.tables e below (T91.setTop (mkF m 20 #[.val (.ref r0), .val (.ref r1), .val (.ref r1)] [u_integer_r0, u_integer_r1])) _
    exact kt
  by_cases hc93 : u_integer_r1 = u_integer_r0
  · obtain ⟨T94, X94, e94, st94⟩ := getF X91 hx hZ hown (host := "") (Or.inl (hw _ (tk 24 rfl))) Via.refl e91 F_pointer_r1 (g := (mkF m 24 #[.val (.ref r0), .val (.ref r1), .val (.ref r1)] [(.ref r1)])) rfl rfl (hb hby d6_24)
    obtain ⟨T95, X95, e95, st95⟩ := getF X94 hx hZ hown (host := "") (Or.inl (hw _ (tk 24 rfl))) Via.refl e94 F_pointer_r0 (g := (mkF m 28 #[.val (.ref r0), .val (.ref r1), .val (.ref r1)] [(.ref r0), (.int f_pointer_r1)])) rfl rfl (hb hby d6_28)
    have pre96 : ∀ t, Steps p.tables e below (T95.setTop (mkF m 31 #[.val (.ref r0), .val (.ref r1), .val (.ref r1)] [(.int f_pointer_r0), (.int f_pointer_r1)])) t → Steps p.tables e below (s₁.setTop (entryFrame m #[(.ref r0), (.ref r1)] 3)) t := fun t kt => by
      refine pre92 t ?_
      show Steps p.tables e below (T91.setTop (mkF m 20 #[.val (.ref r0), .val (.ref r1), .val (.ref r1)] [u_integer_r0, u_integer_r1])) _
      refine Jvm.RoadKit.acmp (g := (mkF m 20 #[.val (.ref r0), .val (.ref r1), .val (.ref r1)] [u_integer_r0, u_integer_r1])) X91 hx rfl i_u_integer_r1 i_u_integer_r0 (pc0 := 20) (pc' := 23) (same := true) rfl (hb hby d6_20) rfl (decide_eq_true hc93) (by decide) (by decide) ?_
      show Steps p.tables e below (T91.setTop (mkF m 23 #[.val (.ref r0), .val (.ref r1), .val (.ref r1)] [])) _
      refine XS.aloadN X91.here hx rfl (hb hby d6_23) rfl rfl ?_
      show Steps p.tables e below (T91.setTop (mkF m 24 #[.val (.ref r0), .val (.ref r1), .val (.ref r1)] [(.ref r1)])) _
      refine st94 _ ?_
      show Steps p.tables e below (T94.setTop (mkF m 27 #[.val (.ref r0), .val (.ref r1), .val (.ref r1)] [(.int f_pointer_r1)])) _
      refine XS.aloadN X94.here hx rfl (hb hby d6_27) rfl rfl ?_
      show Steps p.tables e below (T94.setTop (mkF m 28 #[.val (.ref r0), .val (.ref r1), .val (.ref r1)] [(.ref r0), (.int f_pointer_r1)])) _
      refine st95 _ ?_
      show Steps p.tables e below (T95.setTop (mkF m 31 #[.val (.ref r0), .val (.ref r1), .val (.ref r1)] [(.int f_pointer_r0), (.int f_pointer_r1)])) _
      exact kt
    by_cases hc97 : f_pointer_r1 = f_pointer_r0
    · obtain ⟨fs, hr, hrun, hended, hW, hsame⟩ := X95.leave (v := some (.int (1 : Int32))) (fun h => by rw [Bd.returns] at h; cases h)
      refine ⟨_, _, pre96 _ ?_, hrun, hended, _, _, rfl, ?_, ⟨_, rfl⟩, hW, hsame.mono (by decide) (by decide)⟩
      · show Steps p.tables e below (T95.setTop (mkF m 31 #[.val (.ref r0), .val (.ref r1), .val (.ref r1)] [(.int f_pointer_r0), (.int f_pointer_r1)])) _
        refine XS.icmpNo X95.here hx rfl (hb hby d6_31) rfl (teq hc97).2 ?_
        show Steps p.tables e below (T95.setTop (mkF m 34 #[.val (.ref r0), .val (.ref r1), .val (.ref r1)] [])) _
        refine XS.iconst X95.here hx rfl (hb hby d6_34) ?_
        show Steps p.tables e below (T95.setTop (mkF m 35 #[.val (.ref r0), .val (.ref r1), .val (.ref r1)] [(.int (1 : Int32))])) _
        refine XS.goto X95.here hx rfl (pc0 := 35) (pc' := 39) rfl (hb hby d6_35) (by decide) (by decide) ?_
        show Steps p.tables e below (T95.setTop (mkF m 39 #[.val (.ref r0), .val (.ref r1), .val (.ref r1)] [(.int (1 : Int32))])) _
        exact retN X95 hx (t := .boolean) Bd.returns (by simp) (hb hby d6_39) hr
      · show Q6c1 Z w_1 w_2 w_3 w_4 w_5 w_6 w_7 w_8 w_9 w_10 w_11 w_12 w_13 r0 r1 u_integer_r1 u_integer_r0 f_pointer_r1 f_pointer_r0 h0 n0 _ T95.heap _
        rw [e95]
        exact ⟨by unfold sp6c1; rw [if_pos hc93, if_pos hc97], N0, rfl⟩
    · obtain ⟨fs, hr, hrun, hended, hW, hsame⟩ := X95.leave (v := some (.int (0 : Int32))) (fun h => by rw [Bd.returns] at h; cases h)
      refine ⟨_, _, pre96 _ ?_, hrun, hended, _, _, rfl, ?_, ⟨_, rfl⟩, hW, hsame.mono (by decide) (by decide)⟩
      · show Steps p.tables e below (T95.setTop (mkF m 31 #[.val (.ref r0), .val (.ref r1), .val (.ref r1)] [(.int f_pointer_r0), (.int f_pointer_r1)])) _
        refine XS.icmpYes X95.here hx rfl (pc0 := 31) (pc' := 38) rfl (hb hby d6_31) rfl (feq hc97).2 (by decide) (by decide) ?_
        show Steps p.tables e below (T95.setTop (mkF m 38 #[.val (.ref r0), .val (.ref r1), .val (.ref r1)] [])) _
        refine XS.iconst X95.here hx rfl (hb hby d6_38) ?_
        show Steps p.tables e below (T95.setTop (mkF m 39 #[.val (.ref r0), .val (.ref r1), .val (.ref r1)] [(.int (0 : Int32))])) _
        exact retN X95 hx (t := .boolean) Bd.returns (by simp) (hb hby d6_39) hr
      · show Q6c1 Z w_1 w_2 w_3 w_4 w_5 w_6 w_7 w_8 w_9 w_10 w_11 w_12 w_13 r0 r1 u_integer_r1 u_integer_r0 f_pointer_r1 f_pointer_r0 h0 n0 _ T95.heap _
        rw [e95]
        exact ⟨by unfold sp6c1; rw [if_pos hc93, if_neg hc97], N0, rfl⟩
  · obtain ⟨fs, hr, hrun, hended, hW, hsame⟩ := X91.leave (v := some (.int (0 : Int32))) (fun h => by rw [Bd.returns] at h; cases h)
    refine ⟨_, _, pre92 _ ?_, hrun, hended, _, _, rfl, ?_, ⟨_, rfl⟩, hW, hsame.mono (by decide) (by decide)⟩
    · show Steps p.tables e below (T91.setTop (mkF m 20 #[.val (.ref r0), .val (.ref r1), .val (.ref r1)] [u_integer_r0, u_integer_r1])) _
      refine Jvm.RoadKit.acmp (g := (mkF m 20 #[.val (.ref r0), .val (.ref r1), .val (.ref r1)] [u_integer_r0, u_integer_r1])) X91 hx rfl i_u_integer_r1 i_u_integer_r0 (pc0 := 20) (pc' := 38) (same := false) rfl (hb hby d6_20) rfl (decide_eq_false hc93) (by decide) (by decide) ?_
      show Steps p.tables e below (T91.setTop (mkF m 38 #[.val (.ref r0), .val (.ref r1), .val (.ref r1)] [])) _
      refine XS.iconst X91.here hx rfl (hb hby d6_38) ?_
      show Steps p.tables e below (T91.setTop (mkF m 39 #[.val (.ref r0), .val (.ref r1), .val (.ref r1)] [(.int (0 : Int32))])) _
      exact retN X91 hx (t := .boolean) Bd.returns (by simp) (hb hby d6_39) hr
    · show Q6c1 Z w_1 w_2 w_3 w_4 w_5 w_6 w_7 w_8 w_9 w_10 w_11 w_12 w_13 r0 r1 u_integer_r1 u_integer_r0 f_pointer_r1 f_pointer_r0 h0 n0 _ T91.heap _
      rw [e91]
      exact ⟨by unfold sp6c1; rw [if_neg hc93], N0, rfl⟩
theorem pn_2n1x2 : plainName "com/example/discharge/discharge/frontend/Syntax$Type" = true := by first | (simp [plainName, overriddenIn]; done) | decide +kernel
theorem ef_2n1x2 (m : MethodId) (r0 : Addr) (p2 : Int32) : entryFrame m #[(.ref r0), .null, (.int p2)] 3 = mkF m 0 #[.val (.ref r0), .val .null, .val (.int p2)] [] := by first | (simp [entryFrame, mkF, argsToLocals, Value.category]; done) | rfl
def Q2n1x2 (Z : State) (w_1 : Addr) (w_2 : Addr) (w_3 : Addr) (w_4 : Addr) (w_5 : Addr) (w_6 : Addr) (w_7 : Addr) (w_8 : Addr) (w_9 : Addr) (w_10 : Addr) (w_11 : Addr) (w_12 : Addr) (w_13 : Addr) (r0 : Addr) (p2 : Int32) (h0 : Heap) (n0 : Nat) (v : Option Value) (h : Heap) (L : List Loc) : Prop := v = none ∧ Fr n0 L ∧ Old Z n0 h ∧ Keep h0 h [r0] ∧ Fld Z h r0 "com/example/discharge/discharge/frontend/Syntax$Type" "integer" "Lcom/example/discharge/discharge/frontend/IntegerType;" .null ∧ Fld Z h r0 "com/example/discharge/discharge/frontend/Syntax$Type" "pointer" "Z" (.int (nar .boolean p2))
set_option maxRecDepth 65536 in
set_option maxHeartbeats 40000000 in
theorem rm2n1x2 (l : Launch) (Z : State) (a0 : Array Value) (hw : ∀ d ∈ tables_1, d.before a0 Z = true) (ws : List Jvm.Cond) (w_1 : Addr) (w_2 : Addr) (w_3 : Addr) (w_4 : Addr) (w_5 : Addr) (w_6 : Addr) (w_7 : Addr) (w_8 : Addr) (w_9 : Addr) (w_10 : Addr) (w_11 : Addr) (w_12 : Addr) (w_13 : Addr) (hS : StF Z w_1 w_2 w_3 w_4 w_5 w_6 w_7 w_8 w_9 w_10 w_11 w_12 w_13) (r0 : Addr) (p2 : Int32) (h0 : Heap) (n0 : Nat) (O0 : Old Z n0 h0) (g_r0 : n0 ≤ r0) (E_r0 : Exa Z h0 r0 "com/example/discharge/discharge/frontend/Syntax$Type") (F_integer_r0 : Fld Z h0 r0 "com/example/discharge/discharge/frontend/Syntax$Type" "integer" "Lcom/example/discharge/discharge/frontend/IntegerType;" .null) (F_pointer_r0 : Fld Z h0 r0 "com/example/discharge/discharge/frontend/Syntax$Type" "pointer" "Z" (.int (0 : Int32))) :
    MetFree l Y2 (head1 (Jvm.Cond.code Y2 prog_143_method_1_code 3 none :: ws) ({ frames := 2, cells := 0, slots := 0, locals := 24 } : Room)) (fun a U => a = #[(.ref r0), .null, (.int p2)] ∧ Z.Warmed39 U.vm ∧ U.heap = h0) (fun _ _ _ _ _ => True) (fun _ U o U' => ∃ v L, o = .returned v ∧ Q2n1x2 Z w_1 w_2 w_3 w_4 w_5 w_6 w_7 w_8 w_9 w_10 w_11 w_12 w_13 r0 p2 h0 n0 v U'.heap L ∧ FrameEnd U o U' L ({ frames := 2, cells := 0, slots := 0, locals := 24 } : Room).cells ({ frames := 2, cells := 0, slots := 0, locals := 24 } : Room).slots) := by
  refine MetFree.of_bodySF (plainFor_of_name pn_2n1x2) hisR ?_
  intro p e s m args below meth c s₁ Bd hml0 hP hK
  obtain ⟨rfl, hZ, hh⟩ := hP
  have hx := Bd.exec
  have hby := Bd.bytes
  have hml : c.maxLocals = 3 := hml0
  have hown : s.vm.findClass "com/example/discharge/discharge/frontend/Syntax$Type" = some m.cls := findClass_of_methodNamed Bd.named
  have hnm := (name_of_methodNamed Bd.named Bd.method).1
  have X0 : Stand p l e ({ frames := 2, cells := 0, slots := 0, locals := 24 } : Room) s m #[(.ref r0), .null, (.int p2)] below meth c s₁ [] 0 0 := Stand.of_body Bd
  have e0 : s₁.heap = h0 := by rw [← hh, Bd.state]; rfl
  have N0 := Fr.nil n0
  have hS0 := hS
  obtain ⟨S_1, E_1, S_2, E_2, S_3, E_3, S_4, E_4, S_5, E_5, S_6, E_6, S_7, E_7, S_8, E_8, S_9, E_9, S_10, E_10, S_11, E_11, S_12, E_12, S_13, E_13, F_2_integer, F_2_pointer⟩ := hS
  have pre0 : ∀ t, Steps p.tables e below (s₁.setTop (mkF m 0 #[.val (.ref r0), .val .null, .val (.int p2)] [])) t → Steps p.tables e below (s₁.setTop (entryFrame m #[(.ref r0), .null, (.int p2)] 3)) t := fun t k => castTop (ef_2n1x2 m r0 p2) k
  obtain ⟨_, _, ⟨T189, L189, k189, n189⟩, -, X189, ⟨Lc189, hQ189, l189, y189, z189⟩, st189⟩ := X0.specialBack hx (y := Y1) rfl hown (mvT hZ (hw _ (tk 14 rfl))) (mvT hZ (hw _ (tk 15 rfl))) (mvT hZ (hw _ (tk 18 rfl))) (by decide) (backOf (W := 0) (rm3c1 l Z a0 hw [] w_1 w_2 w_3 w_4 w_5 w_6 w_7 w_8 w_9 w_10 w_11 w_12 w_13 hS0 r0 h0 n0 O0 E_r0) hZ (hw _ (tk 18 rfl)) (hw _ (tk 17 rfl)) (by decide) (by decide)) (g := (mkF m 1 #[.val (.ref r0), .val .null, .val (.int p2)] [(.ref r0)])) rfl (by rw [hml]; rfl) (Steps.refl _) (a := r0) (argsL := []) (rest := []) (lenOf pd_1 rfl) rfl (by show 2 * 0 + _ ≤ _; exact Nat.le_of_eq rfl) (hb hby d2_1) (fun _ _ => ⟨rfl, e0, (by decide : 0 + 0 ≤ _), (by decide : 0 + 0 ≤ _)⟩)
  dsimp only [Pt.U, Pt.locs, Pt.cells, Pt.slots] at X189 l189 y189 z189 st189 hQ189
  subst l189 y189 z189
  obtain ⟨rv189, N189q, e189⟩ := hQ189
  subst rv189
  have N189 := Fr.app N0 N189q
  obtain ⟨T190, h190, X190, e190, W190, st190⟩ := putF X189 hx hZ hown (host := "") (Or.inl (hw _ (tk 22 rfl))) Via.refl e189 F_integer_r0 E_r0 (Or.inr ⟨(hw _ (tk 23 rfl)), rfl, hnm⟩) (hw _ (tk 9 rfl)) (ty := (.object "com/example/discharge/discharge/frontend/IntegerType")) (by decide) rfl rfl (g := (mkF m 6 #[.val (.ref r0), .val .null, .val (.int p2)] [.null, (.ref r0)])) rfl rfl (hb hby d2_6)
  have Fw190 := F_integer_r0.same W190
  have O190 : Old Z n0 h190 := O0.wr W190 g_r0
  have N190 := Fr.snoc X190 N189 g_r0
  have K190 : Keep h0 h190 [r0] := (Keep.refl h0 [r0]).wr W190 (Or.inl (List.mem_of_getElem? (i := 0) rfl))
  have c191 := (E_r0.wr W190)
  have c192 := (F_pointer_r0.other W190 (Or.inr (slot_ne (Or.inr (hw _ (tk 25 rfl))) (Or.inr (hw _ (tk 23 rfl))) (by decide) (t := .boolean) (t' := (.object "com/example/discharge/discharge/frontend/IntegerType")) (by decide) (by decide))))
  obtain ⟨T193, h193, X193, e193, W193, st193⟩ := putFN X190 hx hZ hown (hw _ (tk 24 rfl)) Via.refl e190 c192 c191 (Or.inr ⟨(hw _ (tk 25 rfl)), rfl, hnm⟩) (hw _ (tk 9 rfl)) (ty := .boolean) (v' := (.int (nar .boolean p2))) (by decide) rfl (fits_nar_bool _) (g := (mkF m 11 #[.val (.ref r0), .val .null, .val (.int p2)] [(.int p2), (.ref r0)])) rfl rfl (hb hby d2_11)
  have Fw193 := c192.same W193
  have O193 : Old Z n0 h193 := O190.wr W193 g_r0
  have N193 := Fr.snoc X193 N190 g_r0
  have K193 : Keep h0 h193 [r0] := K190.wr W193 (Or.inl (List.mem_of_getElem? (i := 0) rfl))
  obtain ⟨fs, hr, hrun, hended, hW, hsame⟩ := X193.leave (v := none) (fun _ => rfl)
  have c194 := (Fw190.other W193 (Or.inr (slot_ne (Or.inr (hw _ (tk 23 rfl))) (Or.inr (hw _ (tk 25 rfl))) (by decide) (t := (.object "com/example/discharge/discharge/frontend/IntegerType")) (t' := .boolean) (by decide) (by decide))))
  refine ⟨_, _, pre0 _ ?_, hrun, hended, _, _, rfl, ?_, ⟨_, rfl⟩, hW, hsame.mono (by decide) (by decide)⟩
  · show Steps p.tables e below (s₁.setTop (mkF m 0 #[.val (.ref r0), .val .null, .val (.int p2)] [])) _
    refine XS.aloadN X0.here hx rfl (hb hby d2_0) rfl rfl ?_
    show Steps p.tables e below (s₁.setTop (mkF m 1 #[.val (.ref r0), .val .null, .val (.int p2)] [(.ref r0)])) _
    refine st189.trans ?_
    show Steps p.tables e below (T189.setTop (mkF m 4 #[.val (.ref r0), .val .null, .val (.int p2)] [])) _
    refine XS.aloadN X189.here hx rfl (hb hby d2_4) rfl rfl ?_
    show Steps p.tables e below (T189.setTop (mkF m 5 #[.val (.ref r0), .val .null, .val (.int p2)] [(.ref r0)])) _
    refine XS.aloadN X189.here hx rfl (hb hby d2_5) rfl rfl ?_
    show Steps p.tables e below (T189.setTop (mkF m 6 #[.val (.ref r0), .val .null, .val (.int p2)] [.null, (.ref r0)])) _
    refine st190 _ ?_
    show Steps p.tables e below (T190.setTop (mkF m 9 #[.val (.ref r0), .val .null, .val (.int p2)] [])) _
    refine XS.aloadN X190.here hx rfl (hb hby d2_9) rfl rfl ?_
    show Steps p.tables e below (T190.setTop (mkF m 10 #[.val (.ref r0), .val .null, .val (.int p2)] [(.ref r0)])) _
    refine XS.iloadN X190.here hx rfl (hb hby d2_10) rfl ?_
    show Steps p.tables e below (T190.setTop (mkF m 11 #[.val (.ref r0), .val .null, .val (.int p2)] [(.int p2), (.ref r0)])) _
    refine st193 _ ?_
    show Steps p.tables e below (T193.setTop (mkF m 14 #[.val (.ref r0), .val .null, .val (.int p2)] [])) _
    exact X193.returnOut hx Bd.returns (hb hby d2_14) hr
  · show Q2n1x2 Z w_1 w_2 w_3 w_4 w_5 w_6 w_7 w_8 w_9 w_10 w_11 w_12 w_13 r0 p2 h0 n0 _ T193.heap _
    rw [e193]
    exact ⟨rfl, N193, O193, K193, c194, Fw193⟩
theorem pn_0 : plainName "com/example/discharge/discharge/frontend/TypeIsVoidPinLaw" = true := by first | (simp [plainName, overriddenIn]; done) | decide +kernel
theorem ef_0 (m : MethodId) (p0 : Int32) (p1 : Int32) : entryFrame m #[(.int p0), (.int p1)] maxLocals = mkF m 0 #[.val (.int p0), .val (.int p1), .unset, .unset, .unset, .unset, .unset, .unset, .unset] [] := by first | (simp [entryFrame, mkF, argsToLocals, Value.category, maxLocals]; done) | rfl
def sp0 (p0 : Int32) (p1 : Int32) : Int32 := (if (p1 &&& (1 : Int32)) = (0 : Int32) then (if ((p0 &&& (2147483647 : Int32)) % (13 : Int32)) = (0 : Int32) then (1 : Int32) else (if ((p0 &&& (2147483647 : Int32)) % (13 : Int32)) = (1 : Int32) then (1 : Int32) else (if ((p0 &&& (2147483647 : Int32)) % (13 : Int32)) = (2 : Int32) then (1 : Int32) else (if ((p0 &&& (2147483647 : Int32)) % (13 : Int32)) = (3 : Int32) then (1 : Int32) else (if ((p0 &&& (2147483647 : Int32)) % (13 : Int32)) = (4 : Int32) then (1 : Int32) else (if ((p0 &&& (2147483647 : Int32)) % (13 : Int32)) = (5 : Int32) then (1 : Int32) else (if ((p0 &&& (2147483647 : Int32)) % (13 : Int32)) = (6 : Int32) then (1 : Int32) else (if ((p0 &&& (2147483647 : Int32)) % (13 : Int32)) = (7 : Int32) then (1 : Int32) else (if ((p0 &&& (2147483647 : Int32)) % (13 : Int32)) = (8 : Int32) then (1 : Int32) else (if ((p0 &&& (2147483647 : Int32)) % (13 : Int32)) = (9 : Int32) then (1 : Int32) else (if ((p0 &&& (2147483647 : Int32)) % (13 : Int32)) = (10 : Int32) then (1 : Int32) else (if ((p0 &&& (2147483647 : Int32)) % (13 : Int32)) = (11 : Int32) then (1 : Int32) else (if ((p0 &&& (2147483647 : Int32)) % (13 : Int32)) = (12 : Int32) then (1 : Int32) else (0 : Int32)))))))))))))) else (if ((p0 &&& (2147483647 : Int32)) % (13 : Int32)) = (0 : Int32) then (1 : Int32) else (if ((p0 &&& (2147483647 : Int32)) % (13 : Int32)) = (1 : Int32) then (1 : Int32) else (if ((p0 &&& (2147483647 : Int32)) % (13 : Int32)) = (2 : Int32) then (1 : Int32) else (if ((p0 &&& (2147483647 : Int32)) % (13 : Int32)) = (3 : Int32) then (1 : Int32) else (if ((p0 &&& (2147483647 : Int32)) % (13 : Int32)) = (4 : Int32) then (1 : Int32) else (if ((p0 &&& (2147483647 : Int32)) % (13 : Int32)) = (5 : Int32) then (1 : Int32) else (if ((p0 &&& (2147483647 : Int32)) % (13 : Int32)) = (6 : Int32) then (1 : Int32) else (if ((p0 &&& (2147483647 : Int32)) % (13 : Int32)) = (7 : Int32) then (1 : Int32) else (if ((p0 &&& (2147483647 : Int32)) % (13 : Int32)) = (8 : Int32) then (1 : Int32) else (if ((p0 &&& (2147483647 : Int32)) % (13 : Int32)) = (9 : Int32) then (1 : Int32) else (if ((p0 &&& (2147483647 : Int32)) % (13 : Int32)) = (10 : Int32) then (1 : Int32) else (if ((p0 &&& (2147483647 : Int32)) % (13 : Int32)) = (11 : Int32) then (1 : Int32) else (1 : Int32))))))))))))))
def Q0 (Z : State) (w_1 : Addr) (w_2 : Addr) (w_3 : Addr) (w_4 : Addr) (w_5 : Addr) (w_6 : Addr) (w_7 : Addr) (w_8 : Addr) (w_9 : Addr) (w_10 : Addr) (w_11 : Addr) (w_12 : Addr) (w_13 : Addr) (p0 : Int32) (p1 : Int32) (h0 : Heap) (n0 : Nat) (v : Option Value) (h : Heap) (L : List Loc) : Prop := v = some (.int (sp0 p0 p1)) ∧ Fr n0 L ∧ True
set_option maxRecDepth 65536 in
set_option maxHeartbeats 40000000 in
theorem rm0 (l : Launch) (Z : State) (a0 : Array Value) (hw : ∀ d ∈ tables_1, d.before a0 Z = true) (ws : List Jvm.Cond) (w_1 : Addr) (w_2 : Addr) (w_3 : Addr) (w_4 : Addr) (w_5 : Addr) (w_6 : Addr) (w_7 : Addr) (w_8 : Addr) (w_9 : Addr) (w_10 : Addr) (w_11 : Addr) (w_12 : Addr) (w_13 : Addr) (hS : StF Z w_1 w_2 w_3 w_4 w_5 w_6 w_7 w_8 w_9 w_10 w_11 w_12 w_13) (p0 : Int32) (p1 : Int32) (h0 : Heap) (n0 : Nat) (O0 : Old Z n0 h0) :
    MetFree l x (head1 (Jvm.Cond.code x code maxLocals ret :: ws) room_1) (fun a U => a = #[(.int p0), (.int p1)] ∧ Z.Warmed39 U.vm ∧ U.heap = h0) (fun _ _ _ _ _ => True) (fun _ U o U' => ∃ v L, o = .returned v ∧ Q0 Z w_1 w_2 w_3 w_4 w_5 w_6 w_7 w_8 w_9 w_10 w_11 w_12 w_13 p0 p1 h0 n0 v U'.heap L ∧ FrameEnd U o U' L room_1.cells room_1.slots) := by
  refine MetFree.of_bodySF (plainFor_of_name pn_0) hisR ?_
  intro p e s m args below meth c s₁ Bd hml0 hP hK
  obtain ⟨rfl, hZ, hh⟩ := hP
  have hx := Bd.exec
  have hby := Bd.bytes
  have hml : c.maxLocals = 9 := hml0
  have hown : s.vm.findClass "com/example/discharge/discharge/frontend/TypeIsVoidPinLaw" = some m.cls := findClass_of_methodNamed Bd.named
  have hnm := (name_of_methodNamed Bd.named Bd.method).1
  have X0 : Stand p l e room_1 s m #[(.int p0), (.int p1)] below meth c s₁ [] 0 0 := Stand.of_body Bd
  have e0 : s₁.heap = h0 := by rw [← hh, Bd.state]; rfl
  have N0 := Fr.nil n0
  have hS0 := hS
  obtain ⟨S_1, E_1, S_2, E_2, S_3, E_3, S_4, E_4, S_5, E_5, S_6, E_6, S_7, E_7, S_8, E_8, S_9, E_9, S_10, E_10, S_11, E_11, S_12, E_12, S_13, E_13, F_2_integer, F_2_pointer⟩ := hS
  have pre0 : ∀ t, Steps p.tables e below (s₁.setTop (mkF m 0 #[.val (.int p0), .val (.int p1), .unset, .unset, .unset, .unset, .unset, .unset, .unset] [])) t → Steps p.tables e below (s₁.setTop (entryFrame m #[(.int p0), (.int p1)] maxLocals)) t := fun t k => castTop (ef_0 m p0 p1) k
  have pre29 : ∀ t, Steps p.tables e below (s₁.setTop (mkF m 11 #[.val (.int p0), .val (.int p1), .val (.int ((p0 &&& (2147483647 : Int32)) % (13 : Int32))), .unset, .unset, .unset, .unset, .unset, .unset] [(.int (p1 &&& (1 : Int32)))])) t → Steps p.tables e below (s₁.setTop (entryFrame m #[(.int p0), (.int p1)] maxLocals)) t := fun t kt => by
    refine pre0 t ?_
    show Steps p.tables e below (s₁.setTop (mkF m 0 #[.val (.int p0), .val (.int p1), .unset, .unset, .unset, .unset, .unset, .unset, .unset] [])) _
    refine XS.iloadN X0.here hx rfl (hb hby at_0) rfl ?_
    show Steps p.tables e below (s₁.setTop (mkF m 1 #[.val (.int p0), .val (.int p1), .unset, .unset, .unset, .unset, .unset, .unset, .unset] [(.int p0)])) _
    refine X0.ldcInt hx hown (mvT hZ (hw _ (tk 0 rfl))) (g := (mkF m 1 #[.val (.int p0), .val (.int p1), .unset, .unset, .unset, .unset, .unset, .unset, .unset] [(.int p0)])) rfl (hb hby at_1) _ ?_
    show Steps p.tables e below (s₁.setTop (mkF m 3 #[.val (.int p0), .val (.int p1), .unset, .unset, .unset, .unset, .unset, .unset, .unset] [(.int (2147483647 : Int32)), (.int p0)])) _
    refine XS.iand X0.here hx rfl (hb hby at_3) rfl ?_
    show Steps p.tables e below (s₁.setTop (mkF m 4 #[.val (.int p0), .val (.int p1), .unset, .unset, .unset, .unset, .unset, .unset, .unset] [(.int (p0 &&& (2147483647 : Int32)))])) _
    refine XS.bipush X0.here hx rfl (hb hby at_4) ?_
    show Steps p.tables e below (s₁.setTop (mkF m 6 #[.val (.int p0), .val (.int p1), .unset, .unset, .unset, .unset, .unset, .unset, .unset] [(.int (13 : Int32)), (.int (p0 &&& (2147483647 : Int32)))])) _
    refine iremM X0 hx rfl (hb hby at_6) rfl (by decide : ¬ ((13 : Int32) = (0 : Int32))) ?_
    show Steps p.tables e below (s₁.setTop (mkF m 7 #[.val (.int p0), .val (.int p1), .unset, .unset, .unset, .unset, .unset, .unset, .unset] [(.int ((p0 &&& (2147483647 : Int32)) % (13 : Int32)))])) _
    refine XS.istoreN X0.here hx rfl (hb hby at_7) rfl (l' := #[.val (.int p0), .val (.int p1), .val (.int ((p0 &&& (2147483647 : Int32)) % (13 : Int32))), .unset, .unset, .unset, .unset, .unset, .unset]) rfl ?_
    show Steps p.tables e below (s₁.setTop (mkF m 8 #[.val (.int p0), .val (.int p1), .val (.int ((p0 &&& (2147483647 : Int32)) % (13 : Int32))), .unset, .unset, .unset, .unset, .unset, .unset] [])) _
    refine XS.iloadN X0.here hx rfl (hb hby at_8) rfl ?_
    show Steps p.tables e below (s₁.setTop (mkF m 9 #[.val (.int p0), .val (.int p1), .val (.int ((p0 &&& (2147483647 : Int32)) % (13 : Int32))), .unset, .unset, .unset, .unset, .unset, .unset] [(.int p1)])) _
    refine XS.iconst X0.here hx rfl (hb hby at_9) ?_
    show Steps p.tables e below (s₁.setTop (mkF m 10 #[.val (.int p0), .val (.int p1), .val (.int ((p0 &&& (2147483647 : Int32)) % (13 : Int32))), .unset, .unset, .unset, .unset, .unset, .unset] [(.int (1 : Int32)), (.int p1)])) _
    refine XS.iand X0.here hx rfl (hb hby at_10) rfl ?_
    show Steps p.tables e below (s₁.setTop (mkF m 11 #[.val (.int p0), .val (.int p1), .val (.int ((p0 &&& (2147483647 : Int32)) % (13 : Int32))), .unset, .unset, .unset, .unset, .unset, .unset] [(.int (p1 &&& (1 : Int32)))])) _
    exact kt
  by_cases hc30 : (p1 &&& (1 : Int32)) = (0 : Int32)
  · have pre67 : ∀ t, Steps p.tables e below (s₁.setTop (mkF m 21 #[.val (.int p0), .val (.int p1), .val (.int ((p0 &&& (2147483647 : Int32)) % (13 : Int32))), .val (.int (0 : Int32)), .unset, .unset, .unset, .unset, .unset] [(.int ((p0 &&& (2147483647 : Int32)) % (13 : Int32)))])) t → Steps p.tables e below (s₁.setTop (entryFrame m #[(.int p0), (.int p1)] maxLocals)) t := fun t kt => by
      refine pre29 t ?_
      show Steps p.tables e below (s₁.setTop (mkF m 11 #[.val (.int p0), .val (.int p1), .val (.int ((p0 &&& (2147483647 : Int32)) % (13 : Int32))), .unset, .unset, .unset, .unset, .unset, .unset] [(.int (p1 &&& (1 : Int32)))])) _
      refine XS.ifYes X0.here hx rfl (pc0 := 11) (pc' := 18) rfl (hb hby at_11) rfl ((if0 _ _).trans (teq hc30).1) (by decide) (by decide) ?_
      show Steps p.tables e below (s₁.setTop (mkF m 18 #[.val (.int p0), .val (.int p1), .val (.int ((p0 &&& (2147483647 : Int32)) % (13 : Int32))), .unset, .unset, .unset, .unset, .unset, .unset] [])) _
      refine XS.iconst X0.here hx rfl (hb hby at_18) ?_
      show Steps p.tables e below (s₁.setTop (mkF m 19 #[.val (.int p0), .val (.int p1), .val (.int ((p0 &&& (2147483647 : Int32)) % (13 : Int32))), .unset, .unset, .unset, .unset, .unset, .unset] [(.int (0 : Int32))])) _
      refine XS.istoreN X0.here hx rfl (hb hby at_19) rfl (l' := #[.val (.int p0), .val (.int p1), .val (.int ((p0 &&& (2147483647 : Int32)) % (13 : Int32))), .val (.int (0 : Int32)), .unset, .unset, .unset, .unset, .unset]) rfl ?_
      show Steps p.tables e below (s₁.setTop (mkF m 20 #[.val (.int p0), .val (.int p1), .val (.int ((p0 &&& (2147483647 : Int32)) % (13 : Int32))), .val (.int (0 : Int32)), .unset, .unset, .unset, .unset, .unset] [])) _
      refine XS.iloadN X0.here hx rfl (hb hby at_20) rfl ?_
      show Steps p.tables e below (s₁.setTop (mkF m 21 #[.val (.int p0), .val (.int p1), .val (.int ((p0 &&& (2147483647 : Int32)) % (13 : Int32))), .val (.int (0 : Int32)), .unset, .unset, .unset, .unset, .unset] [(.int ((p0 &&& (2147483647 : Int32)) % (13 : Int32)))])) _
      exact kt
    by_cases hc68 : ((p0 &&& (2147483647 : Int32)) % (13 : Int32)) = (0 : Int32)
    · obtain ⟨_, _, ⟨T69, L69, k69, n69⟩, -, X69, ⟨Lc69, hQ69, l69, y69, z69⟩, st69⟩ := Jvm.LawKit.callS X0 hx (y := Y0) hown (mvT hZ (hw _ (tk 1 rfl))) (mvT hZ (hw _ (tk 2 rfl))) (mvT hZ (hw _ (tk 3 rfl))) (mvT hZ (hw _ (tk 4 rfl))) (by decide) (backOf (W := 0) (rm1 l Z a0 hw [] w_1 w_2 w_3 w_4 w_5 w_6 w_7 w_8 w_9 w_10 w_11 w_12 w_13 hS0 ((p0 &&& (2147483647 : Int32)) % (13 : Int32)) h0 n0 O0) hZ (hw _ (tk 4 rfl)) (hw _ (tk 3 rfl)) (by decide) (by decide)) (g := (mkF m 21 #[.val (.int p0), .val (.int p1), .val (.int ((p0 &&& (2147483647 : Int32)) % (13 : Int32))), .val (.int (0 : Int32)), .unset, .unset, .unset, .unset, .unset] [(.int ((p0 &&& (2147483647 : Int32)) % (13 : Int32)))])) rfl (by rw [hml]; rfl) (argsL := [(.int ((p0 &&& (2147483647 : Int32)) % (13 : Int32)))]) (rest := []) (lenOf pd_0 rfl) rfl (by show 2 * 0 + _ ≤ _; exact Nat.le_of_eq rfl) (hb hby at_21) (fun _ _ => ⟨rfl, e0, (by decide : 0 + 0 ≤ _), (by decide : 0 + 0 ≤ _)⟩)
      dsimp only [Pt.U, Pt.locs, Pt.cells, Pt.slots] at X69 l69 y69 z69 st69 hQ69
      subst l69 y69 z69
      obtain ⟨rv69, N69q, e69⟩ := hQ69
      rw [show sp1 w_1 w_3 w_4 w_5 w_6 w_7 w_8 w_9 w_10 w_11 w_12 w_13 ((p0 &&& (2147483647 : Int32)) % (13 : Int32)) = (.ref w_1) from by unfold sp1; rw [if_pos hc68]] at rv69
      subst rv69
      have N69 := Fr.app N0 N69q
      obtain ⟨T70, h70, X70, e70, E70, A70, D70, -, st70⟩ := newO X69 hx hZ hown (hw _ (tk 8 rfl)) (hw _ (tk 9 rfl)) (hw _ (tk 10 rfl)) e69 (g := (mkF m 26 #[.val (.int p0), .val (.int p1), .val (.int ((p0 &&& (2147483647 : Int32)) % (13 : Int32))), .val (.int (0 : Int32)), .val (.ref w_1), .unset, .unset, .unset, .unset] [])) rfl (hb hby at_26) (by decide) (by decide)
      obtain ⟨b70, g70⟩ : ∃ z, z = h0.size := ⟨_, rfl⟩
      rw [← g70] at A70 D70 st70
      have g_b70 : n0 ≤ b70 := Nat.le_trans (own_old O0) (Nat.le_of_eq g70.symm)
      have O70 : Old Z n0 h70 := O0.ext E70
      have F_integer_b70 : Fld Z h70 b70 "com/example/discharge/discharge/frontend/Syntax$Type" "integer" "Lcom/example/discharge/discharge/frontend/IntegerType;" .null := D70 (Or.inr (hw _ (tk 23 rfl))) (ty := (.object "com/example/discharge/discharge/frontend/IntegerType")) (by decide)
      have F_pointer_b70 : Fld Z h70 b70 "com/example/discharge/discharge/frontend/Syntax$Type" "pointer" "Z" (.int (0 : Int32)) := D70 (Or.inr (hw _ (tk 25 rfl))) (ty := .boolean) (by decide)
      obtain ⟨_, _, ⟨T78, L78, k78, n78⟩, -, X78, ⟨Lc78, hQ78, l78, y78, z78⟩, st78⟩ := X70.specialBack hx (y := Y2) rfl hown (mvT hZ (hw _ (tk 11 rfl))) (mvT hZ (hw _ (tk 12 rfl))) (mvT hZ (hw _ (tk 13 rfl))) (by decide) (backOf (W := 1) (rm2x1 l Z a0 hw [] w_1 w_2 w_3 w_4 w_5 w_6 w_7 w_8 w_9 w_10 w_11 w_12 w_13 hS0 b70 w_1 (0 : Int32) h70 n0 O70 g_b70 A70 F_integer_b70 F_pointer_b70) hZ (hw _ (tk 13 rfl)) (hw _ (tk 10 rfl)) (by decide) (by decide)) (g := (mkF m 33 #[.val (.int p0), .val (.int p1), .val (.int ((p0 &&& (2147483647 : Int32)) % (13 : Int32))), .val (.int (0 : Int32)), .val (.ref w_1), .unset, .unset, .unset, .unset] [(.int (0 : Int32)), (.ref w_1), (.ref b70), (.ref b70)])) rfl (by rw [hml]; rfl) (Steps.refl _) (a := b70) (argsL := [(.ref w_1), (.int (0 : Int32))]) (rest := [(.ref b70)]) (lenOf pd_2 rfl) rfl (by show 2 * 0 + _ ≤ _; exact Nat.le_of_eq rfl) (hb hby at_33) (fun _ _ => ⟨rfl, e70, (by decide : 1 + 0 ≤ _), (by decide : 2 + 0 ≤ _)⟩)
      dsimp only [Pt.U, Pt.locs, Pt.cells, Pt.slots] at X78 l78 y78 z78 st78 hQ78
      subst l78 y78 z78
      obtain ⟨rv78, N78q, O78, K78c, Fe78_0, Fe78_1⟩ := hQ78
      subst rv78
      have N78 := Fr.app N69 N78q
      have c86 := (A70.keep K78c)
      obtain ⟨cq85, kq85, q85a, q85b, q85c⟩ := isOf hZ rfl c86
      obtain ⟨_, _, ⟨T85, L85, k85, n85⟩, -, X85, ⟨Lc85, hQ85, l85, y85, z85⟩, st85⟩ := X78.virtualBack hx (y := Y3) (z := Y3) hown (mvT hZ (hw _ (tk 26 rfl))) (mvT hZ (hw _ (tk 27 rfl))) (notFace_of_selects (args := #[]) (mvT hZ (hw _ (tk 29 rfl)))) (mvT hZ (hw _ (tk 29 rfl))) (mvT hZ (hw _ (tk 28 rfl))) (by decide) (backOf (W := 0) (rm5 l Z a0 hw [] w_1 w_2 w_3 w_4 w_5 w_6 w_7 w_8 w_9 w_10 w_11 w_12 w_13 hS0 b70 (.ref w_1) (nar .boolean (0 : Int32)) T78.heap n0 O78 Fe78_0 rfl Fe78_1) hZ (hw _ (tk 30 rfl)) (hw _ (tk 10 rfl)) (by decide) (by decide)) q85a q85c (g := (mkF m 65 #[.val (.int p0), .val (.int p1), .val (.int ((p0 &&& (2147483647 : Int32)) % (13 : Int32))), .val (.int (0 : Int32)), .val (.ref w_1), .val (.ref b70), .val (.int (0 : Int32)), .unset, .unset] [(.ref b70)])) rfl (by rw [hml]; rfl) (Steps.refl _) (argsL := []) (rest := []) (lenOf pd_3 rfl) rfl (by show 2 * 0 + _ ≤ _; exact Nat.le_of_eq rfl) (hb hby at_65) (fun _ _ => ⟨rfl, rfl, (by decide : 1 + 0 ≤ _), (by decide : 2 + 0 ≤ _)⟩)
      dsimp only [Pt.U, Pt.locs, Pt.cells, Pt.slots] at X85 l85 y85 z85 st85 hQ85
      subst l85 y85 z85
      obtain ⟨rv85, N85q, e85⟩ := hQ85
      rw [show sp5 (.ref w_1) (nar .boolean (0 : Int32)) = (0 : Int32) from by unfold sp5; rw [if_neg (nofun : ¬ ((.ref w_1) : Value) = .null)]] at rv85
      subst rv85
      have N85 := Fr.app N78 N85q
      obtain ⟨T87, X87, e87, st87⟩ := getS2 X85 hx hZ hown (host := "") (Or.inl (hw _ (tk 31 rfl))) Via.refl e85 (S_2.ext O78.2) (g := (mkF m 72 #[.val (.int p0), .val (.int p1), .val (.int ((p0 &&& (2147483647 : Int32)) % (13 : Int32))), .val (.int (0 : Int32)), .val (.ref w_1), .val (.ref b70), .val (.int (0 : Int32)), .val (.int (0 : Int32)), .unset] [(.ref b70)])) rfl (hb hby at_72)
      obtain ⟨cq98, kq98, q98a, q98b, q98c⟩ := isOf hZ e87 c86
      obtain ⟨_, _, ⟨T98, L98, k98, n98⟩, -, X98, ⟨Lc98, hQ98, l98, y98, z98⟩, st98⟩ := X87.virtualBack hx (y := Y4) (z := Y4) hown (mvT hZ (hw _ (tk 33 rfl))) (mvT hZ (hw _ (tk 34 rfl))) (notFace_of_selects (args := #[]) (mvT hZ (hw _ (tk 36 rfl)))) (mvT hZ (hw _ (tk 36 rfl))) (mvT hZ (hw _ (tk 35 rfl))) (by decide) (backOf (W := 0) (rm6c1 l Z a0 hw [] w_1 w_2 w_3 w_4 w_5 w_6 w_7 w_8 w_9 w_10 w_11 w_12 w_13 hS0 b70 w_2 .null (.ref w_1) (0 : Int32) (nar .boolean (0 : Int32)) T78.heap n0 O78 (E_2.ext O78.2) (F_2_integer.ext O78.2) rfl Fe78_0 rfl (F_2_pointer.ext O78.2) Fe78_1) hZ (hw _ (tk 37 rfl)) (hw _ (tk 10 rfl)) (by decide) (by decide)) q98a q98c (g := (mkF m 75 #[.val (.int p0), .val (.int p1), .val (.int ((p0 &&& (2147483647 : Int32)) % (13 : Int32))), .val (.int (0 : Int32)), .val (.ref w_1), .val (.ref b70), .val (.int (0 : Int32)), .val (.int (0 : Int32)), .unset] [(.ref w_2), (.ref b70)])) rfl (by rw [hml]; rfl) (Steps.refl _) (argsL := [(.ref w_2)]) (rest := []) (lenOf pd_4 rfl) rfl (by show 2 * 0 + _ ≤ _; exact Nat.le_of_eq rfl) (hb hby at_75) (fun _ _ => ⟨rfl, e87, (by decide : 1 + 0 ≤ _), (by decide : 2 + 0 ≤ _)⟩)
      dsimp only [Pt.U, Pt.locs, Pt.cells, Pt.slots] at X98 l98 y98 z98 st98 hQ98
      subst l98 y98 z98
      obtain ⟨rv98, N98q, e98⟩ := hQ98
      rw [show sp6c1 .null (.ref w_1) (0 : Int32) (nar .boolean (0 : Int32)) = (0 : Int32) from by unfold sp6c1; rw [if_neg (nofun : ¬ (.null : Value) = (.ref w_1))]] at rv98
      subst rv98
      have N98 := Fr.app N85 N98q
      obtain ⟨fs, hr, hrun, hended, hW, hsame⟩ := X98.leave (v := some (.int (1 : Int32))) (fun h => by rw [Bd.returns] at h; cases h)
      refine ⟨_, _, pre67 _ ?_, hrun, hended, _, _, rfl, ?_, ⟨_, rfl⟩, hW, hsame.mono (by decide) (by decide)⟩
      · show Steps p.tables e below (s₁.setTop (mkF m 21 #[.val (.int p0), .val (.int p1), .val (.int ((p0 &&& (2147483647 : Int32)) % (13 : Int32))), .val (.int (0 : Int32)), .unset, .unset, .unset, .unset, .unset] [(.int ((p0 &&& (2147483647 : Int32)) % (13 : Int32)))])) _
        refine st69 _ ?_
        show Steps p.tables e below (T69.setTop (mkF m 24 #[.val (.int p0), .val (.int p1), .val (.int ((p0 &&& (2147483647 : Int32)) % (13 : Int32))), .val (.int (0 : Int32)), .unset, .unset, .unset, .unset, .unset] [(.ref w_1)])) _
        refine XS.astore X69.here hx rfl (hb hby at_24) rfl rfl (l' := #[.val (.int p0), .val (.int p1), .val (.int ((p0 &&& (2147483647 : Int32)) % (13 : Int32))), .val (.int (0 : Int32)), .val (.ref w_1), .unset, .unset, .unset, .unset]) rfl ?_
        show Steps p.tables e below (T69.setTop (mkF m 26 #[.val (.int p0), .val (.int p1), .val (.int ((p0 &&& (2147483647 : Int32)) % (13 : Int32))), .val (.int (0 : Int32)), .val (.ref w_1), .unset, .unset, .unset, .unset] [])) _
        refine st70 _ ?_
        show Steps p.tables e below (T70.setTop (mkF m 29 #[.val (.int p0), .val (.int p1), .val (.int ((p0 &&& (2147483647 : Int32)) % (13 : Int32))), .val (.int (0 : Int32)), .val (.ref w_1), .unset, .unset, .unset, .unset] [(.ref b70)])) _
        refine XS.dup X70.here hx rfl (hb hby at_29) rfl rfl ?_
        show Steps p.tables e below (T70.setTop (mkF m 30 #[.val (.int p0), .val (.int p1), .val (.int ((p0 &&& (2147483647 : Int32)) % (13 : Int32))), .val (.int (0 : Int32)), .val (.ref w_1), .unset, .unset, .unset, .unset] [(.ref b70), (.ref b70)])) _
        refine XS.aload X70.here hx rfl (hb hby at_30) rfl rfl ?_
        show Steps p.tables e below (T70.setTop (mkF m 32 #[.val (.int p0), .val (.int p1), .val (.int ((p0 &&& (2147483647 : Int32)) % (13 : Int32))), .val (.int (0 : Int32)), .val (.ref w_1), .unset, .unset, .unset, .unset] [(.ref w_1), (.ref b70), (.ref b70)])) _
        refine XS.iloadN X70.here hx rfl (hb hby at_32) rfl ?_
        show Steps p.tables e below (T70.setTop (mkF m 33 #[.val (.int p0), .val (.int p1), .val (.int ((p0 &&& (2147483647 : Int32)) % (13 : Int32))), .val (.int (0 : Int32)), .val (.ref w_1), .unset, .unset, .unset, .unset] [(.int (0 : Int32)), (.ref w_1), (.ref b70), (.ref b70)])) _
        refine st78.trans ?_
        show Steps p.tables e below (T78.setTop (mkF m 36 #[.val (.int p0), .val (.int p1), .val (.int ((p0 &&& (2147483647 : Int32)) % (13 : Int32))), .val (.int (0 : Int32)), .val (.ref w_1), .unset, .unset, .unset, .unset] [(.ref b70)])) _
        refine XS.astore X78.here hx rfl (hb hby at_36) rfl rfl (l' := #[.val (.int p0), .val (.int p1), .val (.int ((p0 &&& (2147483647 : Int32)) % (13 : Int32))), .val (.int (0 : Int32)), .val (.ref w_1), .val (.ref b70), .unset, .unset, .unset]) rfl ?_
        show Steps p.tables e below (T78.setTop (mkF m 38 #[.val (.int p0), .val (.int p1), .val (.int ((p0 &&& (2147483647 : Int32)) % (13 : Int32))), .val (.int (0 : Int32)), .val (.ref w_1), .val (.ref b70), .unset, .unset, .unset] [])) _
        refine XS.iloadN X78.here hx rfl (hb hby at_38) rfl ?_
        show Steps p.tables e below (T78.setTop (mkF m 39 #[.val (.int p0), .val (.int p1), .val (.int ((p0 &&& (2147483647 : Int32)) % (13 : Int32))), .val (.int (0 : Int32)), .val (.ref w_1), .val (.ref b70), .unset, .unset, .unset] [(.int (0 : Int32))])) _
        refine XS.ifYes X78.here hx rfl (pc0 := 39) (pc' := 48) rfl (hb hby at_39) rfl ((if0 _ _).trans (teq (by decide : ((0 : Int32) = (0 : Int32)))).1) (by decide) (by decide) ?_
        show Steps p.tables e below (T78.setTop (mkF m 48 #[.val (.int p0), .val (.int p1), .val (.int ((p0 &&& (2147483647 : Int32)) % (13 : Int32))), .val (.int (0 : Int32)), .val (.ref w_1), .val (.ref b70), .unset, .unset, .unset] [])) _
        refine XS.iloadN X78.here hx rfl (hb hby at_48) rfl ?_
        show Steps p.tables e below (T78.setTop (mkF m 49 #[.val (.int p0), .val (.int p1), .val (.int ((p0 &&& (2147483647 : Int32)) % (13 : Int32))), .val (.int (0 : Int32)), .val (.ref w_1), .val (.ref b70), .unset, .unset, .unset] [(.int ((p0 &&& (2147483647 : Int32)) % (13 : Int32)))])) _
        refine XS.bipush X78.here hx rfl (hb hby at_49) ?_
        show Steps p.tables e below (T78.setTop (mkF m 51 #[.val (.int p0), .val (.int p1), .val (.int ((p0 &&& (2147483647 : Int32)) % (13 : Int32))), .val (.int (0 : Int32)), .val (.ref w_1), .val (.ref b70), .unset, .unset, .unset] [(.int (12 : Int32)), (.int ((p0 &&& (2147483647 : Int32)) % (13 : Int32)))])) _
        refine XS.icmpYes X78.here hx rfl (pc0 := 51) (pc' := 60) rfl (hb hby at_51) rfl (feq (by rw [hc68] <;> decide : ¬ (((p0 &&& (2147483647 : Int32)) % (13 : Int32)) = (12 : Int32)))).2 (by decide) (by decide) ?_
        show Steps p.tables e below (T78.setTop (mkF m 60 #[.val (.int p0), .val (.int p1), .val (.int ((p0 &&& (2147483647 : Int32)) % (13 : Int32))), .val (.int (0 : Int32)), .val (.ref w_1), .val (.ref b70), .unset, .unset, .unset] [])) _
        refine XS.iconst X78.here hx rfl (hb hby at_60) ?_
        show Steps p.tables e below (T78.setTop (mkF m 61 #[.val (.int p0), .val (.int p1), .val (.int ((p0 &&& (2147483647 : Int32)) % (13 : Int32))), .val (.int (0 : Int32)), .val (.ref w_1), .val (.ref b70), .unset, .unset, .unset] [(.int (0 : Int32))])) _
        refine XS.istore X78.here hx rfl (hb hby at_61) rfl (l' := #[.val (.int p0), .val (.int p1), .val (.int ((p0 &&& (2147483647 : Int32)) % (13 : Int32))), .val (.int (0 : Int32)), .val (.ref w_1), .val (.ref b70), .val (.int (0 : Int32)), .unset, .unset]) rfl ?_
        show Steps p.tables e below (T78.setTop (mkF m 63 #[.val (.int p0), .val (.int p1), .val (.int ((p0 &&& (2147483647 : Int32)) % (13 : Int32))), .val (.int (0 : Int32)), .val (.ref w_1), .val (.ref b70), .val (.int (0 : Int32)), .unset, .unset] [])) _
        refine XS.aload X78.here hx rfl (hb hby at_63) rfl rfl ?_
        show Steps p.tables e below (T78.setTop (mkF m 65 #[.val (.int p0), .val (.int p1), .val (.int ((p0 &&& (2147483647 : Int32)) % (13 : Int32))), .val (.int (0 : Int32)), .val (.ref w_1), .val (.ref b70), .val (.int (0 : Int32)), .unset, .unset] [(.ref b70)])) _
        refine st85.trans ?_
        show Steps p.tables e below (T85.setTop (mkF m 68 #[.val (.int p0), .val (.int p1), .val (.int ((p0 &&& (2147483647 : Int32)) % (13 : Int32))), .val (.int (0 : Int32)), .val (.ref w_1), .val (.ref b70), .val (.int (0 : Int32)), .unset, .unset] [(.int (0 : Int32))])) _
        refine XS.istore X85.here hx rfl (hb hby at_68) rfl (l' := #[.val (.int p0), .val (.int p1), .val (.int ((p0 &&& (2147483647 : Int32)) % (13 : Int32))), .val (.int (0 : Int32)), .val (.ref w_1), .val (.ref b70), .val (.int (0 : Int32)), .val (.int (0 : Int32)), .unset]) rfl ?_
        show Steps p.tables e below (T85.setTop (mkF m 70 #[.val (.int p0), .val (.int p1), .val (.int ((p0 &&& (2147483647 : Int32)) % (13 : Int32))), .val (.int (0 : Int32)), .val (.ref w_1), .val (.ref b70), .val (.int (0 : Int32)), .val (.int (0 : Int32)), .unset] [])) _
        refine XS.aload X85.here hx rfl (hb hby at_70) rfl rfl ?_
        show Steps p.tables e below (T85.setTop (mkF m 72 #[.val (.int p0), .val (.int p1), .val (.int ((p0 &&& (2147483647 : Int32)) % (13 : Int32))), .val (.int (0 : Int32)), .val (.ref w_1), .val (.ref b70), .val (.int (0 : Int32)), .val (.int (0 : Int32)), .unset] [(.ref b70)])) _
        refine st87 _ ?_
        show Steps p.tables e below (T87.setTop (mkF m 75 #[.val (.int p0), .val (.int p1), .val (.int ((p0 &&& (2147483647 : Int32)) % (13 : Int32))), .val (.int (0 : Int32)), .val (.ref w_1), .val (.ref b70), .val (.int (0 : Int32)), .val (.int (0 : Int32)), .unset] [(.ref w_2), (.ref b70)])) _
        refine st98.trans ?_
        show Steps p.tables e below (T98.setTop (mkF m 78 #[.val (.int p0), .val (.int p1), .val (.int ((p0 &&& (2147483647 : Int32)) % (13 : Int32))), .val (.int (0 : Int32)), .val (.ref w_1), .val (.ref b70), .val (.int (0 : Int32)), .val (.int (0 : Int32)), .unset] [(.int (0 : Int32))])) _
        refine XS.istore X98.here hx rfl (hb hby at_78) rfl (l' := #[.val (.int p0), .val (.int p1), .val (.int ((p0 &&& (2147483647 : Int32)) % (13 : Int32))), .val (.int (0 : Int32)), .val (.ref w_1), .val (.ref b70), .val (.int (0 : Int32)), .val (.int (0 : Int32)), .val (.int (0 : Int32))]) rfl ?_
        show Steps p.tables e below (T98.setTop (mkF m 80 #[.val (.int p0), .val (.int p1), .val (.int ((p0 &&& (2147483647 : Int32)) % (13 : Int32))), .val (.int (0 : Int32)), .val (.ref w_1), .val (.ref b70), .val (.int (0 : Int32)), .val (.int (0 : Int32)), .val (.int (0 : Int32))] [])) _
        refine XS.iload X98.here hx rfl (hb hby at_80) rfl ?_
        show Steps p.tables e below (T98.setTop (mkF m 82 #[.val (.int p0), .val (.int p1), .val (.int ((p0 &&& (2147483647 : Int32)) % (13 : Int32))), .val (.int (0 : Int32)), .val (.ref w_1), .val (.ref b70), .val (.int (0 : Int32)), .val (.int (0 : Int32)), .val (.int (0 : Int32))] [(.int (0 : Int32))])) _
        refine XS.iload X98.here hx rfl (hb hby at_82) rfl ?_
        show Steps p.tables e below (T98.setTop (mkF m 84 #[.val (.int p0), .val (.int p1), .val (.int ((p0 &&& (2147483647 : Int32)) % (13 : Int32))), .val (.int (0 : Int32)), .val (.ref w_1), .val (.ref b70), .val (.int (0 : Int32)), .val (.int (0 : Int32)), .val (.int (0 : Int32))] [(.int (0 : Int32)), (.int (0 : Int32))])) _
        refine XS.icmpNo X98.here hx rfl (hb hby at_84) rfl (teq (by decide : ((0 : Int32) = (0 : Int32)))).2 ?_
        show Steps p.tables e below (T98.setTop (mkF m 87 #[.val (.int p0), .val (.int p1), .val (.int ((p0 &&& (2147483647 : Int32)) % (13 : Int32))), .val (.int (0 : Int32)), .val (.ref w_1), .val (.ref b70), .val (.int (0 : Int32)), .val (.int (0 : Int32)), .val (.int (0 : Int32))] [])) _
        refine XS.iload X98.here hx rfl (hb hby at_87) rfl ?_
        show Steps p.tables e below (T98.setTop (mkF m 89 #[.val (.int p0), .val (.int p1), .val (.int ((p0 &&& (2147483647 : Int32)) % (13 : Int32))), .val (.int (0 : Int32)), .val (.ref w_1), .val (.ref b70), .val (.int (0 : Int32)), .val (.int (0 : Int32)), .val (.int (0 : Int32))] [(.int (0 : Int32))])) _
        refine XS.iload X98.here hx rfl (hb hby at_89) rfl ?_
        show Steps p.tables e below (T98.setTop (mkF m 91 #[.val (.int p0), .val (.int p1), .val (.int ((p0 &&& (2147483647 : Int32)) % (13 : Int32))), .val (.int (0 : Int32)), .val (.ref w_1), .val (.ref b70), .val (.int (0 : Int32)), .val (.int (0 : Int32)), .val (.int (0 : Int32))] [(.int (0 : Int32)), (.int (0 : Int32))])) _
        refine XS.icmpNo X98.here hx rfl (hb hby at_91) rfl (teq (by decide : ((0 : Int32) = (0 : Int32)))).2 ?_
        show Steps p.tables e below (T98.setTop (mkF m 94 #[.val (.int p0), .val (.int p1), .val (.int ((p0 &&& (2147483647 : Int32)) % (13 : Int32))), .val (.int (0 : Int32)), .val (.ref w_1), .val (.ref b70), .val (.int (0 : Int32)), .val (.int (0 : Int32)), .val (.int (0 : Int32))] [])) _
        refine XS.iconst X98.here hx rfl (hb hby at_94) ?_
        show Steps p.tables e below (T98.setTop (mkF m 95 #[.val (.int p0), .val (.int p1), .val (.int ((p0 &&& (2147483647 : Int32)) % (13 : Int32))), .val (.int (0 : Int32)), .val (.ref w_1), .val (.ref b70), .val (.int (0 : Int32)), .val (.int (0 : Int32)), .val (.int (0 : Int32))] [(.int (1 : Int32))])) _
        refine XS.goto X98.here hx rfl (pc0 := 95) (pc' := 99) rfl (hb hby at_95) (by decide) (by decide) ?_
        show Steps p.tables e below (T98.setTop (mkF m 99 #[.val (.int p0), .val (.int p1), .val (.int ((p0 &&& (2147483647 : Int32)) % (13 : Int32))), .val (.int (0 : Int32)), .val (.ref w_1), .val (.ref b70), .val (.int (0 : Int32)), .val (.int (0 : Int32)), .val (.int (0 : Int32))] [(.int (1 : Int32))])) _
        exact retN X98 hx (t := .boolean) Bd.returns (by simp) (hb hby at_99) hr
      · show Q0 Z w_1 w_2 w_3 w_4 w_5 w_6 w_7 w_8 w_9 w_10 w_11 w_12 w_13 p0 p1 h0 n0 _ T98.heap _
        rw [e98]
        exact ⟨by unfold sp0; rw [if_pos hc30, if_pos hc68], N98, trivial⟩
    · by_cases hc99 : ((p0 &&& (2147483647 : Int32)) % (13 : Int32)) = (1 : Int32)
      · obtain ⟨_, _, ⟨T100, L100, k100, n100⟩, -, X100, ⟨Lc100, hQ100, l100, y100, z100⟩, st100⟩ := Jvm.LawKit.callS X0 hx (y := Y0) hown (mvT hZ (hw _ (tk 1 rfl))) (mvT hZ (hw _ (tk 2 rfl))) (mvT hZ (hw _ (tk 3 rfl))) (mvT hZ (hw _ (tk 4 rfl))) (by decide) (backOf (W := 0) (rm1 l Z a0 hw [] w_1 w_2 w_3 w_4 w_5 w_6 w_7 w_8 w_9 w_10 w_11 w_12 w_13 hS0 ((p0 &&& (2147483647 : Int32)) % (13 : Int32)) h0 n0 O0) hZ (hw _ (tk 4 rfl)) (hw _ (tk 3 rfl)) (by decide) (by decide)) (g := (mkF m 21 #[.val (.int p0), .val (.int p1), .val (.int ((p0 &&& (2147483647 : Int32)) % (13 : Int32))), .val (.int (0 : Int32)), .unset, .unset, .unset, .unset, .unset] [(.int ((p0 &&& (2147483647 : Int32)) % (13 : Int32)))])) rfl (by rw [hml]; rfl) (argsL := [(.int ((p0 &&& (2147483647 : Int32)) % (13 : Int32)))]) (rest := []) (lenOf pd_0 rfl) rfl (by show 2 * 0 + _ ≤ _; exact Nat.le_of_eq rfl) (hb hby at_21) (fun _ _ => ⟨rfl, e0, (by decide : 0 + 0 ≤ _), (by decide : 0 + 0 ≤ _)⟩)
        dsimp only [Pt.U, Pt.locs, Pt.cells, Pt.slots] at X100 l100 y100 z100 st100 hQ100
        subst l100 y100 z100
        obtain ⟨rv100, N100q, e100⟩ := hQ100
        rw [show sp1 w_1 w_3 w_4 w_5 w_6 w_7 w_8 w_9 w_10 w_11 w_12 w_13 ((p0 &&& (2147483647 : Int32)) % (13 : Int32)) = (.ref w_3) from by unfold sp1; rw [if_neg hc68, if_pos hc99]] at rv100
        subst rv100
        have N100 := Fr.app N0 N100q
        obtain ⟨T101, h101, X101, e101, E101, A101, D101, -, st101⟩ := newO X100 hx hZ hown (hw _ (tk 8 rfl)) (hw _ (tk 9 rfl)) (hw _ (tk 10 rfl)) e100 (g := (mkF m 26 #[.val (.int p0), .val (.int p1), .val (.int ((p0 &&& (2147483647 : Int32)) % (13 : Int32))), .val (.int (0 : Int32)), .val (.ref w_3), .unset, .unset, .unset, .unset] [])) rfl (hb hby at_26) (by decide) (by decide)
        obtain ⟨b101, g101⟩ : ∃ z, z = h0.size := ⟨_, rfl⟩
        rw [← g101] at A101 D101 st101
        have g_b101 : n0 ≤ b101 := Nat.le_trans (own_old O0) (Nat.le_of_eq g101.symm)
        have O101 : Old Z n0 h101 := O0.ext E101
        have F_integer_b101 : Fld Z h101 b101 "com/example/discharge/discharge/frontend/Syntax$Type" "integer" "Lcom/example/discharge/discharge/frontend/IntegerType;" .null := D101 (Or.inr (hw _ (tk 23 rfl))) (ty := (.object "com/example/discharge/discharge/frontend/IntegerType")) (by decide)
        have F_pointer_b101 : Fld Z h101 b101 "com/example/discharge/discharge/frontend/Syntax$Type" "pointer" "Z" (.int (0 : Int32)) := D101 (Or.inr (hw _ (tk 25 rfl))) (ty := .boolean) (by decide)
        obtain ⟨_, _, ⟨T102, L102, k102, n102⟩, -, X102, ⟨Lc102, hQ102, l102, y102, z102⟩, st102⟩ := X101.specialBack hx (y := Y2) rfl hown (mvT hZ (hw _ (tk 11 rfl))) (mvT hZ (hw _ (tk 12 rfl))) (mvT hZ (hw _ (tk 13 rfl))) (by decide) (backOf (W := 1) (rm2x1 l Z a0 hw [] w_1 w_2 w_3 w_4 w_5 w_6 w_7 w_8 w_9 w_10 w_11 w_12 w_13 hS0 b101 w_3 (0 : Int32) h101 n0 O101 g_b101 A101 F_integer_b101 F_pointer_b101) hZ (hw _ (tk 13 rfl)) (hw _ (tk 10 rfl)) (by decide) (by decide)) (g := (mkF m 33 #[.val (.int p0), .val (.int p1), .val (.int ((p0 &&& (2147483647 : Int32)) % (13 : Int32))), .val (.int (0 : Int32)), .val (.ref w_3), .unset, .unset, .unset, .unset] [(.int (0 : Int32)), (.ref w_3), (.ref b101), (.ref b101)])) rfl (by rw [hml]; rfl) (Steps.refl _) (a := b101) (argsL := [(.ref w_3), (.int (0 : Int32))]) (rest := [(.ref b101)]) (lenOf pd_2 rfl) rfl (by show 2 * 0 + _ ≤ _; exact Nat.le_of_eq rfl) (hb hby at_33) (fun _ _ => ⟨rfl, e101, (by decide : 1 + 0 ≤ _), (by decide : 2 + 0 ≤ _)⟩)
        dsimp only [Pt.U, Pt.locs, Pt.cells, Pt.slots] at X102 l102 y102 z102 st102 hQ102
        subst l102 y102 z102
        obtain ⟨rv102, N102q, O102, K102c, Fe102_0, Fe102_1⟩ := hQ102
        subst rv102
        have N102 := Fr.app N100 N102q
        have c104 := (A101.keep K102c)
        obtain ⟨cq103, kq103, q103a, q103b, q103c⟩ := isOf hZ rfl c104
        obtain ⟨_, _, ⟨T103, L103, k103, n103⟩, -, X103, ⟨Lc103, hQ103, l103, y103, z103⟩, st103⟩ := X102.virtualBack hx (y := Y3) (z := Y3) hown (mvT hZ (hw _ (tk 26 rfl))) (mvT hZ (hw _ (tk 27 rfl))) (notFace_of_selects (args := #[]) (mvT hZ (hw _ (tk 29 rfl)))) (mvT hZ (hw _ (tk 29 rfl))) (mvT hZ (hw _ (tk 28 rfl))) (by decide) (backOf (W := 0) (rm5 l Z a0 hw [] w_1 w_2 w_3 w_4 w_5 w_6 w_7 w_8 w_9 w_10 w_11 w_12 w_13 hS0 b101 (.ref w_3) (nar .boolean (0 : Int32)) T102.heap n0 O102 Fe102_0 rfl Fe102_1) hZ (hw _ (tk 30 rfl)) (hw _ (tk 10 rfl)) (by decide) (by decide)) q103a q103c (g := (mkF m 65 #[.val (.int p0), .val (.int p1), .val (.int ((p0 &&& (2147483647 : Int32)) % (13 : Int32))), .val (.int (0 : Int32)), .val (.ref w_3), .val (.ref b101), .val (.int (0 : Int32)), .unset, .unset] [(.ref b101)])) rfl (by rw [hml]; rfl) (Steps.refl _) (argsL := []) (rest := []) (lenOf pd_3 rfl) rfl (by show 2 * 0 + _ ≤ _; exact Nat.le_of_eq rfl) (hb hby at_65) (fun _ _ => ⟨rfl, rfl, (by decide : 1 + 0 ≤ _), (by decide : 2 + 0 ≤ _)⟩)
        dsimp only [Pt.U, Pt.locs, Pt.cells, Pt.slots] at X103 l103 y103 z103 st103 hQ103
        subst l103 y103 z103
        obtain ⟨rv103, N103q, e103⟩ := hQ103
        rw [show sp5 (.ref w_3) (nar .boolean (0 : Int32)) = (0 : Int32) from by unfold sp5; rw [if_neg (nofun : ¬ ((.ref w_3) : Value) = .null)]] at rv103
        subst rv103
        have N103 := Fr.app N102 N103q
        obtain ⟨T105, X105, e105, st105⟩ := getS2 X103 hx hZ hown (host := "") (Or.inl (hw _ (tk 31 rfl))) Via.refl e103 (S_2.ext O102.2) (g := (mkF m 72 #[.val (.int p0), .val (.int p1), .val (.int ((p0 &&& (2147483647 : Int32)) % (13 : Int32))), .val (.int (0 : Int32)), .val (.ref w_3), .val (.ref b101), .val (.int (0 : Int32)), .val (.int (0 : Int32)), .unset] [(.ref b101)])) rfl (hb hby at_72)
        obtain ⟨cq106, kq106, q106a, q106b, q106c⟩ := isOf hZ e105 c104
        obtain ⟨_, _, ⟨T106, L106, k106, n106⟩, -, X106, ⟨Lc106, hQ106, l106, y106, z106⟩, st106⟩ := X105.virtualBack hx (y := Y4) (z := Y4) hown (mvT hZ (hw _ (tk 33 rfl))) (mvT hZ (hw _ (tk 34 rfl))) (notFace_of_selects (args := #[]) (mvT hZ (hw _ (tk 36 rfl)))) (mvT hZ (hw _ (tk 36 rfl))) (mvT hZ (hw _ (tk 35 rfl))) (by decide) (backOf (W := 0) (rm6c1 l Z a0 hw [] w_1 w_2 w_3 w_4 w_5 w_6 w_7 w_8 w_9 w_10 w_11 w_12 w_13 hS0 b101 w_2 .null (.ref w_3) (0 : Int32) (nar .boolean (0 : Int32)) T102.heap n0 O102 (E_2.ext O102.2) (F_2_integer.ext O102.2) rfl Fe102_0 rfl (F_2_pointer.ext O102.2) Fe102_1) hZ (hw _ (tk 37 rfl)) (hw _ (tk 10 rfl)) (by decide) (by decide)) q106a q106c (g := (mkF m 75 #[.val (.int p0), .val (.int p1), .val (.int ((p0 &&& (2147483647 : Int32)) % (13 : Int32))), .val (.int (0 : Int32)), .val (.ref w_3), .val (.ref b101), .val (.int (0 : Int32)), .val (.int (0 : Int32)), .unset] [(.ref w_2), (.ref b101)])) rfl (by rw [hml]; rfl) (Steps.refl _) (argsL := [(.ref w_2)]) (rest := []) (lenOf pd_4 rfl) rfl (by show 2 * 0 + _ ≤ _; exact Nat.le_of_eq rfl) (hb hby at_75) (fun _ _ => ⟨rfl, e105, (by decide : 1 + 0 ≤ _), (by decide : 2 + 0 ≤ _)⟩)
        dsimp only [Pt.U, Pt.locs, Pt.cells, Pt.slots] at X106 l106 y106 z106 st106 hQ106
        subst l106 y106 z106
        obtain ⟨rv106, N106q, e106⟩ := hQ106
        rw [show sp6c1 .null (.ref w_3) (0 : Int32) (nar .boolean (0 : Int32)) = (0 : Int32) from by unfold sp6c1; rw [if_neg (nofun : ¬ (.null : Value) = (.ref w_3))]] at rv106
        subst rv106
        have N106 := Fr.app N103 N106q
        obtain ⟨fs, hr, hrun, hended, hW, hsame⟩ := X106.leave (v := some (.int (1 : Int32))) (fun h => by rw [Bd.returns] at h; cases h)
        refine ⟨_, _, pre67 _ ?_, hrun, hended, _, _, rfl, ?_, ⟨_, rfl⟩, hW, hsame.mono (by decide) (by decide)⟩
        · show Steps p.tables e below (s₁.setTop (mkF m 21 #[.val (.int p0), .val (.int p1), .val (.int ((p0 &&& (2147483647 : Int32)) % (13 : Int32))), .val (.int (0 : Int32)), .unset, .unset, .unset, .unset, .unset] [(.int ((p0 &&& (2147483647 : Int32)) % (13 : Int32)))])) _
          refine st100 _ ?_
          show Steps p.tables e below (T100.setTop (mkF m 24 #[.val (.int p0), .val (.int p1), .val (.int ((p0 &&& (2147483647 : Int32)) % (13 : Int32))), .val (.int (0 : Int32)), .unset, .unset, .unset, .unset, .unset] [(.ref w_3)])) _
          refine XS.astore X100.here hx rfl (hb hby at_24) rfl rfl (l' := #[.val (.int p0), .val (.int p1), .val (.int ((p0 &&& (2147483647 : Int32)) % (13 : Int32))), .val (.int (0 : Int32)), .val (.ref w_3), .unset, .unset, .unset, .unset]) rfl ?_
          show Steps p.tables e below (T100.setTop (mkF m 26 #[.val (.int p0), .val (.int p1), .val (.int ((p0 &&& (2147483647 : Int32)) % (13 : Int32))), .val (.int (0 : Int32)), .val (.ref w_3), .unset, .unset, .unset, .unset] [])) _
          refine st101 _ ?_
          show Steps p.tables e below (T101.setTop (mkF m 29 #[.val (.int p0), .val (.int p1), .val (.int ((p0 &&& (2147483647 : Int32)) % (13 : Int32))), .val (.int (0 : Int32)), .val (.ref w_3), .unset, .unset, .unset, .unset] [(.ref b101)])) _
          refine XS.dup X101.here hx rfl (hb hby at_29) rfl rfl ?_
          show Steps p.tables e below (T101.setTop (mkF m 30 #[.val (.int p0), .val (.int p1), .val (.int ((p0 &&& (2147483647 : Int32)) % (13 : Int32))), .val (.int (0 : Int32)), .val (.ref w_3), .unset, .unset, .unset, .unset] [(.ref b101), (.ref b101)])) _
          refine XS.aload X101.here hx rfl (hb hby at_30) rfl rfl ?_
          show Steps p.tables e below (T101.setTop (mkF m 32 #[.val (.int p0), .val (.int p1), .val (.int ((p0 &&& (2147483647 : Int32)) % (13 : Int32))), .val (.int (0 : Int32)), .val (.ref w_3), .unset, .unset, .unset, .unset] [(.ref w_3), (.ref b101), (.ref b101)])) _
          refine XS.iloadN X101.here hx rfl (hb hby at_32) rfl ?_
          show Steps p.tables e below (T101.setTop (mkF m 33 #[.val (.int p0), .val (.int p1), .val (.int ((p0 &&& (2147483647 : Int32)) % (13 : Int32))), .val (.int (0 : Int32)), .val (.ref w_3), .unset, .unset, .unset, .unset] [(.int (0 : Int32)), (.ref w_3), (.ref b101), (.ref b101)])) _
          refine st102.trans ?_
          show Steps p.tables e below (T102.setTop (mkF m 36 #[.val (.int p0), .val (.int p1), .val (.int ((p0 &&& (2147483647 : Int32)) % (13 : Int32))), .val (.int (0 : Int32)), .val (.ref w_3), .unset, .unset, .unset, .unset] [(.ref b101)])) _
          refine XS.astore X102.here hx rfl (hb hby at_36) rfl rfl (l' := #[.val (.int p0), .val (.int p1), .val (.int ((p0 &&& (2147483647 : Int32)) % (13 : Int32))), .val (.int (0 : Int32)), .val (.ref w_3), .val (.ref b101), .unset, .unset, .unset]) rfl ?_
          show Steps p.tables e below (T102.setTop (mkF m 38 #[.val (.int p0), .val (.int p1), .val (.int ((p0 &&& (2147483647 : Int32)) % (13 : Int32))), .val (.int (0 : Int32)), .val (.ref w_3), .val (.ref b101), .unset, .unset, .unset] [])) _
          refine XS.iloadN X102.here hx rfl (hb hby at_38) rfl ?_
          show Steps p.tables e below (T102.setTop (mkF m 39 #[.val (.int p0), .val (.int p1), .val (.int ((p0 &&& (2147483647 : Int32)) % (13 : Int32))), .val (.int (0 : Int32)), .val (.ref w_3), .val (.ref b101), .unset, .unset, .unset] [(.int (0 : Int32))])) _
          refine XS.ifYes X102.here hx rfl (pc0 := 39) (pc' := 48) rfl (hb hby at_39) rfl ((if0 _ _).trans (teq (by decide : ((0 : Int32) = (0 : Int32)))).1) (by decide) (by decide) ?_
          show Steps p.tables e below (T102.setTop (mkF m 48 #[.val (.int p0), .val (.int p1), .val (.int ((p0 &&& (2147483647 : Int32)) % (13 : Int32))), .val (.int (0 : Int32)), .val (.ref w_3), .val (.ref b101), .unset, .unset, .unset] [])) _
          refine XS.iloadN X102.here hx rfl (hb hby at_48) rfl ?_
          show Steps p.tables e below (T102.setTop (mkF m 49 #[.val (.int p0), .val (.int p1), .val (.int ((p0 &&& (2147483647 : Int32)) % (13 : Int32))), .val (.int (0 : Int32)), .val (.ref w_3), .val (.ref b101), .unset, .unset, .unset] [(.int ((p0 &&& (2147483647 : Int32)) % (13 : Int32)))])) _
          refine XS.bipush X102.here hx rfl (hb hby at_49) ?_
          show Steps p.tables e below (T102.setTop (mkF m 51 #[.val (.int p0), .val (.int p1), .val (.int ((p0 &&& (2147483647 : Int32)) % (13 : Int32))), .val (.int (0 : Int32)), .val (.ref w_3), .val (.ref b101), .unset, .unset, .unset] [(.int (12 : Int32)), (.int ((p0 &&& (2147483647 : Int32)) % (13 : Int32)))])) _
          refine XS.icmpYes X102.here hx rfl (pc0 := 51) (pc' := 60) rfl (hb hby at_51) rfl (feq (by rw [hc99] <;> decide : ¬ (((p0 &&& (2147483647 : Int32)) % (13 : Int32)) = (12 : Int32)))).2 (by decide) (by decide) ?_
          show Steps p.tables e below (T102.setTop (mkF m 60 #[.val (.int p0), .val (.int p1), .val (.int ((p0 &&& (2147483647 : Int32)) % (13 : Int32))), .val (.int (0 : Int32)), .val (.ref w_3), .val (.ref b101), .unset, .unset, .unset] [])) _
          refine XS.iconst X102.here hx rfl (hb hby at_60) ?_
          show Steps p.tables e below (T102.setTop (mkF m 61 #[.val (.int p0), .val (.int p1), .val (.int ((p0 &&& (2147483647 : Int32)) % (13 : Int32))), .val (.int (0 : Int32)), .val (.ref w_3), .val (.ref b101), .unset, .unset, .unset] [(.int (0 : Int32))])) _
          refine XS.istore X102.here hx rfl (hb hby at_61) rfl (l' := #[.val (.int p0), .val (.int p1), .val (.int ((p0 &&& (2147483647 : Int32)) % (13 : Int32))), .val (.int (0 : Int32)), .val (.ref w_3), .val (.ref b101), .val (.int (0 : Int32)), .unset, .unset]) rfl ?_
          show Steps p.tables e below (T102.setTop (mkF m 63 #[.val (.int p0), .val (.int p1), .val (.int ((p0 &&& (2147483647 : Int32)) % (13 : Int32))), .val (.int (0 : Int32)), .val (.ref w_3), .val (.ref b101), .val (.int (0 : Int32)), .unset, .unset] [])) _
          refine XS.aload X102.here hx rfl (hb hby at_63) rfl rfl ?_
          show Steps p.tables e below (T102.setTop (mkF m 65 #[.val (.int p0), .val (.int p1), .val (.int ((p0 &&& (2147483647 : Int32)) % (13 : Int32))), .val (.int (0 : Int32)), .val (.ref w_3), .val (.ref b101), .val (.int (0 : Int32)), .unset, .unset] [(.ref b101)])) _
          refine st103.trans ?_
          show Steps p.tables e below (T103.setTop (mkF m 68 #[.val (.int p0), .val (.int p1), .val (.int ((p0 &&& (2147483647 : Int32)) % (13 : Int32))), .val (.int (0 : Int32)), .val (.ref w_3), .val (.ref b101), .val (.int (0 : Int32)), .unset, .unset] [(.int (0 : Int32))])) _
          refine XS.istore X103.here hx rfl (hb hby at_68) rfl (l' := #[.val (.int p0), .val (.int p1), .val (.int ((p0 &&& (2147483647 : Int32)) % (13 : Int32))), .val (.int (0 : Int32)), .val (.ref w_3), .val (.ref b101), .val (.int (0 : Int32)), .val (.int (0 : Int32)), .unset]) rfl ?_
          show Steps p.tables e below (T103.setTop (mkF m 70 #[.val (.int p0), .val (.int p1), .val (.int ((p0 &&& (2147483647 : Int32)) % (13 : Int32))), .val (.int (0 : Int32)), .val (.ref w_3), .val (.ref b101), .val (.int (0 : Int32)), .val (.int (0 : Int32)), .unset] [])) _
          refine XS.aload X103.here hx rfl (hb hby at_70) rfl rfl ?_
          show Steps p.tables e below (T103.setTop (mkF m 72 #[.val (.int p0), .val (.int p1), .val (.int ((p0 &&& (2147483647 : Int32)) % (13 : Int32))), .val (.int (0 : Int32)), .val (.ref w_3), .val (.ref b101), .val (.int (0 : Int32)), .val (.int (0 : Int32)), .unset] [(.ref b101)])) _
          refine st105 _ ?_
          show Steps p.tables e below (T105.setTop (mkF m 75 #[.val (.int p0), .val (.int p1), .val (.int ((p0 &&& (2147483647 : Int32)) % (13 : Int32))), .val (.int (0 : Int32)), .val (.ref w_3), .val (.ref b101), .val (.int (0 : Int32)), .val (.int (0 : Int32)), .unset] [(.ref w_2), (.ref b101)])) _
          refine st106.trans ?_
          show Steps p.tables e below (T106.setTop (mkF m 78 #[.val (.int p0), .val (.int p1), .val (.int ((p0 &&& (2147483647 : Int32)) % (13 : Int32))), .val (.int (0 : Int32)), .val (.ref w_3), .val (.ref b101), .val (.int (0 : Int32)), .val (.int (0 : Int32)), .unset] [(.int (0 : Int32))])) _
          refine XS.istore X106.here hx rfl (hb hby at_78) rfl (l' := #[.val (.int p0), .val (.int p1), .val (.int ((p0 &&& (2147483647 : Int32)) % (13 : Int32))), .val (.int (0 : Int32)), .val (.ref w_3), .val (.ref b101), .val (.int (0 : Int32)), .val (.int (0 : Int32)), .val (.int (0 : Int32))]) rfl ?_
          show Steps p.tables e below (T106.setTop (mkF m 80 #[.val (.int p0), .val (.int p1), .val (.int ((p0 &&& (2147483647 : Int32)) % (13 : Int32))), .val (.int (0 : Int32)), .val (.ref w_3), .val (.ref b101), .val (.int (0 : Int32)), .val (.int (0 : Int32)), .val (.int (0 : Int32))] [])) _
          refine XS.iload X106.here hx rfl (hb hby at_80) rfl ?_
          show Steps p.tables e below (T106.setTop (mkF m 82 #[.val (.int p0), .val (.int p1), .val (.int ((p0 &&& (2147483647 : Int32)) % (13 : Int32))), .val (.int (0 : Int32)), .val (.ref w_3), .val (.ref b101), .val (.int (0 : Int32)), .val (.int (0 : Int32)), .val (.int (0 : Int32))] [(.int (0 : Int32))])) _
          refine XS.iload X106.here hx rfl (hb hby at_82) rfl ?_
          show Steps p.tables e below (T106.setTop (mkF m 84 #[.val (.int p0), .val (.int p1), .val (.int ((p0 &&& (2147483647 : Int32)) % (13 : Int32))), .val (.int (0 : Int32)), .val (.ref w_3), .val (.ref b101), .val (.int (0 : Int32)), .val (.int (0 : Int32)), .val (.int (0 : Int32))] [(.int (0 : Int32)), (.int (0 : Int32))])) _
          refine XS.icmpNo X106.here hx rfl (hb hby at_84) rfl (teq (by decide : ((0 : Int32) = (0 : Int32)))).2 ?_
          show Steps p.tables e below (T106.setTop (mkF m 87 #[.val (.int p0), .val (.int p1), .val (.int ((p0 &&& (2147483647 : Int32)) % (13 : Int32))), .val (.int (0 : Int32)), .val (.ref w_3), .val (.ref b101), .val (.int (0 : Int32)), .val (.int (0 : Int32)), .val (.int (0 : Int32))] [])) _
          refine XS.iload X106.here hx rfl (hb hby at_87) rfl ?_
          show Steps p.tables e below (T106.setTop (mkF m 89 #[.val (.int p0), .val (.int p1), .val (.int ((p0 &&& (2147483647 : Int32)) % (13 : Int32))), .val (.int (0 : Int32)), .val (.ref w_3), .val (.ref b101), .val (.int (0 : Int32)), .val (.int (0 : Int32)), .val (.int (0 : Int32))] [(.int (0 : Int32))])) _
          refine XS.iload X106.here hx rfl (hb hby at_89) rfl ?_
          show Steps p.tables e below (T106.setTop (mkF m 91 #[.val (.int p0), .val (.int p1), .val (.int ((p0 &&& (2147483647 : Int32)) % (13 : Int32))), .val (.int (0 : Int32)), .val (.ref w_3), .val (.ref b101), .val (.int (0 : Int32)), .val (.int (0 : Int32)), .val (.int (0 : Int32))] [(.int (0 : Int32)), (.int (0 : Int32))])) _
          refine XS.icmpNo X106.here hx rfl (hb hby at_91) rfl (teq (by decide : ((0 : Int32) = (0 : Int32)))).2 ?_
          show Steps p.tables e below (T106.setTop (mkF m 94 #[.val (.int p0), .val (.int p1), .val (.int ((p0 &&& (2147483647 : Int32)) % (13 : Int32))), .val (.int (0 : Int32)), .val (.ref w_3), .val (.ref b101), .val (.int (0 : Int32)), .val (.int (0 : Int32)), .val (.int (0 : Int32))] [])) _
          refine XS.iconst X106.here hx rfl (hb hby at_94) ?_
          show Steps p.tables e below (T106.setTop (mkF m 95 #[.val (.int p0), .val (.int p1), .val (.int ((p0 &&& (2147483647 : Int32)) % (13 : Int32))), .val (.int (0 : Int32)), .val (.ref w_3), .val (.ref b101), .val (.int (0 : Int32)), .val (.int (0 : Int32)), .val (.int (0 : Int32))] [(.int (1 : Int32))])) _
          refine XS.goto X106.here hx rfl (pc0 := 95) (pc' := 99) rfl (hb hby at_95) (by decide) (by decide) ?_
          show Steps p.tables e below (T106.setTop (mkF m 99 #[.val (.int p0), .val (.int p1), .val (.int ((p0 &&& (2147483647 : Int32)) % (13 : Int32))), .val (.int (0 : Int32)), .val (.ref w_3), .val (.ref b101), .val (.int (0 : Int32)), .val (.int (0 : Int32)), .val (.int (0 : Int32))] [(.int (1 : Int32))])) _
          exact retN X106 hx (t := .boolean) Bd.returns (by simp) (hb hby at_99) hr
        · show Q0 Z w_1 w_2 w_3 w_4 w_5 w_6 w_7 w_8 w_9 w_10 w_11 w_12 w_13 p0 p1 h0 n0 _ T106.heap _
          rw [e106]
          exact ⟨by unfold sp0; rw [if_pos hc30, if_neg hc68, if_pos hc99], N106, trivial⟩
      · by_cases hc107 : ((p0 &&& (2147483647 : Int32)) % (13 : Int32)) = (2 : Int32)
        · obtain ⟨_, _, ⟨T108, L108, k108, n108⟩, -, X108, ⟨Lc108, hQ108, l108, y108, z108⟩, st108⟩ := Jvm.LawKit.callS X0 hx (y := Y0) hown (mvT hZ (hw _ (tk 1 rfl))) (mvT hZ (hw _ (tk 2 rfl))) (mvT hZ (hw _ (tk 3 rfl))) (mvT hZ (hw _ (tk 4 rfl))) (by decide) (backOf (W := 0) (rm1 l Z a0 hw [] w_1 w_2 w_3 w_4 w_5 w_6 w_7 w_8 w_9 w_10 w_11 w_12 w_13 hS0 ((p0 &&& (2147483647 : Int32)) % (13 : Int32)) h0 n0 O0) hZ (hw _ (tk 4 rfl)) (hw _ (tk 3 rfl)) (by decide) (by decide)) (g := (mkF m 21 #[.val (.int p0), .val (.int p1), .val (.int ((p0 &&& (2147483647 : Int32)) % (13 : Int32))), .val (.int (0 : Int32)), .unset, .unset, .unset, .unset, .unset] [(.int ((p0 &&& (2147483647 : Int32)) % (13 : Int32)))])) rfl (by rw [hml]; rfl) (argsL := [(.int ((p0 &&& (2147483647 : Int32)) % (13 : Int32)))]) (rest := []) (lenOf pd_0 rfl) rfl (by show 2 * 0 + _ ≤ _; exact Nat.le_of_eq rfl) (hb hby at_21) (fun _ _ => ⟨rfl, e0, (by decide : 0 + 0 ≤ _), (by decide : 0 + 0 ≤ _)⟩)
          dsimp only [Pt.U, Pt.locs, Pt.cells, Pt.slots] at X108 l108 y108 z108 st108 hQ108
          subst l108 y108 z108
          obtain ⟨rv108, N108q, e108⟩ := hQ108
          rw [show sp1 w_1 w_3 w_4 w_5 w_6 w_7 w_8 w_9 w_10 w_11 w_12 w_13 ((p0 &&& (2147483647 : Int32)) % (13 : Int32)) = (.ref w_10) from by unfold sp1; rw [if_neg hc68, if_neg hc99, if_pos hc107]] at rv108
          subst rv108
          have N108 := Fr.app N0 N108q
          obtain ⟨T109, h109, X109, e109, E109, A109, D109, -, st109⟩ := newO X108 hx hZ hown (hw _ (tk 8 rfl)) (hw _ (tk 9 rfl)) (hw _ (tk 10 rfl)) e108 (g := (mkF m 26 #[.val (.int p0), .val (.int p1), .val (.int ((p0 &&& (2147483647 : Int32)) % (13 : Int32))), .val (.int (0 : Int32)), .val (.ref w_10), .unset, .unset, .unset, .unset] [])) rfl (hb hby at_26) (by decide) (by decide)
          obtain ⟨b109, g109⟩ : ∃ z, z = h0.size := ⟨_, rfl⟩
          rw [← g109] at A109 D109 st109
          have g_b109 : n0 ≤ b109 := Nat.le_trans (own_old O0) (Nat.le_of_eq g109.symm)
          have O109 : Old Z n0 h109 := O0.ext E109
          have F_integer_b109 : Fld Z h109 b109 "com/example/discharge/discharge/frontend/Syntax$Type" "integer" "Lcom/example/discharge/discharge/frontend/IntegerType;" .null := D109 (Or.inr (hw _ (tk 23 rfl))) (ty := (.object "com/example/discharge/discharge/frontend/IntegerType")) (by decide)
          have F_pointer_b109 : Fld Z h109 b109 "com/example/discharge/discharge/frontend/Syntax$Type" "pointer" "Z" (.int (0 : Int32)) := D109 (Or.inr (hw _ (tk 25 rfl))) (ty := .boolean) (by decide)
          obtain ⟨_, _, ⟨T110, L110, k110, n110⟩, -, X110, ⟨Lc110, hQ110, l110, y110, z110⟩, st110⟩ := X109.specialBack hx (y := Y2) rfl hown (mvT hZ (hw _ (tk 11 rfl))) (mvT hZ (hw _ (tk 12 rfl))) (mvT hZ (hw _ (tk 13 rfl))) (by decide) (backOf (W := 1) (rm2x1 l Z a0 hw [] w_1 w_2 w_3 w_4 w_5 w_6 w_7 w_8 w_9 w_10 w_11 w_12 w_13 hS0 b109 w_10 (0 : Int32) h109 n0 O109 g_b109 A109 F_integer_b109 F_pointer_b109) hZ (hw _ (tk 13 rfl)) (hw _ (tk 10 rfl)) (by decide) (by decide)) (g := (mkF m 33 #[.val (.int p0), .val (.int p1), .val (.int ((p0 &&& (2147483647 : Int32)) % (13 : Int32))), .val (.int (0 : Int32)), .val (.ref w_10), .unset, .unset, .unset, .unset] [(.int (0 : Int32)), (.ref w_10), (.ref b109), (.ref b109)])) rfl (by rw [hml]; rfl) (Steps.refl _) (a := b109) (argsL := [(.ref w_10), (.int (0 : Int32))]) (rest := [(.ref b109)]) (lenOf pd_2 rfl) rfl (by show 2 * 0 + _ ≤ _; exact Nat.le_of_eq rfl) (hb hby at_33) (fun _ _ => ⟨rfl, e109, (by decide : 1 + 0 ≤ _), (by decide : 2 + 0 ≤ _)⟩)
          dsimp only [Pt.U, Pt.locs, Pt.cells, Pt.slots] at X110 l110 y110 z110 st110 hQ110
          subst l110 y110 z110
          obtain ⟨rv110, N110q, O110, K110c, Fe110_0, Fe110_1⟩ := hQ110
          subst rv110
          have N110 := Fr.app N108 N110q
          have c112 := (A109.keep K110c)
          obtain ⟨cq111, kq111, q111a, q111b, q111c⟩ := isOf hZ rfl c112
          obtain ⟨_, _, ⟨T111, L111, k111, n111⟩, -, X111, ⟨Lc111, hQ111, l111, y111, z111⟩, st111⟩ := X110.virtualBack hx (y := Y3) (z := Y3) hown (mvT hZ (hw _ (tk 26 rfl))) (mvT hZ (hw _ (tk 27 rfl))) (notFace_of_selects (args := #[]) (mvT hZ (hw _ (tk 29 rfl)))) (mvT hZ (hw _ (tk 29 rfl))) (mvT hZ (hw _ (tk 28 rfl))) (by decide) (backOf (W := 0) (rm5 l Z a0 hw [] w_1 w_2 w_3 w_4 w_5 w_6 w_7 w_8 w_9 w_10 w_11 w_12 w_13 hS0 b109 (.ref w_10) (nar .boolean (0 : Int32)) T110.heap n0 O110 Fe110_0 rfl Fe110_1) hZ (hw _ (tk 30 rfl)) (hw _ (tk 10 rfl)) (by decide) (by decide)) q111a q111c (g := (mkF m 65 #[.val (.int p0), .val (.int p1), .val (.int ((p0 &&& (2147483647 : Int32)) % (13 : Int32))), .val (.int (0 : Int32)), .val (.ref w_10), .val (.ref b109), .val (.int (0 : Int32)), .unset, .unset] [(.ref b109)])) rfl (by rw [hml]; rfl) (Steps.refl _) (argsL := []) (rest := []) (lenOf pd_3 rfl) rfl (by show 2 * 0 + _ ≤ _; exact Nat.le_of_eq rfl) (hb hby at_65) (fun _ _ => ⟨rfl, rfl, (by decide : 1 + 0 ≤ _), (by decide : 2 + 0 ≤ _)⟩)
          dsimp only [Pt.U, Pt.locs, Pt.cells, Pt.slots] at X111 l111 y111 z111 st111 hQ111
          subst l111 y111 z111
          obtain ⟨rv111, N111q, e111⟩ := hQ111
          rw [show sp5 (.ref w_10) (nar .boolean (0 : Int32)) = (0 : Int32) from by unfold sp5; rw [if_neg (nofun : ¬ ((.ref w_10) : Value) = .null)]] at rv111
          subst rv111
          have N111 := Fr.app N110 N111q
          obtain ⟨T113, X113, e113, st113⟩ := getS2 X111 hx hZ hown (host := "") (Or.inl (hw _ (tk 31 rfl))) Via.refl e111 (S_2.ext O110.2) (g := (mkF m 72 #[.val (.int p0), .val (.int p1), .val (.int ((p0 &&& (2147483647 : Int32)) % (13 : Int32))), .val (.int (0 : Int32)), .val (.ref w_10), .val (.ref b109), .val (.int (0 : Int32)), .val (.int (0 : Int32)), .unset] [(.ref b109)])) rfl (hb hby at_72)
          obtain ⟨cq114, kq114, q114a, q114b, q114c⟩ := isOf hZ e113 c112
          obtain ⟨_, _, ⟨T114, L114, k114, n114⟩, -, X114, ⟨Lc114, hQ114, l114, y114, z114⟩, st114⟩ := X113.virtualBack hx (y := Y4) (z := Y4) hown (mvT hZ (hw _ (tk 33 rfl))) (mvT hZ (hw _ (tk 34 rfl))) (notFace_of_selects (args := #[]) (mvT hZ (hw _ (tk 36 rfl)))) (mvT hZ (hw _ (tk 36 rfl))) (mvT hZ (hw _ (tk 35 rfl))) (by decide) (backOf (W := 0) (rm6c1 l Z a0 hw [] w_1 w_2 w_3 w_4 w_5 w_6 w_7 w_8 w_9 w_10 w_11 w_12 w_13 hS0 b109 w_2 .null (.ref w_10) (0 : Int32) (nar .boolean (0 : Int32)) T110.heap n0 O110 (E_2.ext O110.2) (F_2_integer.ext O110.2) rfl Fe110_0 rfl (F_2_pointer.ext O110.2) Fe110_1) hZ (hw _ (tk 37 rfl)) (hw _ (tk 10 rfl)) (by decide) (by decide)) q114a q114c (g := (mkF m 75 #[.val (.int p0), .val (.int p1), .val (.int ((p0 &&& (2147483647 : Int32)) % (13 : Int32))), .val (.int (0 : Int32)), .val (.ref w_10), .val (.ref b109), .val (.int (0 : Int32)), .val (.int (0 : Int32)), .unset] [(.ref w_2), (.ref b109)])) rfl (by rw [hml]; rfl) (Steps.refl _) (argsL := [(.ref w_2)]) (rest := []) (lenOf pd_4 rfl) rfl (by show 2 * 0 + _ ≤ _; exact Nat.le_of_eq rfl) (hb hby at_75) (fun _ _ => ⟨rfl, e113, (by decide : 1 + 0 ≤ _), (by decide : 2 + 0 ≤ _)⟩)
          dsimp only [Pt.U, Pt.locs, Pt.cells, Pt.slots] at X114 l114 y114 z114 st114 hQ114
          subst l114 y114 z114
          obtain ⟨rv114, N114q, e114⟩ := hQ114
          rw [show sp6c1 .null (.ref w_10) (0 : Int32) (nar .boolean (0 : Int32)) = (0 : Int32) from by unfold sp6c1; rw [if_neg (nofun : ¬ (.null : Value) = (.ref w_10))]] at rv114
          subst rv114
          have N114 := Fr.app N111 N114q
          obtain ⟨fs, hr, hrun, hended, hW, hsame⟩ := X114.leave (v := some (.int (1 : Int32))) (fun h => by rw [Bd.returns] at h; cases h)
          refine ⟨_, _, pre67 _ ?_, hrun, hended, _, _, rfl, ?_, ⟨_, rfl⟩, hW, hsame.mono (by decide) (by decide)⟩
          · show Steps p.tables e below (s₁.setTop (mkF m 21 #[.val (.int p0), .val (.int p1), .val (.int ((p0 &&& (2147483647 : Int32)) % (13 : Int32))), .val (.int (0 : Int32)), .unset, .unset, .unset, .unset, .unset] [(.int ((p0 &&& (2147483647 : Int32)) % (13 : Int32)))])) _
            refine st108 _ ?_
            show Steps p.tables e below (T108.setTop (mkF m 24 #[.val (.int p0), .val (.int p1), .val (.int ((p0 &&& (2147483647 : Int32)) % (13 : Int32))), .val (.int (0 : Int32)), .unset, .unset, .unset, .unset, .unset] [(.ref w_10)])) _
            refine XS.astore X108.here hx rfl (hb hby at_24) rfl rfl (l' := #[.val (.int p0), .val (.int p1), .val (.int ((p0 &&& (2147483647 : Int32)) % (13 : Int32))), .val (.int (0 : Int32)), .val (.ref w_10), .unset, .unset, .unset, .unset]) rfl ?_
            show Steps p.tables e below (T108.setTop (mkF m 26 #[.val (.int p0), .val (.int p1), .val (.int ((p0 &&& (2147483647 : Int32)) % (13 : Int32))), .val (.int (0 : Int32)), .val (.ref w_10), .unset, .unset, .unset, .unset] [])) _
            refine st109 _ ?_
            show Steps p.tables e below (T109.setTop (mkF m 29 #[.val (.int p0), .val (.int p1), .val (.int ((p0 &&& (2147483647 : Int32)) % (13 : Int32))), .val (.int (0 : Int32)), .val (.ref w_10), .unset, .unset, .unset, .unset] [(.ref b109)])) _
            refine XS.dup X109.here hx rfl (hb hby at_29) rfl rfl ?_
            show Steps p.tables e below (T109.setTop (mkF m 30 #[.val (.int p0), .val (.int p1), .val (.int ((p0 &&& (2147483647 : Int32)) % (13 : Int32))), .val (.int (0 : Int32)), .val (.ref w_10), .unset, .unset, .unset, .unset] [(.ref b109), (.ref b109)])) _
            refine XS.aload X109.here hx rfl (hb hby at_30) rfl rfl ?_
            show Steps p.tables e below (T109.setTop (mkF m 32 #[.val (.int p0), .val (.int p1), .val (.int ((p0 &&& (2147483647 : Int32)) % (13 : Int32))), .val (.int (0 : Int32)), .val (.ref w_10), .unset, .unset, .unset, .unset] [(.ref w_10), (.ref b109), (.ref b109)])) _
            refine XS.iloadN X109.here hx rfl (hb hby at_32) rfl ?_
            show Steps p.tables e below (T109.setTop (mkF m 33 #[.val (.int p0), .val (.int p1), .val (.int ((p0 &&& (2147483647 : Int32)) % (13 : Int32))), .val (.int (0 : Int32)), .val (.ref w_10), .unset, .unset, .unset, .unset] [(.int (0 : Int32)), (.ref w_10), (.ref b109), (.ref b109)])) _
            refine st110.trans ?_
            show Steps p.tables e below (T110.setTop (mkF m 36 #[.val (.int p0), .val (.int p1), .val (.int ((p0 &&& (2147483647 : Int32)) % (13 : Int32))), .val (.int (0 : Int32)), .val (.ref w_10), .unset, .unset, .unset, .unset] [(.ref b109)])) _
            refine XS.astore X110.here hx rfl (hb hby at_36) rfl rfl (l' := #[.val (.int p0), .val (.int p1), .val (.int ((p0 &&& (2147483647 : Int32)) % (13 : Int32))), .val (.int (0 : Int32)), .val (.ref w_10), .val (.ref b109), .unset, .unset, .unset]) rfl ?_
            show Steps p.tables e below (T110.setTop (mkF m 38 #[.val (.int p0), .val (.int p1), .val (.int ((p0 &&& (2147483647 : Int32)) % (13 : Int32))), .val (.int (0 : Int32)), .val (.ref w_10), .val (.ref b109), .unset, .unset, .unset] [])) _
            refine XS.iloadN X110.here hx rfl (hb hby at_38) rfl ?_
            show Steps p.tables e below (T110.setTop (mkF m 39 #[.val (.int p0), .val (.int p1), .val (.int ((p0 &&& (2147483647 : Int32)) % (13 : Int32))), .val (.int (0 : Int32)), .val (.ref w_10), .val (.ref b109), .unset, .unset, .unset] [(.int (0 : Int32))])) _
            refine XS.ifYes X110.here hx rfl (pc0 := 39) (pc' := 48) rfl (hb hby at_39) rfl ((if0 _ _).trans (teq (by decide : ((0 : Int32) = (0 : Int32)))).1) (by decide) (by decide) ?_
            show Steps p.tables e below (T110.setTop (mkF m 48 #[.val (.int p0), .val (.int p1), .val (.int ((p0 &&& (2147483647 : Int32)) % (13 : Int32))), .val (.int (0 : Int32)), .val (.ref w_10), .val (.ref b109), .unset, .unset, .unset] [])) _
            refine XS.iloadN X110.here hx rfl (hb hby at_48) rfl ?_
            show Steps p.tables e below (T110.setTop (mkF m 49 #[.val (.int p0), .val (.int p1), .val (.int ((p0 &&& (2147483647 : Int32)) % (13 : Int32))), .val (.int (0 : Int32)), .val (.ref w_10), .val (.ref b109), .unset, .unset, .unset] [(.int ((p0 &&& (2147483647 : Int32)) % (13 : Int32)))])) _
            refine XS.bipush X110.here hx rfl (hb hby at_49) ?_
            show Steps p.tables e below (T110.setTop (mkF m 51 #[.val (.int p0), .val (.int p1), .val (.int ((p0 &&& (2147483647 : Int32)) % (13 : Int32))), .val (.int (0 : Int32)), .val (.ref w_10), .val (.ref b109), .unset, .unset, .unset] [(.int (12 : Int32)), (.int ((p0 &&& (2147483647 : Int32)) % (13 : Int32)))])) _
            refine XS.icmpYes X110.here hx rfl (pc0 := 51) (pc' := 60) rfl (hb hby at_51) rfl (feq (by rw [hc107] <;> decide : ¬ (((p0 &&& (2147483647 : Int32)) % (13 : Int32)) = (12 : Int32)))).2 (by decide) (by decide) ?_
            show Steps p.tables e below (T110.setTop (mkF m 60 #[.val (.int p0), .val (.int p1), .val (.int ((p0 &&& (2147483647 : Int32)) % (13 : Int32))), .val (.int (0 : Int32)), .val (.ref w_10), .val (.ref b109), .unset, .unset, .unset] [])) _
            refine XS.iconst X110.here hx rfl (hb hby at_60) ?_
            show Steps p.tables e below (T110.setTop (mkF m 61 #[.val (.int p0), .val (.int p1), .val (.int ((p0 &&& (2147483647 : Int32)) % (13 : Int32))), .val (.int (0 : Int32)), .val (.ref w_10), .val (.ref b109), .unset, .unset, .unset] [(.int (0 : Int32))])) _
            refine XS.istore X110.here hx rfl (hb hby at_61) rfl (l' := #[.val (.int p0), .val (.int p1), .val (.int ((p0 &&& (2147483647 : Int32)) % (13 : Int32))), .val (.int (0 : Int32)), .val (.ref w_10), .val (.ref b109), .val (.int (0 : Int32)), .unset, .unset]) rfl ?_
            show Steps p.tables e below (T110.setTop (mkF m 63 #[.val (.int p0), .val (.int p1), .val (.int ((p0 &&& (2147483647 : Int32)) % (13 : Int32))), .val (.int (0 : Int32)), .val (.ref w_10), .val (.ref b109), .val (.int (0 : Int32)), .unset, .unset] [])) _
            refine XS.aload X110.here hx rfl (hb hby at_63) rfl rfl ?_
            show Steps p.tables e below (T110.setTop (mkF m 65 #[.val (.int p0), .val (.int p1), .val (.int ((p0 &&& (2147483647 : Int32)) % (13 : Int32))), .val (.int (0 : Int32)), .val (.ref w_10), .val (.ref b109), .val (.int (0 : Int32)), .unset, .unset] [(.ref b109)])) _
            refine st111.trans ?_
            show Steps p.tables e below (T111.setTop (mkF m 68 #[.val (.int p0), .val (.int p1), .val (.int ((p0 &&& (2147483647 : Int32)) % (13 : Int32))), .val (.int (0 : Int32)), .val (.ref w_10), .val (.ref b109), .val (.int (0 : Int32)), .unset, .unset] [(.int (0 : Int32))])) _
            refine XS.istore X111.here hx rfl (hb hby at_68) rfl (l' := #[.val (.int p0), .val (.int p1), .val (.int ((p0 &&& (2147483647 : Int32)) % (13 : Int32))), .val (.int (0 : Int32)), .val (.ref w_10), .val (.ref b109), .val (.int (0 : Int32)), .val (.int (0 : Int32)), .unset]) rfl ?_
            show Steps p.tables e below (T111.setTop (mkF m 70 #[.val (.int p0), .val (.int p1), .val (.int ((p0 &&& (2147483647 : Int32)) % (13 : Int32))), .val (.int (0 : Int32)), .val (.ref w_10), .val (.ref b109), .val (.int (0 : Int32)), .val (.int (0 : Int32)), .unset] [])) _
            refine XS.aload X111.here hx rfl (hb hby at_70) rfl rfl ?_
            show Steps p.tables e below (T111.setTop (mkF m 72 #[.val (.int p0), .val (.int p1), .val (.int ((p0 &&& (2147483647 : Int32)) % (13 : Int32))), .val (.int (0 : Int32)), .val (.ref w_10), .val (.ref b109), .val (.int (0 : Int32)), .val (.int (0 : Int32)), .unset] [(.ref b109)])) _
            refine st113 _ ?_
            show Steps p.tables e below (T113.setTop (mkF m 75 #[.val (.int p0), .val (.int p1), .val (.int ((p0 &&& (2147483647 : Int32)) % (13 : Int32))), .val (.int (0 : Int32)), .val (.ref w_10), .val (.ref b109), .val (.int (0 : Int32)), .val (.int (0 : Int32)), .unset] [(.ref w_2), (.ref b109)])) _
            refine st114.trans ?_
            show Steps p.tables e below (T114.setTop (mkF m 78 #[.val (.int p0), .val (.int p1), .val (.int ((p0 &&& (2147483647 : Int32)) % (13 : Int32))), .val (.int (0 : Int32)), .val (.ref w_10), .val (.ref b109), .val (.int (0 : Int32)), .val (.int (0 : Int32)), .unset] [(.int (0 : Int32))])) _
            refine XS.istore X114.here hx rfl (hb hby at_78) rfl (l' := #[.val (.int p0), .val (.int p1), .val (.int ((p0 &&& (2147483647 : Int32)) % (13 : Int32))), .val (.int (0 : Int32)), .val (.ref w_10), .val (.ref b109), .val (.int (0 : Int32)), .val (.int (0 : Int32)), .val (.int (0 : Int32))]) rfl ?_
            show Steps p.tables e below (T114.setTop (mkF m 80 #[.val (.int p0), .val (.int p1), .val (.int ((p0 &&& (2147483647 : Int32)) % (13 : Int32))), .val (.int (0 : Int32)), .val (.ref w_10), .val (.ref b109), .val (.int (0 : Int32)), .val (.int (0 : Int32)), .val (.int (0 : Int32))] [])) _
            refine XS.iload X114.here hx rfl (hb hby at_80) rfl ?_
            show Steps p.tables e below (T114.setTop (mkF m 82 #[.val (.int p0), .val (.int p1), .val (.int ((p0 &&& (2147483647 : Int32)) % (13 : Int32))), .val (.int (0 : Int32)), .val (.ref w_10), .val (.ref b109), .val (.int (0 : Int32)), .val (.int (0 : Int32)), .val (.int (0 : Int32))] [(.int (0 : Int32))])) _
            refine XS.iload X114.here hx rfl (hb hby at_82) rfl ?_
            show Steps p.tables e below (T114.setTop (mkF m 84 #[.val (.int p0), .val (.int p1), .val (.int ((p0 &&& (2147483647 : Int32)) % (13 : Int32))), .val (.int (0 : Int32)), .val (.ref w_10), .val (.ref b109), .val (.int (0 : Int32)), .val (.int (0 : Int32)), .val (.int (0 : Int32))] [(.int (0 : Int32)), (.int (0 : Int32))])) _
            refine XS.icmpNo X114.here hx rfl (hb hby at_84) rfl (teq (by decide : ((0 : Int32) = (0 : Int32)))).2 ?_
            show Steps p.tables e below (T114.setTop (mkF m 87 #[.val (.int p0), .val (.int p1), .val (.int ((p0 &&& (2147483647 : Int32)) % (13 : Int32))), .val (.int (0 : Int32)), .val (.ref w_10), .val (.ref b109), .val (.int (0 : Int32)), .val (.int (0 : Int32)), .val (.int (0 : Int32))] [])) _
            refine XS.iload X114.here hx rfl (hb hby at_87) rfl ?_
            show Steps p.tables e below (T114.setTop (mkF m 89 #[.val (.int p0), .val (.int p1), .val (.int ((p0 &&& (2147483647 : Int32)) % (13 : Int32))), .val (.int (0 : Int32)), .val (.ref w_10), .val (.ref b109), .val (.int (0 : Int32)), .val (.int (0 : Int32)), .val (.int (0 : Int32))] [(.int (0 : Int32))])) _
            refine XS.iload X114.here hx rfl (hb hby at_89) rfl ?_
            show Steps p.tables e below (T114.setTop (mkF m 91 #[.val (.int p0), .val (.int p1), .val (.int ((p0 &&& (2147483647 : Int32)) % (13 : Int32))), .val (.int (0 : Int32)), .val (.ref w_10), .val (.ref b109), .val (.int (0 : Int32)), .val (.int (0 : Int32)), .val (.int (0 : Int32))] [(.int (0 : Int32)), (.int (0 : Int32))])) _
            refine XS.icmpNo X114.here hx rfl (hb hby at_91) rfl (teq (by decide : ((0 : Int32) = (0 : Int32)))).2 ?_
            show Steps p.tables e below (T114.setTop (mkF m 94 #[.val (.int p0), .val (.int p1), .val (.int ((p0 &&& (2147483647 : Int32)) % (13 : Int32))), .val (.int (0 : Int32)), .val (.ref w_10), .val (.ref b109), .val (.int (0 : Int32)), .val (.int (0 : Int32)), .val (.int (0 : Int32))] [])) _
            refine XS.iconst X114.here hx rfl (hb hby at_94) ?_
            show Steps p.tables e below (T114.setTop (mkF m 95 #[.val (.int p0), .val (.int p1), .val (.int ((p0 &&& (2147483647 : Int32)) % (13 : Int32))), .val (.int (0 : Int32)), .val (.ref w_10), .val (.ref b109), .val (.int (0 : Int32)), .val (.int (0 : Int32)), .val (.int (0 : Int32))] [(.int (1 : Int32))])) _
            refine XS.goto X114.here hx rfl (pc0 := 95) (pc' := 99) rfl (hb hby at_95) (by decide) (by decide) ?_
            show Steps p.tables e below (T114.setTop (mkF m 99 #[.val (.int p0), .val (.int p1), .val (.int ((p0 &&& (2147483647 : Int32)) % (13 : Int32))), .val (.int (0 : Int32)), .val (.ref w_10), .val (.ref b109), .val (.int (0 : Int32)), .val (.int (0 : Int32)), .val (.int (0 : Int32))] [(.int (1 : Int32))])) _
            exact retN X114 hx (t := .boolean) Bd.returns (by simp) (hb hby at_99) hr
          · show Q0 Z w_1 w_2 w_3 w_4 w_5 w_6 w_7 w_8 w_9 w_10 w_11 w_12 w_13 p0 p1 h0 n0 _ T114.heap _
            rw [e114]
            exact ⟨by unfold sp0; rw [if_pos hc30, if_neg hc68, if_neg hc99, if_pos hc107], N114, trivial⟩
        · by_cases hc115 : ((p0 &&& (2147483647 : Int32)) % (13 : Int32)) = (3 : Int32)
          · obtain ⟨_, _, ⟨T116, L116, k116, n116⟩, -, X116, ⟨Lc116, hQ116, l116, y116, z116⟩, st116⟩ := Jvm.LawKit.callS X0 hx (y := Y0) hown (mvT hZ (hw _ (tk 1 rfl))) (mvT hZ (hw _ (tk 2 rfl))) (mvT hZ (hw _ (tk 3 rfl))) (mvT hZ (hw _ (tk 4 rfl))) (by decide) (backOf (W := 0) (rm1 l Z a0 hw [] w_1 w_2 w_3 w_4 w_5 w_6 w_7 w_8 w_9 w_10 w_11 w_12 w_13 hS0 ((p0 &&& (2147483647 : Int32)) % (13 : Int32)) h0 n0 O0) hZ (hw _ (tk 4 rfl)) (hw _ (tk 3 rfl)) (by decide) (by decide)) (g := (mkF m 21 #[.val (.int p0), .val (.int p1), .val (.int ((p0 &&& (2147483647 : Int32)) % (13 : Int32))), .val (.int (0 : Int32)), .unset, .unset, .unset, .unset, .unset] [(.int ((p0 &&& (2147483647 : Int32)) % (13 : Int32)))])) rfl (by rw [hml]; rfl) (argsL := [(.int ((p0 &&& (2147483647 : Int32)) % (13 : Int32)))]) (rest := []) (lenOf pd_0 rfl) rfl (by show 2 * 0 + _ ≤ _; exact Nat.le_of_eq rfl) (hb hby at_21) (fun _ _ => ⟨rfl, e0, (by decide : 0 + 0 ≤ _), (by decide : 0 + 0 ≤ _)⟩)
            dsimp only [Pt.U, Pt.locs, Pt.cells, Pt.slots] at X116 l116 y116 z116 st116 hQ116
            subst l116 y116 z116
            obtain ⟨rv116, N116q, e116⟩ := hQ116
            rw [show sp1 w_1 w_3 w_4 w_5 w_6 w_7 w_8 w_9 w_10 w_11 w_12 w_13 ((p0 &&& (2147483647 : Int32)) % (13 : Int32)) = (.ref w_5) from by unfold sp1; rw [if_neg hc68, if_neg hc99, if_neg hc107, if_pos hc115]] at rv116
            subst rv116
            have N116 := Fr.app N0 N116q
            obtain ⟨T117, h117, X117, e117, E117, A117, D117, -, st117⟩ := newO X116 hx hZ hown (hw _ (tk 8 rfl)) (hw _ (tk 9 rfl)) (hw _ (tk 10 rfl)) e116 (g := (mkF m 26 #[.val (.int p0), .val (.int p1), .val (.int ((p0 &&& (2147483647 : Int32)) % (13 : Int32))), .val (.int (0 : Int32)), .val (.ref w_5), .unset, .unset, .unset, .unset] [])) rfl (hb hby at_26) (by decide) (by decide)
            obtain ⟨b117, g117⟩ : ∃ z, z = h0.size := ⟨_, rfl⟩
            rw [← g117] at A117 D117 st117
            have g_b117 : n0 ≤ b117 := Nat.le_trans (own_old O0) (Nat.le_of_eq g117.symm)
            have O117 : Old Z n0 h117 := O0.ext E117
            have F_integer_b117 : Fld Z h117 b117 "com/example/discharge/discharge/frontend/Syntax$Type" "integer" "Lcom/example/discharge/discharge/frontend/IntegerType;" .null := D117 (Or.inr (hw _ (tk 23 rfl))) (ty := (.object "com/example/discharge/discharge/frontend/IntegerType")) (by decide)
            have F_pointer_b117 : Fld Z h117 b117 "com/example/discharge/discharge/frontend/Syntax$Type" "pointer" "Z" (.int (0 : Int32)) := D117 (Or.inr (hw _ (tk 25 rfl))) (ty := .boolean) (by decide)
            obtain ⟨_, _, ⟨T118, L118, k118, n118⟩, -, X118, ⟨Lc118, hQ118, l118, y118, z118⟩, st118⟩ := X117.specialBack hx (y := Y2) rfl hown (mvT hZ (hw _ (tk 11 rfl))) (mvT hZ (hw _ (tk 12 rfl))) (mvT hZ (hw _ (tk 13 rfl))) (by decide) (backOf (W := 1) (rm2x1 l Z a0 hw [] w_1 w_2 w_3 w_4 w_5 w_6 w_7 w_8 w_9 w_10 w_11 w_12 w_13 hS0 b117 w_5 (0 : Int32) h117 n0 O117 g_b117 A117 F_integer_b117 F_pointer_b117) hZ (hw _ (tk 13 rfl)) (hw _ (tk 10 rfl)) (by decide) (by decide)) (g := (mkF m 33 #[.val (.int p0), .val (.int p1), .val (.int ((p0 &&& (2147483647 : Int32)) % (13 : Int32))), .val (.int (0 : Int32)), .val (.ref w_5), .unset, .unset, .unset, .unset] [(.int (0 : Int32)), (.ref w_5), (.ref b117), (.ref b117)])) rfl (by rw [hml]; rfl) (Steps.refl _) (a := b117) (argsL := [(.ref w_5), (.int (0 : Int32))]) (rest := [(.ref b117)]) (lenOf pd_2 rfl) rfl (by show 2 * 0 + _ ≤ _; exact Nat.le_of_eq rfl) (hb hby at_33) (fun _ _ => ⟨rfl, e117, (by decide : 1 + 0 ≤ _), (by decide : 2 + 0 ≤ _)⟩)
            dsimp only [Pt.U, Pt.locs, Pt.cells, Pt.slots] at X118 l118 y118 z118 st118 hQ118
            subst l118 y118 z118
            obtain ⟨rv118, N118q, O118, K118c, Fe118_0, Fe118_1⟩ := hQ118
            subst rv118
            have N118 := Fr.app N116 N118q
            have c120 := (A117.keep K118c)
            obtain ⟨cq119, kq119, q119a, q119b, q119c⟩ := isOf hZ rfl c120
            obtain ⟨_, _, ⟨T119, L119, k119, n119⟩, -, X119, ⟨Lc119, hQ119, l119, y119, z119⟩, st119⟩ := X118.virtualBack hx (y := Y3) (z := Y3) hown (mvT hZ (hw _ (tk 26 rfl))) (mvT hZ (hw _ (tk 27 rfl))) (notFace_of_selects (args := #[]) (mvT hZ (hw _ (tk 29 rfl)))) (mvT hZ (hw _ (tk 29 rfl))) (mvT hZ (hw _ (tk 28 rfl))) (by decide) (backOf (W := 0) (rm5 l Z a0 hw [] w_1 w_2 w_3 w_4 w_5 w_6 w_7 w_8 w_9 w_10 w_11 w_12 w_13 hS0 b117 (.ref w_5) (nar .boolean (0 : Int32)) T118.heap n0 O118 Fe118_0 rfl Fe118_1) hZ (hw _ (tk 30 rfl)) (hw _ (tk 10 rfl)) (by decide) (by decide)) q119a q119c (g := (mkF m 65 #[.val (.int p0), .val (.int p1), .val (.int ((p0 &&& (2147483647 : Int32)) % (13 : Int32))), .val (.int (0 : Int32)), .val (.ref w_5), .val (.ref b117), .val (.int (0 : Int32)), .unset, .unset] [(.ref b117)])) rfl (by rw [hml]; rfl) (Steps.refl _) (argsL := []) (rest := []) (lenOf pd_3 rfl) rfl (by show 2 * 0 + _ ≤ _; exact Nat.le_of_eq rfl) (hb hby at_65) (fun _ _ => ⟨rfl, rfl, (by decide : 1 + 0 ≤ _), (by decide : 2 + 0 ≤ _)⟩)
            dsimp only [Pt.U, Pt.locs, Pt.cells, Pt.slots] at X119 l119 y119 z119 st119 hQ119
            subst l119 y119 z119
            obtain ⟨rv119, N119q, e119⟩ := hQ119
            rw [show sp5 (.ref w_5) (nar .boolean (0 : Int32)) = (0 : Int32) from by unfold sp5; rw [if_neg (nofun : ¬ ((.ref w_5) : Value) = .null)]] at rv119
            subst rv119
            have N119 := Fr.app N118 N119q
            obtain ⟨T121, X121, e121, st121⟩ := getS2 X119 hx hZ hown (host := "") (Or.inl (hw _ (tk 31 rfl))) Via.refl e119 (S_2.ext O118.2) (g := (mkF m 72 #[.val (.int p0), .val (.int p1), .val (.int ((p0 &&& (2147483647 : Int32)) % (13 : Int32))), .val (.int (0 : Int32)), .val (.ref w_5), .val (.ref b117), .val (.int (0 : Int32)), .val (.int (0 : Int32)), .unset] [(.ref b117)])) rfl (hb hby at_72)
            obtain ⟨cq122, kq122, q122a, q122b, q122c⟩ := isOf hZ e121 c120
            obtain ⟨_, _, ⟨T122, L122, k122, n122⟩, -, X122, ⟨Lc122, hQ122, l122, y122, z122⟩, st122⟩ := X121.virtualBack hx (y := Y4) (z := Y4) hown (mvT hZ (hw _ (tk 33 rfl))) (mvT hZ (hw _ (tk 34 rfl))) (notFace_of_selects (args := #[]) (mvT hZ (hw _ (tk 36 rfl)))) (mvT hZ (hw _ (tk 36 rfl))) (mvT hZ (hw _ (tk 35 rfl))) (by decide) (backOf (W := 0) (rm6c1 l Z a0 hw [] w_1 w_2 w_3 w_4 w_5 w_6 w_7 w_8 w_9 w_10 w_11 w_12 w_13 hS0 b117 w_2 .null (.ref w_5) (0 : Int32) (nar .boolean (0 : Int32)) T118.heap n0 O118 (E_2.ext O118.2) (F_2_integer.ext O118.2) rfl Fe118_0 rfl (F_2_pointer.ext O118.2) Fe118_1) hZ (hw _ (tk 37 rfl)) (hw _ (tk 10 rfl)) (by decide) (by decide)) q122a q122c (g := (mkF m 75 #[.val (.int p0), .val (.int p1), .val (.int ((p0 &&& (2147483647 : Int32)) % (13 : Int32))), .val (.int (0 : Int32)), .val (.ref w_5), .val (.ref b117), .val (.int (0 : Int32)), .val (.int (0 : Int32)), .unset] [(.ref w_2), (.ref b117)])) rfl (by rw [hml]; rfl) (Steps.refl _) (argsL := [(.ref w_2)]) (rest := []) (lenOf pd_4 rfl) rfl (by show 2 * 0 + _ ≤ _; exact Nat.le_of_eq rfl) (hb hby at_75) (fun _ _ => ⟨rfl, e121, (by decide : 1 + 0 ≤ _), (by decide : 2 + 0 ≤ _)⟩)
            dsimp only [Pt.U, Pt.locs, Pt.cells, Pt.slots] at X122 l122 y122 z122 st122 hQ122
            subst l122 y122 z122
            obtain ⟨rv122, N122q, e122⟩ := hQ122
            rw [show sp6c1 .null (.ref w_5) (0 : Int32) (nar .boolean (0 : Int32)) = (0 : Int32) from by unfold sp6c1; rw [if_neg (nofun : ¬ (.null : Value) = (.ref w_5))]] at rv122
            subst rv122
            have N122 := Fr.app N119 N122q
            obtain ⟨fs, hr, hrun, hended, hW, hsame⟩ := X122.leave (v := some (.int (1 : Int32))) (fun h => by rw [Bd.returns] at h; cases h)
            refine ⟨_, _, pre67 _ ?_, hrun, hended, _, _, rfl, ?_, ⟨_, rfl⟩, hW, hsame.mono (by decide) (by decide)⟩
            · show Steps p.tables e below (s₁.setTop (mkF m 21 #[.val (.int p0), .val (.int p1), .val (.int ((p0 &&& (2147483647 : Int32)) % (13 : Int32))), .val (.int (0 : Int32)), .unset, .unset, .unset, .unset, .unset] [(.int ((p0 &&& (2147483647 : Int32)) % (13 : Int32)))])) _
              refine st116 _ ?_
              show Steps p.tables e below (T116.setTop (mkF m 24 #[.val (.int p0), .val (.int p1), .val (.int ((p0 &&& (2147483647 : Int32)) % (13 : Int32))), .val (.int (0 : Int32)), .unset, .unset, .unset, .unset, .unset] [(.ref w_5)])) _
              refine XS.astore X116.here hx rfl (hb hby at_24) rfl rfl (l' := #[.val (.int p0), .val (.int p1), .val (.int ((p0 &&& (2147483647 : Int32)) % (13 : Int32))), .val (.int (0 : Int32)), .val (.ref w_5), .unset, .unset, .unset, .unset]) rfl ?_
              show Steps p.tables e below (T116.setTop (mkF m 26 #[.val (.int p0), .val (.int p1), .val (.int ((p0 &&& (2147483647 : Int32)) % (13 : Int32))), .val (.int (0 : Int32)), .val (.ref w_5), .unset, .unset, .unset, .unset] [])) _
              refine st117 _ ?_
              show Steps p.tables e below (T117.setTop (mkF m 29 #[.val (.int p0), .val (.int p1), .val (.int ((p0 &&& (2147483647 : Int32)) % (13 : Int32))), .val (.int (0 : Int32)), .val (.ref w_5), .unset, .unset, .unset, .unset] [(.ref b117)])) _
              refine XS.dup X117.here hx rfl (hb hby at_29) rfl rfl ?_
              show Steps p.tables e below (T117.setTop (mkF m 30 #[.val (.int p0), .val (.int p1), .val (.int ((p0 &&& (2147483647 : Int32)) % (13 : Int32))), .val (.int (0 : Int32)), .val (.ref w_5), .unset, .unset, .unset, .unset] [(.ref b117), (.ref b117)])) _
              refine XS.aload X117.here hx rfl (hb hby at_30) rfl rfl ?_
              show Steps p.tables e below (T117.setTop (mkF m 32 #[.val (.int p0), .val (.int p1), .val (.int ((p0 &&& (2147483647 : Int32)) % (13 : Int32))), .val (.int (0 : Int32)), .val (.ref w_5), .unset, .unset, .unset, .unset] [(.ref w_5), (.ref b117), (.ref b117)])) _
              refine XS.iloadN X117.here hx rfl (hb hby at_32) rfl ?_
              show Steps p.tables e below (T117.setTop (mkF m 33 #[.val (.int p0), .val (.int p1), .val (.int ((p0 &&& (2147483647 : Int32)) % (13 : Int32))), .val (.int (0 : Int32)), .val (.ref w_5), .unset, .unset, .unset, .unset] [(.int (0 : Int32)), (.ref w_5), (.ref b117), (.ref b117)])) _
              refine st118.trans ?_
              show Steps p.tables e below (T118.setTop (mkF m 36 #[.val (.int p0), .val (.int p1), .val (.int ((p0 &&& (2147483647 : Int32)) % (13 : Int32))), .val (.int (0 : Int32)), .val (.ref w_5), .unset, .unset, .unset, .unset] [(.ref b117)])) _
              refine XS.astore X118.here hx rfl (hb hby at_36) rfl rfl (l' := #[.val (.int p0), .val (.int p1), .val (.int ((p0 &&& (2147483647 : Int32)) % (13 : Int32))), .val (.int (0 : Int32)), .val (.ref w_5), .val (.ref b117), .unset, .unset, .unset]) rfl ?_
              show Steps p.tables e below (T118.setTop (mkF m 38 #[.val (.int p0), .val (.int p1), .val (.int ((p0 &&& (2147483647 : Int32)) % (13 : Int32))), .val (.int (0 : Int32)), .val (.ref w_5), .val (.ref b117), .unset, .unset, .unset] [])) _
              refine XS.iloadN X118.here hx rfl (hb hby at_38) rfl ?_
              show Steps p.tables e below (T118.setTop (mkF m 39 #[.val (.int p0), .val (.int p1), .val (.int ((p0 &&& (2147483647 : Int32)) % (13 : Int32))), .val (.int (0 : Int32)), .val (.ref w_5), .val (.ref b117), .unset, .unset, .unset] [(.int (0 : Int32))])) _
              refine XS.ifYes X118.here hx rfl (pc0 := 39) (pc' := 48) rfl (hb hby at_39) rfl ((if0 _ _).trans (teq (by decide : ((0 : Int32) = (0 : Int32)))).1) (by decide) (by decide) ?_
              show Steps p.tables e below (T118.setTop (mkF m 48 #[.val (.int p0), .val (.int p1), .val (.int ((p0 &&& (2147483647 : Int32)) % (13 : Int32))), .val (.int (0 : Int32)), .val (.ref w_5), .val (.ref b117), .unset, .unset, .unset] [])) _
              refine XS.iloadN X118.here hx rfl (hb hby at_48) rfl ?_
              show Steps p.tables e below (T118.setTop (mkF m 49 #[.val (.int p0), .val (.int p1), .val (.int ((p0 &&& (2147483647 : Int32)) % (13 : Int32))), .val (.int (0 : Int32)), .val (.ref w_5), .val (.ref b117), .unset, .unset, .unset] [(.int ((p0 &&& (2147483647 : Int32)) % (13 : Int32)))])) _
              refine XS.bipush X118.here hx rfl (hb hby at_49) ?_
              show Steps p.tables e below (T118.setTop (mkF m 51 #[.val (.int p0), .val (.int p1), .val (.int ((p0 &&& (2147483647 : Int32)) % (13 : Int32))), .val (.int (0 : Int32)), .val (.ref w_5), .val (.ref b117), .unset, .unset, .unset] [(.int (12 : Int32)), (.int ((p0 &&& (2147483647 : Int32)) % (13 : Int32)))])) _
              refine XS.icmpYes X118.here hx rfl (pc0 := 51) (pc' := 60) rfl (hb hby at_51) rfl (feq (by rw [hc115] <;> decide : ¬ (((p0 &&& (2147483647 : Int32)) % (13 : Int32)) = (12 : Int32)))).2 (by decide) (by decide) ?_
              show Steps p.tables e below (T118.setTop (mkF m 60 #[.val (.int p0), .val (.int p1), .val (.int ((p0 &&& (2147483647 : Int32)) % (13 : Int32))), .val (.int (0 : Int32)), .val (.ref w_5), .val (.ref b117), .unset, .unset, .unset] [])) _
              refine XS.iconst X118.here hx rfl (hb hby at_60) ?_
              show Steps p.tables e below (T118.setTop (mkF m 61 #[.val (.int p0), .val (.int p1), .val (.int ((p0 &&& (2147483647 : Int32)) % (13 : Int32))), .val (.int (0 : Int32)), .val (.ref w_5), .val (.ref b117), .unset, .unset, .unset] [(.int (0 : Int32))])) _
              refine XS.istore X118.here hx rfl (hb hby at_61) rfl (l' := #[.val (.int p0), .val (.int p1), .val (.int ((p0 &&& (2147483647 : Int32)) % (13 : Int32))), .val (.int (0 : Int32)), .val (.ref w_5), .val (.ref b117), .val (.int (0 : Int32)), .unset, .unset]) rfl ?_
              show Steps p.tables e below (T118.setTop (mkF m 63 #[.val (.int p0), .val (.int p1), .val (.int ((p0 &&& (2147483647 : Int32)) % (13 : Int32))), .val (.int (0 : Int32)), .val (.ref w_5), .val (.ref b117), .val (.int (0 : Int32)), .unset, .unset] [])) _
              refine XS.aload X118.here hx rfl (hb hby at_63) rfl rfl ?_
              show Steps p.tables e below (T118.setTop (mkF m 65 #[.val (.int p0), .val (.int p1), .val (.int ((p0 &&& (2147483647 : Int32)) % (13 : Int32))), .val (.int (0 : Int32)), .val (.ref w_5), .val (.ref b117), .val (.int (0 : Int32)), .unset, .unset] [(.ref b117)])) _
              refine st119.trans ?_
              show Steps p.tables e below (T119.setTop (mkF m 68 #[.val (.int p0), .val (.int p1), .val (.int ((p0 &&& (2147483647 : Int32)) % (13 : Int32))), .val (.int (0 : Int32)), .val (.ref w_5), .val (.ref b117), .val (.int (0 : Int32)), .unset, .unset] [(.int (0 : Int32))])) _
              refine XS.istore X119.here hx rfl (hb hby at_68) rfl (l' := #[.val (.int p0), .val (.int p1), .val (.int ((p0 &&& (2147483647 : Int32)) % (13 : Int32))), .val (.int (0 : Int32)), .val (.ref w_5), .val (.ref b117), .val (.int (0 : Int32)), .val (.int (0 : Int32)), .unset]) rfl ?_
              show Steps p.tables e below (T119.setTop (mkF m 70 #[.val (.int p0), .val (.int p1), .val (.int ((p0 &&& (2147483647 : Int32)) % (13 : Int32))), .val (.int (0 : Int32)), .val (.ref w_5), .val (.ref b117), .val (.int (0 : Int32)), .val (.int (0 : Int32)), .unset] [])) _
              refine XS.aload X119.here hx rfl (hb hby at_70) rfl rfl ?_
              show Steps p.tables e below (T119.setTop (mkF m 72 #[.val (.int p0), .val (.int p1), .val (.int ((p0 &&& (2147483647 : Int32)) % (13 : Int32))), .val (.int (0 : Int32)), .val (.ref w_5), .val (.ref b117), .val (.int (0 : Int32)), .val (.int (0 : Int32)), .unset] [(.ref b117)])) _
              refine st121 _ ?_
              show Steps p.tables e below (T121.setTop (mkF m 75 #[.val (.int p0), .val (.int p1), .val (.int ((p0 &&& (2147483647 : Int32)) % (13 : Int32))), .val (.int (0 : Int32)), .val (.ref w_5), .val (.ref b117), .val (.int (0 : Int32)), .val (.int (0 : Int32)), .unset] [(.ref w_2), (.ref b117)])) _
              refine st122.trans ?_
              show Steps p.tables e below (T122.setTop (mkF m 78 #[.val (.int p0), .val (.int p1), .val (.int ((p0 &&& (2147483647 : Int32)) % (13 : Int32))), .val (.int (0 : Int32)), .val (.ref w_5), .val (.ref b117), .val (.int (0 : Int32)), .val (.int (0 : Int32)), .unset] [(.int (0 : Int32))])) _
              refine XS.istore X122.here hx rfl (hb hby at_78) rfl (l' := #[.val (.int p0), .val (.int p1), .val (.int ((p0 &&& (2147483647 : Int32)) % (13 : Int32))), .val (.int (0 : Int32)), .val (.ref w_5), .val (.ref b117), .val (.int (0 : Int32)), .val (.int (0 : Int32)), .val (.int (0 : Int32))]) rfl ?_
              show Steps p.tables e below (T122.setTop (mkF m 80 #[.val (.int p0), .val (.int p1), .val (.int ((p0 &&& (2147483647 : Int32)) % (13 : Int32))), .val (.int (0 : Int32)), .val (.ref w_5), .val (.ref b117), .val (.int (0 : Int32)), .val (.int (0 : Int32)), .val (.int (0 : Int32))] [])) _
              refine XS.iload X122.here hx rfl (hb hby at_80) rfl ?_
              show Steps p.tables e below (T122.setTop (mkF m 82 #[.val (.int p0), .val (.int p1), .val (.int ((p0 &&& (2147483647 : Int32)) % (13 : Int32))), .val (.int (0 : Int32)), .val (.ref w_5), .val (.ref b117), .val (.int (0 : Int32)), .val (.int (0 : Int32)), .val (.int (0 : Int32))] [(.int (0 : Int32))])) _
              refine XS.iload X122.here hx rfl (hb hby at_82) rfl ?_
              show Steps p.tables e below (T122.setTop (mkF m 84 #[.val (.int p0), .val (.int p1), .val (.int ((p0 &&& (2147483647 : Int32)) % (13 : Int32))), .val (.int (0 : Int32)), .val (.ref w_5), .val (.ref b117), .val (.int (0 : Int32)), .val (.int (0 : Int32)), .val (.int (0 : Int32))] [(.int (0 : Int32)), (.int (0 : Int32))])) _
              refine XS.icmpNo X122.here hx rfl (hb hby at_84) rfl (teq (by decide : ((0 : Int32) = (0 : Int32)))).2 ?_
              show Steps p.tables e below (T122.setTop (mkF m 87 #[.val (.int p0), .val (.int p1), .val (.int ((p0 &&& (2147483647 : Int32)) % (13 : Int32))), .val (.int (0 : Int32)), .val (.ref w_5), .val (.ref b117), .val (.int (0 : Int32)), .val (.int (0 : Int32)), .val (.int (0 : Int32))] [])) _
              refine XS.iload X122.here hx rfl (hb hby at_87) rfl ?_
              show Steps p.tables e below (T122.setTop (mkF m 89 #[.val (.int p0), .val (.int p1), .val (.int ((p0 &&& (2147483647 : Int32)) % (13 : Int32))), .val (.int (0 : Int32)), .val (.ref w_5), .val (.ref b117), .val (.int (0 : Int32)), .val (.int (0 : Int32)), .val (.int (0 : Int32))] [(.int (0 : Int32))])) _
              refine XS.iload X122.here hx rfl (hb hby at_89) rfl ?_
              show Steps p.tables e below (T122.setTop (mkF m 91 #[.val (.int p0), .val (.int p1), .val (.int ((p0 &&& (2147483647 : Int32)) % (13 : Int32))), .val (.int (0 : Int32)), .val (.ref w_5), .val (.ref b117), .val (.int (0 : Int32)), .val (.int (0 : Int32)), .val (.int (0 : Int32))] [(.int (0 : Int32)), (.int (0 : Int32))])) _
              refine XS.icmpNo X122.here hx rfl (hb hby at_91) rfl (teq (by decide : ((0 : Int32) = (0 : Int32)))).2 ?_
              show Steps p.tables e below (T122.setTop (mkF m 94 #[.val (.int p0), .val (.int p1), .val (.int ((p0 &&& (2147483647 : Int32)) % (13 : Int32))), .val (.int (0 : Int32)), .val (.ref w_5), .val (.ref b117), .val (.int (0 : Int32)), .val (.int (0 : Int32)), .val (.int (0 : Int32))] [])) _
              refine XS.iconst X122.here hx rfl (hb hby at_94) ?_
              show Steps p.tables e below (T122.setTop (mkF m 95 #[.val (.int p0), .val (.int p1), .val (.int ((p0 &&& (2147483647 : Int32)) % (13 : Int32))), .val (.int (0 : Int32)), .val (.ref w_5), .val (.ref b117), .val (.int (0 : Int32)), .val (.int (0 : Int32)), .val (.int (0 : Int32))] [(.int (1 : Int32))])) _
              refine XS.goto X122.here hx rfl (pc0 := 95) (pc' := 99) rfl (hb hby at_95) (by decide) (by decide) ?_
              show Steps p.tables e below (T122.setTop (mkF m 99 #[.val (.int p0), .val (.int p1), .val (.int ((p0 &&& (2147483647 : Int32)) % (13 : Int32))), .val (.int (0 : Int32)), .val (.ref w_5), .val (.ref b117), .val (.int (0 : Int32)), .val (.int (0 : Int32)), .val (.int (0 : Int32))] [(.int (1 : Int32))])) _
              exact retN X122 hx (t := .boolean) Bd.returns (by simp) (hb hby at_99) hr
            · show Q0 Z w_1 w_2 w_3 w_4 w_5 w_6 w_7 w_8 w_9 w_10 w_11 w_12 w_13 p0 p1 h0 n0 _ T122.heap _
              rw [e122]
              exact ⟨by unfold sp0; rw [if_pos hc30, if_neg hc68, if_neg hc99, if_neg hc107, if_pos hc115], N122, trivial⟩
          · by_cases hc123 : ((p0 &&& (2147483647 : Int32)) % (13 : Int32)) = (4 : Int32)
            · obtain ⟨_, _, ⟨T124, L124, k124, n124⟩, -, X124, ⟨Lc124, hQ124, l124, y124, z124⟩, st124⟩ := Jvm.LawKit.callS X0 hx (y := Y0) hown (mvT hZ (hw _ (tk 1 rfl))) (mvT hZ (hw _ (tk 2 rfl))) (mvT hZ (hw _ (tk 3 rfl))) (mvT hZ (hw _ (tk 4 rfl))) (by decide) (backOf (W := 0) (rm1 l Z a0 hw [] w_1 w_2 w_3 w_4 w_5 w_6 w_7 w_8 w_9 w_10 w_11 w_12 w_13 hS0 ((p0 &&& (2147483647 : Int32)) % (13 : Int32)) h0 n0 O0) hZ (hw _ (tk 4 rfl)) (hw _ (tk 3 rfl)) (by decide) (by decide)) (g := (mkF m 21 #[.val (.int p0), .val (.int p1), .val (.int ((p0 &&& (2147483647 : Int32)) % (13 : Int32))), .val (.int (0 : Int32)), .unset, .unset, .unset, .unset, .unset] [(.int ((p0 &&& (2147483647 : Int32)) % (13 : Int32)))])) rfl (by rw [hml]; rfl) (argsL := [(.int ((p0 &&& (2147483647 : Int32)) % (13 : Int32)))]) (rest := []) (lenOf pd_0 rfl) rfl (by show 2 * 0 + _ ≤ _; exact Nat.le_of_eq rfl) (hb hby at_21) (fun _ _ => ⟨rfl, e0, (by decide : 0 + 0 ≤ _), (by decide : 0 + 0 ≤ _)⟩)
              dsimp only [Pt.U, Pt.locs, Pt.cells, Pt.slots] at X124 l124 y124 z124 st124 hQ124
              subst l124 y124 z124
              obtain ⟨rv124, N124q, e124⟩ := hQ124
              rw [show sp1 w_1 w_3 w_4 w_5 w_6 w_7 w_8 w_9 w_10 w_11 w_12 w_13 ((p0 &&& (2147483647 : Int32)) % (13 : Int32)) = (.ref w_4) from by unfold sp1; rw [if_neg hc68, if_neg hc99, if_neg hc107, if_neg hc115, if_pos hc123]] at rv124
              subst rv124
              have N124 := Fr.app N0 N124q
              obtain ⟨T125, h125, X125, e125, E125, A125, D125, -, st125⟩ := newO X124 hx hZ hown (hw _ (tk 8 rfl)) (hw _ (tk 9 rfl)) (hw _ (tk 10 rfl)) e124 (g := (mkF m 26 #[.val (.int p0), .val (.int p1), .val (.int ((p0 &&& (2147483647 : Int32)) % (13 : Int32))), .val (.int (0 : Int32)), .val (.ref w_4), .unset, .unset, .unset, .unset] [])) rfl (hb hby at_26) (by decide) (by decide)
              obtain ⟨b125, g125⟩ : ∃ z, z = h0.size := ⟨_, rfl⟩
              rw [← g125] at A125 D125 st125
              have g_b125 : n0 ≤ b125 := Nat.le_trans (own_old O0) (Nat.le_of_eq g125.symm)
              have O125 : Old Z n0 h125 := O0.ext E125
              have F_integer_b125 : Fld Z h125 b125 "com/example/discharge/discharge/frontend/Syntax$Type" "integer" "Lcom/example/discharge/discharge/frontend/IntegerType;" .null := D125 (Or.inr (hw _ (tk 23 rfl))) (ty := (.object "com/example/discharge/discharge/frontend/IntegerType")) (by decide)
              have F_pointer_b125 : Fld Z h125 b125 "com/example/discharge/discharge/frontend/Syntax$Type" "pointer" "Z" (.int (0 : Int32)) := D125 (Or.inr (hw _ (tk 25 rfl))) (ty := .boolean) (by decide)
              obtain ⟨_, _, ⟨T126, L126, k126, n126⟩, -, X126, ⟨Lc126, hQ126, l126, y126, z126⟩, st126⟩ := X125.specialBack hx (y := Y2) rfl hown (mvT hZ (hw _ (tk 11 rfl))) (mvT hZ (hw _ (tk 12 rfl))) (mvT hZ (hw _ (tk 13 rfl))) (by decide) (backOf (W := 1) (rm2x1 l Z a0 hw [] w_1 w_2 w_3 w_4 w_5 w_6 w_7 w_8 w_9 w_10 w_11 w_12 w_13 hS0 b125 w_4 (0 : Int32) h125 n0 O125 g_b125 A125 F_integer_b125 F_pointer_b125) hZ (hw _ (tk 13 rfl)) (hw _ (tk 10 rfl)) (by decide) (by decide)) (g := (mkF m 33 #[.val (.int p0), .val (.int p1), .val (.int ((p0 &&& (2147483647 : Int32)) % (13 : Int32))), .val (.int (0 : Int32)), .val (.ref w_4), .unset, .unset, .unset, .unset] [(.int (0 : Int32)), (.ref w_4), (.ref b125), (.ref b125)])) rfl (by rw [hml]; rfl) (Steps.refl _) (a := b125) (argsL := [(.ref w_4), (.int (0 : Int32))]) (rest := [(.ref b125)]) (lenOf pd_2 rfl) rfl (by show 2 * 0 + _ ≤ _; exact Nat.le_of_eq rfl) (hb hby at_33) (fun _ _ => ⟨rfl, e125, (by decide : 1 + 0 ≤ _), (by decide : 2 + 0 ≤ _)⟩)
              dsimp only [Pt.U, Pt.locs, Pt.cells, Pt.slots] at X126 l126 y126 z126 st126 hQ126
              subst l126 y126 z126
              obtain ⟨rv126, N126q, O126, K126c, Fe126_0, Fe126_1⟩ := hQ126
              subst rv126
              have N126 := Fr.app N124 N126q
              have c128 := (A125.keep K126c)
              obtain ⟨cq127, kq127, q127a, q127b, q127c⟩ := isOf hZ rfl c128
              obtain ⟨_, _, ⟨T127, L127, k127, n127⟩, -, X127, ⟨Lc127, hQ127, l127, y127, z127⟩, st127⟩ := X126.virtualBack hx (y := Y3) (z := Y3) hown (mvT hZ (hw _ (tk 26 rfl))) (mvT hZ (hw _ (tk 27 rfl))) (notFace_of_selects (args := #[]) (mvT hZ (hw _ (tk 29 rfl)))) (mvT hZ (hw _ (tk 29 rfl))) (mvT hZ (hw _ (tk 28 rfl))) (by decide) (backOf (W := 0) (rm5 l Z a0 hw [] w_1 w_2 w_3 w_4 w_5 w_6 w_7 w_8 w_9 w_10 w_11 w_12 w_13 hS0 b125 (.ref w_4) (nar .boolean (0 : Int32)) T126.heap n0 O126 Fe126_0 rfl Fe126_1) hZ (hw _ (tk 30 rfl)) (hw _ (tk 10 rfl)) (by decide) (by decide)) q127a q127c (g := (mkF m 65 #[.val (.int p0), .val (.int p1), .val (.int ((p0 &&& (2147483647 : Int32)) % (13 : Int32))), .val (.int (0 : Int32)), .val (.ref w_4), .val (.ref b125), .val (.int (0 : Int32)), .unset, .unset] [(.ref b125)])) rfl (by rw [hml]; rfl) (Steps.refl _) (argsL := []) (rest := []) (lenOf pd_3 rfl) rfl (by show 2 * 0 + _ ≤ _; exact Nat.le_of_eq rfl) (hb hby at_65) (fun _ _ => ⟨rfl, rfl, (by decide : 1 + 0 ≤ _), (by decide : 2 + 0 ≤ _)⟩)
              dsimp only [Pt.U, Pt.locs, Pt.cells, Pt.slots] at X127 l127 y127 z127 st127 hQ127
              subst l127 y127 z127
              obtain ⟨rv127, N127q, e127⟩ := hQ127
              rw [show sp5 (.ref w_4) (nar .boolean (0 : Int32)) = (0 : Int32) from by unfold sp5; rw [if_neg (nofun : ¬ ((.ref w_4) : Value) = .null)]] at rv127
              subst rv127
              have N127 := Fr.app N126 N127q
              obtain ⟨T129, X129, e129, st129⟩ := getS2 X127 hx hZ hown (host := "") (Or.inl (hw _ (tk 31 rfl))) Via.refl e127 (S_2.ext O126.2) (g := (mkF m 72 #[.val (.int p0), .val (.int p1), .val (.int ((p0 &&& (2147483647 : Int32)) % (13 : Int32))), .val (.int (0 : Int32)), .val (.ref w_4), .val (.ref b125), .val (.int (0 : Int32)), .val (.int (0 : Int32)), .unset] [(.ref b125)])) rfl (hb hby at_72)
              obtain ⟨cq130, kq130, q130a, q130b, q130c⟩ := isOf hZ e129 c128
              obtain ⟨_, _, ⟨T130, L130, k130, n130⟩, -, X130, ⟨Lc130, hQ130, l130, y130, z130⟩, st130⟩ := X129.virtualBack hx (y := Y4) (z := Y4) hown (mvT hZ (hw _ (tk 33 rfl))) (mvT hZ (hw _ (tk 34 rfl))) (notFace_of_selects (args := #[]) (mvT hZ (hw _ (tk 36 rfl)))) (mvT hZ (hw _ (tk 36 rfl))) (mvT hZ (hw _ (tk 35 rfl))) (by decide) (backOf (W := 0) (rm6c1 l Z a0 hw [] w_1 w_2 w_3 w_4 w_5 w_6 w_7 w_8 w_9 w_10 w_11 w_12 w_13 hS0 b125 w_2 .null (.ref w_4) (0 : Int32) (nar .boolean (0 : Int32)) T126.heap n0 O126 (E_2.ext O126.2) (F_2_integer.ext O126.2) rfl Fe126_0 rfl (F_2_pointer.ext O126.2) Fe126_1) hZ (hw _ (tk 37 rfl)) (hw _ (tk 10 rfl)) (by decide) (by decide)) q130a q130c (g := (mkF m 75 #[.val (.int p0), .val (.int p1), .val (.int ((p0 &&& (2147483647 : Int32)) % (13 : Int32))), .val (.int (0 : Int32)), .val (.ref w_4), .val (.ref b125), .val (.int (0 : Int32)), .val (.int (0 : Int32)), .unset] [(.ref w_2), (.ref b125)])) rfl (by rw [hml]; rfl) (Steps.refl _) (argsL := [(.ref w_2)]) (rest := []) (lenOf pd_4 rfl) rfl (by show 2 * 0 + _ ≤ _; exact Nat.le_of_eq rfl) (hb hby at_75) (fun _ _ => ⟨rfl, e129, (by decide : 1 + 0 ≤ _), (by decide : 2 + 0 ≤ _)⟩)
              dsimp only [Pt.U, Pt.locs, Pt.cells, Pt.slots] at X130 l130 y130 z130 st130 hQ130
              subst l130 y130 z130
              obtain ⟨rv130, N130q, e130⟩ := hQ130
              rw [show sp6c1 .null (.ref w_4) (0 : Int32) (nar .boolean (0 : Int32)) = (0 : Int32) from by unfold sp6c1; rw [if_neg (nofun : ¬ (.null : Value) = (.ref w_4))]] at rv130
              subst rv130
              have N130 := Fr.app N127 N130q
              obtain ⟨fs, hr, hrun, hended, hW, hsame⟩ := X130.leave (v := some (.int (1 : Int32))) (fun h => by rw [Bd.returns] at h; cases h)
              refine ⟨_, _, pre67 _ ?_, hrun, hended, _, _, rfl, ?_, ⟨_, rfl⟩, hW, hsame.mono (by decide) (by decide)⟩
              · show Steps p.tables e below (s₁.setTop (mkF m 21 #[.val (.int p0), .val (.int p1), .val (.int ((p0 &&& (2147483647 : Int32)) % (13 : Int32))), .val (.int (0 : Int32)), .unset, .unset, .unset, .unset, .unset] [(.int ((p0 &&& (2147483647 : Int32)) % (13 : Int32)))])) _
                refine st124 _ ?_
                show Steps p.tables e below (T124.setTop (mkF m 24 #[.val (.int p0), .val (.int p1), .val (.int ((p0 &&& (2147483647 : Int32)) % (13 : Int32))), .val (.int (0 : Int32)), .unset, .unset, .unset, .unset, .unset] [(.ref w_4)])) _
                refine XS.astore X124.here hx rfl (hb hby at_24) rfl rfl (l' := #[.val (.int p0), .val (.int p1), .val (.int ((p0 &&& (2147483647 : Int32)) % (13 : Int32))), .val (.int (0 : Int32)), .val (.ref w_4), .unset, .unset, .unset, .unset]) rfl ?_
                show Steps p.tables e below (T124.setTop (mkF m 26 #[.val (.int p0), .val (.int p1), .val (.int ((p0 &&& (2147483647 : Int32)) % (13 : Int32))), .val (.int (0 : Int32)), .val (.ref w_4), .unset, .unset, .unset, .unset] [])) _
                refine st125 _ ?_
                show Steps p.tables e below (T125.setTop (mkF m 29 #[.val (.int p0), .val (.int p1), .val (.int ((p0 &&& (2147483647 : Int32)) % (13 : Int32))), .val (.int (0 : Int32)), .val (.ref w_4), .unset, .unset, .unset, .unset] [(.ref b125)])) _
                refine XS.dup X125.here hx rfl (hb hby at_29) rfl rfl ?_
                show Steps p.tables e below (T125.setTop (mkF m 30 #[.val (.int p0), .val (.int p1), .val (.int ((p0 &&& (2147483647 : Int32)) % (13 : Int32))), .val (.int (0 : Int32)), .val (.ref w_4), .unset, .unset, .unset, .unset] [(.ref b125), (.ref b125)])) _
                refine XS.aload X125.here hx rfl (hb hby at_30) rfl rfl ?_
                show Steps p.tables e below (T125.setTop (mkF m 32 #[.val (.int p0), .val (.int p1), .val (.int ((p0 &&& (2147483647 : Int32)) % (13 : Int32))), .val (.int (0 : Int32)), .val (.ref w_4), .unset, .unset, .unset, .unset] [(.ref w_4), (.ref b125), (.ref b125)])) _
                refine XS.iloadN X125.here hx rfl (hb hby at_32) rfl ?_
                show Steps p.tables e below (T125.setTop (mkF m 33 #[.val (.int p0), .val (.int p1), .val (.int ((p0 &&& (2147483647 : Int32)) % (13 : Int32))), .val (.int (0 : Int32)), .val (.ref w_4), .unset, .unset, .unset, .unset] [(.int (0 : Int32)), (.ref w_4), (.ref b125), (.ref b125)])) _
                refine st126.trans ?_
                show Steps p.tables e below (T126.setTop (mkF m 36 #[.val (.int p0), .val (.int p1), .val (.int ((p0 &&& (2147483647 : Int32)) % (13 : Int32))), .val (.int (0 : Int32)), .val (.ref w_4), .unset, .unset, .unset, .unset] [(.ref b125)])) _
                refine XS.astore X126.here hx rfl (hb hby at_36) rfl rfl (l' := #[.val (.int p0), .val (.int p1), .val (.int ((p0 &&& (2147483647 : Int32)) % (13 : Int32))), .val (.int (0 : Int32)), .val (.ref w_4), .val (.ref b125), .unset, .unset, .unset]) rfl ?_
                show Steps p.tables e below (T126.setTop (mkF m 38 #[.val (.int p0), .val (.int p1), .val (.int ((p0 &&& (2147483647 : Int32)) % (13 : Int32))), .val (.int (0 : Int32)), .val (.ref w_4), .val (.ref b125), .unset, .unset, .unset] [])) _
                refine XS.iloadN X126.here hx rfl (hb hby at_38) rfl ?_
                show Steps p.tables e below (T126.setTop (mkF m 39 #[.val (.int p0), .val (.int p1), .val (.int ((p0 &&& (2147483647 : Int32)) % (13 : Int32))), .val (.int (0 : Int32)), .val (.ref w_4), .val (.ref b125), .unset, .unset, .unset] [(.int (0 : Int32))])) _
                refine XS.ifYes X126.here hx rfl (pc0 := 39) (pc' := 48) rfl (hb hby at_39) rfl ((if0 _ _).trans (teq (by decide : ((0 : Int32) = (0 : Int32)))).1) (by decide) (by decide) ?_
                show Steps p.tables e below (T126.setTop (mkF m 48 #[.val (.int p0), .val (.int p1), .val (.int ((p0 &&& (2147483647 : Int32)) % (13 : Int32))), .val (.int (0 : Int32)), .val (.ref w_4), .val (.ref b125), .unset, .unset, .unset] [])) _
                refine XS.iloadN X126.here hx rfl (hb hby at_48) rfl ?_
                show Steps p.tables e below (T126.setTop (mkF m 49 #[.val (.int p0), .val (.int p1), .val (.int ((p0 &&& (2147483647 : Int32)) % (13 : Int32))), .val (.int (0 : Int32)), .val (.ref w_4), .val (.ref b125), .unset, .unset, .unset] [(.int ((p0 &&& (2147483647 : Int32)) % (13 : Int32)))])) _
                refine XS.bipush X126.here hx rfl (hb hby at_49) ?_
                show Steps p.tables e below (T126.setTop (mkF m 51 #[.val (.int p0), .val (.int p1), .val (.int ((p0 &&& (2147483647 : Int32)) % (13 : Int32))), .val (.int (0 : Int32)), .val (.ref w_4), .val (.ref b125), .unset, .unset, .unset] [(.int (12 : Int32)), (.int ((p0 &&& (2147483647 : Int32)) % (13 : Int32)))])) _
                refine XS.icmpYes X126.here hx rfl (pc0 := 51) (pc' := 60) rfl (hb hby at_51) rfl (feq (by rw [hc123] <;> decide : ¬ (((p0 &&& (2147483647 : Int32)) % (13 : Int32)) = (12 : Int32)))).2 (by decide) (by decide) ?_
                show Steps p.tables e below (T126.setTop (mkF m 60 #[.val (.int p0), .val (.int p1), .val (.int ((p0 &&& (2147483647 : Int32)) % (13 : Int32))), .val (.int (0 : Int32)), .val (.ref w_4), .val (.ref b125), .unset, .unset, .unset] [])) _
                refine XS.iconst X126.here hx rfl (hb hby at_60) ?_
                show Steps p.tables e below (T126.setTop (mkF m 61 #[.val (.int p0), .val (.int p1), .val (.int ((p0 &&& (2147483647 : Int32)) % (13 : Int32))), .val (.int (0 : Int32)), .val (.ref w_4), .val (.ref b125), .unset, .unset, .unset] [(.int (0 : Int32))])) _
                refine XS.istore X126.here hx rfl (hb hby at_61) rfl (l' := #[.val (.int p0), .val (.int p1), .val (.int ((p0 &&& (2147483647 : Int32)) % (13 : Int32))), .val (.int (0 : Int32)), .val (.ref w_4), .val (.ref b125), .val (.int (0 : Int32)), .unset, .unset]) rfl ?_
                show Steps p.tables e below (T126.setTop (mkF m 63 #[.val (.int p0), .val (.int p1), .val (.int ((p0 &&& (2147483647 : Int32)) % (13 : Int32))), .val (.int (0 : Int32)), .val (.ref w_4), .val (.ref b125), .val (.int (0 : Int32)), .unset, .unset] [])) _
                refine XS.aload X126.here hx rfl (hb hby at_63) rfl rfl ?_
                show Steps p.tables e below (T126.setTop (mkF m 65 #[.val (.int p0), .val (.int p1), .val (.int ((p0 &&& (2147483647 : Int32)) % (13 : Int32))), .val (.int (0 : Int32)), .val (.ref w_4), .val (.ref b125), .val (.int (0 : Int32)), .unset, .unset] [(.ref b125)])) _
                refine st127.trans ?_
                show Steps p.tables e below (T127.setTop (mkF m 68 #[.val (.int p0), .val (.int p1), .val (.int ((p0 &&& (2147483647 : Int32)) % (13 : Int32))), .val (.int (0 : Int32)), .val (.ref w_4), .val (.ref b125), .val (.int (0 : Int32)), .unset, .unset] [(.int (0 : Int32))])) _
                refine XS.istore X127.here hx rfl (hb hby at_68) rfl (l' := #[.val (.int p0), .val (.int p1), .val (.int ((p0 &&& (2147483647 : Int32)) % (13 : Int32))), .val (.int (0 : Int32)), .val (.ref w_4), .val (.ref b125), .val (.int (0 : Int32)), .val (.int (0 : Int32)), .unset]) rfl ?_
                show Steps p.tables e below (T127.setTop (mkF m 70 #[.val (.int p0), .val (.int p1), .val (.int ((p0 &&& (2147483647 : Int32)) % (13 : Int32))), .val (.int (0 : Int32)), .val (.ref w_4), .val (.ref b125), .val (.int (0 : Int32)), .val (.int (0 : Int32)), .unset] [])) _
                refine XS.aload X127.here hx rfl (hb hby at_70) rfl rfl ?_
                show Steps p.tables e below (T127.setTop (mkF m 72 #[.val (.int p0), .val (.int p1), .val (.int ((p0 &&& (2147483647 : Int32)) % (13 : Int32))), .val (.int (0 : Int32)), .val (.ref w_4), .val (.ref b125), .val (.int (0 : Int32)), .val (.int (0 : Int32)), .unset] [(.ref b125)])) _
                refine st129 _ ?_
                show Steps p.tables e below (T129.setTop (mkF m 75 #[.val (.int p0), .val (.int p1), .val (.int ((p0 &&& (2147483647 : Int32)) % (13 : Int32))), .val (.int (0 : Int32)), .val (.ref w_4), .val (.ref b125), .val (.int (0 : Int32)), .val (.int (0 : Int32)), .unset] [(.ref w_2), (.ref b125)])) _
                refine st130.trans ?_
                show Steps p.tables e below (T130.setTop (mkF m 78 #[.val (.int p0), .val (.int p1), .val (.int ((p0 &&& (2147483647 : Int32)) % (13 : Int32))), .val (.int (0 : Int32)), .val (.ref w_4), .val (.ref b125), .val (.int (0 : Int32)), .val (.int (0 : Int32)), .unset] [(.int (0 : Int32))])) _
                refine XS.istore X130.here hx rfl (hb hby at_78) rfl (l' := #[.val (.int p0), .val (.int p1), .val (.int ((p0 &&& (2147483647 : Int32)) % (13 : Int32))), .val (.int (0 : Int32)), .val (.ref w_4), .val (.ref b125), .val (.int (0 : Int32)), .val (.int (0 : Int32)), .val (.int (0 : Int32))]) rfl ?_
                show Steps p.tables e below (T130.setTop (mkF m 80 #[.val (.int p0), .val (.int p1), .val (.int ((p0 &&& (2147483647 : Int32)) % (13 : Int32))), .val (.int (0 : Int32)), .val (.ref w_4), .val (.ref b125), .val (.int (0 : Int32)), .val (.int (0 : Int32)), .val (.int (0 : Int32))] [])) _
                refine XS.iload X130.here hx rfl (hb hby at_80) rfl ?_
                show Steps p.tables e below (T130.setTop (mkF m 82 #[.val (.int p0), .val (.int p1), .val (.int ((p0 &&& (2147483647 : Int32)) % (13 : Int32))), .val (.int (0 : Int32)), .val (.ref w_4), .val (.ref b125), .val (.int (0 : Int32)), .val (.int (0 : Int32)), .val (.int (0 : Int32))] [(.int (0 : Int32))])) _
                refine XS.iload X130.here hx rfl (hb hby at_82) rfl ?_
                show Steps p.tables e below (T130.setTop (mkF m 84 #[.val (.int p0), .val (.int p1), .val (.int ((p0 &&& (2147483647 : Int32)) % (13 : Int32))), .val (.int (0 : Int32)), .val (.ref w_4), .val (.ref b125), .val (.int (0 : Int32)), .val (.int (0 : Int32)), .val (.int (0 : Int32))] [(.int (0 : Int32)), (.int (0 : Int32))])) _
                refine XS.icmpNo X130.here hx rfl (hb hby at_84) rfl (teq (by decide : ((0 : Int32) = (0 : Int32)))).2 ?_
                show Steps p.tables e below (T130.setTop (mkF m 87 #[.val (.int p0), .val (.int p1), .val (.int ((p0 &&& (2147483647 : Int32)) % (13 : Int32))), .val (.int (0 : Int32)), .val (.ref w_4), .val (.ref b125), .val (.int (0 : Int32)), .val (.int (0 : Int32)), .val (.int (0 : Int32))] [])) _
                refine XS.iload X130.here hx rfl (hb hby at_87) rfl ?_
                show Steps p.tables e below (T130.setTop (mkF m 89 #[.val (.int p0), .val (.int p1), .val (.int ((p0 &&& (2147483647 : Int32)) % (13 : Int32))), .val (.int (0 : Int32)), .val (.ref w_4), .val (.ref b125), .val (.int (0 : Int32)), .val (.int (0 : Int32)), .val (.int (0 : Int32))] [(.int (0 : Int32))])) _
                refine XS.iload X130.here hx rfl (hb hby at_89) rfl ?_
                show Steps p.tables e below (T130.setTop (mkF m 91 #[.val (.int p0), .val (.int p1), .val (.int ((p0 &&& (2147483647 : Int32)) % (13 : Int32))), .val (.int (0 : Int32)), .val (.ref w_4), .val (.ref b125), .val (.int (0 : Int32)), .val (.int (0 : Int32)), .val (.int (0 : Int32))] [(.int (0 : Int32)), (.int (0 : Int32))])) _
                refine XS.icmpNo X130.here hx rfl (hb hby at_91) rfl (teq (by decide : ((0 : Int32) = (0 : Int32)))).2 ?_
                show Steps p.tables e below (T130.setTop (mkF m 94 #[.val (.int p0), .val (.int p1), .val (.int ((p0 &&& (2147483647 : Int32)) % (13 : Int32))), .val (.int (0 : Int32)), .val (.ref w_4), .val (.ref b125), .val (.int (0 : Int32)), .val (.int (0 : Int32)), .val (.int (0 : Int32))] [])) _
                refine XS.iconst X130.here hx rfl (hb hby at_94) ?_
                show Steps p.tables e below (T130.setTop (mkF m 95 #[.val (.int p0), .val (.int p1), .val (.int ((p0 &&& (2147483647 : Int32)) % (13 : Int32))), .val (.int (0 : Int32)), .val (.ref w_4), .val (.ref b125), .val (.int (0 : Int32)), .val (.int (0 : Int32)), .val (.int (0 : Int32))] [(.int (1 : Int32))])) _
                refine XS.goto X130.here hx rfl (pc0 := 95) (pc' := 99) rfl (hb hby at_95) (by decide) (by decide) ?_
                show Steps p.tables e below (T130.setTop (mkF m 99 #[.val (.int p0), .val (.int p1), .val (.int ((p0 &&& (2147483647 : Int32)) % (13 : Int32))), .val (.int (0 : Int32)), .val (.ref w_4), .val (.ref b125), .val (.int (0 : Int32)), .val (.int (0 : Int32)), .val (.int (0 : Int32))] [(.int (1 : Int32))])) _
                exact retN X130 hx (t := .boolean) Bd.returns (by simp) (hb hby at_99) hr
              · show Q0 Z w_1 w_2 w_3 w_4 w_5 w_6 w_7 w_8 w_9 w_10 w_11 w_12 w_13 p0 p1 h0 n0 _ T130.heap _
                rw [e130]
                exact ⟨by unfold sp0; rw [if_pos hc30, if_neg hc68, if_neg hc99, if_neg hc107, if_neg hc115, if_pos hc123], N130, trivial⟩
            · by_cases hc131 : ((p0 &&& (2147483647 : Int32)) % (13 : Int32)) = (5 : Int32)
              · obtain ⟨_, _, ⟨T132, L132, k132, n132⟩, -, X132, ⟨Lc132, hQ132, l132, y132, z132⟩, st132⟩ := Jvm.LawKit.callS X0 hx (y := Y0) hown (mvT hZ (hw _ (tk 1 rfl))) (mvT hZ (hw _ (tk 2 rfl))) (mvT hZ (hw _ (tk 3 rfl))) (mvT hZ (hw _ (tk 4 rfl))) (by decide) (backOf (W := 0) (rm1 l Z a0 hw [] w_1 w_2 w_3 w_4 w_5 w_6 w_7 w_8 w_9 w_10 w_11 w_12 w_13 hS0 ((p0 &&& (2147483647 : Int32)) % (13 : Int32)) h0 n0 O0) hZ (hw _ (tk 4 rfl)) (hw _ (tk 3 rfl)) (by decide) (by decide)) (g := (mkF m 21 #[.val (.int p0), .val (.int p1), .val (.int ((p0 &&& (2147483647 : Int32)) % (13 : Int32))), .val (.int (0 : Int32)), .unset, .unset, .unset, .unset, .unset] [(.int ((p0 &&& (2147483647 : Int32)) % (13 : Int32)))])) rfl (by rw [hml]; rfl) (argsL := [(.int ((p0 &&& (2147483647 : Int32)) % (13 : Int32)))]) (rest := []) (lenOf pd_0 rfl) rfl (by show 2 * 0 + _ ≤ _; exact Nat.le_of_eq rfl) (hb hby at_21) (fun _ _ => ⟨rfl, e0, (by decide : 0 + 0 ≤ _), (by decide : 0 + 0 ≤ _)⟩)
                dsimp only [Pt.U, Pt.locs, Pt.cells, Pt.slots] at X132 l132 y132 z132 st132 hQ132
                subst l132 y132 z132
                obtain ⟨rv132, N132q, e132⟩ := hQ132
                rw [show sp1 w_1 w_3 w_4 w_5 w_6 w_7 w_8 w_9 w_10 w_11 w_12 w_13 ((p0 &&& (2147483647 : Int32)) % (13 : Int32)) = (.ref w_7) from by unfold sp1; rw [if_neg hc68, if_neg hc99, if_neg hc107, if_neg hc115, if_neg hc123, if_pos hc131]] at rv132
                subst rv132
                have N132 := Fr.app N0 N132q
                obtain ⟨T133, h133, X133, e133, E133, A133, D133, -, st133⟩ := newO X132 hx hZ hown (hw _ (tk 8 rfl)) (hw _ (tk 9 rfl)) (hw _ (tk 10 rfl)) e132 (g := (mkF m 26 #[.val (.int p0), .val (.int p1), .val (.int ((p0 &&& (2147483647 : Int32)) % (13 : Int32))), .val (.int (0 : Int32)), .val (.ref w_7), .unset, .unset, .unset, .unset] [])) rfl (hb hby at_26) (by decide) (by decide)
                obtain ⟨b133, g133⟩ : ∃ z, z = h0.size := ⟨_, rfl⟩
                rw [← g133] at A133 D133 st133
                have g_b133 : n0 ≤ b133 := Nat.le_trans (own_old O0) (Nat.le_of_eq g133.symm)
                have O133 : Old Z n0 h133 := O0.ext E133
                have F_integer_b133 : Fld Z h133 b133 "com/example/discharge/discharge/frontend/Syntax$Type" "integer" "Lcom/example/discharge/discharge/frontend/IntegerType;" .null := D133 (Or.inr (hw _ (tk 23 rfl))) (ty := (.object "com/example/discharge/discharge/frontend/IntegerType")) (by decide)
                have F_pointer_b133 : Fld Z h133 b133 "com/example/discharge/discharge/frontend/Syntax$Type" "pointer" "Z" (.int (0 : Int32)) := D133 (Or.inr (hw _ (tk 25 rfl))) (ty := .boolean) (by decide)
                obtain ⟨_, _, ⟨T134, L134, k134, n134⟩, -, X134, ⟨Lc134, hQ134, l134, y134, z134⟩, st134⟩ := X133.specialBack hx (y := Y2) rfl hown (mvT hZ (hw _ (tk 11 rfl))) (mvT hZ (hw _ (tk 12 rfl))) (mvT hZ (hw _ (tk 13 rfl))) (by decide) (backOf (W := 1) (rm2x1 l Z a0 hw [] w_1 w_2 w_3 w_4 w_5 w_6 w_7 w_8 w_9 w_10 w_11 w_12 w_13 hS0 b133 w_7 (0 : Int32) h133 n0 O133 g_b133 A133 F_integer_b133 F_pointer_b133) hZ (hw _ (tk 13 rfl)) (hw _ (tk 10 rfl)) (by decide) (by decide)) (g := (mkF m 33 #[.val (.int p0), .val (.int p1), .val (.int ((p0 &&& (2147483647 : Int32)) % (13 : Int32))), .val (.int (0 : Int32)), .val (.ref w_7), .unset, .unset, .unset, .unset] [(.int (0 : Int32)), (.ref w_7), (.ref b133), (.ref b133)])) rfl (by rw [hml]; rfl) (Steps.refl _) (a := b133) (argsL := [(.ref w_7), (.int (0 : Int32))]) (rest := [(.ref b133)]) (lenOf pd_2 rfl) rfl (by show 2 * 0 + _ ≤ _; exact Nat.le_of_eq rfl) (hb hby at_33) (fun _ _ => ⟨rfl, e133, (by decide : 1 + 0 ≤ _), (by decide : 2 + 0 ≤ _)⟩)
                dsimp only [Pt.U, Pt.locs, Pt.cells, Pt.slots] at X134 l134 y134 z134 st134 hQ134
                subst l134 y134 z134
                obtain ⟨rv134, N134q, O134, K134c, Fe134_0, Fe134_1⟩ := hQ134
                subst rv134
                have N134 := Fr.app N132 N134q
                have c136 := (A133.keep K134c)
                obtain ⟨cq135, kq135, q135a, q135b, q135c⟩ := isOf hZ rfl c136
                obtain ⟨_, _, ⟨T135, L135, k135, n135⟩, -, X135, ⟨Lc135, hQ135, l135, y135, z135⟩, st135⟩ := X134.virtualBack hx (y := Y3) (z := Y3) hown (mvT hZ (hw _ (tk 26 rfl))) (mvT hZ (hw _ (tk 27 rfl))) (notFace_of_selects (args := #[]) (mvT hZ (hw _ (tk 29 rfl)))) (mvT hZ (hw _ (tk 29 rfl))) (mvT hZ (hw _ (tk 28 rfl))) (by decide) (backOf (W := 0) (rm5 l Z a0 hw [] w_1 w_2 w_3 w_4 w_5 w_6 w_7 w_8 w_9 w_10 w_11 w_12 w_13 hS0 b133 (.ref w_7) (nar .boolean (0 : Int32)) T134.heap n0 O134 Fe134_0 rfl Fe134_1) hZ (hw _ (tk 30 rfl)) (hw _ (tk 10 rfl)) (by decide) (by decide)) q135a q135c (g := (mkF m 65 #[.val (.int p0), .val (.int p1), .val (.int ((p0 &&& (2147483647 : Int32)) % (13 : Int32))), .val (.int (0 : Int32)), .val (.ref w_7), .val (.ref b133), .val (.int (0 : Int32)), .unset, .unset] [(.ref b133)])) rfl (by rw [hml]; rfl) (Steps.refl _) (argsL := []) (rest := []) (lenOf pd_3 rfl) rfl (by show 2 * 0 + _ ≤ _; exact Nat.le_of_eq rfl) (hb hby at_65) (fun _ _ => ⟨rfl, rfl, (by decide : 1 + 0 ≤ _), (by decide : 2 + 0 ≤ _)⟩)
                dsimp only [Pt.U, Pt.locs, Pt.cells, Pt.slots] at X135 l135 y135 z135 st135 hQ135
                subst l135 y135 z135
                obtain ⟨rv135, N135q, e135⟩ := hQ135
                rw [show sp5 (.ref w_7) (nar .boolean (0 : Int32)) = (0 : Int32) from by unfold sp5; rw [if_neg (nofun : ¬ ((.ref w_7) : Value) = .null)]] at rv135
                subst rv135
                have N135 := Fr.app N134 N135q
                obtain ⟨T137, X137, e137, st137⟩ := getS2 X135 hx hZ hown (host := "") (Or.inl (hw _ (tk 31 rfl))) Via.refl e135 (S_2.ext O134.2) (g := (mkF m 72 #[.val (.int p0), .val (.int p1), .val (.int ((p0 &&& (2147483647 : Int32)) % (13 : Int32))), .val (.int (0 : Int32)), .val (.ref w_7), .val (.ref b133), .val (.int (0 : Int32)), .val (.int (0 : Int32)), .unset] [(.ref b133)])) rfl (hb hby at_72)
                obtain ⟨cq138, kq138, q138a, q138b, q138c⟩ := isOf hZ e137 c136
                obtain ⟨_, _, ⟨T138, L138, k138, n138⟩, -, X138, ⟨Lc138, hQ138, l138, y138, z138⟩, st138⟩ := X137.virtualBack hx (y := Y4) (z := Y4) hown (mvT hZ (hw _ (tk 33 rfl))) (mvT hZ (hw _ (tk 34 rfl))) (notFace_of_selects (args := #[]) (mvT hZ (hw _ (tk 36 rfl)))) (mvT hZ (hw _ (tk 36 rfl))) (mvT hZ (hw _ (tk 35 rfl))) (by decide) (backOf (W := 0) (rm6c1 l Z a0 hw [] w_1 w_2 w_3 w_4 w_5 w_6 w_7 w_8 w_9 w_10 w_11 w_12 w_13 hS0 b133 w_2 .null (.ref w_7) (0 : Int32) (nar .boolean (0 : Int32)) T134.heap n0 O134 (E_2.ext O134.2) (F_2_integer.ext O134.2) rfl Fe134_0 rfl (F_2_pointer.ext O134.2) Fe134_1) hZ (hw _ (tk 37 rfl)) (hw _ (tk 10 rfl)) (by decide) (by decide)) q138a q138c (g := (mkF m 75 #[.val (.int p0), .val (.int p1), .val (.int ((p0 &&& (2147483647 : Int32)) % (13 : Int32))), .val (.int (0 : Int32)), .val (.ref w_7), .val (.ref b133), .val (.int (0 : Int32)), .val (.int (0 : Int32)), .unset] [(.ref w_2), (.ref b133)])) rfl (by rw [hml]; rfl) (Steps.refl _) (argsL := [(.ref w_2)]) (rest := []) (lenOf pd_4 rfl) rfl (by show 2 * 0 + _ ≤ _; exact Nat.le_of_eq rfl) (hb hby at_75) (fun _ _ => ⟨rfl, e137, (by decide : 1 + 0 ≤ _), (by decide : 2 + 0 ≤ _)⟩)
                dsimp only [Pt.U, Pt.locs, Pt.cells, Pt.slots] at X138 l138 y138 z138 st138 hQ138
                subst l138 y138 z138
                obtain ⟨rv138, N138q, e138⟩ := hQ138
                rw [show sp6c1 .null (.ref w_7) (0 : Int32) (nar .boolean (0 : Int32)) = (0 : Int32) from by unfold sp6c1; rw [if_neg (nofun : ¬ (.null : Value) = (.ref w_7))]] at rv138
                subst rv138
                have N138 := Fr.app N135 N138q
                obtain ⟨fs, hr, hrun, hended, hW, hsame⟩ := X138.leave (v := some (.int (1 : Int32))) (fun h => by rw [Bd.returns] at h; cases h)
                refine ⟨_, _, pre67 _ ?_, hrun, hended, _, _, rfl, ?_, ⟨_, rfl⟩, hW, hsame.mono (by decide) (by decide)⟩
                · show Steps p.tables e below (s₁.setTop (mkF m 21 #[.val (.int p0), .val (.int p1), .val (.int ((p0 &&& (2147483647 : Int32)) % (13 : Int32))), .val (.int (0 : Int32)), .unset, .unset, .unset, .unset, .unset] [(.int ((p0 &&& (2147483647 : Int32)) % (13 : Int32)))])) _
                  refine st132 _ ?_
                  show Steps p.tables e below (T132.setTop (mkF m 24 #[.val (.int p0), .val (.int p1), .val (.int ((p0 &&& (2147483647 : Int32)) % (13 : Int32))), .val (.int (0 : Int32)), .unset, .unset, .unset, .unset, .unset] [(.ref w_7)])) _
                  refine XS.astore X132.here hx rfl (hb hby at_24) rfl rfl (l' := #[.val (.int p0), .val (.int p1), .val (.int ((p0 &&& (2147483647 : Int32)) % (13 : Int32))), .val (.int (0 : Int32)), .val (.ref w_7), .unset, .unset, .unset, .unset]) rfl ?_
                  show Steps p.tables e below (T132.setTop (mkF m 26 #[.val (.int p0), .val (.int p1), .val (.int ((p0 &&& (2147483647 : Int32)) % (13 : Int32))), .val (.int (0 : Int32)), .val (.ref w_7), .unset, .unset, .unset, .unset] [])) _
                  refine st133 _ ?_
                  show Steps p.tables e below (T133.setTop (mkF m 29 #[.val (.int p0), .val (.int p1), .val (.int ((p0 &&& (2147483647 : Int32)) % (13 : Int32))), .val (.int (0 : Int32)), .val (.ref w_7), .unset, .unset, .unset, .unset] [(.ref b133)])) _
                  refine XS.dup X133.here hx rfl (hb hby at_29) rfl rfl ?_
                  show Steps p.tables e below (T133.setTop (mkF m 30 #[.val (.int p0), .val (.int p1), .val (.int ((p0 &&& (2147483647 : Int32)) % (13 : Int32))), .val (.int (0 : Int32)), .val (.ref w_7), .unset, .unset, .unset, .unset] [(.ref b133), (.ref b133)])) _
                  refine XS.aload X133.here hx rfl (hb hby at_30) rfl rfl ?_
                  show Steps p.tables e below (T133.setTop (mkF m 32 #[.val (.int p0), .val (.int p1), .val (.int ((p0 &&& (2147483647 : Int32)) % (13 : Int32))), .val (.int (0 : Int32)), .val (.ref w_7), .unset, .unset, .unset, .unset] [(.ref w_7), (.ref b133), (.ref b133)])) _
                  refine XS.iloadN X133.here hx rfl (hb hby at_32) rfl ?_
                  show Steps p.tables e below (T133.setTop (mkF m 33 #[.val (.int p0), .val (.int p1), .val (.int ((p0 &&& (2147483647 : Int32)) % (13 : Int32))), .val (.int (0 : Int32)), .val (.ref w_7), .unset, .unset, .unset, .unset] [(.int (0 : Int32)), (.ref w_7), (.ref b133), (.ref b133)])) _
                  refine st134.trans ?_
                  show Steps p.tables e below (T134.setTop (mkF m 36 #[.val (.int p0), .val (.int p1), .val (.int ((p0 &&& (2147483647 : Int32)) % (13 : Int32))), .val (.int (0 : Int32)), .val (.ref w_7), .unset, .unset, .unset, .unset] [(.ref b133)])) _
                  refine XS.astore X134.here hx rfl (hb hby at_36) rfl rfl (l' := #[.val (.int p0), .val (.int p1), .val (.int ((p0 &&& (2147483647 : Int32)) % (13 : Int32))), .val (.int (0 : Int32)), .val (.ref w_7), .val (.ref b133), .unset, .unset, .unset]) rfl ?_
                  show Steps p.tables e below (T134.setTop (mkF m 38 #[.val (.int p0), .val (.int p1), .val (.int ((p0 &&& (2147483647 : Int32)) % (13 : Int32))), .val (.int (0 : Int32)), .val (.ref w_7), .val (.ref b133), .unset, .unset, .unset] [])) _
                  refine XS.iloadN X134.here hx rfl (hb hby at_38) rfl ?_
                  show Steps p.tables e below (T134.setTop (mkF m 39 #[.val (.int p0), .val (.int p1), .val (.int ((p0 &&& (2147483647 : Int32)) % (13 : Int32))), .val (.int (0 : Int32)), .val (.ref w_7), .val (.ref b133), .unset, .unset, .unset] [(.int (0 : Int32))])) _
                  refine XS.ifYes X134.here hx rfl (pc0 := 39) (pc' := 48) rfl (hb hby at_39) rfl ((if0 _ _).trans (teq (by decide : ((0 : Int32) = (0 : Int32)))).1) (by decide) (by decide) ?_
                  show Steps p.tables e below (T134.setTop (mkF m 48 #[.val (.int p0), .val (.int p1), .val (.int ((p0 &&& (2147483647 : Int32)) % (13 : Int32))), .val (.int (0 : Int32)), .val (.ref w_7), .val (.ref b133), .unset, .unset, .unset] [])) _
                  refine XS.iloadN X134.here hx rfl (hb hby at_48) rfl ?_
                  show Steps p.tables e below (T134.setTop (mkF m 49 #[.val (.int p0), .val (.int p1), .val (.int ((p0 &&& (2147483647 : Int32)) % (13 : Int32))), .val (.int (0 : Int32)), .val (.ref w_7), .val (.ref b133), .unset, .unset, .unset] [(.int ((p0 &&& (2147483647 : Int32)) % (13 : Int32)))])) _
                  refine XS.bipush X134.here hx rfl (hb hby at_49) ?_
                  show Steps p.tables e below (T134.setTop (mkF m 51 #[.val (.int p0), .val (.int p1), .val (.int ((p0 &&& (2147483647 : Int32)) % (13 : Int32))), .val (.int (0 : Int32)), .val (.ref w_7), .val (.ref b133), .unset, .unset, .unset] [(.int (12 : Int32)), (.int ((p0 &&& (2147483647 : Int32)) % (13 : Int32)))])) _
                  refine XS.icmpYes X134.here hx rfl (pc0 := 51) (pc' := 60) rfl (hb hby at_51) rfl (feq (by rw [hc131] <;> decide : ¬ (((p0 &&& (2147483647 : Int32)) % (13 : Int32)) = (12 : Int32)))).2 (by decide) (by decide) ?_
                  show Steps p.tables e below (T134.setTop (mkF m 60 #[.val (.int p0), .val (.int p1), .val (.int ((p0 &&& (2147483647 : Int32)) % (13 : Int32))), .val (.int (0 : Int32)), .val (.ref w_7), .val (.ref b133), .unset, .unset, .unset] [])) _
                  refine XS.iconst X134.here hx rfl (hb hby at_60) ?_
                  show Steps p.tables e below (T134.setTop (mkF m 61 #[.val (.int p0), .val (.int p1), .val (.int ((p0 &&& (2147483647 : Int32)) % (13 : Int32))), .val (.int (0 : Int32)), .val (.ref w_7), .val (.ref b133), .unset, .unset, .unset] [(.int (0 : Int32))])) _
                  refine XS.istore X134.here hx rfl (hb hby at_61) rfl (l' := #[.val (.int p0), .val (.int p1), .val (.int ((p0 &&& (2147483647 : Int32)) % (13 : Int32))), .val (.int (0 : Int32)), .val (.ref w_7), .val (.ref b133), .val (.int (0 : Int32)), .unset, .unset]) rfl ?_
                  show Steps p.tables e below (T134.setTop (mkF m 63 #[.val (.int p0), .val (.int p1), .val (.int ((p0 &&& (2147483647 : Int32)) % (13 : Int32))), .val (.int (0 : Int32)), .val (.ref w_7), .val (.ref b133), .val (.int (0 : Int32)), .unset, .unset] [])) _
                  refine XS.aload X134.here hx rfl (hb hby at_63) rfl rfl ?_
                  show Steps p.tables e below (T134.setTop (mkF m 65 #[.val (.int p0), .val (.int p1), .val (.int ((p0 &&& (2147483647 : Int32)) % (13 : Int32))), .val (.int (0 : Int32)), .val (.ref w_7), .val (.ref b133), .val (.int (0 : Int32)), .unset, .unset] [(.ref b133)])) _
                  refine st135.trans ?_
                  show Steps p.tables e below (T135.setTop (mkF m 68 #[.val (.int p0), .val (.int p1), .val (.int ((p0 &&& (2147483647 : Int32)) % (13 : Int32))), .val (.int (0 : Int32)), .val (.ref w_7), .val (.ref b133), .val (.int (0 : Int32)), .unset, .unset] [(.int (0 : Int32))])) _
                  refine XS.istore X135.here hx rfl (hb hby at_68) rfl (l' := #[.val (.int p0), .val (.int p1), .val (.int ((p0 &&& (2147483647 : Int32)) % (13 : Int32))), .val (.int (0 : Int32)), .val (.ref w_7), .val (.ref b133), .val (.int (0 : Int32)), .val (.int (0 : Int32)), .unset]) rfl ?_
                  show Steps p.tables e below (T135.setTop (mkF m 70 #[.val (.int p0), .val (.int p1), .val (.int ((p0 &&& (2147483647 : Int32)) % (13 : Int32))), .val (.int (0 : Int32)), .val (.ref w_7), .val (.ref b133), .val (.int (0 : Int32)), .val (.int (0 : Int32)), .unset] [])) _
                  refine XS.aload X135.here hx rfl (hb hby at_70) rfl rfl ?_
                  show Steps p.tables e below (T135.setTop (mkF m 72 #[.val (.int p0), .val (.int p1), .val (.int ((p0 &&& (2147483647 : Int32)) % (13 : Int32))), .val (.int (0 : Int32)), .val (.ref w_7), .val (.ref b133), .val (.int (0 : Int32)), .val (.int (0 : Int32)), .unset] [(.ref b133)])) _
                  refine st137 _ ?_
                  show Steps p.tables e below (T137.setTop (mkF m 75 #[.val (.int p0), .val (.int p1), .val (.int ((p0 &&& (2147483647 : Int32)) % (13 : Int32))), .val (.int (0 : Int32)), .val (.ref w_7), .val (.ref b133), .val (.int (0 : Int32)), .val (.int (0 : Int32)), .unset] [(.ref w_2), (.ref b133)])) _
                  refine st138.trans ?_
                  show Steps p.tables e below (T138.setTop (mkF m 78 #[.val (.int p0), .val (.int p1), .val (.int ((p0 &&& (2147483647 : Int32)) % (13 : Int32))), .val (.int (0 : Int32)), .val (.ref w_7), .val (.ref b133), .val (.int (0 : Int32)), .val (.int (0 : Int32)), .unset] [(.int (0 : Int32))])) _
                  refine XS.istore X138.here hx rfl (hb hby at_78) rfl (l' := #[.val (.int p0), .val (.int p1), .val (.int ((p0 &&& (2147483647 : Int32)) % (13 : Int32))), .val (.int (0 : Int32)), .val (.ref w_7), .val (.ref b133), .val (.int (0 : Int32)), .val (.int (0 : Int32)), .val (.int (0 : Int32))]) rfl ?_
                  show Steps p.tables e below (T138.setTop (mkF m 80 #[.val (.int p0), .val (.int p1), .val (.int ((p0 &&& (2147483647 : Int32)) % (13 : Int32))), .val (.int (0 : Int32)), .val (.ref w_7), .val (.ref b133), .val (.int (0 : Int32)), .val (.int (0 : Int32)), .val (.int (0 : Int32))] [])) _
                  refine XS.iload X138.here hx rfl (hb hby at_80) rfl ?_
                  show Steps p.tables e below (T138.setTop (mkF m 82 #[.val (.int p0), .val (.int p1), .val (.int ((p0 &&& (2147483647 : Int32)) % (13 : Int32))), .val (.int (0 : Int32)), .val (.ref w_7), .val (.ref b133), .val (.int (0 : Int32)), .val (.int (0 : Int32)), .val (.int (0 : Int32))] [(.int (0 : Int32))])) _
                  refine XS.iload X138.here hx rfl (hb hby at_82) rfl ?_
                  show Steps p.tables e below (T138.setTop (mkF m 84 #[.val (.int p0), .val (.int p1), .val (.int ((p0 &&& (2147483647 : Int32)) % (13 : Int32))), .val (.int (0 : Int32)), .val (.ref w_7), .val (.ref b133), .val (.int (0 : Int32)), .val (.int (0 : Int32)), .val (.int (0 : Int32))] [(.int (0 : Int32)), (.int (0 : Int32))])) _
                  refine XS.icmpNo X138.here hx rfl (hb hby at_84) rfl (teq (by decide : ((0 : Int32) = (0 : Int32)))).2 ?_
                  show Steps p.tables e below (T138.setTop (mkF m 87 #[.val (.int p0), .val (.int p1), .val (.int ((p0 &&& (2147483647 : Int32)) % (13 : Int32))), .val (.int (0 : Int32)), .val (.ref w_7), .val (.ref b133), .val (.int (0 : Int32)), .val (.int (0 : Int32)), .val (.int (0 : Int32))] [])) _
                  refine XS.iload X138.here hx rfl (hb hby at_87) rfl ?_
                  show Steps p.tables e below (T138.setTop (mkF m 89 #[.val (.int p0), .val (.int p1), .val (.int ((p0 &&& (2147483647 : Int32)) % (13 : Int32))), .val (.int (0 : Int32)), .val (.ref w_7), .val (.ref b133), .val (.int (0 : Int32)), .val (.int (0 : Int32)), .val (.int (0 : Int32))] [(.int (0 : Int32))])) _
                  refine XS.iload X138.here hx rfl (hb hby at_89) rfl ?_
                  show Steps p.tables e below (T138.setTop (mkF m 91 #[.val (.int p0), .val (.int p1), .val (.int ((p0 &&& (2147483647 : Int32)) % (13 : Int32))), .val (.int (0 : Int32)), .val (.ref w_7), .val (.ref b133), .val (.int (0 : Int32)), .val (.int (0 : Int32)), .val (.int (0 : Int32))] [(.int (0 : Int32)), (.int (0 : Int32))])) _
                  refine XS.icmpNo X138.here hx rfl (hb hby at_91) rfl (teq (by decide : ((0 : Int32) = (0 : Int32)))).2 ?_
                  show Steps p.tables e below (T138.setTop (mkF m 94 #[.val (.int p0), .val (.int p1), .val (.int ((p0 &&& (2147483647 : Int32)) % (13 : Int32))), .val (.int (0 : Int32)), .val (.ref w_7), .val (.ref b133), .val (.int (0 : Int32)), .val (.int (0 : Int32)), .val (.int (0 : Int32))] [])) _
                  refine XS.iconst X138.here hx rfl (hb hby at_94) ?_
                  show Steps p.tables e below (T138.setTop (mkF m 95 #[.val (.int p0), .val (.int p1), .val (.int ((p0 &&& (2147483647 : Int32)) % (13 : Int32))), .val (.int (0 : Int32)), .val (.ref w_7), .val (.ref b133), .val (.int (0 : Int32)), .val (.int (0 : Int32)), .val (.int (0 : Int32))] [(.int (1 : Int32))])) _
                  refine XS.goto X138.here hx rfl (pc0 := 95) (pc' := 99) rfl (hb hby at_95) (by decide) (by decide) ?_
                  show Steps p.tables e below (T138.setTop (mkF m 99 #[.val (.int p0), .val (.int p1), .val (.int ((p0 &&& (2147483647 : Int32)) % (13 : Int32))), .val (.int (0 : Int32)), .val (.ref w_7), .val (.ref b133), .val (.int (0 : Int32)), .val (.int (0 : Int32)), .val (.int (0 : Int32))] [(.int (1 : Int32))])) _
                  exact retN X138 hx (t := .boolean) Bd.returns (by simp) (hb hby at_99) hr
                · show Q0 Z w_1 w_2 w_3 w_4 w_5 w_6 w_7 w_8 w_9 w_10 w_11 w_12 w_13 p0 p1 h0 n0 _ T138.heap _
                  rw [e138]
                  exact ⟨by unfold sp0; rw [if_pos hc30, if_neg hc68, if_neg hc99, if_neg hc107, if_neg hc115, if_neg hc123, if_pos hc131], N138, trivial⟩
              · by_cases hc139 : ((p0 &&& (2147483647 : Int32)) % (13 : Int32)) = (6 : Int32)
                · obtain ⟨_, _, ⟨T140, L140, k140, n140⟩, -, X140, ⟨Lc140, hQ140, l140, y140, z140⟩, st140⟩ := Jvm.LawKit.callS X0 hx (y := Y0) hown (mvT hZ (hw _ (tk 1 rfl))) (mvT hZ (hw _ (tk 2 rfl))) (mvT hZ (hw _ (tk 3 rfl))) (mvT hZ (hw _ (tk 4 rfl))) (by decide) (backOf (W := 0) (rm1 l Z a0 hw [] w_1 w_2 w_3 w_4 w_5 w_6 w_7 w_8 w_9 w_10 w_11 w_12 w_13 hS0 ((p0 &&& (2147483647 : Int32)) % (13 : Int32)) h0 n0 O0) hZ (hw _ (tk 4 rfl)) (hw _ (tk 3 rfl)) (by decide) (by decide)) (g := (mkF m 21 #[.val (.int p0), .val (.int p1), .val (.int ((p0 &&& (2147483647 : Int32)) % (13 : Int32))), .val (.int (0 : Int32)), .unset, .unset, .unset, .unset, .unset] [(.int ((p0 &&& (2147483647 : Int32)) % (13 : Int32)))])) rfl (by rw [hml]; rfl) (argsL := [(.int ((p0 &&& (2147483647 : Int32)) % (13 : Int32)))]) (rest := []) (lenOf pd_0 rfl) rfl (by show 2 * 0 + _ ≤ _; exact Nat.le_of_eq rfl) (hb hby at_21) (fun _ _ => ⟨rfl, e0, (by decide : 0 + 0 ≤ _), (by decide : 0 + 0 ≤ _)⟩)
                  dsimp only [Pt.U, Pt.locs, Pt.cells, Pt.slots] at X140 l140 y140 z140 st140 hQ140
                  subst l140 y140 z140
                  obtain ⟨rv140, N140q, e140⟩ := hQ140
                  rw [show sp1 w_1 w_3 w_4 w_5 w_6 w_7 w_8 w_9 w_10 w_11 w_12 w_13 ((p0 &&& (2147483647 : Int32)) % (13 : Int32)) = (.ref w_8) from by unfold sp1; rw [if_neg hc68, if_neg hc99, if_neg hc107, if_neg hc115, if_neg hc123, if_neg hc131, if_pos hc139]] at rv140
                  subst rv140
                  have N140 := Fr.app N0 N140q
                  obtain ⟨T141, h141, X141, e141, E141, A141, D141, -, st141⟩ := newO X140 hx hZ hown (hw _ (tk 8 rfl)) (hw _ (tk 9 rfl)) (hw _ (tk 10 rfl)) e140 (g := (mkF m 26 #[.val (.int p0), .val (.int p1), .val (.int ((p0 &&& (2147483647 : Int32)) % (13 : Int32))), .val (.int (0 : Int32)), .val (.ref w_8), .unset, .unset, .unset, .unset] [])) rfl (hb hby at_26) (by decide) (by decide)
                  obtain ⟨b141, g141⟩ : ∃ z, z = h0.size := ⟨_, rfl⟩
                  rw [← g141] at A141 D141 st141
                  have g_b141 : n0 ≤ b141 := Nat.le_trans (own_old O0) (Nat.le_of_eq g141.symm)
                  have O141 : Old Z n0 h141 := O0.ext E141
                  have F_integer_b141 : Fld Z h141 b141 "com/example/discharge/discharge/frontend/Syntax$Type" "integer" "Lcom/example/discharge/discharge/frontend/IntegerType;" .null := D141 (Or.inr (hw _ (tk 23 rfl))) (ty := (.object "com/example/discharge/discharge/frontend/IntegerType")) (by decide)
                  have F_pointer_b141 : Fld Z h141 b141 "com/example/discharge/discharge/frontend/Syntax$Type" "pointer" "Z" (.int (0 : Int32)) := D141 (Or.inr (hw _ (tk 25 rfl))) (ty := .boolean) (by decide)
                  obtain ⟨_, _, ⟨T142, L142, k142, n142⟩, -, X142, ⟨Lc142, hQ142, l142, y142, z142⟩, st142⟩ := X141.specialBack hx (y := Y2) rfl hown (mvT hZ (hw _ (tk 11 rfl))) (mvT hZ (hw _ (tk 12 rfl))) (mvT hZ (hw _ (tk 13 rfl))) (by decide) (backOf (W := 1) (rm2x1 l Z a0 hw [] w_1 w_2 w_3 w_4 w_5 w_6 w_7 w_8 w_9 w_10 w_11 w_12 w_13 hS0 b141 w_8 (0 : Int32) h141 n0 O141 g_b141 A141 F_integer_b141 F_pointer_b141) hZ (hw _ (tk 13 rfl)) (hw _ (tk 10 rfl)) (by decide) (by decide)) (g := (mkF m 33 #[.val (.int p0), .val (.int p1), .val (.int ((p0 &&& (2147483647 : Int32)) % (13 : Int32))), .val (.int (0 : Int32)), .val (.ref w_8), .unset, .unset, .unset, .unset] [(.int (0 : Int32)), (.ref w_8), (.ref b141), (.ref b141)])) rfl (by rw [hml]; rfl) (Steps.refl _) (a := b141) (argsL := [(.ref w_8), (.int (0 : Int32))]) (rest := [(.ref b141)]) (lenOf pd_2 rfl) rfl (by show 2 * 0 + _ ≤ _; exact Nat.le_of_eq rfl) (hb hby at_33) (fun _ _ => ⟨rfl, e141, (by decide : 1 + 0 ≤ _), (by decide : 2 + 0 ≤ _)⟩)
                  dsimp only [Pt.U, Pt.locs, Pt.cells, Pt.slots] at X142 l142 y142 z142 st142 hQ142
                  subst l142 y142 z142
                  obtain ⟨rv142, N142q, O142, K142c, Fe142_0, Fe142_1⟩ := hQ142
                  subst rv142
                  have N142 := Fr.app N140 N142q
                  have c144 := (A141.keep K142c)
                  obtain ⟨cq143, kq143, q143a, q143b, q143c⟩ := isOf hZ rfl c144
                  obtain ⟨_, _, ⟨T143, L143, k143, n143⟩, -, X143, ⟨Lc143, hQ143, l143, y143, z143⟩, st143⟩ := X142.virtualBack hx (y := Y3) (z := Y3) hown (mvT hZ (hw _ (tk 26 rfl))) (mvT hZ (hw _ (tk 27 rfl))) (notFace_of_selects (args := #[]) (mvT hZ (hw _ (tk 29 rfl)))) (mvT hZ (hw _ (tk 29 rfl))) (mvT hZ (hw _ (tk 28 rfl))) (by decide) (backOf (W := 0) (rm5 l Z a0 hw [] w_1 w_2 w_3 w_4 w_5 w_6 w_7 w_8 w_9 w_10 w_11 w_12 w_13 hS0 b141 (.ref w_8) (nar .boolean (0 : Int32)) T142.heap n0 O142 Fe142_0 rfl Fe142_1) hZ (hw _ (tk 30 rfl)) (hw _ (tk 10 rfl)) (by decide) (by decide)) q143a q143c (g := (mkF m 65 #[.val (.int p0), .val (.int p1), .val (.int ((p0 &&& (2147483647 : Int32)) % (13 : Int32))), .val (.int (0 : Int32)), .val (.ref w_8), .val (.ref b141), .val (.int (0 : Int32)), .unset, .unset] [(.ref b141)])) rfl (by rw [hml]; rfl) (Steps.refl _) (argsL := []) (rest := []) (lenOf pd_3 rfl) rfl (by show 2 * 0 + _ ≤ _; exact Nat.le_of_eq rfl) (hb hby at_65) (fun _ _ => ⟨rfl, rfl, (by decide : 1 + 0 ≤ _), (by decide : 2 + 0 ≤ _)⟩)
                  dsimp only [Pt.U, Pt.locs, Pt.cells, Pt.slots] at X143 l143 y143 z143 st143 hQ143
                  subst l143 y143 z143
                  obtain ⟨rv143, N143q, e143⟩ := hQ143
                  rw [show sp5 (.ref w_8) (nar .boolean (0 : Int32)) = (0 : Int32) from by unfold sp5; rw [if_neg (nofun : ¬ ((.ref w_8) : Value) = .null)]] at rv143
                  subst rv143
                  have N143 := Fr.app N142 N143q
                  obtain ⟨T145, X145, e145, st145⟩ := getS2 X143 hx hZ hown (host := "") (Or.inl (hw _ (tk 31 rfl))) Via.refl e143 (S_2.ext O142.2) (g := (mkF m 72 #[.val (.int p0), .val (.int p1), .val (.int ((p0 &&& (2147483647 : Int32)) % (13 : Int32))), .val (.int (0 : Int32)), .val (.ref w_8), .val (.ref b141), .val (.int (0 : Int32)), .val (.int (0 : Int32)), .unset] [(.ref b141)])) rfl (hb hby at_72)
                  obtain ⟨cq146, kq146, q146a, q146b, q146c⟩ := isOf hZ e145 c144
                  obtain ⟨_, _, ⟨T146, L146, k146, n146⟩, -, X146, ⟨Lc146, hQ146, l146, y146, z146⟩, st146⟩ := X145.virtualBack hx (y := Y4) (z := Y4) hown (mvT hZ (hw _ (tk 33 rfl))) (mvT hZ (hw _ (tk 34 rfl))) (notFace_of_selects (args := #[]) (mvT hZ (hw _ (tk 36 rfl)))) (mvT hZ (hw _ (tk 36 rfl))) (mvT hZ (hw _ (tk 35 rfl))) (by decide) (backOf (W := 0) (rm6c1 l Z a0 hw [] w_1 w_2 w_3 w_4 w_5 w_6 w_7 w_8 w_9 w_10 w_11 w_12 w_13 hS0 b141 w_2 .null (.ref w_8) (0 : Int32) (nar .boolean (0 : Int32)) T142.heap n0 O142 (E_2.ext O142.2) (F_2_integer.ext O142.2) rfl Fe142_0 rfl (F_2_pointer.ext O142.2) Fe142_1) hZ (hw _ (tk 37 rfl)) (hw _ (tk 10 rfl)) (by decide) (by decide)) q146a q146c (g := (mkF m 75 #[.val (.int p0), .val (.int p1), .val (.int ((p0 &&& (2147483647 : Int32)) % (13 : Int32))), .val (.int (0 : Int32)), .val (.ref w_8), .val (.ref b141), .val (.int (0 : Int32)), .val (.int (0 : Int32)), .unset] [(.ref w_2), (.ref b141)])) rfl (by rw [hml]; rfl) (Steps.refl _) (argsL := [(.ref w_2)]) (rest := []) (lenOf pd_4 rfl) rfl (by show 2 * 0 + _ ≤ _; exact Nat.le_of_eq rfl) (hb hby at_75) (fun _ _ => ⟨rfl, e145, (by decide : 1 + 0 ≤ _), (by decide : 2 + 0 ≤ _)⟩)
                  dsimp only [Pt.U, Pt.locs, Pt.cells, Pt.slots] at X146 l146 y146 z146 st146 hQ146
                  subst l146 y146 z146
                  obtain ⟨rv146, N146q, e146⟩ := hQ146
                  rw [show sp6c1 .null (.ref w_8) (0 : Int32) (nar .boolean (0 : Int32)) = (0 : Int32) from by unfold sp6c1; rw [if_neg (nofun : ¬ (.null : Value) = (.ref w_8))]] at rv146
                  subst rv146
                  have N146 := Fr.app N143 N146q
                  obtain ⟨fs, hr, hrun, hended, hW, hsame⟩ := X146.leave (v := some (.int (1 : Int32))) (fun h => by rw [Bd.returns] at h; cases h)
                  refine ⟨_, _, pre67 _ ?_, hrun, hended, _, _, rfl, ?_, ⟨_, rfl⟩, hW, hsame.mono (by decide) (by decide)⟩
                  · show Steps p.tables e below (s₁.setTop (mkF m 21 #[.val (.int p0), .val (.int p1), .val (.int ((p0 &&& (2147483647 : Int32)) % (13 : Int32))), .val (.int (0 : Int32)), .unset, .unset, .unset, .unset, .unset] [(.int ((p0 &&& (2147483647 : Int32)) % (13 : Int32)))])) _
                    refine st140 _ ?_
                    show Steps p.tables e below (T140.setTop (mkF m 24 #[.val (.int p0), .val (.int p1), .val (.int ((p0 &&& (2147483647 : Int32)) % (13 : Int32))), .val (.int (0 : Int32)), .unset, .unset, .unset, .unset, .unset] [(.ref w_8)])) _
                    refine XS.astore X140.here hx rfl (hb hby at_24) rfl rfl (l' := #[.val (.int p0), .val (.int p1), .val (.int ((p0 &&& (2147483647 : Int32)) % (13 : Int32))), .val (.int (0 : Int32)), .val (.ref w_8), .unset, .unset, .unset, .unset]) rfl ?_
                    show Steps p.tables e below (T140.setTop (mkF m 26 #[.val (.int p0), .val (.int p1), .val (.int ((p0 &&& (2147483647 : Int32)) % (13 : Int32))), .val (.int (0 : Int32)), .val (.ref w_8), .unset, .unset, .unset, .unset] [])) _
                    refine st141 _ ?_
                    show Steps p.tables e below (T141.setTop (mkF m 29 #[.val (.int p0), .val (.int p1), .val (.int ((p0 &&& (2147483647 : Int32)) % (13 : Int32))), .val (.int (0 : Int32)), .val (.ref w_8), .unset, .unset, .unset, .unset] [(.ref b141)])) _
                    refine XS.dup X141.here hx rfl (hb hby at_29) rfl rfl ?_
                    show Steps p.tables e below (T141.setTop (mkF m 30 #[.val (.int p0), .val (.int p1), .val (.int ((p0 &&& (2147483647 : Int32)) % (13 : Int32))), .val (.int (0 : Int32)), .val (.ref w_8), .unset, .unset, .unset, .unset] [(.ref b141), (.ref b141)])) _
                    refine XS.aload X141.here hx rfl (hb hby at_30) rfl rfl ?_
                    show Steps p.tables e below (T141.setTop (mkF m 32 #[.val (.int p0), .val (.int p1), .val (.int ((p0 &&& (2147483647 : Int32)) % (13 : Int32))), .val (.int (0 : Int32)), .val (.ref w_8), .unset, .unset, .unset, .unset] [(.ref w_8), (.ref b141), (.ref b141)])) _
                    refine XS.iloadN X141.here hx rfl (hb hby at_32) rfl ?_
                    show Steps p.tables e below (T141.setTop (mkF m 33 #[.val (.int p0), .val (.int p1), .val (.int ((p0 &&& (2147483647 : Int32)) % (13 : Int32))), .val (.int (0 : Int32)), .val (.ref w_8), .unset, .unset, .unset, .unset] [(.int (0 : Int32)), (.ref w_8), (.ref b141), (.ref b141)])) _
                    refine st142.trans ?_
                    show Steps p.tables e below (T142.setTop (mkF m 36 #[.val (.int p0), .val (.int p1), .val (.int ((p0 &&& (2147483647 : Int32)) % (13 : Int32))), .val (.int (0 : Int32)), .val (.ref w_8), .unset, .unset, .unset, .unset] [(.ref b141)])) _
                    refine XS.astore X142.here hx rfl (hb hby at_36) rfl rfl (l' := #[.val (.int p0), .val (.int p1), .val (.int ((p0 &&& (2147483647 : Int32)) % (13 : Int32))), .val (.int (0 : Int32)), .val (.ref w_8), .val (.ref b141), .unset, .unset, .unset]) rfl ?_
                    show Steps p.tables e below (T142.setTop (mkF m 38 #[.val (.int p0), .val (.int p1), .val (.int ((p0 &&& (2147483647 : Int32)) % (13 : Int32))), .val (.int (0 : Int32)), .val (.ref w_8), .val (.ref b141), .unset, .unset, .unset] [])) _
                    refine XS.iloadN X142.here hx rfl (hb hby at_38) rfl ?_
                    show Steps p.tables e below (T142.setTop (mkF m 39 #[.val (.int p0), .val (.int p1), .val (.int ((p0 &&& (2147483647 : Int32)) % (13 : Int32))), .val (.int (0 : Int32)), .val (.ref w_8), .val (.ref b141), .unset, .unset, .unset] [(.int (0 : Int32))])) _
                    refine XS.ifYes X142.here hx rfl (pc0 := 39) (pc' := 48) rfl (hb hby at_39) rfl ((if0 _ _).trans (teq (by decide : ((0 : Int32) = (0 : Int32)))).1) (by decide) (by decide) ?_
                    show Steps p.tables e below (T142.setTop (mkF m 48 #[.val (.int p0), .val (.int p1), .val (.int ((p0 &&& (2147483647 : Int32)) % (13 : Int32))), .val (.int (0 : Int32)), .val (.ref w_8), .val (.ref b141), .unset, .unset, .unset] [])) _
                    refine XS.iloadN X142.here hx rfl (hb hby at_48) rfl ?_
                    show Steps p.tables e below (T142.setTop (mkF m 49 #[.val (.int p0), .val (.int p1), .val (.int ((p0 &&& (2147483647 : Int32)) % (13 : Int32))), .val (.int (0 : Int32)), .val (.ref w_8), .val (.ref b141), .unset, .unset, .unset] [(.int ((p0 &&& (2147483647 : Int32)) % (13 : Int32)))])) _
                    refine XS.bipush X142.here hx rfl (hb hby at_49) ?_
                    show Steps p.tables e below (T142.setTop (mkF m 51 #[.val (.int p0), .val (.int p1), .val (.int ((p0 &&& (2147483647 : Int32)) % (13 : Int32))), .val (.int (0 : Int32)), .val (.ref w_8), .val (.ref b141), .unset, .unset, .unset] [(.int (12 : Int32)), (.int ((p0 &&& (2147483647 : Int32)) % (13 : Int32)))])) _
                    refine XS.icmpYes X142.here hx rfl (pc0 := 51) (pc' := 60) rfl (hb hby at_51) rfl (feq (by rw [hc139] <;> decide : ¬ (((p0 &&& (2147483647 : Int32)) % (13 : Int32)) = (12 : Int32)))).2 (by decide) (by decide) ?_
                    show Steps p.tables e below (T142.setTop (mkF m 60 #[.val (.int p0), .val (.int p1), .val (.int ((p0 &&& (2147483647 : Int32)) % (13 : Int32))), .val (.int (0 : Int32)), .val (.ref w_8), .val (.ref b141), .unset, .unset, .unset] [])) _
                    refine XS.iconst X142.here hx rfl (hb hby at_60) ?_
                    show Steps p.tables e below (T142.setTop (mkF m 61 #[.val (.int p0), .val (.int p1), .val (.int ((p0 &&& (2147483647 : Int32)) % (13 : Int32))), .val (.int (0 : Int32)), .val (.ref w_8), .val (.ref b141), .unset, .unset, .unset] [(.int (0 : Int32))])) _
                    refine XS.istore X142.here hx rfl (hb hby at_61) rfl (l' := #[.val (.int p0), .val (.int p1), .val (.int ((p0 &&& (2147483647 : Int32)) % (13 : Int32))), .val (.int (0 : Int32)), .val (.ref w_8), .val (.ref b141), .val (.int (0 : Int32)), .unset, .unset]) rfl ?_
                    show Steps p.tables e below (T142.setTop (mkF m 63 #[.val (.int p0), .val (.int p1), .val (.int ((p0 &&& (2147483647 : Int32)) % (13 : Int32))), .val (.int (0 : Int32)), .val (.ref w_8), .val (.ref b141), .val (.int (0 : Int32)), .unset, .unset] [])) _
                    refine XS.aload X142.here hx rfl (hb hby at_63) rfl rfl ?_
                    show Steps p.tables e below (T142.setTop (mkF m 65 #[.val (.int p0), .val (.int p1), .val (.int ((p0 &&& (2147483647 : Int32)) % (13 : Int32))), .val (.int (0 : Int32)), .val (.ref w_8), .val (.ref b141), .val (.int (0 : Int32)), .unset, .unset] [(.ref b141)])) _
                    refine st143.trans ?_
                    show Steps p.tables e below (T143.setTop (mkF m 68 #[.val (.int p0), .val (.int p1), .val (.int ((p0 &&& (2147483647 : Int32)) % (13 : Int32))), .val (.int (0 : Int32)), .val (.ref w_8), .val (.ref b141), .val (.int (0 : Int32)), .unset, .unset] [(.int (0 : Int32))])) _
                    refine XS.istore X143.here hx rfl (hb hby at_68) rfl (l' := #[.val (.int p0), .val (.int p1), .val (.int ((p0 &&& (2147483647 : Int32)) % (13 : Int32))), .val (.int (0 : Int32)), .val (.ref w_8), .val (.ref b141), .val (.int (0 : Int32)), .val (.int (0 : Int32)), .unset]) rfl ?_
                    show Steps p.tables e below (T143.setTop (mkF m 70 #[.val (.int p0), .val (.int p1), .val (.int ((p0 &&& (2147483647 : Int32)) % (13 : Int32))), .val (.int (0 : Int32)), .val (.ref w_8), .val (.ref b141), .val (.int (0 : Int32)), .val (.int (0 : Int32)), .unset] [])) _
                    refine XS.aload X143.here hx rfl (hb hby at_70) rfl rfl ?_
                    show Steps p.tables e below (T143.setTop (mkF m 72 #[.val (.int p0), .val (.int p1), .val (.int ((p0 &&& (2147483647 : Int32)) % (13 : Int32))), .val (.int (0 : Int32)), .val (.ref w_8), .val (.ref b141), .val (.int (0 : Int32)), .val (.int (0 : Int32)), .unset] [(.ref b141)])) _
                    refine st145 _ ?_
                    show Steps p.tables e below (T145.setTop (mkF m 75 #[.val (.int p0), .val (.int p1), .val (.int ((p0 &&& (2147483647 : Int32)) % (13 : Int32))), .val (.int (0 : Int32)), .val (.ref w_8), .val (.ref b141), .val (.int (0 : Int32)), .val (.int (0 : Int32)), .unset] [(.ref w_2), (.ref b141)])) _
                    refine st146.trans ?_
                    show Steps p.tables e below (T146.setTop (mkF m 78 #[.val (.int p0), .val (.int p1), .val (.int ((p0 &&& (2147483647 : Int32)) % (13 : Int32))), .val (.int (0 : Int32)), .val (.ref w_8), .val (.ref b141), .val (.int (0 : Int32)), .val (.int (0 : Int32)), .unset] [(.int (0 : Int32))])) _
                    refine XS.istore X146.here hx rfl (hb hby at_78) rfl (l' := #[.val (.int p0), .val (.int p1), .val (.int ((p0 &&& (2147483647 : Int32)) % (13 : Int32))), .val (.int (0 : Int32)), .val (.ref w_8), .val (.ref b141), .val (.int (0 : Int32)), .val (.int (0 : Int32)), .val (.int (0 : Int32))]) rfl ?_
                    show Steps p.tables e below (T146.setTop (mkF m 80 #[.val (.int p0), .val (.int p1), .val (.int ((p0 &&& (2147483647 : Int32)) % (13 : Int32))), .val (.int (0 : Int32)), .val (.ref w_8), .val (.ref b141), .val (.int (0 : Int32)), .val (.int (0 : Int32)), .val (.int (0 : Int32))] [])) _
                    refine XS.iload X146.here hx rfl (hb hby at_80) rfl ?_
                    show Steps p.tables e below (T146.setTop (mkF m 82 #[.val (.int p0), .val (.int p1), .val (.int ((p0 &&& (2147483647 : Int32)) % (13 : Int32))), .val (.int (0 : Int32)), .val (.ref w_8), .val (.ref b141), .val (.int (0 : Int32)), .val (.int (0 : Int32)), .val (.int (0 : Int32))] [(.int (0 : Int32))])) _
                    refine XS.iload X146.here hx rfl (hb hby at_82) rfl ?_
                    show Steps p.tables e below (T146.setTop (mkF m 84 #[.val (.int p0), .val (.int p1), .val (.int ((p0 &&& (2147483647 : Int32)) % (13 : Int32))), .val (.int (0 : Int32)), .val (.ref w_8), .val (.ref b141), .val (.int (0 : Int32)), .val (.int (0 : Int32)), .val (.int (0 : Int32))] [(.int (0 : Int32)), (.int (0 : Int32))])) _
                    refine XS.icmpNo X146.here hx rfl (hb hby at_84) rfl (teq (by decide : ((0 : Int32) = (0 : Int32)))).2 ?_
                    show Steps p.tables e below (T146.setTop (mkF m 87 #[.val (.int p0), .val (.int p1), .val (.int ((p0 &&& (2147483647 : Int32)) % (13 : Int32))), .val (.int (0 : Int32)), .val (.ref w_8), .val (.ref b141), .val (.int (0 : Int32)), .val (.int (0 : Int32)), .val (.int (0 : Int32))] [])) _
                    refine XS.iload X146.here hx rfl (hb hby at_87) rfl ?_
                    show Steps p.tables e below (T146.setTop (mkF m 89 #[.val (.int p0), .val (.int p1), .val (.int ((p0 &&& (2147483647 : Int32)) % (13 : Int32))), .val (.int (0 : Int32)), .val (.ref w_8), .val (.ref b141), .val (.int (0 : Int32)), .val (.int (0 : Int32)), .val (.int (0 : Int32))] [(.int (0 : Int32))])) _
                    refine XS.iload X146.here hx rfl (hb hby at_89) rfl ?_
                    show Steps p.tables e below (T146.setTop (mkF m 91 #[.val (.int p0), .val (.int p1), .val (.int ((p0 &&& (2147483647 : Int32)) % (13 : Int32))), .val (.int (0 : Int32)), .val (.ref w_8), .val (.ref b141), .val (.int (0 : Int32)), .val (.int (0 : Int32)), .val (.int (0 : Int32))] [(.int (0 : Int32)), (.int (0 : Int32))])) _
                    refine XS.icmpNo X146.here hx rfl (hb hby at_91) rfl (teq (by decide : ((0 : Int32) = (0 : Int32)))).2 ?_
                    show Steps p.tables e below (T146.setTop (mkF m 94 #[.val (.int p0), .val (.int p1), .val (.int ((p0 &&& (2147483647 : Int32)) % (13 : Int32))), .val (.int (0 : Int32)), .val (.ref w_8), .val (.ref b141), .val (.int (0 : Int32)), .val (.int (0 : Int32)), .val (.int (0 : Int32))] [])) _
                    refine XS.iconst X146.here hx rfl (hb hby at_94) ?_
                    show Steps p.tables e below (T146.setTop (mkF m 95 #[.val (.int p0), .val (.int p1), .val (.int ((p0 &&& (2147483647 : Int32)) % (13 : Int32))), .val (.int (0 : Int32)), .val (.ref w_8), .val (.ref b141), .val (.int (0 : Int32)), .val (.int (0 : Int32)), .val (.int (0 : Int32))] [(.int (1 : Int32))])) _
                    refine XS.goto X146.here hx rfl (pc0 := 95) (pc' := 99) rfl (hb hby at_95) (by decide) (by decide) ?_
                    show Steps p.tables e below (T146.setTop (mkF m 99 #[.val (.int p0), .val (.int p1), .val (.int ((p0 &&& (2147483647 : Int32)) % (13 : Int32))), .val (.int (0 : Int32)), .val (.ref w_8), .val (.ref b141), .val (.int (0 : Int32)), .val (.int (0 : Int32)), .val (.int (0 : Int32))] [(.int (1 : Int32))])) _
                    exact retN X146 hx (t := .boolean) Bd.returns (by simp) (hb hby at_99) hr
                  · show Q0 Z w_1 w_2 w_3 w_4 w_5 w_6 w_7 w_8 w_9 w_10 w_11 w_12 w_13 p0 p1 h0 n0 _ T146.heap _
                    rw [e146]
                    exact ⟨by unfold sp0; rw [if_pos hc30, if_neg hc68, if_neg hc99, if_neg hc107, if_neg hc115, if_neg hc123, if_neg hc131, if_pos hc139], N146, trivial⟩
                · by_cases hc147 : ((p0 &&& (2147483647 : Int32)) % (13 : Int32)) = (7 : Int32)
                  · obtain ⟨_, _, ⟨T148, L148, k148, n148⟩, -, X148, ⟨Lc148, hQ148, l148, y148, z148⟩, st148⟩ := Jvm.LawKit.callS X0 hx (y := Y0) hown (mvT hZ (hw _ (tk 1 rfl))) (mvT hZ (hw _ (tk 2 rfl))) (mvT hZ (hw _ (tk 3 rfl))) (mvT hZ (hw _ (tk 4 rfl))) (by decide) (backOf (W := 0) (rm1 l Z a0 hw [] w_1 w_2 w_3 w_4 w_5 w_6 w_7 w_8 w_9 w_10 w_11 w_12 w_13 hS0 ((p0 &&& (2147483647 : Int32)) % (13 : Int32)) h0 n0 O0) hZ (hw _ (tk 4 rfl)) (hw _ (tk 3 rfl)) (by decide) (by decide)) (g := (mkF m 21 #[.val (.int p0), .val (.int p1), .val (.int ((p0 &&& (2147483647 : Int32)) % (13 : Int32))), .val (.int (0 : Int32)), .unset, .unset, .unset, .unset, .unset] [(.int ((p0 &&& (2147483647 : Int32)) % (13 : Int32)))])) rfl (by rw [hml]; rfl) (argsL := [(.int ((p0 &&& (2147483647 : Int32)) % (13 : Int32)))]) (rest := []) (lenOf pd_0 rfl) rfl (by show 2 * 0 + _ ≤ _; exact Nat.le_of_eq rfl) (hb hby at_21) (fun _ _ => ⟨rfl, e0, (by decide : 0 + 0 ≤ _), (by decide : 0 + 0 ≤ _)⟩)
                    dsimp only [Pt.U, Pt.locs, Pt.cells, Pt.slots] at X148 l148 y148 z148 st148 hQ148
                    subst l148 y148 z148
                    obtain ⟨rv148, N148q, e148⟩ := hQ148
                    rw [show sp1 w_1 w_3 w_4 w_5 w_6 w_7 w_8 w_9 w_10 w_11 w_12 w_13 ((p0 &&& (2147483647 : Int32)) % (13 : Int32)) = (.ref w_13) from by unfold sp1; rw [if_neg hc68, if_neg hc99, if_neg hc107, if_neg hc115, if_neg hc123, if_neg hc131, if_neg hc139, if_pos hc147]] at rv148
                    subst rv148
                    have N148 := Fr.app N0 N148q
                    obtain ⟨T149, h149, X149, e149, E149, A149, D149, -, st149⟩ := newO X148 hx hZ hown (hw _ (tk 8 rfl)) (hw _ (tk 9 rfl)) (hw _ (tk 10 rfl)) e148 (g := (mkF m 26 #[.val (.int p0), .val (.int p1), .val (.int ((p0 &&& (2147483647 : Int32)) % (13 : Int32))), .val (.int (0 : Int32)), .val (.ref w_13), .unset, .unset, .unset, .unset] [])) rfl (hb hby at_26) (by decide) (by decide)
                    obtain ⟨b149, g149⟩ : ∃ z, z = h0.size := ⟨_, rfl⟩
                    rw [← g149] at A149 D149 st149
                    have g_b149 : n0 ≤ b149 := Nat.le_trans (own_old O0) (Nat.le_of_eq g149.symm)
                    have O149 : Old Z n0 h149 := O0.ext E149
                    have F_integer_b149 : Fld Z h149 b149 "com/example/discharge/discharge/frontend/Syntax$Type" "integer" "Lcom/example/discharge/discharge/frontend/IntegerType;" .null := D149 (Or.inr (hw _ (tk 23 rfl))) (ty := (.object "com/example/discharge/discharge/frontend/IntegerType")) (by decide)
                    have F_pointer_b149 : Fld Z h149 b149 "com/example/discharge/discharge/frontend/Syntax$Type" "pointer" "Z" (.int (0 : Int32)) := D149 (Or.inr (hw _ (tk 25 rfl))) (ty := .boolean) (by decide)
                    obtain ⟨_, _, ⟨T150, L150, k150, n150⟩, -, X150, ⟨Lc150, hQ150, l150, y150, z150⟩, st150⟩ := X149.specialBack hx (y := Y2) rfl hown (mvT hZ (hw _ (tk 11 rfl))) (mvT hZ (hw _ (tk 12 rfl))) (mvT hZ (hw _ (tk 13 rfl))) (by decide) (backOf (W := 1) (rm2x1 l Z a0 hw [] w_1 w_2 w_3 w_4 w_5 w_6 w_7 w_8 w_9 w_10 w_11 w_12 w_13 hS0 b149 w_13 (0 : Int32) h149 n0 O149 g_b149 A149 F_integer_b149 F_pointer_b149) hZ (hw _ (tk 13 rfl)) (hw _ (tk 10 rfl)) (by decide) (by decide)) (g := (mkF m 33 #[.val (.int p0), .val (.int p1), .val (.int ((p0 &&& (2147483647 : Int32)) % (13 : Int32))), .val (.int (0 : Int32)), .val (.ref w_13), .unset, .unset, .unset, .unset] [(.int (0 : Int32)), (.ref w_13), (.ref b149), (.ref b149)])) rfl (by rw [hml]; rfl) (Steps.refl _) (a := b149) (argsL := [(.ref w_13), (.int (0 : Int32))]) (rest := [(.ref b149)]) (lenOf pd_2 rfl) rfl (by show 2 * 0 + _ ≤ _; exact Nat.le_of_eq rfl) (hb hby at_33) (fun _ _ => ⟨rfl, e149, (by decide : 1 + 0 ≤ _), (by decide : 2 + 0 ≤ _)⟩)
                    dsimp only [Pt.U, Pt.locs, Pt.cells, Pt.slots] at X150 l150 y150 z150 st150 hQ150
                    subst l150 y150 z150
                    obtain ⟨rv150, N150q, O150, K150c, Fe150_0, Fe150_1⟩ := hQ150
                    subst rv150
                    have N150 := Fr.app N148 N150q
                    have c152 := (A149.keep K150c)
                    obtain ⟨cq151, kq151, q151a, q151b, q151c⟩ := isOf hZ rfl c152
                    obtain ⟨_, _, ⟨T151, L151, k151, n151⟩, -, X151, ⟨Lc151, hQ151, l151, y151, z151⟩, st151⟩ := X150.virtualBack hx (y := Y3) (z := Y3) hown (mvT hZ (hw _ (tk 26 rfl))) (mvT hZ (hw _ (tk 27 rfl))) (notFace_of_selects (args := #[]) (mvT hZ (hw _ (tk 29 rfl)))) (mvT hZ (hw _ (tk 29 rfl))) (mvT hZ (hw _ (tk 28 rfl))) (by decide) (backOf (W := 0) (rm5 l Z a0 hw [] w_1 w_2 w_3 w_4 w_5 w_6 w_7 w_8 w_9 w_10 w_11 w_12 w_13 hS0 b149 (.ref w_13) (nar .boolean (0 : Int32)) T150.heap n0 O150 Fe150_0 rfl Fe150_1) hZ (hw _ (tk 30 rfl)) (hw _ (tk 10 rfl)) (by decide) (by decide)) q151a q151c (g := (mkF m 65 #[.val (.int p0), .val (.int p1), .val (.int ((p0 &&& (2147483647 : Int32)) % (13 : Int32))), .val (.int (0 : Int32)), .val (.ref w_13), .val (.ref b149), .val (.int (0 : Int32)), .unset, .unset] [(.ref b149)])) rfl (by rw [hml]; rfl) (Steps.refl _) (argsL := []) (rest := []) (lenOf pd_3 rfl) rfl (by show 2 * 0 + _ ≤ _; exact Nat.le_of_eq rfl) (hb hby at_65) (fun _ _ => ⟨rfl, rfl, (by decide : 1 + 0 ≤ _), (by decide : 2 + 0 ≤ _)⟩)
                    dsimp only [Pt.U, Pt.locs, Pt.cells, Pt.slots] at X151 l151 y151 z151 st151 hQ151
                    subst l151 y151 z151
                    obtain ⟨rv151, N151q, e151⟩ := hQ151
                    rw [show sp5 (.ref w_13) (nar .boolean (0 : Int32)) = (0 : Int32) from by unfold sp5; rw [if_neg (nofun : ¬ ((.ref w_13) : Value) = .null)]] at rv151
                    subst rv151
                    have N151 := Fr.app N150 N151q
                    obtain ⟨T153, X153, e153, st153⟩ := getS2 X151 hx hZ hown (host := "") (Or.inl (hw _ (tk 31 rfl))) Via.refl e151 (S_2.ext O150.2) (g := (mkF m 72 #[.val (.int p0), .val (.int p1), .val (.int ((p0 &&& (2147483647 : Int32)) % (13 : Int32))), .val (.int (0 : Int32)), .val (.ref w_13), .val (.ref b149), .val (.int (0 : Int32)), .val (.int (0 : Int32)), .unset] [(.ref b149)])) rfl (hb hby at_72)
                    obtain ⟨cq154, kq154, q154a, q154b, q154c⟩ := isOf hZ e153 c152
                    obtain ⟨_, _, ⟨T154, L154, k154, n154⟩, -, X154, ⟨Lc154, hQ154, l154, y154, z154⟩, st154⟩ := X153.virtualBack hx (y := Y4) (z := Y4) hown (mvT hZ (hw _ (tk 33 rfl))) (mvT hZ (hw _ (tk 34 rfl))) (notFace_of_selects (args := #[]) (mvT hZ (hw _ (tk 36 rfl)))) (mvT hZ (hw _ (tk 36 rfl))) (mvT hZ (hw _ (tk 35 rfl))) (by decide) (backOf (W := 0) (rm6c1 l Z a0 hw [] w_1 w_2 w_3 w_4 w_5 w_6 w_7 w_8 w_9 w_10 w_11 w_12 w_13 hS0 b149 w_2 .null (.ref w_13) (0 : Int32) (nar .boolean (0 : Int32)) T150.heap n0 O150 (E_2.ext O150.2) (F_2_integer.ext O150.2) rfl Fe150_0 rfl (F_2_pointer.ext O150.2) Fe150_1) hZ (hw _ (tk 37 rfl)) (hw _ (tk 10 rfl)) (by decide) (by decide)) q154a q154c (g := (mkF m 75 #[.val (.int p0), .val (.int p1), .val (.int ((p0 &&& (2147483647 : Int32)) % (13 : Int32))), .val (.int (0 : Int32)), .val (.ref w_13), .val (.ref b149), .val (.int (0 : Int32)), .val (.int (0 : Int32)), .unset] [(.ref w_2), (.ref b149)])) rfl (by rw [hml]; rfl) (Steps.refl _) (argsL := [(.ref w_2)]) (rest := []) (lenOf pd_4 rfl) rfl (by show 2 * 0 + _ ≤ _; exact Nat.le_of_eq rfl) (hb hby at_75) (fun _ _ => ⟨rfl, e153, (by decide : 1 + 0 ≤ _), (by decide : 2 + 0 ≤ _)⟩)
                    dsimp only [Pt.U, Pt.locs, Pt.cells, Pt.slots] at X154 l154 y154 z154 st154 hQ154
                    subst l154 y154 z154
                    obtain ⟨rv154, N154q, e154⟩ := hQ154
                    rw [show sp6c1 .null (.ref w_13) (0 : Int32) (nar .boolean (0 : Int32)) = (0 : Int32) from by unfold sp6c1; rw [if_neg (nofun : ¬ (.null : Value) = (.ref w_13))]] at rv154
                    subst rv154
                    have N154 := Fr.app N151 N154q
                    obtain ⟨fs, hr, hrun, hended, hW, hsame⟩ := X154.leave (v := some (.int (1 : Int32))) (fun h => by rw [Bd.returns] at h; cases h)
                    refine ⟨_, _, pre67 _ ?_, hrun, hended, _, _, rfl, ?_, ⟨_, rfl⟩, hW, hsame.mono (by decide) (by decide)⟩
                    · show Steps p.tables e below (s₁.setTop (mkF m 21 #[.val (.int p0), .val (.int p1), .val (.int ((p0 &&& (2147483647 : Int32)) % (13 : Int32))), .val (.int (0 : Int32)), .unset, .unset, .unset, .unset, .unset] [(.int ((p0 &&& (2147483647 : Int32)) % (13 : Int32)))])) _
                      refine st148 _ ?_
                      show Steps p.tables e below (T148.setTop (mkF m 24 #[.val (.int p0), .val (.int p1), .val (.int ((p0 &&& (2147483647 : Int32)) % (13 : Int32))), .val (.int (0 : Int32)), .unset, .unset, .unset, .unset, .unset] [(.ref w_13)])) _
                      refine XS.astore X148.here hx rfl (hb hby at_24) rfl rfl (l' := #[.val (.int p0), .val (.int p1), .val (.int ((p0 &&& (2147483647 : Int32)) % (13 : Int32))), .val (.int (0 : Int32)), .val (.ref w_13), .unset, .unset, .unset, .unset]) rfl ?_
                      show Steps p.tables e below (T148.setTop (mkF m 26 #[.val (.int p0), .val (.int p1), .val (.int ((p0 &&& (2147483647 : Int32)) % (13 : Int32))), .val (.int (0 : Int32)), .val (.ref w_13), .unset, .unset, .unset, .unset] [])) _
                      refine st149 _ ?_
                      show Steps p.tables e below (T149.setTop (mkF m 29 #[.val (.int p0), .val (.int p1), .val (.int ((p0 &&& (2147483647 : Int32)) % (13 : Int32))), .val (.int (0 : Int32)), .val (.ref w_13), .unset, .unset, .unset, .unset] [(.ref b149)])) _
                      refine XS.dup X149.here hx rfl (hb hby at_29) rfl rfl ?_
                      show Steps p.tables e below (T149.setTop (mkF m 30 #[.val (.int p0), .val (.int p1), .val (.int ((p0 &&& (2147483647 : Int32)) % (13 : Int32))), .val (.int (0 : Int32)), .val (.ref w_13), .unset, .unset, .unset, .unset] [(.ref b149), (.ref b149)])) _
                      refine XS.aload X149.here hx rfl (hb hby at_30) rfl rfl ?_
                      show Steps p.tables e below (T149.setTop (mkF m 32 #[.val (.int p0), .val (.int p1), .val (.int ((p0 &&& (2147483647 : Int32)) % (13 : Int32))), .val (.int (0 : Int32)), .val (.ref w_13), .unset, .unset, .unset, .unset] [(.ref w_13), (.ref b149), (.ref b149)])) _
                      refine XS.iloadN X149.here hx rfl (hb hby at_32) rfl ?_
                      show Steps p.tables e below (T149.setTop (mkF m 33 #[.val (.int p0), .val (.int p1), .val (.int ((p0 &&& (2147483647 : Int32)) % (13 : Int32))), .val (.int (0 : Int32)), .val (.ref w_13), .unset, .unset, .unset, .unset] [(.int (0 : Int32)), (.ref w_13), (.ref b149), (.ref b149)])) _
                      refine st150.trans ?_
                      show Steps p.tables e below (T150.setTop (mkF m 36 #[.val (.int p0), .val (.int p1), .val (.int ((p0 &&& (2147483647 : Int32)) % (13 : Int32))), .val (.int (0 : Int32)), .val (.ref w_13), .unset, .unset, .unset, .unset] [(.ref b149)])) _
                      refine XS.astore X150.here hx rfl (hb hby at_36) rfl rfl (l' := #[.val (.int p0), .val (.int p1), .val (.int ((p0 &&& (2147483647 : Int32)) % (13 : Int32))), .val (.int (0 : Int32)), .val (.ref w_13), .val (.ref b149), .unset, .unset, .unset]) rfl ?_
                      show Steps p.tables e below (T150.setTop (mkF m 38 #[.val (.int p0), .val (.int p1), .val (.int ((p0 &&& (2147483647 : Int32)) % (13 : Int32))), .val (.int (0 : Int32)), .val (.ref w_13), .val (.ref b149), .unset, .unset, .unset] [])) _
                      refine XS.iloadN X150.here hx rfl (hb hby at_38) rfl ?_
                      show Steps p.tables e below (T150.setTop (mkF m 39 #[.val (.int p0), .val (.int p1), .val (.int ((p0 &&& (2147483647 : Int32)) % (13 : Int32))), .val (.int (0 : Int32)), .val (.ref w_13), .val (.ref b149), .unset, .unset, .unset] [(.int (0 : Int32))])) _
                      refine XS.ifYes X150.here hx rfl (pc0 := 39) (pc' := 48) rfl (hb hby at_39) rfl ((if0 _ _).trans (teq (by decide : ((0 : Int32) = (0 : Int32)))).1) (by decide) (by decide) ?_
                      show Steps p.tables e below (T150.setTop (mkF m 48 #[.val (.int p0), .val (.int p1), .val (.int ((p0 &&& (2147483647 : Int32)) % (13 : Int32))), .val (.int (0 : Int32)), .val (.ref w_13), .val (.ref b149), .unset, .unset, .unset] [])) _
                      refine XS.iloadN X150.here hx rfl (hb hby at_48) rfl ?_
                      show Steps p.tables e below (T150.setTop (mkF m 49 #[.val (.int p0), .val (.int p1), .val (.int ((p0 &&& (2147483647 : Int32)) % (13 : Int32))), .val (.int (0 : Int32)), .val (.ref w_13), .val (.ref b149), .unset, .unset, .unset] [(.int ((p0 &&& (2147483647 : Int32)) % (13 : Int32)))])) _
                      refine XS.bipush X150.here hx rfl (hb hby at_49) ?_
                      show Steps p.tables e below (T150.setTop (mkF m 51 #[.val (.int p0), .val (.int p1), .val (.int ((p0 &&& (2147483647 : Int32)) % (13 : Int32))), .val (.int (0 : Int32)), .val (.ref w_13), .val (.ref b149), .unset, .unset, .unset] [(.int (12 : Int32)), (.int ((p0 &&& (2147483647 : Int32)) % (13 : Int32)))])) _
                      refine XS.icmpYes X150.here hx rfl (pc0 := 51) (pc' := 60) rfl (hb hby at_51) rfl (feq (by rw [hc147] <;> decide : ¬ (((p0 &&& (2147483647 : Int32)) % (13 : Int32)) = (12 : Int32)))).2 (by decide) (by decide) ?_
                      show Steps p.tables e below (T150.setTop (mkF m 60 #[.val (.int p0), .val (.int p1), .val (.int ((p0 &&& (2147483647 : Int32)) % (13 : Int32))), .val (.int (0 : Int32)), .val (.ref w_13), .val (.ref b149), .unset, .unset, .unset] [])) _
                      refine XS.iconst X150.here hx rfl (hb hby at_60) ?_
                      show Steps p.tables e below (T150.setTop (mkF m 61 #[.val (.int p0), .val (.int p1), .val (.int ((p0 &&& (2147483647 : Int32)) % (13 : Int32))), .val (.int (0 : Int32)), .val (.ref w_13), .val (.ref b149), .unset, .unset, .unset] [(.int (0 : Int32))])) _
                      refine XS.istore X150.here hx rfl (hb hby at_61) rfl (l' := #[.val (.int p0), .val (.int p1), .val (.int ((p0 &&& (2147483647 : Int32)) % (13 : Int32))), .val (.int (0 : Int32)), .val (.ref w_13), .val (.ref b149), .val (.int (0 : Int32)), .unset, .unset]) rfl ?_
                      show Steps p.tables e below (T150.setTop (mkF m 63 #[.val (.int p0), .val (.int p1), .val (.int ((p0 &&& (2147483647 : Int32)) % (13 : Int32))), .val (.int (0 : Int32)), .val (.ref w_13), .val (.ref b149), .val (.int (0 : Int32)), .unset, .unset] [])) _
                      refine XS.aload X150.here hx rfl (hb hby at_63) rfl rfl ?_
                      show Steps p.tables e below (T150.setTop (mkF m 65 #[.val (.int p0), .val (.int p1), .val (.int ((p0 &&& (2147483647 : Int32)) % (13 : Int32))), .val (.int (0 : Int32)), .val (.ref w_13), .val (.ref b149), .val (.int (0 : Int32)), .unset, .unset] [(.ref b149)])) _
                      refine st151.trans ?_
                      show Steps p.tables e below (T151.setTop (mkF m 68 #[.val (.int p0), .val (.int p1), .val (.int ((p0 &&& (2147483647 : Int32)) % (13 : Int32))), .val (.int (0 : Int32)), .val (.ref w_13), .val (.ref b149), .val (.int (0 : Int32)), .unset, .unset] [(.int (0 : Int32))])) _
                      refine XS.istore X151.here hx rfl (hb hby at_68) rfl (l' := #[.val (.int p0), .val (.int p1), .val (.int ((p0 &&& (2147483647 : Int32)) % (13 : Int32))), .val (.int (0 : Int32)), .val (.ref w_13), .val (.ref b149), .val (.int (0 : Int32)), .val (.int (0 : Int32)), .unset]) rfl ?_
                      show Steps p.tables e below (T151.setTop (mkF m 70 #[.val (.int p0), .val (.int p1), .val (.int ((p0 &&& (2147483647 : Int32)) % (13 : Int32))), .val (.int (0 : Int32)), .val (.ref w_13), .val (.ref b149), .val (.int (0 : Int32)), .val (.int (0 : Int32)), .unset] [])) _
                      refine XS.aload X151.here hx rfl (hb hby at_70) rfl rfl ?_
                      show Steps p.tables e below (T151.setTop (mkF m 72 #[.val (.int p0), .val (.int p1), .val (.int ((p0 &&& (2147483647 : Int32)) % (13 : Int32))), .val (.int (0 : Int32)), .val (.ref w_13), .val (.ref b149), .val (.int (0 : Int32)), .val (.int (0 : Int32)), .unset] [(.ref b149)])) _
                      refine st153 _ ?_
                      show Steps p.tables e below (T153.setTop (mkF m 75 #[.val (.int p0), .val (.int p1), .val (.int ((p0 &&& (2147483647 : Int32)) % (13 : Int32))), .val (.int (0 : Int32)), .val (.ref w_13), .val (.ref b149), .val (.int (0 : Int32)), .val (.int (0 : Int32)), .unset] [(.ref w_2), (.ref b149)])) _
                      refine st154.trans ?_
                      show Steps p.tables e below (T154.setTop (mkF m 78 #[.val (.int p0), .val (.int p1), .val (.int ((p0 &&& (2147483647 : Int32)) % (13 : Int32))), .val (.int (0 : Int32)), .val (.ref w_13), .val (.ref b149), .val (.int (0 : Int32)), .val (.int (0 : Int32)), .unset] [(.int (0 : Int32))])) _
                      refine XS.istore X154.here hx rfl (hb hby at_78) rfl (l' := #[.val (.int p0), .val (.int p1), .val (.int ((p0 &&& (2147483647 : Int32)) % (13 : Int32))), .val (.int (0 : Int32)), .val (.ref w_13), .val (.ref b149), .val (.int (0 : Int32)), .val (.int (0 : Int32)), .val (.int (0 : Int32))]) rfl ?_
                      show Steps p.tables e below (T154.setTop (mkF m 80 #[.val (.int p0), .val (.int p1), .val (.int ((p0 &&& (2147483647 : Int32)) % (13 : Int32))), .val (.int (0 : Int32)), .val (.ref w_13), .val (.ref b149), .val (.int (0 : Int32)), .val (.int (0 : Int32)), .val (.int (0 : Int32))] [])) _
                      refine XS.iload X154.here hx rfl (hb hby at_80) rfl ?_
                      show Steps p.tables e below (T154.setTop (mkF m 82 #[.val (.int p0), .val (.int p1), .val (.int ((p0 &&& (2147483647 : Int32)) % (13 : Int32))), .val (.int (0 : Int32)), .val (.ref w_13), .val (.ref b149), .val (.int (0 : Int32)), .val (.int (0 : Int32)), .val (.int (0 : Int32))] [(.int (0 : Int32))])) _
                      refine XS.iload X154.here hx rfl (hb hby at_82) rfl ?_
                      show Steps p.tables e below (T154.setTop (mkF m 84 #[.val (.int p0), .val (.int p1), .val (.int ((p0 &&& (2147483647 : Int32)) % (13 : Int32))), .val (.int (0 : Int32)), .val (.ref w_13), .val (.ref b149), .val (.int (0 : Int32)), .val (.int (0 : Int32)), .val (.int (0 : Int32))] [(.int (0 : Int32)), (.int (0 : Int32))])) _
                      refine XS.icmpNo X154.here hx rfl (hb hby at_84) rfl (teq (by decide : ((0 : Int32) = (0 : Int32)))).2 ?_
                      show Steps p.tables e below (T154.setTop (mkF m 87 #[.val (.int p0), .val (.int p1), .val (.int ((p0 &&& (2147483647 : Int32)) % (13 : Int32))), .val (.int (0 : Int32)), .val (.ref w_13), .val (.ref b149), .val (.int (0 : Int32)), .val (.int (0 : Int32)), .val (.int (0 : Int32))] [])) _
                      refine XS.iload X154.here hx rfl (hb hby at_87) rfl ?_
                      show Steps p.tables e below (T154.setTop (mkF m 89 #[.val (.int p0), .val (.int p1), .val (.int ((p0 &&& (2147483647 : Int32)) % (13 : Int32))), .val (.int (0 : Int32)), .val (.ref w_13), .val (.ref b149), .val (.int (0 : Int32)), .val (.int (0 : Int32)), .val (.int (0 : Int32))] [(.int (0 : Int32))])) _
                      refine XS.iload X154.here hx rfl (hb hby at_89) rfl ?_
                      show Steps p.tables e below (T154.setTop (mkF m 91 #[.val (.int p0), .val (.int p1), .val (.int ((p0 &&& (2147483647 : Int32)) % (13 : Int32))), .val (.int (0 : Int32)), .val (.ref w_13), .val (.ref b149), .val (.int (0 : Int32)), .val (.int (0 : Int32)), .val (.int (0 : Int32))] [(.int (0 : Int32)), (.int (0 : Int32))])) _
                      refine XS.icmpNo X154.here hx rfl (hb hby at_91) rfl (teq (by decide : ((0 : Int32) = (0 : Int32)))).2 ?_
                      show Steps p.tables e below (T154.setTop (mkF m 94 #[.val (.int p0), .val (.int p1), .val (.int ((p0 &&& (2147483647 : Int32)) % (13 : Int32))), .val (.int (0 : Int32)), .val (.ref w_13), .val (.ref b149), .val (.int (0 : Int32)), .val (.int (0 : Int32)), .val (.int (0 : Int32))] [])) _
                      refine XS.iconst X154.here hx rfl (hb hby at_94) ?_
                      show Steps p.tables e below (T154.setTop (mkF m 95 #[.val (.int p0), .val (.int p1), .val (.int ((p0 &&& (2147483647 : Int32)) % (13 : Int32))), .val (.int (0 : Int32)), .val (.ref w_13), .val (.ref b149), .val (.int (0 : Int32)), .val (.int (0 : Int32)), .val (.int (0 : Int32))] [(.int (1 : Int32))])) _
                      refine XS.goto X154.here hx rfl (pc0 := 95) (pc' := 99) rfl (hb hby at_95) (by decide) (by decide) ?_
                      show Steps p.tables e below (T154.setTop (mkF m 99 #[.val (.int p0), .val (.int p1), .val (.int ((p0 &&& (2147483647 : Int32)) % (13 : Int32))), .val (.int (0 : Int32)), .val (.ref w_13), .val (.ref b149), .val (.int (0 : Int32)), .val (.int (0 : Int32)), .val (.int (0 : Int32))] [(.int (1 : Int32))])) _
                      exact retN X154 hx (t := .boolean) Bd.returns (by simp) (hb hby at_99) hr
                    · show Q0 Z w_1 w_2 w_3 w_4 w_5 w_6 w_7 w_8 w_9 w_10 w_11 w_12 w_13 p0 p1 h0 n0 _ T154.heap _
                      rw [e154]
                      exact ⟨by unfold sp0; rw [if_pos hc30, if_neg hc68, if_neg hc99, if_neg hc107, if_neg hc115, if_neg hc123, if_neg hc131, if_neg hc139, if_pos hc147], N154, trivial⟩
                  · by_cases hc155 : ((p0 &&& (2147483647 : Int32)) % (13 : Int32)) = (8 : Int32)
                    · obtain ⟨_, _, ⟨T156, L156, k156, n156⟩, -, X156, ⟨Lc156, hQ156, l156, y156, z156⟩, st156⟩ := Jvm.LawKit.callS X0 hx (y := Y0) hown (mvT hZ (hw _ (tk 1 rfl))) (mvT hZ (hw _ (tk 2 rfl))) (mvT hZ (hw _ (tk 3 rfl))) (mvT hZ (hw _ (tk 4 rfl))) (by decide) (backOf (W := 0) (rm1 l Z a0 hw [] w_1 w_2 w_3 w_4 w_5 w_6 w_7 w_8 w_9 w_10 w_11 w_12 w_13 hS0 ((p0 &&& (2147483647 : Int32)) % (13 : Int32)) h0 n0 O0) hZ (hw _ (tk 4 rfl)) (hw _ (tk 3 rfl)) (by decide) (by decide)) (g := (mkF m 21 #[.val (.int p0), .val (.int p1), .val (.int ((p0 &&& (2147483647 : Int32)) % (13 : Int32))), .val (.int (0 : Int32)), .unset, .unset, .unset, .unset, .unset] [(.int ((p0 &&& (2147483647 : Int32)) % (13 : Int32)))])) rfl (by rw [hml]; rfl) (argsL := [(.int ((p0 &&& (2147483647 : Int32)) % (13 : Int32)))]) (rest := []) (lenOf pd_0 rfl) rfl (by show 2 * 0 + _ ≤ _; exact Nat.le_of_eq rfl) (hb hby at_21) (fun _ _ => ⟨rfl, e0, (by decide : 0 + 0 ≤ _), (by decide : 0 + 0 ≤ _)⟩)
                      dsimp only [Pt.U, Pt.locs, Pt.cells, Pt.slots] at X156 l156 y156 z156 st156 hQ156
                      subst l156 y156 z156
                      obtain ⟨rv156, N156q, e156⟩ := hQ156
                      rw [show sp1 w_1 w_3 w_4 w_5 w_6 w_7 w_8 w_9 w_10 w_11 w_12 w_13 ((p0 &&& (2147483647 : Int32)) % (13 : Int32)) = (.ref w_9) from by unfold sp1; rw [if_neg hc68, if_neg hc99, if_neg hc107, if_neg hc115, if_neg hc123, if_neg hc131, if_neg hc139, if_neg hc147, if_pos hc155]] at rv156
                      subst rv156
                      have N156 := Fr.app N0 N156q
                      obtain ⟨T157, h157, X157, e157, E157, A157, D157, -, st157⟩ := newO X156 hx hZ hown (hw _ (tk 8 rfl)) (hw _ (tk 9 rfl)) (hw _ (tk 10 rfl)) e156 (g := (mkF m 26 #[.val (.int p0), .val (.int p1), .val (.int ((p0 &&& (2147483647 : Int32)) % (13 : Int32))), .val (.int (0 : Int32)), .val (.ref w_9), .unset, .unset, .unset, .unset] [])) rfl (hb hby at_26) (by decide) (by decide)
                      obtain ⟨b157, g157⟩ : ∃ z, z = h0.size := ⟨_, rfl⟩
                      rw [← g157] at A157 D157 st157
                      have g_b157 : n0 ≤ b157 := Nat.le_trans (own_old O0) (Nat.le_of_eq g157.symm)
                      have O157 : Old Z n0 h157 := O0.ext E157
                      have F_integer_b157 : Fld Z h157 b157 "com/example/discharge/discharge/frontend/Syntax$Type" "integer" "Lcom/example/discharge/discharge/frontend/IntegerType;" .null := D157 (Or.inr (hw _ (tk 23 rfl))) (ty := (.object "com/example/discharge/discharge/frontend/IntegerType")) (by decide)
                      have F_pointer_b157 : Fld Z h157 b157 "com/example/discharge/discharge/frontend/Syntax$Type" "pointer" "Z" (.int (0 : Int32)) := D157 (Or.inr (hw _ (tk 25 rfl))) (ty := .boolean) (by decide)
                      obtain ⟨_, _, ⟨T158, L158, k158, n158⟩, -, X158, ⟨Lc158, hQ158, l158, y158, z158⟩, st158⟩ := X157.specialBack hx (y := Y2) rfl hown (mvT hZ (hw _ (tk 11 rfl))) (mvT hZ (hw _ (tk 12 rfl))) (mvT hZ (hw _ (tk 13 rfl))) (by decide) (backOf (W := 1) (rm2x1 l Z a0 hw [] w_1 w_2 w_3 w_4 w_5 w_6 w_7 w_8 w_9 w_10 w_11 w_12 w_13 hS0 b157 w_9 (0 : Int32) h157 n0 O157 g_b157 A157 F_integer_b157 F_pointer_b157) hZ (hw _ (tk 13 rfl)) (hw _ (tk 10 rfl)) (by decide) (by decide)) (g := (mkF m 33 #[.val (.int p0), .val (.int p1), .val (.int ((p0 &&& (2147483647 : Int32)) % (13 : Int32))), .val (.int (0 : Int32)), .val (.ref w_9), .unset, .unset, .unset, .unset] [(.int (0 : Int32)), (.ref w_9), (.ref b157), (.ref b157)])) rfl (by rw [hml]; rfl) (Steps.refl _) (a := b157) (argsL := [(.ref w_9), (.int (0 : Int32))]) (rest := [(.ref b157)]) (lenOf pd_2 rfl) rfl (by show 2 * 0 + _ ≤ _; exact Nat.le_of_eq rfl) (hb hby at_33) (fun _ _ => ⟨rfl, e157, (by decide : 1 + 0 ≤ _), (by decide : 2 + 0 ≤ _)⟩)
                      dsimp only [Pt.U, Pt.locs, Pt.cells, Pt.slots] at X158 l158 y158 z158 st158 hQ158
                      subst l158 y158 z158
                      obtain ⟨rv158, N158q, O158, K158c, Fe158_0, Fe158_1⟩ := hQ158
                      subst rv158
                      have N158 := Fr.app N156 N158q
                      have c160 := (A157.keep K158c)
                      obtain ⟨cq159, kq159, q159a, q159b, q159c⟩ := isOf hZ rfl c160
                      obtain ⟨_, _, ⟨T159, L159, k159, n159⟩, -, X159, ⟨Lc159, hQ159, l159, y159, z159⟩, st159⟩ := X158.virtualBack hx (y := Y3) (z := Y3) hown (mvT hZ (hw _ (tk 26 rfl))) (mvT hZ (hw _ (tk 27 rfl))) (notFace_of_selects (args := #[]) (mvT hZ (hw _ (tk 29 rfl)))) (mvT hZ (hw _ (tk 29 rfl))) (mvT hZ (hw _ (tk 28 rfl))) (by decide) (backOf (W := 0) (rm5 l Z a0 hw [] w_1 w_2 w_3 w_4 w_5 w_6 w_7 w_8 w_9 w_10 w_11 w_12 w_13 hS0 b157 (.ref w_9) (nar .boolean (0 : Int32)) T158.heap n0 O158 Fe158_0 rfl Fe158_1) hZ (hw _ (tk 30 rfl)) (hw _ (tk 10 rfl)) (by decide) (by decide)) q159a q159c (g := (mkF m 65 #[.val (.int p0), .val (.int p1), .val (.int ((p0 &&& (2147483647 : Int32)) % (13 : Int32))), .val (.int (0 : Int32)), .val (.ref w_9), .val (.ref b157), .val (.int (0 : Int32)), .unset, .unset] [(.ref b157)])) rfl (by rw [hml]; rfl) (Steps.refl _) (argsL := []) (rest := []) (lenOf pd_3 rfl) rfl (by show 2 * 0 + _ ≤ _; exact Nat.le_of_eq rfl) (hb hby at_65) (fun _ _ => ⟨rfl, rfl, (by decide : 1 + 0 ≤ _), (by decide : 2 + 0 ≤ _)⟩)
                      dsimp only [Pt.U, Pt.locs, Pt.cells, Pt.slots] at X159 l159 y159 z159 st159 hQ159
                      subst l159 y159 z159
                      obtain ⟨rv159, N159q, e159⟩ := hQ159
                      rw [show sp5 (.ref w_9) (nar .boolean (0 : Int32)) = (0 : Int32) from by unfold sp5; rw [if_neg (nofun : ¬ ((.ref w_9) : Value) = .null)]] at rv159
                      subst rv159
                      have N159 := Fr.app N158 N159q
                      obtain ⟨T161, X161, e161, st161⟩ := getS2 X159 hx hZ hown (host := "") (Or.inl (hw _ (tk 31 rfl))) Via.refl e159 (S_2.ext O158.2) (g := (mkF m 72 #[.val (.int p0), .val (.int p1), .val (.int ((p0 &&& (2147483647 : Int32)) % (13 : Int32))), .val (.int (0 : Int32)), .val (.ref w_9), .val (.ref b157), .val (.int (0 : Int32)), .val (.int (0 : Int32)), .unset] [(.ref b157)])) rfl (hb hby at_72)
                      obtain ⟨cq162, kq162, q162a, q162b, q162c⟩ := isOf hZ e161 c160
                      obtain ⟨_, _, ⟨T162, L162, k162, n162⟩, -, X162, ⟨Lc162, hQ162, l162, y162, z162⟩, st162⟩ := X161.virtualBack hx (y := Y4) (z := Y4) hown (mvT hZ (hw _ (tk 33 rfl))) (mvT hZ (hw _ (tk 34 rfl))) (notFace_of_selects (args := #[]) (mvT hZ (hw _ (tk 36 rfl)))) (mvT hZ (hw _ (tk 36 rfl))) (mvT hZ (hw _ (tk 35 rfl))) (by decide) (backOf (W := 0) (rm6c1 l Z a0 hw [] w_1 w_2 w_3 w_4 w_5 w_6 w_7 w_8 w_9 w_10 w_11 w_12 w_13 hS0 b157 w_2 .null (.ref w_9) (0 : Int32) (nar .boolean (0 : Int32)) T158.heap n0 O158 (E_2.ext O158.2) (F_2_integer.ext O158.2) rfl Fe158_0 rfl (F_2_pointer.ext O158.2) Fe158_1) hZ (hw _ (tk 37 rfl)) (hw _ (tk 10 rfl)) (by decide) (by decide)) q162a q162c (g := (mkF m 75 #[.val (.int p0), .val (.int p1), .val (.int ((p0 &&& (2147483647 : Int32)) % (13 : Int32))), .val (.int (0 : Int32)), .val (.ref w_9), .val (.ref b157), .val (.int (0 : Int32)), .val (.int (0 : Int32)), .unset] [(.ref w_2), (.ref b157)])) rfl (by rw [hml]; rfl) (Steps.refl _) (argsL := [(.ref w_2)]) (rest := []) (lenOf pd_4 rfl) rfl (by show 2 * 0 + _ ≤ _; exact Nat.le_of_eq rfl) (hb hby at_75) (fun _ _ => ⟨rfl, e161, (by decide : 1 + 0 ≤ _), (by decide : 2 + 0 ≤ _)⟩)
                      dsimp only [Pt.U, Pt.locs, Pt.cells, Pt.slots] at X162 l162 y162 z162 st162 hQ162
                      subst l162 y162 z162
                      obtain ⟨rv162, N162q, e162⟩ := hQ162
                      rw [show sp6c1 .null (.ref w_9) (0 : Int32) (nar .boolean (0 : Int32)) = (0 : Int32) from by unfold sp6c1; rw [if_neg (nofun : ¬ (.null : Value) = (.ref w_9))]] at rv162
                      subst rv162
                      have N162 := Fr.app N159 N162q
                      obtain ⟨fs, hr, hrun, hended, hW, hsame⟩ := X162.leave (v := some (.int (1 : Int32))) (fun h => by rw [Bd.returns] at h; cases h)
                      refine ⟨_, _, pre67 _ ?_, hrun, hended, _, _, rfl, ?_, ⟨_, rfl⟩, hW, hsame.mono (by decide) (by decide)⟩
                      · show Steps p.tables e below (s₁.setTop (mkF m 21 #[.val (.int p0), .val (.int p1), .val (.int ((p0 &&& (2147483647 : Int32)) % (13 : Int32))), .val (.int (0 : Int32)), .unset, .unset, .unset, .unset, .unset] [(.int ((p0 &&& (2147483647 : Int32)) % (13 : Int32)))])) _
                        refine st156 _ ?_
                        show Steps p.tables e below (T156.setTop (mkF m 24 #[.val (.int p0), .val (.int p1), .val (.int ((p0 &&& (2147483647 : Int32)) % (13 : Int32))), .val (.int (0 : Int32)), .unset, .unset, .unset, .unset, .unset] [(.ref w_9)])) _
                        refine XS.astore X156.here hx rfl (hb hby at_24) rfl rfl (l' := #[.val (.int p0), .val (.int p1), .val (.int ((p0 &&& (2147483647 : Int32)) % (13 : Int32))), .val (.int (0 : Int32)), .val (.ref w_9), .unset, .unset, .unset, .unset]) rfl ?_
                        show Steps p.tables e below (T156.setTop (mkF m 26 #[.val (.int p0), .val (.int p1), .val (.int ((p0 &&& (2147483647 : Int32)) % (13 : Int32))), .val (.int (0 : Int32)), .val (.ref w_9), .unset, .unset, .unset, .unset] [])) _
                        refine st157 _ ?_
                        show Steps p.tables e below (T157.setTop (mkF m 29 #[.val (.int p0), .val (.int p1), .val (.int ((p0 &&& (2147483647 : Int32)) % (13 : Int32))), .val (.int (0 : Int32)), .val (.ref w_9), .unset, .unset, .unset, .unset] [(.ref b157)])) _
                        refine XS.dup X157.here hx rfl (hb hby at_29) rfl rfl ?_
                        show Steps p.tables e below (T157.setTop (mkF m 30 #[.val (.int p0), .val (.int p1), .val (.int ((p0 &&& (2147483647 : Int32)) % (13 : Int32))), .val (.int (0 : Int32)), .val (.ref w_9), .unset, .unset, .unset, .unset] [(.ref b157), (.ref b157)])) _
                        refine XS.aload X157.here hx rfl (hb hby at_30) rfl rfl ?_
                        show Steps p.tables e below (T157.setTop (mkF m 32 #[.val (.int p0), .val (.int p1), .val (.int ((p0 &&& (2147483647 : Int32)) % (13 : Int32))), .val (.int (0 : Int32)), .val (.ref w_9), .unset, .unset, .unset, .unset] [(.ref w_9), (.ref b157), (.ref b157)])) _
                        refine XS.iloadN X157.here hx rfl (hb hby at_32) rfl ?_
                        show Steps p.tables e below (T157.setTop (mkF m 33 #[.val (.int p0), .val (.int p1), .val (.int ((p0 &&& (2147483647 : Int32)) % (13 : Int32))), .val (.int (0 : Int32)), .val (.ref w_9), .unset, .unset, .unset, .unset] [(.int (0 : Int32)), (.ref w_9), (.ref b157), (.ref b157)])) _
                        refine st158.trans ?_
                        show Steps p.tables e below (T158.setTop (mkF m 36 #[.val (.int p0), .val (.int p1), .val (.int ((p0 &&& (2147483647 : Int32)) % (13 : Int32))), .val (.int (0 : Int32)), .val (.ref w_9), .unset, .unset, .unset, .unset] [(.ref b157)])) _
                        refine XS.astore X158.here hx rfl (hb hby at_36) rfl rfl (l' := #[.val (.int p0), .val (.int p1), .val (.int ((p0 &&& (2147483647 : Int32)) % (13 : Int32))), .val (.int (0 : Int32)), .val (.ref w_9), .val (.ref b157), .unset, .unset, .unset]) rfl ?_
                        show Steps p.tables e below (T158.setTop (mkF m 38 #[.val (.int p0), .val (.int p1), .val (.int ((p0 &&& (2147483647 : Int32)) % (13 : Int32))), .val (.int (0 : Int32)), .val (.ref w_9), .val (.ref b157), .unset, .unset, .unset] [])) _
                        refine XS.iloadN X158.here hx rfl (hb hby at_38) rfl ?_
                        show Steps p.tables e below (T158.setTop (mkF m 39 #[.val (.int p0), .val (.int p1), .val (.int ((p0 &&& (2147483647 : Int32)) % (13 : Int32))), .val (.int (0 : Int32)), .val (.ref w_9), .val (.ref b157), .unset, .unset, .unset] [(.int (0 : Int32))])) _
                        refine XS.ifYes X158.here hx rfl (pc0 := 39) (pc' := 48) rfl (hb hby at_39) rfl ((if0 _ _).trans (teq (by decide : ((0 : Int32) = (0 : Int32)))).1) (by decide) (by decide) ?_
                        show Steps p.tables e below (T158.setTop (mkF m 48 #[.val (.int p0), .val (.int p1), .val (.int ((p0 &&& (2147483647 : Int32)) % (13 : Int32))), .val (.int (0 : Int32)), .val (.ref w_9), .val (.ref b157), .unset, .unset, .unset] [])) _
                        refine XS.iloadN X158.here hx rfl (hb hby at_48) rfl ?_
                        show Steps p.tables e below (T158.setTop (mkF m 49 #[.val (.int p0), .val (.int p1), .val (.int ((p0 &&& (2147483647 : Int32)) % (13 : Int32))), .val (.int (0 : Int32)), .val (.ref w_9), .val (.ref b157), .unset, .unset, .unset] [(.int ((p0 &&& (2147483647 : Int32)) % (13 : Int32)))])) _
                        refine XS.bipush X158.here hx rfl (hb hby at_49) ?_
                        show Steps p.tables e below (T158.setTop (mkF m 51 #[.val (.int p0), .val (.int p1), .val (.int ((p0 &&& (2147483647 : Int32)) % (13 : Int32))), .val (.int (0 : Int32)), .val (.ref w_9), .val (.ref b157), .unset, .unset, .unset] [(.int (12 : Int32)), (.int ((p0 &&& (2147483647 : Int32)) % (13 : Int32)))])) _
                        refine XS.icmpYes X158.here hx rfl (pc0 := 51) (pc' := 60) rfl (hb hby at_51) rfl (feq (by rw [hc155] <;> decide : ¬ (((p0 &&& (2147483647 : Int32)) % (13 : Int32)) = (12 : Int32)))).2 (by decide) (by decide) ?_
                        show Steps p.tables e below (T158.setTop (mkF m 60 #[.val (.int p0), .val (.int p1), .val (.int ((p0 &&& (2147483647 : Int32)) % (13 : Int32))), .val (.int (0 : Int32)), .val (.ref w_9), .val (.ref b157), .unset, .unset, .unset] [])) _
                        refine XS.iconst X158.here hx rfl (hb hby at_60) ?_
                        show Steps p.tables e below (T158.setTop (mkF m 61 #[.val (.int p0), .val (.int p1), .val (.int ((p0 &&& (2147483647 : Int32)) % (13 : Int32))), .val (.int (0 : Int32)), .val (.ref w_9), .val (.ref b157), .unset, .unset, .unset] [(.int (0 : Int32))])) _
                        refine XS.istore X158.here hx rfl (hb hby at_61) rfl (l' := #[.val (.int p0), .val (.int p1), .val (.int ((p0 &&& (2147483647 : Int32)) % (13 : Int32))), .val (.int (0 : Int32)), .val (.ref w_9), .val (.ref b157), .val (.int (0 : Int32)), .unset, .unset]) rfl ?_
                        show Steps p.tables e below (T158.setTop (mkF m 63 #[.val (.int p0), .val (.int p1), .val (.int ((p0 &&& (2147483647 : Int32)) % (13 : Int32))), .val (.int (0 : Int32)), .val (.ref w_9), .val (.ref b157), .val (.int (0 : Int32)), .unset, .unset] [])) _
                        refine XS.aload X158.here hx rfl (hb hby at_63) rfl rfl ?_
                        show Steps p.tables e below (T158.setTop (mkF m 65 #[.val (.int p0), .val (.int p1), .val (.int ((p0 &&& (2147483647 : Int32)) % (13 : Int32))), .val (.int (0 : Int32)), .val (.ref w_9), .val (.ref b157), .val (.int (0 : Int32)), .unset, .unset] [(.ref b157)])) _
                        refine st159.trans ?_
                        show Steps p.tables e below (T159.setTop (mkF m 68 #[.val (.int p0), .val (.int p1), .val (.int ((p0 &&& (2147483647 : Int32)) % (13 : Int32))), .val (.int (0 : Int32)), .val (.ref w_9), .val (.ref b157), .val (.int (0 : Int32)), .unset, .unset] [(.int (0 : Int32))])) _
                        refine XS.istore X159.here hx rfl (hb hby at_68) rfl (l' := #[.val (.int p0), .val (.int p1), .val (.int ((p0 &&& (2147483647 : Int32)) % (13 : Int32))), .val (.int (0 : Int32)), .val (.ref w_9), .val (.ref b157), .val (.int (0 : Int32)), .val (.int (0 : Int32)), .unset]) rfl ?_
                        show Steps p.tables e below (T159.setTop (mkF m 70 #[.val (.int p0), .val (.int p1), .val (.int ((p0 &&& (2147483647 : Int32)) % (13 : Int32))), .val (.int (0 : Int32)), .val (.ref w_9), .val (.ref b157), .val (.int (0 : Int32)), .val (.int (0 : Int32)), .unset] [])) _
                        refine XS.aload X159.here hx rfl (hb hby at_70) rfl rfl ?_
                        show Steps p.tables e below (T159.setTop (mkF m 72 #[.val (.int p0), .val (.int p1), .val (.int ((p0 &&& (2147483647 : Int32)) % (13 : Int32))), .val (.int (0 : Int32)), .val (.ref w_9), .val (.ref b157), .val (.int (0 : Int32)), .val (.int (0 : Int32)), .unset] [(.ref b157)])) _
                        refine st161 _ ?_
                        show Steps p.tables e below (T161.setTop (mkF m 75 #[.val (.int p0), .val (.int p1), .val (.int ((p0 &&& (2147483647 : Int32)) % (13 : Int32))), .val (.int (0 : Int32)), .val (.ref w_9), .val (.ref b157), .val (.int (0 : Int32)), .val (.int (0 : Int32)), .unset] [(.ref w_2), (.ref b157)])) _
                        refine st162.trans ?_
                        show Steps p.tables e below (T162.setTop (mkF m 78 #[.val (.int p0), .val (.int p1), .val (.int ((p0 &&& (2147483647 : Int32)) % (13 : Int32))), .val (.int (0 : Int32)), .val (.ref w_9), .val (.ref b157), .val (.int (0 : Int32)), .val (.int (0 : Int32)), .unset] [(.int (0 : Int32))])) _
                        refine XS.istore X162.here hx rfl (hb hby at_78) rfl (l' := #[.val (.int p0), .val (.int p1), .val (.int ((p0 &&& (2147483647 : Int32)) % (13 : Int32))), .val (.int (0 : Int32)), .val (.ref w_9), .val (.ref b157), .val (.int (0 : Int32)), .val (.int (0 : Int32)), .val (.int (0 : Int32))]) rfl ?_
                        show Steps p.tables e below (T162.setTop (mkF m 80 #[.val (.int p0), .val (.int p1), .val (.int ((p0 &&& (2147483647 : Int32)) % (13 : Int32))), .val (.int (0 : Int32)), .val (.ref w_9), .val (.ref b157), .val (.int (0 : Int32)), .val (.int (0 : Int32)), .val (.int (0 : Int32))] [])) _
                        refine XS.iload X162.here hx rfl (hb hby at_80) rfl ?_
                        show Steps p.tables e below (T162.setTop (mkF m 82 #[.val (.int p0), .val (.int p1), .val (.int ((p0 &&& (2147483647 : Int32)) % (13 : Int32))), .val (.int (0 : Int32)), .val (.ref w_9), .val (.ref b157), .val (.int (0 : Int32)), .val (.int (0 : Int32)), .val (.int (0 : Int32))] [(.int (0 : Int32))])) _
                        refine XS.iload X162.here hx rfl (hb hby at_82) rfl ?_
                        show Steps p.tables e below (T162.setTop (mkF m 84 #[.val (.int p0), .val (.int p1), .val (.int ((p0 &&& (2147483647 : Int32)) % (13 : Int32))), .val (.int (0 : Int32)), .val (.ref w_9), .val (.ref b157), .val (.int (0 : Int32)), .val (.int (0 : Int32)), .val (.int (0 : Int32))] [(.int (0 : Int32)), (.int (0 : Int32))])) _
                        refine XS.icmpNo X162.here hx rfl (hb hby at_84) rfl (teq (by decide : ((0 : Int32) = (0 : Int32)))).2 ?_
                        show Steps p.tables e below (T162.setTop (mkF m 87 #[.val (.int p0), .val (.int p1), .val (.int ((p0 &&& (2147483647 : Int32)) % (13 : Int32))), .val (.int (0 : Int32)), .val (.ref w_9), .val (.ref b157), .val (.int (0 : Int32)), .val (.int (0 : Int32)), .val (.int (0 : Int32))] [])) _
                        refine XS.iload X162.here hx rfl (hb hby at_87) rfl ?_
                        show Steps p.tables e below (T162.setTop (mkF m 89 #[.val (.int p0), .val (.int p1), .val (.int ((p0 &&& (2147483647 : Int32)) % (13 : Int32))), .val (.int (0 : Int32)), .val (.ref w_9), .val (.ref b157), .val (.int (0 : Int32)), .val (.int (0 : Int32)), .val (.int (0 : Int32))] [(.int (0 : Int32))])) _
                        refine XS.iload X162.here hx rfl (hb hby at_89) rfl ?_
                        show Steps p.tables e below (T162.setTop (mkF m 91 #[.val (.int p0), .val (.int p1), .val (.int ((p0 &&& (2147483647 : Int32)) % (13 : Int32))), .val (.int (0 : Int32)), .val (.ref w_9), .val (.ref b157), .val (.int (0 : Int32)), .val (.int (0 : Int32)), .val (.int (0 : Int32))] [(.int (0 : Int32)), (.int (0 : Int32))])) _
                        refine XS.icmpNo X162.here hx rfl (hb hby at_91) rfl (teq (by decide : ((0 : Int32) = (0 : Int32)))).2 ?_
                        show Steps p.tables e below (T162.setTop (mkF m 94 #[.val (.int p0), .val (.int p1), .val (.int ((p0 &&& (2147483647 : Int32)) % (13 : Int32))), .val (.int (0 : Int32)), .val (.ref w_9), .val (.ref b157), .val (.int (0 : Int32)), .val (.int (0 : Int32)), .val (.int (0 : Int32))] [])) _
                        refine XS.iconst X162.here hx rfl (hb hby at_94) ?_
                        show Steps p.tables e below (T162.setTop (mkF m 95 #[.val (.int p0), .val (.int p1), .val (.int ((p0 &&& (2147483647 : Int32)) % (13 : Int32))), .val (.int (0 : Int32)), .val (.ref w_9), .val (.ref b157), .val (.int (0 : Int32)), .val (.int (0 : Int32)), .val (.int (0 : Int32))] [(.int (1 : Int32))])) _
                        refine XS.goto X162.here hx rfl (pc0 := 95) (pc' := 99) rfl (hb hby at_95) (by decide) (by decide) ?_
                        show Steps p.tables e below (T162.setTop (mkF m 99 #[.val (.int p0), .val (.int p1), .val (.int ((p0 &&& (2147483647 : Int32)) % (13 : Int32))), .val (.int (0 : Int32)), .val (.ref w_9), .val (.ref b157), .val (.int (0 : Int32)), .val (.int (0 : Int32)), .val (.int (0 : Int32))] [(.int (1 : Int32))])) _
                        exact retN X162 hx (t := .boolean) Bd.returns (by simp) (hb hby at_99) hr
                      · show Q0 Z w_1 w_2 w_3 w_4 w_5 w_6 w_7 w_8 w_9 w_10 w_11 w_12 w_13 p0 p1 h0 n0 _ T162.heap _
                        rw [e162]
                        exact ⟨by unfold sp0; rw [if_pos hc30, if_neg hc68, if_neg hc99, if_neg hc107, if_neg hc115, if_neg hc123, if_neg hc131, if_neg hc139, if_neg hc147, if_pos hc155], N162, trivial⟩
                    · by_cases hc163 : ((p0 &&& (2147483647 : Int32)) % (13 : Int32)) = (9 : Int32)
                      · obtain ⟨_, _, ⟨T164, L164, k164, n164⟩, -, X164, ⟨Lc164, hQ164, l164, y164, z164⟩, st164⟩ := Jvm.LawKit.callS X0 hx (y := Y0) hown (mvT hZ (hw _ (tk 1 rfl))) (mvT hZ (hw _ (tk 2 rfl))) (mvT hZ (hw _ (tk 3 rfl))) (mvT hZ (hw _ (tk 4 rfl))) (by decide) (backOf (W := 0) (rm1 l Z a0 hw [] w_1 w_2 w_3 w_4 w_5 w_6 w_7 w_8 w_9 w_10 w_11 w_12 w_13 hS0 ((p0 &&& (2147483647 : Int32)) % (13 : Int32)) h0 n0 O0) hZ (hw _ (tk 4 rfl)) (hw _ (tk 3 rfl)) (by decide) (by decide)) (g := (mkF m 21 #[.val (.int p0), .val (.int p1), .val (.int ((p0 &&& (2147483647 : Int32)) % (13 : Int32))), .val (.int (0 : Int32)), .unset, .unset, .unset, .unset, .unset] [(.int ((p0 &&& (2147483647 : Int32)) % (13 : Int32)))])) rfl (by rw [hml]; rfl) (argsL := [(.int ((p0 &&& (2147483647 : Int32)) % (13 : Int32)))]) (rest := []) (lenOf pd_0 rfl) rfl (by show 2 * 0 + _ ≤ _; exact Nat.le_of_eq rfl) (hb hby at_21) (fun _ _ => ⟨rfl, e0, (by decide : 0 + 0 ≤ _), (by decide : 0 + 0 ≤ _)⟩)
                        dsimp only [Pt.U, Pt.locs, Pt.cells, Pt.slots] at X164 l164 y164 z164 st164 hQ164
                        subst l164 y164 z164
                        obtain ⟨rv164, N164q, e164⟩ := hQ164
                        rw [show sp1 w_1 w_3 w_4 w_5 w_6 w_7 w_8 w_9 w_10 w_11 w_12 w_13 ((p0 &&& (2147483647 : Int32)) % (13 : Int32)) = (.ref w_6) from by unfold sp1; rw [if_neg hc68, if_neg hc99, if_neg hc107, if_neg hc115, if_neg hc123, if_neg hc131, if_neg hc139, if_neg hc147, if_neg hc155, if_pos hc163]] at rv164
                        subst rv164
                        have N164 := Fr.app N0 N164q
                        obtain ⟨T165, h165, X165, e165, E165, A165, D165, -, st165⟩ := newO X164 hx hZ hown (hw _ (tk 8 rfl)) (hw _ (tk 9 rfl)) (hw _ (tk 10 rfl)) e164 (g := (mkF m 26 #[.val (.int p0), .val (.int p1), .val (.int ((p0 &&& (2147483647 : Int32)) % (13 : Int32))), .val (.int (0 : Int32)), .val (.ref w_6), .unset, .unset, .unset, .unset] [])) rfl (hb hby at_26) (by decide) (by decide)
                        obtain ⟨b165, g165⟩ : ∃ z, z = h0.size := ⟨_, rfl⟩
                        rw [← g165] at A165 D165 st165
                        have g_b165 : n0 ≤ b165 := Nat.le_trans (own_old O0) (Nat.le_of_eq g165.symm)
                        have O165 : Old Z n0 h165 := O0.ext E165
                        have F_integer_b165 : Fld Z h165 b165 "com/example/discharge/discharge/frontend/Syntax$Type" "integer" "Lcom/example/discharge/discharge/frontend/IntegerType;" .null := D165 (Or.inr (hw _ (tk 23 rfl))) (ty := (.object "com/example/discharge/discharge/frontend/IntegerType")) (by decide)
                        have F_pointer_b165 : Fld Z h165 b165 "com/example/discharge/discharge/frontend/Syntax$Type" "pointer" "Z" (.int (0 : Int32)) := D165 (Or.inr (hw _ (tk 25 rfl))) (ty := .boolean) (by decide)
                        obtain ⟨_, _, ⟨T166, L166, k166, n166⟩, -, X166, ⟨Lc166, hQ166, l166, y166, z166⟩, st166⟩ := X165.specialBack hx (y := Y2) rfl hown (mvT hZ (hw _ (tk 11 rfl))) (mvT hZ (hw _ (tk 12 rfl))) (mvT hZ (hw _ (tk 13 rfl))) (by decide) (backOf (W := 1) (rm2x1 l Z a0 hw [] w_1 w_2 w_3 w_4 w_5 w_6 w_7 w_8 w_9 w_10 w_11 w_12 w_13 hS0 b165 w_6 (0 : Int32) h165 n0 O165 g_b165 A165 F_integer_b165 F_pointer_b165) hZ (hw _ (tk 13 rfl)) (hw _ (tk 10 rfl)) (by decide) (by decide)) (g := (mkF m 33 #[.val (.int p0), .val (.int p1), .val (.int ((p0 &&& (2147483647 : Int32)) % (13 : Int32))), .val (.int (0 : Int32)), .val (.ref w_6), .unset, .unset, .unset, .unset] [(.int (0 : Int32)), (.ref w_6), (.ref b165), (.ref b165)])) rfl (by rw [hml]; rfl) (Steps.refl _) (a := b165) (argsL := [(.ref w_6), (.int (0 : Int32))]) (rest := [(.ref b165)]) (lenOf pd_2 rfl) rfl (by show 2 * 0 + _ ≤ _; exact Nat.le_of_eq rfl) (hb hby at_33) (fun _ _ => ⟨rfl, e165, (by decide : 1 + 0 ≤ _), (by decide : 2 + 0 ≤ _)⟩)
                        dsimp only [Pt.U, Pt.locs, Pt.cells, Pt.slots] at X166 l166 y166 z166 st166 hQ166
                        subst l166 y166 z166
                        obtain ⟨rv166, N166q, O166, K166c, Fe166_0, Fe166_1⟩ := hQ166
                        subst rv166
                        have N166 := Fr.app N164 N166q
                        have c168 := (A165.keep K166c)
                        obtain ⟨cq167, kq167, q167a, q167b, q167c⟩ := isOf hZ rfl c168
                        obtain ⟨_, _, ⟨T167, L167, k167, n167⟩, -, X167, ⟨Lc167, hQ167, l167, y167, z167⟩, st167⟩ := X166.virtualBack hx (y := Y3) (z := Y3) hown (mvT hZ (hw _ (tk 26 rfl))) (mvT hZ (hw _ (tk 27 rfl))) (notFace_of_selects (args := #[]) (mvT hZ (hw _ (tk 29 rfl)))) (mvT hZ (hw _ (tk 29 rfl))) (mvT hZ (hw _ (tk 28 rfl))) (by decide) (backOf (W := 0) (rm5 l Z a0 hw [] w_1 w_2 w_3 w_4 w_5 w_6 w_7 w_8 w_9 w_10 w_11 w_12 w_13 hS0 b165 (.ref w_6) (nar .boolean (0 : Int32)) T166.heap n0 O166 Fe166_0 rfl Fe166_1) hZ (hw _ (tk 30 rfl)) (hw _ (tk 10 rfl)) (by decide) (by decide)) q167a q167c (g := (mkF m 65 #[.val (.int p0), .val (.int p1), .val (.int ((p0 &&& (2147483647 : Int32)) % (13 : Int32))), .val (.int (0 : Int32)), .val (.ref w_6), .val (.ref b165), .val (.int (0 : Int32)), .unset, .unset] [(.ref b165)])) rfl (by rw [hml]; rfl) (Steps.refl _) (argsL := []) (rest := []) (lenOf pd_3 rfl) rfl (by show 2 * 0 + _ ≤ _; exact Nat.le_of_eq rfl) (hb hby at_65) (fun _ _ => ⟨rfl, rfl, (by decide : 1 + 0 ≤ _), (by decide : 2 + 0 ≤ _)⟩)
                        dsimp only [Pt.U, Pt.locs, Pt.cells, Pt.slots] at X167 l167 y167 z167 st167 hQ167
                        subst l167 y167 z167
                        obtain ⟨rv167, N167q, e167⟩ := hQ167
                        rw [show sp5 (.ref w_6) (nar .boolean (0 : Int32)) = (0 : Int32) from by unfold sp5; rw [if_neg (nofun : ¬ ((.ref w_6) : Value) = .null)]] at rv167
                        subst rv167
                        have N167 := Fr.app N166 N167q
                        obtain ⟨T169, X169, e169, st169⟩ := getS2 X167 hx hZ hown (host := "") (Or.inl (hw _ (tk 31 rfl))) Via.refl e167 (S_2.ext O166.2) (g := (mkF m 72 #[.val (.int p0), .val (.int p1), .val (.int ((p0 &&& (2147483647 : Int32)) % (13 : Int32))), .val (.int (0 : Int32)), .val (.ref w_6), .val (.ref b165), .val (.int (0 : Int32)), .val (.int (0 : Int32)), .unset] [(.ref b165)])) rfl (hb hby at_72)
                        obtain ⟨cq170, kq170, q170a, q170b, q170c⟩ := isOf hZ e169 c168
                        obtain ⟨_, _, ⟨T170, L170, k170, n170⟩, -, X170, ⟨Lc170, hQ170, l170, y170, z170⟩, st170⟩ := X169.virtualBack hx (y := Y4) (z := Y4) hown (mvT hZ (hw _ (tk 33 rfl))) (mvT hZ (hw _ (tk 34 rfl))) (notFace_of_selects (args := #[]) (mvT hZ (hw _ (tk 36 rfl)))) (mvT hZ (hw _ (tk 36 rfl))) (mvT hZ (hw _ (tk 35 rfl))) (by decide) (backOf (W := 0) (rm6c1 l Z a0 hw [] w_1 w_2 w_3 w_4 w_5 w_6 w_7 w_8 w_9 w_10 w_11 w_12 w_13 hS0 b165 w_2 .null (.ref w_6) (0 : Int32) (nar .boolean (0 : Int32)) T166.heap n0 O166 (E_2.ext O166.2) (F_2_integer.ext O166.2) rfl Fe166_0 rfl (F_2_pointer.ext O166.2) Fe166_1) hZ (hw _ (tk 37 rfl)) (hw _ (tk 10 rfl)) (by decide) (by decide)) q170a q170c (g := (mkF m 75 #[.val (.int p0), .val (.int p1), .val (.int ((p0 &&& (2147483647 : Int32)) % (13 : Int32))), .val (.int (0 : Int32)), .val (.ref w_6), .val (.ref b165), .val (.int (0 : Int32)), .val (.int (0 : Int32)), .unset] [(.ref w_2), (.ref b165)])) rfl (by rw [hml]; rfl) (Steps.refl _) (argsL := [(.ref w_2)]) (rest := []) (lenOf pd_4 rfl) rfl (by show 2 * 0 + _ ≤ _; exact Nat.le_of_eq rfl) (hb hby at_75) (fun _ _ => ⟨rfl, e169, (by decide : 1 + 0 ≤ _), (by decide : 2 + 0 ≤ _)⟩)
                        dsimp only [Pt.U, Pt.locs, Pt.cells, Pt.slots] at X170 l170 y170 z170 st170 hQ170
                        subst l170 y170 z170
                        obtain ⟨rv170, N170q, e170⟩ := hQ170
                        rw [show sp6c1 .null (.ref w_6) (0 : Int32) (nar .boolean (0 : Int32)) = (0 : Int32) from by unfold sp6c1; rw [if_neg (nofun : ¬ (.null : Value) = (.ref w_6))]] at rv170
                        subst rv170
                        have N170 := Fr.app N167 N170q
                        obtain ⟨fs, hr, hrun, hended, hW, hsame⟩ := X170.leave (v := some (.int (1 : Int32))) (fun h => by rw [Bd.returns] at h; cases h)
                        refine ⟨_, _, pre67 _ ?_, hrun, hended, _, _, rfl, ?_, ⟨_, rfl⟩, hW, hsame.mono (by decide) (by decide)⟩
                        · show Steps p.tables e below (s₁.setTop (mkF m 21 #[.val (.int p0), .val (.int p1), .val (.int ((p0 &&& (2147483647 : Int32)) % (13 : Int32))), .val (.int (0 : Int32)), .unset, .unset, .unset, .unset, .unset] [(.int ((p0 &&& (2147483647 : Int32)) % (13 : Int32)))])) _
                          refine st164 _ ?_
                          show Steps p.tables e below (T164.setTop (mkF m 24 #[.val (.int p0), .val (.int p1), .val (.int ((p0 &&& (2147483647 : Int32)) % (13 : Int32))), .val (.int (0 : Int32)), .unset, .unset, .unset, .unset, .unset] [(.ref w_6)])) _
                          refine XS.astore X164.here hx rfl (hb hby at_24) rfl rfl (l' := #[.val (.int p0), .val (.int p1), .val (.int ((p0 &&& (2147483647 : Int32)) % (13 : Int32))), .val (.int (0 : Int32)), .val (.ref w_6), .unset, .unset, .unset, .unset]) rfl ?_
                          show Steps p.tables e below (T164.setTop (mkF m 26 #[.val (.int p0), .val (.int p1), .val (.int ((p0 &&& (2147483647 : Int32)) % (13 : Int32))), .val (.int (0 : Int32)), .val (.ref w_6), .unset, .unset, .unset, .unset] [])) _
                          refine st165 _ ?_
                          show Steps p.tables e below (T165.setTop (mkF m 29 #[.val (.int p0), .val (.int p1), .val (.int ((p0 &&& (2147483647 : Int32)) % (13 : Int32))), .val (.int (0 : Int32)), .val (.ref w_6), .unset, .unset, .unset, .unset] [(.ref b165)])) _
                          refine XS.dup X165.here hx rfl (hb hby at_29) rfl rfl ?_
                          show Steps p.tables e below (T165.setTop (mkF m 30 #[.val (.int p0), .val (.int p1), .val (.int ((p0 &&& (2147483647 : Int32)) % (13 : Int32))), .val (.int (0 : Int32)), .val (.ref w_6), .unset, .unset, .unset, .unset] [(.ref b165), (.ref b165)])) _
                          refine XS.aload X165.here hx rfl (hb hby at_30) rfl rfl ?_
                          show Steps p.tables e below (T165.setTop (mkF m 32 #[.val (.int p0), .val (.int p1), .val (.int ((p0 &&& (2147483647 : Int32)) % (13 : Int32))), .val (.int (0 : Int32)), .val (.ref w_6), .unset, .unset, .unset, .unset] [(.ref w_6), (.ref b165), (.ref b165)])) _
                          refine XS.iloadN X165.here hx rfl (hb hby at_32) rfl ?_
                          show Steps p.tables e below (T165.setTop (mkF m 33 #[.val (.int p0), .val (.int p1), .val (.int ((p0 &&& (2147483647 : Int32)) % (13 : Int32))), .val (.int (0 : Int32)), .val (.ref w_6), .unset, .unset, .unset, .unset] [(.int (0 : Int32)), (.ref w_6), (.ref b165), (.ref b165)])) _
                          refine st166.trans ?_
                          show Steps p.tables e below (T166.setTop (mkF m 36 #[.val (.int p0), .val (.int p1), .val (.int ((p0 &&& (2147483647 : Int32)) % (13 : Int32))), .val (.int (0 : Int32)), .val (.ref w_6), .unset, .unset, .unset, .unset] [(.ref b165)])) _
                          refine XS.astore X166.here hx rfl (hb hby at_36) rfl rfl (l' := #[.val (.int p0), .val (.int p1), .val (.int ((p0 &&& (2147483647 : Int32)) % (13 : Int32))), .val (.int (0 : Int32)), .val (.ref w_6), .val (.ref b165), .unset, .unset, .unset]) rfl ?_
                          show Steps p.tables e below (T166.setTop (mkF m 38 #[.val (.int p0), .val (.int p1), .val (.int ((p0 &&& (2147483647 : Int32)) % (13 : Int32))), .val (.int (0 : Int32)), .val (.ref w_6), .val (.ref b165), .unset, .unset, .unset] [])) _
                          refine XS.iloadN X166.here hx rfl (hb hby at_38) rfl ?_
                          show Steps p.tables e below (T166.setTop (mkF m 39 #[.val (.int p0), .val (.int p1), .val (.int ((p0 &&& (2147483647 : Int32)) % (13 : Int32))), .val (.int (0 : Int32)), .val (.ref w_6), .val (.ref b165), .unset, .unset, .unset] [(.int (0 : Int32))])) _
                          refine XS.ifYes X166.here hx rfl (pc0 := 39) (pc' := 48) rfl (hb hby at_39) rfl ((if0 _ _).trans (teq (by decide : ((0 : Int32) = (0 : Int32)))).1) (by decide) (by decide) ?_
                          show Steps p.tables e below (T166.setTop (mkF m 48 #[.val (.int p0), .val (.int p1), .val (.int ((p0 &&& (2147483647 : Int32)) % (13 : Int32))), .val (.int (0 : Int32)), .val (.ref w_6), .val (.ref b165), .unset, .unset, .unset] [])) _
                          refine XS.iloadN X166.here hx rfl (hb hby at_48) rfl ?_
                          show Steps p.tables e below (T166.setTop (mkF m 49 #[.val (.int p0), .val (.int p1), .val (.int ((p0 &&& (2147483647 : Int32)) % (13 : Int32))), .val (.int (0 : Int32)), .val (.ref w_6), .val (.ref b165), .unset, .unset, .unset] [(.int ((p0 &&& (2147483647 : Int32)) % (13 : Int32)))])) _
                          refine XS.bipush X166.here hx rfl (hb hby at_49) ?_
                          show Steps p.tables e below (T166.setTop (mkF m 51 #[.val (.int p0), .val (.int p1), .val (.int ((p0 &&& (2147483647 : Int32)) % (13 : Int32))), .val (.int (0 : Int32)), .val (.ref w_6), .val (.ref b165), .unset, .unset, .unset] [(.int (12 : Int32)), (.int ((p0 &&& (2147483647 : Int32)) % (13 : Int32)))])) _
                          refine XS.icmpYes X166.here hx rfl (pc0 := 51) (pc' := 60) rfl (hb hby at_51) rfl (feq (by rw [hc163] <;> decide : ¬ (((p0 &&& (2147483647 : Int32)) % (13 : Int32)) = (12 : Int32)))).2 (by decide) (by decide) ?_
                          show Steps p.tables e below (T166.setTop (mkF m 60 #[.val (.int p0), .val (.int p1), .val (.int ((p0 &&& (2147483647 : Int32)) % (13 : Int32))), .val (.int (0 : Int32)), .val (.ref w_6), .val (.ref b165), .unset, .unset, .unset] [])) _
                          refine XS.iconst X166.here hx rfl (hb hby at_60) ?_
                          show Steps p.tables e below (T166.setTop (mkF m 61 #[.val (.int p0), .val (.int p1), .val (.int ((p0 &&& (2147483647 : Int32)) % (13 : Int32))), .val (.int (0 : Int32)), .val (.ref w_6), .val (.ref b165), .unset, .unset, .unset] [(.int (0 : Int32))])) _
                          refine XS.istore X166.here hx rfl (hb hby at_61) rfl (l' := #[.val (.int p0), .val (.int p1), .val (.int ((p0 &&& (2147483647 : Int32)) % (13 : Int32))), .val (.int (0 : Int32)), .val (.ref w_6), .val (.ref b165), .val (.int (0 : Int32)), .unset, .unset]) rfl ?_
                          show Steps p.tables e below (T166.setTop (mkF m 63 #[.val (.int p0), .val (.int p1), .val (.int ((p0 &&& (2147483647 : Int32)) % (13 : Int32))), .val (.int (0 : Int32)), .val (.ref w_6), .val (.ref b165), .val (.int (0 : Int32)), .unset, .unset] [])) _
                          refine XS.aload X166.here hx rfl (hb hby at_63) rfl rfl ?_
                          show Steps p.tables e below (T166.setTop (mkF m 65 #[.val (.int p0), .val (.int p1), .val (.int ((p0 &&& (2147483647 : Int32)) % (13 : Int32))), .val (.int (0 : Int32)), .val (.ref w_6), .val (.ref b165), .val (.int (0 : Int32)), .unset, .unset] [(.ref b165)])) _
                          refine st167.trans ?_
                          show Steps p.tables e below (T167.setTop (mkF m 68 #[.val (.int p0), .val (.int p1), .val (.int ((p0 &&& (2147483647 : Int32)) % (13 : Int32))), .val (.int (0 : Int32)), .val (.ref w_6), .val (.ref b165), .val (.int (0 : Int32)), .unset, .unset] [(.int (0 : Int32))])) _
                          refine XS.istore X167.here hx rfl (hb hby at_68) rfl (l' := #[.val (.int p0), .val (.int p1), .val (.int ((p0 &&& (2147483647 : Int32)) % (13 : Int32))), .val (.int (0 : Int32)), .val (.ref w_6), .val (.ref b165), .val (.int (0 : Int32)), .val (.int (0 : Int32)), .unset]) rfl ?_
                          show Steps p.tables e below (T167.setTop (mkF m 70 #[.val (.int p0), .val (.int p1), .val (.int ((p0 &&& (2147483647 : Int32)) % (13 : Int32))), .val (.int (0 : Int32)), .val (.ref w_6), .val (.ref b165), .val (.int (0 : Int32)), .val (.int (0 : Int32)), .unset] [])) _
                          refine XS.aload X167.here hx rfl (hb hby at_70) rfl rfl ?_
                          show Steps p.tables e below (T167.setTop (mkF m 72 #[.val (.int p0), .val (.int p1), .val (.int ((p0 &&& (2147483647 : Int32)) % (13 : Int32))), .val (.int (0 : Int32)), .val (.ref w_6), .val (.ref b165), .val (.int (0 : Int32)), .val (.int (0 : Int32)), .unset] [(.ref b165)])) _
                          refine st169 _ ?_
                          show Steps p.tables e below (T169.setTop (mkF m 75 #[.val (.int p0), .val (.int p1), .val (.int ((p0 &&& (2147483647 : Int32)) % (13 : Int32))), .val (.int (0 : Int32)), .val (.ref w_6), .val (.ref b165), .val (.int (0 : Int32)), .val (.int (0 : Int32)), .unset] [(.ref w_2), (.ref b165)])) _
                          refine st170.trans ?_
                          show Steps p.tables e below (T170.setTop (mkF m 78 #[.val (.int p0), .val (.int p1), .val (.int ((p0 &&& (2147483647 : Int32)) % (13 : Int32))), .val (.int (0 : Int32)), .val (.ref w_6), .val (.ref b165), .val (.int (0 : Int32)), .val (.int (0 : Int32)), .unset] [(.int (0 : Int32))])) _
                          refine XS.istore X170.here hx rfl (hb hby at_78) rfl (l' := #[.val (.int p0), .val (.int p1), .val (.int ((p0 &&& (2147483647 : Int32)) % (13 : Int32))), .val (.int (0 : Int32)), .val (.ref w_6), .val (.ref b165), .val (.int (0 : Int32)), .val (.int (0 : Int32)), .val (.int (0 : Int32))]) rfl ?_
                          show Steps p.tables e below (T170.setTop (mkF m 80 #[.val (.int p0), .val (.int p1), .val (.int ((p0 &&& (2147483647 : Int32)) % (13 : Int32))), .val (.int (0 : Int32)), .val (.ref w_6), .val (.ref b165), .val (.int (0 : Int32)), .val (.int (0 : Int32)), .val (.int (0 : Int32))] [])) _
                          refine XS.iload X170.here hx rfl (hb hby at_80) rfl ?_
                          show Steps p.tables e below (T170.setTop (mkF m 82 #[.val (.int p0), .val (.int p1), .val (.int ((p0 &&& (2147483647 : Int32)) % (13 : Int32))), .val (.int (0 : Int32)), .val (.ref w_6), .val (.ref b165), .val (.int (0 : Int32)), .val (.int (0 : Int32)), .val (.int (0 : Int32))] [(.int (0 : Int32))])) _
                          refine XS.iload X170.here hx rfl (hb hby at_82) rfl ?_
                          show Steps p.tables e below (T170.setTop (mkF m 84 #[.val (.int p0), .val (.int p1), .val (.int ((p0 &&& (2147483647 : Int32)) % (13 : Int32))), .val (.int (0 : Int32)), .val (.ref w_6), .val (.ref b165), .val (.int (0 : Int32)), .val (.int (0 : Int32)), .val (.int (0 : Int32))] [(.int (0 : Int32)), (.int (0 : Int32))])) _
                          refine XS.icmpNo X170.here hx rfl (hb hby at_84) rfl (teq (by decide : ((0 : Int32) = (0 : Int32)))).2 ?_
                          show Steps p.tables e below (T170.setTop (mkF m 87 #[.val (.int p0), .val (.int p1), .val (.int ((p0 &&& (2147483647 : Int32)) % (13 : Int32))), .val (.int (0 : Int32)), .val (.ref w_6), .val (.ref b165), .val (.int (0 : Int32)), .val (.int (0 : Int32)), .val (.int (0 : Int32))] [])) _
                          refine XS.iload X170.here hx rfl (hb hby at_87) rfl ?_
                          show Steps p.tables e below (T170.setTop (mkF m 89 #[.val (.int p0), .val (.int p1), .val (.int ((p0 &&& (2147483647 : Int32)) % (13 : Int32))), .val (.int (0 : Int32)), .val (.ref w_6), .val (.ref b165), .val (.int (0 : Int32)), .val (.int (0 : Int32)), .val (.int (0 : Int32))] [(.int (0 : Int32))])) _
                          refine XS.iload X170.here hx rfl (hb hby at_89) rfl ?_
                          show Steps p.tables e below (T170.setTop (mkF m 91 #[.val (.int p0), .val (.int p1), .val (.int ((p0 &&& (2147483647 : Int32)) % (13 : Int32))), .val (.int (0 : Int32)), .val (.ref w_6), .val (.ref b165), .val (.int (0 : Int32)), .val (.int (0 : Int32)), .val (.int (0 : Int32))] [(.int (0 : Int32)), (.int (0 : Int32))])) _
                          refine XS.icmpNo X170.here hx rfl (hb hby at_91) rfl (teq (by decide : ((0 : Int32) = (0 : Int32)))).2 ?_
                          show Steps p.tables e below (T170.setTop (mkF m 94 #[.val (.int p0), .val (.int p1), .val (.int ((p0 &&& (2147483647 : Int32)) % (13 : Int32))), .val (.int (0 : Int32)), .val (.ref w_6), .val (.ref b165), .val (.int (0 : Int32)), .val (.int (0 : Int32)), .val (.int (0 : Int32))] [])) _
                          refine XS.iconst X170.here hx rfl (hb hby at_94) ?_
                          show Steps p.tables e below (T170.setTop (mkF m 95 #[.val (.int p0), .val (.int p1), .val (.int ((p0 &&& (2147483647 : Int32)) % (13 : Int32))), .val (.int (0 : Int32)), .val (.ref w_6), .val (.ref b165), .val (.int (0 : Int32)), .val (.int (0 : Int32)), .val (.int (0 : Int32))] [(.int (1 : Int32))])) _
                          refine XS.goto X170.here hx rfl (pc0 := 95) (pc' := 99) rfl (hb hby at_95) (by decide) (by decide) ?_
                          show Steps p.tables e below (T170.setTop (mkF m 99 #[.val (.int p0), .val (.int p1), .val (.int ((p0 &&& (2147483647 : Int32)) % (13 : Int32))), .val (.int (0 : Int32)), .val (.ref w_6), .val (.ref b165), .val (.int (0 : Int32)), .val (.int (0 : Int32)), .val (.int (0 : Int32))] [(.int (1 : Int32))])) _
                          exact retN X170 hx (t := .boolean) Bd.returns (by simp) (hb hby at_99) hr
                        · show Q0 Z w_1 w_2 w_3 w_4 w_5 w_6 w_7 w_8 w_9 w_10 w_11 w_12 w_13 p0 p1 h0 n0 _ T170.heap _
                          rw [e170]
                          exact ⟨by unfold sp0; rw [if_pos hc30, if_neg hc68, if_neg hc99, if_neg hc107, if_neg hc115, if_neg hc123, if_neg hc131, if_neg hc139, if_neg hc147, if_neg hc155, if_pos hc163], N170, trivial⟩
                      · by_cases hc171 : ((p0 &&& (2147483647 : Int32)) % (13 : Int32)) = (10 : Int32)
                        · obtain ⟨_, _, ⟨T172, L172, k172, n172⟩, -, X172, ⟨Lc172, hQ172, l172, y172, z172⟩, st172⟩ := Jvm.LawKit.callS X0 hx (y := Y0) hown (mvT hZ (hw _ (tk 1 rfl))) (mvT hZ (hw _ (tk 2 rfl))) (mvT hZ (hw _ (tk 3 rfl))) (mvT hZ (hw _ (tk 4 rfl))) (by decide) (backOf (W := 0) (rm1 l Z a0 hw [] w_1 w_2 w_3 w_4 w_5 w_6 w_7 w_8 w_9 w_10 w_11 w_12 w_13 hS0 ((p0 &&& (2147483647 : Int32)) % (13 : Int32)) h0 n0 O0) hZ (hw _ (tk 4 rfl)) (hw _ (tk 3 rfl)) (by decide) (by decide)) (g := (mkF m 21 #[.val (.int p0), .val (.int p1), .val (.int ((p0 &&& (2147483647 : Int32)) % (13 : Int32))), .val (.int (0 : Int32)), .unset, .unset, .unset, .unset, .unset] [(.int ((p0 &&& (2147483647 : Int32)) % (13 : Int32)))])) rfl (by rw [hml]; rfl) (argsL := [(.int ((p0 &&& (2147483647 : Int32)) % (13 : Int32)))]) (rest := []) (lenOf pd_0 rfl) rfl (by show 2 * 0 + _ ≤ _; exact Nat.le_of_eq rfl) (hb hby at_21) (fun _ _ => ⟨rfl, e0, (by decide : 0 + 0 ≤ _), (by decide : 0 + 0 ≤ _)⟩)
                          dsimp only [Pt.U, Pt.locs, Pt.cells, Pt.slots] at X172 l172 y172 z172 st172 hQ172
                          subst l172 y172 z172
                          obtain ⟨rv172, N172q, e172⟩ := hQ172
                          rw [show sp1 w_1 w_3 w_4 w_5 w_6 w_7 w_8 w_9 w_10 w_11 w_12 w_13 ((p0 &&& (2147483647 : Int32)) % (13 : Int32)) = (.ref w_11) from by unfold sp1; rw [if_neg hc68, if_neg hc99, if_neg hc107, if_neg hc115, if_neg hc123, if_neg hc131, if_neg hc139, if_neg hc147, if_neg hc155, if_neg hc163, if_pos hc171]] at rv172
                          subst rv172
                          have N172 := Fr.app N0 N172q
                          obtain ⟨T173, h173, X173, e173, E173, A173, D173, -, st173⟩ := newO X172 hx hZ hown (hw _ (tk 8 rfl)) (hw _ (tk 9 rfl)) (hw _ (tk 10 rfl)) e172 (g := (mkF m 26 #[.val (.int p0), .val (.int p1), .val (.int ((p0 &&& (2147483647 : Int32)) % (13 : Int32))), .val (.int (0 : Int32)), .val (.ref w_11), .unset, .unset, .unset, .unset] [])) rfl (hb hby at_26) (by decide) (by decide)
                          obtain ⟨b173, g173⟩ : ∃ z, z = h0.size := ⟨_, rfl⟩
                          rw [← g173] at A173 D173 st173
                          have g_b173 : n0 ≤ b173 := Nat.le_trans (own_old O0) (Nat.le_of_eq g173.symm)
                          have O173 : Old Z n0 h173 := O0.ext E173
                          have F_integer_b173 : Fld Z h173 b173 "com/example/discharge/discharge/frontend/Syntax$Type" "integer" "Lcom/example/discharge/discharge/frontend/IntegerType;" .null := D173 (Or.inr (hw _ (tk 23 rfl))) (ty := (.object "com/example/discharge/discharge/frontend/IntegerType")) (by decide)
                          have F_pointer_b173 : Fld Z h173 b173 "com/example/discharge/discharge/frontend/Syntax$Type" "pointer" "Z" (.int (0 : Int32)) := D173 (Or.inr (hw _ (tk 25 rfl))) (ty := .boolean) (by decide)
                          obtain ⟨_, _, ⟨T174, L174, k174, n174⟩, -, X174, ⟨Lc174, hQ174, l174, y174, z174⟩, st174⟩ := X173.specialBack hx (y := Y2) rfl hown (mvT hZ (hw _ (tk 11 rfl))) (mvT hZ (hw _ (tk 12 rfl))) (mvT hZ (hw _ (tk 13 rfl))) (by decide) (backOf (W := 1) (rm2x1 l Z a0 hw [] w_1 w_2 w_3 w_4 w_5 w_6 w_7 w_8 w_9 w_10 w_11 w_12 w_13 hS0 b173 w_11 (0 : Int32) h173 n0 O173 g_b173 A173 F_integer_b173 F_pointer_b173) hZ (hw _ (tk 13 rfl)) (hw _ (tk 10 rfl)) (by decide) (by decide)) (g := (mkF m 33 #[.val (.int p0), .val (.int p1), .val (.int ((p0 &&& (2147483647 : Int32)) % (13 : Int32))), .val (.int (0 : Int32)), .val (.ref w_11), .unset, .unset, .unset, .unset] [(.int (0 : Int32)), (.ref w_11), (.ref b173), (.ref b173)])) rfl (by rw [hml]; rfl) (Steps.refl _) (a := b173) (argsL := [(.ref w_11), (.int (0 : Int32))]) (rest := [(.ref b173)]) (lenOf pd_2 rfl) rfl (by show 2 * 0 + _ ≤ _; exact Nat.le_of_eq rfl) (hb hby at_33) (fun _ _ => ⟨rfl, e173, (by decide : 1 + 0 ≤ _), (by decide : 2 + 0 ≤ _)⟩)
                          dsimp only [Pt.U, Pt.locs, Pt.cells, Pt.slots] at X174 l174 y174 z174 st174 hQ174
                          subst l174 y174 z174
                          obtain ⟨rv174, N174q, O174, K174c, Fe174_0, Fe174_1⟩ := hQ174
                          subst rv174
                          have N174 := Fr.app N172 N174q
                          have c176 := (A173.keep K174c)
                          obtain ⟨cq175, kq175, q175a, q175b, q175c⟩ := isOf hZ rfl c176
                          obtain ⟨_, _, ⟨T175, L175, k175, n175⟩, -, X175, ⟨Lc175, hQ175, l175, y175, z175⟩, st175⟩ := X174.virtualBack hx (y := Y3) (z := Y3) hown (mvT hZ (hw _ (tk 26 rfl))) (mvT hZ (hw _ (tk 27 rfl))) (notFace_of_selects (args := #[]) (mvT hZ (hw _ (tk 29 rfl)))) (mvT hZ (hw _ (tk 29 rfl))) (mvT hZ (hw _ (tk 28 rfl))) (by decide) (backOf (W := 0) (rm5 l Z a0 hw [] w_1 w_2 w_3 w_4 w_5 w_6 w_7 w_8 w_9 w_10 w_11 w_12 w_13 hS0 b173 (.ref w_11) (nar .boolean (0 : Int32)) T174.heap n0 O174 Fe174_0 rfl Fe174_1) hZ (hw _ (tk 30 rfl)) (hw _ (tk 10 rfl)) (by decide) (by decide)) q175a q175c (g := (mkF m 65 #[.val (.int p0), .val (.int p1), .val (.int ((p0 &&& (2147483647 : Int32)) % (13 : Int32))), .val (.int (0 : Int32)), .val (.ref w_11), .val (.ref b173), .val (.int (0 : Int32)), .unset, .unset] [(.ref b173)])) rfl (by rw [hml]; rfl) (Steps.refl _) (argsL := []) (rest := []) (lenOf pd_3 rfl) rfl (by show 2 * 0 + _ ≤ _; exact Nat.le_of_eq rfl) (hb hby at_65) (fun _ _ => ⟨rfl, rfl, (by decide : 1 + 0 ≤ _), (by decide : 2 + 0 ≤ _)⟩)
                          dsimp only [Pt.U, Pt.locs, Pt.cells, Pt.slots] at X175 l175 y175 z175 st175 hQ175
                          subst l175 y175 z175
                          obtain ⟨rv175, N175q, e175⟩ := hQ175
                          rw [show sp5 (.ref w_11) (nar .boolean (0 : Int32)) = (0 : Int32) from by unfold sp5; rw [if_neg (nofun : ¬ ((.ref w_11) : Value) = .null)]] at rv175
                          subst rv175
                          have N175 := Fr.app N174 N175q
                          obtain ⟨T177, X177, e177, st177⟩ := getS2 X175 hx hZ hown (host := "") (Or.inl (hw _ (tk 31 rfl))) Via.refl e175 (S_2.ext O174.2) (g := (mkF m 72 #[.val (.int p0), .val (.int p1), .val (.int ((p0 &&& (2147483647 : Int32)) % (13 : Int32))), .val (.int (0 : Int32)), .val (.ref w_11), .val (.ref b173), .val (.int (0 : Int32)), .val (.int (0 : Int32)), .unset] [(.ref b173)])) rfl (hb hby at_72)
                          obtain ⟨cq178, kq178, q178a, q178b, q178c⟩ := isOf hZ e177 c176
                          obtain ⟨_, _, ⟨T178, L178, k178, n178⟩, -, X178, ⟨Lc178, hQ178, l178, y178, z178⟩, st178⟩ := X177.virtualBack hx (y := Y4) (z := Y4) hown (mvT hZ (hw _ (tk 33 rfl))) (mvT hZ (hw _ (tk 34 rfl))) (notFace_of_selects (args := #[]) (mvT hZ (hw _ (tk 36 rfl)))) (mvT hZ (hw _ (tk 36 rfl))) (mvT hZ (hw _ (tk 35 rfl))) (by decide) (backOf (W := 0) (rm6c1 l Z a0 hw [] w_1 w_2 w_3 w_4 w_5 w_6 w_7 w_8 w_9 w_10 w_11 w_12 w_13 hS0 b173 w_2 .null (.ref w_11) (0 : Int32) (nar .boolean (0 : Int32)) T174.heap n0 O174 (E_2.ext O174.2) (F_2_integer.ext O174.2) rfl Fe174_0 rfl (F_2_pointer.ext O174.2) Fe174_1) hZ (hw _ (tk 37 rfl)) (hw _ (tk 10 rfl)) (by decide) (by decide)) q178a q178c (g := (mkF m 75 #[.val (.int p0), .val (.int p1), .val (.int ((p0 &&& (2147483647 : Int32)) % (13 : Int32))), .val (.int (0 : Int32)), .val (.ref w_11), .val (.ref b173), .val (.int (0 : Int32)), .val (.int (0 : Int32)), .unset] [(.ref w_2), (.ref b173)])) rfl (by rw [hml]; rfl) (Steps.refl _) (argsL := [(.ref w_2)]) (rest := []) (lenOf pd_4 rfl) rfl (by show 2 * 0 + _ ≤ _; exact Nat.le_of_eq rfl) (hb hby at_75) (fun _ _ => ⟨rfl, e177, (by decide : 1 + 0 ≤ _), (by decide : 2 + 0 ≤ _)⟩)
                          dsimp only [Pt.U, Pt.locs, Pt.cells, Pt.slots] at X178 l178 y178 z178 st178 hQ178
                          subst l178 y178 z178
                          obtain ⟨rv178, N178q, e178⟩ := hQ178
                          rw [show sp6c1 .null (.ref w_11) (0 : Int32) (nar .boolean (0 : Int32)) = (0 : Int32) from by unfold sp6c1; rw [if_neg (nofun : ¬ (.null : Value) = (.ref w_11))]] at rv178
                          subst rv178
                          have N178 := Fr.app N175 N178q
                          obtain ⟨fs, hr, hrun, hended, hW, hsame⟩ := X178.leave (v := some (.int (1 : Int32))) (fun h => by rw [Bd.returns] at h; cases h)
                          refine ⟨_, _, pre67 _ ?_, hrun, hended, _, _, rfl, ?_, ⟨_, rfl⟩, hW, hsame.mono (by decide) (by decide)⟩
                          · show Steps p.tables e below (s₁.setTop (mkF m 21 #[.val (.int p0), .val (.int p1), .val (.int ((p0 &&& (2147483647 : Int32)) % (13 : Int32))), .val (.int (0 : Int32)), .unset, .unset, .unset, .unset, .unset] [(.int ((p0 &&& (2147483647 : Int32)) % (13 : Int32)))])) _
                            refine st172 _ ?_
                            show Steps p.tables e below (T172.setTop (mkF m 24 #[.val (.int p0), .val (.int p1), .val (.int ((p0 &&& (2147483647 : Int32)) % (13 : Int32))), .val (.int (0 : Int32)), .unset, .unset, .unset, .unset, .unset] [(.ref w_11)])) _
                            refine XS.astore X172.here hx rfl (hb hby at_24) rfl rfl (l' := #[.val (.int p0), .val (.int p1), .val (.int ((p0 &&& (2147483647 : Int32)) % (13 : Int32))), .val (.int (0 : Int32)), .val (.ref w_11), .unset, .unset, .unset, .unset]) rfl ?_
                            show Steps p.tables e below (T172.setTop (mkF m 26 #[.val (.int p0), .val (.int p1), .val (.int ((p0 &&& (2147483647 : Int32)) % (13 : Int32))), .val (.int (0 : Int32)), .val (.ref w_11), .unset, .unset, .unset, .unset] [])) _
                            refine st173 _ ?_
                            show Steps p.tables e below (T173.setTop (mkF m 29 #[.val (.int p0), .val (.int p1), .val (.int ((p0 &&& (2147483647 : Int32)) % (13 : Int32))), .val (.int (0 : Int32)), .val (.ref w_11), .unset, .unset, .unset, .unset] [(.ref b173)])) _
                            refine XS.dup X173.here hx rfl (hb hby at_29) rfl rfl ?_
                            show Steps p.tables e below (T173.setTop (mkF m 30 #[.val (.int p0), .val (.int p1), .val (.int ((p0 &&& (2147483647 : Int32)) % (13 : Int32))), .val (.int (0 : Int32)), .val (.ref w_11), .unset, .unset, .unset, .unset] [(.ref b173), (.ref b173)])) _
                            refine XS.aload X173.here hx rfl (hb hby at_30) rfl rfl ?_
                            show Steps p.tables e below (T173.setTop (mkF m 32 #[.val (.int p0), .val (.int p1), .val (.int ((p0 &&& (2147483647 : Int32)) % (13 : Int32))), .val (.int (0 : Int32)), .val (.ref w_11), .unset, .unset, .unset, .unset] [(.ref w_11), (.ref b173), (.ref b173)])) _
                            refine XS.iloadN X173.here hx rfl (hb hby at_32) rfl ?_
                            show Steps p.tables e below (T173.setTop (mkF m 33 #[.val (.int p0), .val (.int p1), .val (.int ((p0 &&& (2147483647 : Int32)) % (13 : Int32))), .val (.int (0 : Int32)), .val (.ref w_11), .unset, .unset, .unset, .unset] [(.int (0 : Int32)), (.ref w_11), (.ref b173), (.ref b173)])) _
                            refine st174.trans ?_
                            show Steps p.tables e below (T174.setTop (mkF m 36 #[.val (.int p0), .val (.int p1), .val (.int ((p0 &&& (2147483647 : Int32)) % (13 : Int32))), .val (.int (0 : Int32)), .val (.ref w_11), .unset, .unset, .unset, .unset] [(.ref b173)])) _
                            refine XS.astore X174.here hx rfl (hb hby at_36) rfl rfl (l' := #[.val (.int p0), .val (.int p1), .val (.int ((p0 &&& (2147483647 : Int32)) % (13 : Int32))), .val (.int (0 : Int32)), .val (.ref w_11), .val (.ref b173), .unset, .unset, .unset]) rfl ?_
                            show Steps p.tables e below (T174.setTop (mkF m 38 #[.val (.int p0), .val (.int p1), .val (.int ((p0 &&& (2147483647 : Int32)) % (13 : Int32))), .val (.int (0 : Int32)), .val (.ref w_11), .val (.ref b173), .unset, .unset, .unset] [])) _
                            refine XS.iloadN X174.here hx rfl (hb hby at_38) rfl ?_
                            show Steps p.tables e below (T174.setTop (mkF m 39 #[.val (.int p0), .val (.int p1), .val (.int ((p0 &&& (2147483647 : Int32)) % (13 : Int32))), .val (.int (0 : Int32)), .val (.ref w_11), .val (.ref b173), .unset, .unset, .unset] [(.int (0 : Int32))])) _
                            refine XS.ifYes X174.here hx rfl (pc0 := 39) (pc' := 48) rfl (hb hby at_39) rfl ((if0 _ _).trans (teq (by decide : ((0 : Int32) = (0 : Int32)))).1) (by decide) (by decide) ?_
                            show Steps p.tables e below (T174.setTop (mkF m 48 #[.val (.int p0), .val (.int p1), .val (.int ((p0 &&& (2147483647 : Int32)) % (13 : Int32))), .val (.int (0 : Int32)), .val (.ref w_11), .val (.ref b173), .unset, .unset, .unset] [])) _
                            refine XS.iloadN X174.here hx rfl (hb hby at_48) rfl ?_
                            show Steps p.tables e below (T174.setTop (mkF m 49 #[.val (.int p0), .val (.int p1), .val (.int ((p0 &&& (2147483647 : Int32)) % (13 : Int32))), .val (.int (0 : Int32)), .val (.ref w_11), .val (.ref b173), .unset, .unset, .unset] [(.int ((p0 &&& (2147483647 : Int32)) % (13 : Int32)))])) _
                            refine XS.bipush X174.here hx rfl (hb hby at_49) ?_
                            show Steps p.tables e below (T174.setTop (mkF m 51 #[.val (.int p0), .val (.int p1), .val (.int ((p0 &&& (2147483647 : Int32)) % (13 : Int32))), .val (.int (0 : Int32)), .val (.ref w_11), .val (.ref b173), .unset, .unset, .unset] [(.int (12 : Int32)), (.int ((p0 &&& (2147483647 : Int32)) % (13 : Int32)))])) _
                            refine XS.icmpYes X174.here hx rfl (pc0 := 51) (pc' := 60) rfl (hb hby at_51) rfl (feq (by rw [hc171] <;> decide : ¬ (((p0 &&& (2147483647 : Int32)) % (13 : Int32)) = (12 : Int32)))).2 (by decide) (by decide) ?_
                            show Steps p.tables e below (T174.setTop (mkF m 60 #[.val (.int p0), .val (.int p1), .val (.int ((p0 &&& (2147483647 : Int32)) % (13 : Int32))), .val (.int (0 : Int32)), .val (.ref w_11), .val (.ref b173), .unset, .unset, .unset] [])) _
                            refine XS.iconst X174.here hx rfl (hb hby at_60) ?_
                            show Steps p.tables e below (T174.setTop (mkF m 61 #[.val (.int p0), .val (.int p1), .val (.int ((p0 &&& (2147483647 : Int32)) % (13 : Int32))), .val (.int (0 : Int32)), .val (.ref w_11), .val (.ref b173), .unset, .unset, .unset] [(.int (0 : Int32))])) _
                            refine XS.istore X174.here hx rfl (hb hby at_61) rfl (l' := #[.val (.int p0), .val (.int p1), .val (.int ((p0 &&& (2147483647 : Int32)) % (13 : Int32))), .val (.int (0 : Int32)), .val (.ref w_11), .val (.ref b173), .val (.int (0 : Int32)), .unset, .unset]) rfl ?_
                            show Steps p.tables e below (T174.setTop (mkF m 63 #[.val (.int p0), .val (.int p1), .val (.int ((p0 &&& (2147483647 : Int32)) % (13 : Int32))), .val (.int (0 : Int32)), .val (.ref w_11), .val (.ref b173), .val (.int (0 : Int32)), .unset, .unset] [])) _
                            refine XS.aload X174.here hx rfl (hb hby at_63) rfl rfl ?_
                            show Steps p.tables e below (T174.setTop (mkF m 65 #[.val (.int p0), .val (.int p1), .val (.int ((p0 &&& (2147483647 : Int32)) % (13 : Int32))), .val (.int (0 : Int32)), .val (.ref w_11), .val (.ref b173), .val (.int (0 : Int32)), .unset, .unset] [(.ref b173)])) _
                            refine st175.trans ?_
                            show Steps p.tables e below (T175.setTop (mkF m 68 #[.val (.int p0), .val (.int p1), .val (.int ((p0 &&& (2147483647 : Int32)) % (13 : Int32))), .val (.int (0 : Int32)), .val (.ref w_11), .val (.ref b173), .val (.int (0 : Int32)), .unset, .unset] [(.int (0 : Int32))])) _
                            refine XS.istore X175.here hx rfl (hb hby at_68) rfl (l' := #[.val (.int p0), .val (.int p1), .val (.int ((p0 &&& (2147483647 : Int32)) % (13 : Int32))), .val (.int (0 : Int32)), .val (.ref w_11), .val (.ref b173), .val (.int (0 : Int32)), .val (.int (0 : Int32)), .unset]) rfl ?_
                            show Steps p.tables e below (T175.setTop (mkF m 70 #[.val (.int p0), .val (.int p1), .val (.int ((p0 &&& (2147483647 : Int32)) % (13 : Int32))), .val (.int (0 : Int32)), .val (.ref w_11), .val (.ref b173), .val (.int (0 : Int32)), .val (.int (0 : Int32)), .unset] [])) _
                            refine XS.aload X175.here hx rfl (hb hby at_70) rfl rfl ?_
                            show Steps p.tables e below (T175.setTop (mkF m 72 #[.val (.int p0), .val (.int p1), .val (.int ((p0 &&& (2147483647 : Int32)) % (13 : Int32))), .val (.int (0 : Int32)), .val (.ref w_11), .val (.ref b173), .val (.int (0 : Int32)), .val (.int (0 : Int32)), .unset] [(.ref b173)])) _
                            refine st177 _ ?_
                            show Steps p.tables e below (T177.setTop (mkF m 75 #[.val (.int p0), .val (.int p1), .val (.int ((p0 &&& (2147483647 : Int32)) % (13 : Int32))), .val (.int (0 : Int32)), .val (.ref w_11), .val (.ref b173), .val (.int (0 : Int32)), .val (.int (0 : Int32)), .unset] [(.ref w_2), (.ref b173)])) _
                            refine st178.trans ?_
                            show Steps p.tables e below (T178.setTop (mkF m 78 #[.val (.int p0), .val (.int p1), .val (.int ((p0 &&& (2147483647 : Int32)) % (13 : Int32))), .val (.int (0 : Int32)), .val (.ref w_11), .val (.ref b173), .val (.int (0 : Int32)), .val (.int (0 : Int32)), .unset] [(.int (0 : Int32))])) _
                            refine XS.istore X178.here hx rfl (hb hby at_78) rfl (l' := #[.val (.int p0), .val (.int p1), .val (.int ((p0 &&& (2147483647 : Int32)) % (13 : Int32))), .val (.int (0 : Int32)), .val (.ref w_11), .val (.ref b173), .val (.int (0 : Int32)), .val (.int (0 : Int32)), .val (.int (0 : Int32))]) rfl ?_
                            show Steps p.tables e below (T178.setTop (mkF m 80 #[.val (.int p0), .val (.int p1), .val (.int ((p0 &&& (2147483647 : Int32)) % (13 : Int32))), .val (.int (0 : Int32)), .val (.ref w_11), .val (.ref b173), .val (.int (0 : Int32)), .val (.int (0 : Int32)), .val (.int (0 : Int32))] [])) _
                            refine XS.iload X178.here hx rfl (hb hby at_80) rfl ?_
                            show Steps p.tables e below (T178.setTop (mkF m 82 #[.val (.int p0), .val (.int p1), .val (.int ((p0 &&& (2147483647 : Int32)) % (13 : Int32))), .val (.int (0 : Int32)), .val (.ref w_11), .val (.ref b173), .val (.int (0 : Int32)), .val (.int (0 : Int32)), .val (.int (0 : Int32))] [(.int (0 : Int32))])) _
                            refine XS.iload X178.here hx rfl (hb hby at_82) rfl ?_
                            show Steps p.tables e below (T178.setTop (mkF m 84 #[.val (.int p0), .val (.int p1), .val (.int ((p0 &&& (2147483647 : Int32)) % (13 : Int32))), .val (.int (0 : Int32)), .val (.ref w_11), .val (.ref b173), .val (.int (0 : Int32)), .val (.int (0 : Int32)), .val (.int (0 : Int32))] [(.int (0 : Int32)), (.int (0 : Int32))])) _
                            refine XS.icmpNo X178.here hx rfl (hb hby at_84) rfl (teq (by decide : ((0 : Int32) = (0 : Int32)))).2 ?_
                            show Steps p.tables e below (T178.setTop (mkF m 87 #[.val (.int p0), .val (.int p1), .val (.int ((p0 &&& (2147483647 : Int32)) % (13 : Int32))), .val (.int (0 : Int32)), .val (.ref w_11), .val (.ref b173), .val (.int (0 : Int32)), .val (.int (0 : Int32)), .val (.int (0 : Int32))] [])) _
                            refine XS.iload X178.here hx rfl (hb hby at_87) rfl ?_
                            show Steps p.tables e below (T178.setTop (mkF m 89 #[.val (.int p0), .val (.int p1), .val (.int ((p0 &&& (2147483647 : Int32)) % (13 : Int32))), .val (.int (0 : Int32)), .val (.ref w_11), .val (.ref b173), .val (.int (0 : Int32)), .val (.int (0 : Int32)), .val (.int (0 : Int32))] [(.int (0 : Int32))])) _
                            refine XS.iload X178.here hx rfl (hb hby at_89) rfl ?_
                            show Steps p.tables e below (T178.setTop (mkF m 91 #[.val (.int p0), .val (.int p1), .val (.int ((p0 &&& (2147483647 : Int32)) % (13 : Int32))), .val (.int (0 : Int32)), .val (.ref w_11), .val (.ref b173), .val (.int (0 : Int32)), .val (.int (0 : Int32)), .val (.int (0 : Int32))] [(.int (0 : Int32)), (.int (0 : Int32))])) _
                            refine XS.icmpNo X178.here hx rfl (hb hby at_91) rfl (teq (by decide : ((0 : Int32) = (0 : Int32)))).2 ?_
                            show Steps p.tables e below (T178.setTop (mkF m 94 #[.val (.int p0), .val (.int p1), .val (.int ((p0 &&& (2147483647 : Int32)) % (13 : Int32))), .val (.int (0 : Int32)), .val (.ref w_11), .val (.ref b173), .val (.int (0 : Int32)), .val (.int (0 : Int32)), .val (.int (0 : Int32))] [])) _
                            refine XS.iconst X178.here hx rfl (hb hby at_94) ?_
                            show Steps p.tables e below (T178.setTop (mkF m 95 #[.val (.int p0), .val (.int p1), .val (.int ((p0 &&& (2147483647 : Int32)) % (13 : Int32))), .val (.int (0 : Int32)), .val (.ref w_11), .val (.ref b173), .val (.int (0 : Int32)), .val (.int (0 : Int32)), .val (.int (0 : Int32))] [(.int (1 : Int32))])) _
                            refine XS.goto X178.here hx rfl (pc0 := 95) (pc' := 99) rfl (hb hby at_95) (by decide) (by decide) ?_
                            show Steps p.tables e below (T178.setTop (mkF m 99 #[.val (.int p0), .val (.int p1), .val (.int ((p0 &&& (2147483647 : Int32)) % (13 : Int32))), .val (.int (0 : Int32)), .val (.ref w_11), .val (.ref b173), .val (.int (0 : Int32)), .val (.int (0 : Int32)), .val (.int (0 : Int32))] [(.int (1 : Int32))])) _
                            exact retN X178 hx (t := .boolean) Bd.returns (by simp) (hb hby at_99) hr
                          · show Q0 Z w_1 w_2 w_3 w_4 w_5 w_6 w_7 w_8 w_9 w_10 w_11 w_12 w_13 p0 p1 h0 n0 _ T178.heap _
                            rw [e178]
                            exact ⟨by unfold sp0; rw [if_pos hc30, if_neg hc68, if_neg hc99, if_neg hc107, if_neg hc115, if_neg hc123, if_neg hc131, if_neg hc139, if_neg hc147, if_neg hc155, if_neg hc163, if_pos hc171], N178, trivial⟩
                        · by_cases hc179 : ((p0 &&& (2147483647 : Int32)) % (13 : Int32)) = (11 : Int32)
                          · obtain ⟨_, _, ⟨T180, L180, k180, n180⟩, -, X180, ⟨Lc180, hQ180, l180, y180, z180⟩, st180⟩ := Jvm.LawKit.callS X0 hx (y := Y0) hown (mvT hZ (hw _ (tk 1 rfl))) (mvT hZ (hw _ (tk 2 rfl))) (mvT hZ (hw _ (tk 3 rfl))) (mvT hZ (hw _ (tk 4 rfl))) (by decide) (backOf (W := 0) (rm1 l Z a0 hw [] w_1 w_2 w_3 w_4 w_5 w_6 w_7 w_8 w_9 w_10 w_11 w_12 w_13 hS0 ((p0 &&& (2147483647 : Int32)) % (13 : Int32)) h0 n0 O0) hZ (hw _ (tk 4 rfl)) (hw _ (tk 3 rfl)) (by decide) (by decide)) (g := (mkF m 21 #[.val (.int p0), .val (.int p1), .val (.int ((p0 &&& (2147483647 : Int32)) % (13 : Int32))), .val (.int (0 : Int32)), .unset, .unset, .unset, .unset, .unset] [(.int ((p0 &&& (2147483647 : Int32)) % (13 : Int32)))])) rfl (by rw [hml]; rfl) (argsL := [(.int ((p0 &&& (2147483647 : Int32)) % (13 : Int32)))]) (rest := []) (lenOf pd_0 rfl) rfl (by show 2 * 0 + _ ≤ _; exact Nat.le_of_eq rfl) (hb hby at_21) (fun _ _ => ⟨rfl, e0, (by decide : 0 + 0 ≤ _), (by decide : 0 + 0 ≤ _)⟩)
                            dsimp only [Pt.U, Pt.locs, Pt.cells, Pt.slots] at X180 l180 y180 z180 st180 hQ180
                            subst l180 y180 z180
                            obtain ⟨rv180, N180q, e180⟩ := hQ180
                            rw [show sp1 w_1 w_3 w_4 w_5 w_6 w_7 w_8 w_9 w_10 w_11 w_12 w_13 ((p0 &&& (2147483647 : Int32)) % (13 : Int32)) = (.ref w_12) from by unfold sp1; rw [if_neg hc68, if_neg hc99, if_neg hc107, if_neg hc115, if_neg hc123, if_neg hc131, if_neg hc139, if_neg hc147, if_neg hc155, if_neg hc163, if_neg hc171, if_pos hc179]] at rv180
                            subst rv180
                            have N180 := Fr.app N0 N180q
                            obtain ⟨T181, h181, X181, e181, E181, A181, D181, -, st181⟩ := newO X180 hx hZ hown (hw _ (tk 8 rfl)) (hw _ (tk 9 rfl)) (hw _ (tk 10 rfl)) e180 (g := (mkF m 26 #[.val (.int p0), .val (.int p1), .val (.int ((p0 &&& (2147483647 : Int32)) % (13 : Int32))), .val (.int (0 : Int32)), .val (.ref w_12), .unset, .unset, .unset, .unset] [])) rfl (hb hby at_26) (by decide) (by decide)
                            obtain ⟨b181, g181⟩ : ∃ z, z = h0.size := ⟨_, rfl⟩
                            rw [← g181] at A181 D181 st181
                            have g_b181 : n0 ≤ b181 := Nat.le_trans (own_old O0) (Nat.le_of_eq g181.symm)
                            have O181 : Old Z n0 h181 := O0.ext E181
                            have F_integer_b181 : Fld Z h181 b181 "com/example/discharge/discharge/frontend/Syntax$Type" "integer" "Lcom/example/discharge/discharge/frontend/IntegerType;" .null := D181 (Or.inr (hw _ (tk 23 rfl))) (ty := (.object "com/example/discharge/discharge/frontend/IntegerType")) (by decide)
                            have F_pointer_b181 : Fld Z h181 b181 "com/example/discharge/discharge/frontend/Syntax$Type" "pointer" "Z" (.int (0 : Int32)) := D181 (Or.inr (hw _ (tk 25 rfl))) (ty := .boolean) (by decide)
                            obtain ⟨_, _, ⟨T182, L182, k182, n182⟩, -, X182, ⟨Lc182, hQ182, l182, y182, z182⟩, st182⟩ := X181.specialBack hx (y := Y2) rfl hown (mvT hZ (hw _ (tk 11 rfl))) (mvT hZ (hw _ (tk 12 rfl))) (mvT hZ (hw _ (tk 13 rfl))) (by decide) (backOf (W := 1) (rm2x1 l Z a0 hw [] w_1 w_2 w_3 w_4 w_5 w_6 w_7 w_8 w_9 w_10 w_11 w_12 w_13 hS0 b181 w_12 (0 : Int32) h181 n0 O181 g_b181 A181 F_integer_b181 F_pointer_b181) hZ (hw _ (tk 13 rfl)) (hw _ (tk 10 rfl)) (by decide) (by decide)) (g := (mkF m 33 #[.val (.int p0), .val (.int p1), .val (.int ((p0 &&& (2147483647 : Int32)) % (13 : Int32))), .val (.int (0 : Int32)), .val (.ref w_12), .unset, .unset, .unset, .unset] [(.int (0 : Int32)), (.ref w_12), (.ref b181), (.ref b181)])) rfl (by rw [hml]; rfl) (Steps.refl _) (a := b181) (argsL := [(.ref w_12), (.int (0 : Int32))]) (rest := [(.ref b181)]) (lenOf pd_2 rfl) rfl (by show 2 * 0 + _ ≤ _; exact Nat.le_of_eq rfl) (hb hby at_33) (fun _ _ => ⟨rfl, e181, (by decide : 1 + 0 ≤ _), (by decide : 2 + 0 ≤ _)⟩)
                            dsimp only [Pt.U, Pt.locs, Pt.cells, Pt.slots] at X182 l182 y182 z182 st182 hQ182
                            subst l182 y182 z182
                            obtain ⟨rv182, N182q, O182, K182c, Fe182_0, Fe182_1⟩ := hQ182
                            subst rv182
                            have N182 := Fr.app N180 N182q
                            have c184 := (A181.keep K182c)
                            obtain ⟨cq183, kq183, q183a, q183b, q183c⟩ := isOf hZ rfl c184
                            obtain ⟨_, _, ⟨T183, L183, k183, n183⟩, -, X183, ⟨Lc183, hQ183, l183, y183, z183⟩, st183⟩ := X182.virtualBack hx (y := Y3) (z := Y3) hown (mvT hZ (hw _ (tk 26 rfl))) (mvT hZ (hw _ (tk 27 rfl))) (notFace_of_selects (args := #[]) (mvT hZ (hw _ (tk 29 rfl)))) (mvT hZ (hw _ (tk 29 rfl))) (mvT hZ (hw _ (tk 28 rfl))) (by decide) (backOf (W := 0) (rm5 l Z a0 hw [] w_1 w_2 w_3 w_4 w_5 w_6 w_7 w_8 w_9 w_10 w_11 w_12 w_13 hS0 b181 (.ref w_12) (nar .boolean (0 : Int32)) T182.heap n0 O182 Fe182_0 rfl Fe182_1) hZ (hw _ (tk 30 rfl)) (hw _ (tk 10 rfl)) (by decide) (by decide)) q183a q183c (g := (mkF m 65 #[.val (.int p0), .val (.int p1), .val (.int ((p0 &&& (2147483647 : Int32)) % (13 : Int32))), .val (.int (0 : Int32)), .val (.ref w_12), .val (.ref b181), .val (.int (0 : Int32)), .unset, .unset] [(.ref b181)])) rfl (by rw [hml]; rfl) (Steps.refl _) (argsL := []) (rest := []) (lenOf pd_3 rfl) rfl (by show 2 * 0 + _ ≤ _; exact Nat.le_of_eq rfl) (hb hby at_65) (fun _ _ => ⟨rfl, rfl, (by decide : 1 + 0 ≤ _), (by decide : 2 + 0 ≤ _)⟩)
                            dsimp only [Pt.U, Pt.locs, Pt.cells, Pt.slots] at X183 l183 y183 z183 st183 hQ183
                            subst l183 y183 z183
                            obtain ⟨rv183, N183q, e183⟩ := hQ183
                            rw [show sp5 (.ref w_12) (nar .boolean (0 : Int32)) = (0 : Int32) from by unfold sp5; rw [if_neg (nofun : ¬ ((.ref w_12) : Value) = .null)]] at rv183
                            subst rv183
                            have N183 := Fr.app N182 N183q
                            obtain ⟨T185, X185, e185, st185⟩ := getS2 X183 hx hZ hown (host := "") (Or.inl (hw _ (tk 31 rfl))) Via.refl e183 (S_2.ext O182.2) (g := (mkF m 72 #[.val (.int p0), .val (.int p1), .val (.int ((p0 &&& (2147483647 : Int32)) % (13 : Int32))), .val (.int (0 : Int32)), .val (.ref w_12), .val (.ref b181), .val (.int (0 : Int32)), .val (.int (0 : Int32)), .unset] [(.ref b181)])) rfl (hb hby at_72)
                            obtain ⟨cq186, kq186, q186a, q186b, q186c⟩ := isOf hZ e185 c184
                            obtain ⟨_, _, ⟨T186, L186, k186, n186⟩, -, X186, ⟨Lc186, hQ186, l186, y186, z186⟩, st186⟩ := X185.virtualBack hx (y := Y4) (z := Y4) hown (mvT hZ (hw _ (tk 33 rfl))) (mvT hZ (hw _ (tk 34 rfl))) (notFace_of_selects (args := #[]) (mvT hZ (hw _ (tk 36 rfl)))) (mvT hZ (hw _ (tk 36 rfl))) (mvT hZ (hw _ (tk 35 rfl))) (by decide) (backOf (W := 0) (rm6c1 l Z a0 hw [] w_1 w_2 w_3 w_4 w_5 w_6 w_7 w_8 w_9 w_10 w_11 w_12 w_13 hS0 b181 w_2 .null (.ref w_12) (0 : Int32) (nar .boolean (0 : Int32)) T182.heap n0 O182 (E_2.ext O182.2) (F_2_integer.ext O182.2) rfl Fe182_0 rfl (F_2_pointer.ext O182.2) Fe182_1) hZ (hw _ (tk 37 rfl)) (hw _ (tk 10 rfl)) (by decide) (by decide)) q186a q186c (g := (mkF m 75 #[.val (.int p0), .val (.int p1), .val (.int ((p0 &&& (2147483647 : Int32)) % (13 : Int32))), .val (.int (0 : Int32)), .val (.ref w_12), .val (.ref b181), .val (.int (0 : Int32)), .val (.int (0 : Int32)), .unset] [(.ref w_2), (.ref b181)])) rfl (by rw [hml]; rfl) (Steps.refl _) (argsL := [(.ref w_2)]) (rest := []) (lenOf pd_4 rfl) rfl (by show 2 * 0 + _ ≤ _; exact Nat.le_of_eq rfl) (hb hby at_75) (fun _ _ => ⟨rfl, e185, (by decide : 1 + 0 ≤ _), (by decide : 2 + 0 ≤ _)⟩)
                            dsimp only [Pt.U, Pt.locs, Pt.cells, Pt.slots] at X186 l186 y186 z186 st186 hQ186
                            subst l186 y186 z186
                            obtain ⟨rv186, N186q, e186⟩ := hQ186
                            rw [show sp6c1 .null (.ref w_12) (0 : Int32) (nar .boolean (0 : Int32)) = (0 : Int32) from by unfold sp6c1; rw [if_neg (nofun : ¬ (.null : Value) = (.ref w_12))]] at rv186
                            subst rv186
                            have N186 := Fr.app N183 N186q
                            obtain ⟨fs, hr, hrun, hended, hW, hsame⟩ := X186.leave (v := some (.int (1 : Int32))) (fun h => by rw [Bd.returns] at h; cases h)
                            refine ⟨_, _, pre67 _ ?_, hrun, hended, _, _, rfl, ?_, ⟨_, rfl⟩, hW, hsame.mono (by decide) (by decide)⟩
                            · show Steps p.tables e below (s₁.setTop (mkF m 21 #[.val (.int p0), .val (.int p1), .val (.int ((p0 &&& (2147483647 : Int32)) % (13 : Int32))), .val (.int (0 : Int32)), .unset, .unset, .unset, .unset, .unset] [(.int ((p0 &&& (2147483647 : Int32)) % (13 : Int32)))])) _
                              refine st180 _ ?_
                              show Steps p.tables e below (T180.setTop (mkF m 24 #[.val (.int p0), .val (.int p1), .val (.int ((p0 &&& (2147483647 : Int32)) % (13 : Int32))), .val (.int (0 : Int32)), .unset, .unset, .unset, .unset, .unset] [(.ref w_12)])) _
                              refine XS.astore X180.here hx rfl (hb hby at_24) rfl rfl (l' := #[.val (.int p0), .val (.int p1), .val (.int ((p0 &&& (2147483647 : Int32)) % (13 : Int32))), .val (.int (0 : Int32)), .val (.ref w_12), .unset, .unset, .unset, .unset]) rfl ?_
                              show Steps p.tables e below (T180.setTop (mkF m 26 #[.val (.int p0), .val (.int p1), .val (.int ((p0 &&& (2147483647 : Int32)) % (13 : Int32))), .val (.int (0 : Int32)), .val (.ref w_12), .unset, .unset, .unset, .unset] [])) _
                              refine st181 _ ?_
                              show Steps p.tables e below (T181.setTop (mkF m 29 #[.val (.int p0), .val (.int p1), .val (.int ((p0 &&& (2147483647 : Int32)) % (13 : Int32))), .val (.int (0 : Int32)), .val (.ref w_12), .unset, .unset, .unset, .unset] [(.ref b181)])) _
                              refine XS.dup X181.here hx rfl (hb hby at_29) rfl rfl ?_
                              show Steps p.tables e below (T181.setTop (mkF m 30 #[.val (.int p0), .val (.int p1), .val (.int ((p0 &&& (2147483647 : Int32)) % (13 : Int32))), .val (.int (0 : Int32)), .val (.ref w_12), .unset, .unset, .unset, .unset] [(.ref b181), (.ref b181)])) _
                              refine XS.aload X181.here hx rfl (hb hby at_30) rfl rfl ?_
                              show Steps p.tables e below (T181.setTop (mkF m 32 #[.val (.int p0), .val (.int p1), .val (.int ((p0 &&& (2147483647 : Int32)) % (13 : Int32))), .val (.int (0 : Int32)), .val (.ref w_12), .unset, .unset, .unset, .unset] [(.ref w_12), (.ref b181), (.ref b181)])) _
                              refine XS.iloadN X181.here hx rfl (hb hby at_32) rfl ?_
                              show Steps p.tables e below (T181.setTop (mkF m 33 #[.val (.int p0), .val (.int p1), .val (.int ((p0 &&& (2147483647 : Int32)) % (13 : Int32))), .val (.int (0 : Int32)), .val (.ref w_12), .unset, .unset, .unset, .unset] [(.int (0 : Int32)), (.ref w_12), (.ref b181), (.ref b181)])) _
                              refine st182.trans ?_
                              show Steps p.tables e below (T182.setTop (mkF m 36 #[.val (.int p0), .val (.int p1), .val (.int ((p0 &&& (2147483647 : Int32)) % (13 : Int32))), .val (.int (0 : Int32)), .val (.ref w_12), .unset, .unset, .unset, .unset] [(.ref b181)])) _
                              refine XS.astore X182.here hx rfl (hb hby at_36) rfl rfl (l' := #[.val (.int p0), .val (.int p1), .val (.int ((p0 &&& (2147483647 : Int32)) % (13 : Int32))), .val (.int (0 : Int32)), .val (.ref w_12), .val (.ref b181), .unset, .unset, .unset]) rfl ?_
                              show Steps p.tables e below (T182.setTop (mkF m 38 #[.val (.int p0), .val (.int p1), .val (.int ((p0 &&& (2147483647 : Int32)) % (13 : Int32))), .val (.int (0 : Int32)), .val (.ref w_12), .val (.ref b181), .unset, .unset, .unset] [])) _
                              refine XS.iloadN X182.here hx rfl (hb hby at_38) rfl ?_
                              show Steps p.tables e below (T182.setTop (mkF m 39 #[.val (.int p0), .val (.int p1), .val (.int ((p0 &&& (2147483647 : Int32)) % (13 : Int32))), .val (.int (0 : Int32)), .val (.ref w_12), .val (.ref b181), .unset, .unset, .unset] [(.int (0 : Int32))])) _
                              refine XS.ifYes X182.here hx rfl (pc0 := 39) (pc' := 48) rfl (hb hby at_39) rfl ((if0 _ _).trans (teq (by decide : ((0 : Int32) = (0 : Int32)))).1) (by decide) (by decide) ?_
                              show Steps p.tables e below (T182.setTop (mkF m 48 #[.val (.int p0), .val (.int p1), .val (.int ((p0 &&& (2147483647 : Int32)) % (13 : Int32))), .val (.int (0 : Int32)), .val (.ref w_12), .val (.ref b181), .unset, .unset, .unset] [])) _
                              refine XS.iloadN X182.here hx rfl (hb hby at_48) rfl ?_
                              show Steps p.tables e below (T182.setTop (mkF m 49 #[.val (.int p0), .val (.int p1), .val (.int ((p0 &&& (2147483647 : Int32)) % (13 : Int32))), .val (.int (0 : Int32)), .val (.ref w_12), .val (.ref b181), .unset, .unset, .unset] [(.int ((p0 &&& (2147483647 : Int32)) % (13 : Int32)))])) _
                              refine XS.bipush X182.here hx rfl (hb hby at_49) ?_
                              show Steps p.tables e below (T182.setTop (mkF m 51 #[.val (.int p0), .val (.int p1), .val (.int ((p0 &&& (2147483647 : Int32)) % (13 : Int32))), .val (.int (0 : Int32)), .val (.ref w_12), .val (.ref b181), .unset, .unset, .unset] [(.int (12 : Int32)), (.int ((p0 &&& (2147483647 : Int32)) % (13 : Int32)))])) _
                              refine XS.icmpYes X182.here hx rfl (pc0 := 51) (pc' := 60) rfl (hb hby at_51) rfl (feq (by rw [hc179] <;> decide : ¬ (((p0 &&& (2147483647 : Int32)) % (13 : Int32)) = (12 : Int32)))).2 (by decide) (by decide) ?_
                              show Steps p.tables e below (T182.setTop (mkF m 60 #[.val (.int p0), .val (.int p1), .val (.int ((p0 &&& (2147483647 : Int32)) % (13 : Int32))), .val (.int (0 : Int32)), .val (.ref w_12), .val (.ref b181), .unset, .unset, .unset] [])) _
                              refine XS.iconst X182.here hx rfl (hb hby at_60) ?_
                              show Steps p.tables e below (T182.setTop (mkF m 61 #[.val (.int p0), .val (.int p1), .val (.int ((p0 &&& (2147483647 : Int32)) % (13 : Int32))), .val (.int (0 : Int32)), .val (.ref w_12), .val (.ref b181), .unset, .unset, .unset] [(.int (0 : Int32))])) _
                              refine XS.istore X182.here hx rfl (hb hby at_61) rfl (l' := #[.val (.int p0), .val (.int p1), .val (.int ((p0 &&& (2147483647 : Int32)) % (13 : Int32))), .val (.int (0 : Int32)), .val (.ref w_12), .val (.ref b181), .val (.int (0 : Int32)), .unset, .unset]) rfl ?_
                              show Steps p.tables e below (T182.setTop (mkF m 63 #[.val (.int p0), .val (.int p1), .val (.int ((p0 &&& (2147483647 : Int32)) % (13 : Int32))), .val (.int (0 : Int32)), .val (.ref w_12), .val (.ref b181), .val (.int (0 : Int32)), .unset, .unset] [])) _
                              refine XS.aload X182.here hx rfl (hb hby at_63) rfl rfl ?_
                              show Steps p.tables e below (T182.setTop (mkF m 65 #[.val (.int p0), .val (.int p1), .val (.int ((p0 &&& (2147483647 : Int32)) % (13 : Int32))), .val (.int (0 : Int32)), .val (.ref w_12), .val (.ref b181), .val (.int (0 : Int32)), .unset, .unset] [(.ref b181)])) _
                              refine st183.trans ?_
                              show Steps p.tables e below (T183.setTop (mkF m 68 #[.val (.int p0), .val (.int p1), .val (.int ((p0 &&& (2147483647 : Int32)) % (13 : Int32))), .val (.int (0 : Int32)), .val (.ref w_12), .val (.ref b181), .val (.int (0 : Int32)), .unset, .unset] [(.int (0 : Int32))])) _
                              refine XS.istore X183.here hx rfl (hb hby at_68) rfl (l' := #[.val (.int p0), .val (.int p1), .val (.int ((p0 &&& (2147483647 : Int32)) % (13 : Int32))), .val (.int (0 : Int32)), .val (.ref w_12), .val (.ref b181), .val (.int (0 : Int32)), .val (.int (0 : Int32)), .unset]) rfl ?_
                              show Steps p.tables e below (T183.setTop (mkF m 70 #[.val (.int p0), .val (.int p1), .val (.int ((p0 &&& (2147483647 : Int32)) % (13 : Int32))), .val (.int (0 : Int32)), .val (.ref w_12), .val (.ref b181), .val (.int (0 : Int32)), .val (.int (0 : Int32)), .unset] [])) _
                              refine XS.aload X183.here hx rfl (hb hby at_70) rfl rfl ?_
                              show Steps p.tables e below (T183.setTop (mkF m 72 #[.val (.int p0), .val (.int p1), .val (.int ((p0 &&& (2147483647 : Int32)) % (13 : Int32))), .val (.int (0 : Int32)), .val (.ref w_12), .val (.ref b181), .val (.int (0 : Int32)), .val (.int (0 : Int32)), .unset] [(.ref b181)])) _
                              refine st185 _ ?_
                              show Steps p.tables e below (T185.setTop (mkF m 75 #[.val (.int p0), .val (.int p1), .val (.int ((p0 &&& (2147483647 : Int32)) % (13 : Int32))), .val (.int (0 : Int32)), .val (.ref w_12), .val (.ref b181), .val (.int (0 : Int32)), .val (.int (0 : Int32)), .unset] [(.ref w_2), (.ref b181)])) _
                              refine st186.trans ?_
                              show Steps p.tables e below (T186.setTop (mkF m 78 #[.val (.int p0), .val (.int p1), .val (.int ((p0 &&& (2147483647 : Int32)) % (13 : Int32))), .val (.int (0 : Int32)), .val (.ref w_12), .val (.ref b181), .val (.int (0 : Int32)), .val (.int (0 : Int32)), .unset] [(.int (0 : Int32))])) _
                              refine XS.istore X186.here hx rfl (hb hby at_78) rfl (l' := #[.val (.int p0), .val (.int p1), .val (.int ((p0 &&& (2147483647 : Int32)) % (13 : Int32))), .val (.int (0 : Int32)), .val (.ref w_12), .val (.ref b181), .val (.int (0 : Int32)), .val (.int (0 : Int32)), .val (.int (0 : Int32))]) rfl ?_
                              show Steps p.tables e below (T186.setTop (mkF m 80 #[.val (.int p0), .val (.int p1), .val (.int ((p0 &&& (2147483647 : Int32)) % (13 : Int32))), .val (.int (0 : Int32)), .val (.ref w_12), .val (.ref b181), .val (.int (0 : Int32)), .val (.int (0 : Int32)), .val (.int (0 : Int32))] [])) _
                              refine XS.iload X186.here hx rfl (hb hby at_80) rfl ?_
                              show Steps p.tables e below (T186.setTop (mkF m 82 #[.val (.int p0), .val (.int p1), .val (.int ((p0 &&& (2147483647 : Int32)) % (13 : Int32))), .val (.int (0 : Int32)), .val (.ref w_12), .val (.ref b181), .val (.int (0 : Int32)), .val (.int (0 : Int32)), .val (.int (0 : Int32))] [(.int (0 : Int32))])) _
                              refine XS.iload X186.here hx rfl (hb hby at_82) rfl ?_
                              show Steps p.tables e below (T186.setTop (mkF m 84 #[.val (.int p0), .val (.int p1), .val (.int ((p0 &&& (2147483647 : Int32)) % (13 : Int32))), .val (.int (0 : Int32)), .val (.ref w_12), .val (.ref b181), .val (.int (0 : Int32)), .val (.int (0 : Int32)), .val (.int (0 : Int32))] [(.int (0 : Int32)), (.int (0 : Int32))])) _
                              refine XS.icmpNo X186.here hx rfl (hb hby at_84) rfl (teq (by decide : ((0 : Int32) = (0 : Int32)))).2 ?_
                              show Steps p.tables e below (T186.setTop (mkF m 87 #[.val (.int p0), .val (.int p1), .val (.int ((p0 &&& (2147483647 : Int32)) % (13 : Int32))), .val (.int (0 : Int32)), .val (.ref w_12), .val (.ref b181), .val (.int (0 : Int32)), .val (.int (0 : Int32)), .val (.int (0 : Int32))] [])) _
                              refine XS.iload X186.here hx rfl (hb hby at_87) rfl ?_
                              show Steps p.tables e below (T186.setTop (mkF m 89 #[.val (.int p0), .val (.int p1), .val (.int ((p0 &&& (2147483647 : Int32)) % (13 : Int32))), .val (.int (0 : Int32)), .val (.ref w_12), .val (.ref b181), .val (.int (0 : Int32)), .val (.int (0 : Int32)), .val (.int (0 : Int32))] [(.int (0 : Int32))])) _
                              refine XS.iload X186.here hx rfl (hb hby at_89) rfl ?_
                              show Steps p.tables e below (T186.setTop (mkF m 91 #[.val (.int p0), .val (.int p1), .val (.int ((p0 &&& (2147483647 : Int32)) % (13 : Int32))), .val (.int (0 : Int32)), .val (.ref w_12), .val (.ref b181), .val (.int (0 : Int32)), .val (.int (0 : Int32)), .val (.int (0 : Int32))] [(.int (0 : Int32)), (.int (0 : Int32))])) _
                              refine XS.icmpNo X186.here hx rfl (hb hby at_91) rfl (teq (by decide : ((0 : Int32) = (0 : Int32)))).2 ?_
                              show Steps p.tables e below (T186.setTop (mkF m 94 #[.val (.int p0), .val (.int p1), .val (.int ((p0 &&& (2147483647 : Int32)) % (13 : Int32))), .val (.int (0 : Int32)), .val (.ref w_12), .val (.ref b181), .val (.int (0 : Int32)), .val (.int (0 : Int32)), .val (.int (0 : Int32))] [])) _
                              refine XS.iconst X186.here hx rfl (hb hby at_94) ?_
                              show Steps p.tables e below (T186.setTop (mkF m 95 #[.val (.int p0), .val (.int p1), .val (.int ((p0 &&& (2147483647 : Int32)) % (13 : Int32))), .val (.int (0 : Int32)), .val (.ref w_12), .val (.ref b181), .val (.int (0 : Int32)), .val (.int (0 : Int32)), .val (.int (0 : Int32))] [(.int (1 : Int32))])) _
                              refine XS.goto X186.here hx rfl (pc0 := 95) (pc' := 99) rfl (hb hby at_95) (by decide) (by decide) ?_
                              show Steps p.tables e below (T186.setTop (mkF m 99 #[.val (.int p0), .val (.int p1), .val (.int ((p0 &&& (2147483647 : Int32)) % (13 : Int32))), .val (.int (0 : Int32)), .val (.ref w_12), .val (.ref b181), .val (.int (0 : Int32)), .val (.int (0 : Int32)), .val (.int (0 : Int32))] [(.int (1 : Int32))])) _
                              exact retN X186 hx (t := .boolean) Bd.returns (by simp) (hb hby at_99) hr
                            · show Q0 Z w_1 w_2 w_3 w_4 w_5 w_6 w_7 w_8 w_9 w_10 w_11 w_12 w_13 p0 p1 h0 n0 _ T186.heap _
                              rw [e186]
                              exact ⟨by unfold sp0; rw [if_pos hc30, if_neg hc68, if_neg hc99, if_neg hc107, if_neg hc115, if_neg hc123, if_neg hc131, if_neg hc139, if_neg hc147, if_neg hc155, if_neg hc163, if_neg hc171, if_pos hc179], N186, trivial⟩
                          · obtain ⟨_, _, ⟨T187, L187, k187, n187⟩, -, X187, ⟨Lc187, hQ187, l187, y187, z187⟩, st187⟩ := Jvm.LawKit.callS X0 hx (y := Y0) hown (mvT hZ (hw _ (tk 1 rfl))) (mvT hZ (hw _ (tk 2 rfl))) (mvT hZ (hw _ (tk 3 rfl))) (mvT hZ (hw _ (tk 4 rfl))) (by decide) (backOf (W := 0) (rm1 l Z a0 hw [] w_1 w_2 w_3 w_4 w_5 w_6 w_7 w_8 w_9 w_10 w_11 w_12 w_13 hS0 ((p0 &&& (2147483647 : Int32)) % (13 : Int32)) h0 n0 O0) hZ (hw _ (tk 4 rfl)) (hw _ (tk 3 rfl)) (by decide) (by decide)) (g := (mkF m 21 #[.val (.int p0), .val (.int p1), .val (.int ((p0 &&& (2147483647 : Int32)) % (13 : Int32))), .val (.int (0 : Int32)), .unset, .unset, .unset, .unset, .unset] [(.int ((p0 &&& (2147483647 : Int32)) % (13 : Int32)))])) rfl (by rw [hml]; rfl) (argsL := [(.int ((p0 &&& (2147483647 : Int32)) % (13 : Int32)))]) (rest := []) (lenOf pd_0 rfl) rfl (by show 2 * 0 + _ ≤ _; exact Nat.le_of_eq rfl) (hb hby at_21) (fun _ _ => ⟨rfl, e0, (by decide : 0 + 0 ≤ _), (by decide : 0 + 0 ≤ _)⟩)
                            dsimp only [Pt.U, Pt.locs, Pt.cells, Pt.slots] at X187 l187 y187 z187 st187 hQ187
                            subst l187 y187 z187
                            obtain ⟨rv187, N187q, e187⟩ := hQ187
                            rw [show sp1 w_1 w_3 w_4 w_5 w_6 w_7 w_8 w_9 w_10 w_11 w_12 w_13 ((p0 &&& (2147483647 : Int32)) % (13 : Int32)) = .null from by unfold sp1; rw [if_neg hc68, if_neg hc99, if_neg hc107, if_neg hc115, if_neg hc123, if_neg hc131, if_neg hc139, if_neg hc147, if_neg hc155, if_neg hc163, if_neg hc171, if_neg hc179]] at rv187
                            subst rv187
                            have N187 := Fr.app N0 N187q
                            obtain ⟨T188, h188, X188, e188, E188, A188, D188, -, st188⟩ := newO X187 hx hZ hown (hw _ (tk 8 rfl)) (hw _ (tk 9 rfl)) (hw _ (tk 10 rfl)) e187 (g := (mkF m 26 #[.val (.int p0), .val (.int p1), .val (.int ((p0 &&& (2147483647 : Int32)) % (13 : Int32))), .val (.int (0 : Int32)), .val .null, .unset, .unset, .unset, .unset] [])) rfl (hb hby at_26) (by decide) (by decide)
                            obtain ⟨b188, g188⟩ : ∃ z, z = h0.size := ⟨_, rfl⟩
                            rw [← g188] at A188 D188 st188
                            have g_b188 : n0 ≤ b188 := Nat.le_trans (own_old O0) (Nat.le_of_eq g188.symm)
                            have O188 : Old Z n0 h188 := O0.ext E188
                            have F_integer_b188 : Fld Z h188 b188 "com/example/discharge/discharge/frontend/Syntax$Type" "integer" "Lcom/example/discharge/discharge/frontend/IntegerType;" .null := D188 (Or.inr (hw _ (tk 23 rfl))) (ty := (.object "com/example/discharge/discharge/frontend/IntegerType")) (by decide)
                            have F_pointer_b188 : Fld Z h188 b188 "com/example/discharge/discharge/frontend/Syntax$Type" "pointer" "Z" (.int (0 : Int32)) := D188 (Or.inr (hw _ (tk 25 rfl))) (ty := .boolean) (by decide)
                            obtain ⟨_, _, ⟨T195, L195, k195, n195⟩, -, X195, ⟨Lc195, hQ195, l195, y195, z195⟩, st195⟩ := X188.specialBack hx (y := Y2) rfl hown (mvT hZ (hw _ (tk 11 rfl))) (mvT hZ (hw _ (tk 12 rfl))) (mvT hZ (hw _ (tk 13 rfl))) (by decide) (backOf (W := 1) (rm2n1x2 l Z a0 hw [] w_1 w_2 w_3 w_4 w_5 w_6 w_7 w_8 w_9 w_10 w_11 w_12 w_13 hS0 b188 (0 : Int32) h188 n0 O188 g_b188 A188 F_integer_b188 F_pointer_b188) hZ (hw _ (tk 13 rfl)) (hw _ (tk 10 rfl)) (by decide) (by decide)) (g := (mkF m 33 #[.val (.int p0), .val (.int p1), .val (.int ((p0 &&& (2147483647 : Int32)) % (13 : Int32))), .val (.int (0 : Int32)), .val .null, .unset, .unset, .unset, .unset] [(.int (0 : Int32)), .null, (.ref b188), (.ref b188)])) rfl (by rw [hml]; rfl) (Steps.refl _) (a := b188) (argsL := [.null, (.int (0 : Int32))]) (rest := [(.ref b188)]) (lenOf pd_2 rfl) rfl (by show 2 * 0 + _ ≤ _; exact Nat.le_of_eq rfl) (hb hby at_33) (fun _ _ => ⟨rfl, e188, (by decide : 1 + 0 ≤ _), (by decide : 2 + 0 ≤ _)⟩)
                            dsimp only [Pt.U, Pt.locs, Pt.cells, Pt.slots] at X195 l195 y195 z195 st195 hQ195
                            subst l195 y195 z195
                            obtain ⟨rv195, N195q, O195, K195c, Fe195_0, Fe195_1⟩ := hQ195
                            subst rv195
                            have N195 := Fr.app N187 N195q
                            have pre196 : ∀ t, Steps p.tables e below (T195.setTop (mkF m 51 #[.val (.int p0), .val (.int p1), .val (.int ((p0 &&& (2147483647 : Int32)) % (13 : Int32))), .val (.int (0 : Int32)), .val .null, .val (.ref b188), .unset, .unset, .unset] [(.int (12 : Int32)), (.int ((p0 &&& (2147483647 : Int32)) % (13 : Int32)))])) t → Steps p.tables e below (s₁.setTop (entryFrame m #[(.int p0), (.int p1)] maxLocals)) t := fun t kt => by
                              refine pre67 t ?_
                              show Steps p.tables e below (s₁.setTop (mkF m 21 #[.val (.int p0), .val (.int p1), .val (.int ((p0 &&& (2147483647 : Int32)) % (13 : Int32))), .val (.int (0 : Int32)), .unset, .unset, .unset, .unset, .unset] [(.int ((p0 &&& (2147483647 : Int32)) % (13 : Int32)))])) _
                              refine st187 _ ?_
                              show Steps p.tables e below (T187.setTop (mkF m 24 #[.val (.int p0), .val (.int p1), .val (.int ((p0 &&& (2147483647 : Int32)) % (13 : Int32))), .val (.int (0 : Int32)), .unset, .unset, .unset, .unset, .unset] [.null])) _
                              refine XS.astore X187.here hx rfl (hb hby at_24) rfl rfl (l' := #[.val (.int p0), .val (.int p1), .val (.int ((p0 &&& (2147483647 : Int32)) % (13 : Int32))), .val (.int (0 : Int32)), .val .null, .unset, .unset, .unset, .unset]) rfl ?_
                              show Steps p.tables e below (T187.setTop (mkF m 26 #[.val (.int p0), .val (.int p1), .val (.int ((p0 &&& (2147483647 : Int32)) % (13 : Int32))), .val (.int (0 : Int32)), .val .null, .unset, .unset, .unset, .unset] [])) _
                              refine st188 _ ?_
                              show Steps p.tables e below (T188.setTop (mkF m 29 #[.val (.int p0), .val (.int p1), .val (.int ((p0 &&& (2147483647 : Int32)) % (13 : Int32))), .val (.int (0 : Int32)), .val .null, .unset, .unset, .unset, .unset] [(.ref b188)])) _
                              refine XS.dup X188.here hx rfl (hb hby at_29) rfl rfl ?_
                              show Steps p.tables e below (T188.setTop (mkF m 30 #[.val (.int p0), .val (.int p1), .val (.int ((p0 &&& (2147483647 : Int32)) % (13 : Int32))), .val (.int (0 : Int32)), .val .null, .unset, .unset, .unset, .unset] [(.ref b188), (.ref b188)])) _
                              refine XS.aload X188.here hx rfl (hb hby at_30) rfl rfl ?_
                              show Steps p.tables e below (T188.setTop (mkF m 32 #[.val (.int p0), .val (.int p1), .val (.int ((p0 &&& (2147483647 : Int32)) % (13 : Int32))), .val (.int (0 : Int32)), .val .null, .unset, .unset, .unset, .unset] [.null, (.ref b188), (.ref b188)])) _
                              refine XS.iloadN X188.here hx rfl (hb hby at_32) rfl ?_
                              show Steps p.tables e below (T188.setTop (mkF m 33 #[.val (.int p0), .val (.int p1), .val (.int ((p0 &&& (2147483647 : Int32)) % (13 : Int32))), .val (.int (0 : Int32)), .val .null, .unset, .unset, .unset, .unset] [(.int (0 : Int32)), .null, (.ref b188), (.ref b188)])) _
                              refine st195.trans ?_
                              show Steps p.tables e below (T195.setTop (mkF m 36 #[.val (.int p0), .val (.int p1), .val (.int ((p0 &&& (2147483647 : Int32)) % (13 : Int32))), .val (.int (0 : Int32)), .val .null, .unset, .unset, .unset, .unset] [(.ref b188)])) _
                              refine XS.astore X195.here hx rfl (hb hby at_36) rfl rfl (l' := #[.val (.int p0), .val (.int p1), .val (.int ((p0 &&& (2147483647 : Int32)) % (13 : Int32))), .val (.int (0 : Int32)), .val .null, .val (.ref b188), .unset, .unset, .unset]) rfl ?_
                              show Steps p.tables e below (T195.setTop (mkF m 38 #[.val (.int p0), .val (.int p1), .val (.int ((p0 &&& (2147483647 : Int32)) % (13 : Int32))), .val (.int (0 : Int32)), .val .null, .val (.ref b188), .unset, .unset, .unset] [])) _
                              refine XS.iloadN X195.here hx rfl (hb hby at_38) rfl ?_
                              show Steps p.tables e below (T195.setTop (mkF m 39 #[.val (.int p0), .val (.int p1), .val (.int ((p0 &&& (2147483647 : Int32)) % (13 : Int32))), .val (.int (0 : Int32)), .val .null, .val (.ref b188), .unset, .unset, .unset] [(.int (0 : Int32))])) _
                              refine XS.ifYes X195.here hx rfl (pc0 := 39) (pc' := 48) rfl (hb hby at_39) rfl ((if0 _ _).trans (teq (by decide : ((0 : Int32) = (0 : Int32)))).1) (by decide) (by decide) ?_
                              show Steps p.tables e below (T195.setTop (mkF m 48 #[.val (.int p0), .val (.int p1), .val (.int ((p0 &&& (2147483647 : Int32)) % (13 : Int32))), .val (.int (0 : Int32)), .val .null, .val (.ref b188), .unset, .unset, .unset] [])) _
                              refine XS.iloadN X195.here hx rfl (hb hby at_48) rfl ?_
                              show Steps p.tables e below (T195.setTop (mkF m 49 #[.val (.int p0), .val (.int p1), .val (.int ((p0 &&& (2147483647 : Int32)) % (13 : Int32))), .val (.int (0 : Int32)), .val .null, .val (.ref b188), .unset, .unset, .unset] [(.int ((p0 &&& (2147483647 : Int32)) % (13 : Int32)))])) _
                              refine XS.bipush X195.here hx rfl (hb hby at_49) ?_
                              show Steps p.tables e below (T195.setTop (mkF m 51 #[.val (.int p0), .val (.int p1), .val (.int ((p0 &&& (2147483647 : Int32)) % (13 : Int32))), .val (.int (0 : Int32)), .val .null, .val (.ref b188), .unset, .unset, .unset] [(.int (12 : Int32)), (.int ((p0 &&& (2147483647 : Int32)) % (13 : Int32)))])) _
                              exact kt
                            by_cases hc197 : ((p0 &&& (2147483647 : Int32)) % (13 : Int32)) = (12 : Int32)
                            · have c199 := (A188.keep K195c)
                              obtain ⟨cq198, kq198, q198a, q198b, q198c⟩ := isOf hZ rfl c199
                              obtain ⟨_, _, ⟨T198, L198, k198, n198⟩, -, X198, ⟨Lc198, hQ198, l198, y198, z198⟩, st198⟩ := X195.virtualBack hx (y := Y3) (z := Y3) hown (mvT hZ (hw _ (tk 26 rfl))) (mvT hZ (hw _ (tk 27 rfl))) (notFace_of_selects (args := #[]) (mvT hZ (hw _ (tk 29 rfl)))) (mvT hZ (hw _ (tk 29 rfl))) (mvT hZ (hw _ (tk 28 rfl))) (by decide) (backOf (W := 0) (rm5 l Z a0 hw [] w_1 w_2 w_3 w_4 w_5 w_6 w_7 w_8 w_9 w_10 w_11 w_12 w_13 hS0 b188 .null (nar .boolean (0 : Int32)) T195.heap n0 O195 Fe195_0 rfl Fe195_1) hZ (hw _ (tk 30 rfl)) (hw _ (tk 10 rfl)) (by decide) (by decide)) q198a q198c (g := (mkF m 65 #[.val (.int p0), .val (.int p1), .val (.int ((p0 &&& (2147483647 : Int32)) % (13 : Int32))), .val (.int (0 : Int32)), .val .null, .val (.ref b188), .val (.int (1 : Int32)), .unset, .unset] [(.ref b188)])) rfl (by rw [hml]; rfl) (Steps.refl _) (argsL := []) (rest := []) (lenOf pd_3 rfl) rfl (by show 2 * 0 + _ ≤ _; exact Nat.le_of_eq rfl) (hb hby at_65) (fun _ _ => ⟨rfl, rfl, (by decide : 1 + 0 ≤ _), (by decide : 2 + 0 ≤ _)⟩)
                              dsimp only [Pt.U, Pt.locs, Pt.cells, Pt.slots] at X198 l198 y198 z198 st198 hQ198
                              subst l198 y198 z198
                              obtain ⟨rv198, N198q, e198⟩ := hQ198
                              rw [show sp5 .null (nar .boolean (0 : Int32)) = (1 : Int32) from by unfold sp5; rw [if_pos rfl, if_pos (by decide : ((nar .boolean (0 : Int32)) = (0 : Int32)))]] at rv198
                              subst rv198
                              have N198 := Fr.app N195 N198q
                              obtain ⟨T200, X200, e200, st200⟩ := getS2 X198 hx hZ hown (host := "") (Or.inl (hw _ (tk 31 rfl))) Via.refl e198 (S_2.ext O195.2) (g := (mkF m 72 #[.val (.int p0), .val (.int p1), .val (.int ((p0 &&& (2147483647 : Int32)) % (13 : Int32))), .val (.int (0 : Int32)), .val .null, .val (.ref b188), .val (.int (1 : Int32)), .val (.int (1 : Int32)), .unset] [(.ref b188)])) rfl (hb hby at_72)
                              obtain ⟨cq201, kq201, q201a, q201b, q201c⟩ := isOf hZ e200 c199
                              obtain ⟨_, _, ⟨T201, L201, k201, n201⟩, -, X201, ⟨Lc201, hQ201, l201, y201, z201⟩, st201⟩ := X200.virtualBack hx (y := Y4) (z := Y4) hown (mvT hZ (hw _ (tk 33 rfl))) (mvT hZ (hw _ (tk 34 rfl))) (notFace_of_selects (args := #[]) (mvT hZ (hw _ (tk 36 rfl)))) (mvT hZ (hw _ (tk 36 rfl))) (mvT hZ (hw _ (tk 35 rfl))) (by decide) (backOf (W := 0) (rm6c1 l Z a0 hw [] w_1 w_2 w_3 w_4 w_5 w_6 w_7 w_8 w_9 w_10 w_11 w_12 w_13 hS0 b188 w_2 .null .null (0 : Int32) (nar .boolean (0 : Int32)) T195.heap n0 O195 (E_2.ext O195.2) (F_2_integer.ext O195.2) rfl Fe195_0 rfl (F_2_pointer.ext O195.2) Fe195_1) hZ (hw _ (tk 37 rfl)) (hw _ (tk 10 rfl)) (by decide) (by decide)) q201a q201c (g := (mkF m 75 #[.val (.int p0), .val (.int p1), .val (.int ((p0 &&& (2147483647 : Int32)) % (13 : Int32))), .val (.int (0 : Int32)), .val .null, .val (.ref b188), .val (.int (1 : Int32)), .val (.int (1 : Int32)), .unset] [(.ref w_2), (.ref b188)])) rfl (by rw [hml]; rfl) (Steps.refl _) (argsL := [(.ref w_2)]) (rest := []) (lenOf pd_4 rfl) rfl (by show 2 * 0 + _ ≤ _; exact Nat.le_of_eq rfl) (hb hby at_75) (fun _ _ => ⟨rfl, e200, (by decide : 1 + 0 ≤ _), (by decide : 2 + 0 ≤ _)⟩)
                              dsimp only [Pt.U, Pt.locs, Pt.cells, Pt.slots] at X201 l201 y201 z201 st201 hQ201
                              subst l201 y201 z201
                              obtain ⟨rv201, N201q, e201⟩ := hQ201
                              rw [show sp6c1 .null .null (0 : Int32) (nar .boolean (0 : Int32)) = (1 : Int32) from by unfold sp6c1; rw [if_pos rfl, if_pos (by decide : ((0 : Int32) = (nar .boolean (0 : Int32))))]] at rv201
                              subst rv201
                              have N201 := Fr.app N198 N201q
                              obtain ⟨fs, hr, hrun, hended, hW, hsame⟩ := X201.leave (v := some (.int (1 : Int32))) (fun h => by rw [Bd.returns] at h; cases h)
                              refine ⟨_, _, pre196 _ ?_, hrun, hended, _, _, rfl, ?_, ⟨_, rfl⟩, hW, hsame.mono (by decide) (by decide)⟩
                              · show Steps p.tables e below (T195.setTop (mkF m 51 #[.val (.int p0), .val (.int p1), .val (.int ((p0 &&& (2147483647 : Int32)) % (13 : Int32))), .val (.int (0 : Int32)), .val .null, .val (.ref b188), .unset, .unset, .unset] [(.int (12 : Int32)), (.int ((p0 &&& (2147483647 : Int32)) % (13 : Int32)))])) _
                                refine XS.icmpNo X195.here hx rfl (hb hby at_51) rfl (teq hc197).2 ?_
                                show Steps p.tables e below (T195.setTop (mkF m 54 #[.val (.int p0), .val (.int p1), .val (.int ((p0 &&& (2147483647 : Int32)) % (13 : Int32))), .val (.int (0 : Int32)), .val .null, .val (.ref b188), .unset, .unset, .unset] [])) _
                                refine XS.iconst X195.here hx rfl (hb hby at_54) ?_
                                show Steps p.tables e below (T195.setTop (mkF m 55 #[.val (.int p0), .val (.int p1), .val (.int ((p0 &&& (2147483647 : Int32)) % (13 : Int32))), .val (.int (0 : Int32)), .val .null, .val (.ref b188), .unset, .unset, .unset] [(.int (1 : Int32))])) _
                                refine XS.istore X195.here hx rfl (hb hby at_55) rfl (l' := #[.val (.int p0), .val (.int p1), .val (.int ((p0 &&& (2147483647 : Int32)) % (13 : Int32))), .val (.int (0 : Int32)), .val .null, .val (.ref b188), .val (.int (1 : Int32)), .unset, .unset]) rfl ?_
                                show Steps p.tables e below (T195.setTop (mkF m 57 #[.val (.int p0), .val (.int p1), .val (.int ((p0 &&& (2147483647 : Int32)) % (13 : Int32))), .val (.int (0 : Int32)), .val .null, .val (.ref b188), .val (.int (1 : Int32)), .unset, .unset] [])) _
                                refine XS.goto X195.here hx rfl (pc0 := 57) (pc' := 63) rfl (hb hby at_57) (by decide) (by decide) ?_
                                show Steps p.tables e below (T195.setTop (mkF m 63 #[.val (.int p0), .val (.int p1), .val (.int ((p0 &&& (2147483647 : Int32)) % (13 : Int32))), .val (.int (0 : Int32)), .val .null, .val (.ref b188), .val (.int (1 : Int32)), .unset, .unset] [])) _
                                refine XS.aload X195.here hx rfl (hb hby at_63) rfl rfl ?_
                                show Steps p.tables e below (T195.setTop (mkF m 65 #[.val (.int p0), .val (.int p1), .val (.int ((p0 &&& (2147483647 : Int32)) % (13 : Int32))), .val (.int (0 : Int32)), .val .null, .val (.ref b188), .val (.int (1 : Int32)), .unset, .unset] [(.ref b188)])) _
                                refine st198.trans ?_
                                show Steps p.tables e below (T198.setTop (mkF m 68 #[.val (.int p0), .val (.int p1), .val (.int ((p0 &&& (2147483647 : Int32)) % (13 : Int32))), .val (.int (0 : Int32)), .val .null, .val (.ref b188), .val (.int (1 : Int32)), .unset, .unset] [(.int (1 : Int32))])) _
                                refine XS.istore X198.here hx rfl (hb hby at_68) rfl (l' := #[.val (.int p0), .val (.int p1), .val (.int ((p0 &&& (2147483647 : Int32)) % (13 : Int32))), .val (.int (0 : Int32)), .val .null, .val (.ref b188), .val (.int (1 : Int32)), .val (.int (1 : Int32)), .unset]) rfl ?_
                                show Steps p.tables e below (T198.setTop (mkF m 70 #[.val (.int p0), .val (.int p1), .val (.int ((p0 &&& (2147483647 : Int32)) % (13 : Int32))), .val (.int (0 : Int32)), .val .null, .val (.ref b188), .val (.int (1 : Int32)), .val (.int (1 : Int32)), .unset] [])) _
                                refine XS.aload X198.here hx rfl (hb hby at_70) rfl rfl ?_
                                show Steps p.tables e below (T198.setTop (mkF m 72 #[.val (.int p0), .val (.int p1), .val (.int ((p0 &&& (2147483647 : Int32)) % (13 : Int32))), .val (.int (0 : Int32)), .val .null, .val (.ref b188), .val (.int (1 : Int32)), .val (.int (1 : Int32)), .unset] [(.ref b188)])) _
                                refine st200 _ ?_
                                show Steps p.tables e below (T200.setTop (mkF m 75 #[.val (.int p0), .val (.int p1), .val (.int ((p0 &&& (2147483647 : Int32)) % (13 : Int32))), .val (.int (0 : Int32)), .val .null, .val (.ref b188), .val (.int (1 : Int32)), .val (.int (1 : Int32)), .unset] [(.ref w_2), (.ref b188)])) _
                                refine st201.trans ?_
                                show Steps p.tables e below (T201.setTop (mkF m 78 #[.val (.int p0), .val (.int p1), .val (.int ((p0 &&& (2147483647 : Int32)) % (13 : Int32))), .val (.int (0 : Int32)), .val .null, .val (.ref b188), .val (.int (1 : Int32)), .val (.int (1 : Int32)), .unset] [(.int (1 : Int32))])) _
                                refine XS.istore X201.here hx rfl (hb hby at_78) rfl (l' := #[.val (.int p0), .val (.int p1), .val (.int ((p0 &&& (2147483647 : Int32)) % (13 : Int32))), .val (.int (0 : Int32)), .val .null, .val (.ref b188), .val (.int (1 : Int32)), .val (.int (1 : Int32)), .val (.int (1 : Int32))]) rfl ?_
                                show Steps p.tables e below (T201.setTop (mkF m 80 #[.val (.int p0), .val (.int p1), .val (.int ((p0 &&& (2147483647 : Int32)) % (13 : Int32))), .val (.int (0 : Int32)), .val .null, .val (.ref b188), .val (.int (1 : Int32)), .val (.int (1 : Int32)), .val (.int (1 : Int32))] [])) _
                                refine XS.iload X201.here hx rfl (hb hby at_80) rfl ?_
                                show Steps p.tables e below (T201.setTop (mkF m 82 #[.val (.int p0), .val (.int p1), .val (.int ((p0 &&& (2147483647 : Int32)) % (13 : Int32))), .val (.int (0 : Int32)), .val .null, .val (.ref b188), .val (.int (1 : Int32)), .val (.int (1 : Int32)), .val (.int (1 : Int32))] [(.int (1 : Int32))])) _
                                refine XS.iload X201.here hx rfl (hb hby at_82) rfl ?_
                                show Steps p.tables e below (T201.setTop (mkF m 84 #[.val (.int p0), .val (.int p1), .val (.int ((p0 &&& (2147483647 : Int32)) % (13 : Int32))), .val (.int (0 : Int32)), .val .null, .val (.ref b188), .val (.int (1 : Int32)), .val (.int (1 : Int32)), .val (.int (1 : Int32))] [(.int (1 : Int32)), (.int (1 : Int32))])) _
                                refine XS.icmpNo X201.here hx rfl (hb hby at_84) rfl (teq (by decide : ((1 : Int32) = (1 : Int32)))).2 ?_
                                show Steps p.tables e below (T201.setTop (mkF m 87 #[.val (.int p0), .val (.int p1), .val (.int ((p0 &&& (2147483647 : Int32)) % (13 : Int32))), .val (.int (0 : Int32)), .val .null, .val (.ref b188), .val (.int (1 : Int32)), .val (.int (1 : Int32)), .val (.int (1 : Int32))] [])) _
                                refine XS.iload X201.here hx rfl (hb hby at_87) rfl ?_
                                show Steps p.tables e below (T201.setTop (mkF m 89 #[.val (.int p0), .val (.int p1), .val (.int ((p0 &&& (2147483647 : Int32)) % (13 : Int32))), .val (.int (0 : Int32)), .val .null, .val (.ref b188), .val (.int (1 : Int32)), .val (.int (1 : Int32)), .val (.int (1 : Int32))] [(.int (1 : Int32))])) _
                                refine XS.iload X201.here hx rfl (hb hby at_89) rfl ?_
                                show Steps p.tables e below (T201.setTop (mkF m 91 #[.val (.int p0), .val (.int p1), .val (.int ((p0 &&& (2147483647 : Int32)) % (13 : Int32))), .val (.int (0 : Int32)), .val .null, .val (.ref b188), .val (.int (1 : Int32)), .val (.int (1 : Int32)), .val (.int (1 : Int32))] [(.int (1 : Int32)), (.int (1 : Int32))])) _
                                refine XS.icmpNo X201.here hx rfl (hb hby at_91) rfl (teq (by decide : ((1 : Int32) = (1 : Int32)))).2 ?_
                                show Steps p.tables e below (T201.setTop (mkF m 94 #[.val (.int p0), .val (.int p1), .val (.int ((p0 &&& (2147483647 : Int32)) % (13 : Int32))), .val (.int (0 : Int32)), .val .null, .val (.ref b188), .val (.int (1 : Int32)), .val (.int (1 : Int32)), .val (.int (1 : Int32))] [])) _
                                refine XS.iconst X201.here hx rfl (hb hby at_94) ?_
                                show Steps p.tables e below (T201.setTop (mkF m 95 #[.val (.int p0), .val (.int p1), .val (.int ((p0 &&& (2147483647 : Int32)) % (13 : Int32))), .val (.int (0 : Int32)), .val .null, .val (.ref b188), .val (.int (1 : Int32)), .val (.int (1 : Int32)), .val (.int (1 : Int32))] [(.int (1 : Int32))])) _
                                refine XS.goto X201.here hx rfl (pc0 := 95) (pc' := 99) rfl (hb hby at_95) (by decide) (by decide) ?_
                                show Steps p.tables e below (T201.setTop (mkF m 99 #[.val (.int p0), .val (.int p1), .val (.int ((p0 &&& (2147483647 : Int32)) % (13 : Int32))), .val (.int (0 : Int32)), .val .null, .val (.ref b188), .val (.int (1 : Int32)), .val (.int (1 : Int32)), .val (.int (1 : Int32))] [(.int (1 : Int32))])) _
                                exact retN X201 hx (t := .boolean) Bd.returns (by simp) (hb hby at_99) hr
                              · show Q0 Z w_1 w_2 w_3 w_4 w_5 w_6 w_7 w_8 w_9 w_10 w_11 w_12 w_13 p0 p1 h0 n0 _ T201.heap _
                                rw [e201]
                                exact ⟨by unfold sp0; rw [if_pos hc30, if_neg hc68, if_neg hc99, if_neg hc107, if_neg hc115, if_neg hc123, if_neg hc131, if_neg hc139, if_neg hc147, if_neg hc155, if_neg hc163, if_neg hc171, if_neg hc179, if_pos hc197], N201, trivial⟩
                            · have c203 := (A188.keep K195c)
                              obtain ⟨cq202, kq202, q202a, q202b, q202c⟩ := isOf hZ rfl c203
                              obtain ⟨_, _, ⟨T202, L202, k202, n202⟩, -, X202, ⟨Lc202, hQ202, l202, y202, z202⟩, st202⟩ := X195.virtualBack hx (y := Y3) (z := Y3) hown (mvT hZ (hw _ (tk 26 rfl))) (mvT hZ (hw _ (tk 27 rfl))) (notFace_of_selects (args := #[]) (mvT hZ (hw _ (tk 29 rfl)))) (mvT hZ (hw _ (tk 29 rfl))) (mvT hZ (hw _ (tk 28 rfl))) (by decide) (backOf (W := 0) (rm5 l Z a0 hw [] w_1 w_2 w_3 w_4 w_5 w_6 w_7 w_8 w_9 w_10 w_11 w_12 w_13 hS0 b188 .null (nar .boolean (0 : Int32)) T195.heap n0 O195 Fe195_0 rfl Fe195_1) hZ (hw _ (tk 30 rfl)) (hw _ (tk 10 rfl)) (by decide) (by decide)) q202a q202c (g := (mkF m 65 #[.val (.int p0), .val (.int p1), .val (.int ((p0 &&& (2147483647 : Int32)) % (13 : Int32))), .val (.int (0 : Int32)), .val .null, .val (.ref b188), .val (.int (0 : Int32)), .unset, .unset] [(.ref b188)])) rfl (by rw [hml]; rfl) (Steps.refl _) (argsL := []) (rest := []) (lenOf pd_3 rfl) rfl (by show 2 * 0 + _ ≤ _; exact Nat.le_of_eq rfl) (hb hby at_65) (fun _ _ => ⟨rfl, rfl, (by decide : 1 + 0 ≤ _), (by decide : 2 + 0 ≤ _)⟩)
                              dsimp only [Pt.U, Pt.locs, Pt.cells, Pt.slots] at X202 l202 y202 z202 st202 hQ202
                              subst l202 y202 z202
                              obtain ⟨rv202, N202q, e202⟩ := hQ202
                              rw [show sp5 .null (nar .boolean (0 : Int32)) = (1 : Int32) from by unfold sp5; rw [if_pos rfl, if_pos (by decide : ((nar .boolean (0 : Int32)) = (0 : Int32)))]] at rv202
                              subst rv202
                              have N202 := Fr.app N195 N202q
                              obtain ⟨T204, X204, e204, st204⟩ := getS2 X202 hx hZ hown (host := "") (Or.inl (hw _ (tk 31 rfl))) Via.refl e202 (S_2.ext O195.2) (g := (mkF m 72 #[.val (.int p0), .val (.int p1), .val (.int ((p0 &&& (2147483647 : Int32)) % (13 : Int32))), .val (.int (0 : Int32)), .val .null, .val (.ref b188), .val (.int (0 : Int32)), .val (.int (1 : Int32)), .unset] [(.ref b188)])) rfl (hb hby at_72)
                              obtain ⟨cq205, kq205, q205a, q205b, q205c⟩ := isOf hZ e204 c203
                              obtain ⟨_, _, ⟨T205, L205, k205, n205⟩, -, X205, ⟨Lc205, hQ205, l205, y205, z205⟩, st205⟩ := X204.virtualBack hx (y := Y4) (z := Y4) hown (mvT hZ (hw _ (tk 33 rfl))) (mvT hZ (hw _ (tk 34 rfl))) (notFace_of_selects (args := #[]) (mvT hZ (hw _ (tk 36 rfl)))) (mvT hZ (hw _ (tk 36 rfl))) (mvT hZ (hw _ (tk 35 rfl))) (by decide) (backOf (W := 0) (rm6c1 l Z a0 hw [] w_1 w_2 w_3 w_4 w_5 w_6 w_7 w_8 w_9 w_10 w_11 w_12 w_13 hS0 b188 w_2 .null .null (0 : Int32) (nar .boolean (0 : Int32)) T195.heap n0 O195 (E_2.ext O195.2) (F_2_integer.ext O195.2) rfl Fe195_0 rfl (F_2_pointer.ext O195.2) Fe195_1) hZ (hw _ (tk 37 rfl)) (hw _ (tk 10 rfl)) (by decide) (by decide)) q205a q205c (g := (mkF m 75 #[.val (.int p0), .val (.int p1), .val (.int ((p0 &&& (2147483647 : Int32)) % (13 : Int32))), .val (.int (0 : Int32)), .val .null, .val (.ref b188), .val (.int (0 : Int32)), .val (.int (1 : Int32)), .unset] [(.ref w_2), (.ref b188)])) rfl (by rw [hml]; rfl) (Steps.refl _) (argsL := [(.ref w_2)]) (rest := []) (lenOf pd_4 rfl) rfl (by show 2 * 0 + _ ≤ _; exact Nat.le_of_eq rfl) (hb hby at_75) (fun _ _ => ⟨rfl, e204, (by decide : 1 + 0 ≤ _), (by decide : 2 + 0 ≤ _)⟩)
                              dsimp only [Pt.U, Pt.locs, Pt.cells, Pt.slots] at X205 l205 y205 z205 st205 hQ205
                              subst l205 y205 z205
                              obtain ⟨rv205, N205q, e205⟩ := hQ205
                              rw [show sp6c1 .null .null (0 : Int32) (nar .boolean (0 : Int32)) = (1 : Int32) from by unfold sp6c1; rw [if_pos rfl, if_pos (by decide : ((0 : Int32) = (nar .boolean (0 : Int32))))]] at rv205
                              subst rv205
                              have N205 := Fr.app N202 N205q
                              obtain ⟨fs, hr, hrun, hended, hW, hsame⟩ := X205.leave (v := some (.int (0 : Int32))) (fun h => by rw [Bd.returns] at h; cases h)
                              refine ⟨_, _, pre196 _ ?_, hrun, hended, _, _, rfl, ?_, ⟨_, rfl⟩, hW, hsame.mono (by decide) (by decide)⟩
                              · show Steps p.tables e below (T195.setTop (mkF m 51 #[.val (.int p0), .val (.int p1), .val (.int ((p0 &&& (2147483647 : Int32)) % (13 : Int32))), .val (.int (0 : Int32)), .val .null, .val (.ref b188), .unset, .unset, .unset] [(.int (12 : Int32)), (.int ((p0 &&& (2147483647 : Int32)) % (13 : Int32)))])) _
                                refine XS.icmpYes X195.here hx rfl (pc0 := 51) (pc' := 60) rfl (hb hby at_51) rfl (feq hc197).2 (by decide) (by decide) ?_
                                show Steps p.tables e below (T195.setTop (mkF m 60 #[.val (.int p0), .val (.int p1), .val (.int ((p0 &&& (2147483647 : Int32)) % (13 : Int32))), .val (.int (0 : Int32)), .val .null, .val (.ref b188), .unset, .unset, .unset] [])) _
                                refine XS.iconst X195.here hx rfl (hb hby at_60) ?_
                                show Steps p.tables e below (T195.setTop (mkF m 61 #[.val (.int p0), .val (.int p1), .val (.int ((p0 &&& (2147483647 : Int32)) % (13 : Int32))), .val (.int (0 : Int32)), .val .null, .val (.ref b188), .unset, .unset, .unset] [(.int (0 : Int32))])) _
                                refine XS.istore X195.here hx rfl (hb hby at_61) rfl (l' := #[.val (.int p0), .val (.int p1), .val (.int ((p0 &&& (2147483647 : Int32)) % (13 : Int32))), .val (.int (0 : Int32)), .val .null, .val (.ref b188), .val (.int (0 : Int32)), .unset, .unset]) rfl ?_
                                show Steps p.tables e below (T195.setTop (mkF m 63 #[.val (.int p0), .val (.int p1), .val (.int ((p0 &&& (2147483647 : Int32)) % (13 : Int32))), .val (.int (0 : Int32)), .val .null, .val (.ref b188), .val (.int (0 : Int32)), .unset, .unset] [])) _
                                refine XS.aload X195.here hx rfl (hb hby at_63) rfl rfl ?_
                                show Steps p.tables e below (T195.setTop (mkF m 65 #[.val (.int p0), .val (.int p1), .val (.int ((p0 &&& (2147483647 : Int32)) % (13 : Int32))), .val (.int (0 : Int32)), .val .null, .val (.ref b188), .val (.int (0 : Int32)), .unset, .unset] [(.ref b188)])) _
                                refine st202.trans ?_
                                show Steps p.tables e below (T202.setTop (mkF m 68 #[.val (.int p0), .val (.int p1), .val (.int ((p0 &&& (2147483647 : Int32)) % (13 : Int32))), .val (.int (0 : Int32)), .val .null, .val (.ref b188), .val (.int (0 : Int32)), .unset, .unset] [(.int (1 : Int32))])) _
                                refine XS.istore X202.here hx rfl (hb hby at_68) rfl (l' := #[.val (.int p0), .val (.int p1), .val (.int ((p0 &&& (2147483647 : Int32)) % (13 : Int32))), .val (.int (0 : Int32)), .val .null, .val (.ref b188), .val (.int (0 : Int32)), .val (.int (1 : Int32)), .unset]) rfl ?_
                                show Steps p.tables e below (T202.setTop (mkF m 70 #[.val (.int p0), .val (.int p1), .val (.int ((p0 &&& (2147483647 : Int32)) % (13 : Int32))), .val (.int (0 : Int32)), .val .null, .val (.ref b188), .val (.int (0 : Int32)), .val (.int (1 : Int32)), .unset] [])) _
                                refine XS.aload X202.here hx rfl (hb hby at_70) rfl rfl ?_
                                show Steps p.tables e below (T202.setTop (mkF m 72 #[.val (.int p0), .val (.int p1), .val (.int ((p0 &&& (2147483647 : Int32)) % (13 : Int32))), .val (.int (0 : Int32)), .val .null, .val (.ref b188), .val (.int (0 : Int32)), .val (.int (1 : Int32)), .unset] [(.ref b188)])) _
                                refine st204 _ ?_
                                show Steps p.tables e below (T204.setTop (mkF m 75 #[.val (.int p0), .val (.int p1), .val (.int ((p0 &&& (2147483647 : Int32)) % (13 : Int32))), .val (.int (0 : Int32)), .val .null, .val (.ref b188), .val (.int (0 : Int32)), .val (.int (1 : Int32)), .unset] [(.ref w_2), (.ref b188)])) _
                                refine st205.trans ?_
                                show Steps p.tables e below (T205.setTop (mkF m 78 #[.val (.int p0), .val (.int p1), .val (.int ((p0 &&& (2147483647 : Int32)) % (13 : Int32))), .val (.int (0 : Int32)), .val .null, .val (.ref b188), .val (.int (0 : Int32)), .val (.int (1 : Int32)), .unset] [(.int (1 : Int32))])) _
                                refine XS.istore X205.here hx rfl (hb hby at_78) rfl (l' := #[.val (.int p0), .val (.int p1), .val (.int ((p0 &&& (2147483647 : Int32)) % (13 : Int32))), .val (.int (0 : Int32)), .val .null, .val (.ref b188), .val (.int (0 : Int32)), .val (.int (1 : Int32)), .val (.int (1 : Int32))]) rfl ?_
                                show Steps p.tables e below (T205.setTop (mkF m 80 #[.val (.int p0), .val (.int p1), .val (.int ((p0 &&& (2147483647 : Int32)) % (13 : Int32))), .val (.int (0 : Int32)), .val .null, .val (.ref b188), .val (.int (0 : Int32)), .val (.int (1 : Int32)), .val (.int (1 : Int32))] [])) _
                                refine XS.iload X205.here hx rfl (hb hby at_80) rfl ?_
                                show Steps p.tables e below (T205.setTop (mkF m 82 #[.val (.int p0), .val (.int p1), .val (.int ((p0 &&& (2147483647 : Int32)) % (13 : Int32))), .val (.int (0 : Int32)), .val .null, .val (.ref b188), .val (.int (0 : Int32)), .val (.int (1 : Int32)), .val (.int (1 : Int32))] [(.int (1 : Int32))])) _
                                refine XS.iload X205.here hx rfl (hb hby at_82) rfl ?_
                                show Steps p.tables e below (T205.setTop (mkF m 84 #[.val (.int p0), .val (.int p1), .val (.int ((p0 &&& (2147483647 : Int32)) % (13 : Int32))), .val (.int (0 : Int32)), .val .null, .val (.ref b188), .val (.int (0 : Int32)), .val (.int (1 : Int32)), .val (.int (1 : Int32))] [(.int (0 : Int32)), (.int (1 : Int32))])) _
                                refine XS.icmpYes X205.here hx rfl (pc0 := 84) (pc' := 98) rfl (hb hby at_84) rfl (feq (by decide : ¬ ((1 : Int32) = (0 : Int32)))).2 (by decide) (by decide) ?_
                                show Steps p.tables e below (T205.setTop (mkF m 98 #[.val (.int p0), .val (.int p1), .val (.int ((p0 &&& (2147483647 : Int32)) % (13 : Int32))), .val (.int (0 : Int32)), .val .null, .val (.ref b188), .val (.int (0 : Int32)), .val (.int (1 : Int32)), .val (.int (1 : Int32))] [])) _
                                refine XS.iconst X205.here hx rfl (hb hby at_98) ?_
                                show Steps p.tables e below (T205.setTop (mkF m 99 #[.val (.int p0), .val (.int p1), .val (.int ((p0 &&& (2147483647 : Int32)) % (13 : Int32))), .val (.int (0 : Int32)), .val .null, .val (.ref b188), .val (.int (0 : Int32)), .val (.int (1 : Int32)), .val (.int (1 : Int32))] [(.int (0 : Int32))])) _
                                exact retN X205 hx (t := .boolean) Bd.returns (by simp) (hb hby at_99) hr
                              · show Q0 Z w_1 w_2 w_3 w_4 w_5 w_6 w_7 w_8 w_9 w_10 w_11 w_12 w_13 p0 p1 h0 n0 _ T205.heap _
                                rw [e205]
                                exact ⟨by unfold sp0; rw [if_pos hc30, if_neg hc68, if_neg hc99, if_neg hc107, if_neg hc115, if_neg hc123, if_neg hc131, if_neg hc139, if_neg hc147, if_neg hc155, if_neg hc163, if_neg hc171, if_neg hc179, if_neg hc197], N205, trivial⟩
  · have pre206 : ∀ t, Steps p.tables e below (s₁.setTop (mkF m 21 #[.val (.int p0), .val (.int p1), .val (.int ((p0 &&& (2147483647 : Int32)) % (13 : Int32))), .val (.int (1 : Int32)), .unset, .unset, .unset, .unset, .unset] [(.int ((p0 &&& (2147483647 : Int32)) % (13 : Int32)))])) t → Steps p.tables e below (s₁.setTop (entryFrame m #[(.int p0), (.int p1)] maxLocals)) t := fun t kt => by
      refine pre29 t ?_
      show Steps p.tables e below (s₁.setTop (mkF m 11 #[.val (.int p0), .val (.int p1), .val (.int ((p0 &&& (2147483647 : Int32)) % (13 : Int32))), .unset, .unset, .unset, .unset, .unset, .unset] [(.int (p1 &&& (1 : Int32)))])) _
      refine XS.ifNo X0.here hx rfl (hb hby at_11) rfl ((if0 _ _).trans (feq hc30).1) ?_
      show Steps p.tables e below (s₁.setTop (mkF m 14 #[.val (.int p0), .val (.int p1), .val (.int ((p0 &&& (2147483647 : Int32)) % (13 : Int32))), .unset, .unset, .unset, .unset, .unset, .unset] [])) _
      refine XS.iconst X0.here hx rfl (hb hby at_14) ?_
      show Steps p.tables e below (s₁.setTop (mkF m 15 #[.val (.int p0), .val (.int p1), .val (.int ((p0 &&& (2147483647 : Int32)) % (13 : Int32))), .unset, .unset, .unset, .unset, .unset, .unset] [(.int (1 : Int32))])) _
      refine XS.goto X0.here hx rfl (pc0 := 15) (pc' := 19) rfl (hb hby at_15) (by decide) (by decide) ?_
      show Steps p.tables e below (s₁.setTop (mkF m 19 #[.val (.int p0), .val (.int p1), .val (.int ((p0 &&& (2147483647 : Int32)) % (13 : Int32))), .unset, .unset, .unset, .unset, .unset, .unset] [(.int (1 : Int32))])) _
      refine XS.istoreN X0.here hx rfl (hb hby at_19) rfl (l' := #[.val (.int p0), .val (.int p1), .val (.int ((p0 &&& (2147483647 : Int32)) % (13 : Int32))), .val (.int (1 : Int32)), .unset, .unset, .unset, .unset, .unset]) rfl ?_
      show Steps p.tables e below (s₁.setTop (mkF m 20 #[.val (.int p0), .val (.int p1), .val (.int ((p0 &&& (2147483647 : Int32)) % (13 : Int32))), .val (.int (1 : Int32)), .unset, .unset, .unset, .unset, .unset] [])) _
      refine XS.iloadN X0.here hx rfl (hb hby at_20) rfl ?_
      show Steps p.tables e below (s₁.setTop (mkF m 21 #[.val (.int p0), .val (.int p1), .val (.int ((p0 &&& (2147483647 : Int32)) % (13 : Int32))), .val (.int (1 : Int32)), .unset, .unset, .unset, .unset, .unset] [(.int ((p0 &&& (2147483647 : Int32)) % (13 : Int32)))])) _
      exact kt
    by_cases hc207 : ((p0 &&& (2147483647 : Int32)) % (13 : Int32)) = (0 : Int32)
    · obtain ⟨_, _, ⟨T208, L208, k208, n208⟩, -, X208, ⟨Lc208, hQ208, l208, y208, z208⟩, st208⟩ := Jvm.LawKit.callS X0 hx (y := Y0) hown (mvT hZ (hw _ (tk 1 rfl))) (mvT hZ (hw _ (tk 2 rfl))) (mvT hZ (hw _ (tk 3 rfl))) (mvT hZ (hw _ (tk 4 rfl))) (by decide) (backOf (W := 0) (rm1 l Z a0 hw [] w_1 w_2 w_3 w_4 w_5 w_6 w_7 w_8 w_9 w_10 w_11 w_12 w_13 hS0 ((p0 &&& (2147483647 : Int32)) % (13 : Int32)) h0 n0 O0) hZ (hw _ (tk 4 rfl)) (hw _ (tk 3 rfl)) (by decide) (by decide)) (g := (mkF m 21 #[.val (.int p0), .val (.int p1), .val (.int ((p0 &&& (2147483647 : Int32)) % (13 : Int32))), .val (.int (1 : Int32)), .unset, .unset, .unset, .unset, .unset] [(.int ((p0 &&& (2147483647 : Int32)) % (13 : Int32)))])) rfl (by rw [hml]; rfl) (argsL := [(.int ((p0 &&& (2147483647 : Int32)) % (13 : Int32)))]) (rest := []) (lenOf pd_0 rfl) rfl (by show 2 * 0 + _ ≤ _; exact Nat.le_of_eq rfl) (hb hby at_21) (fun _ _ => ⟨rfl, e0, (by decide : 0 + 0 ≤ _), (by decide : 0 + 0 ≤ _)⟩)
      dsimp only [Pt.U, Pt.locs, Pt.cells, Pt.slots] at X208 l208 y208 z208 st208 hQ208
      subst l208 y208 z208
      obtain ⟨rv208, N208q, e208⟩ := hQ208
      rw [show sp1 w_1 w_3 w_4 w_5 w_6 w_7 w_8 w_9 w_10 w_11 w_12 w_13 ((p0 &&& (2147483647 : Int32)) % (13 : Int32)) = (.ref w_1) from by unfold sp1; rw [if_pos hc207]] at rv208
      subst rv208
      have N208 := Fr.app N0 N208q
      obtain ⟨T209, h209, X209, e209, E209, A209, D209, -, st209⟩ := newO X208 hx hZ hown (hw _ (tk 8 rfl)) (hw _ (tk 9 rfl)) (hw _ (tk 10 rfl)) e208 (g := (mkF m 26 #[.val (.int p0), .val (.int p1), .val (.int ((p0 &&& (2147483647 : Int32)) % (13 : Int32))), .val (.int (1 : Int32)), .val (.ref w_1), .unset, .unset, .unset, .unset] [])) rfl (hb hby at_26) (by decide) (by decide)
      obtain ⟨b209, g209⟩ : ∃ z, z = h0.size := ⟨_, rfl⟩
      rw [← g209] at A209 D209 st209
      have g_b209 : n0 ≤ b209 := Nat.le_trans (own_old O0) (Nat.le_of_eq g209.symm)
      have O209 : Old Z n0 h209 := O0.ext E209
      have F_integer_b209 : Fld Z h209 b209 "com/example/discharge/discharge/frontend/Syntax$Type" "integer" "Lcom/example/discharge/discharge/frontend/IntegerType;" .null := D209 (Or.inr (hw _ (tk 23 rfl))) (ty := (.object "com/example/discharge/discharge/frontend/IntegerType")) (by decide)
      have F_pointer_b209 : Fld Z h209 b209 "com/example/discharge/discharge/frontend/Syntax$Type" "pointer" "Z" (.int (0 : Int32)) := D209 (Or.inr (hw _ (tk 25 rfl))) (ty := .boolean) (by decide)
      obtain ⟨_, _, ⟨T210, L210, k210, n210⟩, -, X210, ⟨Lc210, hQ210, l210, y210, z210⟩, st210⟩ := X209.specialBack hx (y := Y2) rfl hown (mvT hZ (hw _ (tk 11 rfl))) (mvT hZ (hw _ (tk 12 rfl))) (mvT hZ (hw _ (tk 13 rfl))) (by decide) (backOf (W := 1) (rm2x1 l Z a0 hw [] w_1 w_2 w_3 w_4 w_5 w_6 w_7 w_8 w_9 w_10 w_11 w_12 w_13 hS0 b209 w_1 (1 : Int32) h209 n0 O209 g_b209 A209 F_integer_b209 F_pointer_b209) hZ (hw _ (tk 13 rfl)) (hw _ (tk 10 rfl)) (by decide) (by decide)) (g := (mkF m 33 #[.val (.int p0), .val (.int p1), .val (.int ((p0 &&& (2147483647 : Int32)) % (13 : Int32))), .val (.int (1 : Int32)), .val (.ref w_1), .unset, .unset, .unset, .unset] [(.int (1 : Int32)), (.ref w_1), (.ref b209), (.ref b209)])) rfl (by rw [hml]; rfl) (Steps.refl _) (a := b209) (argsL := [(.ref w_1), (.int (1 : Int32))]) (rest := [(.ref b209)]) (lenOf pd_2 rfl) rfl (by show 2 * 0 + _ ≤ _; exact Nat.le_of_eq rfl) (hb hby at_33) (fun _ _ => ⟨rfl, e209, (by decide : 1 + 0 ≤ _), (by decide : 2 + 0 ≤ _)⟩)
      dsimp only [Pt.U, Pt.locs, Pt.cells, Pt.slots] at X210 l210 y210 z210 st210 hQ210
      subst l210 y210 z210
      obtain ⟨rv210, N210q, O210, K210c, Fe210_0, Fe210_1⟩ := hQ210
      subst rv210
      have N210 := Fr.app N208 N210q
      have c212 := (A209.keep K210c)
      obtain ⟨cq211, kq211, q211a, q211b, q211c⟩ := isOf hZ rfl c212
      obtain ⟨_, _, ⟨T211, L211, k211, n211⟩, -, X211, ⟨Lc211, hQ211, l211, y211, z211⟩, st211⟩ := X210.virtualBack hx (y := Y3) (z := Y3) hown (mvT hZ (hw _ (tk 26 rfl))) (mvT hZ (hw _ (tk 27 rfl))) (notFace_of_selects (args := #[]) (mvT hZ (hw _ (tk 29 rfl)))) (mvT hZ (hw _ (tk 29 rfl))) (mvT hZ (hw _ (tk 28 rfl))) (by decide) (backOf (W := 0) (rm5 l Z a0 hw [] w_1 w_2 w_3 w_4 w_5 w_6 w_7 w_8 w_9 w_10 w_11 w_12 w_13 hS0 b209 (.ref w_1) (nar .boolean (1 : Int32)) T210.heap n0 O210 Fe210_0 rfl Fe210_1) hZ (hw _ (tk 30 rfl)) (hw _ (tk 10 rfl)) (by decide) (by decide)) q211a q211c (g := (mkF m 65 #[.val (.int p0), .val (.int p1), .val (.int ((p0 &&& (2147483647 : Int32)) % (13 : Int32))), .val (.int (1 : Int32)), .val (.ref w_1), .val (.ref b209), .val (.int (0 : Int32)), .unset, .unset] [(.ref b209)])) rfl (by rw [hml]; rfl) (Steps.refl _) (argsL := []) (rest := []) (lenOf pd_3 rfl) rfl (by show 2 * 0 + _ ≤ _; exact Nat.le_of_eq rfl) (hb hby at_65) (fun _ _ => ⟨rfl, rfl, (by decide : 1 + 0 ≤ _), (by decide : 2 + 0 ≤ _)⟩)
      dsimp only [Pt.U, Pt.locs, Pt.cells, Pt.slots] at X211 l211 y211 z211 st211 hQ211
      subst l211 y211 z211
      obtain ⟨rv211, N211q, e211⟩ := hQ211
      rw [show sp5 (.ref w_1) (nar .boolean (1 : Int32)) = (0 : Int32) from by unfold sp5; rw [if_neg (nofun : ¬ ((.ref w_1) : Value) = .null)]] at rv211
      subst rv211
      have N211 := Fr.app N210 N211q
      obtain ⟨T213, X213, e213, st213⟩ := getS2 X211 hx hZ hown (host := "") (Or.inl (hw _ (tk 31 rfl))) Via.refl e211 (S_2.ext O210.2) (g := (mkF m 72 #[.val (.int p0), .val (.int p1), .val (.int ((p0 &&& (2147483647 : Int32)) % (13 : Int32))), .val (.int (1 : Int32)), .val (.ref w_1), .val (.ref b209), .val (.int (0 : Int32)), .val (.int (0 : Int32)), .unset] [(.ref b209)])) rfl (hb hby at_72)
      obtain ⟨cq214, kq214, q214a, q214b, q214c⟩ := isOf hZ e213 c212
      obtain ⟨_, _, ⟨T214, L214, k214, n214⟩, -, X214, ⟨Lc214, hQ214, l214, y214, z214⟩, st214⟩ := X213.virtualBack hx (y := Y4) (z := Y4) hown (mvT hZ (hw _ (tk 33 rfl))) (mvT hZ (hw _ (tk 34 rfl))) (notFace_of_selects (args := #[]) (mvT hZ (hw _ (tk 36 rfl)))) (mvT hZ (hw _ (tk 36 rfl))) (mvT hZ (hw _ (tk 35 rfl))) (by decide) (backOf (W := 0) (rm6c1 l Z a0 hw [] w_1 w_2 w_3 w_4 w_5 w_6 w_7 w_8 w_9 w_10 w_11 w_12 w_13 hS0 b209 w_2 .null (.ref w_1) (0 : Int32) (nar .boolean (1 : Int32)) T210.heap n0 O210 (E_2.ext O210.2) (F_2_integer.ext O210.2) rfl Fe210_0 rfl (F_2_pointer.ext O210.2) Fe210_1) hZ (hw _ (tk 37 rfl)) (hw _ (tk 10 rfl)) (by decide) (by decide)) q214a q214c (g := (mkF m 75 #[.val (.int p0), .val (.int p1), .val (.int ((p0 &&& (2147483647 : Int32)) % (13 : Int32))), .val (.int (1 : Int32)), .val (.ref w_1), .val (.ref b209), .val (.int (0 : Int32)), .val (.int (0 : Int32)), .unset] [(.ref w_2), (.ref b209)])) rfl (by rw [hml]; rfl) (Steps.refl _) (argsL := [(.ref w_2)]) (rest := []) (lenOf pd_4 rfl) rfl (by show 2 * 0 + _ ≤ _; exact Nat.le_of_eq rfl) (hb hby at_75) (fun _ _ => ⟨rfl, e213, (by decide : 1 + 0 ≤ _), (by decide : 2 + 0 ≤ _)⟩)
      dsimp only [Pt.U, Pt.locs, Pt.cells, Pt.slots] at X214 l214 y214 z214 st214 hQ214
      subst l214 y214 z214
      obtain ⟨rv214, N214q, e214⟩ := hQ214
      rw [show sp6c1 .null (.ref w_1) (0 : Int32) (nar .boolean (1 : Int32)) = (0 : Int32) from by unfold sp6c1; rw [if_neg (nofun : ¬ (.null : Value) = (.ref w_1))]] at rv214
      subst rv214
      have N214 := Fr.app N211 N214q
      obtain ⟨fs, hr, hrun, hended, hW, hsame⟩ := X214.leave (v := some (.int (1 : Int32))) (fun h => by rw [Bd.returns] at h; cases h)
      refine ⟨_, _, pre206 _ ?_, hrun, hended, _, _, rfl, ?_, ⟨_, rfl⟩, hW, hsame.mono (by decide) (by decide)⟩
      · show Steps p.tables e below (s₁.setTop (mkF m 21 #[.val (.int p0), .val (.int p1), .val (.int ((p0 &&& (2147483647 : Int32)) % (13 : Int32))), .val (.int (1 : Int32)), .unset, .unset, .unset, .unset, .unset] [(.int ((p0 &&& (2147483647 : Int32)) % (13 : Int32)))])) _
        refine st208 _ ?_
        show Steps p.tables e below (T208.setTop (mkF m 24 #[.val (.int p0), .val (.int p1), .val (.int ((p0 &&& (2147483647 : Int32)) % (13 : Int32))), .val (.int (1 : Int32)), .unset, .unset, .unset, .unset, .unset] [(.ref w_1)])) _
        refine XS.astore X208.here hx rfl (hb hby at_24) rfl rfl (l' := #[.val (.int p0), .val (.int p1), .val (.int ((p0 &&& (2147483647 : Int32)) % (13 : Int32))), .val (.int (1 : Int32)), .val (.ref w_1), .unset, .unset, .unset, .unset]) rfl ?_
        show Steps p.tables e below (T208.setTop (mkF m 26 #[.val (.int p0), .val (.int p1), .val (.int ((p0 &&& (2147483647 : Int32)) % (13 : Int32))), .val (.int (1 : Int32)), .val (.ref w_1), .unset, .unset, .unset, .unset] [])) _
        refine st209 _ ?_
        show Steps p.tables e below (T209.setTop (mkF m 29 #[.val (.int p0), .val (.int p1), .val (.int ((p0 &&& (2147483647 : Int32)) % (13 : Int32))), .val (.int (1 : Int32)), .val (.ref w_1), .unset, .unset, .unset, .unset] [(.ref b209)])) _
        refine XS.dup X209.here hx rfl (hb hby at_29) rfl rfl ?_
        show Steps p.tables e below (T209.setTop (mkF m 30 #[.val (.int p0), .val (.int p1), .val (.int ((p0 &&& (2147483647 : Int32)) % (13 : Int32))), .val (.int (1 : Int32)), .val (.ref w_1), .unset, .unset, .unset, .unset] [(.ref b209), (.ref b209)])) _
        refine XS.aload X209.here hx rfl (hb hby at_30) rfl rfl ?_
        show Steps p.tables e below (T209.setTop (mkF m 32 #[.val (.int p0), .val (.int p1), .val (.int ((p0 &&& (2147483647 : Int32)) % (13 : Int32))), .val (.int (1 : Int32)), .val (.ref w_1), .unset, .unset, .unset, .unset] [(.ref w_1), (.ref b209), (.ref b209)])) _
        refine XS.iloadN X209.here hx rfl (hb hby at_32) rfl ?_
        show Steps p.tables e below (T209.setTop (mkF m 33 #[.val (.int p0), .val (.int p1), .val (.int ((p0 &&& (2147483647 : Int32)) % (13 : Int32))), .val (.int (1 : Int32)), .val (.ref w_1), .unset, .unset, .unset, .unset] [(.int (1 : Int32)), (.ref w_1), (.ref b209), (.ref b209)])) _
        refine st210.trans ?_
        show Steps p.tables e below (T210.setTop (mkF m 36 #[.val (.int p0), .val (.int p1), .val (.int ((p0 &&& (2147483647 : Int32)) % (13 : Int32))), .val (.int (1 : Int32)), .val (.ref w_1), .unset, .unset, .unset, .unset] [(.ref b209)])) _
        refine XS.astore X210.here hx rfl (hb hby at_36) rfl rfl (l' := #[.val (.int p0), .val (.int p1), .val (.int ((p0 &&& (2147483647 : Int32)) % (13 : Int32))), .val (.int (1 : Int32)), .val (.ref w_1), .val (.ref b209), .unset, .unset, .unset]) rfl ?_
        show Steps p.tables e below (T210.setTop (mkF m 38 #[.val (.int p0), .val (.int p1), .val (.int ((p0 &&& (2147483647 : Int32)) % (13 : Int32))), .val (.int (1 : Int32)), .val (.ref w_1), .val (.ref b209), .unset, .unset, .unset] [])) _
        refine XS.iloadN X210.here hx rfl (hb hby at_38) rfl ?_
        show Steps p.tables e below (T210.setTop (mkF m 39 #[.val (.int p0), .val (.int p1), .val (.int ((p0 &&& (2147483647 : Int32)) % (13 : Int32))), .val (.int (1 : Int32)), .val (.ref w_1), .val (.ref b209), .unset, .unset, .unset] [(.int (1 : Int32))])) _
        refine XS.ifNo X210.here hx rfl (hb hby at_39) rfl ((if0 _ _).trans (feq (by decide : ¬ ((1 : Int32) = (0 : Int32)))).1) ?_
        show Steps p.tables e below (T210.setTop (mkF m 42 #[.val (.int p0), .val (.int p1), .val (.int ((p0 &&& (2147483647 : Int32)) % (13 : Int32))), .val (.int (1 : Int32)), .val (.ref w_1), .val (.ref b209), .unset, .unset, .unset] [])) _
        refine XS.iconst X210.here hx rfl (hb hby at_42) ?_
        show Steps p.tables e below (T210.setTop (mkF m 43 #[.val (.int p0), .val (.int p1), .val (.int ((p0 &&& (2147483647 : Int32)) % (13 : Int32))), .val (.int (1 : Int32)), .val (.ref w_1), .val (.ref b209), .unset, .unset, .unset] [(.int (0 : Int32))])) _
        refine XS.istore X210.here hx rfl (hb hby at_43) rfl (l' := #[.val (.int p0), .val (.int p1), .val (.int ((p0 &&& (2147483647 : Int32)) % (13 : Int32))), .val (.int (1 : Int32)), .val (.ref w_1), .val (.ref b209), .val (.int (0 : Int32)), .unset, .unset]) rfl ?_
        show Steps p.tables e below (T210.setTop (mkF m 45 #[.val (.int p0), .val (.int p1), .val (.int ((p0 &&& (2147483647 : Int32)) % (13 : Int32))), .val (.int (1 : Int32)), .val (.ref w_1), .val (.ref b209), .val (.int (0 : Int32)), .unset, .unset] [])) _
        refine XS.goto X210.here hx rfl (pc0 := 45) (pc' := 63) rfl (hb hby at_45) (by decide) (by decide) ?_
        show Steps p.tables e below (T210.setTop (mkF m 63 #[.val (.int p0), .val (.int p1), .val (.int ((p0 &&& (2147483647 : Int32)) % (13 : Int32))), .val (.int (1 : Int32)), .val (.ref w_1), .val (.ref b209), .val (.int (0 : Int32)), .unset, .unset] [])) _
        refine XS.aload X210.here hx rfl (hb hby at_63) rfl rfl ?_
        show Steps p.tables e below (T210.setTop (mkF m 65 #[.val (.int p0), .val (.int p1), .val (.int ((p0 &&& (2147483647 : Int32)) % (13 : Int32))), .val (.int (1 : Int32)), .val (.ref w_1), .val (.ref b209), .val (.int (0 : Int32)), .unset, .unset] [(.ref b209)])) _
        refine st211.trans ?_
        show Steps p.tables e below (T211.setTop (mkF m 68 #[.val (.int p0), .val (.int p1), .val (.int ((p0 &&& (2147483647 : Int32)) % (13 : Int32))), .val (.int (1 : Int32)), .val (.ref w_1), .val (.ref b209), .val (.int (0 : Int32)), .unset, .unset] [(.int (0 : Int32))])) _
        refine XS.istore X211.here hx rfl (hb hby at_68) rfl (l' := #[.val (.int p0), .val (.int p1), .val (.int ((p0 &&& (2147483647 : Int32)) % (13 : Int32))), .val (.int (1 : Int32)), .val (.ref w_1), .val (.ref b209), .val (.int (0 : Int32)), .val (.int (0 : Int32)), .unset]) rfl ?_
        show Steps p.tables e below (T211.setTop (mkF m 70 #[.val (.int p0), .val (.int p1), .val (.int ((p0 &&& (2147483647 : Int32)) % (13 : Int32))), .val (.int (1 : Int32)), .val (.ref w_1), .val (.ref b209), .val (.int (0 : Int32)), .val (.int (0 : Int32)), .unset] [])) _
        refine XS.aload X211.here hx rfl (hb hby at_70) rfl rfl ?_
        show Steps p.tables e below (T211.setTop (mkF m 72 #[.val (.int p0), .val (.int p1), .val (.int ((p0 &&& (2147483647 : Int32)) % (13 : Int32))), .val (.int (1 : Int32)), .val (.ref w_1), .val (.ref b209), .val (.int (0 : Int32)), .val (.int (0 : Int32)), .unset] [(.ref b209)])) _
        refine st213 _ ?_
        show Steps p.tables e below (T213.setTop (mkF m 75 #[.val (.int p0), .val (.int p1), .val (.int ((p0 &&& (2147483647 : Int32)) % (13 : Int32))), .val (.int (1 : Int32)), .val (.ref w_1), .val (.ref b209), .val (.int (0 : Int32)), .val (.int (0 : Int32)), .unset] [(.ref w_2), (.ref b209)])) _
        refine st214.trans ?_
        show Steps p.tables e below (T214.setTop (mkF m 78 #[.val (.int p0), .val (.int p1), .val (.int ((p0 &&& (2147483647 : Int32)) % (13 : Int32))), .val (.int (1 : Int32)), .val (.ref w_1), .val (.ref b209), .val (.int (0 : Int32)), .val (.int (0 : Int32)), .unset] [(.int (0 : Int32))])) _
        refine XS.istore X214.here hx rfl (hb hby at_78) rfl (l' := #[.val (.int p0), .val (.int p1), .val (.int ((p0 &&& (2147483647 : Int32)) % (13 : Int32))), .val (.int (1 : Int32)), .val (.ref w_1), .val (.ref b209), .val (.int (0 : Int32)), .val (.int (0 : Int32)), .val (.int (0 : Int32))]) rfl ?_
        show Steps p.tables e below (T214.setTop (mkF m 80 #[.val (.int p0), .val (.int p1), .val (.int ((p0 &&& (2147483647 : Int32)) % (13 : Int32))), .val (.int (1 : Int32)), .val (.ref w_1), .val (.ref b209), .val (.int (0 : Int32)), .val (.int (0 : Int32)), .val (.int (0 : Int32))] [])) _
        refine XS.iload X214.here hx rfl (hb hby at_80) rfl ?_
        show Steps p.tables e below (T214.setTop (mkF m 82 #[.val (.int p0), .val (.int p1), .val (.int ((p0 &&& (2147483647 : Int32)) % (13 : Int32))), .val (.int (1 : Int32)), .val (.ref w_1), .val (.ref b209), .val (.int (0 : Int32)), .val (.int (0 : Int32)), .val (.int (0 : Int32))] [(.int (0 : Int32))])) _
        refine XS.iload X214.here hx rfl (hb hby at_82) rfl ?_
        show Steps p.tables e below (T214.setTop (mkF m 84 #[.val (.int p0), .val (.int p1), .val (.int ((p0 &&& (2147483647 : Int32)) % (13 : Int32))), .val (.int (1 : Int32)), .val (.ref w_1), .val (.ref b209), .val (.int (0 : Int32)), .val (.int (0 : Int32)), .val (.int (0 : Int32))] [(.int (0 : Int32)), (.int (0 : Int32))])) _
        refine XS.icmpNo X214.here hx rfl (hb hby at_84) rfl (teq (by decide : ((0 : Int32) = (0 : Int32)))).2 ?_
        show Steps p.tables e below (T214.setTop (mkF m 87 #[.val (.int p0), .val (.int p1), .val (.int ((p0 &&& (2147483647 : Int32)) % (13 : Int32))), .val (.int (1 : Int32)), .val (.ref w_1), .val (.ref b209), .val (.int (0 : Int32)), .val (.int (0 : Int32)), .val (.int (0 : Int32))] [])) _
        refine XS.iload X214.here hx rfl (hb hby at_87) rfl ?_
        show Steps p.tables e below (T214.setTop (mkF m 89 #[.val (.int p0), .val (.int p1), .val (.int ((p0 &&& (2147483647 : Int32)) % (13 : Int32))), .val (.int (1 : Int32)), .val (.ref w_1), .val (.ref b209), .val (.int (0 : Int32)), .val (.int (0 : Int32)), .val (.int (0 : Int32))] [(.int (0 : Int32))])) _
        refine XS.iload X214.here hx rfl (hb hby at_89) rfl ?_
        show Steps p.tables e below (T214.setTop (mkF m 91 #[.val (.int p0), .val (.int p1), .val (.int ((p0 &&& (2147483647 : Int32)) % (13 : Int32))), .val (.int (1 : Int32)), .val (.ref w_1), .val (.ref b209), .val (.int (0 : Int32)), .val (.int (0 : Int32)), .val (.int (0 : Int32))] [(.int (0 : Int32)), (.int (0 : Int32))])) _
        refine XS.icmpNo X214.here hx rfl (hb hby at_91) rfl (teq (by decide : ((0 : Int32) = (0 : Int32)))).2 ?_
        show Steps p.tables e below (T214.setTop (mkF m 94 #[.val (.int p0), .val (.int p1), .val (.int ((p0 &&& (2147483647 : Int32)) % (13 : Int32))), .val (.int (1 : Int32)), .val (.ref w_1), .val (.ref b209), .val (.int (0 : Int32)), .val (.int (0 : Int32)), .val (.int (0 : Int32))] [])) _
        refine XS.iconst X214.here hx rfl (hb hby at_94) ?_
        show Steps p.tables e below (T214.setTop (mkF m 95 #[.val (.int p0), .val (.int p1), .val (.int ((p0 &&& (2147483647 : Int32)) % (13 : Int32))), .val (.int (1 : Int32)), .val (.ref w_1), .val (.ref b209), .val (.int (0 : Int32)), .val (.int (0 : Int32)), .val (.int (0 : Int32))] [(.int (1 : Int32))])) _
        refine XS.goto X214.here hx rfl (pc0 := 95) (pc' := 99) rfl (hb hby at_95) (by decide) (by decide) ?_
        show Steps p.tables e below (T214.setTop (mkF m 99 #[.val (.int p0), .val (.int p1), .val (.int ((p0 &&& (2147483647 : Int32)) % (13 : Int32))), .val (.int (1 : Int32)), .val (.ref w_1), .val (.ref b209), .val (.int (0 : Int32)), .val (.int (0 : Int32)), .val (.int (0 : Int32))] [(.int (1 : Int32))])) _
        exact retN X214 hx (t := .boolean) Bd.returns (by simp) (hb hby at_99) hr
      · show Q0 Z w_1 w_2 w_3 w_4 w_5 w_6 w_7 w_8 w_9 w_10 w_11 w_12 w_13 p0 p1 h0 n0 _ T214.heap _
        rw [e214]
        exact ⟨by unfold sp0; rw [if_neg hc30, if_pos hc207], N214, trivial⟩
    · by_cases hc215 : ((p0 &&& (2147483647 : Int32)) % (13 : Int32)) = (1 : Int32)
      · obtain ⟨_, _, ⟨T216, L216, k216, n216⟩, -, X216, ⟨Lc216, hQ216, l216, y216, z216⟩, st216⟩ := Jvm.LawKit.callS X0 hx (y := Y0) hown (mvT hZ (hw _ (tk 1 rfl))) (mvT hZ (hw _ (tk 2 rfl))) (mvT hZ (hw _ (tk 3 rfl))) (mvT hZ (hw _ (tk 4 rfl))) (by decide) (backOf (W := 0) (rm1 l Z a0 hw [] w_1 w_2 w_3 w_4 w_5 w_6 w_7 w_8 w_9 w_10 w_11 w_12 w_13 hS0 ((p0 &&& (2147483647 : Int32)) % (13 : Int32)) h0 n0 O0) hZ (hw _ (tk 4 rfl)) (hw _ (tk 3 rfl)) (by decide) (by decide)) (g := (mkF m 21 #[.val (.int p0), .val (.int p1), .val (.int ((p0 &&& (2147483647 : Int32)) % (13 : Int32))), .val (.int (1 : Int32)), .unset, .unset, .unset, .unset, .unset] [(.int ((p0 &&& (2147483647 : Int32)) % (13 : Int32)))])) rfl (by rw [hml]; rfl) (argsL := [(.int ((p0 &&& (2147483647 : Int32)) % (13 : Int32)))]) (rest := []) (lenOf pd_0 rfl) rfl (by show 2 * 0 + _ ≤ _; exact Nat.le_of_eq rfl) (hb hby at_21) (fun _ _ => ⟨rfl, e0, (by decide : 0 + 0 ≤ _), (by decide : 0 + 0 ≤ _)⟩)
        dsimp only [Pt.U, Pt.locs, Pt.cells, Pt.slots] at X216 l216 y216 z216 st216 hQ216
        subst l216 y216 z216
        obtain ⟨rv216, N216q, e216⟩ := hQ216
        rw [show sp1 w_1 w_3 w_4 w_5 w_6 w_7 w_8 w_9 w_10 w_11 w_12 w_13 ((p0 &&& (2147483647 : Int32)) % (13 : Int32)) = (.ref w_3) from by unfold sp1; rw [if_neg hc207, if_pos hc215]] at rv216
        subst rv216
        have N216 := Fr.app N0 N216q
        obtain ⟨T217, h217, X217, e217, E217, A217, D217, -, st217⟩ := newO X216 hx hZ hown (hw _ (tk 8 rfl)) (hw _ (tk 9 rfl)) (hw _ (tk 10 rfl)) e216 (g := (mkF m 26 #[.val (.int p0), .val (.int p1), .val (.int ((p0 &&& (2147483647 : Int32)) % (13 : Int32))), .val (.int (1 : Int32)), .val (.ref w_3), .unset, .unset, .unset, .unset] [])) rfl (hb hby at_26) (by decide) (by decide)
        obtain ⟨b217, g217⟩ : ∃ z, z = h0.size := ⟨_, rfl⟩
        rw [← g217] at A217 D217 st217
        have g_b217 : n0 ≤ b217 := Nat.le_trans (own_old O0) (Nat.le_of_eq g217.symm)
        have O217 : Old Z n0 h217 := O0.ext E217
        have F_integer_b217 : Fld Z h217 b217 "com/example/discharge/discharge/frontend/Syntax$Type" "integer" "Lcom/example/discharge/discharge/frontend/IntegerType;" .null := D217 (Or.inr (hw _ (tk 23 rfl))) (ty := (.object "com/example/discharge/discharge/frontend/IntegerType")) (by decide)
        have F_pointer_b217 : Fld Z h217 b217 "com/example/discharge/discharge/frontend/Syntax$Type" "pointer" "Z" (.int (0 : Int32)) := D217 (Or.inr (hw _ (tk 25 rfl))) (ty := .boolean) (by decide)
        obtain ⟨_, _, ⟨T218, L218, k218, n218⟩, -, X218, ⟨Lc218, hQ218, l218, y218, z218⟩, st218⟩ := X217.specialBack hx (y := Y2) rfl hown (mvT hZ (hw _ (tk 11 rfl))) (mvT hZ (hw _ (tk 12 rfl))) (mvT hZ (hw _ (tk 13 rfl))) (by decide) (backOf (W := 1) (rm2x1 l Z a0 hw [] w_1 w_2 w_3 w_4 w_5 w_6 w_7 w_8 w_9 w_10 w_11 w_12 w_13 hS0 b217 w_3 (1 : Int32) h217 n0 O217 g_b217 A217 F_integer_b217 F_pointer_b217) hZ (hw _ (tk 13 rfl)) (hw _ (tk 10 rfl)) (by decide) (by decide)) (g := (mkF m 33 #[.val (.int p0), .val (.int p1), .val (.int ((p0 &&& (2147483647 : Int32)) % (13 : Int32))), .val (.int (1 : Int32)), .val (.ref w_3), .unset, .unset, .unset, .unset] [(.int (1 : Int32)), (.ref w_3), (.ref b217), (.ref b217)])) rfl (by rw [hml]; rfl) (Steps.refl _) (a := b217) (argsL := [(.ref w_3), (.int (1 : Int32))]) (rest := [(.ref b217)]) (lenOf pd_2 rfl) rfl (by show 2 * 0 + _ ≤ _; exact Nat.le_of_eq rfl) (hb hby at_33) (fun _ _ => ⟨rfl, e217, (by decide : 1 + 0 ≤ _), (by decide : 2 + 0 ≤ _)⟩)
        dsimp only [Pt.U, Pt.locs, Pt.cells, Pt.slots] at X218 l218 y218 z218 st218 hQ218
        subst l218 y218 z218
        obtain ⟨rv218, N218q, O218, K218c, Fe218_0, Fe218_1⟩ := hQ218
        subst rv218
        have N218 := Fr.app N216 N218q
        have c220 := (A217.keep K218c)
        obtain ⟨cq219, kq219, q219a, q219b, q219c⟩ := isOf hZ rfl c220
        obtain ⟨_, _, ⟨T219, L219, k219, n219⟩, -, X219, ⟨Lc219, hQ219, l219, y219, z219⟩, st219⟩ := X218.virtualBack hx (y := Y3) (z := Y3) hown (mvT hZ (hw _ (tk 26 rfl))) (mvT hZ (hw _ (tk 27 rfl))) (notFace_of_selects (args := #[]) (mvT hZ (hw _ (tk 29 rfl)))) (mvT hZ (hw _ (tk 29 rfl))) (mvT hZ (hw _ (tk 28 rfl))) (by decide) (backOf (W := 0) (rm5 l Z a0 hw [] w_1 w_2 w_3 w_4 w_5 w_6 w_7 w_8 w_9 w_10 w_11 w_12 w_13 hS0 b217 (.ref w_3) (nar .boolean (1 : Int32)) T218.heap n0 O218 Fe218_0 rfl Fe218_1) hZ (hw _ (tk 30 rfl)) (hw _ (tk 10 rfl)) (by decide) (by decide)) q219a q219c (g := (mkF m 65 #[.val (.int p0), .val (.int p1), .val (.int ((p0 &&& (2147483647 : Int32)) % (13 : Int32))), .val (.int (1 : Int32)), .val (.ref w_3), .val (.ref b217), .val (.int (0 : Int32)), .unset, .unset] [(.ref b217)])) rfl (by rw [hml]; rfl) (Steps.refl _) (argsL := []) (rest := []) (lenOf pd_3 rfl) rfl (by show 2 * 0 + _ ≤ _; exact Nat.le_of_eq rfl) (hb hby at_65) (fun _ _ => ⟨rfl, rfl, (by decide : 1 + 0 ≤ _), (by decide : 2 + 0 ≤ _)⟩)
        dsimp only [Pt.U, Pt.locs, Pt.cells, Pt.slots] at X219 l219 y219 z219 st219 hQ219
        subst l219 y219 z219
        obtain ⟨rv219, N219q, e219⟩ := hQ219
        rw [show sp5 (.ref w_3) (nar .boolean (1 : Int32)) = (0 : Int32) from by unfold sp5; rw [if_neg (nofun : ¬ ((.ref w_3) : Value) = .null)]] at rv219
        subst rv219
        have N219 := Fr.app N218 N219q
        obtain ⟨T221, X221, e221, st221⟩ := getS2 X219 hx hZ hown (host := "") (Or.inl (hw _ (tk 31 rfl))) Via.refl e219 (S_2.ext O218.2) (g := (mkF m 72 #[.val (.int p0), .val (.int p1), .val (.int ((p0 &&& (2147483647 : Int32)) % (13 : Int32))), .val (.int (1 : Int32)), .val (.ref w_3), .val (.ref b217), .val (.int (0 : Int32)), .val (.int (0 : Int32)), .unset] [(.ref b217)])) rfl (hb hby at_72)
        obtain ⟨cq222, kq222, q222a, q222b, q222c⟩ := isOf hZ e221 c220
        obtain ⟨_, _, ⟨T222, L222, k222, n222⟩, -, X222, ⟨Lc222, hQ222, l222, y222, z222⟩, st222⟩ := X221.virtualBack hx (y := Y4) (z := Y4) hown (mvT hZ (hw _ (tk 33 rfl))) (mvT hZ (hw _ (tk 34 rfl))) (notFace_of_selects (args := #[]) (mvT hZ (hw _ (tk 36 rfl)))) (mvT hZ (hw _ (tk 36 rfl))) (mvT hZ (hw _ (tk 35 rfl))) (by decide) (backOf (W := 0) (rm6c1 l Z a0 hw [] w_1 w_2 w_3 w_4 w_5 w_6 w_7 w_8 w_9 w_10 w_11 w_12 w_13 hS0 b217 w_2 .null (.ref w_3) (0 : Int32) (nar .boolean (1 : Int32)) T218.heap n0 O218 (E_2.ext O218.2) (F_2_integer.ext O218.2) rfl Fe218_0 rfl (F_2_pointer.ext O218.2) Fe218_1) hZ (hw _ (tk 37 rfl)) (hw _ (tk 10 rfl)) (by decide) (by decide)) q222a q222c (g := (mkF m 75 #[.val (.int p0), .val (.int p1), .val (.int ((p0 &&& (2147483647 : Int32)) % (13 : Int32))), .val (.int (1 : Int32)), .val (.ref w_3), .val (.ref b217), .val (.int (0 : Int32)), .val (.int (0 : Int32)), .unset] [(.ref w_2), (.ref b217)])) rfl (by rw [hml]; rfl) (Steps.refl _) (argsL := [(.ref w_2)]) (rest := []) (lenOf pd_4 rfl) rfl (by show 2 * 0 + _ ≤ _; exact Nat.le_of_eq rfl) (hb hby at_75) (fun _ _ => ⟨rfl, e221, (by decide : 1 + 0 ≤ _), (by decide : 2 + 0 ≤ _)⟩)
        dsimp only [Pt.U, Pt.locs, Pt.cells, Pt.slots] at X222 l222 y222 z222 st222 hQ222
        subst l222 y222 z222
        obtain ⟨rv222, N222q, e222⟩ := hQ222
        rw [show sp6c1 .null (.ref w_3) (0 : Int32) (nar .boolean (1 : Int32)) = (0 : Int32) from by unfold sp6c1; rw [if_neg (nofun : ¬ (.null : Value) = (.ref w_3))]] at rv222
        subst rv222
        have N222 := Fr.app N219 N222q
        obtain ⟨fs, hr, hrun, hended, hW, hsame⟩ := X222.leave (v := some (.int (1 : Int32))) (fun h => by rw [Bd.returns] at h; cases h)
        refine ⟨_, _, pre206 _ ?_, hrun, hended, _, _, rfl, ?_, ⟨_, rfl⟩, hW, hsame.mono (by decide) (by decide)⟩
        · show Steps p.tables e below (s₁.setTop (mkF m 21 #[.val (.int p0), .val (.int p1), .val (.int ((p0 &&& (2147483647 : Int32)) % (13 : Int32))), .val (.int (1 : Int32)), .unset, .unset, .unset, .unset, .unset] [(.int ((p0 &&& (2147483647 : Int32)) % (13 : Int32)))])) _
          refine st216 _ ?_
          show Steps p.tables e below (T216.setTop (mkF m 24 #[.val (.int p0), .val (.int p1), .val (.int ((p0 &&& (2147483647 : Int32)) % (13 : Int32))), .val (.int (1 : Int32)), .unset, .unset, .unset, .unset, .unset] [(.ref w_3)])) _
          refine XS.astore X216.here hx rfl (hb hby at_24) rfl rfl (l' := #[.val (.int p0), .val (.int p1), .val (.int ((p0 &&& (2147483647 : Int32)) % (13 : Int32))), .val (.int (1 : Int32)), .val (.ref w_3), .unset, .unset, .unset, .unset]) rfl ?_
          show Steps p.tables e below (T216.setTop (mkF m 26 #[.val (.int p0), .val (.int p1), .val (.int ((p0 &&& (2147483647 : Int32)) % (13 : Int32))), .val (.int (1 : Int32)), .val (.ref w_3), .unset, .unset, .unset, .unset] [])) _
          refine st217 _ ?_
          show Steps p.tables e below (T217.setTop (mkF m 29 #[.val (.int p0), .val (.int p1), .val (.int ((p0 &&& (2147483647 : Int32)) % (13 : Int32))), .val (.int (1 : Int32)), .val (.ref w_3), .unset, .unset, .unset, .unset] [(.ref b217)])) _
          refine XS.dup X217.here hx rfl (hb hby at_29) rfl rfl ?_
          show Steps p.tables e below (T217.setTop (mkF m 30 #[.val (.int p0), .val (.int p1), .val (.int ((p0 &&& (2147483647 : Int32)) % (13 : Int32))), .val (.int (1 : Int32)), .val (.ref w_3), .unset, .unset, .unset, .unset] [(.ref b217), (.ref b217)])) _
          refine XS.aload X217.here hx rfl (hb hby at_30) rfl rfl ?_
          show Steps p.tables e below (T217.setTop (mkF m 32 #[.val (.int p0), .val (.int p1), .val (.int ((p0 &&& (2147483647 : Int32)) % (13 : Int32))), .val (.int (1 : Int32)), .val (.ref w_3), .unset, .unset, .unset, .unset] [(.ref w_3), (.ref b217), (.ref b217)])) _
          refine XS.iloadN X217.here hx rfl (hb hby at_32) rfl ?_
          show Steps p.tables e below (T217.setTop (mkF m 33 #[.val (.int p0), .val (.int p1), .val (.int ((p0 &&& (2147483647 : Int32)) % (13 : Int32))), .val (.int (1 : Int32)), .val (.ref w_3), .unset, .unset, .unset, .unset] [(.int (1 : Int32)), (.ref w_3), (.ref b217), (.ref b217)])) _
          refine st218.trans ?_
          show Steps p.tables e below (T218.setTop (mkF m 36 #[.val (.int p0), .val (.int p1), .val (.int ((p0 &&& (2147483647 : Int32)) % (13 : Int32))), .val (.int (1 : Int32)), .val (.ref w_3), .unset, .unset, .unset, .unset] [(.ref b217)])) _
          refine XS.astore X218.here hx rfl (hb hby at_36) rfl rfl (l' := #[.val (.int p0), .val (.int p1), .val (.int ((p0 &&& (2147483647 : Int32)) % (13 : Int32))), .val (.int (1 : Int32)), .val (.ref w_3), .val (.ref b217), .unset, .unset, .unset]) rfl ?_
          show Steps p.tables e below (T218.setTop (mkF m 38 #[.val (.int p0), .val (.int p1), .val (.int ((p0 &&& (2147483647 : Int32)) % (13 : Int32))), .val (.int (1 : Int32)), .val (.ref w_3), .val (.ref b217), .unset, .unset, .unset] [])) _
          refine XS.iloadN X218.here hx rfl (hb hby at_38) rfl ?_
          show Steps p.tables e below (T218.setTop (mkF m 39 #[.val (.int p0), .val (.int p1), .val (.int ((p0 &&& (2147483647 : Int32)) % (13 : Int32))), .val (.int (1 : Int32)), .val (.ref w_3), .val (.ref b217), .unset, .unset, .unset] [(.int (1 : Int32))])) _
          refine XS.ifNo X218.here hx rfl (hb hby at_39) rfl ((if0 _ _).trans (feq (by decide : ¬ ((1 : Int32) = (0 : Int32)))).1) ?_
          show Steps p.tables e below (T218.setTop (mkF m 42 #[.val (.int p0), .val (.int p1), .val (.int ((p0 &&& (2147483647 : Int32)) % (13 : Int32))), .val (.int (1 : Int32)), .val (.ref w_3), .val (.ref b217), .unset, .unset, .unset] [])) _
          refine XS.iconst X218.here hx rfl (hb hby at_42) ?_
          show Steps p.tables e below (T218.setTop (mkF m 43 #[.val (.int p0), .val (.int p1), .val (.int ((p0 &&& (2147483647 : Int32)) % (13 : Int32))), .val (.int (1 : Int32)), .val (.ref w_3), .val (.ref b217), .unset, .unset, .unset] [(.int (0 : Int32))])) _
          refine XS.istore X218.here hx rfl (hb hby at_43) rfl (l' := #[.val (.int p0), .val (.int p1), .val (.int ((p0 &&& (2147483647 : Int32)) % (13 : Int32))), .val (.int (1 : Int32)), .val (.ref w_3), .val (.ref b217), .val (.int (0 : Int32)), .unset, .unset]) rfl ?_
          show Steps p.tables e below (T218.setTop (mkF m 45 #[.val (.int p0), .val (.int p1), .val (.int ((p0 &&& (2147483647 : Int32)) % (13 : Int32))), .val (.int (1 : Int32)), .val (.ref w_3), .val (.ref b217), .val (.int (0 : Int32)), .unset, .unset] [])) _
          refine XS.goto X218.here hx rfl (pc0 := 45) (pc' := 63) rfl (hb hby at_45) (by decide) (by decide) ?_
          show Steps p.tables e below (T218.setTop (mkF m 63 #[.val (.int p0), .val (.int p1), .val (.int ((p0 &&& (2147483647 : Int32)) % (13 : Int32))), .val (.int (1 : Int32)), .val (.ref w_3), .val (.ref b217), .val (.int (0 : Int32)), .unset, .unset] [])) _
          refine XS.aload X218.here hx rfl (hb hby at_63) rfl rfl ?_
          show Steps p.tables e below (T218.setTop (mkF m 65 #[.val (.int p0), .val (.int p1), .val (.int ((p0 &&& (2147483647 : Int32)) % (13 : Int32))), .val (.int (1 : Int32)), .val (.ref w_3), .val (.ref b217), .val (.int (0 : Int32)), .unset, .unset] [(.ref b217)])) _
          refine st219.trans ?_
          show Steps p.tables e below (T219.setTop (mkF m 68 #[.val (.int p0), .val (.int p1), .val (.int ((p0 &&& (2147483647 : Int32)) % (13 : Int32))), .val (.int (1 : Int32)), .val (.ref w_3), .val (.ref b217), .val (.int (0 : Int32)), .unset, .unset] [(.int (0 : Int32))])) _
          refine XS.istore X219.here hx rfl (hb hby at_68) rfl (l' := #[.val (.int p0), .val (.int p1), .val (.int ((p0 &&& (2147483647 : Int32)) % (13 : Int32))), .val (.int (1 : Int32)), .val (.ref w_3), .val (.ref b217), .val (.int (0 : Int32)), .val (.int (0 : Int32)), .unset]) rfl ?_
          show Steps p.tables e below (T219.setTop (mkF m 70 #[.val (.int p0), .val (.int p1), .val (.int ((p0 &&& (2147483647 : Int32)) % (13 : Int32))), .val (.int (1 : Int32)), .val (.ref w_3), .val (.ref b217), .val (.int (0 : Int32)), .val (.int (0 : Int32)), .unset] [])) _
          refine XS.aload X219.here hx rfl (hb hby at_70) rfl rfl ?_
          show Steps p.tables e below (T219.setTop (mkF m 72 #[.val (.int p0), .val (.int p1), .val (.int ((p0 &&& (2147483647 : Int32)) % (13 : Int32))), .val (.int (1 : Int32)), .val (.ref w_3), .val (.ref b217), .val (.int (0 : Int32)), .val (.int (0 : Int32)), .unset] [(.ref b217)])) _
          refine st221 _ ?_
          show Steps p.tables e below (T221.setTop (mkF m 75 #[.val (.int p0), .val (.int p1), .val (.int ((p0 &&& (2147483647 : Int32)) % (13 : Int32))), .val (.int (1 : Int32)), .val (.ref w_3), .val (.ref b217), .val (.int (0 : Int32)), .val (.int (0 : Int32)), .unset] [(.ref w_2), (.ref b217)])) _
          refine st222.trans ?_
          show Steps p.tables e below (T222.setTop (mkF m 78 #[.val (.int p0), .val (.int p1), .val (.int ((p0 &&& (2147483647 : Int32)) % (13 : Int32))), .val (.int (1 : Int32)), .val (.ref w_3), .val (.ref b217), .val (.int (0 : Int32)), .val (.int (0 : Int32)), .unset] [(.int (0 : Int32))])) _
          refine XS.istore X222.here hx rfl (hb hby at_78) rfl (l' := #[.val (.int p0), .val (.int p1), .val (.int ((p0 &&& (2147483647 : Int32)) % (13 : Int32))), .val (.int (1 : Int32)), .val (.ref w_3), .val (.ref b217), .val (.int (0 : Int32)), .val (.int (0 : Int32)), .val (.int (0 : Int32))]) rfl ?_
          show Steps p.tables e below (T222.setTop (mkF m 80 #[.val (.int p0), .val (.int p1), .val (.int ((p0 &&& (2147483647 : Int32)) % (13 : Int32))), .val (.int (1 : Int32)), .val (.ref w_3), .val (.ref b217), .val (.int (0 : Int32)), .val (.int (0 : Int32)), .val (.int (0 : Int32))] [])) _
          refine XS.iload X222.here hx rfl (hb hby at_80) rfl ?_
          show Steps p.tables e below (T222.setTop (mkF m 82 #[.val (.int p0), .val (.int p1), .val (.int ((p0 &&& (2147483647 : Int32)) % (13 : Int32))), .val (.int (1 : Int32)), .val (.ref w_3), .val (.ref b217), .val (.int (0 : Int32)), .val (.int (0 : Int32)), .val (.int (0 : Int32))] [(.int (0 : Int32))])) _
          refine XS.iload X222.here hx rfl (hb hby at_82) rfl ?_
          show Steps p.tables e below (T222.setTop (mkF m 84 #[.val (.int p0), .val (.int p1), .val (.int ((p0 &&& (2147483647 : Int32)) % (13 : Int32))), .val (.int (1 : Int32)), .val (.ref w_3), .val (.ref b217), .val (.int (0 : Int32)), .val (.int (0 : Int32)), .val (.int (0 : Int32))] [(.int (0 : Int32)), (.int (0 : Int32))])) _
          refine XS.icmpNo X222.here hx rfl (hb hby at_84) rfl (teq (by decide : ((0 : Int32) = (0 : Int32)))).2 ?_
          show Steps p.tables e below (T222.setTop (mkF m 87 #[.val (.int p0), .val (.int p1), .val (.int ((p0 &&& (2147483647 : Int32)) % (13 : Int32))), .val (.int (1 : Int32)), .val (.ref w_3), .val (.ref b217), .val (.int (0 : Int32)), .val (.int (0 : Int32)), .val (.int (0 : Int32))] [])) _
          refine XS.iload X222.here hx rfl (hb hby at_87) rfl ?_
          show Steps p.tables e below (T222.setTop (mkF m 89 #[.val (.int p0), .val (.int p1), .val (.int ((p0 &&& (2147483647 : Int32)) % (13 : Int32))), .val (.int (1 : Int32)), .val (.ref w_3), .val (.ref b217), .val (.int (0 : Int32)), .val (.int (0 : Int32)), .val (.int (0 : Int32))] [(.int (0 : Int32))])) _
          refine XS.iload X222.here hx rfl (hb hby at_89) rfl ?_
          show Steps p.tables e below (T222.setTop (mkF m 91 #[.val (.int p0), .val (.int p1), .val (.int ((p0 &&& (2147483647 : Int32)) % (13 : Int32))), .val (.int (1 : Int32)), .val (.ref w_3), .val (.ref b217), .val (.int (0 : Int32)), .val (.int (0 : Int32)), .val (.int (0 : Int32))] [(.int (0 : Int32)), (.int (0 : Int32))])) _
          refine XS.icmpNo X222.here hx rfl (hb hby at_91) rfl (teq (by decide : ((0 : Int32) = (0 : Int32)))).2 ?_
          show Steps p.tables e below (T222.setTop (mkF m 94 #[.val (.int p0), .val (.int p1), .val (.int ((p0 &&& (2147483647 : Int32)) % (13 : Int32))), .val (.int (1 : Int32)), .val (.ref w_3), .val (.ref b217), .val (.int (0 : Int32)), .val (.int (0 : Int32)), .val (.int (0 : Int32))] [])) _
          refine XS.iconst X222.here hx rfl (hb hby at_94) ?_
          show Steps p.tables e below (T222.setTop (mkF m 95 #[.val (.int p0), .val (.int p1), .val (.int ((p0 &&& (2147483647 : Int32)) % (13 : Int32))), .val (.int (1 : Int32)), .val (.ref w_3), .val (.ref b217), .val (.int (0 : Int32)), .val (.int (0 : Int32)), .val (.int (0 : Int32))] [(.int (1 : Int32))])) _
          refine XS.goto X222.here hx rfl (pc0 := 95) (pc' := 99) rfl (hb hby at_95) (by decide) (by decide) ?_
          show Steps p.tables e below (T222.setTop (mkF m 99 #[.val (.int p0), .val (.int p1), .val (.int ((p0 &&& (2147483647 : Int32)) % (13 : Int32))), .val (.int (1 : Int32)), .val (.ref w_3), .val (.ref b217), .val (.int (0 : Int32)), .val (.int (0 : Int32)), .val (.int (0 : Int32))] [(.int (1 : Int32))])) _
          exact retN X222 hx (t := .boolean) Bd.returns (by simp) (hb hby at_99) hr
        · show Q0 Z w_1 w_2 w_3 w_4 w_5 w_6 w_7 w_8 w_9 w_10 w_11 w_12 w_13 p0 p1 h0 n0 _ T222.heap _
          rw [e222]
          exact ⟨by unfold sp0; rw [if_neg hc30, if_neg hc207, if_pos hc215], N222, trivial⟩
      · by_cases hc223 : ((p0 &&& (2147483647 : Int32)) % (13 : Int32)) = (2 : Int32)
        · obtain ⟨_, _, ⟨T224, L224, k224, n224⟩, -, X224, ⟨Lc224, hQ224, l224, y224, z224⟩, st224⟩ := Jvm.LawKit.callS X0 hx (y := Y0) hown (mvT hZ (hw _ (tk 1 rfl))) (mvT hZ (hw _ (tk 2 rfl))) (mvT hZ (hw _ (tk 3 rfl))) (mvT hZ (hw _ (tk 4 rfl))) (by decide) (backOf (W := 0) (rm1 l Z a0 hw [] w_1 w_2 w_3 w_4 w_5 w_6 w_7 w_8 w_9 w_10 w_11 w_12 w_13 hS0 ((p0 &&& (2147483647 : Int32)) % (13 : Int32)) h0 n0 O0) hZ (hw _ (tk 4 rfl)) (hw _ (tk 3 rfl)) (by decide) (by decide)) (g := (mkF m 21 #[.val (.int p0), .val (.int p1), .val (.int ((p0 &&& (2147483647 : Int32)) % (13 : Int32))), .val (.int (1 : Int32)), .unset, .unset, .unset, .unset, .unset] [(.int ((p0 &&& (2147483647 : Int32)) % (13 : Int32)))])) rfl (by rw [hml]; rfl) (argsL := [(.int ((p0 &&& (2147483647 : Int32)) % (13 : Int32)))]) (rest := []) (lenOf pd_0 rfl) rfl (by show 2 * 0 + _ ≤ _; exact Nat.le_of_eq rfl) (hb hby at_21) (fun _ _ => ⟨rfl, e0, (by decide : 0 + 0 ≤ _), (by decide : 0 + 0 ≤ _)⟩)
          dsimp only [Pt.U, Pt.locs, Pt.cells, Pt.slots] at X224 l224 y224 z224 st224 hQ224
          subst l224 y224 z224
          obtain ⟨rv224, N224q, e224⟩ := hQ224
          rw [show sp1 w_1 w_3 w_4 w_5 w_6 w_7 w_8 w_9 w_10 w_11 w_12 w_13 ((p0 &&& (2147483647 : Int32)) % (13 : Int32)) = (.ref w_10) from by unfold sp1; rw [if_neg hc207, if_neg hc215, if_pos hc223]] at rv224
          subst rv224
          have N224 := Fr.app N0 N224q
          obtain ⟨T225, h225, X225, e225, E225, A225, D225, -, st225⟩ := newO X224 hx hZ hown (hw _ (tk 8 rfl)) (hw _ (tk 9 rfl)) (hw _ (tk 10 rfl)) e224 (g := (mkF m 26 #[.val (.int p0), .val (.int p1), .val (.int ((p0 &&& (2147483647 : Int32)) % (13 : Int32))), .val (.int (1 : Int32)), .val (.ref w_10), .unset, .unset, .unset, .unset] [])) rfl (hb hby at_26) (by decide) (by decide)
          obtain ⟨b225, g225⟩ : ∃ z, z = h0.size := ⟨_, rfl⟩
          rw [← g225] at A225 D225 st225
          have g_b225 : n0 ≤ b225 := Nat.le_trans (own_old O0) (Nat.le_of_eq g225.symm)
          have O225 : Old Z n0 h225 := O0.ext E225
          have F_integer_b225 : Fld Z h225 b225 "com/example/discharge/discharge/frontend/Syntax$Type" "integer" "Lcom/example/discharge/discharge/frontend/IntegerType;" .null := D225 (Or.inr (hw _ (tk 23 rfl))) (ty := (.object "com/example/discharge/discharge/frontend/IntegerType")) (by decide)
          have F_pointer_b225 : Fld Z h225 b225 "com/example/discharge/discharge/frontend/Syntax$Type" "pointer" "Z" (.int (0 : Int32)) := D225 (Or.inr (hw _ (tk 25 rfl))) (ty := .boolean) (by decide)
          obtain ⟨_, _, ⟨T226, L226, k226, n226⟩, -, X226, ⟨Lc226, hQ226, l226, y226, z226⟩, st226⟩ := X225.specialBack hx (y := Y2) rfl hown (mvT hZ (hw _ (tk 11 rfl))) (mvT hZ (hw _ (tk 12 rfl))) (mvT hZ (hw _ (tk 13 rfl))) (by decide) (backOf (W := 1) (rm2x1 l Z a0 hw [] w_1 w_2 w_3 w_4 w_5 w_6 w_7 w_8 w_9 w_10 w_11 w_12 w_13 hS0 b225 w_10 (1 : Int32) h225 n0 O225 g_b225 A225 F_integer_b225 F_pointer_b225) hZ (hw _ (tk 13 rfl)) (hw _ (tk 10 rfl)) (by decide) (by decide)) (g := (mkF m 33 #[.val (.int p0), .val (.int p1), .val (.int ((p0 &&& (2147483647 : Int32)) % (13 : Int32))), .val (.int (1 : Int32)), .val (.ref w_10), .unset, .unset, .unset, .unset] [(.int (1 : Int32)), (.ref w_10), (.ref b225), (.ref b225)])) rfl (by rw [hml]; rfl) (Steps.refl _) (a := b225) (argsL := [(.ref w_10), (.int (1 : Int32))]) (rest := [(.ref b225)]) (lenOf pd_2 rfl) rfl (by show 2 * 0 + _ ≤ _; exact Nat.le_of_eq rfl) (hb hby at_33) (fun _ _ => ⟨rfl, e225, (by decide : 1 + 0 ≤ _), (by decide : 2 + 0 ≤ _)⟩)
          dsimp only [Pt.U, Pt.locs, Pt.cells, Pt.slots] at X226 l226 y226 z226 st226 hQ226
          subst l226 y226 z226
          obtain ⟨rv226, N226q, O226, K226c, Fe226_0, Fe226_1⟩ := hQ226
          subst rv226
          have N226 := Fr.app N224 N226q
          have c228 := (A225.keep K226c)
          obtain ⟨cq227, kq227, q227a, q227b, q227c⟩ := isOf hZ rfl c228
          obtain ⟨_, _, ⟨T227, L227, k227, n227⟩, -, X227, ⟨Lc227, hQ227, l227, y227, z227⟩, st227⟩ := X226.virtualBack hx (y := Y3) (z := Y3) hown (mvT hZ (hw _ (tk 26 rfl))) (mvT hZ (hw _ (tk 27 rfl))) (notFace_of_selects (args := #[]) (mvT hZ (hw _ (tk 29 rfl)))) (mvT hZ (hw _ (tk 29 rfl))) (mvT hZ (hw _ (tk 28 rfl))) (by decide) (backOf (W := 0) (rm5 l Z a0 hw [] w_1 w_2 w_3 w_4 w_5 w_6 w_7 w_8 w_9 w_10 w_11 w_12 w_13 hS0 b225 (.ref w_10) (nar .boolean (1 : Int32)) T226.heap n0 O226 Fe226_0 rfl Fe226_1) hZ (hw _ (tk 30 rfl)) (hw _ (tk 10 rfl)) (by decide) (by decide)) q227a q227c (g := (mkF m 65 #[.val (.int p0), .val (.int p1), .val (.int ((p0 &&& (2147483647 : Int32)) % (13 : Int32))), .val (.int (1 : Int32)), .val (.ref w_10), .val (.ref b225), .val (.int (0 : Int32)), .unset, .unset] [(.ref b225)])) rfl (by rw [hml]; rfl) (Steps.refl _) (argsL := []) (rest := []) (lenOf pd_3 rfl) rfl (by show 2 * 0 + _ ≤ _; exact Nat.le_of_eq rfl) (hb hby at_65) (fun _ _ => ⟨rfl, rfl, (by decide : 1 + 0 ≤ _), (by decide : 2 + 0 ≤ _)⟩)
          dsimp only [Pt.U, Pt.locs, Pt.cells, Pt.slots] at X227 l227 y227 z227 st227 hQ227
          subst l227 y227 z227
          obtain ⟨rv227, N227q, e227⟩ := hQ227
          rw [show sp5 (.ref w_10) (nar .boolean (1 : Int32)) = (0 : Int32) from by unfold sp5; rw [if_neg (nofun : ¬ ((.ref w_10) : Value) = .null)]] at rv227
          subst rv227
          have N227 := Fr.app N226 N227q
          obtain ⟨T229, X229, e229, st229⟩ := getS2 X227 hx hZ hown (host := "") (Or.inl (hw _ (tk 31 rfl))) Via.refl e227 (S_2.ext O226.2) (g := (mkF m 72 #[.val (.int p0), .val (.int p1), .val (.int ((p0 &&& (2147483647 : Int32)) % (13 : Int32))), .val (.int (1 : Int32)), .val (.ref w_10), .val (.ref b225), .val (.int (0 : Int32)), .val (.int (0 : Int32)), .unset] [(.ref b225)])) rfl (hb hby at_72)
          obtain ⟨cq230, kq230, q230a, q230b, q230c⟩ := isOf hZ e229 c228
          obtain ⟨_, _, ⟨T230, L230, k230, n230⟩, -, X230, ⟨Lc230, hQ230, l230, y230, z230⟩, st230⟩ := X229.virtualBack hx (y := Y4) (z := Y4) hown (mvT hZ (hw _ (tk 33 rfl))) (mvT hZ (hw _ (tk 34 rfl))) (notFace_of_selects (args := #[]) (mvT hZ (hw _ (tk 36 rfl)))) (mvT hZ (hw _ (tk 36 rfl))) (mvT hZ (hw _ (tk 35 rfl))) (by decide) (backOf (W := 0) (rm6c1 l Z a0 hw [] w_1 w_2 w_3 w_4 w_5 w_6 w_7 w_8 w_9 w_10 w_11 w_12 w_13 hS0 b225 w_2 .null (.ref w_10) (0 : Int32) (nar .boolean (1 : Int32)) T226.heap n0 O226 (E_2.ext O226.2) (F_2_integer.ext O226.2) rfl Fe226_0 rfl (F_2_pointer.ext O226.2) Fe226_1) hZ (hw _ (tk 37 rfl)) (hw _ (tk 10 rfl)) (by decide) (by decide)) q230a q230c (g := (mkF m 75 #[.val (.int p0), .val (.int p1), .val (.int ((p0 &&& (2147483647 : Int32)) % (13 : Int32))), .val (.int (1 : Int32)), .val (.ref w_10), .val (.ref b225), .val (.int (0 : Int32)), .val (.int (0 : Int32)), .unset] [(.ref w_2), (.ref b225)])) rfl (by rw [hml]; rfl) (Steps.refl _) (argsL := [(.ref w_2)]) (rest := []) (lenOf pd_4 rfl) rfl (by show 2 * 0 + _ ≤ _; exact Nat.le_of_eq rfl) (hb hby at_75) (fun _ _ => ⟨rfl, e229, (by decide : 1 + 0 ≤ _), (by decide : 2 + 0 ≤ _)⟩)
          dsimp only [Pt.U, Pt.locs, Pt.cells, Pt.slots] at X230 l230 y230 z230 st230 hQ230
          subst l230 y230 z230
          obtain ⟨rv230, N230q, e230⟩ := hQ230
          rw [show sp6c1 .null (.ref w_10) (0 : Int32) (nar .boolean (1 : Int32)) = (0 : Int32) from by unfold sp6c1; rw [if_neg (nofun : ¬ (.null : Value) = (.ref w_10))]] at rv230
          subst rv230
          have N230 := Fr.app N227 N230q
          obtain ⟨fs, hr, hrun, hended, hW, hsame⟩ := X230.leave (v := some (.int (1 : Int32))) (fun h => by rw [Bd.returns] at h; cases h)
          refine ⟨_, _, pre206 _ ?_, hrun, hended, _, _, rfl, ?_, ⟨_, rfl⟩, hW, hsame.mono (by decide) (by decide)⟩
          · show Steps p.tables e below (s₁.setTop (mkF m 21 #[.val (.int p0), .val (.int p1), .val (.int ((p0 &&& (2147483647 : Int32)) % (13 : Int32))), .val (.int (1 : Int32)), .unset, .unset, .unset, .unset, .unset] [(.int ((p0 &&& (2147483647 : Int32)) % (13 : Int32)))])) _
            refine st224 _ ?_
            show Steps p.tables e below (T224.setTop (mkF m 24 #[.val (.int p0), .val (.int p1), .val (.int ((p0 &&& (2147483647 : Int32)) % (13 : Int32))), .val (.int (1 : Int32)), .unset, .unset, .unset, .unset, .unset] [(.ref w_10)])) _
            refine XS.astore X224.here hx rfl (hb hby at_24) rfl rfl (l' := #[.val (.int p0), .val (.int p1), .val (.int ((p0 &&& (2147483647 : Int32)) % (13 : Int32))), .val (.int (1 : Int32)), .val (.ref w_10), .unset, .unset, .unset, .unset]) rfl ?_
            show Steps p.tables e below (T224.setTop (mkF m 26 #[.val (.int p0), .val (.int p1), .val (.int ((p0 &&& (2147483647 : Int32)) % (13 : Int32))), .val (.int (1 : Int32)), .val (.ref w_10), .unset, .unset, .unset, .unset] [])) _
            refine st225 _ ?_
            show Steps p.tables e below (T225.setTop (mkF m 29 #[.val (.int p0), .val (.int p1), .val (.int ((p0 &&& (2147483647 : Int32)) % (13 : Int32))), .val (.int (1 : Int32)), .val (.ref w_10), .unset, .unset, .unset, .unset] [(.ref b225)])) _
            refine XS.dup X225.here hx rfl (hb hby at_29) rfl rfl ?_
            show Steps p.tables e below (T225.setTop (mkF m 30 #[.val (.int p0), .val (.int p1), .val (.int ((p0 &&& (2147483647 : Int32)) % (13 : Int32))), .val (.int (1 : Int32)), .val (.ref w_10), .unset, .unset, .unset, .unset] [(.ref b225), (.ref b225)])) _
            refine XS.aload X225.here hx rfl (hb hby at_30) rfl rfl ?_
            show Steps p.tables e below (T225.setTop (mkF m 32 #[.val (.int p0), .val (.int p1), .val (.int ((p0 &&& (2147483647 : Int32)) % (13 : Int32))), .val (.int (1 : Int32)), .val (.ref w_10), .unset, .unset, .unset, .unset] [(.ref w_10), (.ref b225), (.ref b225)])) _
            refine XS.iloadN X225.here hx rfl (hb hby at_32) rfl ?_
            show Steps p.tables e below (T225.setTop (mkF m 33 #[.val (.int p0), .val (.int p1), .val (.int ((p0 &&& (2147483647 : Int32)) % (13 : Int32))), .val (.int (1 : Int32)), .val (.ref w_10), .unset, .unset, .unset, .unset] [(.int (1 : Int32)), (.ref w_10), (.ref b225), (.ref b225)])) _
            refine st226.trans ?_
            show Steps p.tables e below (T226.setTop (mkF m 36 #[.val (.int p0), .val (.int p1), .val (.int ((p0 &&& (2147483647 : Int32)) % (13 : Int32))), .val (.int (1 : Int32)), .val (.ref w_10), .unset, .unset, .unset, .unset] [(.ref b225)])) _
            refine XS.astore X226.here hx rfl (hb hby at_36) rfl rfl (l' := #[.val (.int p0), .val (.int p1), .val (.int ((p0 &&& (2147483647 : Int32)) % (13 : Int32))), .val (.int (1 : Int32)), .val (.ref w_10), .val (.ref b225), .unset, .unset, .unset]) rfl ?_
            show Steps p.tables e below (T226.setTop (mkF m 38 #[.val (.int p0), .val (.int p1), .val (.int ((p0 &&& (2147483647 : Int32)) % (13 : Int32))), .val (.int (1 : Int32)), .val (.ref w_10), .val (.ref b225), .unset, .unset, .unset] [])) _
            refine XS.iloadN X226.here hx rfl (hb hby at_38) rfl ?_
            show Steps p.tables e below (T226.setTop (mkF m 39 #[.val (.int p0), .val (.int p1), .val (.int ((p0 &&& (2147483647 : Int32)) % (13 : Int32))), .val (.int (1 : Int32)), .val (.ref w_10), .val (.ref b225), .unset, .unset, .unset] [(.int (1 : Int32))])) _
            refine XS.ifNo X226.here hx rfl (hb hby at_39) rfl ((if0 _ _).trans (feq (by decide : ¬ ((1 : Int32) = (0 : Int32)))).1) ?_
            show Steps p.tables e below (T226.setTop (mkF m 42 #[.val (.int p0), .val (.int p1), .val (.int ((p0 &&& (2147483647 : Int32)) % (13 : Int32))), .val (.int (1 : Int32)), .val (.ref w_10), .val (.ref b225), .unset, .unset, .unset] [])) _
            refine XS.iconst X226.here hx rfl (hb hby at_42) ?_
            show Steps p.tables e below (T226.setTop (mkF m 43 #[.val (.int p0), .val (.int p1), .val (.int ((p0 &&& (2147483647 : Int32)) % (13 : Int32))), .val (.int (1 : Int32)), .val (.ref w_10), .val (.ref b225), .unset, .unset, .unset] [(.int (0 : Int32))])) _
            refine XS.istore X226.here hx rfl (hb hby at_43) rfl (l' := #[.val (.int p0), .val (.int p1), .val (.int ((p0 &&& (2147483647 : Int32)) % (13 : Int32))), .val (.int (1 : Int32)), .val (.ref w_10), .val (.ref b225), .val (.int (0 : Int32)), .unset, .unset]) rfl ?_
            show Steps p.tables e below (T226.setTop (mkF m 45 #[.val (.int p0), .val (.int p1), .val (.int ((p0 &&& (2147483647 : Int32)) % (13 : Int32))), .val (.int (1 : Int32)), .val (.ref w_10), .val (.ref b225), .val (.int (0 : Int32)), .unset, .unset] [])) _
            refine XS.goto X226.here hx rfl (pc0 := 45) (pc' := 63) rfl (hb hby at_45) (by decide) (by decide) ?_
            show Steps p.tables e below (T226.setTop (mkF m 63 #[.val (.int p0), .val (.int p1), .val (.int ((p0 &&& (2147483647 : Int32)) % (13 : Int32))), .val (.int (1 : Int32)), .val (.ref w_10), .val (.ref b225), .val (.int (0 : Int32)), .unset, .unset] [])) _
            refine XS.aload X226.here hx rfl (hb hby at_63) rfl rfl ?_
            show Steps p.tables e below (T226.setTop (mkF m 65 #[.val (.int p0), .val (.int p1), .val (.int ((p0 &&& (2147483647 : Int32)) % (13 : Int32))), .val (.int (1 : Int32)), .val (.ref w_10), .val (.ref b225), .val (.int (0 : Int32)), .unset, .unset] [(.ref b225)])) _
            refine st227.trans ?_
            show Steps p.tables e below (T227.setTop (mkF m 68 #[.val (.int p0), .val (.int p1), .val (.int ((p0 &&& (2147483647 : Int32)) % (13 : Int32))), .val (.int (1 : Int32)), .val (.ref w_10), .val (.ref b225), .val (.int (0 : Int32)), .unset, .unset] [(.int (0 : Int32))])) _
            refine XS.istore X227.here hx rfl (hb hby at_68) rfl (l' := #[.val (.int p0), .val (.int p1), .val (.int ((p0 &&& (2147483647 : Int32)) % (13 : Int32))), .val (.int (1 : Int32)), .val (.ref w_10), .val (.ref b225), .val (.int (0 : Int32)), .val (.int (0 : Int32)), .unset]) rfl ?_
            show Steps p.tables e below (T227.setTop (mkF m 70 #[.val (.int p0), .val (.int p1), .val (.int ((p0 &&& (2147483647 : Int32)) % (13 : Int32))), .val (.int (1 : Int32)), .val (.ref w_10), .val (.ref b225), .val (.int (0 : Int32)), .val (.int (0 : Int32)), .unset] [])) _
            refine XS.aload X227.here hx rfl (hb hby at_70) rfl rfl ?_
            show Steps p.tables e below (T227.setTop (mkF m 72 #[.val (.int p0), .val (.int p1), .val (.int ((p0 &&& (2147483647 : Int32)) % (13 : Int32))), .val (.int (1 : Int32)), .val (.ref w_10), .val (.ref b225), .val (.int (0 : Int32)), .val (.int (0 : Int32)), .unset] [(.ref b225)])) _
            refine st229 _ ?_
            show Steps p.tables e below (T229.setTop (mkF m 75 #[.val (.int p0), .val (.int p1), .val (.int ((p0 &&& (2147483647 : Int32)) % (13 : Int32))), .val (.int (1 : Int32)), .val (.ref w_10), .val (.ref b225), .val (.int (0 : Int32)), .val (.int (0 : Int32)), .unset] [(.ref w_2), (.ref b225)])) _
            refine st230.trans ?_
            show Steps p.tables e below (T230.setTop (mkF m 78 #[.val (.int p0), .val (.int p1), .val (.int ((p0 &&& (2147483647 : Int32)) % (13 : Int32))), .val (.int (1 : Int32)), .val (.ref w_10), .val (.ref b225), .val (.int (0 : Int32)), .val (.int (0 : Int32)), .unset] [(.int (0 : Int32))])) _
            refine XS.istore X230.here hx rfl (hb hby at_78) rfl (l' := #[.val (.int p0), .val (.int p1), .val (.int ((p0 &&& (2147483647 : Int32)) % (13 : Int32))), .val (.int (1 : Int32)), .val (.ref w_10), .val (.ref b225), .val (.int (0 : Int32)), .val (.int (0 : Int32)), .val (.int (0 : Int32))]) rfl ?_
            show Steps p.tables e below (T230.setTop (mkF m 80 #[.val (.int p0), .val (.int p1), .val (.int ((p0 &&& (2147483647 : Int32)) % (13 : Int32))), .val (.int (1 : Int32)), .val (.ref w_10), .val (.ref b225), .val (.int (0 : Int32)), .val (.int (0 : Int32)), .val (.int (0 : Int32))] [])) _
            refine XS.iload X230.here hx rfl (hb hby at_80) rfl ?_
            show Steps p.tables e below (T230.setTop (mkF m 82 #[.val (.int p0), .val (.int p1), .val (.int ((p0 &&& (2147483647 : Int32)) % (13 : Int32))), .val (.int (1 : Int32)), .val (.ref w_10), .val (.ref b225), .val (.int (0 : Int32)), .val (.int (0 : Int32)), .val (.int (0 : Int32))] [(.int (0 : Int32))])) _
            refine XS.iload X230.here hx rfl (hb hby at_82) rfl ?_
            show Steps p.tables e below (T230.setTop (mkF m 84 #[.val (.int p0), .val (.int p1), .val (.int ((p0 &&& (2147483647 : Int32)) % (13 : Int32))), .val (.int (1 : Int32)), .val (.ref w_10), .val (.ref b225), .val (.int (0 : Int32)), .val (.int (0 : Int32)), .val (.int (0 : Int32))] [(.int (0 : Int32)), (.int (0 : Int32))])) _
            refine XS.icmpNo X230.here hx rfl (hb hby at_84) rfl (teq (by decide : ((0 : Int32) = (0 : Int32)))).2 ?_
            show Steps p.tables e below (T230.setTop (mkF m 87 #[.val (.int p0), .val (.int p1), .val (.int ((p0 &&& (2147483647 : Int32)) % (13 : Int32))), .val (.int (1 : Int32)), .val (.ref w_10), .val (.ref b225), .val (.int (0 : Int32)), .val (.int (0 : Int32)), .val (.int (0 : Int32))] [])) _
            refine XS.iload X230.here hx rfl (hb hby at_87) rfl ?_
            show Steps p.tables e below (T230.setTop (mkF m 89 #[.val (.int p0), .val (.int p1), .val (.int ((p0 &&& (2147483647 : Int32)) % (13 : Int32))), .val (.int (1 : Int32)), .val (.ref w_10), .val (.ref b225), .val (.int (0 : Int32)), .val (.int (0 : Int32)), .val (.int (0 : Int32))] [(.int (0 : Int32))])) _
            refine XS.iload X230.here hx rfl (hb hby at_89) rfl ?_
            show Steps p.tables e below (T230.setTop (mkF m 91 #[.val (.int p0), .val (.int p1), .val (.int ((p0 &&& (2147483647 : Int32)) % (13 : Int32))), .val (.int (1 : Int32)), .val (.ref w_10), .val (.ref b225), .val (.int (0 : Int32)), .val (.int (0 : Int32)), .val (.int (0 : Int32))] [(.int (0 : Int32)), (.int (0 : Int32))])) _
            refine XS.icmpNo X230.here hx rfl (hb hby at_91) rfl (teq (by decide : ((0 : Int32) = (0 : Int32)))).2 ?_
            show Steps p.tables e below (T230.setTop (mkF m 94 #[.val (.int p0), .val (.int p1), .val (.int ((p0 &&& (2147483647 : Int32)) % (13 : Int32))), .val (.int (1 : Int32)), .val (.ref w_10), .val (.ref b225), .val (.int (0 : Int32)), .val (.int (0 : Int32)), .val (.int (0 : Int32))] [])) _
            refine XS.iconst X230.here hx rfl (hb hby at_94) ?_
            show Steps p.tables e below (T230.setTop (mkF m 95 #[.val (.int p0), .val (.int p1), .val (.int ((p0 &&& (2147483647 : Int32)) % (13 : Int32))), .val (.int (1 : Int32)), .val (.ref w_10), .val (.ref b225), .val (.int (0 : Int32)), .val (.int (0 : Int32)), .val (.int (0 : Int32))] [(.int (1 : Int32))])) _
            refine XS.goto X230.here hx rfl (pc0 := 95) (pc' := 99) rfl (hb hby at_95) (by decide) (by decide) ?_
            show Steps p.tables e below (T230.setTop (mkF m 99 #[.val (.int p0), .val (.int p1), .val (.int ((p0 &&& (2147483647 : Int32)) % (13 : Int32))), .val (.int (1 : Int32)), .val (.ref w_10), .val (.ref b225), .val (.int (0 : Int32)), .val (.int (0 : Int32)), .val (.int (0 : Int32))] [(.int (1 : Int32))])) _
            exact retN X230 hx (t := .boolean) Bd.returns (by simp) (hb hby at_99) hr
          · show Q0 Z w_1 w_2 w_3 w_4 w_5 w_6 w_7 w_8 w_9 w_10 w_11 w_12 w_13 p0 p1 h0 n0 _ T230.heap _
            rw [e230]
            exact ⟨by unfold sp0; rw [if_neg hc30, if_neg hc207, if_neg hc215, if_pos hc223], N230, trivial⟩
        · by_cases hc231 : ((p0 &&& (2147483647 : Int32)) % (13 : Int32)) = (3 : Int32)
          · obtain ⟨_, _, ⟨T232, L232, k232, n232⟩, -, X232, ⟨Lc232, hQ232, l232, y232, z232⟩, st232⟩ := Jvm.LawKit.callS X0 hx (y := Y0) hown (mvT hZ (hw _ (tk 1 rfl))) (mvT hZ (hw _ (tk 2 rfl))) (mvT hZ (hw _ (tk 3 rfl))) (mvT hZ (hw _ (tk 4 rfl))) (by decide) (backOf (W := 0) (rm1 l Z a0 hw [] w_1 w_2 w_3 w_4 w_5 w_6 w_7 w_8 w_9 w_10 w_11 w_12 w_13 hS0 ((p0 &&& (2147483647 : Int32)) % (13 : Int32)) h0 n0 O0) hZ (hw _ (tk 4 rfl)) (hw _ (tk 3 rfl)) (by decide) (by decide)) (g := (mkF m 21 #[.val (.int p0), .val (.int p1), .val (.int ((p0 &&& (2147483647 : Int32)) % (13 : Int32))), .val (.int (1 : Int32)), .unset, .unset, .unset, .unset, .unset] [(.int ((p0 &&& (2147483647 : Int32)) % (13 : Int32)))])) rfl (by rw [hml]; rfl) (argsL := [(.int ((p0 &&& (2147483647 : Int32)) % (13 : Int32)))]) (rest := []) (lenOf pd_0 rfl) rfl (by show 2 * 0 + _ ≤ _; exact Nat.le_of_eq rfl) (hb hby at_21) (fun _ _ => ⟨rfl, e0, (by decide : 0 + 0 ≤ _), (by decide : 0 + 0 ≤ _)⟩)
            dsimp only [Pt.U, Pt.locs, Pt.cells, Pt.slots] at X232 l232 y232 z232 st232 hQ232
            subst l232 y232 z232
            obtain ⟨rv232, N232q, e232⟩ := hQ232
            rw [show sp1 w_1 w_3 w_4 w_5 w_6 w_7 w_8 w_9 w_10 w_11 w_12 w_13 ((p0 &&& (2147483647 : Int32)) % (13 : Int32)) = (.ref w_5) from by unfold sp1; rw [if_neg hc207, if_neg hc215, if_neg hc223, if_pos hc231]] at rv232
            subst rv232
            have N232 := Fr.app N0 N232q
            obtain ⟨T233, h233, X233, e233, E233, A233, D233, -, st233⟩ := newO X232 hx hZ hown (hw _ (tk 8 rfl)) (hw _ (tk 9 rfl)) (hw _ (tk 10 rfl)) e232 (g := (mkF m 26 #[.val (.int p0), .val (.int p1), .val (.int ((p0 &&& (2147483647 : Int32)) % (13 : Int32))), .val (.int (1 : Int32)), .val (.ref w_5), .unset, .unset, .unset, .unset] [])) rfl (hb hby at_26) (by decide) (by decide)
            obtain ⟨b233, g233⟩ : ∃ z, z = h0.size := ⟨_, rfl⟩
            rw [← g233] at A233 D233 st233
            have g_b233 : n0 ≤ b233 := Nat.le_trans (own_old O0) (Nat.le_of_eq g233.symm)
            have O233 : Old Z n0 h233 := O0.ext E233
            have F_integer_b233 : Fld Z h233 b233 "com/example/discharge/discharge/frontend/Syntax$Type" "integer" "Lcom/example/discharge/discharge/frontend/IntegerType;" .null := D233 (Or.inr (hw _ (tk 23 rfl))) (ty := (.object "com/example/discharge/discharge/frontend/IntegerType")) (by decide)
            have F_pointer_b233 : Fld Z h233 b233 "com/example/discharge/discharge/frontend/Syntax$Type" "pointer" "Z" (.int (0 : Int32)) := D233 (Or.inr (hw _ (tk 25 rfl))) (ty := .boolean) (by decide)
            obtain ⟨_, _, ⟨T234, L234, k234, n234⟩, -, X234, ⟨Lc234, hQ234, l234, y234, z234⟩, st234⟩ := X233.specialBack hx (y := Y2) rfl hown (mvT hZ (hw _ (tk 11 rfl))) (mvT hZ (hw _ (tk 12 rfl))) (mvT hZ (hw _ (tk 13 rfl))) (by decide) (backOf (W := 1) (rm2x1 l Z a0 hw [] w_1 w_2 w_3 w_4 w_5 w_6 w_7 w_8 w_9 w_10 w_11 w_12 w_13 hS0 b233 w_5 (1 : Int32) h233 n0 O233 g_b233 A233 F_integer_b233 F_pointer_b233) hZ (hw _ (tk 13 rfl)) (hw _ (tk 10 rfl)) (by decide) (by decide)) (g := (mkF m 33 #[.val (.int p0), .val (.int p1), .val (.int ((p0 &&& (2147483647 : Int32)) % (13 : Int32))), .val (.int (1 : Int32)), .val (.ref w_5), .unset, .unset, .unset, .unset] [(.int (1 : Int32)), (.ref w_5), (.ref b233), (.ref b233)])) rfl (by rw [hml]; rfl) (Steps.refl _) (a := b233) (argsL := [(.ref w_5), (.int (1 : Int32))]) (rest := [(.ref b233)]) (lenOf pd_2 rfl) rfl (by show 2 * 0 + _ ≤ _; exact Nat.le_of_eq rfl) (hb hby at_33) (fun _ _ => ⟨rfl, e233, (by decide : 1 + 0 ≤ _), (by decide : 2 + 0 ≤ _)⟩)
            dsimp only [Pt.U, Pt.locs, Pt.cells, Pt.slots] at X234 l234 y234 z234 st234 hQ234
            subst l234 y234 z234
            obtain ⟨rv234, N234q, O234, K234c, Fe234_0, Fe234_1⟩ := hQ234
            subst rv234
            have N234 := Fr.app N232 N234q
            have c236 := (A233.keep K234c)
            obtain ⟨cq235, kq235, q235a, q235b, q235c⟩ := isOf hZ rfl c236
            obtain ⟨_, _, ⟨T235, L235, k235, n235⟩, -, X235, ⟨Lc235, hQ235, l235, y235, z235⟩, st235⟩ := X234.virtualBack hx (y := Y3) (z := Y3) hown (mvT hZ (hw _ (tk 26 rfl))) (mvT hZ (hw _ (tk 27 rfl))) (notFace_of_selects (args := #[]) (mvT hZ (hw _ (tk 29 rfl)))) (mvT hZ (hw _ (tk 29 rfl))) (mvT hZ (hw _ (tk 28 rfl))) (by decide) (backOf (W := 0) (rm5 l Z a0 hw [] w_1 w_2 w_3 w_4 w_5 w_6 w_7 w_8 w_9 w_10 w_11 w_12 w_13 hS0 b233 (.ref w_5) (nar .boolean (1 : Int32)) T234.heap n0 O234 Fe234_0 rfl Fe234_1) hZ (hw _ (tk 30 rfl)) (hw _ (tk 10 rfl)) (by decide) (by decide)) q235a q235c (g := (mkF m 65 #[.val (.int p0), .val (.int p1), .val (.int ((p0 &&& (2147483647 : Int32)) % (13 : Int32))), .val (.int (1 : Int32)), .val (.ref w_5), .val (.ref b233), .val (.int (0 : Int32)), .unset, .unset] [(.ref b233)])) rfl (by rw [hml]; rfl) (Steps.refl _) (argsL := []) (rest := []) (lenOf pd_3 rfl) rfl (by show 2 * 0 + _ ≤ _; exact Nat.le_of_eq rfl) (hb hby at_65) (fun _ _ => ⟨rfl, rfl, (by decide : 1 + 0 ≤ _), (by decide : 2 + 0 ≤ _)⟩)
            dsimp only [Pt.U, Pt.locs, Pt.cells, Pt.slots] at X235 l235 y235 z235 st235 hQ235
            subst l235 y235 z235
            obtain ⟨rv235, N235q, e235⟩ := hQ235
            rw [show sp5 (.ref w_5) (nar .boolean (1 : Int32)) = (0 : Int32) from by unfold sp5; rw [if_neg (nofun : ¬ ((.ref w_5) : Value) = .null)]] at rv235
            subst rv235
            have N235 := Fr.app N234 N235q
            obtain ⟨T237, X237, e237, st237⟩ := getS2 X235 hx hZ hown (host := "") (Or.inl (hw _ (tk 31 rfl))) Via.refl e235 (S_2.ext O234.2) (g := (mkF m 72 #[.val (.int p0), .val (.int p1), .val (.int ((p0 &&& (2147483647 : Int32)) % (13 : Int32))), .val (.int (1 : Int32)), .val (.ref w_5), .val (.ref b233), .val (.int (0 : Int32)), .val (.int (0 : Int32)), .unset] [(.ref b233)])) rfl (hb hby at_72)
            obtain ⟨cq238, kq238, q238a, q238b, q238c⟩ := isOf hZ e237 c236
            obtain ⟨_, _, ⟨T238, L238, k238, n238⟩, -, X238, ⟨Lc238, hQ238, l238, y238, z238⟩, st238⟩ := X237.virtualBack hx (y := Y4) (z := Y4) hown (mvT hZ (hw _ (tk 33 rfl))) (mvT hZ (hw _ (tk 34 rfl))) (notFace_of_selects (args := #[]) (mvT hZ (hw _ (tk 36 rfl)))) (mvT hZ (hw _ (tk 36 rfl))) (mvT hZ (hw _ (tk 35 rfl))) (by decide) (backOf (W := 0) (rm6c1 l Z a0 hw [] w_1 w_2 w_3 w_4 w_5 w_6 w_7 w_8 w_9 w_10 w_11 w_12 w_13 hS0 b233 w_2 .null (.ref w_5) (0 : Int32) (nar .boolean (1 : Int32)) T234.heap n0 O234 (E_2.ext O234.2) (F_2_integer.ext O234.2) rfl Fe234_0 rfl (F_2_pointer.ext O234.2) Fe234_1) hZ (hw _ (tk 37 rfl)) (hw _ (tk 10 rfl)) (by decide) (by decide)) q238a q238c (g := (mkF m 75 #[.val (.int p0), .val (.int p1), .val (.int ((p0 &&& (2147483647 : Int32)) % (13 : Int32))), .val (.int (1 : Int32)), .val (.ref w_5), .val (.ref b233), .val (.int (0 : Int32)), .val (.int (0 : Int32)), .unset] [(.ref w_2), (.ref b233)])) rfl (by rw [hml]; rfl) (Steps.refl _) (argsL := [(.ref w_2)]) (rest := []) (lenOf pd_4 rfl) rfl (by show 2 * 0 + _ ≤ _; exact Nat.le_of_eq rfl) (hb hby at_75) (fun _ _ => ⟨rfl, e237, (by decide : 1 + 0 ≤ _), (by decide : 2 + 0 ≤ _)⟩)
            dsimp only [Pt.U, Pt.locs, Pt.cells, Pt.slots] at X238 l238 y238 z238 st238 hQ238
            subst l238 y238 z238
            obtain ⟨rv238, N238q, e238⟩ := hQ238
            rw [show sp6c1 .null (.ref w_5) (0 : Int32) (nar .boolean (1 : Int32)) = (0 : Int32) from by unfold sp6c1; rw [if_neg (nofun : ¬ (.null : Value) = (.ref w_5))]] at rv238
            subst rv238
            have N238 := Fr.app N235 N238q
            obtain ⟨fs, hr, hrun, hended, hW, hsame⟩ := X238.leave (v := some (.int (1 : Int32))) (fun h => by rw [Bd.returns] at h; cases h)
            refine ⟨_, _, pre206 _ ?_, hrun, hended, _, _, rfl, ?_, ⟨_, rfl⟩, hW, hsame.mono (by decide) (by decide)⟩
            · show Steps p.tables e below (s₁.setTop (mkF m 21 #[.val (.int p0), .val (.int p1), .val (.int ((p0 &&& (2147483647 : Int32)) % (13 : Int32))), .val (.int (1 : Int32)), .unset, .unset, .unset, .unset, .unset] [(.int ((p0 &&& (2147483647 : Int32)) % (13 : Int32)))])) _
              refine st232 _ ?_
              show Steps p.tables e below (T232.setTop (mkF m 24 #[.val (.int p0), .val (.int p1), .val (.int ((p0 &&& (2147483647 : Int32)) % (13 : Int32))), .val (.int (1 : Int32)), .unset, .unset, .unset, .unset, .unset] [(.ref w_5)])) _
              refine XS.astore X232.here hx rfl (hb hby at_24) rfl rfl (l' := #[.val (.int p0), .val (.int p1), .val (.int ((p0 &&& (2147483647 : Int32)) % (13 : Int32))), .val (.int (1 : Int32)), .val (.ref w_5), .unset, .unset, .unset, .unset]) rfl ?_
              show Steps p.tables e below (T232.setTop (mkF m 26 #[.val (.int p0), .val (.int p1), .val (.int ((p0 &&& (2147483647 : Int32)) % (13 : Int32))), .val (.int (1 : Int32)), .val (.ref w_5), .unset, .unset, .unset, .unset] [])) _
              refine st233 _ ?_
              show Steps p.tables e below (T233.setTop (mkF m 29 #[.val (.int p0), .val (.int p1), .val (.int ((p0 &&& (2147483647 : Int32)) % (13 : Int32))), .val (.int (1 : Int32)), .val (.ref w_5), .unset, .unset, .unset, .unset] [(.ref b233)])) _
              refine XS.dup X233.here hx rfl (hb hby at_29) rfl rfl ?_
              show Steps p.tables e below (T233.setTop (mkF m 30 #[.val (.int p0), .val (.int p1), .val (.int ((p0 &&& (2147483647 : Int32)) % (13 : Int32))), .val (.int (1 : Int32)), .val (.ref w_5), .unset, .unset, .unset, .unset] [(.ref b233), (.ref b233)])) _
              refine XS.aload X233.here hx rfl (hb hby at_30) rfl rfl ?_
              show Steps p.tables e below (T233.setTop (mkF m 32 #[.val (.int p0), .val (.int p1), .val (.int ((p0 &&& (2147483647 : Int32)) % (13 : Int32))), .val (.int (1 : Int32)), .val (.ref w_5), .unset, .unset, .unset, .unset] [(.ref w_5), (.ref b233), (.ref b233)])) _
              refine XS.iloadN X233.here hx rfl (hb hby at_32) rfl ?_
              show Steps p.tables e below (T233.setTop (mkF m 33 #[.val (.int p0), .val (.int p1), .val (.int ((p0 &&& (2147483647 : Int32)) % (13 : Int32))), .val (.int (1 : Int32)), .val (.ref w_5), .unset, .unset, .unset, .unset] [(.int (1 : Int32)), (.ref w_5), (.ref b233), (.ref b233)])) _
              refine st234.trans ?_
              show Steps p.tables e below (T234.setTop (mkF m 36 #[.val (.int p0), .val (.int p1), .val (.int ((p0 &&& (2147483647 : Int32)) % (13 : Int32))), .val (.int (1 : Int32)), .val (.ref w_5), .unset, .unset, .unset, .unset] [(.ref b233)])) _
              refine XS.astore X234.here hx rfl (hb hby at_36) rfl rfl (l' := #[.val (.int p0), .val (.int p1), .val (.int ((p0 &&& (2147483647 : Int32)) % (13 : Int32))), .val (.int (1 : Int32)), .val (.ref w_5), .val (.ref b233), .unset, .unset, .unset]) rfl ?_
              show Steps p.tables e below (T234.setTop (mkF m 38 #[.val (.int p0), .val (.int p1), .val (.int ((p0 &&& (2147483647 : Int32)) % (13 : Int32))), .val (.int (1 : Int32)), .val (.ref w_5), .val (.ref b233), .unset, .unset, .unset] [])) _
              refine XS.iloadN X234.here hx rfl (hb hby at_38) rfl ?_
              show Steps p.tables e below (T234.setTop (mkF m 39 #[.val (.int p0), .val (.int p1), .val (.int ((p0 &&& (2147483647 : Int32)) % (13 : Int32))), .val (.int (1 : Int32)), .val (.ref w_5), .val (.ref b233), .unset, .unset, .unset] [(.int (1 : Int32))])) _
              refine XS.ifNo X234.here hx rfl (hb hby at_39) rfl ((if0 _ _).trans (feq (by decide : ¬ ((1 : Int32) = (0 : Int32)))).1) ?_
              show Steps p.tables e below (T234.setTop (mkF m 42 #[.val (.int p0), .val (.int p1), .val (.int ((p0 &&& (2147483647 : Int32)) % (13 : Int32))), .val (.int (1 : Int32)), .val (.ref w_5), .val (.ref b233), .unset, .unset, .unset] [])) _
              refine XS.iconst X234.here hx rfl (hb hby at_42) ?_
              show Steps p.tables e below (T234.setTop (mkF m 43 #[.val (.int p0), .val (.int p1), .val (.int ((p0 &&& (2147483647 : Int32)) % (13 : Int32))), .val (.int (1 : Int32)), .val (.ref w_5), .val (.ref b233), .unset, .unset, .unset] [(.int (0 : Int32))])) _
              refine XS.istore X234.here hx rfl (hb hby at_43) rfl (l' := #[.val (.int p0), .val (.int p1), .val (.int ((p0 &&& (2147483647 : Int32)) % (13 : Int32))), .val (.int (1 : Int32)), .val (.ref w_5), .val (.ref b233), .val (.int (0 : Int32)), .unset, .unset]) rfl ?_
              show Steps p.tables e below (T234.setTop (mkF m 45 #[.val (.int p0), .val (.int p1), .val (.int ((p0 &&& (2147483647 : Int32)) % (13 : Int32))), .val (.int (1 : Int32)), .val (.ref w_5), .val (.ref b233), .val (.int (0 : Int32)), .unset, .unset] [])) _
              refine XS.goto X234.here hx rfl (pc0 := 45) (pc' := 63) rfl (hb hby at_45) (by decide) (by decide) ?_
              show Steps p.tables e below (T234.setTop (mkF m 63 #[.val (.int p0), .val (.int p1), .val (.int ((p0 &&& (2147483647 : Int32)) % (13 : Int32))), .val (.int (1 : Int32)), .val (.ref w_5), .val (.ref b233), .val (.int (0 : Int32)), .unset, .unset] [])) _
              refine XS.aload X234.here hx rfl (hb hby at_63) rfl rfl ?_
              show Steps p.tables e below (T234.setTop (mkF m 65 #[.val (.int p0), .val (.int p1), .val (.int ((p0 &&& (2147483647 : Int32)) % (13 : Int32))), .val (.int (1 : Int32)), .val (.ref w_5), .val (.ref b233), .val (.int (0 : Int32)), .unset, .unset] [(.ref b233)])) _
              refine st235.trans ?_
              show Steps p.tables e below (T235.setTop (mkF m 68 #[.val (.int p0), .val (.int p1), .val (.int ((p0 &&& (2147483647 : Int32)) % (13 : Int32))), .val (.int (1 : Int32)), .val (.ref w_5), .val (.ref b233), .val (.int (0 : Int32)), .unset, .unset] [(.int (0 : Int32))])) _
              refine XS.istore X235.here hx rfl (hb hby at_68) rfl (l' := #[.val (.int p0), .val (.int p1), .val (.int ((p0 &&& (2147483647 : Int32)) % (13 : Int32))), .val (.int (1 : Int32)), .val (.ref w_5), .val (.ref b233), .val (.int (0 : Int32)), .val (.int (0 : Int32)), .unset]) rfl ?_
              show Steps p.tables e below (T235.setTop (mkF m 70 #[.val (.int p0), .val (.int p1), .val (.int ((p0 &&& (2147483647 : Int32)) % (13 : Int32))), .val (.int (1 : Int32)), .val (.ref w_5), .val (.ref b233), .val (.int (0 : Int32)), .val (.int (0 : Int32)), .unset] [])) _
              refine XS.aload X235.here hx rfl (hb hby at_70) rfl rfl ?_
              show Steps p.tables e below (T235.setTop (mkF m 72 #[.val (.int p0), .val (.int p1), .val (.int ((p0 &&& (2147483647 : Int32)) % (13 : Int32))), .val (.int (1 : Int32)), .val (.ref w_5), .val (.ref b233), .val (.int (0 : Int32)), .val (.int (0 : Int32)), .unset] [(.ref b233)])) _
              refine st237 _ ?_
              show Steps p.tables e below (T237.setTop (mkF m 75 #[.val (.int p0), .val (.int p1), .val (.int ((p0 &&& (2147483647 : Int32)) % (13 : Int32))), .val (.int (1 : Int32)), .val (.ref w_5), .val (.ref b233), .val (.int (0 : Int32)), .val (.int (0 : Int32)), .unset] [(.ref w_2), (.ref b233)])) _
              refine st238.trans ?_
              show Steps p.tables e below (T238.setTop (mkF m 78 #[.val (.int p0), .val (.int p1), .val (.int ((p0 &&& (2147483647 : Int32)) % (13 : Int32))), .val (.int (1 : Int32)), .val (.ref w_5), .val (.ref b233), .val (.int (0 : Int32)), .val (.int (0 : Int32)), .unset] [(.int (0 : Int32))])) _
              refine XS.istore X238.here hx rfl (hb hby at_78) rfl (l' := #[.val (.int p0), .val (.int p1), .val (.int ((p0 &&& (2147483647 : Int32)) % (13 : Int32))), .val (.int (1 : Int32)), .val (.ref w_5), .val (.ref b233), .val (.int (0 : Int32)), .val (.int (0 : Int32)), .val (.int (0 : Int32))]) rfl ?_
              show Steps p.tables e below (T238.setTop (mkF m 80 #[.val (.int p0), .val (.int p1), .val (.int ((p0 &&& (2147483647 : Int32)) % (13 : Int32))), .val (.int (1 : Int32)), .val (.ref w_5), .val (.ref b233), .val (.int (0 : Int32)), .val (.int (0 : Int32)), .val (.int (0 : Int32))] [])) _
              refine XS.iload X238.here hx rfl (hb hby at_80) rfl ?_
              show Steps p.tables e below (T238.setTop (mkF m 82 #[.val (.int p0), .val (.int p1), .val (.int ((p0 &&& (2147483647 : Int32)) % (13 : Int32))), .val (.int (1 : Int32)), .val (.ref w_5), .val (.ref b233), .val (.int (0 : Int32)), .val (.int (0 : Int32)), .val (.int (0 : Int32))] [(.int (0 : Int32))])) _
              refine XS.iload X238.here hx rfl (hb hby at_82) rfl ?_
              show Steps p.tables e below (T238.setTop (mkF m 84 #[.val (.int p0), .val (.int p1), .val (.int ((p0 &&& (2147483647 : Int32)) % (13 : Int32))), .val (.int (1 : Int32)), .val (.ref w_5), .val (.ref b233), .val (.int (0 : Int32)), .val (.int (0 : Int32)), .val (.int (0 : Int32))] [(.int (0 : Int32)), (.int (0 : Int32))])) _
              refine XS.icmpNo X238.here hx rfl (hb hby at_84) rfl (teq (by decide : ((0 : Int32) = (0 : Int32)))).2 ?_
              show Steps p.tables e below (T238.setTop (mkF m 87 #[.val (.int p0), .val (.int p1), .val (.int ((p0 &&& (2147483647 : Int32)) % (13 : Int32))), .val (.int (1 : Int32)), .val (.ref w_5), .val (.ref b233), .val (.int (0 : Int32)), .val (.int (0 : Int32)), .val (.int (0 : Int32))] [])) _
              refine XS.iload X238.here hx rfl (hb hby at_87) rfl ?_
              show Steps p.tables e below (T238.setTop (mkF m 89 #[.val (.int p0), .val (.int p1), .val (.int ((p0 &&& (2147483647 : Int32)) % (13 : Int32))), .val (.int (1 : Int32)), .val (.ref w_5), .val (.ref b233), .val (.int (0 : Int32)), .val (.int (0 : Int32)), .val (.int (0 : Int32))] [(.int (0 : Int32))])) _
              refine XS.iload X238.here hx rfl (hb hby at_89) rfl ?_
              show Steps p.tables e below (T238.setTop (mkF m 91 #[.val (.int p0), .val (.int p1), .val (.int ((p0 &&& (2147483647 : Int32)) % (13 : Int32))), .val (.int (1 : Int32)), .val (.ref w_5), .val (.ref b233), .val (.int (0 : Int32)), .val (.int (0 : Int32)), .val (.int (0 : Int32))] [(.int (0 : Int32)), (.int (0 : Int32))])) _
              refine XS.icmpNo X238.here hx rfl (hb hby at_91) rfl (teq (by decide : ((0 : Int32) = (0 : Int32)))).2 ?_
              show Steps p.tables e below (T238.setTop (mkF m 94 #[.val (.int p0), .val (.int p1), .val (.int ((p0 &&& (2147483647 : Int32)) % (13 : Int32))), .val (.int (1 : Int32)), .val (.ref w_5), .val (.ref b233), .val (.int (0 : Int32)), .val (.int (0 : Int32)), .val (.int (0 : Int32))] [])) _
              refine XS.iconst X238.here hx rfl (hb hby at_94) ?_
              show Steps p.tables e below (T238.setTop (mkF m 95 #[.val (.int p0), .val (.int p1), .val (.int ((p0 &&& (2147483647 : Int32)) % (13 : Int32))), .val (.int (1 : Int32)), .val (.ref w_5), .val (.ref b233), .val (.int (0 : Int32)), .val (.int (0 : Int32)), .val (.int (0 : Int32))] [(.int (1 : Int32))])) _
              refine XS.goto X238.here hx rfl (pc0 := 95) (pc' := 99) rfl (hb hby at_95) (by decide) (by decide) ?_
              show Steps p.tables e below (T238.setTop (mkF m 99 #[.val (.int p0), .val (.int p1), .val (.int ((p0 &&& (2147483647 : Int32)) % (13 : Int32))), .val (.int (1 : Int32)), .val (.ref w_5), .val (.ref b233), .val (.int (0 : Int32)), .val (.int (0 : Int32)), .val (.int (0 : Int32))] [(.int (1 : Int32))])) _
              exact retN X238 hx (t := .boolean) Bd.returns (by simp) (hb hby at_99) hr
            · show Q0 Z w_1 w_2 w_3 w_4 w_5 w_6 w_7 w_8 w_9 w_10 w_11 w_12 w_13 p0 p1 h0 n0 _ T238.heap _
              rw [e238]
              exact ⟨by unfold sp0; rw [if_neg hc30, if_neg hc207, if_neg hc215, if_neg hc223, if_pos hc231], N238, trivial⟩
          · by_cases hc239 : ((p0 &&& (2147483647 : Int32)) % (13 : Int32)) = (4 : Int32)
            · obtain ⟨_, _, ⟨T240, L240, k240, n240⟩, -, X240, ⟨Lc240, hQ240, l240, y240, z240⟩, st240⟩ := Jvm.LawKit.callS X0 hx (y := Y0) hown (mvT hZ (hw _ (tk 1 rfl))) (mvT hZ (hw _ (tk 2 rfl))) (mvT hZ (hw _ (tk 3 rfl))) (mvT hZ (hw _ (tk 4 rfl))) (by decide) (backOf (W := 0) (rm1 l Z a0 hw [] w_1 w_2 w_3 w_4 w_5 w_6 w_7 w_8 w_9 w_10 w_11 w_12 w_13 hS0 ((p0 &&& (2147483647 : Int32)) % (13 : Int32)) h0 n0 O0) hZ (hw _ (tk 4 rfl)) (hw _ (tk 3 rfl)) (by decide) (by decide)) (g := (mkF m 21 #[.val (.int p0), .val (.int p1), .val (.int ((p0 &&& (2147483647 : Int32)) % (13 : Int32))), .val (.int (1 : Int32)), .unset, .unset, .unset, .unset, .unset] [(.int ((p0 &&& (2147483647 : Int32)) % (13 : Int32)))])) rfl (by rw [hml]; rfl) (argsL := [(.int ((p0 &&& (2147483647 : Int32)) % (13 : Int32)))]) (rest := []) (lenOf pd_0 rfl) rfl (by show 2 * 0 + _ ≤ _; exact Nat.le_of_eq rfl) (hb hby at_21) (fun _ _ => ⟨rfl, e0, (by decide : 0 + 0 ≤ _), (by decide : 0 + 0 ≤ _)⟩)
              dsimp only [Pt.U, Pt.locs, Pt.cells, Pt.slots] at X240 l240 y240 z240 st240 hQ240
              subst l240 y240 z240
              obtain ⟨rv240, N240q, e240⟩ := hQ240
              rw [show sp1 w_1 w_3 w_4 w_5 w_6 w_7 w_8 w_9 w_10 w_11 w_12 w_13 ((p0 &&& (2147483647 : Int32)) % (13 : Int32)) = (.ref w_4) from by unfold sp1; rw [if_neg hc207, if_neg hc215, if_neg hc223, if_neg hc231, if_pos hc239]] at rv240
              subst rv240
              have N240 := Fr.app N0 N240q
              obtain ⟨T241, h241, X241, e241, E241, A241, D241, -, st241⟩ := newO X240 hx hZ hown (hw _ (tk 8 rfl)) (hw _ (tk 9 rfl)) (hw _ (tk 10 rfl)) e240 (g := (mkF m 26 #[.val (.int p0), .val (.int p1), .val (.int ((p0 &&& (2147483647 : Int32)) % (13 : Int32))), .val (.int (1 : Int32)), .val (.ref w_4), .unset, .unset, .unset, .unset] [])) rfl (hb hby at_26) (by decide) (by decide)
              obtain ⟨b241, g241⟩ : ∃ z, z = h0.size := ⟨_, rfl⟩
              rw [← g241] at A241 D241 st241
              have g_b241 : n0 ≤ b241 := Nat.le_trans (own_old O0) (Nat.le_of_eq g241.symm)
              have O241 : Old Z n0 h241 := O0.ext E241
              have F_integer_b241 : Fld Z h241 b241 "com/example/discharge/discharge/frontend/Syntax$Type" "integer" "Lcom/example/discharge/discharge/frontend/IntegerType;" .null := D241 (Or.inr (hw _ (tk 23 rfl))) (ty := (.object "com/example/discharge/discharge/frontend/IntegerType")) (by decide)
              have F_pointer_b241 : Fld Z h241 b241 "com/example/discharge/discharge/frontend/Syntax$Type" "pointer" "Z" (.int (0 : Int32)) := D241 (Or.inr (hw _ (tk 25 rfl))) (ty := .boolean) (by decide)
              obtain ⟨_, _, ⟨T242, L242, k242, n242⟩, -, X242, ⟨Lc242, hQ242, l242, y242, z242⟩, st242⟩ := X241.specialBack hx (y := Y2) rfl hown (mvT hZ (hw _ (tk 11 rfl))) (mvT hZ (hw _ (tk 12 rfl))) (mvT hZ (hw _ (tk 13 rfl))) (by decide) (backOf (W := 1) (rm2x1 l Z a0 hw [] w_1 w_2 w_3 w_4 w_5 w_6 w_7 w_8 w_9 w_10 w_11 w_12 w_13 hS0 b241 w_4 (1 : Int32) h241 n0 O241 g_b241 A241 F_integer_b241 F_pointer_b241) hZ (hw _ (tk 13 rfl)) (hw _ (tk 10 rfl)) (by decide) (by decide)) (g := (mkF m 33 #[.val (.int p0), .val (.int p1), .val (.int ((p0 &&& (2147483647 : Int32)) % (13 : Int32))), .val (.int (1 : Int32)), .val (.ref w_4), .unset, .unset, .unset, .unset] [(.int (1 : Int32)), (.ref w_4), (.ref b241), (.ref b241)])) rfl (by rw [hml]; rfl) (Steps.refl _) (a := b241) (argsL := [(.ref w_4), (.int (1 : Int32))]) (rest := [(.ref b241)]) (lenOf pd_2 rfl) rfl (by show 2 * 0 + _ ≤ _; exact Nat.le_of_eq rfl) (hb hby at_33) (fun _ _ => ⟨rfl, e241, (by decide : 1 + 0 ≤ _), (by decide : 2 + 0 ≤ _)⟩)
              dsimp only [Pt.U, Pt.locs, Pt.cells, Pt.slots] at X242 l242 y242 z242 st242 hQ242
              subst l242 y242 z242
              obtain ⟨rv242, N242q, O242, K242c, Fe242_0, Fe242_1⟩ := hQ242
              subst rv242
              have N242 := Fr.app N240 N242q
              have c244 := (A241.keep K242c)
              obtain ⟨cq243, kq243, q243a, q243b, q243c⟩ := isOf hZ rfl c244
              obtain ⟨_, _, ⟨T243, L243, k243, n243⟩, -, X243, ⟨Lc243, hQ243, l243, y243, z243⟩, st243⟩ := X242.virtualBack hx (y := Y3) (z := Y3) hown (mvT hZ (hw _ (tk 26 rfl))) (mvT hZ (hw _ (tk 27 rfl))) (notFace_of_selects (args := #[]) (mvT hZ (hw _ (tk 29 rfl)))) (mvT hZ (hw _ (tk 29 rfl))) (mvT hZ (hw _ (tk 28 rfl))) (by decide) (backOf (W := 0) (rm5 l Z a0 hw [] w_1 w_2 w_3 w_4 w_5 w_6 w_7 w_8 w_9 w_10 w_11 w_12 w_13 hS0 b241 (.ref w_4) (nar .boolean (1 : Int32)) T242.heap n0 O242 Fe242_0 rfl Fe242_1) hZ (hw _ (tk 30 rfl)) (hw _ (tk 10 rfl)) (by decide) (by decide)) q243a q243c (g := (mkF m 65 #[.val (.int p0), .val (.int p1), .val (.int ((p0 &&& (2147483647 : Int32)) % (13 : Int32))), .val (.int (1 : Int32)), .val (.ref w_4), .val (.ref b241), .val (.int (0 : Int32)), .unset, .unset] [(.ref b241)])) rfl (by rw [hml]; rfl) (Steps.refl _) (argsL := []) (rest := []) (lenOf pd_3 rfl) rfl (by show 2 * 0 + _ ≤ _; exact Nat.le_of_eq rfl) (hb hby at_65) (fun _ _ => ⟨rfl, rfl, (by decide : 1 + 0 ≤ _), (by decide : 2 + 0 ≤ _)⟩)
              dsimp only [Pt.U, Pt.locs, Pt.cells, Pt.slots] at X243 l243 y243 z243 st243 hQ243
              subst l243 y243 z243
              obtain ⟨rv243, N243q, e243⟩ := hQ243
              rw [show sp5 (.ref w_4) (nar .boolean (1 : Int32)) = (0 : Int32) from by unfold sp5; rw [if_neg (nofun : ¬ ((.ref w_4) : Value) = .null)]] at rv243
              subst rv243
              have N243 := Fr.app N242 N243q
              obtain ⟨T245, X245, e245, st245⟩ := getS2 X243 hx hZ hown (host := "") (Or.inl (hw _ (tk 31 rfl))) Via.refl e243 (S_2.ext O242.2) (g := (mkF m 72 #[.val (.int p0), .val (.int p1), .val (.int ((p0 &&& (2147483647 : Int32)) % (13 : Int32))), .val (.int (1 : Int32)), .val (.ref w_4), .val (.ref b241), .val (.int (0 : Int32)), .val (.int (0 : Int32)), .unset] [(.ref b241)])) rfl (hb hby at_72)
              obtain ⟨cq246, kq246, q246a, q246b, q246c⟩ := isOf hZ e245 c244
              obtain ⟨_, _, ⟨T246, L246, k246, n246⟩, -, X246, ⟨Lc246, hQ246, l246, y246, z246⟩, st246⟩ := X245.virtualBack hx (y := Y4) (z := Y4) hown (mvT hZ (hw _ (tk 33 rfl))) (mvT hZ (hw _ (tk 34 rfl))) (notFace_of_selects (args := #[]) (mvT hZ (hw _ (tk 36 rfl)))) (mvT hZ (hw _ (tk 36 rfl))) (mvT hZ (hw _ (tk 35 rfl))) (by decide) (backOf (W := 0) (rm6c1 l Z a0 hw [] w_1 w_2 w_3 w_4 w_5 w_6 w_7 w_8 w_9 w_10 w_11 w_12 w_13 hS0 b241 w_2 .null (.ref w_4) (0 : Int32) (nar .boolean (1 : Int32)) T242.heap n0 O242 (E_2.ext O242.2) (F_2_integer.ext O242.2) rfl Fe242_0 rfl (F_2_pointer.ext O242.2) Fe242_1) hZ (hw _ (tk 37 rfl)) (hw _ (tk 10 rfl)) (by decide) (by decide)) q246a q246c (g := (mkF m 75 #[.val (.int p0), .val (.int p1), .val (.int ((p0 &&& (2147483647 : Int32)) % (13 : Int32))), .val (.int (1 : Int32)), .val (.ref w_4), .val (.ref b241), .val (.int (0 : Int32)), .val (.int (0 : Int32)), .unset] [(.ref w_2), (.ref b241)])) rfl (by rw [hml]; rfl) (Steps.refl _) (argsL := [(.ref w_2)]) (rest := []) (lenOf pd_4 rfl) rfl (by show 2 * 0 + _ ≤ _; exact Nat.le_of_eq rfl) (hb hby at_75) (fun _ _ => ⟨rfl, e245, (by decide : 1 + 0 ≤ _), (by decide : 2 + 0 ≤ _)⟩)
              dsimp only [Pt.U, Pt.locs, Pt.cells, Pt.slots] at X246 l246 y246 z246 st246 hQ246
              subst l246 y246 z246
              obtain ⟨rv246, N246q, e246⟩ := hQ246
              rw [show sp6c1 .null (.ref w_4) (0 : Int32) (nar .boolean (1 : Int32)) = (0 : Int32) from by unfold sp6c1; rw [if_neg (nofun : ¬ (.null : Value) = (.ref w_4))]] at rv246
              subst rv246
              have N246 := Fr.app N243 N246q
              obtain ⟨fs, hr, hrun, hended, hW, hsame⟩ := X246.leave (v := some (.int (1 : Int32))) (fun h => by rw [Bd.returns] at h; cases h)
              refine ⟨_, _, pre206 _ ?_, hrun, hended, _, _, rfl, ?_, ⟨_, rfl⟩, hW, hsame.mono (by decide) (by decide)⟩
              · show Steps p.tables e below (s₁.setTop (mkF m 21 #[.val (.int p0), .val (.int p1), .val (.int ((p0 &&& (2147483647 : Int32)) % (13 : Int32))), .val (.int (1 : Int32)), .unset, .unset, .unset, .unset, .unset] [(.int ((p0 &&& (2147483647 : Int32)) % (13 : Int32)))])) _
                refine st240 _ ?_
                show Steps p.tables e below (T240.setTop (mkF m 24 #[.val (.int p0), .val (.int p1), .val (.int ((p0 &&& (2147483647 : Int32)) % (13 : Int32))), .val (.int (1 : Int32)), .unset, .unset, .unset, .unset, .unset] [(.ref w_4)])) _
                refine XS.astore X240.here hx rfl (hb hby at_24) rfl rfl (l' := #[.val (.int p0), .val (.int p1), .val (.int ((p0 &&& (2147483647 : Int32)) % (13 : Int32))), .val (.int (1 : Int32)), .val (.ref w_4), .unset, .unset, .unset, .unset]) rfl ?_
                show Steps p.tables e below (T240.setTop (mkF m 26 #[.val (.int p0), .val (.int p1), .val (.int ((p0 &&& (2147483647 : Int32)) % (13 : Int32))), .val (.int (1 : Int32)), .val (.ref w_4), .unset, .unset, .unset, .unset] [])) _
                refine st241 _ ?_
                show Steps p.tables e below (T241.setTop (mkF m 29 #[.val (.int p0), .val (.int p1), .val (.int ((p0 &&& (2147483647 : Int32)) % (13 : Int32))), .val (.int (1 : Int32)), .val (.ref w_4), .unset, .unset, .unset, .unset] [(.ref b241)])) _
                refine XS.dup X241.here hx rfl (hb hby at_29) rfl rfl ?_
                show Steps p.tables e below (T241.setTop (mkF m 30 #[.val (.int p0), .val (.int p1), .val (.int ((p0 &&& (2147483647 : Int32)) % (13 : Int32))), .val (.int (1 : Int32)), .val (.ref w_4), .unset, .unset, .unset, .unset] [(.ref b241), (.ref b241)])) _
                refine XS.aload X241.here hx rfl (hb hby at_30) rfl rfl ?_
                show Steps p.tables e below (T241.setTop (mkF m 32 #[.val (.int p0), .val (.int p1), .val (.int ((p0 &&& (2147483647 : Int32)) % (13 : Int32))), .val (.int (1 : Int32)), .val (.ref w_4), .unset, .unset, .unset, .unset] [(.ref w_4), (.ref b241), (.ref b241)])) _
                refine XS.iloadN X241.here hx rfl (hb hby at_32) rfl ?_
                show Steps p.tables e below (T241.setTop (mkF m 33 #[.val (.int p0), .val (.int p1), .val (.int ((p0 &&& (2147483647 : Int32)) % (13 : Int32))), .val (.int (1 : Int32)), .val (.ref w_4), .unset, .unset, .unset, .unset] [(.int (1 : Int32)), (.ref w_4), (.ref b241), (.ref b241)])) _
                refine st242.trans ?_
                show Steps p.tables e below (T242.setTop (mkF m 36 #[.val (.int p0), .val (.int p1), .val (.int ((p0 &&& (2147483647 : Int32)) % (13 : Int32))), .val (.int (1 : Int32)), .val (.ref w_4), .unset, .unset, .unset, .unset] [(.ref b241)])) _
                refine XS.astore X242.here hx rfl (hb hby at_36) rfl rfl (l' := #[.val (.int p0), .val (.int p1), .val (.int ((p0 &&& (2147483647 : Int32)) % (13 : Int32))), .val (.int (1 : Int32)), .val (.ref w_4), .val (.ref b241), .unset, .unset, .unset]) rfl ?_
                show Steps p.tables e below (T242.setTop (mkF m 38 #[.val (.int p0), .val (.int p1), .val (.int ((p0 &&& (2147483647 : Int32)) % (13 : Int32))), .val (.int (1 : Int32)), .val (.ref w_4), .val (.ref b241), .unset, .unset, .unset] [])) _
                refine XS.iloadN X242.here hx rfl (hb hby at_38) rfl ?_
                show Steps p.tables e below (T242.setTop (mkF m 39 #[.val (.int p0), .val (.int p1), .val (.int ((p0 &&& (2147483647 : Int32)) % (13 : Int32))), .val (.int (1 : Int32)), .val (.ref w_4), .val (.ref b241), .unset, .unset, .unset] [(.int (1 : Int32))])) _
                refine XS.ifNo X242.here hx rfl (hb hby at_39) rfl ((if0 _ _).trans (feq (by decide : ¬ ((1 : Int32) = (0 : Int32)))).1) ?_
                show Steps p.tables e below (T242.setTop (mkF m 42 #[.val (.int p0), .val (.int p1), .val (.int ((p0 &&& (2147483647 : Int32)) % (13 : Int32))), .val (.int (1 : Int32)), .val (.ref w_4), .val (.ref b241), .unset, .unset, .unset] [])) _
                refine XS.iconst X242.here hx rfl (hb hby at_42) ?_
                show Steps p.tables e below (T242.setTop (mkF m 43 #[.val (.int p0), .val (.int p1), .val (.int ((p0 &&& (2147483647 : Int32)) % (13 : Int32))), .val (.int (1 : Int32)), .val (.ref w_4), .val (.ref b241), .unset, .unset, .unset] [(.int (0 : Int32))])) _
                refine XS.istore X242.here hx rfl (hb hby at_43) rfl (l' := #[.val (.int p0), .val (.int p1), .val (.int ((p0 &&& (2147483647 : Int32)) % (13 : Int32))), .val (.int (1 : Int32)), .val (.ref w_4), .val (.ref b241), .val (.int (0 : Int32)), .unset, .unset]) rfl ?_
                show Steps p.tables e below (T242.setTop (mkF m 45 #[.val (.int p0), .val (.int p1), .val (.int ((p0 &&& (2147483647 : Int32)) % (13 : Int32))), .val (.int (1 : Int32)), .val (.ref w_4), .val (.ref b241), .val (.int (0 : Int32)), .unset, .unset] [])) _
                refine XS.goto X242.here hx rfl (pc0 := 45) (pc' := 63) rfl (hb hby at_45) (by decide) (by decide) ?_
                show Steps p.tables e below (T242.setTop (mkF m 63 #[.val (.int p0), .val (.int p1), .val (.int ((p0 &&& (2147483647 : Int32)) % (13 : Int32))), .val (.int (1 : Int32)), .val (.ref w_4), .val (.ref b241), .val (.int (0 : Int32)), .unset, .unset] [])) _
                refine XS.aload X242.here hx rfl (hb hby at_63) rfl rfl ?_
                show Steps p.tables e below (T242.setTop (mkF m 65 #[.val (.int p0), .val (.int p1), .val (.int ((p0 &&& (2147483647 : Int32)) % (13 : Int32))), .val (.int (1 : Int32)), .val (.ref w_4), .val (.ref b241), .val (.int (0 : Int32)), .unset, .unset] [(.ref b241)])) _
                refine st243.trans ?_
                show Steps p.tables e below (T243.setTop (mkF m 68 #[.val (.int p0), .val (.int p1), .val (.int ((p0 &&& (2147483647 : Int32)) % (13 : Int32))), .val (.int (1 : Int32)), .val (.ref w_4), .val (.ref b241), .val (.int (0 : Int32)), .unset, .unset] [(.int (0 : Int32))])) _
                refine XS.istore X243.here hx rfl (hb hby at_68) rfl (l' := #[.val (.int p0), .val (.int p1), .val (.int ((p0 &&& (2147483647 : Int32)) % (13 : Int32))), .val (.int (1 : Int32)), .val (.ref w_4), .val (.ref b241), .val (.int (0 : Int32)), .val (.int (0 : Int32)), .unset]) rfl ?_
                show Steps p.tables e below (T243.setTop (mkF m 70 #[.val (.int p0), .val (.int p1), .val (.int ((p0 &&& (2147483647 : Int32)) % (13 : Int32))), .val (.int (1 : Int32)), .val (.ref w_4), .val (.ref b241), .val (.int (0 : Int32)), .val (.int (0 : Int32)), .unset] [])) _
                refine XS.aload X243.here hx rfl (hb hby at_70) rfl rfl ?_
                show Steps p.tables e below (T243.setTop (mkF m 72 #[.val (.int p0), .val (.int p1), .val (.int ((p0 &&& (2147483647 : Int32)) % (13 : Int32))), .val (.int (1 : Int32)), .val (.ref w_4), .val (.ref b241), .val (.int (0 : Int32)), .val (.int (0 : Int32)), .unset] [(.ref b241)])) _
                refine st245 _ ?_
                show Steps p.tables e below (T245.setTop (mkF m 75 #[.val (.int p0), .val (.int p1), .val (.int ((p0 &&& (2147483647 : Int32)) % (13 : Int32))), .val (.int (1 : Int32)), .val (.ref w_4), .val (.ref b241), .val (.int (0 : Int32)), .val (.int (0 : Int32)), .unset] [(.ref w_2), (.ref b241)])) _
                refine st246.trans ?_
                show Steps p.tables e below (T246.setTop (mkF m 78 #[.val (.int p0), .val (.int p1), .val (.int ((p0 &&& (2147483647 : Int32)) % (13 : Int32))), .val (.int (1 : Int32)), .val (.ref w_4), .val (.ref b241), .val (.int (0 : Int32)), .val (.int (0 : Int32)), .unset] [(.int (0 : Int32))])) _
                refine XS.istore X246.here hx rfl (hb hby at_78) rfl (l' := #[.val (.int p0), .val (.int p1), .val (.int ((p0 &&& (2147483647 : Int32)) % (13 : Int32))), .val (.int (1 : Int32)), .val (.ref w_4), .val (.ref b241), .val (.int (0 : Int32)), .val (.int (0 : Int32)), .val (.int (0 : Int32))]) rfl ?_
                show Steps p.tables e below (T246.setTop (mkF m 80 #[.val (.int p0), .val (.int p1), .val (.int ((p0 &&& (2147483647 : Int32)) % (13 : Int32))), .val (.int (1 : Int32)), .val (.ref w_4), .val (.ref b241), .val (.int (0 : Int32)), .val (.int (0 : Int32)), .val (.int (0 : Int32))] [])) _
                refine XS.iload X246.here hx rfl (hb hby at_80) rfl ?_
                show Steps p.tables e below (T246.setTop (mkF m 82 #[.val (.int p0), .val (.int p1), .val (.int ((p0 &&& (2147483647 : Int32)) % (13 : Int32))), .val (.int (1 : Int32)), .val (.ref w_4), .val (.ref b241), .val (.int (0 : Int32)), .val (.int (0 : Int32)), .val (.int (0 : Int32))] [(.int (0 : Int32))])) _
                refine XS.iload X246.here hx rfl (hb hby at_82) rfl ?_
                show Steps p.tables e below (T246.setTop (mkF m 84 #[.val (.int p0), .val (.int p1), .val (.int ((p0 &&& (2147483647 : Int32)) % (13 : Int32))), .val (.int (1 : Int32)), .val (.ref w_4), .val (.ref b241), .val (.int (0 : Int32)), .val (.int (0 : Int32)), .val (.int (0 : Int32))] [(.int (0 : Int32)), (.int (0 : Int32))])) _
                refine XS.icmpNo X246.here hx rfl (hb hby at_84) rfl (teq (by decide : ((0 : Int32) = (0 : Int32)))).2 ?_
                show Steps p.tables e below (T246.setTop (mkF m 87 #[.val (.int p0), .val (.int p1), .val (.int ((p0 &&& (2147483647 : Int32)) % (13 : Int32))), .val (.int (1 : Int32)), .val (.ref w_4), .val (.ref b241), .val (.int (0 : Int32)), .val (.int (0 : Int32)), .val (.int (0 : Int32))] [])) _
                refine XS.iload X246.here hx rfl (hb hby at_87) rfl ?_
                show Steps p.tables e below (T246.setTop (mkF m 89 #[.val (.int p0), .val (.int p1), .val (.int ((p0 &&& (2147483647 : Int32)) % (13 : Int32))), .val (.int (1 : Int32)), .val (.ref w_4), .val (.ref b241), .val (.int (0 : Int32)), .val (.int (0 : Int32)), .val (.int (0 : Int32))] [(.int (0 : Int32))])) _
                refine XS.iload X246.here hx rfl (hb hby at_89) rfl ?_
                show Steps p.tables e below (T246.setTop (mkF m 91 #[.val (.int p0), .val (.int p1), .val (.int ((p0 &&& (2147483647 : Int32)) % (13 : Int32))), .val (.int (1 : Int32)), .val (.ref w_4), .val (.ref b241), .val (.int (0 : Int32)), .val (.int (0 : Int32)), .val (.int (0 : Int32))] [(.int (0 : Int32)), (.int (0 : Int32))])) _
                refine XS.icmpNo X246.here hx rfl (hb hby at_91) rfl (teq (by decide : ((0 : Int32) = (0 : Int32)))).2 ?_
                show Steps p.tables e below (T246.setTop (mkF m 94 #[.val (.int p0), .val (.int p1), .val (.int ((p0 &&& (2147483647 : Int32)) % (13 : Int32))), .val (.int (1 : Int32)), .val (.ref w_4), .val (.ref b241), .val (.int (0 : Int32)), .val (.int (0 : Int32)), .val (.int (0 : Int32))] [])) _
                refine XS.iconst X246.here hx rfl (hb hby at_94) ?_
                show Steps p.tables e below (T246.setTop (mkF m 95 #[.val (.int p0), .val (.int p1), .val (.int ((p0 &&& (2147483647 : Int32)) % (13 : Int32))), .val (.int (1 : Int32)), .val (.ref w_4), .val (.ref b241), .val (.int (0 : Int32)), .val (.int (0 : Int32)), .val (.int (0 : Int32))] [(.int (1 : Int32))])) _
                refine XS.goto X246.here hx rfl (pc0 := 95) (pc' := 99) rfl (hb hby at_95) (by decide) (by decide) ?_
                show Steps p.tables e below (T246.setTop (mkF m 99 #[.val (.int p0), .val (.int p1), .val (.int ((p0 &&& (2147483647 : Int32)) % (13 : Int32))), .val (.int (1 : Int32)), .val (.ref w_4), .val (.ref b241), .val (.int (0 : Int32)), .val (.int (0 : Int32)), .val (.int (0 : Int32))] [(.int (1 : Int32))])) _
                exact retN X246 hx (t := .boolean) Bd.returns (by simp) (hb hby at_99) hr
              · show Q0 Z w_1 w_2 w_3 w_4 w_5 w_6 w_7 w_8 w_9 w_10 w_11 w_12 w_13 p0 p1 h0 n0 _ T246.heap _
                rw [e246]
                exact ⟨by unfold sp0; rw [if_neg hc30, if_neg hc207, if_neg hc215, if_neg hc223, if_neg hc231, if_pos hc239], N246, trivial⟩
            · by_cases hc247 : ((p0 &&& (2147483647 : Int32)) % (13 : Int32)) = (5 : Int32)
              · obtain ⟨_, _, ⟨T248, L248, k248, n248⟩, -, X248, ⟨Lc248, hQ248, l248, y248, z248⟩, st248⟩ := Jvm.LawKit.callS X0 hx (y := Y0) hown (mvT hZ (hw _ (tk 1 rfl))) (mvT hZ (hw _ (tk 2 rfl))) (mvT hZ (hw _ (tk 3 rfl))) (mvT hZ (hw _ (tk 4 rfl))) (by decide) (backOf (W := 0) (rm1 l Z a0 hw [] w_1 w_2 w_3 w_4 w_5 w_6 w_7 w_8 w_9 w_10 w_11 w_12 w_13 hS0 ((p0 &&& (2147483647 : Int32)) % (13 : Int32)) h0 n0 O0) hZ (hw _ (tk 4 rfl)) (hw _ (tk 3 rfl)) (by decide) (by decide)) (g := (mkF m 21 #[.val (.int p0), .val (.int p1), .val (.int ((p0 &&& (2147483647 : Int32)) % (13 : Int32))), .val (.int (1 : Int32)), .unset, .unset, .unset, .unset, .unset] [(.int ((p0 &&& (2147483647 : Int32)) % (13 : Int32)))])) rfl (by rw [hml]; rfl) (argsL := [(.int ((p0 &&& (2147483647 : Int32)) % (13 : Int32)))]) (rest := []) (lenOf pd_0 rfl) rfl (by show 2 * 0 + _ ≤ _; exact Nat.le_of_eq rfl) (hb hby at_21) (fun _ _ => ⟨rfl, e0, (by decide : 0 + 0 ≤ _), (by decide : 0 + 0 ≤ _)⟩)
                dsimp only [Pt.U, Pt.locs, Pt.cells, Pt.slots] at X248 l248 y248 z248 st248 hQ248
                subst l248 y248 z248
                obtain ⟨rv248, N248q, e248⟩ := hQ248
                rw [show sp1 w_1 w_3 w_4 w_5 w_6 w_7 w_8 w_9 w_10 w_11 w_12 w_13 ((p0 &&& (2147483647 : Int32)) % (13 : Int32)) = (.ref w_7) from by unfold sp1; rw [if_neg hc207, if_neg hc215, if_neg hc223, if_neg hc231, if_neg hc239, if_pos hc247]] at rv248
                subst rv248
                have N248 := Fr.app N0 N248q
                obtain ⟨T249, h249, X249, e249, E249, A249, D249, -, st249⟩ := newO X248 hx hZ hown (hw _ (tk 8 rfl)) (hw _ (tk 9 rfl)) (hw _ (tk 10 rfl)) e248 (g := (mkF m 26 #[.val (.int p0), .val (.int p1), .val (.int ((p0 &&& (2147483647 : Int32)) % (13 : Int32))), .val (.int (1 : Int32)), .val (.ref w_7), .unset, .unset, .unset, .unset] [])) rfl (hb hby at_26) (by decide) (by decide)
                obtain ⟨b249, g249⟩ : ∃ z, z = h0.size := ⟨_, rfl⟩
                rw [← g249] at A249 D249 st249
                have g_b249 : n0 ≤ b249 := Nat.le_trans (own_old O0) (Nat.le_of_eq g249.symm)
                have O249 : Old Z n0 h249 := O0.ext E249
                have F_integer_b249 : Fld Z h249 b249 "com/example/discharge/discharge/frontend/Syntax$Type" "integer" "Lcom/example/discharge/discharge/frontend/IntegerType;" .null := D249 (Or.inr (hw _ (tk 23 rfl))) (ty := (.object "com/example/discharge/discharge/frontend/IntegerType")) (by decide)
                have F_pointer_b249 : Fld Z h249 b249 "com/example/discharge/discharge/frontend/Syntax$Type" "pointer" "Z" (.int (0 : Int32)) := D249 (Or.inr (hw _ (tk 25 rfl))) (ty := .boolean) (by decide)
                obtain ⟨_, _, ⟨T250, L250, k250, n250⟩, -, X250, ⟨Lc250, hQ250, l250, y250, z250⟩, st250⟩ := X249.specialBack hx (y := Y2) rfl hown (mvT hZ (hw _ (tk 11 rfl))) (mvT hZ (hw _ (tk 12 rfl))) (mvT hZ (hw _ (tk 13 rfl))) (by decide) (backOf (W := 1) (rm2x1 l Z a0 hw [] w_1 w_2 w_3 w_4 w_5 w_6 w_7 w_8 w_9 w_10 w_11 w_12 w_13 hS0 b249 w_7 (1 : Int32) h249 n0 O249 g_b249 A249 F_integer_b249 F_pointer_b249) hZ (hw _ (tk 13 rfl)) (hw _ (tk 10 rfl)) (by decide) (by decide)) (g := (mkF m 33 #[.val (.int p0), .val (.int p1), .val (.int ((p0 &&& (2147483647 : Int32)) % (13 : Int32))), .val (.int (1 : Int32)), .val (.ref w_7), .unset, .unset, .unset, .unset] [(.int (1 : Int32)), (.ref w_7), (.ref b249), (.ref b249)])) rfl (by rw [hml]; rfl) (Steps.refl _) (a := b249) (argsL := [(.ref w_7), (.int (1 : Int32))]) (rest := [(.ref b249)]) (lenOf pd_2 rfl) rfl (by show 2 * 0 + _ ≤ _; exact Nat.le_of_eq rfl) (hb hby at_33) (fun _ _ => ⟨rfl, e249, (by decide : 1 + 0 ≤ _), (by decide : 2 + 0 ≤ _)⟩)
                dsimp only [Pt.U, Pt.locs, Pt.cells, Pt.slots] at X250 l250 y250 z250 st250 hQ250
                subst l250 y250 z250
                obtain ⟨rv250, N250q, O250, K250c, Fe250_0, Fe250_1⟩ := hQ250
                subst rv250
                have N250 := Fr.app N248 N250q
                have c252 := (A249.keep K250c)
                obtain ⟨cq251, kq251, q251a, q251b, q251c⟩ := isOf hZ rfl c252
                obtain ⟨_, _, ⟨T251, L251, k251, n251⟩, -, X251, ⟨Lc251, hQ251, l251, y251, z251⟩, st251⟩ := X250.virtualBack hx (y := Y3) (z := Y3) hown (mvT hZ (hw _ (tk 26 rfl))) (mvT hZ (hw _ (tk 27 rfl))) (notFace_of_selects (args := #[]) (mvT hZ (hw _ (tk 29 rfl)))) (mvT hZ (hw _ (tk 29 rfl))) (mvT hZ (hw _ (tk 28 rfl))) (by decide) (backOf (W := 0) (rm5 l Z a0 hw [] w_1 w_2 w_3 w_4 w_5 w_6 w_7 w_8 w_9 w_10 w_11 w_12 w_13 hS0 b249 (.ref w_7) (nar .boolean (1 : Int32)) T250.heap n0 O250 Fe250_0 rfl Fe250_1) hZ (hw _ (tk 30 rfl)) (hw _ (tk 10 rfl)) (by decide) (by decide)) q251a q251c (g := (mkF m 65 #[.val (.int p0), .val (.int p1), .val (.int ((p0 &&& (2147483647 : Int32)) % (13 : Int32))), .val (.int (1 : Int32)), .val (.ref w_7), .val (.ref b249), .val (.int (0 : Int32)), .unset, .unset] [(.ref b249)])) rfl (by rw [hml]; rfl) (Steps.refl _) (argsL := []) (rest := []) (lenOf pd_3 rfl) rfl (by show 2 * 0 + _ ≤ _; exact Nat.le_of_eq rfl) (hb hby at_65) (fun _ _ => ⟨rfl, rfl, (by decide : 1 + 0 ≤ _), (by decide : 2 + 0 ≤ _)⟩)
                dsimp only [Pt.U, Pt.locs, Pt.cells, Pt.slots] at X251 l251 y251 z251 st251 hQ251
                subst l251 y251 z251
                obtain ⟨rv251, N251q, e251⟩ := hQ251
                rw [show sp5 (.ref w_7) (nar .boolean (1 : Int32)) = (0 : Int32) from by unfold sp5; rw [if_neg (nofun : ¬ ((.ref w_7) : Value) = .null)]] at rv251
                subst rv251
                have N251 := Fr.app N250 N251q
                obtain ⟨T253, X253, e253, st253⟩ := getS2 X251 hx hZ hown (host := "") (Or.inl (hw _ (tk 31 rfl))) Via.refl e251 (S_2.ext O250.2) (g := (mkF m 72 #[.val (.int p0), .val (.int p1), .val (.int ((p0 &&& (2147483647 : Int32)) % (13 : Int32))), .val (.int (1 : Int32)), .val (.ref w_7), .val (.ref b249), .val (.int (0 : Int32)), .val (.int (0 : Int32)), .unset] [(.ref b249)])) rfl (hb hby at_72)
                obtain ⟨cq254, kq254, q254a, q254b, q254c⟩ := isOf hZ e253 c252
                obtain ⟨_, _, ⟨T254, L254, k254, n254⟩, -, X254, ⟨Lc254, hQ254, l254, y254, z254⟩, st254⟩ := X253.virtualBack hx (y := Y4) (z := Y4) hown (mvT hZ (hw _ (tk 33 rfl))) (mvT hZ (hw _ (tk 34 rfl))) (notFace_of_selects (args := #[]) (mvT hZ (hw _ (tk 36 rfl)))) (mvT hZ (hw _ (tk 36 rfl))) (mvT hZ (hw _ (tk 35 rfl))) (by decide) (backOf (W := 0) (rm6c1 l Z a0 hw [] w_1 w_2 w_3 w_4 w_5 w_6 w_7 w_8 w_9 w_10 w_11 w_12 w_13 hS0 b249 w_2 .null (.ref w_7) (0 : Int32) (nar .boolean (1 : Int32)) T250.heap n0 O250 (E_2.ext O250.2) (F_2_integer.ext O250.2) rfl Fe250_0 rfl (F_2_pointer.ext O250.2) Fe250_1) hZ (hw _ (tk 37 rfl)) (hw _ (tk 10 rfl)) (by decide) (by decide)) q254a q254c (g := (mkF m 75 #[.val (.int p0), .val (.int p1), .val (.int ((p0 &&& (2147483647 : Int32)) % (13 : Int32))), .val (.int (1 : Int32)), .val (.ref w_7), .val (.ref b249), .val (.int (0 : Int32)), .val (.int (0 : Int32)), .unset] [(.ref w_2), (.ref b249)])) rfl (by rw [hml]; rfl) (Steps.refl _) (argsL := [(.ref w_2)]) (rest := []) (lenOf pd_4 rfl) rfl (by show 2 * 0 + _ ≤ _; exact Nat.le_of_eq rfl) (hb hby at_75) (fun _ _ => ⟨rfl, e253, (by decide : 1 + 0 ≤ _), (by decide : 2 + 0 ≤ _)⟩)
                dsimp only [Pt.U, Pt.locs, Pt.cells, Pt.slots] at X254 l254 y254 z254 st254 hQ254
                subst l254 y254 z254
                obtain ⟨rv254, N254q, e254⟩ := hQ254
                rw [show sp6c1 .null (.ref w_7) (0 : Int32) (nar .boolean (1 : Int32)) = (0 : Int32) from by unfold sp6c1; rw [if_neg (nofun : ¬ (.null : Value) = (.ref w_7))]] at rv254
                subst rv254
                have N254 := Fr.app N251 N254q
                obtain ⟨fs, hr, hrun, hended, hW, hsame⟩ := X254.leave (v := some (.int (1 : Int32))) (fun h => by rw [Bd.returns] at h; cases h)
                refine ⟨_, _, pre206 _ ?_, hrun, hended, _, _, rfl, ?_, ⟨_, rfl⟩, hW, hsame.mono (by decide) (by decide)⟩
                · show Steps p.tables e below (s₁.setTop (mkF m 21 #[.val (.int p0), .val (.int p1), .val (.int ((p0 &&& (2147483647 : Int32)) % (13 : Int32))), .val (.int (1 : Int32)), .unset, .unset, .unset, .unset, .unset] [(.int ((p0 &&& (2147483647 : Int32)) % (13 : Int32)))])) _
                  refine st248 _ ?_
                  show Steps p.tables e below (T248.setTop (mkF m 24 #[.val (.int p0), .val (.int p1), .val (.int ((p0 &&& (2147483647 : Int32)) % (13 : Int32))), .val (.int (1 : Int32)), .unset, .unset, .unset, .unset, .unset] [(.ref w_7)])) _
                  refine XS.astore X248.here hx rfl (hb hby at_24) rfl rfl (l' := #[.val (.int p0), .val (.int p1), .val (.int ((p0 &&& (2147483647 : Int32)) % (13 : Int32))), .val (.int (1 : Int32)), .val (.ref w_7), .unset, .unset, .unset, .unset]) rfl ?_
                  show Steps p.tables e below (T248.setTop (mkF m 26 #[.val (.int p0), .val (.int p1), .val (.int ((p0 &&& (2147483647 : Int32)) % (13 : Int32))), .val (.int (1 : Int32)), .val (.ref w_7), .unset, .unset, .unset, .unset] [])) _
                  refine st249 _ ?_
                  show Steps p.tables e below (T249.setTop (mkF m 29 #[.val (.int p0), .val (.int p1), .val (.int ((p0 &&& (2147483647 : Int32)) % (13 : Int32))), .val (.int (1 : Int32)), .val (.ref w_7), .unset, .unset, .unset, .unset] [(.ref b249)])) _
                  refine XS.dup X249.here hx rfl (hb hby at_29) rfl rfl ?_
                  show Steps p.tables e below (T249.setTop (mkF m 30 #[.val (.int p0), .val (.int p1), .val (.int ((p0 &&& (2147483647 : Int32)) % (13 : Int32))), .val (.int (1 : Int32)), .val (.ref w_7), .unset, .unset, .unset, .unset] [(.ref b249), (.ref b249)])) _
                  refine XS.aload X249.here hx rfl (hb hby at_30) rfl rfl ?_
                  show Steps p.tables e below (T249.setTop (mkF m 32 #[.val (.int p0), .val (.int p1), .val (.int ((p0 &&& (2147483647 : Int32)) % (13 : Int32))), .val (.int (1 : Int32)), .val (.ref w_7), .unset, .unset, .unset, .unset] [(.ref w_7), (.ref b249), (.ref b249)])) _
                  refine XS.iloadN X249.here hx rfl (hb hby at_32) rfl ?_
                  show Steps p.tables e below (T249.setTop (mkF m 33 #[.val (.int p0), .val (.int p1), .val (.int ((p0 &&& (2147483647 : Int32)) % (13 : Int32))), .val (.int (1 : Int32)), .val (.ref w_7), .unset, .unset, .unset, .unset] [(.int (1 : Int32)), (.ref w_7), (.ref b249), (.ref b249)])) _
                  refine st250.trans ?_
                  show Steps p.tables e below (T250.setTop (mkF m 36 #[.val (.int p0), .val (.int p1), .val (.int ((p0 &&& (2147483647 : Int32)) % (13 : Int32))), .val (.int (1 : Int32)), .val (.ref w_7), .unset, .unset, .unset, .unset] [(.ref b249)])) _
                  refine XS.astore X250.here hx rfl (hb hby at_36) rfl rfl (l' := #[.val (.int p0), .val (.int p1), .val (.int ((p0 &&& (2147483647 : Int32)) % (13 : Int32))), .val (.int (1 : Int32)), .val (.ref w_7), .val (.ref b249), .unset, .unset, .unset]) rfl ?_
                  show Steps p.tables e below (T250.setTop (mkF m 38 #[.val (.int p0), .val (.int p1), .val (.int ((p0 &&& (2147483647 : Int32)) % (13 : Int32))), .val (.int (1 : Int32)), .val (.ref w_7), .val (.ref b249), .unset, .unset, .unset] [])) _
                  refine XS.iloadN X250.here hx rfl (hb hby at_38) rfl ?_
                  show Steps p.tables e below (T250.setTop (mkF m 39 #[.val (.int p0), .val (.int p1), .val (.int ((p0 &&& (2147483647 : Int32)) % (13 : Int32))), .val (.int (1 : Int32)), .val (.ref w_7), .val (.ref b249), .unset, .unset, .unset] [(.int (1 : Int32))])) _
                  refine XS.ifNo X250.here hx rfl (hb hby at_39) rfl ((if0 _ _).trans (feq (by decide : ¬ ((1 : Int32) = (0 : Int32)))).1) ?_
                  show Steps p.tables e below (T250.setTop (mkF m 42 #[.val (.int p0), .val (.int p1), .val (.int ((p0 &&& (2147483647 : Int32)) % (13 : Int32))), .val (.int (1 : Int32)), .val (.ref w_7), .val (.ref b249), .unset, .unset, .unset] [])) _
                  refine XS.iconst X250.here hx rfl (hb hby at_42) ?_
                  show Steps p.tables e below (T250.setTop (mkF m 43 #[.val (.int p0), .val (.int p1), .val (.int ((p0 &&& (2147483647 : Int32)) % (13 : Int32))), .val (.int (1 : Int32)), .val (.ref w_7), .val (.ref b249), .unset, .unset, .unset] [(.int (0 : Int32))])) _
                  refine XS.istore X250.here hx rfl (hb hby at_43) rfl (l' := #[.val (.int p0), .val (.int p1), .val (.int ((p0 &&& (2147483647 : Int32)) % (13 : Int32))), .val (.int (1 : Int32)), .val (.ref w_7), .val (.ref b249), .val (.int (0 : Int32)), .unset, .unset]) rfl ?_
                  show Steps p.tables e below (T250.setTop (mkF m 45 #[.val (.int p0), .val (.int p1), .val (.int ((p0 &&& (2147483647 : Int32)) % (13 : Int32))), .val (.int (1 : Int32)), .val (.ref w_7), .val (.ref b249), .val (.int (0 : Int32)), .unset, .unset] [])) _
                  refine XS.goto X250.here hx rfl (pc0 := 45) (pc' := 63) rfl (hb hby at_45) (by decide) (by decide) ?_
                  show Steps p.tables e below (T250.setTop (mkF m 63 #[.val (.int p0), .val (.int p1), .val (.int ((p0 &&& (2147483647 : Int32)) % (13 : Int32))), .val (.int (1 : Int32)), .val (.ref w_7), .val (.ref b249), .val (.int (0 : Int32)), .unset, .unset] [])) _
                  refine XS.aload X250.here hx rfl (hb hby at_63) rfl rfl ?_
                  show Steps p.tables e below (T250.setTop (mkF m 65 #[.val (.int p0), .val (.int p1), .val (.int ((p0 &&& (2147483647 : Int32)) % (13 : Int32))), .val (.int (1 : Int32)), .val (.ref w_7), .val (.ref b249), .val (.int (0 : Int32)), .unset, .unset] [(.ref b249)])) _
                  refine st251.trans ?_
                  show Steps p.tables e below (T251.setTop (mkF m 68 #[.val (.int p0), .val (.int p1), .val (.int ((p0 &&& (2147483647 : Int32)) % (13 : Int32))), .val (.int (1 : Int32)), .val (.ref w_7), .val (.ref b249), .val (.int (0 : Int32)), .unset, .unset] [(.int (0 : Int32))])) _
                  refine XS.istore X251.here hx rfl (hb hby at_68) rfl (l' := #[.val (.int p0), .val (.int p1), .val (.int ((p0 &&& (2147483647 : Int32)) % (13 : Int32))), .val (.int (1 : Int32)), .val (.ref w_7), .val (.ref b249), .val (.int (0 : Int32)), .val (.int (0 : Int32)), .unset]) rfl ?_
                  show Steps p.tables e below (T251.setTop (mkF m 70 #[.val (.int p0), .val (.int p1), .val (.int ((p0 &&& (2147483647 : Int32)) % (13 : Int32))), .val (.int (1 : Int32)), .val (.ref w_7), .val (.ref b249), .val (.int (0 : Int32)), .val (.int (0 : Int32)), .unset] [])) _
                  refine XS.aload X251.here hx rfl (hb hby at_70) rfl rfl ?_
                  show Steps p.tables e below (T251.setTop (mkF m 72 #[.val (.int p0), .val (.int p1), .val (.int ((p0 &&& (2147483647 : Int32)) % (13 : Int32))), .val (.int (1 : Int32)), .val (.ref w_7), .val (.ref b249), .val (.int (0 : Int32)), .val (.int (0 : Int32)), .unset] [(.ref b249)])) _
                  refine st253 _ ?_
                  show Steps p.tables e below (T253.setTop (mkF m 75 #[.val (.int p0), .val (.int p1), .val (.int ((p0 &&& (2147483647 : Int32)) % (13 : Int32))), .val (.int (1 : Int32)), .val (.ref w_7), .val (.ref b249), .val (.int (0 : Int32)), .val (.int (0 : Int32)), .unset] [(.ref w_2), (.ref b249)])) _
                  refine st254.trans ?_
                  show Steps p.tables e below (T254.setTop (mkF m 78 #[.val (.int p0), .val (.int p1), .val (.int ((p0 &&& (2147483647 : Int32)) % (13 : Int32))), .val (.int (1 : Int32)), .val (.ref w_7), .val (.ref b249), .val (.int (0 : Int32)), .val (.int (0 : Int32)), .unset] [(.int (0 : Int32))])) _
                  refine XS.istore X254.here hx rfl (hb hby at_78) rfl (l' := #[.val (.int p0), .val (.int p1), .val (.int ((p0 &&& (2147483647 : Int32)) % (13 : Int32))), .val (.int (1 : Int32)), .val (.ref w_7), .val (.ref b249), .val (.int (0 : Int32)), .val (.int (0 : Int32)), .val (.int (0 : Int32))]) rfl ?_
                  show Steps p.tables e below (T254.setTop (mkF m 80 #[.val (.int p0), .val (.int p1), .val (.int ((p0 &&& (2147483647 : Int32)) % (13 : Int32))), .val (.int (1 : Int32)), .val (.ref w_7), .val (.ref b249), .val (.int (0 : Int32)), .val (.int (0 : Int32)), .val (.int (0 : Int32))] [])) _
                  refine XS.iload X254.here hx rfl (hb hby at_80) rfl ?_
                  show Steps p.tables e below (T254.setTop (mkF m 82 #[.val (.int p0), .val (.int p1), .val (.int ((p0 &&& (2147483647 : Int32)) % (13 : Int32))), .val (.int (1 : Int32)), .val (.ref w_7), .val (.ref b249), .val (.int (0 : Int32)), .val (.int (0 : Int32)), .val (.int (0 : Int32))] [(.int (0 : Int32))])) _
                  refine XS.iload X254.here hx rfl (hb hby at_82) rfl ?_
                  show Steps p.tables e below (T254.setTop (mkF m 84 #[.val (.int p0), .val (.int p1), .val (.int ((p0 &&& (2147483647 : Int32)) % (13 : Int32))), .val (.int (1 : Int32)), .val (.ref w_7), .val (.ref b249), .val (.int (0 : Int32)), .val (.int (0 : Int32)), .val (.int (0 : Int32))] [(.int (0 : Int32)), (.int (0 : Int32))])) _
                  refine XS.icmpNo X254.here hx rfl (hb hby at_84) rfl (teq (by decide : ((0 : Int32) = (0 : Int32)))).2 ?_
                  show Steps p.tables e below (T254.setTop (mkF m 87 #[.val (.int p0), .val (.int p1), .val (.int ((p0 &&& (2147483647 : Int32)) % (13 : Int32))), .val (.int (1 : Int32)), .val (.ref w_7), .val (.ref b249), .val (.int (0 : Int32)), .val (.int (0 : Int32)), .val (.int (0 : Int32))] [])) _
                  refine XS.iload X254.here hx rfl (hb hby at_87) rfl ?_
                  show Steps p.tables e below (T254.setTop (mkF m 89 #[.val (.int p0), .val (.int p1), .val (.int ((p0 &&& (2147483647 : Int32)) % (13 : Int32))), .val (.int (1 : Int32)), .val (.ref w_7), .val (.ref b249), .val (.int (0 : Int32)), .val (.int (0 : Int32)), .val (.int (0 : Int32))] [(.int (0 : Int32))])) _
                  refine XS.iload X254.here hx rfl (hb hby at_89) rfl ?_
                  show Steps p.tables e below (T254.setTop (mkF m 91 #[.val (.int p0), .val (.int p1), .val (.int ((p0 &&& (2147483647 : Int32)) % (13 : Int32))), .val (.int (1 : Int32)), .val (.ref w_7), .val (.ref b249), .val (.int (0 : Int32)), .val (.int (0 : Int32)), .val (.int (0 : Int32))] [(.int (0 : Int32)), (.int (0 : Int32))])) _
                  refine XS.icmpNo X254.here hx rfl (hb hby at_91) rfl (teq (by decide : ((0 : Int32) = (0 : Int32)))).2 ?_
                  show Steps p.tables e below (T254.setTop (mkF m 94 #[.val (.int p0), .val (.int p1), .val (.int ((p0 &&& (2147483647 : Int32)) % (13 : Int32))), .val (.int (1 : Int32)), .val (.ref w_7), .val (.ref b249), .val (.int (0 : Int32)), .val (.int (0 : Int32)), .val (.int (0 : Int32))] [])) _
                  refine XS.iconst X254.here hx rfl (hb hby at_94) ?_
                  show Steps p.tables e below (T254.setTop (mkF m 95 #[.val (.int p0), .val (.int p1), .val (.int ((p0 &&& (2147483647 : Int32)) % (13 : Int32))), .val (.int (1 : Int32)), .val (.ref w_7), .val (.ref b249), .val (.int (0 : Int32)), .val (.int (0 : Int32)), .val (.int (0 : Int32))] [(.int (1 : Int32))])) _
                  refine XS.goto X254.here hx rfl (pc0 := 95) (pc' := 99) rfl (hb hby at_95) (by decide) (by decide) ?_
                  show Steps p.tables e below (T254.setTop (mkF m 99 #[.val (.int p0), .val (.int p1), .val (.int ((p0 &&& (2147483647 : Int32)) % (13 : Int32))), .val (.int (1 : Int32)), .val (.ref w_7), .val (.ref b249), .val (.int (0 : Int32)), .val (.int (0 : Int32)), .val (.int (0 : Int32))] [(.int (1 : Int32))])) _
                  exact retN X254 hx (t := .boolean) Bd.returns (by simp) (hb hby at_99) hr
                · show Q0 Z w_1 w_2 w_3 w_4 w_5 w_6 w_7 w_8 w_9 w_10 w_11 w_12 w_13 p0 p1 h0 n0 _ T254.heap _
                  rw [e254]
                  exact ⟨by unfold sp0; rw [if_neg hc30, if_neg hc207, if_neg hc215, if_neg hc223, if_neg hc231, if_neg hc239, if_pos hc247], N254, trivial⟩
              · by_cases hc255 : ((p0 &&& (2147483647 : Int32)) % (13 : Int32)) = (6 : Int32)
                · obtain ⟨_, _, ⟨T256, L256, k256, n256⟩, -, X256, ⟨Lc256, hQ256, l256, y256, z256⟩, st256⟩ := Jvm.LawKit.callS X0 hx (y := Y0) hown (mvT hZ (hw _ (tk 1 rfl))) (mvT hZ (hw _ (tk 2 rfl))) (mvT hZ (hw _ (tk 3 rfl))) (mvT hZ (hw _ (tk 4 rfl))) (by decide) (backOf (W := 0) (rm1 l Z a0 hw [] w_1 w_2 w_3 w_4 w_5 w_6 w_7 w_8 w_9 w_10 w_11 w_12 w_13 hS0 ((p0 &&& (2147483647 : Int32)) % (13 : Int32)) h0 n0 O0) hZ (hw _ (tk 4 rfl)) (hw _ (tk 3 rfl)) (by decide) (by decide)) (g := (mkF m 21 #[.val (.int p0), .val (.int p1), .val (.int ((p0 &&& (2147483647 : Int32)) % (13 : Int32))), .val (.int (1 : Int32)), .unset, .unset, .unset, .unset, .unset] [(.int ((p0 &&& (2147483647 : Int32)) % (13 : Int32)))])) rfl (by rw [hml]; rfl) (argsL := [(.int ((p0 &&& (2147483647 : Int32)) % (13 : Int32)))]) (rest := []) (lenOf pd_0 rfl) rfl (by show 2 * 0 + _ ≤ _; exact Nat.le_of_eq rfl) (hb hby at_21) (fun _ _ => ⟨rfl, e0, (by decide : 0 + 0 ≤ _), (by decide : 0 + 0 ≤ _)⟩)
                  dsimp only [Pt.U, Pt.locs, Pt.cells, Pt.slots] at X256 l256 y256 z256 st256 hQ256
                  subst l256 y256 z256
                  obtain ⟨rv256, N256q, e256⟩ := hQ256
                  rw [show sp1 w_1 w_3 w_4 w_5 w_6 w_7 w_8 w_9 w_10 w_11 w_12 w_13 ((p0 &&& (2147483647 : Int32)) % (13 : Int32)) = (.ref w_8) from by unfold sp1; rw [if_neg hc207, if_neg hc215, if_neg hc223, if_neg hc231, if_neg hc239, if_neg hc247, if_pos hc255]] at rv256
                  subst rv256
                  have N256 := Fr.app N0 N256q
                  obtain ⟨T257, h257, X257, e257, E257, A257, D257, -, st257⟩ := newO X256 hx hZ hown (hw _ (tk 8 rfl)) (hw _ (tk 9 rfl)) (hw _ (tk 10 rfl)) e256 (g := (mkF m 26 #[.val (.int p0), .val (.int p1), .val (.int ((p0 &&& (2147483647 : Int32)) % (13 : Int32))), .val (.int (1 : Int32)), .val (.ref w_8), .unset, .unset, .unset, .unset] [])) rfl (hb hby at_26) (by decide) (by decide)
                  obtain ⟨b257, g257⟩ : ∃ z, z = h0.size := ⟨_, rfl⟩
                  rw [← g257] at A257 D257 st257
                  have g_b257 : n0 ≤ b257 := Nat.le_trans (own_old O0) (Nat.le_of_eq g257.symm)
                  have O257 : Old Z n0 h257 := O0.ext E257
                  have F_integer_b257 : Fld Z h257 b257 "com/example/discharge/discharge/frontend/Syntax$Type" "integer" "Lcom/example/discharge/discharge/frontend/IntegerType;" .null := D257 (Or.inr (hw _ (tk 23 rfl))) (ty := (.object "com/example/discharge/discharge/frontend/IntegerType")) (by decide)
                  have F_pointer_b257 : Fld Z h257 b257 "com/example/discharge/discharge/frontend/Syntax$Type" "pointer" "Z" (.int (0 : Int32)) := D257 (Or.inr (hw _ (tk 25 rfl))) (ty := .boolean) (by decide)
                  obtain ⟨_, _, ⟨T258, L258, k258, n258⟩, -, X258, ⟨Lc258, hQ258, l258, y258, z258⟩, st258⟩ := X257.specialBack hx (y := Y2) rfl hown (mvT hZ (hw _ (tk 11 rfl))) (mvT hZ (hw _ (tk 12 rfl))) (mvT hZ (hw _ (tk 13 rfl))) (by decide) (backOf (W := 1) (rm2x1 l Z a0 hw [] w_1 w_2 w_3 w_4 w_5 w_6 w_7 w_8 w_9 w_10 w_11 w_12 w_13 hS0 b257 w_8 (1 : Int32) h257 n0 O257 g_b257 A257 F_integer_b257 F_pointer_b257) hZ (hw _ (tk 13 rfl)) (hw _ (tk 10 rfl)) (by decide) (by decide)) (g := (mkF m 33 #[.val (.int p0), .val (.int p1), .val (.int ((p0 &&& (2147483647 : Int32)) % (13 : Int32))), .val (.int (1 : Int32)), .val (.ref w_8), .unset, .unset, .unset, .unset] [(.int (1 : Int32)), (.ref w_8), (.ref b257), (.ref b257)])) rfl (by rw [hml]; rfl) (Steps.refl _) (a := b257) (argsL := [(.ref w_8), (.int (1 : Int32))]) (rest := [(.ref b257)]) (lenOf pd_2 rfl) rfl (by show 2 * 0 + _ ≤ _; exact Nat.le_of_eq rfl) (hb hby at_33) (fun _ _ => ⟨rfl, e257, (by decide : 1 + 0 ≤ _), (by decide : 2 + 0 ≤ _)⟩)
                  dsimp only [Pt.U, Pt.locs, Pt.cells, Pt.slots] at X258 l258 y258 z258 st258 hQ258
                  subst l258 y258 z258
                  obtain ⟨rv258, N258q, O258, K258c, Fe258_0, Fe258_1⟩ := hQ258
                  subst rv258
                  have N258 := Fr.app N256 N258q
                  have c260 := (A257.keep K258c)
                  obtain ⟨cq259, kq259, q259a, q259b, q259c⟩ := isOf hZ rfl c260
                  obtain ⟨_, _, ⟨T259, L259, k259, n259⟩, -, X259, ⟨Lc259, hQ259, l259, y259, z259⟩, st259⟩ := X258.virtualBack hx (y := Y3) (z := Y3) hown (mvT hZ (hw _ (tk 26 rfl))) (mvT hZ (hw _ (tk 27 rfl))) (notFace_of_selects (args := #[]) (mvT hZ (hw _ (tk 29 rfl)))) (mvT hZ (hw _ (tk 29 rfl))) (mvT hZ (hw _ (tk 28 rfl))) (by decide) (backOf (W := 0) (rm5 l Z a0 hw [] w_1 w_2 w_3 w_4 w_5 w_6 w_7 w_8 w_9 w_10 w_11 w_12 w_13 hS0 b257 (.ref w_8) (nar .boolean (1 : Int32)) T258.heap n0 O258 Fe258_0 rfl Fe258_1) hZ (hw _ (tk 30 rfl)) (hw _ (tk 10 rfl)) (by decide) (by decide)) q259a q259c (g := (mkF m 65 #[.val (.int p0), .val (.int p1), .val (.int ((p0 &&& (2147483647 : Int32)) % (13 : Int32))), .val (.int (1 : Int32)), .val (.ref w_8), .val (.ref b257), .val (.int (0 : Int32)), .unset, .unset] [(.ref b257)])) rfl (by rw [hml]; rfl) (Steps.refl _) (argsL := []) (rest := []) (lenOf pd_3 rfl) rfl (by show 2 * 0 + _ ≤ _; exact Nat.le_of_eq rfl) (hb hby at_65) (fun _ _ => ⟨rfl, rfl, (by decide : 1 + 0 ≤ _), (by decide : 2 + 0 ≤ _)⟩)
                  dsimp only [Pt.U, Pt.locs, Pt.cells, Pt.slots] at X259 l259 y259 z259 st259 hQ259
                  subst l259 y259 z259
                  obtain ⟨rv259, N259q, e259⟩ := hQ259
                  rw [show sp5 (.ref w_8) (nar .boolean (1 : Int32)) = (0 : Int32) from by unfold sp5; rw [if_neg (nofun : ¬ ((.ref w_8) : Value) = .null)]] at rv259
                  subst rv259
                  have N259 := Fr.app N258 N259q
                  obtain ⟨T261, X261, e261, st261⟩ := getS2 X259 hx hZ hown (host := "") (Or.inl (hw _ (tk 31 rfl))) Via.refl e259 (S_2.ext O258.2) (g := (mkF m 72 #[.val (.int p0), .val (.int p1), .val (.int ((p0 &&& (2147483647 : Int32)) % (13 : Int32))), .val (.int (1 : Int32)), .val (.ref w_8), .val (.ref b257), .val (.int (0 : Int32)), .val (.int (0 : Int32)), .unset] [(.ref b257)])) rfl (hb hby at_72)
                  obtain ⟨cq262, kq262, q262a, q262b, q262c⟩ := isOf hZ e261 c260
                  obtain ⟨_, _, ⟨T262, L262, k262, n262⟩, -, X262, ⟨Lc262, hQ262, l262, y262, z262⟩, st262⟩ := X261.virtualBack hx (y := Y4) (z := Y4) hown (mvT hZ (hw _ (tk 33 rfl))) (mvT hZ (hw _ (tk 34 rfl))) (notFace_of_selects (args := #[]) (mvT hZ (hw _ (tk 36 rfl)))) (mvT hZ (hw _ (tk 36 rfl))) (mvT hZ (hw _ (tk 35 rfl))) (by decide) (backOf (W := 0) (rm6c1 l Z a0 hw [] w_1 w_2 w_3 w_4 w_5 w_6 w_7 w_8 w_9 w_10 w_11 w_12 w_13 hS0 b257 w_2 .null (.ref w_8) (0 : Int32) (nar .boolean (1 : Int32)) T258.heap n0 O258 (E_2.ext O258.2) (F_2_integer.ext O258.2) rfl Fe258_0 rfl (F_2_pointer.ext O258.2) Fe258_1) hZ (hw _ (tk 37 rfl)) (hw _ (tk 10 rfl)) (by decide) (by decide)) q262a q262c (g := (mkF m 75 #[.val (.int p0), .val (.int p1), .val (.int ((p0 &&& (2147483647 : Int32)) % (13 : Int32))), .val (.int (1 : Int32)), .val (.ref w_8), .val (.ref b257), .val (.int (0 : Int32)), .val (.int (0 : Int32)), .unset] [(.ref w_2), (.ref b257)])) rfl (by rw [hml]; rfl) (Steps.refl _) (argsL := [(.ref w_2)]) (rest := []) (lenOf pd_4 rfl) rfl (by show 2 * 0 + _ ≤ _; exact Nat.le_of_eq rfl) (hb hby at_75) (fun _ _ => ⟨rfl, e261, (by decide : 1 + 0 ≤ _), (by decide : 2 + 0 ≤ _)⟩)
                  dsimp only [Pt.U, Pt.locs, Pt.cells, Pt.slots] at X262 l262 y262 z262 st262 hQ262
                  subst l262 y262 z262
                  obtain ⟨rv262, N262q, e262⟩ := hQ262
                  rw [show sp6c1 .null (.ref w_8) (0 : Int32) (nar .boolean (1 : Int32)) = (0 : Int32) from by unfold sp6c1; rw [if_neg (nofun : ¬ (.null : Value) = (.ref w_8))]] at rv262
                  subst rv262
                  have N262 := Fr.app N259 N262q
                  obtain ⟨fs, hr, hrun, hended, hW, hsame⟩ := X262.leave (v := some (.int (1 : Int32))) (fun h => by rw [Bd.returns] at h; cases h)
                  refine ⟨_, _, pre206 _ ?_, hrun, hended, _, _, rfl, ?_, ⟨_, rfl⟩, hW, hsame.mono (by decide) (by decide)⟩
                  · show Steps p.tables e below (s₁.setTop (mkF m 21 #[.val (.int p0), .val (.int p1), .val (.int ((p0 &&& (2147483647 : Int32)) % (13 : Int32))), .val (.int (1 : Int32)), .unset, .unset, .unset, .unset, .unset] [(.int ((p0 &&& (2147483647 : Int32)) % (13 : Int32)))])) _
                    refine st256 _ ?_
                    show Steps p.tables e below (T256.setTop (mkF m 24 #[.val (.int p0), .val (.int p1), .val (.int ((p0 &&& (2147483647 : Int32)) % (13 : Int32))), .val (.int (1 : Int32)), .unset, .unset, .unset, .unset, .unset] [(.ref w_8)])) _
                    refine XS.astore X256.here hx rfl (hb hby at_24) rfl rfl (l' := #[.val (.int p0), .val (.int p1), .val (.int ((p0 &&& (2147483647 : Int32)) % (13 : Int32))), .val (.int (1 : Int32)), .val (.ref w_8), .unset, .unset, .unset, .unset]) rfl ?_
                    show Steps p.tables e below (T256.setTop (mkF m 26 #[.val (.int p0), .val (.int p1), .val (.int ((p0 &&& (2147483647 : Int32)) % (13 : Int32))), .val (.int (1 : Int32)), .val (.ref w_8), .unset, .unset, .unset, .unset] [])) _
                    refine st257 _ ?_
                    show Steps p.tables e below (T257.setTop (mkF m 29 #[.val (.int p0), .val (.int p1), .val (.int ((p0 &&& (2147483647 : Int32)) % (13 : Int32))), .val (.int (1 : Int32)), .val (.ref w_8), .unset, .unset, .unset, .unset] [(.ref b257)])) _
                    refine XS.dup X257.here hx rfl (hb hby at_29) rfl rfl ?_
                    show Steps p.tables e below (T257.setTop (mkF m 30 #[.val (.int p0), .val (.int p1), .val (.int ((p0 &&& (2147483647 : Int32)) % (13 : Int32))), .val (.int (1 : Int32)), .val (.ref w_8), .unset, .unset, .unset, .unset] [(.ref b257), (.ref b257)])) _
                    refine XS.aload X257.here hx rfl (hb hby at_30) rfl rfl ?_
                    show Steps p.tables e below (T257.setTop (mkF m 32 #[.val (.int p0), .val (.int p1), .val (.int ((p0 &&& (2147483647 : Int32)) % (13 : Int32))), .val (.int (1 : Int32)), .val (.ref w_8), .unset, .unset, .unset, .unset] [(.ref w_8), (.ref b257), (.ref b257)])) _
                    refine XS.iloadN X257.here hx rfl (hb hby at_32) rfl ?_
                    show Steps p.tables e below (T257.setTop (mkF m 33 #[.val (.int p0), .val (.int p1), .val (.int ((p0 &&& (2147483647 : Int32)) % (13 : Int32))), .val (.int (1 : Int32)), .val (.ref w_8), .unset, .unset, .unset, .unset] [(.int (1 : Int32)), (.ref w_8), (.ref b257), (.ref b257)])) _
                    refine st258.trans ?_
                    show Steps p.tables e below (T258.setTop (mkF m 36 #[.val (.int p0), .val (.int p1), .val (.int ((p0 &&& (2147483647 : Int32)) % (13 : Int32))), .val (.int (1 : Int32)), .val (.ref w_8), .unset, .unset, .unset, .unset] [(.ref b257)])) _
                    refine XS.astore X258.here hx rfl (hb hby at_36) rfl rfl (l' := #[.val (.int p0), .val (.int p1), .val (.int ((p0 &&& (2147483647 : Int32)) % (13 : Int32))), .val (.int (1 : Int32)), .val (.ref w_8), .val (.ref b257), .unset, .unset, .unset]) rfl ?_
                    show Steps p.tables e below (T258.setTop (mkF m 38 #[.val (.int p0), .val (.int p1), .val (.int ((p0 &&& (2147483647 : Int32)) % (13 : Int32))), .val (.int (1 : Int32)), .val (.ref w_8), .val (.ref b257), .unset, .unset, .unset] [])) _
                    refine XS.iloadN X258.here hx rfl (hb hby at_38) rfl ?_
                    show Steps p.tables e below (T258.setTop (mkF m 39 #[.val (.int p0), .val (.int p1), .val (.int ((p0 &&& (2147483647 : Int32)) % (13 : Int32))), .val (.int (1 : Int32)), .val (.ref w_8), .val (.ref b257), .unset, .unset, .unset] [(.int (1 : Int32))])) _
                    refine XS.ifNo X258.here hx rfl (hb hby at_39) rfl ((if0 _ _).trans (feq (by decide : ¬ ((1 : Int32) = (0 : Int32)))).1) ?_
                    show Steps p.tables e below (T258.setTop (mkF m 42 #[.val (.int p0), .val (.int p1), .val (.int ((p0 &&& (2147483647 : Int32)) % (13 : Int32))), .val (.int (1 : Int32)), .val (.ref w_8), .val (.ref b257), .unset, .unset, .unset] [])) _
                    refine XS.iconst X258.here hx rfl (hb hby at_42) ?_
                    show Steps p.tables e below (T258.setTop (mkF m 43 #[.val (.int p0), .val (.int p1), .val (.int ((p0 &&& (2147483647 : Int32)) % (13 : Int32))), .val (.int (1 : Int32)), .val (.ref w_8), .val (.ref b257), .unset, .unset, .unset] [(.int (0 : Int32))])) _
                    refine XS.istore X258.here hx rfl (hb hby at_43) rfl (l' := #[.val (.int p0), .val (.int p1), .val (.int ((p0 &&& (2147483647 : Int32)) % (13 : Int32))), .val (.int (1 : Int32)), .val (.ref w_8), .val (.ref b257), .val (.int (0 : Int32)), .unset, .unset]) rfl ?_
                    show Steps p.tables e below (T258.setTop (mkF m 45 #[.val (.int p0), .val (.int p1), .val (.int ((p0 &&& (2147483647 : Int32)) % (13 : Int32))), .val (.int (1 : Int32)), .val (.ref w_8), .val (.ref b257), .val (.int (0 : Int32)), .unset, .unset] [])) _
                    refine XS.goto X258.here hx rfl (pc0 := 45) (pc' := 63) rfl (hb hby at_45) (by decide) (by decide) ?_
                    show Steps p.tables e below (T258.setTop (mkF m 63 #[.val (.int p0), .val (.int p1), .val (.int ((p0 &&& (2147483647 : Int32)) % (13 : Int32))), .val (.int (1 : Int32)), .val (.ref w_8), .val (.ref b257), .val (.int (0 : Int32)), .unset, .unset] [])) _
                    refine XS.aload X258.here hx rfl (hb hby at_63) rfl rfl ?_
                    show Steps p.tables e below (T258.setTop (mkF m 65 #[.val (.int p0), .val (.int p1), .val (.int ((p0 &&& (2147483647 : Int32)) % (13 : Int32))), .val (.int (1 : Int32)), .val (.ref w_8), .val (.ref b257), .val (.int (0 : Int32)), .unset, .unset] [(.ref b257)])) _
                    refine st259.trans ?_
                    show Steps p.tables e below (T259.setTop (mkF m 68 #[.val (.int p0), .val (.int p1), .val (.int ((p0 &&& (2147483647 : Int32)) % (13 : Int32))), .val (.int (1 : Int32)), .val (.ref w_8), .val (.ref b257), .val (.int (0 : Int32)), .unset, .unset] [(.int (0 : Int32))])) _
                    refine XS.istore X259.here hx rfl (hb hby at_68) rfl (l' := #[.val (.int p0), .val (.int p1), .val (.int ((p0 &&& (2147483647 : Int32)) % (13 : Int32))), .val (.int (1 : Int32)), .val (.ref w_8), .val (.ref b257), .val (.int (0 : Int32)), .val (.int (0 : Int32)), .unset]) rfl ?_
                    show Steps p.tables e below (T259.setTop (mkF m 70 #[.val (.int p0), .val (.int p1), .val (.int ((p0 &&& (2147483647 : Int32)) % (13 : Int32))), .val (.int (1 : Int32)), .val (.ref w_8), .val (.ref b257), .val (.int (0 : Int32)), .val (.int (0 : Int32)), .unset] [])) _
                    refine XS.aload X259.here hx rfl (hb hby at_70) rfl rfl ?_
                    show Steps p.tables e below (T259.setTop (mkF m 72 #[.val (.int p0), .val (.int p1), .val (.int ((p0 &&& (2147483647 : Int32)) % (13 : Int32))), .val (.int (1 : Int32)), .val (.ref w_8), .val (.ref b257), .val (.int (0 : Int32)), .val (.int (0 : Int32)), .unset] [(.ref b257)])) _
                    refine st261 _ ?_
                    show Steps p.tables e below (T261.setTop (mkF m 75 #[.val (.int p0), .val (.int p1), .val (.int ((p0 &&& (2147483647 : Int32)) % (13 : Int32))), .val (.int (1 : Int32)), .val (.ref w_8), .val (.ref b257), .val (.int (0 : Int32)), .val (.int (0 : Int32)), .unset] [(.ref w_2), (.ref b257)])) _
                    refine st262.trans ?_
                    show Steps p.tables e below (T262.setTop (mkF m 78 #[.val (.int p0), .val (.int p1), .val (.int ((p0 &&& (2147483647 : Int32)) % (13 : Int32))), .val (.int (1 : Int32)), .val (.ref w_8), .val (.ref b257), .val (.int (0 : Int32)), .val (.int (0 : Int32)), .unset] [(.int (0 : Int32))])) _
                    refine XS.istore X262.here hx rfl (hb hby at_78) rfl (l' := #[.val (.int p0), .val (.int p1), .val (.int ((p0 &&& (2147483647 : Int32)) % (13 : Int32))), .val (.int (1 : Int32)), .val (.ref w_8), .val (.ref b257), .val (.int (0 : Int32)), .val (.int (0 : Int32)), .val (.int (0 : Int32))]) rfl ?_
                    show Steps p.tables e below (T262.setTop (mkF m 80 #[.val (.int p0), .val (.int p1), .val (.int ((p0 &&& (2147483647 : Int32)) % (13 : Int32))), .val (.int (1 : Int32)), .val (.ref w_8), .val (.ref b257), .val (.int (0 : Int32)), .val (.int (0 : Int32)), .val (.int (0 : Int32))] [])) _
                    refine XS.iload X262.here hx rfl (hb hby at_80) rfl ?_
                    show Steps p.tables e below (T262.setTop (mkF m 82 #[.val (.int p0), .val (.int p1), .val (.int ((p0 &&& (2147483647 : Int32)) % (13 : Int32))), .val (.int (1 : Int32)), .val (.ref w_8), .val (.ref b257), .val (.int (0 : Int32)), .val (.int (0 : Int32)), .val (.int (0 : Int32))] [(.int (0 : Int32))])) _
                    refine XS.iload X262.here hx rfl (hb hby at_82) rfl ?_
                    show Steps p.tables e below (T262.setTop (mkF m 84 #[.val (.int p0), .val (.int p1), .val (.int ((p0 &&& (2147483647 : Int32)) % (13 : Int32))), .val (.int (1 : Int32)), .val (.ref w_8), .val (.ref b257), .val (.int (0 : Int32)), .val (.int (0 : Int32)), .val (.int (0 : Int32))] [(.int (0 : Int32)), (.int (0 : Int32))])) _
                    refine XS.icmpNo X262.here hx rfl (hb hby at_84) rfl (teq (by decide : ((0 : Int32) = (0 : Int32)))).2 ?_
                    show Steps p.tables e below (T262.setTop (mkF m 87 #[.val (.int p0), .val (.int p1), .val (.int ((p0 &&& (2147483647 : Int32)) % (13 : Int32))), .val (.int (1 : Int32)), .val (.ref w_8), .val (.ref b257), .val (.int (0 : Int32)), .val (.int (0 : Int32)), .val (.int (0 : Int32))] [])) _
                    refine XS.iload X262.here hx rfl (hb hby at_87) rfl ?_
                    show Steps p.tables e below (T262.setTop (mkF m 89 #[.val (.int p0), .val (.int p1), .val (.int ((p0 &&& (2147483647 : Int32)) % (13 : Int32))), .val (.int (1 : Int32)), .val (.ref w_8), .val (.ref b257), .val (.int (0 : Int32)), .val (.int (0 : Int32)), .val (.int (0 : Int32))] [(.int (0 : Int32))])) _
                    refine XS.iload X262.here hx rfl (hb hby at_89) rfl ?_
                    show Steps p.tables e below (T262.setTop (mkF m 91 #[.val (.int p0), .val (.int p1), .val (.int ((p0 &&& (2147483647 : Int32)) % (13 : Int32))), .val (.int (1 : Int32)), .val (.ref w_8), .val (.ref b257), .val (.int (0 : Int32)), .val (.int (0 : Int32)), .val (.int (0 : Int32))] [(.int (0 : Int32)), (.int (0 : Int32))])) _
                    refine XS.icmpNo X262.here hx rfl (hb hby at_91) rfl (teq (by decide : ((0 : Int32) = (0 : Int32)))).2 ?_
                    show Steps p.tables e below (T262.setTop (mkF m 94 #[.val (.int p0), .val (.int p1), .val (.int ((p0 &&& (2147483647 : Int32)) % (13 : Int32))), .val (.int (1 : Int32)), .val (.ref w_8), .val (.ref b257), .val (.int (0 : Int32)), .val (.int (0 : Int32)), .val (.int (0 : Int32))] [])) _
                    refine XS.iconst X262.here hx rfl (hb hby at_94) ?_
                    show Steps p.tables e below (T262.setTop (mkF m 95 #[.val (.int p0), .val (.int p1), .val (.int ((p0 &&& (2147483647 : Int32)) % (13 : Int32))), .val (.int (1 : Int32)), .val (.ref w_8), .val (.ref b257), .val (.int (0 : Int32)), .val (.int (0 : Int32)), .val (.int (0 : Int32))] [(.int (1 : Int32))])) _
                    refine XS.goto X262.here hx rfl (pc0 := 95) (pc' := 99) rfl (hb hby at_95) (by decide) (by decide) ?_
                    show Steps p.tables e below (T262.setTop (mkF m 99 #[.val (.int p0), .val (.int p1), .val (.int ((p0 &&& (2147483647 : Int32)) % (13 : Int32))), .val (.int (1 : Int32)), .val (.ref w_8), .val (.ref b257), .val (.int (0 : Int32)), .val (.int (0 : Int32)), .val (.int (0 : Int32))] [(.int (1 : Int32))])) _
                    exact retN X262 hx (t := .boolean) Bd.returns (by simp) (hb hby at_99) hr
                  · show Q0 Z w_1 w_2 w_3 w_4 w_5 w_6 w_7 w_8 w_9 w_10 w_11 w_12 w_13 p0 p1 h0 n0 _ T262.heap _
                    rw [e262]
                    exact ⟨by unfold sp0; rw [if_neg hc30, if_neg hc207, if_neg hc215, if_neg hc223, if_neg hc231, if_neg hc239, if_neg hc247, if_pos hc255], N262, trivial⟩
                · by_cases hc263 : ((p0 &&& (2147483647 : Int32)) % (13 : Int32)) = (7 : Int32)
                  · obtain ⟨_, _, ⟨T264, L264, k264, n264⟩, -, X264, ⟨Lc264, hQ264, l264, y264, z264⟩, st264⟩ := Jvm.LawKit.callS X0 hx (y := Y0) hown (mvT hZ (hw _ (tk 1 rfl))) (mvT hZ (hw _ (tk 2 rfl))) (mvT hZ (hw _ (tk 3 rfl))) (mvT hZ (hw _ (tk 4 rfl))) (by decide) (backOf (W := 0) (rm1 l Z a0 hw [] w_1 w_2 w_3 w_4 w_5 w_6 w_7 w_8 w_9 w_10 w_11 w_12 w_13 hS0 ((p0 &&& (2147483647 : Int32)) % (13 : Int32)) h0 n0 O0) hZ (hw _ (tk 4 rfl)) (hw _ (tk 3 rfl)) (by decide) (by decide)) (g := (mkF m 21 #[.val (.int p0), .val (.int p1), .val (.int ((p0 &&& (2147483647 : Int32)) % (13 : Int32))), .val (.int (1 : Int32)), .unset, .unset, .unset, .unset, .unset] [(.int ((p0 &&& (2147483647 : Int32)) % (13 : Int32)))])) rfl (by rw [hml]; rfl) (argsL := [(.int ((p0 &&& (2147483647 : Int32)) % (13 : Int32)))]) (rest := []) (lenOf pd_0 rfl) rfl (by show 2 * 0 + _ ≤ _; exact Nat.le_of_eq rfl) (hb hby at_21) (fun _ _ => ⟨rfl, e0, (by decide : 0 + 0 ≤ _), (by decide : 0 + 0 ≤ _)⟩)
                    dsimp only [Pt.U, Pt.locs, Pt.cells, Pt.slots] at X264 l264 y264 z264 st264 hQ264
                    subst l264 y264 z264
                    obtain ⟨rv264, N264q, e264⟩ := hQ264
                    rw [show sp1 w_1 w_3 w_4 w_5 w_6 w_7 w_8 w_9 w_10 w_11 w_12 w_13 ((p0 &&& (2147483647 : Int32)) % (13 : Int32)) = (.ref w_13) from by unfold sp1; rw [if_neg hc207, if_neg hc215, if_neg hc223, if_neg hc231, if_neg hc239, if_neg hc247, if_neg hc255, if_pos hc263]] at rv264
                    subst rv264
                    have N264 := Fr.app N0 N264q
                    obtain ⟨T265, h265, X265, e265, E265, A265, D265, -, st265⟩ := newO X264 hx hZ hown (hw _ (tk 8 rfl)) (hw _ (tk 9 rfl)) (hw _ (tk 10 rfl)) e264 (g := (mkF m 26 #[.val (.int p0), .val (.int p1), .val (.int ((p0 &&& (2147483647 : Int32)) % (13 : Int32))), .val (.int (1 : Int32)), .val (.ref w_13), .unset, .unset, .unset, .unset] [])) rfl (hb hby at_26) (by decide) (by decide)
                    obtain ⟨b265, g265⟩ : ∃ z, z = h0.size := ⟨_, rfl⟩
                    rw [← g265] at A265 D265 st265
                    have g_b265 : n0 ≤ b265 := Nat.le_trans (own_old O0) (Nat.le_of_eq g265.symm)
                    have O265 : Old Z n0 h265 := O0.ext E265
                    have F_integer_b265 : Fld Z h265 b265 "com/example/discharge/discharge/frontend/Syntax$Type" "integer" "Lcom/example/discharge/discharge/frontend/IntegerType;" .null := D265 (Or.inr (hw _ (tk 23 rfl))) (ty := (.object "com/example/discharge/discharge/frontend/IntegerType")) (by decide)
                    have F_pointer_b265 : Fld Z h265 b265 "com/example/discharge/discharge/frontend/Syntax$Type" "pointer" "Z" (.int (0 : Int32)) := D265 (Or.inr (hw _ (tk 25 rfl))) (ty := .boolean) (by decide)
                    obtain ⟨_, _, ⟨T266, L266, k266, n266⟩, -, X266, ⟨Lc266, hQ266, l266, y266, z266⟩, st266⟩ := X265.specialBack hx (y := Y2) rfl hown (mvT hZ (hw _ (tk 11 rfl))) (mvT hZ (hw _ (tk 12 rfl))) (mvT hZ (hw _ (tk 13 rfl))) (by decide) (backOf (W := 1) (rm2x1 l Z a0 hw [] w_1 w_2 w_3 w_4 w_5 w_6 w_7 w_8 w_9 w_10 w_11 w_12 w_13 hS0 b265 w_13 (1 : Int32) h265 n0 O265 g_b265 A265 F_integer_b265 F_pointer_b265) hZ (hw _ (tk 13 rfl)) (hw _ (tk 10 rfl)) (by decide) (by decide)) (g := (mkF m 33 #[.val (.int p0), .val (.int p1), .val (.int ((p0 &&& (2147483647 : Int32)) % (13 : Int32))), .val (.int (1 : Int32)), .val (.ref w_13), .unset, .unset, .unset, .unset] [(.int (1 : Int32)), (.ref w_13), (.ref b265), (.ref b265)])) rfl (by rw [hml]; rfl) (Steps.refl _) (a := b265) (argsL := [(.ref w_13), (.int (1 : Int32))]) (rest := [(.ref b265)]) (lenOf pd_2 rfl) rfl (by show 2 * 0 + _ ≤ _; exact Nat.le_of_eq rfl) (hb hby at_33) (fun _ _ => ⟨rfl, e265, (by decide : 1 + 0 ≤ _), (by decide : 2 + 0 ≤ _)⟩)
                    dsimp only [Pt.U, Pt.locs, Pt.cells, Pt.slots] at X266 l266 y266 z266 st266 hQ266
                    subst l266 y266 z266
                    obtain ⟨rv266, N266q, O266, K266c, Fe266_0, Fe266_1⟩ := hQ266
                    subst rv266
                    have N266 := Fr.app N264 N266q
                    have c268 := (A265.keep K266c)
                    obtain ⟨cq267, kq267, q267a, q267b, q267c⟩ := isOf hZ rfl c268
                    obtain ⟨_, _, ⟨T267, L267, k267, n267⟩, -, X267, ⟨Lc267, hQ267, l267, y267, z267⟩, st267⟩ := X266.virtualBack hx (y := Y3) (z := Y3) hown (mvT hZ (hw _ (tk 26 rfl))) (mvT hZ (hw _ (tk 27 rfl))) (notFace_of_selects (args := #[]) (mvT hZ (hw _ (tk 29 rfl)))) (mvT hZ (hw _ (tk 29 rfl))) (mvT hZ (hw _ (tk 28 rfl))) (by decide) (backOf (W := 0) (rm5 l Z a0 hw [] w_1 w_2 w_3 w_4 w_5 w_6 w_7 w_8 w_9 w_10 w_11 w_12 w_13 hS0 b265 (.ref w_13) (nar .boolean (1 : Int32)) T266.heap n0 O266 Fe266_0 rfl Fe266_1) hZ (hw _ (tk 30 rfl)) (hw _ (tk 10 rfl)) (by decide) (by decide)) q267a q267c (g := (mkF m 65 #[.val (.int p0), .val (.int p1), .val (.int ((p0 &&& (2147483647 : Int32)) % (13 : Int32))), .val (.int (1 : Int32)), .val (.ref w_13), .val (.ref b265), .val (.int (0 : Int32)), .unset, .unset] [(.ref b265)])) rfl (by rw [hml]; rfl) (Steps.refl _) (argsL := []) (rest := []) (lenOf pd_3 rfl) rfl (by show 2 * 0 + _ ≤ _; exact Nat.le_of_eq rfl) (hb hby at_65) (fun _ _ => ⟨rfl, rfl, (by decide : 1 + 0 ≤ _), (by decide : 2 + 0 ≤ _)⟩)
                    dsimp only [Pt.U, Pt.locs, Pt.cells, Pt.slots] at X267 l267 y267 z267 st267 hQ267
                    subst l267 y267 z267
                    obtain ⟨rv267, N267q, e267⟩ := hQ267
                    rw [show sp5 (.ref w_13) (nar .boolean (1 : Int32)) = (0 : Int32) from by unfold sp5; rw [if_neg (nofun : ¬ ((.ref w_13) : Value) = .null)]] at rv267
                    subst rv267
                    have N267 := Fr.app N266 N267q
                    obtain ⟨T269, X269, e269, st269⟩ := getS2 X267 hx hZ hown (host := "") (Or.inl (hw _ (tk 31 rfl))) Via.refl e267 (S_2.ext O266.2) (g := (mkF m 72 #[.val (.int p0), .val (.int p1), .val (.int ((p0 &&& (2147483647 : Int32)) % (13 : Int32))), .val (.int (1 : Int32)), .val (.ref w_13), .val (.ref b265), .val (.int (0 : Int32)), .val (.int (0 : Int32)), .unset] [(.ref b265)])) rfl (hb hby at_72)
                    obtain ⟨cq270, kq270, q270a, q270b, q270c⟩ := isOf hZ e269 c268
                    obtain ⟨_, _, ⟨T270, L270, k270, n270⟩, -, X270, ⟨Lc270, hQ270, l270, y270, z270⟩, st270⟩ := X269.virtualBack hx (y := Y4) (z := Y4) hown (mvT hZ (hw _ (tk 33 rfl))) (mvT hZ (hw _ (tk 34 rfl))) (notFace_of_selects (args := #[]) (mvT hZ (hw _ (tk 36 rfl)))) (mvT hZ (hw _ (tk 36 rfl))) (mvT hZ (hw _ (tk 35 rfl))) (by decide) (backOf (W := 0) (rm6c1 l Z a0 hw [] w_1 w_2 w_3 w_4 w_5 w_6 w_7 w_8 w_9 w_10 w_11 w_12 w_13 hS0 b265 w_2 .null (.ref w_13) (0 : Int32) (nar .boolean (1 : Int32)) T266.heap n0 O266 (E_2.ext O266.2) (F_2_integer.ext O266.2) rfl Fe266_0 rfl (F_2_pointer.ext O266.2) Fe266_1) hZ (hw _ (tk 37 rfl)) (hw _ (tk 10 rfl)) (by decide) (by decide)) q270a q270c (g := (mkF m 75 #[.val (.int p0), .val (.int p1), .val (.int ((p0 &&& (2147483647 : Int32)) % (13 : Int32))), .val (.int (1 : Int32)), .val (.ref w_13), .val (.ref b265), .val (.int (0 : Int32)), .val (.int (0 : Int32)), .unset] [(.ref w_2), (.ref b265)])) rfl (by rw [hml]; rfl) (Steps.refl _) (argsL := [(.ref w_2)]) (rest := []) (lenOf pd_4 rfl) rfl (by show 2 * 0 + _ ≤ _; exact Nat.le_of_eq rfl) (hb hby at_75) (fun _ _ => ⟨rfl, e269, (by decide : 1 + 0 ≤ _), (by decide : 2 + 0 ≤ _)⟩)
                    dsimp only [Pt.U, Pt.locs, Pt.cells, Pt.slots] at X270 l270 y270 z270 st270 hQ270
                    subst l270 y270 z270
                    obtain ⟨rv270, N270q, e270⟩ := hQ270
                    rw [show sp6c1 .null (.ref w_13) (0 : Int32) (nar .boolean (1 : Int32)) = (0 : Int32) from by unfold sp6c1; rw [if_neg (nofun : ¬ (.null : Value) = (.ref w_13))]] at rv270
                    subst rv270
                    have N270 := Fr.app N267 N270q
                    obtain ⟨fs, hr, hrun, hended, hW, hsame⟩ := X270.leave (v := some (.int (1 : Int32))) (fun h => by rw [Bd.returns] at h; cases h)
                    refine ⟨_, _, pre206 _ ?_, hrun, hended, _, _, rfl, ?_, ⟨_, rfl⟩, hW, hsame.mono (by decide) (by decide)⟩
                    · show Steps p.tables e below (s₁.setTop (mkF m 21 #[.val (.int p0), .val (.int p1), .val (.int ((p0 &&& (2147483647 : Int32)) % (13 : Int32))), .val (.int (1 : Int32)), .unset, .unset, .unset, .unset, .unset] [(.int ((p0 &&& (2147483647 : Int32)) % (13 : Int32)))])) _
                      refine st264 _ ?_
                      show Steps p.tables e below (T264.setTop (mkF m 24 #[.val (.int p0), .val (.int p1), .val (.int ((p0 &&& (2147483647 : Int32)) % (13 : Int32))), .val (.int (1 : Int32)), .unset, .unset, .unset, .unset, .unset] [(.ref w_13)])) _
                      refine XS.astore X264.here hx rfl (hb hby at_24) rfl rfl (l' := #[.val (.int p0), .val (.int p1), .val (.int ((p0 &&& (2147483647 : Int32)) % (13 : Int32))), .val (.int (1 : Int32)), .val (.ref w_13), .unset, .unset, .unset, .unset]) rfl ?_
                      show Steps p.tables e below (T264.setTop (mkF m 26 #[.val (.int p0), .val (.int p1), .val (.int ((p0 &&& (2147483647 : Int32)) % (13 : Int32))), .val (.int (1 : Int32)), .val (.ref w_13), .unset, .unset, .unset, .unset] [])) _
                      refine st265 _ ?_
                      show Steps p.tables e below (T265.setTop (mkF m 29 #[.val (.int p0), .val (.int p1), .val (.int ((p0 &&& (2147483647 : Int32)) % (13 : Int32))), .val (.int (1 : Int32)), .val (.ref w_13), .unset, .unset, .unset, .unset] [(.ref b265)])) _
                      refine XS.dup X265.here hx rfl (hb hby at_29) rfl rfl ?_
                      show Steps p.tables e below (T265.setTop (mkF m 30 #[.val (.int p0), .val (.int p1), .val (.int ((p0 &&& (2147483647 : Int32)) % (13 : Int32))), .val (.int (1 : Int32)), .val (.ref w_13), .unset, .unset, .unset, .unset] [(.ref b265), (.ref b265)])) _
                      refine XS.aload X265.here hx rfl (hb hby at_30) rfl rfl ?_
                      show Steps p.tables e below (T265.setTop (mkF m 32 #[.val (.int p0), .val (.int p1), .val (.int ((p0 &&& (2147483647 : Int32)) % (13 : Int32))), .val (.int (1 : Int32)), .val (.ref w_13), .unset, .unset, .unset, .unset] [(.ref w_13), (.ref b265), (.ref b265)])) _
                      refine XS.iloadN X265.here hx rfl (hb hby at_32) rfl ?_
                      show Steps p.tables e below (T265.setTop (mkF m 33 #[.val (.int p0), .val (.int p1), .val (.int ((p0 &&& (2147483647 : Int32)) % (13 : Int32))), .val (.int (1 : Int32)), .val (.ref w_13), .unset, .unset, .unset, .unset] [(.int (1 : Int32)), (.ref w_13), (.ref b265), (.ref b265)])) _
                      refine st266.trans ?_
                      show Steps p.tables e below (T266.setTop (mkF m 36 #[.val (.int p0), .val (.int p1), .val (.int ((p0 &&& (2147483647 : Int32)) % (13 : Int32))), .val (.int (1 : Int32)), .val (.ref w_13), .unset, .unset, .unset, .unset] [(.ref b265)])) _
                      refine XS.astore X266.here hx rfl (hb hby at_36) rfl rfl (l' := #[.val (.int p0), .val (.int p1), .val (.int ((p0 &&& (2147483647 : Int32)) % (13 : Int32))), .val (.int (1 : Int32)), .val (.ref w_13), .val (.ref b265), .unset, .unset, .unset]) rfl ?_
                      show Steps p.tables e below (T266.setTop (mkF m 38 #[.val (.int p0), .val (.int p1), .val (.int ((p0 &&& (2147483647 : Int32)) % (13 : Int32))), .val (.int (1 : Int32)), .val (.ref w_13), .val (.ref b265), .unset, .unset, .unset] [])) _
                      refine XS.iloadN X266.here hx rfl (hb hby at_38) rfl ?_
                      show Steps p.tables e below (T266.setTop (mkF m 39 #[.val (.int p0), .val (.int p1), .val (.int ((p0 &&& (2147483647 : Int32)) % (13 : Int32))), .val (.int (1 : Int32)), .val (.ref w_13), .val (.ref b265), .unset, .unset, .unset] [(.int (1 : Int32))])) _
                      refine XS.ifNo X266.here hx rfl (hb hby at_39) rfl ((if0 _ _).trans (feq (by decide : ¬ ((1 : Int32) = (0 : Int32)))).1) ?_
                      show Steps p.tables e below (T266.setTop (mkF m 42 #[.val (.int p0), .val (.int p1), .val (.int ((p0 &&& (2147483647 : Int32)) % (13 : Int32))), .val (.int (1 : Int32)), .val (.ref w_13), .val (.ref b265), .unset, .unset, .unset] [])) _
                      refine XS.iconst X266.here hx rfl (hb hby at_42) ?_
                      show Steps p.tables e below (T266.setTop (mkF m 43 #[.val (.int p0), .val (.int p1), .val (.int ((p0 &&& (2147483647 : Int32)) % (13 : Int32))), .val (.int (1 : Int32)), .val (.ref w_13), .val (.ref b265), .unset, .unset, .unset] [(.int (0 : Int32))])) _
                      refine XS.istore X266.here hx rfl (hb hby at_43) rfl (l' := #[.val (.int p0), .val (.int p1), .val (.int ((p0 &&& (2147483647 : Int32)) % (13 : Int32))), .val (.int (1 : Int32)), .val (.ref w_13), .val (.ref b265), .val (.int (0 : Int32)), .unset, .unset]) rfl ?_
                      show Steps p.tables e below (T266.setTop (mkF m 45 #[.val (.int p0), .val (.int p1), .val (.int ((p0 &&& (2147483647 : Int32)) % (13 : Int32))), .val (.int (1 : Int32)), .val (.ref w_13), .val (.ref b265), .val (.int (0 : Int32)), .unset, .unset] [])) _
                      refine XS.goto X266.here hx rfl (pc0 := 45) (pc' := 63) rfl (hb hby at_45) (by decide) (by decide) ?_
                      show Steps p.tables e below (T266.setTop (mkF m 63 #[.val (.int p0), .val (.int p1), .val (.int ((p0 &&& (2147483647 : Int32)) % (13 : Int32))), .val (.int (1 : Int32)), .val (.ref w_13), .val (.ref b265), .val (.int (0 : Int32)), .unset, .unset] [])) _
                      refine XS.aload X266.here hx rfl (hb hby at_63) rfl rfl ?_
                      show Steps p.tables e below (T266.setTop (mkF m 65 #[.val (.int p0), .val (.int p1), .val (.int ((p0 &&& (2147483647 : Int32)) % (13 : Int32))), .val (.int (1 : Int32)), .val (.ref w_13), .val (.ref b265), .val (.int (0 : Int32)), .unset, .unset] [(.ref b265)])) _
                      refine st267.trans ?_
                      show Steps p.tables e below (T267.setTop (mkF m 68 #[.val (.int p0), .val (.int p1), .val (.int ((p0 &&& (2147483647 : Int32)) % (13 : Int32))), .val (.int (1 : Int32)), .val (.ref w_13), .val (.ref b265), .val (.int (0 : Int32)), .unset, .unset] [(.int (0 : Int32))])) _
                      refine XS.istore X267.here hx rfl (hb hby at_68) rfl (l' := #[.val (.int p0), .val (.int p1), .val (.int ((p0 &&& (2147483647 : Int32)) % (13 : Int32))), .val (.int (1 : Int32)), .val (.ref w_13), .val (.ref b265), .val (.int (0 : Int32)), .val (.int (0 : Int32)), .unset]) rfl ?_
                      show Steps p.tables e below (T267.setTop (mkF m 70 #[.val (.int p0), .val (.int p1), .val (.int ((p0 &&& (2147483647 : Int32)) % (13 : Int32))), .val (.int (1 : Int32)), .val (.ref w_13), .val (.ref b265), .val (.int (0 : Int32)), .val (.int (0 : Int32)), .unset] [])) _
                      refine XS.aload X267.here hx rfl (hb hby at_70) rfl rfl ?_
                      show Steps p.tables e below (T267.setTop (mkF m 72 #[.val (.int p0), .val (.int p1), .val (.int ((p0 &&& (2147483647 : Int32)) % (13 : Int32))), .val (.int (1 : Int32)), .val (.ref w_13), .val (.ref b265), .val (.int (0 : Int32)), .val (.int (0 : Int32)), .unset] [(.ref b265)])) _
                      refine st269 _ ?_
                      show Steps p.tables e below (T269.setTop (mkF m 75 #[.val (.int p0), .val (.int p1), .val (.int ((p0 &&& (2147483647 : Int32)) % (13 : Int32))), .val (.int (1 : Int32)), .val (.ref w_13), .val (.ref b265), .val (.int (0 : Int32)), .val (.int (0 : Int32)), .unset] [(.ref w_2), (.ref b265)])) _
                      refine st270.trans ?_
                      show Steps p.tables e below (T270.setTop (mkF m 78 #[.val (.int p0), .val (.int p1), .val (.int ((p0 &&& (2147483647 : Int32)) % (13 : Int32))), .val (.int (1 : Int32)), .val (.ref w_13), .val (.ref b265), .val (.int (0 : Int32)), .val (.int (0 : Int32)), .unset] [(.int (0 : Int32))])) _
                      refine XS.istore X270.here hx rfl (hb hby at_78) rfl (l' := #[.val (.int p0), .val (.int p1), .val (.int ((p0 &&& (2147483647 : Int32)) % (13 : Int32))), .val (.int (1 : Int32)), .val (.ref w_13), .val (.ref b265), .val (.int (0 : Int32)), .val (.int (0 : Int32)), .val (.int (0 : Int32))]) rfl ?_
                      show Steps p.tables e below (T270.setTop (mkF m 80 #[.val (.int p0), .val (.int p1), .val (.int ((p0 &&& (2147483647 : Int32)) % (13 : Int32))), .val (.int (1 : Int32)), .val (.ref w_13), .val (.ref b265), .val (.int (0 : Int32)), .val (.int (0 : Int32)), .val (.int (0 : Int32))] [])) _
                      refine XS.iload X270.here hx rfl (hb hby at_80) rfl ?_
                      show Steps p.tables e below (T270.setTop (mkF m 82 #[.val (.int p0), .val (.int p1), .val (.int ((p0 &&& (2147483647 : Int32)) % (13 : Int32))), .val (.int (1 : Int32)), .val (.ref w_13), .val (.ref b265), .val (.int (0 : Int32)), .val (.int (0 : Int32)), .val (.int (0 : Int32))] [(.int (0 : Int32))])) _
                      refine XS.iload X270.here hx rfl (hb hby at_82) rfl ?_
                      show Steps p.tables e below (T270.setTop (mkF m 84 #[.val (.int p0), .val (.int p1), .val (.int ((p0 &&& (2147483647 : Int32)) % (13 : Int32))), .val (.int (1 : Int32)), .val (.ref w_13), .val (.ref b265), .val (.int (0 : Int32)), .val (.int (0 : Int32)), .val (.int (0 : Int32))] [(.int (0 : Int32)), (.int (0 : Int32))])) _
                      refine XS.icmpNo X270.here hx rfl (hb hby at_84) rfl (teq (by decide : ((0 : Int32) = (0 : Int32)))).2 ?_
                      show Steps p.tables e below (T270.setTop (mkF m 87 #[.val (.int p0), .val (.int p1), .val (.int ((p0 &&& (2147483647 : Int32)) % (13 : Int32))), .val (.int (1 : Int32)), .val (.ref w_13), .val (.ref b265), .val (.int (0 : Int32)), .val (.int (0 : Int32)), .val (.int (0 : Int32))] [])) _
                      refine XS.iload X270.here hx rfl (hb hby at_87) rfl ?_
                      show Steps p.tables e below (T270.setTop (mkF m 89 #[.val (.int p0), .val (.int p1), .val (.int ((p0 &&& (2147483647 : Int32)) % (13 : Int32))), .val (.int (1 : Int32)), .val (.ref w_13), .val (.ref b265), .val (.int (0 : Int32)), .val (.int (0 : Int32)), .val (.int (0 : Int32))] [(.int (0 : Int32))])) _
                      refine XS.iload X270.here hx rfl (hb hby at_89) rfl ?_
                      show Steps p.tables e below (T270.setTop (mkF m 91 #[.val (.int p0), .val (.int p1), .val (.int ((p0 &&& (2147483647 : Int32)) % (13 : Int32))), .val (.int (1 : Int32)), .val (.ref w_13), .val (.ref b265), .val (.int (0 : Int32)), .val (.int (0 : Int32)), .val (.int (0 : Int32))] [(.int (0 : Int32)), (.int (0 : Int32))])) _
                      refine XS.icmpNo X270.here hx rfl (hb hby at_91) rfl (teq (by decide : ((0 : Int32) = (0 : Int32)))).2 ?_
                      show Steps p.tables e below (T270.setTop (mkF m 94 #[.val (.int p0), .val (.int p1), .val (.int ((p0 &&& (2147483647 : Int32)) % (13 : Int32))), .val (.int (1 : Int32)), .val (.ref w_13), .val (.ref b265), .val (.int (0 : Int32)), .val (.int (0 : Int32)), .val (.int (0 : Int32))] [])) _
                      refine XS.iconst X270.here hx rfl (hb hby at_94) ?_
                      show Steps p.tables e below (T270.setTop (mkF m 95 #[.val (.int p0), .val (.int p1), .val (.int ((p0 &&& (2147483647 : Int32)) % (13 : Int32))), .val (.int (1 : Int32)), .val (.ref w_13), .val (.ref b265), .val (.int (0 : Int32)), .val (.int (0 : Int32)), .val (.int (0 : Int32))] [(.int (1 : Int32))])) _
                      refine XS.goto X270.here hx rfl (pc0 := 95) (pc' := 99) rfl (hb hby at_95) (by decide) (by decide) ?_
                      show Steps p.tables e below (T270.setTop (mkF m 99 #[.val (.int p0), .val (.int p1), .val (.int ((p0 &&& (2147483647 : Int32)) % (13 : Int32))), .val (.int (1 : Int32)), .val (.ref w_13), .val (.ref b265), .val (.int (0 : Int32)), .val (.int (0 : Int32)), .val (.int (0 : Int32))] [(.int (1 : Int32))])) _
                      exact retN X270 hx (t := .boolean) Bd.returns (by simp) (hb hby at_99) hr
                    · show Q0 Z w_1 w_2 w_3 w_4 w_5 w_6 w_7 w_8 w_9 w_10 w_11 w_12 w_13 p0 p1 h0 n0 _ T270.heap _
                      rw [e270]
                      exact ⟨by unfold sp0; rw [if_neg hc30, if_neg hc207, if_neg hc215, if_neg hc223, if_neg hc231, if_neg hc239, if_neg hc247, if_neg hc255, if_pos hc263], N270, trivial⟩
                  · by_cases hc271 : ((p0 &&& (2147483647 : Int32)) % (13 : Int32)) = (8 : Int32)
                    · obtain ⟨_, _, ⟨T272, L272, k272, n272⟩, -, X272, ⟨Lc272, hQ272, l272, y272, z272⟩, st272⟩ := Jvm.LawKit.callS X0 hx (y := Y0) hown (mvT hZ (hw _ (tk 1 rfl))) (mvT hZ (hw _ (tk 2 rfl))) (mvT hZ (hw _ (tk 3 rfl))) (mvT hZ (hw _ (tk 4 rfl))) (by decide) (backOf (W := 0) (rm1 l Z a0 hw [] w_1 w_2 w_3 w_4 w_5 w_6 w_7 w_8 w_9 w_10 w_11 w_12 w_13 hS0 ((p0 &&& (2147483647 : Int32)) % (13 : Int32)) h0 n0 O0) hZ (hw _ (tk 4 rfl)) (hw _ (tk 3 rfl)) (by decide) (by decide)) (g := (mkF m 21 #[.val (.int p0), .val (.int p1), .val (.int ((p0 &&& (2147483647 : Int32)) % (13 : Int32))), .val (.int (1 : Int32)), .unset, .unset, .unset, .unset, .unset] [(.int ((p0 &&& (2147483647 : Int32)) % (13 : Int32)))])) rfl (by rw [hml]; rfl) (argsL := [(.int ((p0 &&& (2147483647 : Int32)) % (13 : Int32)))]) (rest := []) (lenOf pd_0 rfl) rfl (by show 2 * 0 + _ ≤ _; exact Nat.le_of_eq rfl) (hb hby at_21) (fun _ _ => ⟨rfl, e0, (by decide : 0 + 0 ≤ _), (by decide : 0 + 0 ≤ _)⟩)
                      dsimp only [Pt.U, Pt.locs, Pt.cells, Pt.slots] at X272 l272 y272 z272 st272 hQ272
                      subst l272 y272 z272
                      obtain ⟨rv272, N272q, e272⟩ := hQ272
                      rw [show sp1 w_1 w_3 w_4 w_5 w_6 w_7 w_8 w_9 w_10 w_11 w_12 w_13 ((p0 &&& (2147483647 : Int32)) % (13 : Int32)) = (.ref w_9) from by unfold sp1; rw [if_neg hc207, if_neg hc215, if_neg hc223, if_neg hc231, if_neg hc239, if_neg hc247, if_neg hc255, if_neg hc263, if_pos hc271]] at rv272
                      subst rv272
                      have N272 := Fr.app N0 N272q
                      obtain ⟨T273, h273, X273, e273, E273, A273, D273, -, st273⟩ := newO X272 hx hZ hown (hw _ (tk 8 rfl)) (hw _ (tk 9 rfl)) (hw _ (tk 10 rfl)) e272 (g := (mkF m 26 #[.val (.int p0), .val (.int p1), .val (.int ((p0 &&& (2147483647 : Int32)) % (13 : Int32))), .val (.int (1 : Int32)), .val (.ref w_9), .unset, .unset, .unset, .unset] [])) rfl (hb hby at_26) (by decide) (by decide)
                      obtain ⟨b273, g273⟩ : ∃ z, z = h0.size := ⟨_, rfl⟩
                      rw [← g273] at A273 D273 st273
                      have g_b273 : n0 ≤ b273 := Nat.le_trans (own_old O0) (Nat.le_of_eq g273.symm)
                      have O273 : Old Z n0 h273 := O0.ext E273
                      have F_integer_b273 : Fld Z h273 b273 "com/example/discharge/discharge/frontend/Syntax$Type" "integer" "Lcom/example/discharge/discharge/frontend/IntegerType;" .null := D273 (Or.inr (hw _ (tk 23 rfl))) (ty := (.object "com/example/discharge/discharge/frontend/IntegerType")) (by decide)
                      have F_pointer_b273 : Fld Z h273 b273 "com/example/discharge/discharge/frontend/Syntax$Type" "pointer" "Z" (.int (0 : Int32)) := D273 (Or.inr (hw _ (tk 25 rfl))) (ty := .boolean) (by decide)
                      obtain ⟨_, _, ⟨T274, L274, k274, n274⟩, -, X274, ⟨Lc274, hQ274, l274, y274, z274⟩, st274⟩ := X273.specialBack hx (y := Y2) rfl hown (mvT hZ (hw _ (tk 11 rfl))) (mvT hZ (hw _ (tk 12 rfl))) (mvT hZ (hw _ (tk 13 rfl))) (by decide) (backOf (W := 1) (rm2x1 l Z a0 hw [] w_1 w_2 w_3 w_4 w_5 w_6 w_7 w_8 w_9 w_10 w_11 w_12 w_13 hS0 b273 w_9 (1 : Int32) h273 n0 O273 g_b273 A273 F_integer_b273 F_pointer_b273) hZ (hw _ (tk 13 rfl)) (hw _ (tk 10 rfl)) (by decide) (by decide)) (g := (mkF m 33 #[.val (.int p0), .val (.int p1), .val (.int ((p0 &&& (2147483647 : Int32)) % (13 : Int32))), .val (.int (1 : Int32)), .val (.ref w_9), .unset, .unset, .unset, .unset] [(.int (1 : Int32)), (.ref w_9), (.ref b273), (.ref b273)])) rfl (by rw [hml]; rfl) (Steps.refl _) (a := b273) (argsL := [(.ref w_9), (.int (1 : Int32))]) (rest := [(.ref b273)]) (lenOf pd_2 rfl) rfl (by show 2 * 0 + _ ≤ _; exact Nat.le_of_eq rfl) (hb hby at_33) (fun _ _ => ⟨rfl, e273, (by decide : 1 + 0 ≤ _), (by decide : 2 + 0 ≤ _)⟩)
                      dsimp only [Pt.U, Pt.locs, Pt.cells, Pt.slots] at X274 l274 y274 z274 st274 hQ274
                      subst l274 y274 z274
                      obtain ⟨rv274, N274q, O274, K274c, Fe274_0, Fe274_1⟩ := hQ274
                      subst rv274
                      have N274 := Fr.app N272 N274q
                      have c276 := (A273.keep K274c)
                      obtain ⟨cq275, kq275, q275a, q275b, q275c⟩ := isOf hZ rfl c276
                      obtain ⟨_, _, ⟨T275, L275, k275, n275⟩, -, X275, ⟨Lc275, hQ275, l275, y275, z275⟩, st275⟩ := X274.virtualBack hx (y := Y3) (z := Y3) hown (mvT hZ (hw _ (tk 26 rfl))) (mvT hZ (hw _ (tk 27 rfl))) (notFace_of_selects (args := #[]) (mvT hZ (hw _ (tk 29 rfl)))) (mvT hZ (hw _ (tk 29 rfl))) (mvT hZ (hw _ (tk 28 rfl))) (by decide) (backOf (W := 0) (rm5 l Z a0 hw [] w_1 w_2 w_3 w_4 w_5 w_6 w_7 w_8 w_9 w_10 w_11 w_12 w_13 hS0 b273 (.ref w_9) (nar .boolean (1 : Int32)) T274.heap n0 O274 Fe274_0 rfl Fe274_1) hZ (hw _ (tk 30 rfl)) (hw _ (tk 10 rfl)) (by decide) (by decide)) q275a q275c (g := (mkF m 65 #[.val (.int p0), .val (.int p1), .val (.int ((p0 &&& (2147483647 : Int32)) % (13 : Int32))), .val (.int (1 : Int32)), .val (.ref w_9), .val (.ref b273), .val (.int (0 : Int32)), .unset, .unset] [(.ref b273)])) rfl (by rw [hml]; rfl) (Steps.refl _) (argsL := []) (rest := []) (lenOf pd_3 rfl) rfl (by show 2 * 0 + _ ≤ _; exact Nat.le_of_eq rfl) (hb hby at_65) (fun _ _ => ⟨rfl, rfl, (by decide : 1 + 0 ≤ _), (by decide : 2 + 0 ≤ _)⟩)
                      dsimp only [Pt.U, Pt.locs, Pt.cells, Pt.slots] at X275 l275 y275 z275 st275 hQ275
                      subst l275 y275 z275
                      obtain ⟨rv275, N275q, e275⟩ := hQ275
                      rw [show sp5 (.ref w_9) (nar .boolean (1 : Int32)) = (0 : Int32) from by unfold sp5; rw [if_neg (nofun : ¬ ((.ref w_9) : Value) = .null)]] at rv275
                      subst rv275
                      have N275 := Fr.app N274 N275q
                      obtain ⟨T277, X277, e277, st277⟩ := getS2 X275 hx hZ hown (host := "") (Or.inl (hw _ (tk 31 rfl))) Via.refl e275 (S_2.ext O274.2) (g := (mkF m 72 #[.val (.int p0), .val (.int p1), .val (.int ((p0 &&& (2147483647 : Int32)) % (13 : Int32))), .val (.int (1 : Int32)), .val (.ref w_9), .val (.ref b273), .val (.int (0 : Int32)), .val (.int (0 : Int32)), .unset] [(.ref b273)])) rfl (hb hby at_72)
                      obtain ⟨cq278, kq278, q278a, q278b, q278c⟩ := isOf hZ e277 c276
                      obtain ⟨_, _, ⟨T278, L278, k278, n278⟩, -, X278, ⟨Lc278, hQ278, l278, y278, z278⟩, st278⟩ := X277.virtualBack hx (y := Y4) (z := Y4) hown (mvT hZ (hw _ (tk 33 rfl))) (mvT hZ (hw _ (tk 34 rfl))) (notFace_of_selects (args := #[]) (mvT hZ (hw _ (tk 36 rfl)))) (mvT hZ (hw _ (tk 36 rfl))) (mvT hZ (hw _ (tk 35 rfl))) (by decide) (backOf (W := 0) (rm6c1 l Z a0 hw [] w_1 w_2 w_3 w_4 w_5 w_6 w_7 w_8 w_9 w_10 w_11 w_12 w_13 hS0 b273 w_2 .null (.ref w_9) (0 : Int32) (nar .boolean (1 : Int32)) T274.heap n0 O274 (E_2.ext O274.2) (F_2_integer.ext O274.2) rfl Fe274_0 rfl (F_2_pointer.ext O274.2) Fe274_1) hZ (hw _ (tk 37 rfl)) (hw _ (tk 10 rfl)) (by decide) (by decide)) q278a q278c (g := (mkF m 75 #[.val (.int p0), .val (.int p1), .val (.int ((p0 &&& (2147483647 : Int32)) % (13 : Int32))), .val (.int (1 : Int32)), .val (.ref w_9), .val (.ref b273), .val (.int (0 : Int32)), .val (.int (0 : Int32)), .unset] [(.ref w_2), (.ref b273)])) rfl (by rw [hml]; rfl) (Steps.refl _) (argsL := [(.ref w_2)]) (rest := []) (lenOf pd_4 rfl) rfl (by show 2 * 0 + _ ≤ _; exact Nat.le_of_eq rfl) (hb hby at_75) (fun _ _ => ⟨rfl, e277, (by decide : 1 + 0 ≤ _), (by decide : 2 + 0 ≤ _)⟩)
                      dsimp only [Pt.U, Pt.locs, Pt.cells, Pt.slots] at X278 l278 y278 z278 st278 hQ278
                      subst l278 y278 z278
                      obtain ⟨rv278, N278q, e278⟩ := hQ278
                      rw [show sp6c1 .null (.ref w_9) (0 : Int32) (nar .boolean (1 : Int32)) = (0 : Int32) from by unfold sp6c1; rw [if_neg (nofun : ¬ (.null : Value) = (.ref w_9))]] at rv278
                      subst rv278
                      have N278 := Fr.app N275 N278q
                      obtain ⟨fs, hr, hrun, hended, hW, hsame⟩ := X278.leave (v := some (.int (1 : Int32))) (fun h => by rw [Bd.returns] at h; cases h)
                      refine ⟨_, _, pre206 _ ?_, hrun, hended, _, _, rfl, ?_, ⟨_, rfl⟩, hW, hsame.mono (by decide) (by decide)⟩
                      · show Steps p.tables e below (s₁.setTop (mkF m 21 #[.val (.int p0), .val (.int p1), .val (.int ((p0 &&& (2147483647 : Int32)) % (13 : Int32))), .val (.int (1 : Int32)), .unset, .unset, .unset, .unset, .unset] [(.int ((p0 &&& (2147483647 : Int32)) % (13 : Int32)))])) _
                        refine st272 _ ?_
                        show Steps p.tables e below (T272.setTop (mkF m 24 #[.val (.int p0), .val (.int p1), .val (.int ((p0 &&& (2147483647 : Int32)) % (13 : Int32))), .val (.int (1 : Int32)), .unset, .unset, .unset, .unset, .unset] [(.ref w_9)])) _
                        refine XS.astore X272.here hx rfl (hb hby at_24) rfl rfl (l' := #[.val (.int p0), .val (.int p1), .val (.int ((p0 &&& (2147483647 : Int32)) % (13 : Int32))), .val (.int (1 : Int32)), .val (.ref w_9), .unset, .unset, .unset, .unset]) rfl ?_
                        show Steps p.tables e below (T272.setTop (mkF m 26 #[.val (.int p0), .val (.int p1), .val (.int ((p0 &&& (2147483647 : Int32)) % (13 : Int32))), .val (.int (1 : Int32)), .val (.ref w_9), .unset, .unset, .unset, .unset] [])) _
                        refine st273 _ ?_
                        show Steps p.tables e below (T273.setTop (mkF m 29 #[.val (.int p0), .val (.int p1), .val (.int ((p0 &&& (2147483647 : Int32)) % (13 : Int32))), .val (.int (1 : Int32)), .val (.ref w_9), .unset, .unset, .unset, .unset] [(.ref b273)])) _
                        refine XS.dup X273.here hx rfl (hb hby at_29) rfl rfl ?_
                        show Steps p.tables e below (T273.setTop (mkF m 30 #[.val (.int p0), .val (.int p1), .val (.int ((p0 &&& (2147483647 : Int32)) % (13 : Int32))), .val (.int (1 : Int32)), .val (.ref w_9), .unset, .unset, .unset, .unset] [(.ref b273), (.ref b273)])) _
                        refine XS.aload X273.here hx rfl (hb hby at_30) rfl rfl ?_
                        show Steps p.tables e below (T273.setTop (mkF m 32 #[.val (.int p0), .val (.int p1), .val (.int ((p0 &&& (2147483647 : Int32)) % (13 : Int32))), .val (.int (1 : Int32)), .val (.ref w_9), .unset, .unset, .unset, .unset] [(.ref w_9), (.ref b273), (.ref b273)])) _
                        refine XS.iloadN X273.here hx rfl (hb hby at_32) rfl ?_
                        show Steps p.tables e below (T273.setTop (mkF m 33 #[.val (.int p0), .val (.int p1), .val (.int ((p0 &&& (2147483647 : Int32)) % (13 : Int32))), .val (.int (1 : Int32)), .val (.ref w_9), .unset, .unset, .unset, .unset] [(.int (1 : Int32)), (.ref w_9), (.ref b273), (.ref b273)])) _
                        refine st274.trans ?_
                        show Steps p.tables e below (T274.setTop (mkF m 36 #[.val (.int p0), .val (.int p1), .val (.int ((p0 &&& (2147483647 : Int32)) % (13 : Int32))), .val (.int (1 : Int32)), .val (.ref w_9), .unset, .unset, .unset, .unset] [(.ref b273)])) _
                        refine XS.astore X274.here hx rfl (hb hby at_36) rfl rfl (l' := #[.val (.int p0), .val (.int p1), .val (.int ((p0 &&& (2147483647 : Int32)) % (13 : Int32))), .val (.int (1 : Int32)), .val (.ref w_9), .val (.ref b273), .unset, .unset, .unset]) rfl ?_
                        show Steps p.tables e below (T274.setTop (mkF m 38 #[.val (.int p0), .val (.int p1), .val (.int ((p0 &&& (2147483647 : Int32)) % (13 : Int32))), .val (.int (1 : Int32)), .val (.ref w_9), .val (.ref b273), .unset, .unset, .unset] [])) _
                        refine XS.iloadN X274.here hx rfl (hb hby at_38) rfl ?_
                        show Steps p.tables e below (T274.setTop (mkF m 39 #[.val (.int p0), .val (.int p1), .val (.int ((p0 &&& (2147483647 : Int32)) % (13 : Int32))), .val (.int (1 : Int32)), .val (.ref w_9), .val (.ref b273), .unset, .unset, .unset] [(.int (1 : Int32))])) _
                        refine XS.ifNo X274.here hx rfl (hb hby at_39) rfl ((if0 _ _).trans (feq (by decide : ¬ ((1 : Int32) = (0 : Int32)))).1) ?_
                        show Steps p.tables e below (T274.setTop (mkF m 42 #[.val (.int p0), .val (.int p1), .val (.int ((p0 &&& (2147483647 : Int32)) % (13 : Int32))), .val (.int (1 : Int32)), .val (.ref w_9), .val (.ref b273), .unset, .unset, .unset] [])) _
                        refine XS.iconst X274.here hx rfl (hb hby at_42) ?_
                        show Steps p.tables e below (T274.setTop (mkF m 43 #[.val (.int p0), .val (.int p1), .val (.int ((p0 &&& (2147483647 : Int32)) % (13 : Int32))), .val (.int (1 : Int32)), .val (.ref w_9), .val (.ref b273), .unset, .unset, .unset] [(.int (0 : Int32))])) _
                        refine XS.istore X274.here hx rfl (hb hby at_43) rfl (l' := #[.val (.int p0), .val (.int p1), .val (.int ((p0 &&& (2147483647 : Int32)) % (13 : Int32))), .val (.int (1 : Int32)), .val (.ref w_9), .val (.ref b273), .val (.int (0 : Int32)), .unset, .unset]) rfl ?_
                        show Steps p.tables e below (T274.setTop (mkF m 45 #[.val (.int p0), .val (.int p1), .val (.int ((p0 &&& (2147483647 : Int32)) % (13 : Int32))), .val (.int (1 : Int32)), .val (.ref w_9), .val (.ref b273), .val (.int (0 : Int32)), .unset, .unset] [])) _
                        refine XS.goto X274.here hx rfl (pc0 := 45) (pc' := 63) rfl (hb hby at_45) (by decide) (by decide) ?_
                        show Steps p.tables e below (T274.setTop (mkF m 63 #[.val (.int p0), .val (.int p1), .val (.int ((p0 &&& (2147483647 : Int32)) % (13 : Int32))), .val (.int (1 : Int32)), .val (.ref w_9), .val (.ref b273), .val (.int (0 : Int32)), .unset, .unset] [])) _
                        refine XS.aload X274.here hx rfl (hb hby at_63) rfl rfl ?_
                        show Steps p.tables e below (T274.setTop (mkF m 65 #[.val (.int p0), .val (.int p1), .val (.int ((p0 &&& (2147483647 : Int32)) % (13 : Int32))), .val (.int (1 : Int32)), .val (.ref w_9), .val (.ref b273), .val (.int (0 : Int32)), .unset, .unset] [(.ref b273)])) _
                        refine st275.trans ?_
                        show Steps p.tables e below (T275.setTop (mkF m 68 #[.val (.int p0), .val (.int p1), .val (.int ((p0 &&& (2147483647 : Int32)) % (13 : Int32))), .val (.int (1 : Int32)), .val (.ref w_9), .val (.ref b273), .val (.int (0 : Int32)), .unset, .unset] [(.int (0 : Int32))])) _
                        refine XS.istore X275.here hx rfl (hb hby at_68) rfl (l' := #[.val (.int p0), .val (.int p1), .val (.int ((p0 &&& (2147483647 : Int32)) % (13 : Int32))), .val (.int (1 : Int32)), .val (.ref w_9), .val (.ref b273), .val (.int (0 : Int32)), .val (.int (0 : Int32)), .unset]) rfl ?_
                        show Steps p.tables e below (T275.setTop (mkF m 70 #[.val (.int p0), .val (.int p1), .val (.int ((p0 &&& (2147483647 : Int32)) % (13 : Int32))), .val (.int (1 : Int32)), .val (.ref w_9), .val (.ref b273), .val (.int (0 : Int32)), .val (.int (0 : Int32)), .unset] [])) _
                        refine XS.aload X275.here hx rfl (hb hby at_70) rfl rfl ?_
                        show Steps p.tables e below (T275.setTop (mkF m 72 #[.val (.int p0), .val (.int p1), .val (.int ((p0 &&& (2147483647 : Int32)) % (13 : Int32))), .val (.int (1 : Int32)), .val (.ref w_9), .val (.ref b273), .val (.int (0 : Int32)), .val (.int (0 : Int32)), .unset] [(.ref b273)])) _
                        refine st277 _ ?_
                        show Steps p.tables e below (T277.setTop (mkF m 75 #[.val (.int p0), .val (.int p1), .val (.int ((p0 &&& (2147483647 : Int32)) % (13 : Int32))), .val (.int (1 : Int32)), .val (.ref w_9), .val (.ref b273), .val (.int (0 : Int32)), .val (.int (0 : Int32)), .unset] [(.ref w_2), (.ref b273)])) _
                        refine st278.trans ?_
                        show Steps p.tables e below (T278.setTop (mkF m 78 #[.val (.int p0), .val (.int p1), .val (.int ((p0 &&& (2147483647 : Int32)) % (13 : Int32))), .val (.int (1 : Int32)), .val (.ref w_9), .val (.ref b273), .val (.int (0 : Int32)), .val (.int (0 : Int32)), .unset] [(.int (0 : Int32))])) _
                        refine XS.istore X278.here hx rfl (hb hby at_78) rfl (l' := #[.val (.int p0), .val (.int p1), .val (.int ((p0 &&& (2147483647 : Int32)) % (13 : Int32))), .val (.int (1 : Int32)), .val (.ref w_9), .val (.ref b273), .val (.int (0 : Int32)), .val (.int (0 : Int32)), .val (.int (0 : Int32))]) rfl ?_
                        show Steps p.tables e below (T278.setTop (mkF m 80 #[.val (.int p0), .val (.int p1), .val (.int ((p0 &&& (2147483647 : Int32)) % (13 : Int32))), .val (.int (1 : Int32)), .val (.ref w_9), .val (.ref b273), .val (.int (0 : Int32)), .val (.int (0 : Int32)), .val (.int (0 : Int32))] [])) _
                        refine XS.iload X278.here hx rfl (hb hby at_80) rfl ?_
                        show Steps p.tables e below (T278.setTop (mkF m 82 #[.val (.int p0), .val (.int p1), .val (.int ((p0 &&& (2147483647 : Int32)) % (13 : Int32))), .val (.int (1 : Int32)), .val (.ref w_9), .val (.ref b273), .val (.int (0 : Int32)), .val (.int (0 : Int32)), .val (.int (0 : Int32))] [(.int (0 : Int32))])) _
                        refine XS.iload X278.here hx rfl (hb hby at_82) rfl ?_
                        show Steps p.tables e below (T278.setTop (mkF m 84 #[.val (.int p0), .val (.int p1), .val (.int ((p0 &&& (2147483647 : Int32)) % (13 : Int32))), .val (.int (1 : Int32)), .val (.ref w_9), .val (.ref b273), .val (.int (0 : Int32)), .val (.int (0 : Int32)), .val (.int (0 : Int32))] [(.int (0 : Int32)), (.int (0 : Int32))])) _
                        refine XS.icmpNo X278.here hx rfl (hb hby at_84) rfl (teq (by decide : ((0 : Int32) = (0 : Int32)))).2 ?_
                        show Steps p.tables e below (T278.setTop (mkF m 87 #[.val (.int p0), .val (.int p1), .val (.int ((p0 &&& (2147483647 : Int32)) % (13 : Int32))), .val (.int (1 : Int32)), .val (.ref w_9), .val (.ref b273), .val (.int (0 : Int32)), .val (.int (0 : Int32)), .val (.int (0 : Int32))] [])) _
                        refine XS.iload X278.here hx rfl (hb hby at_87) rfl ?_
                        show Steps p.tables e below (T278.setTop (mkF m 89 #[.val (.int p0), .val (.int p1), .val (.int ((p0 &&& (2147483647 : Int32)) % (13 : Int32))), .val (.int (1 : Int32)), .val (.ref w_9), .val (.ref b273), .val (.int (0 : Int32)), .val (.int (0 : Int32)), .val (.int (0 : Int32))] [(.int (0 : Int32))])) _
                        refine XS.iload X278.here hx rfl (hb hby at_89) rfl ?_
                        show Steps p.tables e below (T278.setTop (mkF m 91 #[.val (.int p0), .val (.int p1), .val (.int ((p0 &&& (2147483647 : Int32)) % (13 : Int32))), .val (.int (1 : Int32)), .val (.ref w_9), .val (.ref b273), .val (.int (0 : Int32)), .val (.int (0 : Int32)), .val (.int (0 : Int32))] [(.int (0 : Int32)), (.int (0 : Int32))])) _
                        refine XS.icmpNo X278.here hx rfl (hb hby at_91) rfl (teq (by decide : ((0 : Int32) = (0 : Int32)))).2 ?_
                        show Steps p.tables e below (T278.setTop (mkF m 94 #[.val (.int p0), .val (.int p1), .val (.int ((p0 &&& (2147483647 : Int32)) % (13 : Int32))), .val (.int (1 : Int32)), .val (.ref w_9), .val (.ref b273), .val (.int (0 : Int32)), .val (.int (0 : Int32)), .val (.int (0 : Int32))] [])) _
                        refine XS.iconst X278.here hx rfl (hb hby at_94) ?_
                        show Steps p.tables e below (T278.setTop (mkF m 95 #[.val (.int p0), .val (.int p1), .val (.int ((p0 &&& (2147483647 : Int32)) % (13 : Int32))), .val (.int (1 : Int32)), .val (.ref w_9), .val (.ref b273), .val (.int (0 : Int32)), .val (.int (0 : Int32)), .val (.int (0 : Int32))] [(.int (1 : Int32))])) _
                        refine XS.goto X278.here hx rfl (pc0 := 95) (pc' := 99) rfl (hb hby at_95) (by decide) (by decide) ?_
                        show Steps p.tables e below (T278.setTop (mkF m 99 #[.val (.int p0), .val (.int p1), .val (.int ((p0 &&& (2147483647 : Int32)) % (13 : Int32))), .val (.int (1 : Int32)), .val (.ref w_9), .val (.ref b273), .val (.int (0 : Int32)), .val (.int (0 : Int32)), .val (.int (0 : Int32))] [(.int (1 : Int32))])) _
                        exact retN X278 hx (t := .boolean) Bd.returns (by simp) (hb hby at_99) hr
                      · show Q0 Z w_1 w_2 w_3 w_4 w_5 w_6 w_7 w_8 w_9 w_10 w_11 w_12 w_13 p0 p1 h0 n0 _ T278.heap _
                        rw [e278]
                        exact ⟨by unfold sp0; rw [if_neg hc30, if_neg hc207, if_neg hc215, if_neg hc223, if_neg hc231, if_neg hc239, if_neg hc247, if_neg hc255, if_neg hc263, if_pos hc271], N278, trivial⟩
                    · by_cases hc279 : ((p0 &&& (2147483647 : Int32)) % (13 : Int32)) = (9 : Int32)
                      · obtain ⟨_, _, ⟨T280, L280, k280, n280⟩, -, X280, ⟨Lc280, hQ280, l280, y280, z280⟩, st280⟩ := Jvm.LawKit.callS X0 hx (y := Y0) hown (mvT hZ (hw _ (tk 1 rfl))) (mvT hZ (hw _ (tk 2 rfl))) (mvT hZ (hw _ (tk 3 rfl))) (mvT hZ (hw _ (tk 4 rfl))) (by decide) (backOf (W := 0) (rm1 l Z a0 hw [] w_1 w_2 w_3 w_4 w_5 w_6 w_7 w_8 w_9 w_10 w_11 w_12 w_13 hS0 ((p0 &&& (2147483647 : Int32)) % (13 : Int32)) h0 n0 O0) hZ (hw _ (tk 4 rfl)) (hw _ (tk 3 rfl)) (by decide) (by decide)) (g := (mkF m 21 #[.val (.int p0), .val (.int p1), .val (.int ((p0 &&& (2147483647 : Int32)) % (13 : Int32))), .val (.int (1 : Int32)), .unset, .unset, .unset, .unset, .unset] [(.int ((p0 &&& (2147483647 : Int32)) % (13 : Int32)))])) rfl (by rw [hml]; rfl) (argsL := [(.int ((p0 &&& (2147483647 : Int32)) % (13 : Int32)))]) (rest := []) (lenOf pd_0 rfl) rfl (by show 2 * 0 + _ ≤ _; exact Nat.le_of_eq rfl) (hb hby at_21) (fun _ _ => ⟨rfl, e0, (by decide : 0 + 0 ≤ _), (by decide : 0 + 0 ≤ _)⟩)
                        dsimp only [Pt.U, Pt.locs, Pt.cells, Pt.slots] at X280 l280 y280 z280 st280 hQ280
                        subst l280 y280 z280
                        obtain ⟨rv280, N280q, e280⟩ := hQ280
                        rw [show sp1 w_1 w_3 w_4 w_5 w_6 w_7 w_8 w_9 w_10 w_11 w_12 w_13 ((p0 &&& (2147483647 : Int32)) % (13 : Int32)) = (.ref w_6) from by unfold sp1; rw [if_neg hc207, if_neg hc215, if_neg hc223, if_neg hc231, if_neg hc239, if_neg hc247, if_neg hc255, if_neg hc263, if_neg hc271, if_pos hc279]] at rv280
                        subst rv280
                        have N280 := Fr.app N0 N280q
                        obtain ⟨T281, h281, X281, e281, E281, A281, D281, -, st281⟩ := newO X280 hx hZ hown (hw _ (tk 8 rfl)) (hw _ (tk 9 rfl)) (hw _ (tk 10 rfl)) e280 (g := (mkF m 26 #[.val (.int p0), .val (.int p1), .val (.int ((p0 &&& (2147483647 : Int32)) % (13 : Int32))), .val (.int (1 : Int32)), .val (.ref w_6), .unset, .unset, .unset, .unset] [])) rfl (hb hby at_26) (by decide) (by decide)
                        obtain ⟨b281, g281⟩ : ∃ z, z = h0.size := ⟨_, rfl⟩
                        rw [← g281] at A281 D281 st281
                        have g_b281 : n0 ≤ b281 := Nat.le_trans (own_old O0) (Nat.le_of_eq g281.symm)
                        have O281 : Old Z n0 h281 := O0.ext E281
                        have F_integer_b281 : Fld Z h281 b281 "com/example/discharge/discharge/frontend/Syntax$Type" "integer" "Lcom/example/discharge/discharge/frontend/IntegerType;" .null := D281 (Or.inr (hw _ (tk 23 rfl))) (ty := (.object "com/example/discharge/discharge/frontend/IntegerType")) (by decide)
                        have F_pointer_b281 : Fld Z h281 b281 "com/example/discharge/discharge/frontend/Syntax$Type" "pointer" "Z" (.int (0 : Int32)) := D281 (Or.inr (hw _ (tk 25 rfl))) (ty := .boolean) (by decide)
                        obtain ⟨_, _, ⟨T282, L282, k282, n282⟩, -, X282, ⟨Lc282, hQ282, l282, y282, z282⟩, st282⟩ := X281.specialBack hx (y := Y2) rfl hown (mvT hZ (hw _ (tk 11 rfl))) (mvT hZ (hw _ (tk 12 rfl))) (mvT hZ (hw _ (tk 13 rfl))) (by decide) (backOf (W := 1) (rm2x1 l Z a0 hw [] w_1 w_2 w_3 w_4 w_5 w_6 w_7 w_8 w_9 w_10 w_11 w_12 w_13 hS0 b281 w_6 (1 : Int32) h281 n0 O281 g_b281 A281 F_integer_b281 F_pointer_b281) hZ (hw _ (tk 13 rfl)) (hw _ (tk 10 rfl)) (by decide) (by decide)) (g := (mkF m 33 #[.val (.int p0), .val (.int p1), .val (.int ((p0 &&& (2147483647 : Int32)) % (13 : Int32))), .val (.int (1 : Int32)), .val (.ref w_6), .unset, .unset, .unset, .unset] [(.int (1 : Int32)), (.ref w_6), (.ref b281), (.ref b281)])) rfl (by rw [hml]; rfl) (Steps.refl _) (a := b281) (argsL := [(.ref w_6), (.int (1 : Int32))]) (rest := [(.ref b281)]) (lenOf pd_2 rfl) rfl (by show 2 * 0 + _ ≤ _; exact Nat.le_of_eq rfl) (hb hby at_33) (fun _ _ => ⟨rfl, e281, (by decide : 1 + 0 ≤ _), (by decide : 2 + 0 ≤ _)⟩)
                        dsimp only [Pt.U, Pt.locs, Pt.cells, Pt.slots] at X282 l282 y282 z282 st282 hQ282
                        subst l282 y282 z282
                        obtain ⟨rv282, N282q, O282, K282c, Fe282_0, Fe282_1⟩ := hQ282
                        subst rv282
                        have N282 := Fr.app N280 N282q
                        have c284 := (A281.keep K282c)
                        obtain ⟨cq283, kq283, q283a, q283b, q283c⟩ := isOf hZ rfl c284
                        obtain ⟨_, _, ⟨T283, L283, k283, n283⟩, -, X283, ⟨Lc283, hQ283, l283, y283, z283⟩, st283⟩ := X282.virtualBack hx (y := Y3) (z := Y3) hown (mvT hZ (hw _ (tk 26 rfl))) (mvT hZ (hw _ (tk 27 rfl))) (notFace_of_selects (args := #[]) (mvT hZ (hw _ (tk 29 rfl)))) (mvT hZ (hw _ (tk 29 rfl))) (mvT hZ (hw _ (tk 28 rfl))) (by decide) (backOf (W := 0) (rm5 l Z a0 hw [] w_1 w_2 w_3 w_4 w_5 w_6 w_7 w_8 w_9 w_10 w_11 w_12 w_13 hS0 b281 (.ref w_6) (nar .boolean (1 : Int32)) T282.heap n0 O282 Fe282_0 rfl Fe282_1) hZ (hw _ (tk 30 rfl)) (hw _ (tk 10 rfl)) (by decide) (by decide)) q283a q283c (g := (mkF m 65 #[.val (.int p0), .val (.int p1), .val (.int ((p0 &&& (2147483647 : Int32)) % (13 : Int32))), .val (.int (1 : Int32)), .val (.ref w_6), .val (.ref b281), .val (.int (0 : Int32)), .unset, .unset] [(.ref b281)])) rfl (by rw [hml]; rfl) (Steps.refl _) (argsL := []) (rest := []) (lenOf pd_3 rfl) rfl (by show 2 * 0 + _ ≤ _; exact Nat.le_of_eq rfl) (hb hby at_65) (fun _ _ => ⟨rfl, rfl, (by decide : 1 + 0 ≤ _), (by decide : 2 + 0 ≤ _)⟩)
                        dsimp only [Pt.U, Pt.locs, Pt.cells, Pt.slots] at X283 l283 y283 z283 st283 hQ283
                        subst l283 y283 z283
                        obtain ⟨rv283, N283q, e283⟩ := hQ283
                        rw [show sp5 (.ref w_6) (nar .boolean (1 : Int32)) = (0 : Int32) from by unfold sp5; rw [if_neg (nofun : ¬ ((.ref w_6) : Value) = .null)]] at rv283
                        subst rv283
                        have N283 := Fr.app N282 N283q
                        obtain ⟨T285, X285, e285, st285⟩ := getS2 X283 hx hZ hown (host := "") (Or.inl (hw _ (tk 31 rfl))) Via.refl e283 (S_2.ext O282.2) (g := (mkF m 72 #[.val (.int p0), .val (.int p1), .val (.int ((p0 &&& (2147483647 : Int32)) % (13 : Int32))), .val (.int (1 : Int32)), .val (.ref w_6), .val (.ref b281), .val (.int (0 : Int32)), .val (.int (0 : Int32)), .unset] [(.ref b281)])) rfl (hb hby at_72)
                        obtain ⟨cq286, kq286, q286a, q286b, q286c⟩ := isOf hZ e285 c284
                        obtain ⟨_, _, ⟨T286, L286, k286, n286⟩, -, X286, ⟨Lc286, hQ286, l286, y286, z286⟩, st286⟩ := X285.virtualBack hx (y := Y4) (z := Y4) hown (mvT hZ (hw _ (tk 33 rfl))) (mvT hZ (hw _ (tk 34 rfl))) (notFace_of_selects (args := #[]) (mvT hZ (hw _ (tk 36 rfl)))) (mvT hZ (hw _ (tk 36 rfl))) (mvT hZ (hw _ (tk 35 rfl))) (by decide) (backOf (W := 0) (rm6c1 l Z a0 hw [] w_1 w_2 w_3 w_4 w_5 w_6 w_7 w_8 w_9 w_10 w_11 w_12 w_13 hS0 b281 w_2 .null (.ref w_6) (0 : Int32) (nar .boolean (1 : Int32)) T282.heap n0 O282 (E_2.ext O282.2) (F_2_integer.ext O282.2) rfl Fe282_0 rfl (F_2_pointer.ext O282.2) Fe282_1) hZ (hw _ (tk 37 rfl)) (hw _ (tk 10 rfl)) (by decide) (by decide)) q286a q286c (g := (mkF m 75 #[.val (.int p0), .val (.int p1), .val (.int ((p0 &&& (2147483647 : Int32)) % (13 : Int32))), .val (.int (1 : Int32)), .val (.ref w_6), .val (.ref b281), .val (.int (0 : Int32)), .val (.int (0 : Int32)), .unset] [(.ref w_2), (.ref b281)])) rfl (by rw [hml]; rfl) (Steps.refl _) (argsL := [(.ref w_2)]) (rest := []) (lenOf pd_4 rfl) rfl (by show 2 * 0 + _ ≤ _; exact Nat.le_of_eq rfl) (hb hby at_75) (fun _ _ => ⟨rfl, e285, (by decide : 1 + 0 ≤ _), (by decide : 2 + 0 ≤ _)⟩)
                        dsimp only [Pt.U, Pt.locs, Pt.cells, Pt.slots] at X286 l286 y286 z286 st286 hQ286
                        subst l286 y286 z286
                        obtain ⟨rv286, N286q, e286⟩ := hQ286
                        rw [show sp6c1 .null (.ref w_6) (0 : Int32) (nar .boolean (1 : Int32)) = (0 : Int32) from by unfold sp6c1; rw [if_neg (nofun : ¬ (.null : Value) = (.ref w_6))]] at rv286
                        subst rv286
                        have N286 := Fr.app N283 N286q
                        obtain ⟨fs, hr, hrun, hended, hW, hsame⟩ := X286.leave (v := some (.int (1 : Int32))) (fun h => by rw [Bd.returns] at h; cases h)
                        refine ⟨_, _, pre206 _ ?_, hrun, hended, _, _, rfl, ?_, ⟨_, rfl⟩, hW, hsame.mono (by decide) (by decide)⟩
                        · show Steps p.tables e below (s₁.setTop (mkF m 21 #[.val (.int p0), .val (.int p1), .val (.int ((p0 &&& (2147483647 : Int32)) % (13 : Int32))), .val (.int (1 : Int32)), .unset, .unset, .unset, .unset, .unset] [(.int ((p0 &&& (2147483647 : Int32)) % (13 : Int32)))])) _
                          refine st280 _ ?_
                          show Steps p.tables e below (T280.setTop (mkF m 24 #[.val (.int p0), .val (.int p1), .val (.int ((p0 &&& (2147483647 : Int32)) % (13 : Int32))), .val (.int (1 : Int32)), .unset, .unset, .unset, .unset, .unset] [(.ref w_6)])) _
                          refine XS.astore X280.here hx rfl (hb hby at_24) rfl rfl (l' := #[.val (.int p0), .val (.int p1), .val (.int ((p0 &&& (2147483647 : Int32)) % (13 : Int32))), .val (.int (1 : Int32)), .val (.ref w_6), .unset, .unset, .unset, .unset]) rfl ?_
                          show Steps p.tables e below (T280.setTop (mkF m 26 #[.val (.int p0), .val (.int p1), .val (.int ((p0 &&& (2147483647 : Int32)) % (13 : Int32))), .val (.int (1 : Int32)), .val (.ref w_6), .unset, .unset, .unset, .unset] [])) _
                          refine st281 _ ?_
                          show Steps p.tables e below (T281.setTop (mkF m 29 #[.val (.int p0), .val (.int p1), .val (.int ((p0 &&& (2147483647 : Int32)) % (13 : Int32))), .val (.int (1 : Int32)), .val (.ref w_6), .unset, .unset, .unset, .unset] [(.ref b281)])) _
                          refine XS.dup X281.here hx rfl (hb hby at_29) rfl rfl ?_
                          show Steps p.tables e below (T281.setTop (mkF m 30 #[.val (.int p0), .val (.int p1), .val (.int ((p0 &&& (2147483647 : Int32)) % (13 : Int32))), .val (.int (1 : Int32)), .val (.ref w_6), .unset, .unset, .unset, .unset] [(.ref b281), (.ref b281)])) _
                          refine XS.aload X281.here hx rfl (hb hby at_30) rfl rfl ?_
                          show Steps p.tables e below (T281.setTop (mkF m 32 #[.val (.int p0), .val (.int p1), .val (.int ((p0 &&& (2147483647 : Int32)) % (13 : Int32))), .val (.int (1 : Int32)), .val (.ref w_6), .unset, .unset, .unset, .unset] [(.ref w_6), (.ref b281), (.ref b281)])) _
                          refine XS.iloadN X281.here hx rfl (hb hby at_32) rfl ?_
                          show Steps p.tables e below (T281.setTop (mkF m 33 #[.val (.int p0), .val (.int p1), .val (.int ((p0 &&& (2147483647 : Int32)) % (13 : Int32))), .val (.int (1 : Int32)), .val (.ref w_6), .unset, .unset, .unset, .unset] [(.int (1 : Int32)), (.ref w_6), (.ref b281), (.ref b281)])) _
                          refine st282.trans ?_
                          show Steps p.tables e below (T282.setTop (mkF m 36 #[.val (.int p0), .val (.int p1), .val (.int ((p0 &&& (2147483647 : Int32)) % (13 : Int32))), .val (.int (1 : Int32)), .val (.ref w_6), .unset, .unset, .unset, .unset] [(.ref b281)])) _
                          refine XS.astore X282.here hx rfl (hb hby at_36) rfl rfl (l' := #[.val (.int p0), .val (.int p1), .val (.int ((p0 &&& (2147483647 : Int32)) % (13 : Int32))), .val (.int (1 : Int32)), .val (.ref w_6), .val (.ref b281), .unset, .unset, .unset]) rfl ?_
                          show Steps p.tables e below (T282.setTop (mkF m 38 #[.val (.int p0), .val (.int p1), .val (.int ((p0 &&& (2147483647 : Int32)) % (13 : Int32))), .val (.int (1 : Int32)), .val (.ref w_6), .val (.ref b281), .unset, .unset, .unset] [])) _
                          refine XS.iloadN X282.here hx rfl (hb hby at_38) rfl ?_
                          show Steps p.tables e below (T282.setTop (mkF m 39 #[.val (.int p0), .val (.int p1), .val (.int ((p0 &&& (2147483647 : Int32)) % (13 : Int32))), .val (.int (1 : Int32)), .val (.ref w_6), .val (.ref b281), .unset, .unset, .unset] [(.int (1 : Int32))])) _
                          refine XS.ifNo X282.here hx rfl (hb hby at_39) rfl ((if0 _ _).trans (feq (by decide : ¬ ((1 : Int32) = (0 : Int32)))).1) ?_
                          show Steps p.tables e below (T282.setTop (mkF m 42 #[.val (.int p0), .val (.int p1), .val (.int ((p0 &&& (2147483647 : Int32)) % (13 : Int32))), .val (.int (1 : Int32)), .val (.ref w_6), .val (.ref b281), .unset, .unset, .unset] [])) _
                          refine XS.iconst X282.here hx rfl (hb hby at_42) ?_
                          show Steps p.tables e below (T282.setTop (mkF m 43 #[.val (.int p0), .val (.int p1), .val (.int ((p0 &&& (2147483647 : Int32)) % (13 : Int32))), .val (.int (1 : Int32)), .val (.ref w_6), .val (.ref b281), .unset, .unset, .unset] [(.int (0 : Int32))])) _
                          refine XS.istore X282.here hx rfl (hb hby at_43) rfl (l' := #[.val (.int p0), .val (.int p1), .val (.int ((p0 &&& (2147483647 : Int32)) % (13 : Int32))), .val (.int (1 : Int32)), .val (.ref w_6), .val (.ref b281), .val (.int (0 : Int32)), .unset, .unset]) rfl ?_
                          show Steps p.tables e below (T282.setTop (mkF m 45 #[.val (.int p0), .val (.int p1), .val (.int ((p0 &&& (2147483647 : Int32)) % (13 : Int32))), .val (.int (1 : Int32)), .val (.ref w_6), .val (.ref b281), .val (.int (0 : Int32)), .unset, .unset] [])) _
                          refine XS.goto X282.here hx rfl (pc0 := 45) (pc' := 63) rfl (hb hby at_45) (by decide) (by decide) ?_
                          show Steps p.tables e below (T282.setTop (mkF m 63 #[.val (.int p0), .val (.int p1), .val (.int ((p0 &&& (2147483647 : Int32)) % (13 : Int32))), .val (.int (1 : Int32)), .val (.ref w_6), .val (.ref b281), .val (.int (0 : Int32)), .unset, .unset] [])) _
                          refine XS.aload X282.here hx rfl (hb hby at_63) rfl rfl ?_
                          show Steps p.tables e below (T282.setTop (mkF m 65 #[.val (.int p0), .val (.int p1), .val (.int ((p0 &&& (2147483647 : Int32)) % (13 : Int32))), .val (.int (1 : Int32)), .val (.ref w_6), .val (.ref b281), .val (.int (0 : Int32)), .unset, .unset] [(.ref b281)])) _
                          refine st283.trans ?_
                          show Steps p.tables e below (T283.setTop (mkF m 68 #[.val (.int p0), .val (.int p1), .val (.int ((p0 &&& (2147483647 : Int32)) % (13 : Int32))), .val (.int (1 : Int32)), .val (.ref w_6), .val (.ref b281), .val (.int (0 : Int32)), .unset, .unset] [(.int (0 : Int32))])) _
                          refine XS.istore X283.here hx rfl (hb hby at_68) rfl (l' := #[.val (.int p0), .val (.int p1), .val (.int ((p0 &&& (2147483647 : Int32)) % (13 : Int32))), .val (.int (1 : Int32)), .val (.ref w_6), .val (.ref b281), .val (.int (0 : Int32)), .val (.int (0 : Int32)), .unset]) rfl ?_
                          show Steps p.tables e below (T283.setTop (mkF m 70 #[.val (.int p0), .val (.int p1), .val (.int ((p0 &&& (2147483647 : Int32)) % (13 : Int32))), .val (.int (1 : Int32)), .val (.ref w_6), .val (.ref b281), .val (.int (0 : Int32)), .val (.int (0 : Int32)), .unset] [])) _
                          refine XS.aload X283.here hx rfl (hb hby at_70) rfl rfl ?_
                          show Steps p.tables e below (T283.setTop (mkF m 72 #[.val (.int p0), .val (.int p1), .val (.int ((p0 &&& (2147483647 : Int32)) % (13 : Int32))), .val (.int (1 : Int32)), .val (.ref w_6), .val (.ref b281), .val (.int (0 : Int32)), .val (.int (0 : Int32)), .unset] [(.ref b281)])) _
                          refine st285 _ ?_
                          show Steps p.tables e below (T285.setTop (mkF m 75 #[.val (.int p0), .val (.int p1), .val (.int ((p0 &&& (2147483647 : Int32)) % (13 : Int32))), .val (.int (1 : Int32)), .val (.ref w_6), .val (.ref b281), .val (.int (0 : Int32)), .val (.int (0 : Int32)), .unset] [(.ref w_2), (.ref b281)])) _
                          refine st286.trans ?_
                          show Steps p.tables e below (T286.setTop (mkF m 78 #[.val (.int p0), .val (.int p1), .val (.int ((p0 &&& (2147483647 : Int32)) % (13 : Int32))), .val (.int (1 : Int32)), .val (.ref w_6), .val (.ref b281), .val (.int (0 : Int32)), .val (.int (0 : Int32)), .unset] [(.int (0 : Int32))])) _
                          refine XS.istore X286.here hx rfl (hb hby at_78) rfl (l' := #[.val (.int p0), .val (.int p1), .val (.int ((p0 &&& (2147483647 : Int32)) % (13 : Int32))), .val (.int (1 : Int32)), .val (.ref w_6), .val (.ref b281), .val (.int (0 : Int32)), .val (.int (0 : Int32)), .val (.int (0 : Int32))]) rfl ?_
                          show Steps p.tables e below (T286.setTop (mkF m 80 #[.val (.int p0), .val (.int p1), .val (.int ((p0 &&& (2147483647 : Int32)) % (13 : Int32))), .val (.int (1 : Int32)), .val (.ref w_6), .val (.ref b281), .val (.int (0 : Int32)), .val (.int (0 : Int32)), .val (.int (0 : Int32))] [])) _
                          refine XS.iload X286.here hx rfl (hb hby at_80) rfl ?_
                          show Steps p.tables e below (T286.setTop (mkF m 82 #[.val (.int p0), .val (.int p1), .val (.int ((p0 &&& (2147483647 : Int32)) % (13 : Int32))), .val (.int (1 : Int32)), .val (.ref w_6), .val (.ref b281), .val (.int (0 : Int32)), .val (.int (0 : Int32)), .val (.int (0 : Int32))] [(.int (0 : Int32))])) _
                          refine XS.iload X286.here hx rfl (hb hby at_82) rfl ?_
                          show Steps p.tables e below (T286.setTop (mkF m 84 #[.val (.int p0), .val (.int p1), .val (.int ((p0 &&& (2147483647 : Int32)) % (13 : Int32))), .val (.int (1 : Int32)), .val (.ref w_6), .val (.ref b281), .val (.int (0 : Int32)), .val (.int (0 : Int32)), .val (.int (0 : Int32))] [(.int (0 : Int32)), (.int (0 : Int32))])) _
                          refine XS.icmpNo X286.here hx rfl (hb hby at_84) rfl (teq (by decide : ((0 : Int32) = (0 : Int32)))).2 ?_
                          show Steps p.tables e below (T286.setTop (mkF m 87 #[.val (.int p0), .val (.int p1), .val (.int ((p0 &&& (2147483647 : Int32)) % (13 : Int32))), .val (.int (1 : Int32)), .val (.ref w_6), .val (.ref b281), .val (.int (0 : Int32)), .val (.int (0 : Int32)), .val (.int (0 : Int32))] [])) _
                          refine XS.iload X286.here hx rfl (hb hby at_87) rfl ?_
                          show Steps p.tables e below (T286.setTop (mkF m 89 #[.val (.int p0), .val (.int p1), .val (.int ((p0 &&& (2147483647 : Int32)) % (13 : Int32))), .val (.int (1 : Int32)), .val (.ref w_6), .val (.ref b281), .val (.int (0 : Int32)), .val (.int (0 : Int32)), .val (.int (0 : Int32))] [(.int (0 : Int32))])) _
                          refine XS.iload X286.here hx rfl (hb hby at_89) rfl ?_
                          show Steps p.tables e below (T286.setTop (mkF m 91 #[.val (.int p0), .val (.int p1), .val (.int ((p0 &&& (2147483647 : Int32)) % (13 : Int32))), .val (.int (1 : Int32)), .val (.ref w_6), .val (.ref b281), .val (.int (0 : Int32)), .val (.int (0 : Int32)), .val (.int (0 : Int32))] [(.int (0 : Int32)), (.int (0 : Int32))])) _
                          refine XS.icmpNo X286.here hx rfl (hb hby at_91) rfl (teq (by decide : ((0 : Int32) = (0 : Int32)))).2 ?_
                          show Steps p.tables e below (T286.setTop (mkF m 94 #[.val (.int p0), .val (.int p1), .val (.int ((p0 &&& (2147483647 : Int32)) % (13 : Int32))), .val (.int (1 : Int32)), .val (.ref w_6), .val (.ref b281), .val (.int (0 : Int32)), .val (.int (0 : Int32)), .val (.int (0 : Int32))] [])) _
                          refine XS.iconst X286.here hx rfl (hb hby at_94) ?_
                          show Steps p.tables e below (T286.setTop (mkF m 95 #[.val (.int p0), .val (.int p1), .val (.int ((p0 &&& (2147483647 : Int32)) % (13 : Int32))), .val (.int (1 : Int32)), .val (.ref w_6), .val (.ref b281), .val (.int (0 : Int32)), .val (.int (0 : Int32)), .val (.int (0 : Int32))] [(.int (1 : Int32))])) _
                          refine XS.goto X286.here hx rfl (pc0 := 95) (pc' := 99) rfl (hb hby at_95) (by decide) (by decide) ?_
                          show Steps p.tables e below (T286.setTop (mkF m 99 #[.val (.int p0), .val (.int p1), .val (.int ((p0 &&& (2147483647 : Int32)) % (13 : Int32))), .val (.int (1 : Int32)), .val (.ref w_6), .val (.ref b281), .val (.int (0 : Int32)), .val (.int (0 : Int32)), .val (.int (0 : Int32))] [(.int (1 : Int32))])) _
                          exact retN X286 hx (t := .boolean) Bd.returns (by simp) (hb hby at_99) hr
                        · show Q0 Z w_1 w_2 w_3 w_4 w_5 w_6 w_7 w_8 w_9 w_10 w_11 w_12 w_13 p0 p1 h0 n0 _ T286.heap _
                          rw [e286]
                          exact ⟨by unfold sp0; rw [if_neg hc30, if_neg hc207, if_neg hc215, if_neg hc223, if_neg hc231, if_neg hc239, if_neg hc247, if_neg hc255, if_neg hc263, if_neg hc271, if_pos hc279], N286, trivial⟩
                      · by_cases hc287 : ((p0 &&& (2147483647 : Int32)) % (13 : Int32)) = (10 : Int32)
                        · obtain ⟨_, _, ⟨T288, L288, k288, n288⟩, -, X288, ⟨Lc288, hQ288, l288, y288, z288⟩, st288⟩ := Jvm.LawKit.callS X0 hx (y := Y0) hown (mvT hZ (hw _ (tk 1 rfl))) (mvT hZ (hw _ (tk 2 rfl))) (mvT hZ (hw _ (tk 3 rfl))) (mvT hZ (hw _ (tk 4 rfl))) (by decide) (backOf (W := 0) (rm1 l Z a0 hw [] w_1 w_2 w_3 w_4 w_5 w_6 w_7 w_8 w_9 w_10 w_11 w_12 w_13 hS0 ((p0 &&& (2147483647 : Int32)) % (13 : Int32)) h0 n0 O0) hZ (hw _ (tk 4 rfl)) (hw _ (tk 3 rfl)) (by decide) (by decide)) (g := (mkF m 21 #[.val (.int p0), .val (.int p1), .val (.int ((p0 &&& (2147483647 : Int32)) % (13 : Int32))), .val (.int (1 : Int32)), .unset, .unset, .unset, .unset, .unset] [(.int ((p0 &&& (2147483647 : Int32)) % (13 : Int32)))])) rfl (by rw [hml]; rfl) (argsL := [(.int ((p0 &&& (2147483647 : Int32)) % (13 : Int32)))]) (rest := []) (lenOf pd_0 rfl) rfl (by show 2 * 0 + _ ≤ _; exact Nat.le_of_eq rfl) (hb hby at_21) (fun _ _ => ⟨rfl, e0, (by decide : 0 + 0 ≤ _), (by decide : 0 + 0 ≤ _)⟩)
                          dsimp only [Pt.U, Pt.locs, Pt.cells, Pt.slots] at X288 l288 y288 z288 st288 hQ288
                          subst l288 y288 z288
                          obtain ⟨rv288, N288q, e288⟩ := hQ288
                          rw [show sp1 w_1 w_3 w_4 w_5 w_6 w_7 w_8 w_9 w_10 w_11 w_12 w_13 ((p0 &&& (2147483647 : Int32)) % (13 : Int32)) = (.ref w_11) from by unfold sp1; rw [if_neg hc207, if_neg hc215, if_neg hc223, if_neg hc231, if_neg hc239, if_neg hc247, if_neg hc255, if_neg hc263, if_neg hc271, if_neg hc279, if_pos hc287]] at rv288
                          subst rv288
                          have N288 := Fr.app N0 N288q
                          obtain ⟨T289, h289, X289, e289, E289, A289, D289, -, st289⟩ := newO X288 hx hZ hown (hw _ (tk 8 rfl)) (hw _ (tk 9 rfl)) (hw _ (tk 10 rfl)) e288 (g := (mkF m 26 #[.val (.int p0), .val (.int p1), .val (.int ((p0 &&& (2147483647 : Int32)) % (13 : Int32))), .val (.int (1 : Int32)), .val (.ref w_11), .unset, .unset, .unset, .unset] [])) rfl (hb hby at_26) (by decide) (by decide)
                          obtain ⟨b289, g289⟩ : ∃ z, z = h0.size := ⟨_, rfl⟩
                          rw [← g289] at A289 D289 st289
                          have g_b289 : n0 ≤ b289 := Nat.le_trans (own_old O0) (Nat.le_of_eq g289.symm)
                          have O289 : Old Z n0 h289 := O0.ext E289
                          have F_integer_b289 : Fld Z h289 b289 "com/example/discharge/discharge/frontend/Syntax$Type" "integer" "Lcom/example/discharge/discharge/frontend/IntegerType;" .null := D289 (Or.inr (hw _ (tk 23 rfl))) (ty := (.object "com/example/discharge/discharge/frontend/IntegerType")) (by decide)
                          have F_pointer_b289 : Fld Z h289 b289 "com/example/discharge/discharge/frontend/Syntax$Type" "pointer" "Z" (.int (0 : Int32)) := D289 (Or.inr (hw _ (tk 25 rfl))) (ty := .boolean) (by decide)
                          obtain ⟨_, _, ⟨T290, L290, k290, n290⟩, -, X290, ⟨Lc290, hQ290, l290, y290, z290⟩, st290⟩ := X289.specialBack hx (y := Y2) rfl hown (mvT hZ (hw _ (tk 11 rfl))) (mvT hZ (hw _ (tk 12 rfl))) (mvT hZ (hw _ (tk 13 rfl))) (by decide) (backOf (W := 1) (rm2x1 l Z a0 hw [] w_1 w_2 w_3 w_4 w_5 w_6 w_7 w_8 w_9 w_10 w_11 w_12 w_13 hS0 b289 w_11 (1 : Int32) h289 n0 O289 g_b289 A289 F_integer_b289 F_pointer_b289) hZ (hw _ (tk 13 rfl)) (hw _ (tk 10 rfl)) (by decide) (by decide)) (g := (mkF m 33 #[.val (.int p0), .val (.int p1), .val (.int ((p0 &&& (2147483647 : Int32)) % (13 : Int32))), .val (.int (1 : Int32)), .val (.ref w_11), .unset, .unset, .unset, .unset] [(.int (1 : Int32)), (.ref w_11), (.ref b289), (.ref b289)])) rfl (by rw [hml]; rfl) (Steps.refl _) (a := b289) (argsL := [(.ref w_11), (.int (1 : Int32))]) (rest := [(.ref b289)]) (lenOf pd_2 rfl) rfl (by show 2 * 0 + _ ≤ _; exact Nat.le_of_eq rfl) (hb hby at_33) (fun _ _ => ⟨rfl, e289, (by decide : 1 + 0 ≤ _), (by decide : 2 + 0 ≤ _)⟩)
                          dsimp only [Pt.U, Pt.locs, Pt.cells, Pt.slots] at X290 l290 y290 z290 st290 hQ290
                          subst l290 y290 z290
                          obtain ⟨rv290, N290q, O290, K290c, Fe290_0, Fe290_1⟩ := hQ290
                          subst rv290
                          have N290 := Fr.app N288 N290q
                          have c292 := (A289.keep K290c)
                          obtain ⟨cq291, kq291, q291a, q291b, q291c⟩ := isOf hZ rfl c292
                          obtain ⟨_, _, ⟨T291, L291, k291, n291⟩, -, X291, ⟨Lc291, hQ291, l291, y291, z291⟩, st291⟩ := X290.virtualBack hx (y := Y3) (z := Y3) hown (mvT hZ (hw _ (tk 26 rfl))) (mvT hZ (hw _ (tk 27 rfl))) (notFace_of_selects (args := #[]) (mvT hZ (hw _ (tk 29 rfl)))) (mvT hZ (hw _ (tk 29 rfl))) (mvT hZ (hw _ (tk 28 rfl))) (by decide) (backOf (W := 0) (rm5 l Z a0 hw [] w_1 w_2 w_3 w_4 w_5 w_6 w_7 w_8 w_9 w_10 w_11 w_12 w_13 hS0 b289 (.ref w_11) (nar .boolean (1 : Int32)) T290.heap n0 O290 Fe290_0 rfl Fe290_1) hZ (hw _ (tk 30 rfl)) (hw _ (tk 10 rfl)) (by decide) (by decide)) q291a q291c (g := (mkF m 65 #[.val (.int p0), .val (.int p1), .val (.int ((p0 &&& (2147483647 : Int32)) % (13 : Int32))), .val (.int (1 : Int32)), .val (.ref w_11), .val (.ref b289), .val (.int (0 : Int32)), .unset, .unset] [(.ref b289)])) rfl (by rw [hml]; rfl) (Steps.refl _) (argsL := []) (rest := []) (lenOf pd_3 rfl) rfl (by show 2 * 0 + _ ≤ _; exact Nat.le_of_eq rfl) (hb hby at_65) (fun _ _ => ⟨rfl, rfl, (by decide : 1 + 0 ≤ _), (by decide : 2 + 0 ≤ _)⟩)
                          dsimp only [Pt.U, Pt.locs, Pt.cells, Pt.slots] at X291 l291 y291 z291 st291 hQ291
                          subst l291 y291 z291
                          obtain ⟨rv291, N291q, e291⟩ := hQ291
                          rw [show sp5 (.ref w_11) (nar .boolean (1 : Int32)) = (0 : Int32) from by unfold sp5; rw [if_neg (nofun : ¬ ((.ref w_11) : Value) = .null)]] at rv291
                          subst rv291
                          have N291 := Fr.app N290 N291q
                          obtain ⟨T293, X293, e293, st293⟩ := getS2 X291 hx hZ hown (host := "") (Or.inl (hw _ (tk 31 rfl))) Via.refl e291 (S_2.ext O290.2) (g := (mkF m 72 #[.val (.int p0), .val (.int p1), .val (.int ((p0 &&& (2147483647 : Int32)) % (13 : Int32))), .val (.int (1 : Int32)), .val (.ref w_11), .val (.ref b289), .val (.int (0 : Int32)), .val (.int (0 : Int32)), .unset] [(.ref b289)])) rfl (hb hby at_72)
                          obtain ⟨cq294, kq294, q294a, q294b, q294c⟩ := isOf hZ e293 c292
                          obtain ⟨_, _, ⟨T294, L294, k294, n294⟩, -, X294, ⟨Lc294, hQ294, l294, y294, z294⟩, st294⟩ := X293.virtualBack hx (y := Y4) (z := Y4) hown (mvT hZ (hw _ (tk 33 rfl))) (mvT hZ (hw _ (tk 34 rfl))) (notFace_of_selects (args := #[]) (mvT hZ (hw _ (tk 36 rfl)))) (mvT hZ (hw _ (tk 36 rfl))) (mvT hZ (hw _ (tk 35 rfl))) (by decide) (backOf (W := 0) (rm6c1 l Z a0 hw [] w_1 w_2 w_3 w_4 w_5 w_6 w_7 w_8 w_9 w_10 w_11 w_12 w_13 hS0 b289 w_2 .null (.ref w_11) (0 : Int32) (nar .boolean (1 : Int32)) T290.heap n0 O290 (E_2.ext O290.2) (F_2_integer.ext O290.2) rfl Fe290_0 rfl (F_2_pointer.ext O290.2) Fe290_1) hZ (hw _ (tk 37 rfl)) (hw _ (tk 10 rfl)) (by decide) (by decide)) q294a q294c (g := (mkF m 75 #[.val (.int p0), .val (.int p1), .val (.int ((p0 &&& (2147483647 : Int32)) % (13 : Int32))), .val (.int (1 : Int32)), .val (.ref w_11), .val (.ref b289), .val (.int (0 : Int32)), .val (.int (0 : Int32)), .unset] [(.ref w_2), (.ref b289)])) rfl (by rw [hml]; rfl) (Steps.refl _) (argsL := [(.ref w_2)]) (rest := []) (lenOf pd_4 rfl) rfl (by show 2 * 0 + _ ≤ _; exact Nat.le_of_eq rfl) (hb hby at_75) (fun _ _ => ⟨rfl, e293, (by decide : 1 + 0 ≤ _), (by decide : 2 + 0 ≤ _)⟩)
                          dsimp only [Pt.U, Pt.locs, Pt.cells, Pt.slots] at X294 l294 y294 z294 st294 hQ294
                          subst l294 y294 z294
                          obtain ⟨rv294, N294q, e294⟩ := hQ294
                          rw [show sp6c1 .null (.ref w_11) (0 : Int32) (nar .boolean (1 : Int32)) = (0 : Int32) from by unfold sp6c1; rw [if_neg (nofun : ¬ (.null : Value) = (.ref w_11))]] at rv294
                          subst rv294
                          have N294 := Fr.app N291 N294q
                          obtain ⟨fs, hr, hrun, hended, hW, hsame⟩ := X294.leave (v := some (.int (1 : Int32))) (fun h => by rw [Bd.returns] at h; cases h)
                          refine ⟨_, _, pre206 _ ?_, hrun, hended, _, _, rfl, ?_, ⟨_, rfl⟩, hW, hsame.mono (by decide) (by decide)⟩
                          · show Steps p.tables e below (s₁.setTop (mkF m 21 #[.val (.int p0), .val (.int p1), .val (.int ((p0 &&& (2147483647 : Int32)) % (13 : Int32))), .val (.int (1 : Int32)), .unset, .unset, .unset, .unset, .unset] [(.int ((p0 &&& (2147483647 : Int32)) % (13 : Int32)))])) _
                            refine st288 _ ?_
                            show Steps p.tables e below (T288.setTop (mkF m 24 #[.val (.int p0), .val (.int p1), .val (.int ((p0 &&& (2147483647 : Int32)) % (13 : Int32))), .val (.int (1 : Int32)), .unset, .unset, .unset, .unset, .unset] [(.ref w_11)])) _
                            refine XS.astore X288.here hx rfl (hb hby at_24) rfl rfl (l' := #[.val (.int p0), .val (.int p1), .val (.int ((p0 &&& (2147483647 : Int32)) % (13 : Int32))), .val (.int (1 : Int32)), .val (.ref w_11), .unset, .unset, .unset, .unset]) rfl ?_
                            show Steps p.tables e below (T288.setTop (mkF m 26 #[.val (.int p0), .val (.int p1), .val (.int ((p0 &&& (2147483647 : Int32)) % (13 : Int32))), .val (.int (1 : Int32)), .val (.ref w_11), .unset, .unset, .unset, .unset] [])) _
                            refine st289 _ ?_
                            show Steps p.tables e below (T289.setTop (mkF m 29 #[.val (.int p0), .val (.int p1), .val (.int ((p0 &&& (2147483647 : Int32)) % (13 : Int32))), .val (.int (1 : Int32)), .val (.ref w_11), .unset, .unset, .unset, .unset] [(.ref b289)])) _
                            refine XS.dup X289.here hx rfl (hb hby at_29) rfl rfl ?_
                            show Steps p.tables e below (T289.setTop (mkF m 30 #[.val (.int p0), .val (.int p1), .val (.int ((p0 &&& (2147483647 : Int32)) % (13 : Int32))), .val (.int (1 : Int32)), .val (.ref w_11), .unset, .unset, .unset, .unset] [(.ref b289), (.ref b289)])) _
                            refine XS.aload X289.here hx rfl (hb hby at_30) rfl rfl ?_
                            show Steps p.tables e below (T289.setTop (mkF m 32 #[.val (.int p0), .val (.int p1), .val (.int ((p0 &&& (2147483647 : Int32)) % (13 : Int32))), .val (.int (1 : Int32)), .val (.ref w_11), .unset, .unset, .unset, .unset] [(.ref w_11), (.ref b289), (.ref b289)])) _
                            refine XS.iloadN X289.here hx rfl (hb hby at_32) rfl ?_
                            show Steps p.tables e below (T289.setTop (mkF m 33 #[.val (.int p0), .val (.int p1), .val (.int ((p0 &&& (2147483647 : Int32)) % (13 : Int32))), .val (.int (1 : Int32)), .val (.ref w_11), .unset, .unset, .unset, .unset] [(.int (1 : Int32)), (.ref w_11), (.ref b289), (.ref b289)])) _
                            refine st290.trans ?_
                            show Steps p.tables e below (T290.setTop (mkF m 36 #[.val (.int p0), .val (.int p1), .val (.int ((p0 &&& (2147483647 : Int32)) % (13 : Int32))), .val (.int (1 : Int32)), .val (.ref w_11), .unset, .unset, .unset, .unset] [(.ref b289)])) _
                            refine XS.astore X290.here hx rfl (hb hby at_36) rfl rfl (l' := #[.val (.int p0), .val (.int p1), .val (.int ((p0 &&& (2147483647 : Int32)) % (13 : Int32))), .val (.int (1 : Int32)), .val (.ref w_11), .val (.ref b289), .unset, .unset, .unset]) rfl ?_
                            show Steps p.tables e below (T290.setTop (mkF m 38 #[.val (.int p0), .val (.int p1), .val (.int ((p0 &&& (2147483647 : Int32)) % (13 : Int32))), .val (.int (1 : Int32)), .val (.ref w_11), .val (.ref b289), .unset, .unset, .unset] [])) _
                            refine XS.iloadN X290.here hx rfl (hb hby at_38) rfl ?_
                            show Steps p.tables e below (T290.setTop (mkF m 39 #[.val (.int p0), .val (.int p1), .val (.int ((p0 &&& (2147483647 : Int32)) % (13 : Int32))), .val (.int (1 : Int32)), .val (.ref w_11), .val (.ref b289), .unset, .unset, .unset] [(.int (1 : Int32))])) _
                            refine XS.ifNo X290.here hx rfl (hb hby at_39) rfl ((if0 _ _).trans (feq (by decide : ¬ ((1 : Int32) = (0 : Int32)))).1) ?_
                            show Steps p.tables e below (T290.setTop (mkF m 42 #[.val (.int p0), .val (.int p1), .val (.int ((p0 &&& (2147483647 : Int32)) % (13 : Int32))), .val (.int (1 : Int32)), .val (.ref w_11), .val (.ref b289), .unset, .unset, .unset] [])) _
                            refine XS.iconst X290.here hx rfl (hb hby at_42) ?_
                            show Steps p.tables e below (T290.setTop (mkF m 43 #[.val (.int p0), .val (.int p1), .val (.int ((p0 &&& (2147483647 : Int32)) % (13 : Int32))), .val (.int (1 : Int32)), .val (.ref w_11), .val (.ref b289), .unset, .unset, .unset] [(.int (0 : Int32))])) _
                            refine XS.istore X290.here hx rfl (hb hby at_43) rfl (l' := #[.val (.int p0), .val (.int p1), .val (.int ((p0 &&& (2147483647 : Int32)) % (13 : Int32))), .val (.int (1 : Int32)), .val (.ref w_11), .val (.ref b289), .val (.int (0 : Int32)), .unset, .unset]) rfl ?_
                            show Steps p.tables e below (T290.setTop (mkF m 45 #[.val (.int p0), .val (.int p1), .val (.int ((p0 &&& (2147483647 : Int32)) % (13 : Int32))), .val (.int (1 : Int32)), .val (.ref w_11), .val (.ref b289), .val (.int (0 : Int32)), .unset, .unset] [])) _
                            refine XS.goto X290.here hx rfl (pc0 := 45) (pc' := 63) rfl (hb hby at_45) (by decide) (by decide) ?_
                            show Steps p.tables e below (T290.setTop (mkF m 63 #[.val (.int p0), .val (.int p1), .val (.int ((p0 &&& (2147483647 : Int32)) % (13 : Int32))), .val (.int (1 : Int32)), .val (.ref w_11), .val (.ref b289), .val (.int (0 : Int32)), .unset, .unset] [])) _
                            refine XS.aload X290.here hx rfl (hb hby at_63) rfl rfl ?_
                            show Steps p.tables e below (T290.setTop (mkF m 65 #[.val (.int p0), .val (.int p1), .val (.int ((p0 &&& (2147483647 : Int32)) % (13 : Int32))), .val (.int (1 : Int32)), .val (.ref w_11), .val (.ref b289), .val (.int (0 : Int32)), .unset, .unset] [(.ref b289)])) _
                            refine st291.trans ?_
                            show Steps p.tables e below (T291.setTop (mkF m 68 #[.val (.int p0), .val (.int p1), .val (.int ((p0 &&& (2147483647 : Int32)) % (13 : Int32))), .val (.int (1 : Int32)), .val (.ref w_11), .val (.ref b289), .val (.int (0 : Int32)), .unset, .unset] [(.int (0 : Int32))])) _
                            refine XS.istore X291.here hx rfl (hb hby at_68) rfl (l' := #[.val (.int p0), .val (.int p1), .val (.int ((p0 &&& (2147483647 : Int32)) % (13 : Int32))), .val (.int (1 : Int32)), .val (.ref w_11), .val (.ref b289), .val (.int (0 : Int32)), .val (.int (0 : Int32)), .unset]) rfl ?_
                            show Steps p.tables e below (T291.setTop (mkF m 70 #[.val (.int p0), .val (.int p1), .val (.int ((p0 &&& (2147483647 : Int32)) % (13 : Int32))), .val (.int (1 : Int32)), .val (.ref w_11), .val (.ref b289), .val (.int (0 : Int32)), .val (.int (0 : Int32)), .unset] [])) _
                            refine XS.aload X291.here hx rfl (hb hby at_70) rfl rfl ?_
                            show Steps p.tables e below (T291.setTop (mkF m 72 #[.val (.int p0), .val (.int p1), .val (.int ((p0 &&& (2147483647 : Int32)) % (13 : Int32))), .val (.int (1 : Int32)), .val (.ref w_11), .val (.ref b289), .val (.int (0 : Int32)), .val (.int (0 : Int32)), .unset] [(.ref b289)])) _
                            refine st293 _ ?_
                            show Steps p.tables e below (T293.setTop (mkF m 75 #[.val (.int p0), .val (.int p1), .val (.int ((p0 &&& (2147483647 : Int32)) % (13 : Int32))), .val (.int (1 : Int32)), .val (.ref w_11), .val (.ref b289), .val (.int (0 : Int32)), .val (.int (0 : Int32)), .unset] [(.ref w_2), (.ref b289)])) _
                            refine st294.trans ?_
                            show Steps p.tables e below (T294.setTop (mkF m 78 #[.val (.int p0), .val (.int p1), .val (.int ((p0 &&& (2147483647 : Int32)) % (13 : Int32))), .val (.int (1 : Int32)), .val (.ref w_11), .val (.ref b289), .val (.int (0 : Int32)), .val (.int (0 : Int32)), .unset] [(.int (0 : Int32))])) _
                            refine XS.istore X294.here hx rfl (hb hby at_78) rfl (l' := #[.val (.int p0), .val (.int p1), .val (.int ((p0 &&& (2147483647 : Int32)) % (13 : Int32))), .val (.int (1 : Int32)), .val (.ref w_11), .val (.ref b289), .val (.int (0 : Int32)), .val (.int (0 : Int32)), .val (.int (0 : Int32))]) rfl ?_
                            show Steps p.tables e below (T294.setTop (mkF m 80 #[.val (.int p0), .val (.int p1), .val (.int ((p0 &&& (2147483647 : Int32)) % (13 : Int32))), .val (.int (1 : Int32)), .val (.ref w_11), .val (.ref b289), .val (.int (0 : Int32)), .val (.int (0 : Int32)), .val (.int (0 : Int32))] [])) _
                            refine XS.iload X294.here hx rfl (hb hby at_80) rfl ?_
                            show Steps p.tables e below (T294.setTop (mkF m 82 #[.val (.int p0), .val (.int p1), .val (.int ((p0 &&& (2147483647 : Int32)) % (13 : Int32))), .val (.int (1 : Int32)), .val (.ref w_11), .val (.ref b289), .val (.int (0 : Int32)), .val (.int (0 : Int32)), .val (.int (0 : Int32))] [(.int (0 : Int32))])) _
                            refine XS.iload X294.here hx rfl (hb hby at_82) rfl ?_
                            show Steps p.tables e below (T294.setTop (mkF m 84 #[.val (.int p0), .val (.int p1), .val (.int ((p0 &&& (2147483647 : Int32)) % (13 : Int32))), .val (.int (1 : Int32)), .val (.ref w_11), .val (.ref b289), .val (.int (0 : Int32)), .val (.int (0 : Int32)), .val (.int (0 : Int32))] [(.int (0 : Int32)), (.int (0 : Int32))])) _
                            refine XS.icmpNo X294.here hx rfl (hb hby at_84) rfl (teq (by decide : ((0 : Int32) = (0 : Int32)))).2 ?_
                            show Steps p.tables e below (T294.setTop (mkF m 87 #[.val (.int p0), .val (.int p1), .val (.int ((p0 &&& (2147483647 : Int32)) % (13 : Int32))), .val (.int (1 : Int32)), .val (.ref w_11), .val (.ref b289), .val (.int (0 : Int32)), .val (.int (0 : Int32)), .val (.int (0 : Int32))] [])) _
                            refine XS.iload X294.here hx rfl (hb hby at_87) rfl ?_
                            show Steps p.tables e below (T294.setTop (mkF m 89 #[.val (.int p0), .val (.int p1), .val (.int ((p0 &&& (2147483647 : Int32)) % (13 : Int32))), .val (.int (1 : Int32)), .val (.ref w_11), .val (.ref b289), .val (.int (0 : Int32)), .val (.int (0 : Int32)), .val (.int (0 : Int32))] [(.int (0 : Int32))])) _
                            refine XS.iload X294.here hx rfl (hb hby at_89) rfl ?_
                            show Steps p.tables e below (T294.setTop (mkF m 91 #[.val (.int p0), .val (.int p1), .val (.int ((p0 &&& (2147483647 : Int32)) % (13 : Int32))), .val (.int (1 : Int32)), .val (.ref w_11), .val (.ref b289), .val (.int (0 : Int32)), .val (.int (0 : Int32)), .val (.int (0 : Int32))] [(.int (0 : Int32)), (.int (0 : Int32))])) _
                            refine XS.icmpNo X294.here hx rfl (hb hby at_91) rfl (teq (by decide : ((0 : Int32) = (0 : Int32)))).2 ?_
                            show Steps p.tables e below (T294.setTop (mkF m 94 #[.val (.int p0), .val (.int p1), .val (.int ((p0 &&& (2147483647 : Int32)) % (13 : Int32))), .val (.int (1 : Int32)), .val (.ref w_11), .val (.ref b289), .val (.int (0 : Int32)), .val (.int (0 : Int32)), .val (.int (0 : Int32))] [])) _
                            refine XS.iconst X294.here hx rfl (hb hby at_94) ?_
                            show Steps p.tables e below (T294.setTop (mkF m 95 #[.val (.int p0), .val (.int p1), .val (.int ((p0 &&& (2147483647 : Int32)) % (13 : Int32))), .val (.int (1 : Int32)), .val (.ref w_11), .val (.ref b289), .val (.int (0 : Int32)), .val (.int (0 : Int32)), .val (.int (0 : Int32))] [(.int (1 : Int32))])) _
                            refine XS.goto X294.here hx rfl (pc0 := 95) (pc' := 99) rfl (hb hby at_95) (by decide) (by decide) ?_
                            show Steps p.tables e below (T294.setTop (mkF m 99 #[.val (.int p0), .val (.int p1), .val (.int ((p0 &&& (2147483647 : Int32)) % (13 : Int32))), .val (.int (1 : Int32)), .val (.ref w_11), .val (.ref b289), .val (.int (0 : Int32)), .val (.int (0 : Int32)), .val (.int (0 : Int32))] [(.int (1 : Int32))])) _
                            exact retN X294 hx (t := .boolean) Bd.returns (by simp) (hb hby at_99) hr
                          · show Q0 Z w_1 w_2 w_3 w_4 w_5 w_6 w_7 w_8 w_9 w_10 w_11 w_12 w_13 p0 p1 h0 n0 _ T294.heap _
                            rw [e294]
                            exact ⟨by unfold sp0; rw [if_neg hc30, if_neg hc207, if_neg hc215, if_neg hc223, if_neg hc231, if_neg hc239, if_neg hc247, if_neg hc255, if_neg hc263, if_neg hc271, if_neg hc279, if_pos hc287], N294, trivial⟩
                        · by_cases hc295 : ((p0 &&& (2147483647 : Int32)) % (13 : Int32)) = (11 : Int32)
                          · obtain ⟨_, _, ⟨T296, L296, k296, n296⟩, -, X296, ⟨Lc296, hQ296, l296, y296, z296⟩, st296⟩ := Jvm.LawKit.callS X0 hx (y := Y0) hown (mvT hZ (hw _ (tk 1 rfl))) (mvT hZ (hw _ (tk 2 rfl))) (mvT hZ (hw _ (tk 3 rfl))) (mvT hZ (hw _ (tk 4 rfl))) (by decide) (backOf (W := 0) (rm1 l Z a0 hw [] w_1 w_2 w_3 w_4 w_5 w_6 w_7 w_8 w_9 w_10 w_11 w_12 w_13 hS0 ((p0 &&& (2147483647 : Int32)) % (13 : Int32)) h0 n0 O0) hZ (hw _ (tk 4 rfl)) (hw _ (tk 3 rfl)) (by decide) (by decide)) (g := (mkF m 21 #[.val (.int p0), .val (.int p1), .val (.int ((p0 &&& (2147483647 : Int32)) % (13 : Int32))), .val (.int (1 : Int32)), .unset, .unset, .unset, .unset, .unset] [(.int ((p0 &&& (2147483647 : Int32)) % (13 : Int32)))])) rfl (by rw [hml]; rfl) (argsL := [(.int ((p0 &&& (2147483647 : Int32)) % (13 : Int32)))]) (rest := []) (lenOf pd_0 rfl) rfl (by show 2 * 0 + _ ≤ _; exact Nat.le_of_eq rfl) (hb hby at_21) (fun _ _ => ⟨rfl, e0, (by decide : 0 + 0 ≤ _), (by decide : 0 + 0 ≤ _)⟩)
                            dsimp only [Pt.U, Pt.locs, Pt.cells, Pt.slots] at X296 l296 y296 z296 st296 hQ296
                            subst l296 y296 z296
                            obtain ⟨rv296, N296q, e296⟩ := hQ296
                            rw [show sp1 w_1 w_3 w_4 w_5 w_6 w_7 w_8 w_9 w_10 w_11 w_12 w_13 ((p0 &&& (2147483647 : Int32)) % (13 : Int32)) = (.ref w_12) from by unfold sp1; rw [if_neg hc207, if_neg hc215, if_neg hc223, if_neg hc231, if_neg hc239, if_neg hc247, if_neg hc255, if_neg hc263, if_neg hc271, if_neg hc279, if_neg hc287, if_pos hc295]] at rv296
                            subst rv296
                            have N296 := Fr.app N0 N296q
                            obtain ⟨T297, h297, X297, e297, E297, A297, D297, -, st297⟩ := newO X296 hx hZ hown (hw _ (tk 8 rfl)) (hw _ (tk 9 rfl)) (hw _ (tk 10 rfl)) e296 (g := (mkF m 26 #[.val (.int p0), .val (.int p1), .val (.int ((p0 &&& (2147483647 : Int32)) % (13 : Int32))), .val (.int (1 : Int32)), .val (.ref w_12), .unset, .unset, .unset, .unset] [])) rfl (hb hby at_26) (by decide) (by decide)
                            obtain ⟨b297, g297⟩ : ∃ z, z = h0.size := ⟨_, rfl⟩
                            rw [← g297] at A297 D297 st297
                            have g_b297 : n0 ≤ b297 := Nat.le_trans (own_old O0) (Nat.le_of_eq g297.symm)
                            have O297 : Old Z n0 h297 := O0.ext E297
                            have F_integer_b297 : Fld Z h297 b297 "com/example/discharge/discharge/frontend/Syntax$Type" "integer" "Lcom/example/discharge/discharge/frontend/IntegerType;" .null := D297 (Or.inr (hw _ (tk 23 rfl))) (ty := (.object "com/example/discharge/discharge/frontend/IntegerType")) (by decide)
                            have F_pointer_b297 : Fld Z h297 b297 "com/example/discharge/discharge/frontend/Syntax$Type" "pointer" "Z" (.int (0 : Int32)) := D297 (Or.inr (hw _ (tk 25 rfl))) (ty := .boolean) (by decide)
                            obtain ⟨_, _, ⟨T298, L298, k298, n298⟩, -, X298, ⟨Lc298, hQ298, l298, y298, z298⟩, st298⟩ := X297.specialBack hx (y := Y2) rfl hown (mvT hZ (hw _ (tk 11 rfl))) (mvT hZ (hw _ (tk 12 rfl))) (mvT hZ (hw _ (tk 13 rfl))) (by decide) (backOf (W := 1) (rm2x1 l Z a0 hw [] w_1 w_2 w_3 w_4 w_5 w_6 w_7 w_8 w_9 w_10 w_11 w_12 w_13 hS0 b297 w_12 (1 : Int32) h297 n0 O297 g_b297 A297 F_integer_b297 F_pointer_b297) hZ (hw _ (tk 13 rfl)) (hw _ (tk 10 rfl)) (by decide) (by decide)) (g := (mkF m 33 #[.val (.int p0), .val (.int p1), .val (.int ((p0 &&& (2147483647 : Int32)) % (13 : Int32))), .val (.int (1 : Int32)), .val (.ref w_12), .unset, .unset, .unset, .unset] [(.int (1 : Int32)), (.ref w_12), (.ref b297), (.ref b297)])) rfl (by rw [hml]; rfl) (Steps.refl _) (a := b297) (argsL := [(.ref w_12), (.int (1 : Int32))]) (rest := [(.ref b297)]) (lenOf pd_2 rfl) rfl (by show 2 * 0 + _ ≤ _; exact Nat.le_of_eq rfl) (hb hby at_33) (fun _ _ => ⟨rfl, e297, (by decide : 1 + 0 ≤ _), (by decide : 2 + 0 ≤ _)⟩)
                            dsimp only [Pt.U, Pt.locs, Pt.cells, Pt.slots] at X298 l298 y298 z298 st298 hQ298
                            subst l298 y298 z298
                            obtain ⟨rv298, N298q, O298, K298c, Fe298_0, Fe298_1⟩ := hQ298
                            subst rv298
                            have N298 := Fr.app N296 N298q
                            have c300 := (A297.keep K298c)
                            obtain ⟨cq299, kq299, q299a, q299b, q299c⟩ := isOf hZ rfl c300
                            obtain ⟨_, _, ⟨T299, L299, k299, n299⟩, -, X299, ⟨Lc299, hQ299, l299, y299, z299⟩, st299⟩ := X298.virtualBack hx (y := Y3) (z := Y3) hown (mvT hZ (hw _ (tk 26 rfl))) (mvT hZ (hw _ (tk 27 rfl))) (notFace_of_selects (args := #[]) (mvT hZ (hw _ (tk 29 rfl)))) (mvT hZ (hw _ (tk 29 rfl))) (mvT hZ (hw _ (tk 28 rfl))) (by decide) (backOf (W := 0) (rm5 l Z a0 hw [] w_1 w_2 w_3 w_4 w_5 w_6 w_7 w_8 w_9 w_10 w_11 w_12 w_13 hS0 b297 (.ref w_12) (nar .boolean (1 : Int32)) T298.heap n0 O298 Fe298_0 rfl Fe298_1) hZ (hw _ (tk 30 rfl)) (hw _ (tk 10 rfl)) (by decide) (by decide)) q299a q299c (g := (mkF m 65 #[.val (.int p0), .val (.int p1), .val (.int ((p0 &&& (2147483647 : Int32)) % (13 : Int32))), .val (.int (1 : Int32)), .val (.ref w_12), .val (.ref b297), .val (.int (0 : Int32)), .unset, .unset] [(.ref b297)])) rfl (by rw [hml]; rfl) (Steps.refl _) (argsL := []) (rest := []) (lenOf pd_3 rfl) rfl (by show 2 * 0 + _ ≤ _; exact Nat.le_of_eq rfl) (hb hby at_65) (fun _ _ => ⟨rfl, rfl, (by decide : 1 + 0 ≤ _), (by decide : 2 + 0 ≤ _)⟩)
                            dsimp only [Pt.U, Pt.locs, Pt.cells, Pt.slots] at X299 l299 y299 z299 st299 hQ299
                            subst l299 y299 z299
                            obtain ⟨rv299, N299q, e299⟩ := hQ299
                            rw [show sp5 (.ref w_12) (nar .boolean (1 : Int32)) = (0 : Int32) from by unfold sp5; rw [if_neg (nofun : ¬ ((.ref w_12) : Value) = .null)]] at rv299
                            subst rv299
                            have N299 := Fr.app N298 N299q
                            obtain ⟨T301, X301, e301, st301⟩ := getS2 X299 hx hZ hown (host := "") (Or.inl (hw _ (tk 31 rfl))) Via.refl e299 (S_2.ext O298.2) (g := (mkF m 72 #[.val (.int p0), .val (.int p1), .val (.int ((p0 &&& (2147483647 : Int32)) % (13 : Int32))), .val (.int (1 : Int32)), .val (.ref w_12), .val (.ref b297), .val (.int (0 : Int32)), .val (.int (0 : Int32)), .unset] [(.ref b297)])) rfl (hb hby at_72)
                            obtain ⟨cq302, kq302, q302a, q302b, q302c⟩ := isOf hZ e301 c300
                            obtain ⟨_, _, ⟨T302, L302, k302, n302⟩, -, X302, ⟨Lc302, hQ302, l302, y302, z302⟩, st302⟩ := X301.virtualBack hx (y := Y4) (z := Y4) hown (mvT hZ (hw _ (tk 33 rfl))) (mvT hZ (hw _ (tk 34 rfl))) (notFace_of_selects (args := #[]) (mvT hZ (hw _ (tk 36 rfl)))) (mvT hZ (hw _ (tk 36 rfl))) (mvT hZ (hw _ (tk 35 rfl))) (by decide) (backOf (W := 0) (rm6c1 l Z a0 hw [] w_1 w_2 w_3 w_4 w_5 w_6 w_7 w_8 w_9 w_10 w_11 w_12 w_13 hS0 b297 w_2 .null (.ref w_12) (0 : Int32) (nar .boolean (1 : Int32)) T298.heap n0 O298 (E_2.ext O298.2) (F_2_integer.ext O298.2) rfl Fe298_0 rfl (F_2_pointer.ext O298.2) Fe298_1) hZ (hw _ (tk 37 rfl)) (hw _ (tk 10 rfl)) (by decide) (by decide)) q302a q302c (g := (mkF m 75 #[.val (.int p0), .val (.int p1), .val (.int ((p0 &&& (2147483647 : Int32)) % (13 : Int32))), .val (.int (1 : Int32)), .val (.ref w_12), .val (.ref b297), .val (.int (0 : Int32)), .val (.int (0 : Int32)), .unset] [(.ref w_2), (.ref b297)])) rfl (by rw [hml]; rfl) (Steps.refl _) (argsL := [(.ref w_2)]) (rest := []) (lenOf pd_4 rfl) rfl (by show 2 * 0 + _ ≤ _; exact Nat.le_of_eq rfl) (hb hby at_75) (fun _ _ => ⟨rfl, e301, (by decide : 1 + 0 ≤ _), (by decide : 2 + 0 ≤ _)⟩)
                            dsimp only [Pt.U, Pt.locs, Pt.cells, Pt.slots] at X302 l302 y302 z302 st302 hQ302
                            subst l302 y302 z302
                            obtain ⟨rv302, N302q, e302⟩ := hQ302
                            rw [show sp6c1 .null (.ref w_12) (0 : Int32) (nar .boolean (1 : Int32)) = (0 : Int32) from by unfold sp6c1; rw [if_neg (nofun : ¬ (.null : Value) = (.ref w_12))]] at rv302
                            subst rv302
                            have N302 := Fr.app N299 N302q
                            obtain ⟨fs, hr, hrun, hended, hW, hsame⟩ := X302.leave (v := some (.int (1 : Int32))) (fun h => by rw [Bd.returns] at h; cases h)
                            refine ⟨_, _, pre206 _ ?_, hrun, hended, _, _, rfl, ?_, ⟨_, rfl⟩, hW, hsame.mono (by decide) (by decide)⟩
                            · show Steps p.tables e below (s₁.setTop (mkF m 21 #[.val (.int p0), .val (.int p1), .val (.int ((p0 &&& (2147483647 : Int32)) % (13 : Int32))), .val (.int (1 : Int32)), .unset, .unset, .unset, .unset, .unset] [(.int ((p0 &&& (2147483647 : Int32)) % (13 : Int32)))])) _
                              refine st296 _ ?_
                              show Steps p.tables e below (T296.setTop (mkF m 24 #[.val (.int p0), .val (.int p1), .val (.int ((p0 &&& (2147483647 : Int32)) % (13 : Int32))), .val (.int (1 : Int32)), .unset, .unset, .unset, .unset, .unset] [(.ref w_12)])) _
                              refine XS.astore X296.here hx rfl (hb hby at_24) rfl rfl (l' := #[.val (.int p0), .val (.int p1), .val (.int ((p0 &&& (2147483647 : Int32)) % (13 : Int32))), .val (.int (1 : Int32)), .val (.ref w_12), .unset, .unset, .unset, .unset]) rfl ?_
                              show Steps p.tables e below (T296.setTop (mkF m 26 #[.val (.int p0), .val (.int p1), .val (.int ((p0 &&& (2147483647 : Int32)) % (13 : Int32))), .val (.int (1 : Int32)), .val (.ref w_12), .unset, .unset, .unset, .unset] [])) _
                              refine st297 _ ?_
                              show Steps p.tables e below (T297.setTop (mkF m 29 #[.val (.int p0), .val (.int p1), .val (.int ((p0 &&& (2147483647 : Int32)) % (13 : Int32))), .val (.int (1 : Int32)), .val (.ref w_12), .unset, .unset, .unset, .unset] [(.ref b297)])) _
                              refine XS.dup X297.here hx rfl (hb hby at_29) rfl rfl ?_
                              show Steps p.tables e below (T297.setTop (mkF m 30 #[.val (.int p0), .val (.int p1), .val (.int ((p0 &&& (2147483647 : Int32)) % (13 : Int32))), .val (.int (1 : Int32)), .val (.ref w_12), .unset, .unset, .unset, .unset] [(.ref b297), (.ref b297)])) _
                              refine XS.aload X297.here hx rfl (hb hby at_30) rfl rfl ?_
                              show Steps p.tables e below (T297.setTop (mkF m 32 #[.val (.int p0), .val (.int p1), .val (.int ((p0 &&& (2147483647 : Int32)) % (13 : Int32))), .val (.int (1 : Int32)), .val (.ref w_12), .unset, .unset, .unset, .unset] [(.ref w_12), (.ref b297), (.ref b297)])) _
                              refine XS.iloadN X297.here hx rfl (hb hby at_32) rfl ?_
                              show Steps p.tables e below (T297.setTop (mkF m 33 #[.val (.int p0), .val (.int p1), .val (.int ((p0 &&& (2147483647 : Int32)) % (13 : Int32))), .val (.int (1 : Int32)), .val (.ref w_12), .unset, .unset, .unset, .unset] [(.int (1 : Int32)), (.ref w_12), (.ref b297), (.ref b297)])) _
                              refine st298.trans ?_
                              show Steps p.tables e below (T298.setTop (mkF m 36 #[.val (.int p0), .val (.int p1), .val (.int ((p0 &&& (2147483647 : Int32)) % (13 : Int32))), .val (.int (1 : Int32)), .val (.ref w_12), .unset, .unset, .unset, .unset] [(.ref b297)])) _
                              refine XS.astore X298.here hx rfl (hb hby at_36) rfl rfl (l' := #[.val (.int p0), .val (.int p1), .val (.int ((p0 &&& (2147483647 : Int32)) % (13 : Int32))), .val (.int (1 : Int32)), .val (.ref w_12), .val (.ref b297), .unset, .unset, .unset]) rfl ?_
                              show Steps p.tables e below (T298.setTop (mkF m 38 #[.val (.int p0), .val (.int p1), .val (.int ((p0 &&& (2147483647 : Int32)) % (13 : Int32))), .val (.int (1 : Int32)), .val (.ref w_12), .val (.ref b297), .unset, .unset, .unset] [])) _
                              refine XS.iloadN X298.here hx rfl (hb hby at_38) rfl ?_
                              show Steps p.tables e below (T298.setTop (mkF m 39 #[.val (.int p0), .val (.int p1), .val (.int ((p0 &&& (2147483647 : Int32)) % (13 : Int32))), .val (.int (1 : Int32)), .val (.ref w_12), .val (.ref b297), .unset, .unset, .unset] [(.int (1 : Int32))])) _
                              refine XS.ifNo X298.here hx rfl (hb hby at_39) rfl ((if0 _ _).trans (feq (by decide : ¬ ((1 : Int32) = (0 : Int32)))).1) ?_
                              show Steps p.tables e below (T298.setTop (mkF m 42 #[.val (.int p0), .val (.int p1), .val (.int ((p0 &&& (2147483647 : Int32)) % (13 : Int32))), .val (.int (1 : Int32)), .val (.ref w_12), .val (.ref b297), .unset, .unset, .unset] [])) _
                              refine XS.iconst X298.here hx rfl (hb hby at_42) ?_
                              show Steps p.tables e below (T298.setTop (mkF m 43 #[.val (.int p0), .val (.int p1), .val (.int ((p0 &&& (2147483647 : Int32)) % (13 : Int32))), .val (.int (1 : Int32)), .val (.ref w_12), .val (.ref b297), .unset, .unset, .unset] [(.int (0 : Int32))])) _
                              refine XS.istore X298.here hx rfl (hb hby at_43) rfl (l' := #[.val (.int p0), .val (.int p1), .val (.int ((p0 &&& (2147483647 : Int32)) % (13 : Int32))), .val (.int (1 : Int32)), .val (.ref w_12), .val (.ref b297), .val (.int (0 : Int32)), .unset, .unset]) rfl ?_
                              show Steps p.tables e below (T298.setTop (mkF m 45 #[.val (.int p0), .val (.int p1), .val (.int ((p0 &&& (2147483647 : Int32)) % (13 : Int32))), .val (.int (1 : Int32)), .val (.ref w_12), .val (.ref b297), .val (.int (0 : Int32)), .unset, .unset] [])) _
                              refine XS.goto X298.here hx rfl (pc0 := 45) (pc' := 63) rfl (hb hby at_45) (by decide) (by decide) ?_
                              show Steps p.tables e below (T298.setTop (mkF m 63 #[.val (.int p0), .val (.int p1), .val (.int ((p0 &&& (2147483647 : Int32)) % (13 : Int32))), .val (.int (1 : Int32)), .val (.ref w_12), .val (.ref b297), .val (.int (0 : Int32)), .unset, .unset] [])) _
                              refine XS.aload X298.here hx rfl (hb hby at_63) rfl rfl ?_
                              show Steps p.tables e below (T298.setTop (mkF m 65 #[.val (.int p0), .val (.int p1), .val (.int ((p0 &&& (2147483647 : Int32)) % (13 : Int32))), .val (.int (1 : Int32)), .val (.ref w_12), .val (.ref b297), .val (.int (0 : Int32)), .unset, .unset] [(.ref b297)])) _
                              refine st299.trans ?_
                              show Steps p.tables e below (T299.setTop (mkF m 68 #[.val (.int p0), .val (.int p1), .val (.int ((p0 &&& (2147483647 : Int32)) % (13 : Int32))), .val (.int (1 : Int32)), .val (.ref w_12), .val (.ref b297), .val (.int (0 : Int32)), .unset, .unset] [(.int (0 : Int32))])) _
                              refine XS.istore X299.here hx rfl (hb hby at_68) rfl (l' := #[.val (.int p0), .val (.int p1), .val (.int ((p0 &&& (2147483647 : Int32)) % (13 : Int32))), .val (.int (1 : Int32)), .val (.ref w_12), .val (.ref b297), .val (.int (0 : Int32)), .val (.int (0 : Int32)), .unset]) rfl ?_
                              show Steps p.tables e below (T299.setTop (mkF m 70 #[.val (.int p0), .val (.int p1), .val (.int ((p0 &&& (2147483647 : Int32)) % (13 : Int32))), .val (.int (1 : Int32)), .val (.ref w_12), .val (.ref b297), .val (.int (0 : Int32)), .val (.int (0 : Int32)), .unset] [])) _
                              refine XS.aload X299.here hx rfl (hb hby at_70) rfl rfl ?_
                              show Steps p.tables e below (T299.setTop (mkF m 72 #[.val (.int p0), .val (.int p1), .val (.int ((p0 &&& (2147483647 : Int32)) % (13 : Int32))), .val (.int (1 : Int32)), .val (.ref w_12), .val (.ref b297), .val (.int (0 : Int32)), .val (.int (0 : Int32)), .unset] [(.ref b297)])) _
                              refine st301 _ ?_
                              show Steps p.tables e below (T301.setTop (mkF m 75 #[.val (.int p0), .val (.int p1), .val (.int ((p0 &&& (2147483647 : Int32)) % (13 : Int32))), .val (.int (1 : Int32)), .val (.ref w_12), .val (.ref b297), .val (.int (0 : Int32)), .val (.int (0 : Int32)), .unset] [(.ref w_2), (.ref b297)])) _
                              refine st302.trans ?_
                              show Steps p.tables e below (T302.setTop (mkF m 78 #[.val (.int p0), .val (.int p1), .val (.int ((p0 &&& (2147483647 : Int32)) % (13 : Int32))), .val (.int (1 : Int32)), .val (.ref w_12), .val (.ref b297), .val (.int (0 : Int32)), .val (.int (0 : Int32)), .unset] [(.int (0 : Int32))])) _
                              refine XS.istore X302.here hx rfl (hb hby at_78) rfl (l' := #[.val (.int p0), .val (.int p1), .val (.int ((p0 &&& (2147483647 : Int32)) % (13 : Int32))), .val (.int (1 : Int32)), .val (.ref w_12), .val (.ref b297), .val (.int (0 : Int32)), .val (.int (0 : Int32)), .val (.int (0 : Int32))]) rfl ?_
                              show Steps p.tables e below (T302.setTop (mkF m 80 #[.val (.int p0), .val (.int p1), .val (.int ((p0 &&& (2147483647 : Int32)) % (13 : Int32))), .val (.int (1 : Int32)), .val (.ref w_12), .val (.ref b297), .val (.int (0 : Int32)), .val (.int (0 : Int32)), .val (.int (0 : Int32))] [])) _
                              refine XS.iload X302.here hx rfl (hb hby at_80) rfl ?_
                              show Steps p.tables e below (T302.setTop (mkF m 82 #[.val (.int p0), .val (.int p1), .val (.int ((p0 &&& (2147483647 : Int32)) % (13 : Int32))), .val (.int (1 : Int32)), .val (.ref w_12), .val (.ref b297), .val (.int (0 : Int32)), .val (.int (0 : Int32)), .val (.int (0 : Int32))] [(.int (0 : Int32))])) _
                              refine XS.iload X302.here hx rfl (hb hby at_82) rfl ?_
                              show Steps p.tables e below (T302.setTop (mkF m 84 #[.val (.int p0), .val (.int p1), .val (.int ((p0 &&& (2147483647 : Int32)) % (13 : Int32))), .val (.int (1 : Int32)), .val (.ref w_12), .val (.ref b297), .val (.int (0 : Int32)), .val (.int (0 : Int32)), .val (.int (0 : Int32))] [(.int (0 : Int32)), (.int (0 : Int32))])) _
                              refine XS.icmpNo X302.here hx rfl (hb hby at_84) rfl (teq (by decide : ((0 : Int32) = (0 : Int32)))).2 ?_
                              show Steps p.tables e below (T302.setTop (mkF m 87 #[.val (.int p0), .val (.int p1), .val (.int ((p0 &&& (2147483647 : Int32)) % (13 : Int32))), .val (.int (1 : Int32)), .val (.ref w_12), .val (.ref b297), .val (.int (0 : Int32)), .val (.int (0 : Int32)), .val (.int (0 : Int32))] [])) _
                              refine XS.iload X302.here hx rfl (hb hby at_87) rfl ?_
                              show Steps p.tables e below (T302.setTop (mkF m 89 #[.val (.int p0), .val (.int p1), .val (.int ((p0 &&& (2147483647 : Int32)) % (13 : Int32))), .val (.int (1 : Int32)), .val (.ref w_12), .val (.ref b297), .val (.int (0 : Int32)), .val (.int (0 : Int32)), .val (.int (0 : Int32))] [(.int (0 : Int32))])) _
                              refine XS.iload X302.here hx rfl (hb hby at_89) rfl ?_
                              show Steps p.tables e below (T302.setTop (mkF m 91 #[.val (.int p0), .val (.int p1), .val (.int ((p0 &&& (2147483647 : Int32)) % (13 : Int32))), .val (.int (1 : Int32)), .val (.ref w_12), .val (.ref b297), .val (.int (0 : Int32)), .val (.int (0 : Int32)), .val (.int (0 : Int32))] [(.int (0 : Int32)), (.int (0 : Int32))])) _
                              refine XS.icmpNo X302.here hx rfl (hb hby at_91) rfl (teq (by decide : ((0 : Int32) = (0 : Int32)))).2 ?_
                              show Steps p.tables e below (T302.setTop (mkF m 94 #[.val (.int p0), .val (.int p1), .val (.int ((p0 &&& (2147483647 : Int32)) % (13 : Int32))), .val (.int (1 : Int32)), .val (.ref w_12), .val (.ref b297), .val (.int (0 : Int32)), .val (.int (0 : Int32)), .val (.int (0 : Int32))] [])) _
                              refine XS.iconst X302.here hx rfl (hb hby at_94) ?_
                              show Steps p.tables e below (T302.setTop (mkF m 95 #[.val (.int p0), .val (.int p1), .val (.int ((p0 &&& (2147483647 : Int32)) % (13 : Int32))), .val (.int (1 : Int32)), .val (.ref w_12), .val (.ref b297), .val (.int (0 : Int32)), .val (.int (0 : Int32)), .val (.int (0 : Int32))] [(.int (1 : Int32))])) _
                              refine XS.goto X302.here hx rfl (pc0 := 95) (pc' := 99) rfl (hb hby at_95) (by decide) (by decide) ?_
                              show Steps p.tables e below (T302.setTop (mkF m 99 #[.val (.int p0), .val (.int p1), .val (.int ((p0 &&& (2147483647 : Int32)) % (13 : Int32))), .val (.int (1 : Int32)), .val (.ref w_12), .val (.ref b297), .val (.int (0 : Int32)), .val (.int (0 : Int32)), .val (.int (0 : Int32))] [(.int (1 : Int32))])) _
                              exact retN X302 hx (t := .boolean) Bd.returns (by simp) (hb hby at_99) hr
                            · show Q0 Z w_1 w_2 w_3 w_4 w_5 w_6 w_7 w_8 w_9 w_10 w_11 w_12 w_13 p0 p1 h0 n0 _ T302.heap _
                              rw [e302]
                              exact ⟨by unfold sp0; rw [if_neg hc30, if_neg hc207, if_neg hc215, if_neg hc223, if_neg hc231, if_neg hc239, if_neg hc247, if_neg hc255, if_neg hc263, if_neg hc271, if_neg hc279, if_neg hc287, if_pos hc295], N302, trivial⟩
                          · obtain ⟨_, _, ⟨T303, L303, k303, n303⟩, -, X303, ⟨Lc303, hQ303, l303, y303, z303⟩, st303⟩ := Jvm.LawKit.callS X0 hx (y := Y0) hown (mvT hZ (hw _ (tk 1 rfl))) (mvT hZ (hw _ (tk 2 rfl))) (mvT hZ (hw _ (tk 3 rfl))) (mvT hZ (hw _ (tk 4 rfl))) (by decide) (backOf (W := 0) (rm1 l Z a0 hw [] w_1 w_2 w_3 w_4 w_5 w_6 w_7 w_8 w_9 w_10 w_11 w_12 w_13 hS0 ((p0 &&& (2147483647 : Int32)) % (13 : Int32)) h0 n0 O0) hZ (hw _ (tk 4 rfl)) (hw _ (tk 3 rfl)) (by decide) (by decide)) (g := (mkF m 21 #[.val (.int p0), .val (.int p1), .val (.int ((p0 &&& (2147483647 : Int32)) % (13 : Int32))), .val (.int (1 : Int32)), .unset, .unset, .unset, .unset, .unset] [(.int ((p0 &&& (2147483647 : Int32)) % (13 : Int32)))])) rfl (by rw [hml]; rfl) (argsL := [(.int ((p0 &&& (2147483647 : Int32)) % (13 : Int32)))]) (rest := []) (lenOf pd_0 rfl) rfl (by show 2 * 0 + _ ≤ _; exact Nat.le_of_eq rfl) (hb hby at_21) (fun _ _ => ⟨rfl, e0, (by decide : 0 + 0 ≤ _), (by decide : 0 + 0 ≤ _)⟩)
                            dsimp only [Pt.U, Pt.locs, Pt.cells, Pt.slots] at X303 l303 y303 z303 st303 hQ303
                            subst l303 y303 z303
                            obtain ⟨rv303, N303q, e303⟩ := hQ303
                            rw [show sp1 w_1 w_3 w_4 w_5 w_6 w_7 w_8 w_9 w_10 w_11 w_12 w_13 ((p0 &&& (2147483647 : Int32)) % (13 : Int32)) = .null from by unfold sp1; rw [if_neg hc207, if_neg hc215, if_neg hc223, if_neg hc231, if_neg hc239, if_neg hc247, if_neg hc255, if_neg hc263, if_neg hc271, if_neg hc279, if_neg hc287, if_neg hc295]] at rv303
                            subst rv303
                            have N303 := Fr.app N0 N303q
                            obtain ⟨T304, h304, X304, e304, E304, A304, D304, -, st304⟩ := newO X303 hx hZ hown (hw _ (tk 8 rfl)) (hw _ (tk 9 rfl)) (hw _ (tk 10 rfl)) e303 (g := (mkF m 26 #[.val (.int p0), .val (.int p1), .val (.int ((p0 &&& (2147483647 : Int32)) % (13 : Int32))), .val (.int (1 : Int32)), .val .null, .unset, .unset, .unset, .unset] [])) rfl (hb hby at_26) (by decide) (by decide)
                            obtain ⟨b304, g304⟩ : ∃ z, z = h0.size := ⟨_, rfl⟩
                            rw [← g304] at A304 D304 st304
                            have g_b304 : n0 ≤ b304 := Nat.le_trans (own_old O0) (Nat.le_of_eq g304.symm)
                            have O304 : Old Z n0 h304 := O0.ext E304
                            have F_integer_b304 : Fld Z h304 b304 "com/example/discharge/discharge/frontend/Syntax$Type" "integer" "Lcom/example/discharge/discharge/frontend/IntegerType;" .null := D304 (Or.inr (hw _ (tk 23 rfl))) (ty := (.object "com/example/discharge/discharge/frontend/IntegerType")) (by decide)
                            have F_pointer_b304 : Fld Z h304 b304 "com/example/discharge/discharge/frontend/Syntax$Type" "pointer" "Z" (.int (0 : Int32)) := D304 (Or.inr (hw _ (tk 25 rfl))) (ty := .boolean) (by decide)
                            obtain ⟨_, _, ⟨T305, L305, k305, n305⟩, -, X305, ⟨Lc305, hQ305, l305, y305, z305⟩, st305⟩ := X304.specialBack hx (y := Y2) rfl hown (mvT hZ (hw _ (tk 11 rfl))) (mvT hZ (hw _ (tk 12 rfl))) (mvT hZ (hw _ (tk 13 rfl))) (by decide) (backOf (W := 1) (rm2n1x2 l Z a0 hw [] w_1 w_2 w_3 w_4 w_5 w_6 w_7 w_8 w_9 w_10 w_11 w_12 w_13 hS0 b304 (1 : Int32) h304 n0 O304 g_b304 A304 F_integer_b304 F_pointer_b304) hZ (hw _ (tk 13 rfl)) (hw _ (tk 10 rfl)) (by decide) (by decide)) (g := (mkF m 33 #[.val (.int p0), .val (.int p1), .val (.int ((p0 &&& (2147483647 : Int32)) % (13 : Int32))), .val (.int (1 : Int32)), .val .null, .unset, .unset, .unset, .unset] [(.int (1 : Int32)), .null, (.ref b304), (.ref b304)])) rfl (by rw [hml]; rfl) (Steps.refl _) (a := b304) (argsL := [.null, (.int (1 : Int32))]) (rest := [(.ref b304)]) (lenOf pd_2 rfl) rfl (by show 2 * 0 + _ ≤ _; exact Nat.le_of_eq rfl) (hb hby at_33) (fun _ _ => ⟨rfl, e304, (by decide : 1 + 0 ≤ _), (by decide : 2 + 0 ≤ _)⟩)
                            dsimp only [Pt.U, Pt.locs, Pt.cells, Pt.slots] at X305 l305 y305 z305 st305 hQ305
                            subst l305 y305 z305
                            obtain ⟨rv305, N305q, O305, K305c, Fe305_0, Fe305_1⟩ := hQ305
                            subst rv305
                            have N305 := Fr.app N303 N305q
                            have c307 := (A304.keep K305c)
                            obtain ⟨cq306, kq306, q306a, q306b, q306c⟩ := isOf hZ rfl c307
                            obtain ⟨_, _, ⟨T306, L306, k306, n306⟩, -, X306, ⟨Lc306, hQ306, l306, y306, z306⟩, st306⟩ := X305.virtualBack hx (y := Y3) (z := Y3) hown (mvT hZ (hw _ (tk 26 rfl))) (mvT hZ (hw _ (tk 27 rfl))) (notFace_of_selects (args := #[]) (mvT hZ (hw _ (tk 29 rfl)))) (mvT hZ (hw _ (tk 29 rfl))) (mvT hZ (hw _ (tk 28 rfl))) (by decide) (backOf (W := 0) (rm5 l Z a0 hw [] w_1 w_2 w_3 w_4 w_5 w_6 w_7 w_8 w_9 w_10 w_11 w_12 w_13 hS0 b304 .null (nar .boolean (1 : Int32)) T305.heap n0 O305 Fe305_0 rfl Fe305_1) hZ (hw _ (tk 30 rfl)) (hw _ (tk 10 rfl)) (by decide) (by decide)) q306a q306c (g := (mkF m 65 #[.val (.int p0), .val (.int p1), .val (.int ((p0 &&& (2147483647 : Int32)) % (13 : Int32))), .val (.int (1 : Int32)), .val .null, .val (.ref b304), .val (.int (0 : Int32)), .unset, .unset] [(.ref b304)])) rfl (by rw [hml]; rfl) (Steps.refl _) (argsL := []) (rest := []) (lenOf pd_3 rfl) rfl (by show 2 * 0 + _ ≤ _; exact Nat.le_of_eq rfl) (hb hby at_65) (fun _ _ => ⟨rfl, rfl, (by decide : 1 + 0 ≤ _), (by decide : 2 + 0 ≤ _)⟩)
                            dsimp only [Pt.U, Pt.locs, Pt.cells, Pt.slots] at X306 l306 y306 z306 st306 hQ306
                            subst l306 y306 z306
                            obtain ⟨rv306, N306q, e306⟩ := hQ306
                            rw [show sp5 .null (nar .boolean (1 : Int32)) = (0 : Int32) from by unfold sp5; rw [if_pos rfl, if_neg (by decide : ¬ ((nar .boolean (1 : Int32)) = (0 : Int32)))]] at rv306
                            subst rv306
                            have N306 := Fr.app N305 N306q
                            obtain ⟨T308, X308, e308, st308⟩ := getS2 X306 hx hZ hown (host := "") (Or.inl (hw _ (tk 31 rfl))) Via.refl e306 (S_2.ext O305.2) (g := (mkF m 72 #[.val (.int p0), .val (.int p1), .val (.int ((p0 &&& (2147483647 : Int32)) % (13 : Int32))), .val (.int (1 : Int32)), .val .null, .val (.ref b304), .val (.int (0 : Int32)), .val (.int (0 : Int32)), .unset] [(.ref b304)])) rfl (hb hby at_72)
                            obtain ⟨cq309, kq309, q309a, q309b, q309c⟩ := isOf hZ e308 c307
                            obtain ⟨_, _, ⟨T309, L309, k309, n309⟩, -, X309, ⟨Lc309, hQ309, l309, y309, z309⟩, st309⟩ := X308.virtualBack hx (y := Y4) (z := Y4) hown (mvT hZ (hw _ (tk 33 rfl))) (mvT hZ (hw _ (tk 34 rfl))) (notFace_of_selects (args := #[]) (mvT hZ (hw _ (tk 36 rfl)))) (mvT hZ (hw _ (tk 36 rfl))) (mvT hZ (hw _ (tk 35 rfl))) (by decide) (backOf (W := 0) (rm6c1 l Z a0 hw [] w_1 w_2 w_3 w_4 w_5 w_6 w_7 w_8 w_9 w_10 w_11 w_12 w_13 hS0 b304 w_2 .null .null (0 : Int32) (nar .boolean (1 : Int32)) T305.heap n0 O305 (E_2.ext O305.2) (F_2_integer.ext O305.2) rfl Fe305_0 rfl (F_2_pointer.ext O305.2) Fe305_1) hZ (hw _ (tk 37 rfl)) (hw _ (tk 10 rfl)) (by decide) (by decide)) q309a q309c (g := (mkF m 75 #[.val (.int p0), .val (.int p1), .val (.int ((p0 &&& (2147483647 : Int32)) % (13 : Int32))), .val (.int (1 : Int32)), .val .null, .val (.ref b304), .val (.int (0 : Int32)), .val (.int (0 : Int32)), .unset] [(.ref w_2), (.ref b304)])) rfl (by rw [hml]; rfl) (Steps.refl _) (argsL := [(.ref w_2)]) (rest := []) (lenOf pd_4 rfl) rfl (by show 2 * 0 + _ ≤ _; exact Nat.le_of_eq rfl) (hb hby at_75) (fun _ _ => ⟨rfl, e308, (by decide : 1 + 0 ≤ _), (by decide : 2 + 0 ≤ _)⟩)
                            dsimp only [Pt.U, Pt.locs, Pt.cells, Pt.slots] at X309 l309 y309 z309 st309 hQ309
                            subst l309 y309 z309
                            obtain ⟨rv309, N309q, e309⟩ := hQ309
                            rw [show sp6c1 .null .null (0 : Int32) (nar .boolean (1 : Int32)) = (0 : Int32) from by unfold sp6c1; rw [if_pos rfl, if_neg (by decide : ¬ ((0 : Int32) = (nar .boolean (1 : Int32))))]] at rv309
                            subst rv309
                            have N309 := Fr.app N306 N309q
                            obtain ⟨fs, hr, hrun, hended, hW, hsame⟩ := X309.leave (v := some (.int (1 : Int32))) (fun h => by rw [Bd.returns] at h; cases h)
                            refine ⟨_, _, pre206 _ ?_, hrun, hended, _, _, rfl, ?_, ⟨_, rfl⟩, hW, hsame.mono (by decide) (by decide)⟩
                            · show Steps p.tables e below (s₁.setTop (mkF m 21 #[.val (.int p0), .val (.int p1), .val (.int ((p0 &&& (2147483647 : Int32)) % (13 : Int32))), .val (.int (1 : Int32)), .unset, .unset, .unset, .unset, .unset] [(.int ((p0 &&& (2147483647 : Int32)) % (13 : Int32)))])) _
                              refine st303 _ ?_
                              show Steps p.tables e below (T303.setTop (mkF m 24 #[.val (.int p0), .val (.int p1), .val (.int ((p0 &&& (2147483647 : Int32)) % (13 : Int32))), .val (.int (1 : Int32)), .unset, .unset, .unset, .unset, .unset] [.null])) _
                              refine XS.astore X303.here hx rfl (hb hby at_24) rfl rfl (l' := #[.val (.int p0), .val (.int p1), .val (.int ((p0 &&& (2147483647 : Int32)) % (13 : Int32))), .val (.int (1 : Int32)), .val .null, .unset, .unset, .unset, .unset]) rfl ?_
                              show Steps p.tables e below (T303.setTop (mkF m 26 #[.val (.int p0), .val (.int p1), .val (.int ((p0 &&& (2147483647 : Int32)) % (13 : Int32))), .val (.int (1 : Int32)), .val .null, .unset, .unset, .unset, .unset] [])) _
                              refine st304 _ ?_
                              show Steps p.tables e below (T304.setTop (mkF m 29 #[.val (.int p0), .val (.int p1), .val (.int ((p0 &&& (2147483647 : Int32)) % (13 : Int32))), .val (.int (1 : Int32)), .val .null, .unset, .unset, .unset, .unset] [(.ref b304)])) _
                              refine XS.dup X304.here hx rfl (hb hby at_29) rfl rfl ?_
                              show Steps p.tables e below (T304.setTop (mkF m 30 #[.val (.int p0), .val (.int p1), .val (.int ((p0 &&& (2147483647 : Int32)) % (13 : Int32))), .val (.int (1 : Int32)), .val .null, .unset, .unset, .unset, .unset] [(.ref b304), (.ref b304)])) _
                              refine XS.aload X304.here hx rfl (hb hby at_30) rfl rfl ?_
                              show Steps p.tables e below (T304.setTop (mkF m 32 #[.val (.int p0), .val (.int p1), .val (.int ((p0 &&& (2147483647 : Int32)) % (13 : Int32))), .val (.int (1 : Int32)), .val .null, .unset, .unset, .unset, .unset] [.null, (.ref b304), (.ref b304)])) _
                              refine XS.iloadN X304.here hx rfl (hb hby at_32) rfl ?_
                              show Steps p.tables e below (T304.setTop (mkF m 33 #[.val (.int p0), .val (.int p1), .val (.int ((p0 &&& (2147483647 : Int32)) % (13 : Int32))), .val (.int (1 : Int32)), .val .null, .unset, .unset, .unset, .unset] [(.int (1 : Int32)), .null, (.ref b304), (.ref b304)])) _
                              refine st305.trans ?_
                              show Steps p.tables e below (T305.setTop (mkF m 36 #[.val (.int p0), .val (.int p1), .val (.int ((p0 &&& (2147483647 : Int32)) % (13 : Int32))), .val (.int (1 : Int32)), .val .null, .unset, .unset, .unset, .unset] [(.ref b304)])) _
                              refine XS.astore X305.here hx rfl (hb hby at_36) rfl rfl (l' := #[.val (.int p0), .val (.int p1), .val (.int ((p0 &&& (2147483647 : Int32)) % (13 : Int32))), .val (.int (1 : Int32)), .val .null, .val (.ref b304), .unset, .unset, .unset]) rfl ?_
                              show Steps p.tables e below (T305.setTop (mkF m 38 #[.val (.int p0), .val (.int p1), .val (.int ((p0 &&& (2147483647 : Int32)) % (13 : Int32))), .val (.int (1 : Int32)), .val .null, .val (.ref b304), .unset, .unset, .unset] [])) _
                              refine XS.iloadN X305.here hx rfl (hb hby at_38) rfl ?_
                              show Steps p.tables e below (T305.setTop (mkF m 39 #[.val (.int p0), .val (.int p1), .val (.int ((p0 &&& (2147483647 : Int32)) % (13 : Int32))), .val (.int (1 : Int32)), .val .null, .val (.ref b304), .unset, .unset, .unset] [(.int (1 : Int32))])) _
                              refine XS.ifNo X305.here hx rfl (hb hby at_39) rfl ((if0 _ _).trans (feq (by decide : ¬ ((1 : Int32) = (0 : Int32)))).1) ?_
                              show Steps p.tables e below (T305.setTop (mkF m 42 #[.val (.int p0), .val (.int p1), .val (.int ((p0 &&& (2147483647 : Int32)) % (13 : Int32))), .val (.int (1 : Int32)), .val .null, .val (.ref b304), .unset, .unset, .unset] [])) _
                              refine XS.iconst X305.here hx rfl (hb hby at_42) ?_
                              show Steps p.tables e below (T305.setTop (mkF m 43 #[.val (.int p0), .val (.int p1), .val (.int ((p0 &&& (2147483647 : Int32)) % (13 : Int32))), .val (.int (1 : Int32)), .val .null, .val (.ref b304), .unset, .unset, .unset] [(.int (0 : Int32))])) _
                              refine XS.istore X305.here hx rfl (hb hby at_43) rfl (l' := #[.val (.int p0), .val (.int p1), .val (.int ((p0 &&& (2147483647 : Int32)) % (13 : Int32))), .val (.int (1 : Int32)), .val .null, .val (.ref b304), .val (.int (0 : Int32)), .unset, .unset]) rfl ?_
                              show Steps p.tables e below (T305.setTop (mkF m 45 #[.val (.int p0), .val (.int p1), .val (.int ((p0 &&& (2147483647 : Int32)) % (13 : Int32))), .val (.int (1 : Int32)), .val .null, .val (.ref b304), .val (.int (0 : Int32)), .unset, .unset] [])) _
                              refine XS.goto X305.here hx rfl (pc0 := 45) (pc' := 63) rfl (hb hby at_45) (by decide) (by decide) ?_
                              show Steps p.tables e below (T305.setTop (mkF m 63 #[.val (.int p0), .val (.int p1), .val (.int ((p0 &&& (2147483647 : Int32)) % (13 : Int32))), .val (.int (1 : Int32)), .val .null, .val (.ref b304), .val (.int (0 : Int32)), .unset, .unset] [])) _
                              refine XS.aload X305.here hx rfl (hb hby at_63) rfl rfl ?_
                              show Steps p.tables e below (T305.setTop (mkF m 65 #[.val (.int p0), .val (.int p1), .val (.int ((p0 &&& (2147483647 : Int32)) % (13 : Int32))), .val (.int (1 : Int32)), .val .null, .val (.ref b304), .val (.int (0 : Int32)), .unset, .unset] [(.ref b304)])) _
                              refine st306.trans ?_
                              show Steps p.tables e below (T306.setTop (mkF m 68 #[.val (.int p0), .val (.int p1), .val (.int ((p0 &&& (2147483647 : Int32)) % (13 : Int32))), .val (.int (1 : Int32)), .val .null, .val (.ref b304), .val (.int (0 : Int32)), .unset, .unset] [(.int (0 : Int32))])) _
                              refine XS.istore X306.here hx rfl (hb hby at_68) rfl (l' := #[.val (.int p0), .val (.int p1), .val (.int ((p0 &&& (2147483647 : Int32)) % (13 : Int32))), .val (.int (1 : Int32)), .val .null, .val (.ref b304), .val (.int (0 : Int32)), .val (.int (0 : Int32)), .unset]) rfl ?_
                              show Steps p.tables e below (T306.setTop (mkF m 70 #[.val (.int p0), .val (.int p1), .val (.int ((p0 &&& (2147483647 : Int32)) % (13 : Int32))), .val (.int (1 : Int32)), .val .null, .val (.ref b304), .val (.int (0 : Int32)), .val (.int (0 : Int32)), .unset] [])) _
                              refine XS.aload X306.here hx rfl (hb hby at_70) rfl rfl ?_
                              show Steps p.tables e below (T306.setTop (mkF m 72 #[.val (.int p0), .val (.int p1), .val (.int ((p0 &&& (2147483647 : Int32)) % (13 : Int32))), .val (.int (1 : Int32)), .val .null, .val (.ref b304), .val (.int (0 : Int32)), .val (.int (0 : Int32)), .unset] [(.ref b304)])) _
                              refine st308 _ ?_
                              show Steps p.tables e below (T308.setTop (mkF m 75 #[.val (.int p0), .val (.int p1), .val (.int ((p0 &&& (2147483647 : Int32)) % (13 : Int32))), .val (.int (1 : Int32)), .val .null, .val (.ref b304), .val (.int (0 : Int32)), .val (.int (0 : Int32)), .unset] [(.ref w_2), (.ref b304)])) _
                              refine st309.trans ?_
                              show Steps p.tables e below (T309.setTop (mkF m 78 #[.val (.int p0), .val (.int p1), .val (.int ((p0 &&& (2147483647 : Int32)) % (13 : Int32))), .val (.int (1 : Int32)), .val .null, .val (.ref b304), .val (.int (0 : Int32)), .val (.int (0 : Int32)), .unset] [(.int (0 : Int32))])) _
                              refine XS.istore X309.here hx rfl (hb hby at_78) rfl (l' := #[.val (.int p0), .val (.int p1), .val (.int ((p0 &&& (2147483647 : Int32)) % (13 : Int32))), .val (.int (1 : Int32)), .val .null, .val (.ref b304), .val (.int (0 : Int32)), .val (.int (0 : Int32)), .val (.int (0 : Int32))]) rfl ?_
                              show Steps p.tables e below (T309.setTop (mkF m 80 #[.val (.int p0), .val (.int p1), .val (.int ((p0 &&& (2147483647 : Int32)) % (13 : Int32))), .val (.int (1 : Int32)), .val .null, .val (.ref b304), .val (.int (0 : Int32)), .val (.int (0 : Int32)), .val (.int (0 : Int32))] [])) _
                              refine XS.iload X309.here hx rfl (hb hby at_80) rfl ?_
                              show Steps p.tables e below (T309.setTop (mkF m 82 #[.val (.int p0), .val (.int p1), .val (.int ((p0 &&& (2147483647 : Int32)) % (13 : Int32))), .val (.int (1 : Int32)), .val .null, .val (.ref b304), .val (.int (0 : Int32)), .val (.int (0 : Int32)), .val (.int (0 : Int32))] [(.int (0 : Int32))])) _
                              refine XS.iload X309.here hx rfl (hb hby at_82) rfl ?_
                              show Steps p.tables e below (T309.setTop (mkF m 84 #[.val (.int p0), .val (.int p1), .val (.int ((p0 &&& (2147483647 : Int32)) % (13 : Int32))), .val (.int (1 : Int32)), .val .null, .val (.ref b304), .val (.int (0 : Int32)), .val (.int (0 : Int32)), .val (.int (0 : Int32))] [(.int (0 : Int32)), (.int (0 : Int32))])) _
                              refine XS.icmpNo X309.here hx rfl (hb hby at_84) rfl (teq (by decide : ((0 : Int32) = (0 : Int32)))).2 ?_
                              show Steps p.tables e below (T309.setTop (mkF m 87 #[.val (.int p0), .val (.int p1), .val (.int ((p0 &&& (2147483647 : Int32)) % (13 : Int32))), .val (.int (1 : Int32)), .val .null, .val (.ref b304), .val (.int (0 : Int32)), .val (.int (0 : Int32)), .val (.int (0 : Int32))] [])) _
                              refine XS.iload X309.here hx rfl (hb hby at_87) rfl ?_
                              show Steps p.tables e below (T309.setTop (mkF m 89 #[.val (.int p0), .val (.int p1), .val (.int ((p0 &&& (2147483647 : Int32)) % (13 : Int32))), .val (.int (1 : Int32)), .val .null, .val (.ref b304), .val (.int (0 : Int32)), .val (.int (0 : Int32)), .val (.int (0 : Int32))] [(.int (0 : Int32))])) _
                              refine XS.iload X309.here hx rfl (hb hby at_89) rfl ?_
                              show Steps p.tables e below (T309.setTop (mkF m 91 #[.val (.int p0), .val (.int p1), .val (.int ((p0 &&& (2147483647 : Int32)) % (13 : Int32))), .val (.int (1 : Int32)), .val .null, .val (.ref b304), .val (.int (0 : Int32)), .val (.int (0 : Int32)), .val (.int (0 : Int32))] [(.int (0 : Int32)), (.int (0 : Int32))])) _
                              refine XS.icmpNo X309.here hx rfl (hb hby at_91) rfl (teq (by decide : ((0 : Int32) = (0 : Int32)))).2 ?_
                              show Steps p.tables e below (T309.setTop (mkF m 94 #[.val (.int p0), .val (.int p1), .val (.int ((p0 &&& (2147483647 : Int32)) % (13 : Int32))), .val (.int (1 : Int32)), .val .null, .val (.ref b304), .val (.int (0 : Int32)), .val (.int (0 : Int32)), .val (.int (0 : Int32))] [])) _
                              refine XS.iconst X309.here hx rfl (hb hby at_94) ?_
                              show Steps p.tables e below (T309.setTop (mkF m 95 #[.val (.int p0), .val (.int p1), .val (.int ((p0 &&& (2147483647 : Int32)) % (13 : Int32))), .val (.int (1 : Int32)), .val .null, .val (.ref b304), .val (.int (0 : Int32)), .val (.int (0 : Int32)), .val (.int (0 : Int32))] [(.int (1 : Int32))])) _
                              refine XS.goto X309.here hx rfl (pc0 := 95) (pc' := 99) rfl (hb hby at_95) (by decide) (by decide) ?_
                              show Steps p.tables e below (T309.setTop (mkF m 99 #[.val (.int p0), .val (.int p1), .val (.int ((p0 &&& (2147483647 : Int32)) % (13 : Int32))), .val (.int (1 : Int32)), .val .null, .val (.ref b304), .val (.int (0 : Int32)), .val (.int (0 : Int32)), .val (.int (0 : Int32))] [(.int (1 : Int32))])) _
                              exact retN X309 hx (t := .boolean) Bd.returns (by simp) (hb hby at_99) hr
                            · show Q0 Z w_1 w_2 w_3 w_4 w_5 w_6 w_7 w_8 w_9 w_10 w_11 w_12 w_13 p0 p1 h0 n0 _ T309.heap _
                              rw [e309]
                              exact ⟨by unfold sp0; rw [if_neg hc30, if_neg hc207, if_neg hc215, if_neg hc223, if_neg hc231, if_neg hc239, if_neg hc247, if_neg hc255, if_neg hc263, if_neg hc271, if_neg hc279, if_neg hc287, if_neg hc295], N309, trivial⟩

theorem own_plain (p0 : Int32) (p1 : Int32) : sp0 p0 p1 = (1 : Int32) := by
  unfold sp0
  have r := own_rrem (p0 &&& (2147483647 : Int32)) (13 : Int32) 13 (own_rand p0 (2147483647 : Int32) 2147483648 (by decide) (by decide)).1 (by decide) (by decide)
  generalize ((p0 &&& (2147483647 : Int32)) % (13 : Int32)) = k at *
  by_cases h : (p1 &&& (1 : Int32)) = (0 : Int32)
  · rw [if_pos h]
    clear h
    have q : k.toInt = 0 ∨ k.toInt = 1 ∨ k.toInt = 2 ∨ k.toInt = 3 ∨ k.toInt = 4 ∨ k.toInt = 5 ∨ k.toInt = 6 ∨ k.toInt = 7 ∨ k.toInt = 8 ∨ k.toInt = 9 ∨ k.toInt = 10 ∨ k.toInt = 11 ∨ k.toInt = 12 := by omega
    rcases q with q | q | q | q | q | q | q | q | q | q | q | q | q
    · obtain rfl : k = 0 := own_eq (n := 0) (by decide) q
      decide
    · obtain rfl : k = 1 := own_eq (n := 1) (by decide) q
      decide
    · obtain rfl : k = 2 := own_eq (n := 2) (by decide) q
      decide
    · obtain rfl : k = 3 := own_eq (n := 3) (by decide) q
      decide
    · obtain rfl : k = 4 := own_eq (n := 4) (by decide) q
      decide
    · obtain rfl : k = 5 := own_eq (n := 5) (by decide) q
      decide
    · obtain rfl : k = 6 := own_eq (n := 6) (by decide) q
      decide
    · obtain rfl : k = 7 := own_eq (n := 7) (by decide) q
      decide
    · obtain rfl : k = 8 := own_eq (n := 8) (by decide) q
      decide
    · obtain rfl : k = 9 := own_eq (n := 9) (by decide) q
      decide
    · obtain rfl : k = 10 := own_eq (n := 10) (by decide) q
      decide
    · obtain rfl : k = 11 := own_eq (n := 11) (by decide) q
      decide
    · obtain rfl : k = 12 := own_eq (n := 12) (by decide) q
      decide
  · rw [if_neg h]
    clear h
    have q : k.toInt = 0 ∨ k.toInt = 1 ∨ k.toInt = 2 ∨ k.toInt = 3 ∨ k.toInt = 4 ∨ k.toInt = 5 ∨ k.toInt = 6 ∨ k.toInt = 7 ∨ k.toInt = 8 ∨ k.toInt = 9 ∨ k.toInt = 10 ∨ k.toInt = 11 ∨ k.toInt = 12 := by omega
    rcases q with q | q | q | q | q | q | q | q | q | q | q | q | q
    · obtain rfl : k = 0 := own_eq (n := 0) (by decide) q
      decide
    · obtain rfl : k = 1 := own_eq (n := 1) (by decide) q
      decide
    · obtain rfl : k = 2 := own_eq (n := 2) (by decide) q
      decide
    · obtain rfl : k = 3 := own_eq (n := 3) (by decide) q
      decide
    · obtain rfl : k = 4 := own_eq (n := 4) (by decide) q
      decide
    · obtain rfl : k = 5 := own_eq (n := 5) (by decide) q
      decide
    · obtain rfl : k = 6 := own_eq (n := 6) (by decide) q
      decide
    · obtain rfl : k = 7 := own_eq (n := 7) (by decide) q
      decide
    · obtain rfl : k = 8 := own_eq (n := 8) (by decide) q
      decide
    · obtain rfl : k = 9 := own_eq (n := 9) (by decide) q
      decide
    · obtain rfl : k = 10 := own_eq (n := 10) (by decide) q
      decide
    · obtain rfl : k = 11 := own_eq (n := 11) (by decide) q
      decide
    · obtain rfl : k = 12 := own_eq (n := 12) (by decide) q
      decide
set_option maxRecDepth 65536 in
set_option maxHeartbeats 40000000 in
theorem comes_1 {Post : Tables → Env → Array Value → State → Outcome → State → Prop} (hpost : ∀ tb e args s v u, (limb_1_1.after args s (.returned v) u = true ∧ limb_1_2.after args s (.returned v) u = true ∧ True) → FrameEnd s (.returned v) u (Jvm.fieldLocs frame_1_writes args s ++ Jvm.arrayLocs frame_1_arrays args s ++ Jvm.staticLocs frame_1_statics s) 16 128 → Post tb e args s (.returned v) u) :
    ArmFor flags0 classFile x code maxLocals ret World_1 tables_1 room_1 Calls_1 rest_1 Pre_1 Post := by
  intro l hfl _ _ p e ha hc hk s m args below hf hA hF happ hP
  obtain ⟨hcalls, hrest, hpre⟩ := hP
  obtain ⟨-, -, -, hnamed, -, -, -, hat⟩ := (Spec.applies_iff hf).mp happ
  obtain ⟨hg, hn⟩ := and_e (Cond.before_iff.mp (show (Jvm.Cond.and given_1 narrow_1).before args s = true from hpre))
  obtain ⟨g310, g311⟩ := and_e hg
  obtain ⟨g312, g313⟩ := and_e g311
  obtain ⟨w0, w1, rfl⟩ : ∃ w0 w1 : Value, args = #[w0, w1] := by
    have hs : args.size = 2 := by simpa [Cond.value, given_1] using g310
    obtain ⟨L⟩ := args
    match L, hs with
    | [w0, w1], _ => exact ⟨w0, w1, rfl⟩
  have hw := fun d (hd : d ∈ tables_1) => atoms_spec (ws := Jvm.Cond.code x code maxLocals ret :: tables_1) hat d (List.mem_cons_of_mem _ hd)
  have hfit : Fit s := fun {y c} hc i hi => by
    obtain ⟨ha, rfl⟩ := Array.getElem?_eq_some_iff.mp hc
    have q := List.all_eq_true.mp ((Array.all_eq_true_iff_forall_mem.mp hF) _ (Array.getElem_mem ha)) i (List.mem_range.mpr hi)
    simpa [Array.getElem?_eq_getElem hi] using q
  obtain ⟨i0, ei0⟩ := is_v g312
  obtain rfl : w0 = (.int i0) := Option.some.inj ei0
  obtain ⟨i1, ei1⟩ := is_v g313
  obtain rfl : w1 = (.int i1) := Option.some.inj ei1
  obtain ⟨n1, n2⟩ := and_e hn
  obtain ⟨n3, n4⟩ := and_e n2
  obtain ⟨n5, n6⟩ := and_e n4
  obtain ⟨n7, n8⟩ := and_e n6
  obtain ⟨n9, n10⟩ := and_e n8
  obtain ⟨n11, n12⟩ := and_e n10
  obtain ⟨n13, n14⟩ := and_e n12
  obtain ⟨n15, n16⟩ := and_e n14
  obtain ⟨n17, n18⟩ := and_e n16
  obtain ⟨n19, n20⟩ := and_e n18
  obtain ⟨n21, n22⟩ := and_e n20
  obtain ⟨n23, n24⟩ := and_e n22
  obtain ⟨n25, n26⟩ := and_e n24
  obtain ⟨n27, n28⟩ := and_e n26
  obtain ⟨w_1, ew_1⟩ := exa_v n1
  have S_1 : Sta s s.heap "com/example/discharge/discharge/frontend/IntegerType" "BOOL" "Lcom/example/discharge/discharge/frontend/IntegerType;" (.ref w_1) := Sta.start ew_1 (Or.inr ⟨(hw _ (tk 6 rfl)), (hw _ (tk 7 rfl))⟩)
  have E_1 : Exa s s.heap w_1 "com/example/discharge/discharge/frontend/IntegerType" := Exa.start ew_1 n1
  obtain ⟨w_2, ew_2⟩ := exa_v n3
  have S_2 : Sta s s.heap "com/example/discharge/discharge/frontend/Syntax$Type" "VOID" "Lcom/example/discharge/discharge/frontend/Syntax$Type;" (.ref w_2) := Sta.start ew_2 (Or.inr ⟨(hw _ (tk 10 rfl)), (hw _ (tk 32 rfl))⟩)
  have E_2 : Exa s s.heap w_2 "com/example/discharge/discharge/frontend/Syntax$Type" := Exa.start ew_2 n3
  obtain ⟨w_3, ew_3⟩ := exa_v n7
  have S_3 : Sta s s.heap "com/example/discharge/discharge/frontend/IntegerType" "CHAR" "Lcom/example/discharge/discharge/frontend/IntegerType;" (.ref w_3) := Sta.start ew_3 (Or.inr ⟨(hw _ (tk 6 rfl)), (hw _ (tk 41 rfl))⟩)
  have E_3 : Exa s s.heap w_3 "com/example/discharge/discharge/frontend/IntegerType" := Exa.start ew_3 n7
  obtain ⟨w_4, ew_4⟩ := exa_v n9
  have S_4 : Sta s s.heap "com/example/discharge/discharge/frontend/IntegerType" "SHORT" "Lcom/example/discharge/discharge/frontend/IntegerType;" (.ref w_4) := Sta.start ew_4 (Or.inr ⟨(hw _ (tk 6 rfl)), (hw _ (tk 43 rfl))⟩)
  have E_4 : Exa s s.heap w_4 "com/example/discharge/discharge/frontend/IntegerType" := Exa.start ew_4 n9
  obtain ⟨w_5, ew_5⟩ := exa_v n11
  have S_5 : Sta s s.heap "com/example/discharge/discharge/frontend/IntegerType" "UNSIGNED_CHAR" "Lcom/example/discharge/discharge/frontend/IntegerType;" (.ref w_5) := Sta.start ew_5 (Or.inr ⟨(hw _ (tk 6 rfl)), (hw _ (tk 45 rfl))⟩)
  have E_5 : Exa s s.heap w_5 "com/example/discharge/discharge/frontend/IntegerType" := Exa.start ew_5 n11
  obtain ⟨w_6, ew_6⟩ := exa_v n13
  have S_6 : Sta s s.heap "com/example/discharge/discharge/frontend/IntegerType" "UNSIGNED_LONG" "Lcom/example/discharge/discharge/frontend/IntegerType;" (.ref w_6) := Sta.start ew_6 (Or.inr ⟨(hw _ (tk 6 rfl)), (hw _ (tk 47 rfl))⟩)
  have E_6 : Exa s s.heap w_6 "com/example/discharge/discharge/frontend/IntegerType" := Exa.start ew_6 n13
  obtain ⟨w_7, ew_7⟩ := exa_v n15
  have S_7 : Sta s s.heap "com/example/discharge/discharge/frontend/IntegerType" "UNSIGNED_SHORT" "Lcom/example/discharge/discharge/frontend/IntegerType;" (.ref w_7) := Sta.start ew_7 (Or.inr ⟨(hw _ (tk 6 rfl)), (hw _ (tk 49 rfl))⟩)
  have E_7 : Exa s s.heap w_7 "com/example/discharge/discharge/frontend/IntegerType" := Exa.start ew_7 n15
  obtain ⟨w_8, ew_8⟩ := exa_v n17
  have S_8 : Sta s s.heap "com/example/discharge/discharge/frontend/IntegerType" "INT" "Lcom/example/discharge/discharge/frontend/IntegerType;" (.ref w_8) := Sta.start ew_8 (Or.inr ⟨(hw _ (tk 6 rfl)), (hw _ (tk 51 rfl))⟩)
  have E_8 : Exa s s.heap w_8 "com/example/discharge/discharge/frontend/IntegerType" := Exa.start ew_8 n17
  obtain ⟨w_9, ew_9⟩ := exa_v n19
  have S_9 : Sta s s.heap "com/example/discharge/discharge/frontend/IntegerType" "LONG" "Lcom/example/discharge/discharge/frontend/IntegerType;" (.ref w_9) := Sta.start ew_9 (Or.inr ⟨(hw _ (tk 6 rfl)), (hw _ (tk 53 rfl))⟩)
  have E_9 : Exa s s.heap w_9 "com/example/discharge/discharge/frontend/IntegerType" := Exa.start ew_9 n19
  obtain ⟨w_10, ew_10⟩ := exa_v n23
  have S_10 : Sta s s.heap "com/example/discharge/discharge/frontend/IntegerType" "SIGNED_CHAR" "Lcom/example/discharge/discharge/frontend/IntegerType;" (.ref w_10) := Sta.start ew_10 (Or.inr ⟨(hw _ (tk 6 rfl)), (hw _ (tk 55 rfl))⟩)
  have E_10 : Exa s s.heap w_10 "com/example/discharge/discharge/frontend/IntegerType" := Exa.start ew_10 n23
  obtain ⟨w_11, ew_11⟩ := exa_v n25
  have S_11 : Sta s s.heap "com/example/discharge/discharge/frontend/IntegerType" "LONG_LONG" "Lcom/example/discharge/discharge/frontend/IntegerType;" (.ref w_11) := Sta.start ew_11 (Or.inr ⟨(hw _ (tk 6 rfl)), (hw _ (tk 57 rfl))⟩)
  have E_11 : Exa s s.heap w_11 "com/example/discharge/discharge/frontend/IntegerType" := Exa.start ew_11 n25
  obtain ⟨w_12, ew_12⟩ := exa_v n27
  have S_12 : Sta s s.heap "com/example/discharge/discharge/frontend/IntegerType" "UNSIGNED_LONG_LONG" "Lcom/example/discharge/discharge/frontend/IntegerType;" (.ref w_12) := Sta.start ew_12 (Or.inr ⟨(hw _ (tk 6 rfl)), (hw _ (tk 59 rfl))⟩)
  have E_12 : Exa s s.heap w_12 "com/example/discharge/discharge/frontend/IntegerType" := Exa.start ew_12 n27
  obtain ⟨w_13, ew_13⟩ := exa_v n28
  have S_13 : Sta s s.heap "com/example/discharge/discharge/frontend/IntegerType" "UNSIGNED_INT" "Lcom/example/discharge/discharge/frontend/IntegerType;" (.ref w_13) := Sta.start ew_13 (Or.inr ⟨(hw _ (tk 6 rfl)), (hw _ (tk 61 rfl))⟩)
  have E_13 : Exa s s.heap w_13 "com/example/discharge/discharge/frontend/IntegerType" := Exa.start ew_13 n28
  have F_2_integer : Fld s s.heap w_2 "com/example/discharge/discharge/frontend/Syntax$Type" "integer" "Lcom/example/discharge/discharge/frontend/IntegerType;" .null := own_fldN ew_2 n5
  have F_2_pointer : Fld s s.heap w_2 "com/example/discharge/discharge/frontend/Syntax$Type" "pointer" "Z" (.int (0 : Int32)) := own_fld ew_2 n21
  have hS : StF s w_1 w_2 w_3 w_4 w_5 w_6 w_7 w_8 w_9 w_10 w_11 w_12 w_13 := ⟨S_1, E_1, S_2, E_2, S_3, E_3, S_4, E_4, S_5, E_5, S_6, E_6, S_7, E_7, S_8, E_8, S_9, E_9, S_10, E_10, S_11, E_11, S_12, E_12, S_13, E_13, F_2_integer, F_2_pointer⟩
  obtain ⟨n, o, h1, h2, h3, _, L, rfl, ⟨hv, N, -⟩, hq⟩ := rm0 l s _ hw tables_1 w_1 w_2 w_3 w_4 w_5 w_6 w_7 w_8 w_9 w_10 w_11 w_12 w_13 hS i0 i1 s.heap s.heap.size (Old.start s) p e ha hc hk s m _ below hf ((Spec.applies_iff_loose hf).mp happ).1 ⟨rfl, State.Warmed39.refl s, rfl⟩ trivial
  rw [own_plain i0 i1] at hv
  subst hv
  refine ⟨n, _, h1, h2, h3, hpost _ _ _ _ _ _ ⟨Cond.after_iff.mpr rfl, Cond.after_iff.mpr (eq_i res_at (Term.int_eval (1)) rfl), trivial⟩ ⟨hq.1, hq.2.1, (hq.2.2.sift fun y hy => Or.inr (N y hy)).mono (by decide) (by decide)⟩⟩
theorem main_1_1 : Claimed_1_1 := comes_1 fun _ _ _ _ _ _ h hF => ⟨h.1, hF⟩
theorem main_1_2 : Claimed_1_2 := comes_1 fun _ _ _ _ _ _ h hF => ⟨h.2.1, hF⟩
end Jvm.Pilot.@@N@@
namespace Jvm.Pilot.@@N@@
open Jvm Jvm.ClassFile Sem Op Lib Jvm.Free Jvm.Stand Jvm.Pilot.@@N@@.Jvm.D
/-! MADE BY PROGRAM (witnessworld.py) out of the Statement's table words and the real class files: 14 classes; the members and pool entries that the words name. The judged class is class 1, her method 2. -/
namespace start1
open Jvm.ClassFile
def u (s : String) : CpInfo := .utf8 (stringToUtf16 s)
/-- a pool by its gaps: so many unusable entries, then the entry; so many at the end -/
def gap : Nat → List CpInfo → List CpInfo
  | 0, r => r
  | n + 1, r => .unusable :: gap n r
def poolList (es : List (Nat × CpInfo)) (last : Nat) : List CpInfo := es.foldr (fun e r => gap e.1 (e.2 :: r)) (gap last [])
def pool (es : List (Nat × CpInfo)) (last : Nat) : Array CpInfo := ⟨poolList es last⟩
def fileOf (pool : Array CpInfo) (this : Nat) (attrs : Array Attribute := #[]) (ms : Array MethodInfo := #[]) (fl : Nat := 33) (sup : Nat := 0) (ifs : Array Nat := #[]) (fds : Array FieldInfo := #[]) : ClassFile where
  minorVersion := 0
  majorVersion := 65
  constantPool := pool
  accessFlags := fl
  thisClass := this
  superClass := sup
  interfaces := ifs
  fields := fds
  methods := ms
  attributes := attrs
def plain (name : String) (sup : Option ClassId) : Class where
  name := name
  kind := .ordinary
  loader := none
  accessFlags := 33
  super := sup
  interfaces := #[]
  cf := none
  fields := #[]
  methods := #[]
  instanceTypes := #[]
  staticTypes := #[]
  resolved := #[]
  callSites := []
  init := .initialized
  statics := none
  mirror := none

def pool0 : Array CpInfo := pool [(5, u "<init>"), (0, u "()V"), (1, .class_ 10), (1, u "java/lang/Object")] 113

def k0c0 : Code := { maxStack := 0, maxLocals := 1, code := object_method_1_code, exceptionTable := #[], attributes := #[] }
def k0m0 : Method := { name := "<init>", desc := "()V", sig := { parameters := [], returnType := none }, accessFlags := 1, code := some k0c0 }
/-- java/lang/Object -/
def k0 : Class := { plain "java/lang/Object" none with
  accessFlags := 33
  interfaces := #[]
  cf := some (fileOf pool0 8 #[] #[{ accessFlags := 1, nameIndex := 5, descriptorIndex := 6, attributes := #[] }] 33 0 #[] #[])
  fields := #[]
  methods := #[k0m0]
  instanceTypes := #[]
  staticTypes := #[]
  resolved := Array.replicate 124 none
  statics := none }

def pool1 : Array CpInfo := pool [(2, .class_ 4), (1, u "java/lang/Object"), (0, u "<init>"), (0, u "()V"), (0, .fieldref 8 9), (0, .class_ 10), (0, .nameAndType 11 12), (0, u "com/example/discharge/discharge/frontend/IntegerType"), (0, u "BOOL"), (0, u "Lcom/example/discharge/discharge/frontend/IntegerType;"), (0, .fieldref 8 14), (0, .nameAndType 15 12), (0, u "CHAR"), (0, .fieldref 8 17), (0, .nameAndType 18 12), (0, u "SIGNED_CHAR"), (0, .fieldref 8 20), (0, .nameAndType 21 12), (0, u "UNSIGNED_CHAR"), (0, .fieldref 8 23), (0, .nameAndType 24 12), (0, u "SHORT"), (0, .fieldref 8 26), (0, .nameAndType 27 12), (0, u "UNSIGNED_SHORT"), (0, .fieldref 8 29), (0, .nameAndType 30 12), (0, u "INT"), (0, .fieldref 8 32), (0, .nameAndType 33 12), (0, u "UNSIGNED_INT"), (0, .fieldref 8 35), (0, .nameAndType 36 12), (0, u "LONG"), (0, .fieldref 8 38), (0, .nameAndType 39 12), (0, u "UNSIGNED_LONG"), (0, .fieldref 8 41), (0, .nameAndType 42 12), (0, u "LONG_LONG"), (0, .fieldref 8 44), (0, .nameAndType 45 12), (0, u "UNSIGNED_LONG_LONG"), (0, .integer 2147483647), (0, .methodref 48 49), (0, .class_ 50), (0, .nameAndType 51 52), (0, u "com/example/discharge/discharge/frontend/TypeIsVoidPinLaw"), (0, u "pick"), (0, u "(I)Lcom/example/discharge/discharge/frontend/IntegerType;"), (0, .class_ 54), (0, u "com/example/discharge/discharge/frontend/Syntax$Type"), (0, .methodref 53 56), (0, .nameAndType 5 57), (0, u "(Lcom/example/discharge/discharge/frontend/IntegerType;Z)V"), (0, .methodref 53 59), (0, .nameAndType 60 61), (0, u "isVoid"), (0, u "()Z"), (0, .fieldref 53 63), (0, .nameAndType 64 65), (0, u "VOID"), (0, u "Lcom/example/discharge/discharge/frontend/Syntax$Type;"), (0, .methodref 53 67), (0, .nameAndType 68 69), (0, u "equals"), (0, u "(Ljava/lang/Object;)Z"), (3, u "law"), (0, u "(II)Z")] 6

def k1m0 : Method := { name := "<init>", desc := "()V", sig := { parameters := [], returnType := none }, accessFlags := 2, code := none }
def k1c1 : Code := { maxStack := 2, maxLocals := 1, code := method_2_code, exceptionTable := #[], attributes := #[] }
def k1m1 : Method := { name := "pick", desc := "(I)Lcom/example/discharge/discharge/frontend/IntegerType;", sig := { parameters := [.int], returnType := some (.object "com/example/discharge/discharge/frontend/IntegerType") }, accessFlags := 10, code := some k1c1 }
def k1c2 : Code := { maxStack := 4, maxLocals := 9, code := code, exceptionTable := #[], attributes := #[] }
def k1m2 : Method := { name := "law", desc := "(II)Z", sig := { parameters := [.int, .int], returnType := some .boolean }, accessFlags := 9, code := some k1c2 }
/-- com/example/discharge/discharge/frontend/TypeIsVoidPinLaw -/
def k1 : Class := { plain "com/example/discharge/discharge/frontend/TypeIsVoidPinLaw" (some 0) with
  accessFlags := 49
  interfaces := #[]
  cf := some (fileOf pool1 48 #[] #[{ accessFlags := 2, nameIndex := 5, descriptorIndex := 6, attributes := #[] }, { accessFlags := 10, nameIndex := 51, descriptorIndex := 52, attributes := #[] }, { accessFlags := 9, nameIndex := 73, descriptorIndex := 74, attributes := #[] }] 49 2 #[] #[])
  fields := #[]
  methods := #[k1m0, k1m1, k1m2]
  instanceTypes := #[]
  staticTypes := #[]
  resolved := Array.replicate 81 none
  statics := none }

def pool2 : Array CpInfo := pool [(1, .class_ 2), (0, u "java/lang/constant/Constable"), (0, .class_ 4), (0, u "java/lang/Object")] 6

/-- java/lang/constant/Constable -/
def k2 : Class := { plain "java/lang/constant/Constable" (some 0) with
  accessFlags := 1537
  interfaces := #[]
  cf := some (fileOf pool2 1 #[] #[] 1537 3 #[] #[])
  fields := #[]
  methods := #[]
  instanceTypes := #[]
  staticTypes := #[]
  resolved := Array.replicate 11 none
  statics := none }

def pool3 : Array CpInfo := pool [(1, .class_ 2), (0, u "java/lang/Comparable"), (0, .class_ 4), (0, u "java/lang/Object")] 7

/-- java/lang/Comparable -/
def k3 : Class := { plain "java/lang/Comparable" (some 0) with
  accessFlags := 1537
  interfaces := #[]
  cf := some (fileOf pool3 1 #[] #[] 1537 3 #[] #[])
  fields := #[]
  methods := #[]
  instanceTypes := #[]
  staticTypes := #[]
  resolved := Array.replicate 12 none
  statics := none }

def pool4 : Array CpInfo := pool [(1, .class_ 2), (0, u "java/io/Serializable"), (0, .class_ 4), (0, u "java/lang/Object")] 2

/-- java/io/Serializable -/
def k4 : Class := { plain "java/io/Serializable" (some 0) with
  accessFlags := 1537
  interfaces := #[]
  cf := some (fileOf pool4 1 #[] #[] 1537 3 #[] #[])
  fields := #[]
  methods := #[]
  instanceTypes := #[]
  staticTypes := #[]
  resolved := Array.replicate 7 none
  statics := none }

def pool5 : Array CpInfo := pool [(2, .class_ 4), (1, u "java/lang/Enum"), (0, u "name"), (0, u "Ljava/lang/String;"), (2, u "ordinal"), (0, u "I"), (1, .class_ 14), (1, u "java/lang/Object"), (4, u "hash"), (86, .class_ 108), (1, u "java/lang/Enum$EnumDesc"), (2, .class_ 112), (0, u "java/lang/constant/Constable"), (0, .class_ 114), (0, u "java/lang/Comparable"), (0, .class_ 116), (0, u "java/io/Serializable")] 87

/-- java/lang/Enum -/
def k5 : Class := { plain "java/lang/Enum" (some 0) with
  accessFlags := 1057
  interfaces := #[2, 3, 4]
  cf := some (fileOf pool5 2 #[.nestMembers #[106]] #[] 1057 12 #[111, 113, 115] #[{ accessFlags := 18, nameIndex := 5, descriptorIndex := 6, attributes := #[] }, { accessFlags := 18, nameIndex := 9, descriptorIndex := 10, attributes := #[] }, { accessFlags := 2, nameIndex := 19, descriptorIndex := 10, attributes := #[] }])
  fields := #[{ name := "name", type := (.object "java/lang/String"), accessFlags := 18, slot := 0, constantValue := 0 }, { name := "ordinal", type := .int, accessFlags := 18, slot := 1, constantValue := 0 }, { name := "hash", type := .int, accessFlags := 2, slot := 2, constantValue := 0 }]
  methods := #[]
  instanceTypes := #[(.object "java/lang/String"), .int, .int]
  staticTypes := #[]
  resolved := Array.replicate 204 none
  statics := none }

def pool6 : Array CpInfo := pool [(1, .class_ 2), (0, u "com/example/discharge/discharge/frontend/IntegerType"), (2, u "BOOL"), (0, u "Lcom/example/discharge/discharge/frontend/IntegerType;"), (2, u "CHAR"), (2, u "SIGNED_CHAR"), (2, u "UNSIGNED_CHAR"), (2, u "SHORT"), (2, u "UNSIGNED_SHORT"), (2, u "INT"), (2, u "UNSIGNED_INT"), (2, u "LONG"), (2, u "UNSIGNED_LONG"), (2, u "LONG_LONG"), (2, u "UNSIGNED_LONG_LONG"), (2, u "$VALUES"), (0, u "[Lcom/example/discharge/discharge/frontend/IntegerType;"), (6, .class_ 52), (1, u "java/lang/Enum"), (8, u "width"), (0, u "I"), (2, u "signed"), (0, u "Z"), (2, u "rank"), (5, u "Ljava/math/BigInteger;"), (6, u "modulus"), (9, u "minValue"), (9, u "maxValue")] 91

/-- com/example/discharge/discharge/frontend/IntegerType -/
def k6 : Class := { plain "com/example/discharge/discharge/frontend/IntegerType" (some 5) with
  accessFlags := 16433
  interfaces := #[]
  cf := some (fileOf pool6 1 #[] #[] 16433 50 #[] #[{ accessFlags := 16409, nameIndex := 5, descriptorIndex := 6, attributes := #[] }, { accessFlags := 16409, nameIndex := 9, descriptorIndex := 6, attributes := #[] }, { accessFlags := 16409, nameIndex := 12, descriptorIndex := 6, attributes := #[] }, { accessFlags := 16409, nameIndex := 15, descriptorIndex := 6, attributes := #[] }, { accessFlags := 16409, nameIndex := 18, descriptorIndex := 6, attributes := #[] }, { accessFlags := 16409, nameIndex := 21, descriptorIndex := 6, attributes := #[] }, { accessFlags := 16409, nameIndex := 24, descriptorIndex := 6, attributes := #[] }, { accessFlags := 16409, nameIndex := 27, descriptorIndex := 6, attributes := #[] }, { accessFlags := 16409, nameIndex := 30, descriptorIndex := 6, attributes := #[] }, { accessFlags := 16409, nameIndex := 33, descriptorIndex := 6, attributes := #[] }, { accessFlags := 16409, nameIndex := 36, descriptorIndex := 6, attributes := #[] }, { accessFlags := 16409, nameIndex := 39, descriptorIndex := 6, attributes := #[] }, { accessFlags := 18, nameIndex := 61, descriptorIndex := 62, attributes := #[] }, { accessFlags := 18, nameIndex := 65, descriptorIndex := 66, attributes := #[] }, { accessFlags := 18, nameIndex := 69, descriptorIndex := 62, attributes := #[] }, { accessFlags := 18, nameIndex := 82, descriptorIndex := 75, attributes := #[] }, { accessFlags := 18, nameIndex := 92, descriptorIndex := 75, attributes := #[] }, { accessFlags := 18, nameIndex := 102, descriptorIndex := 75, attributes := #[] }, { accessFlags := 4122, nameIndex := 42, descriptorIndex := 43, attributes := #[] }])
  fields := #[{ name := "BOOL", type := (.object "com/example/discharge/discharge/frontend/IntegerType"), accessFlags := 16409, slot := 0, constantValue := 0 }, { name := "CHAR", type := (.object "com/example/discharge/discharge/frontend/IntegerType"), accessFlags := 16409, slot := 1, constantValue := 0 }, { name := "SIGNED_CHAR", type := (.object "com/example/discharge/discharge/frontend/IntegerType"), accessFlags := 16409, slot := 2, constantValue := 0 }, { name := "UNSIGNED_CHAR", type := (.object "com/example/discharge/discharge/frontend/IntegerType"), accessFlags := 16409, slot := 3, constantValue := 0 }, { name := "SHORT", type := (.object "com/example/discharge/discharge/frontend/IntegerType"), accessFlags := 16409, slot := 4, constantValue := 0 }, { name := "UNSIGNED_SHORT", type := (.object "com/example/discharge/discharge/frontend/IntegerType"), accessFlags := 16409, slot := 5, constantValue := 0 }, { name := "INT", type := (.object "com/example/discharge/discharge/frontend/IntegerType"), accessFlags := 16409, slot := 6, constantValue := 0 }, { name := "UNSIGNED_INT", type := (.object "com/example/discharge/discharge/frontend/IntegerType"), accessFlags := 16409, slot := 7, constantValue := 0 }, { name := "LONG", type := (.object "com/example/discharge/discharge/frontend/IntegerType"), accessFlags := 16409, slot := 8, constantValue := 0 }, { name := "UNSIGNED_LONG", type := (.object "com/example/discharge/discharge/frontend/IntegerType"), accessFlags := 16409, slot := 9, constantValue := 0 }, { name := "LONG_LONG", type := (.object "com/example/discharge/discharge/frontend/IntegerType"), accessFlags := 16409, slot := 10, constantValue := 0 }, { name := "UNSIGNED_LONG_LONG", type := (.object "com/example/discharge/discharge/frontend/IntegerType"), accessFlags := 16409, slot := 11, constantValue := 0 }, { name := "width", type := .int, accessFlags := 18, slot := 3, constantValue := 0 }, { name := "signed", type := .boolean, accessFlags := 18, slot := 4, constantValue := 0 }, { name := "rank", type := .int, accessFlags := 18, slot := 5, constantValue := 0 }, { name := "modulus", type := (.object "java/math/BigInteger"), accessFlags := 18, slot := 6, constantValue := 0 }, { name := "minValue", type := (.object "java/math/BigInteger"), accessFlags := 18, slot := 7, constantValue := 0 }, { name := "maxValue", type := (.object "java/math/BigInteger"), accessFlags := 18, slot := 8, constantValue := 0 }, { name := "$VALUES", type := (.array (.object "com/example/discharge/discharge/frontend/IntegerType")), accessFlags := 4122, slot := 12, constantValue := 0 }]
  methods := #[]
  instanceTypes := #[(.object "java/lang/String"), .int, .int, .int, .boolean, .int, (.object "java/math/BigInteger"), (.object "java/math/BigInteger"), (.object "java/math/BigInteger")]
  staticTypes := #[(.object "com/example/discharge/discharge/frontend/IntegerType"), (.object "com/example/discharge/discharge/frontend/IntegerType"), (.object "com/example/discharge/discharge/frontend/IntegerType"), (.object "com/example/discharge/discharge/frontend/IntegerType"), (.object "com/example/discharge/discharge/frontend/IntegerType"), (.object "com/example/discharge/discharge/frontend/IntegerType"), (.object "com/example/discharge/discharge/frontend/IntegerType"), (.object "com/example/discharge/discharge/frontend/IntegerType"), (.object "com/example/discharge/discharge/frontend/IntegerType"), (.object "com/example/discharge/discharge/frontend/IntegerType"), (.object "com/example/discharge/discharge/frontend/IntegerType"), (.object "com/example/discharge/discharge/frontend/IntegerType"), (.array (.object "com/example/discharge/discharge/frontend/IntegerType"))]
  resolved := Array.replicate 194 none
  statics := some 0 }

def pool7 : Array CpInfo := pool [(1, .methodref 2 3), (0, .class_ 4), (0, .nameAndType 5 6), (0, u "java/lang/Object"), (0, u "<init>"), (0, u "()V"), (0, .class_ 8), (0, u "java/lang/Record")] 13

def k7c0 : Code := { maxStack := 1, maxLocals := 1, code := jdk_30_method_1_code, exceptionTable := #[], attributes := #[] }
def k7m0 : Method := { name := "<init>", desc := "()V", sig := { parameters := [], returnType := none }, accessFlags := 4, code := some k7c0 }
/-- java/lang/Record -/
def k7 : Class := { plain "java/lang/Record" (some 0) with
  accessFlags := 1057
  interfaces := #[]
  cf := some (fileOf pool7 7 #[] #[{ accessFlags := 4, nameIndex := 5, descriptorIndex := 6, attributes := #[] }] 1057 2 #[] #[])
  fields := #[]
  methods := #[k7m0]
  instanceTypes := #[]
  staticTypes := #[]
  resolved := Array.replicate 22 none
  statics := none }

def pool8 : Array CpInfo := pool [(1, .methodref 2 3), (0, .class_ 4), (0, .nameAndType 5 6), (0, u "java/lang/Record"), (0, u "<init>"), (0, u "()V"), (0, .fieldref 8 9), (0, .class_ 10), (0, .nameAndType 11 12), (0, u "com/example/discharge/discharge/frontend/Syntax$Type"), (0, u "integer"), (0, u "Lcom/example/discharge/discharge/frontend/IntegerType;"), (0, .fieldref 8 14), (0, .nameAndType 15 16), (0, u "pointer"), (0, u "Z"), (2, u "VOID"), (0, u "Lcom/example/discharge/discharge/frontend/Syntax$Type;"), (2, u "(Lcom/example/discharge/discharge/frontend/IntegerType;Z)V"), (17, u "POINTER"), (6, u "isVoid"), (0, u "()Z"), (0, u "equals"), (0, u "(Ljava/lang/Object;)Z"), (7, .class_ 60), (0, u "com/example/discharge/discharge/frontend/Syntax")] 20

def k8c0 : Code := { maxStack := 2, maxLocals := 3, code := prog_143_method_1_code, exceptionTable := #[], attributes := #[] }
def k8m0 : Method := { name := "<init>", desc := "(Lcom/example/discharge/discharge/frontend/IntegerType;Z)V", sig := { parameters := [(.object "com/example/discharge/discharge/frontend/IntegerType"), .boolean], returnType := none }, accessFlags := 0, code := some k8c0 }
def k8c1 : Code := { maxStack := 1, maxLocals := 1, code := prog_143_method_3_code, exceptionTable := #[], attributes := #[] }
def k8m1 : Method := { name := "isVoid", desc := "()Z", sig := { parameters := [], returnType := some .boolean }, accessFlags := 0, code := some k8c1 }
def k8c2 : Code := { maxStack := 2, maxLocals := 3, code := prog_143_method_4_code, exceptionTable := #[], attributes := #[] }
def k8m2 : Method := { name := "equals", desc := "(Ljava/lang/Object;)Z", sig := { parameters := [(.object "java/lang/Object")], returnType := some .boolean }, accessFlags := 1, code := some k8c2 }
/-- com/example/discharge/discharge/frontend/Syntax$Type -/
def k8 : Class := { plain "com/example/discharge/discharge/frontend/Syntax$Type" (some 7) with
  accessFlags := 48
  interfaces := #[]
  cf := some (fileOf pool8 8 #[.nestHost 59] #[{ accessFlags := 0, nameIndex := 5, descriptorIndex := 23, attributes := #[] }, { accessFlags := 0, nameIndex := 48, descriptorIndex := 49, attributes := #[] }, { accessFlags := 1, nameIndex := 50, descriptorIndex := 51, attributes := #[] }] 48 2 #[] #[{ accessFlags := 18, nameIndex := 11, descriptorIndex := 12, attributes := #[] }, { accessFlags := 18, nameIndex := 15, descriptorIndex := 16, attributes := #[] }, { accessFlags := 24, nameIndex := 19, descriptorIndex := 20, attributes := #[] }, { accessFlags := 24, nameIndex := 41, descriptorIndex := 20, attributes := #[] }])
  fields := #[{ name := "integer", type := (.object "com/example/discharge/discharge/frontend/IntegerType"), accessFlags := 18, slot := 0, constantValue := 0 }, { name := "pointer", type := .boolean, accessFlags := 18, slot := 1, constantValue := 0 }, { name := "VOID", type := (.object "com/example/discharge/discharge/frontend/Syntax$Type"), accessFlags := 24, slot := 0, constantValue := 0 }, { name := "POINTER", type := (.object "com/example/discharge/discharge/frontend/Syntax$Type"), accessFlags := 24, slot := 1, constantValue := 0 }]
  methods := #[k8m0, k8m1, k8m2]
  instanceTypes := #[(.object "com/example/discharge/discharge/frontend/IntegerType"), .boolean]
  staticTypes := #[(.object "com/example/discharge/discharge/frontend/Syntax$Type"), (.object "com/example/discharge/discharge/frontend/Syntax$Type")]
  resolved := Array.replicate 81 none
  statics := some 1 }

def pool9 : Array CpInfo := pool [(1, u "java/lang/Cloneable"), (0, .class_ 1), (0, u "java/lang/Object"), (0, .class_ 3)] 3

/-- java/lang/Cloneable -/
def k9 : Class := { plain "java/lang/Cloneable" (some 0) with
  accessFlags := 1537
  interfaces := #[]
  cf := some (fileOf pool9 2 #[] #[] 1537 4 #[] #[])
  fields := #[]
  methods := #[]
  instanceTypes := #[]
  staticTypes := #[]
  resolved := Array.replicate 8 none
  statics := none }

/-- the primitive byte -/
def k10 : Class := { plain "byte" none with kind := .primitive 'B', accessFlags := 0x411 }
/-- [B -/
def k11 : Class := { plain "[B" (some 0) with kind := .array 10 .byte, interfaces := #[9, 4], accessFlags := 1041 }

/-- the primitive int -/
def k12 : Class := { plain "int" none with kind := .primitive 'I', accessFlags := 0x411 }
/-- [I -/
def k13 : Class := { plain "[I" (some 0) with kind := .array 12 .int, interfaces := #[9, 4], accessFlags := 1041 }

def heap : Heap := #[{ cls := 6, slots := #[.ref 2, .ref 4, .ref 11, .ref 6, .ref 5, .ref 8, .ref 9, .ref 14, .ref 10, .ref 7, .ref 12, .ref 13, .null], vm := .statics 6 },
  { cls := 8, slots := #[.ref 3, .null], vm := .statics 8 },
  { cls := 6, slots := #[.null, .int 0, .int 0, .int 0, .int 0, .int 0, .null, .null, .null], vm := .none },
  { cls := 8, slots := #[.null, .int 0], vm := .none },
  { cls := 6, slots := #[.null, .int 0, .int 0, .int 0, .int 0, .int 0, .null, .null, .null], vm := .none },
  { cls := 6, slots := #[.null, .int 0, .int 0, .int 0, .int 0, .int 0, .null, .null, .null], vm := .none },
  { cls := 6, slots := #[.null, .int 0, .int 0, .int 0, .int 0, .int 0, .null, .null, .null], vm := .none },
  { cls := 6, slots := #[.null, .int 0, .int 0, .int 0, .int 0, .int 0, .null, .null, .null], vm := .none },
  { cls := 6, slots := #[.null, .int 0, .int 0, .int 0, .int 0, .int 0, .null, .null, .null], vm := .none },
  { cls := 6, slots := #[.null, .int 0, .int 0, .int 0, .int 0, .int 0, .null, .null, .null], vm := .none },
  { cls := 6, slots := #[.null, .int 0, .int 0, .int 0, .int 0, .int 0, .null, .null, .null], vm := .none },
  { cls := 6, slots := #[.null, .int 0, .int 0, .int 0, .int 0, .int 0, .null, .null, .null], vm := .none },
  { cls := 6, slots := #[.null, .int 0, .int 0, .int 0, .int 0, .int 0, .null, .null, .null], vm := .none },
  { cls := 6, slots := #[.null, .int 0, .int 0, .int 0, .int 0, .int 0, .null, .null, .null], vm := .none },
  { cls := 6, slots := #[.null, .int 0, .int 0, .int 0, .int 0, .int 0, .null, .null, .null], vm := .none }]
def classes : Array Class := #[k0, k1, k2, k3, k4, k5, k6, k7, k8, k9, k10, k11, k12, k13]
def interned : List (Array UInt16 × Addr) := []
def slotsUsed : Nat := 125
def theMethod : MethodId := ⟨1, 2⟩
def args0 : Array Value := #[.int 5, .int 7]
def aboutOver (below : List Frame) : State where
  vm := { classes := classes, interned := interned.toArray }
  heap := heap
  slotsUsed := slotsUsed
  threads := #[{ frames := .invoking theMethod args0 :: below }]
def below0 : List Frame := [.native { method := ⟨0, 0⟩, args := #[] }]
def about1 : State := aboutOver below0
def p0 : Program := .bare "" "" ""
def e0 : Env := launch0.env 0 0 0
theorem w_frames : about1.frames = Frame.invoking theMethod args0 :: below0 := rfl
set_option maxRecDepth 65536 in
theorem w_args : argsFit about1.vm theMethod args0 = true := by decide +kernel
set_option maxRecDepth 65536 in
theorem w_heap : heapFits about1 = true := by decide +kernel
set_option maxRecDepth 65536 in
theorem w_runnable : about1.curStatus? = some .runnable := by decide +kernel
set_option maxRecDepth 65536 in
theorem w_alone : about1.alone = true := by decide +kernel
set_option maxRecDepth 65536 in
theorem w_named : about1.methodNamed? x = some theMethod := by decide +kernel
set_option maxRecDepth 65536 in
theorem w_hears : about1.hears theMethod below0 = true := by decide +kernel
set_option maxRecDepth 65536 in
theorem w_ripe : about1.ripe theMethod args0 below0 = true := by decide +kernel
theorem w_running : about1.status = .running := rfl
set_option maxRecDepth 65536 in
theorem w_room : about1.hasRoom e0.platform room_1 = true :=
  launch0.hasRoom_least _ room_1 (by decide +kernel) (by decide +kernel) (by decide +kernel) (by decide +kernel) (by decide +kernel) (by decide +kernel)
theorem allAtoms_all (ts : List Jvm.Cond) (a : Array Jvm.Value) (st : Jvm.State) : (allAtoms ts).before a st = ts.all (fun c => c.before a st) := by
  induction ts with
  | nil => rfl
  | cons c t ih =>
    show (Jvm.Cond.and c (allAtoms t)).before a st = _
    rw [Jvm.Cond.before_and, ih, List.all_cons]
def words1 : List Jvm.Cond := Jvm.Cond.code x code maxLocals ret :: tables_1
/-- a 'code' word, met by the world's own term for the bytes: nothing is compared byte by byte -/
theorem code_word {y : MethodName} {bytes : ByteArray} {mx : Nat} {rt : Option FieldType} {a : Array Value} {s : State} {m : MethodId} {meth : Method} {c : Code} (h1 : s.methodNamed? y = some m) (h2 : s.vm.method? m = some meth) (h3 : meth.code = some c) (h4 : c.code = bytes)
    (h5 : (c.maxLocals == mx && c.exceptionTable.isEmpty && decide (c.maxStack ≤ mostOperands) && decide (meth.sig.returnType = rt) && !meth.locks && decide (parseMethodDescriptor y.desc = some meth.sig)) = true) : (Jvm.Cond.code y bytes mx rt).before a s = true := by
  simp only [Bool.and_eq_true, beq_iff_eq, Bool.not_eq_true', decide_eq_true_eq] at h5
  obtain ⟨⟨⟨⟨⟨g1, g2⟩, g3⟩, g4⟩, g5⟩, g6⟩ := h5
  simp [Cond.before, Cond.holds, Cond.value, h1, h2, h3, h4, g1, g2, g3, g4, g5, g6]
def isCode : Jvm.Cond → Bool
  | .code _ _ _ _ => true
  | _ => false
theorem all_split {L : List Jvm.Cond} {P : Jvm.Cond → Bool} (h1 : L.all (fun c => isCode c || P c) = true) (h2 : ∀ c ∈ L.filter isCode, P c = true) : L.all P = true := by
  refine List.all_eq_true.mpr fun c hc => ?_
  have h := List.all_eq_true.mp h1 c hc
  rcases Bool.eq_false_or_eq_true (isCode c) with hi | hi
  · exact h2 c (List.mem_filter.mpr ⟨hc, hi⟩)
  · simpa [hi] using h
set_option maxRecDepth 65536 in
theorem w_c0 : (Jvm.Cond.code x code maxLocals ret).before args0 about1 = true := code_word (m := ⟨1, 2⟩) (meth := k1m2) (c := k1c2) (by decide +kernel) rfl rfl rfl (by decide +kernel)
set_option maxRecDepth 65536 in
theorem w_c1 : (Jvm.Cond.code ({ cls := "com/example/discharge/discharge/frontend/TypeIsVoidPinLaw", name := "pick", desc := "(I)Lcom/example/discharge/discharge/frontend/IntegerType;" } : Jvm.MethodName) method_2_code (1 : Nat) (Option.some (Jvm.ClassFile.FieldType.object "com/example/discharge/discharge/frontend/IntegerType"))).before args0 about1 = true := code_word (m := ⟨1, 1⟩) (meth := k1m1) (c := k1c1) (by decide +kernel) rfl rfl rfl (by decide +kernel)
set_option maxRecDepth 65536 in
theorem w_c2 : (Jvm.Cond.code ({ cls := "com/example/discharge/discharge/frontend/Syntax$Type", name := "<init>", desc := "(Lcom/example/discharge/discharge/frontend/IntegerType;Z)V" } : Jvm.MethodName) prog_143_method_1_code (3 : Nat) (Option.none : Option Jvm.ClassFile.FieldType)).before args0 about1 = true := code_word (m := ⟨8, 0⟩) (meth := k8m0) (c := k8c0) (by decide +kernel) rfl rfl rfl (by decide +kernel)
set_option maxRecDepth 65536 in
theorem w_c3 : (Jvm.Cond.code ({ cls := "java/lang/Record", name := "<init>", desc := "()V" } : Jvm.MethodName) jdk_30_method_1_code (1 : Nat) (Option.none : Option Jvm.ClassFile.FieldType)).before args0 about1 = true := code_word (m := ⟨7, 0⟩) (meth := k7m0) (c := k7c0) (by decide +kernel) rfl rfl rfl (by decide +kernel)
set_option maxRecDepth 65536 in
theorem w_c4 : (Jvm.Cond.code ({ cls := "java/lang/Object", name := "<init>", desc := "()V" } : Jvm.MethodName) object_method_1_code (1 : Nat) (Option.none : Option Jvm.ClassFile.FieldType)).before args0 about1 = true := code_word (m := ⟨0, 0⟩) (meth := k0m0) (c := k0c0) (by decide +kernel) rfl rfl rfl (by decide +kernel)
set_option maxRecDepth 65536 in
theorem w_c5 : (Jvm.Cond.code ({ cls := "com/example/discharge/discharge/frontend/Syntax$Type", name := "isVoid", desc := "()Z" } : Jvm.MethodName) prog_143_method_3_code (1 : Nat) (Option.some Jvm.ClassFile.FieldType.boolean)).before args0 about1 = true := code_word (m := ⟨8, 1⟩) (meth := k8m1) (c := k8c1) (by decide +kernel) rfl rfl rfl (by decide +kernel)
set_option maxRecDepth 65536 in
theorem w_c6 : (Jvm.Cond.code ({ cls := "com/example/discharge/discharge/frontend/Syntax$Type", name := "equals", desc := "(Ljava/lang/Object;)Z" } : Jvm.MethodName) prog_143_method_4_code (3 : Nat) (Option.some Jvm.ClassFile.FieldType.boolean)).before args0 about1 = true := code_word (m := ⟨8, 2⟩) (meth := k8m2) (c := k8c2) (by decide +kernel) rfl rfl rfl (by decide +kernel)
def codes1 : List Jvm.Cond := [Jvm.Cond.code x code maxLocals ret, Jvm.Cond.code ({ cls := "com/example/discharge/discharge/frontend/TypeIsVoidPinLaw", name := "pick", desc := "(I)Lcom/example/discharge/discharge/frontend/IntegerType;" } : Jvm.MethodName) method_2_code (1 : Nat) (Option.some (Jvm.ClassFile.FieldType.object "com/example/discharge/discharge/frontend/IntegerType")), Jvm.Cond.code ({ cls := "com/example/discharge/discharge/frontend/Syntax$Type", name := "<init>", desc := "(Lcom/example/discharge/discharge/frontend/IntegerType;Z)V" } : Jvm.MethodName) prog_143_method_1_code (3 : Nat) (Option.none : Option Jvm.ClassFile.FieldType), Jvm.Cond.code ({ cls := "java/lang/Record", name := "<init>", desc := "()V" } : Jvm.MethodName) jdk_30_method_1_code (1 : Nat) (Option.none : Option Jvm.ClassFile.FieldType), Jvm.Cond.code ({ cls := "java/lang/Object", name := "<init>", desc := "()V" } : Jvm.MethodName) object_method_1_code (1 : Nat) (Option.none : Option Jvm.ClassFile.FieldType), Jvm.Cond.code ({ cls := "com/example/discharge/discharge/frontend/Syntax$Type", name := "isVoid", desc := "()Z" } : Jvm.MethodName) prog_143_method_3_code (1 : Nat) (Option.some Jvm.ClassFile.FieldType.boolean), Jvm.Cond.code ({ cls := "com/example/discharge/discharge/frontend/Syntax$Type", name := "equals", desc := "(Ljava/lang/Object;)Z" } : Jvm.MethodName) prog_143_method_4_code (3 : Nat) (Option.some Jvm.ClassFile.FieldType.boolean)]
set_option maxRecDepth 65536 in
theorem codes_eq : words1.filter isCode = codes1 := rfl
theorem w_codes : ∀ c ∈ words1.filter isCode, c.before args0 about1 = true := by
  rw [codes_eq]
  intro c hc
  simp only [codes1, List.mem_cons, List.not_mem_nil, or_false] at hc
  rcases hc with rfl | rfl | rfl | rfl | rfl | rfl | rfl
  · exact w_c0
  · exact w_c1
  · exact w_c2
  · exact w_c3
  · exact w_c4
  · exact w_c5
  · exact w_c6
set_option maxRecDepth 65536 in
theorem w_t1 : (words1.take 24).all (fun c => isCode c || c.before args0 about1) = true := by decide +kernel
set_option maxRecDepth 65536 in
theorem w_t2 : ((words1.drop 24).take 24).all (fun c => isCode c || c.before args0 about1) = true := by decide +kernel
set_option maxRecDepth 65536 in
theorem w_t3 : ((words1.drop 24).drop 24).all (fun c => isCode c || c.before args0 about1) = true := by decide +kernel
theorem w_tables : (allAtoms (Jvm.Cond.code x code maxLocals ret :: tables_1)).before args0 about1 = true := by
  rw [allAtoms_all]
  show words1.all (fun c => c.before args0 about1) = true
  refine all_split ?_ w_codes
  rw [← List.take_append_drop 24 words1, List.all_append, w_t1, ← List.take_append_drop 24 (words1.drop 24), List.all_append, w_t2, w_t3]
  rfl
set_option maxRecDepth 65536 in
theorem w_case : (Jvm.Cond.and given_1 narrow_1).before args0 about1 = true := by decide +kernel
theorem w_applies : (headSpec (Jvm.Cond.code x code maxLocals ret :: tables_1) room_1).applies x e0.platform about1 = true :=
  (Spec.applies_iff w_frames).mpr ⟨w_running, w_runnable, w_alone, w_named, w_hears, w_ripe, w_room, w_tables⟩
theorem atStart : AtStart classFile x code maxLocals ret World_1 tables_1 room_1 Calls_1 rest_1 Pre_1 launch0 p0 e0 about1 theMethod args0 below0 :=
  ⟨lists_1, trivial, launch0.admits_env _ _ _, launch0.least_env, fairChoices_fair.cas, fairChoices_fair.clock, w_frames, w_args, w_heap, w_applies, trivial, trivial, w_case⟩
end start1
theorem witness_1 : WitnessClaimed_1 := ⟨start1.p0, start1.e0, start1.about1, start1.theMethod, start1.args0, start1.below0, start1.atStart⟩
end Jvm.Pilot.@@N@@
