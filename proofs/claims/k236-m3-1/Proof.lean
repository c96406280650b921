import JvmDerived
import JvmDerived.Pilot.@@N@@Statement
import JvmDerived.Pilot.@@N@@Code
set_option linter.unusedVariables false
set_option linter.unusedSimpArgs false
namespace Jvm.RoadKit
open Sem ClassFile Op Lib Jvm.Stand Jvm.Free Jvm.LawKit
section New
variable {p : Program} {l : Launch} {e : Env} {R : Room} {s : State} {m : MethodId} {args : Array Value} {below : List Frame} {meth : Method} {c : Code} {T : State} {locs : List Loc} {cells slots : Nat}
theorem retI (X : Stand p l e R s m args below meth c T locs cells slots) (hx : p.tables.exec = Jvm.exec) {pc : Nat} {Ls : Array Slot} {z : Int32} {rest : List Value} (hret : meth.sig.returnType = some .int) (hd : decode c.code pc = .ok (.ireturn, 1)) {fs : List Frame}
    (hl : ∀ (f : JFrame) (acts : List Action), f.method = m → f.locked = none → f.entered = [] → (doReturn e (T.setTop f) acts (some (.int z))).1 = T.setFrames fs) : Steps p.tables e below (T.setTop (mkF m pc Ls (.int z :: rest))) (T.setFrames fs) := by
  have hm' : T.vm.method? m = some meth := X.method'
  have hn : narrow .int (.int z) = .int z := rfl
  show Steps p.tables e below (T.setTop { method := m, pc := pc, locals := Ls, stack := _ :: rest, locked := none }) _
  jvm_step X.here [X.here.top, hx, hd, hm', hret, hn]
  first | (intro acts; rw [hl _ acts rfl rfl rfl]) | rw [hl _ _ rfl rfl rfl]
  exact Steps.refl _
end New
end Jvm.RoadKit
namespace Jvm.Pilot.@@N@@
open Jvm Jvm.ClassFile Sem Op Lib Jvm.Free Jvm.Stand Jvm.LawKit Jvm.RoadKit Bundle Jvm.Pilot.@@N@@.Jvm.D
theorem tk {L : List Jvm.Cond} {d : Jvm.Cond} (i : Nat) (h : L[i]? = some d) : d ∈ L := List.mem_of_getElem? h
/-! own small facts: what the case says of a pinned static's field -/
theorem own_fld {args : Array Value} {s : State} {t : Term} {C n d : String} {w : Addr} {k : Int32} (ht : t.eval args s none [] s = some (.ref w)) (h : (Cond.eq (.field t C n d) (.int k)).value args s none s [] = some true) : Fld s s.heap w C n d (.int k) := by
  obtain ⟨x, y, hx, hy, -, kin⟩ := cmp_v (Or.inl h)
  obtain rfl : Value.int k = y := Option.some.inj hy
  obtain ⟨z, rfl⟩ := kin
  have e : z = k := by simpa [Cond.value, hx, hy] using h
  subst e
  exact Fld.start ((fld_at ht).symm.trans hx)
theorem own_fldN {args : Array Value} {s : State} {t : Term} {C n d : String} {w : Addr} (ht : t.eval args s none [] s = some (.ref w)) (h : (Cond.eq (.field t C n d) .null).value args s none s [] = some true) : Fld s s.heap w C n d .null :=
  Fld.start ((fld_at ht).symm.trans (null_v h))
theorem own_nsroot {Z : State} {a0 : Array Value} {O K : String} {n : Nat} (w : (Cond.noSuperclass O).before a0 Z = true) (wk : (Cond.instantiable K n).before a0 Z = true) (hn : O ≠ K) : NS Z O K := by
  obtain ⟨c, k, h1, h2, h3, -, -⟩ := Cond.noSuperclass_spec w
  obtain ⟨t, -, g1, -⟩ := Cond.instantiable_spec wk
  have ne := ids_ne h1 g1 hn
  refine ⟨c, t, h1, g1, fun fuel => ?_⟩
  cases fuel with
  | zero => rfl
  | succ f => simp [Vm.isSubclassAux, ne, h2, h3]
theorem own_nsno {Z : State} {a0 : Array Value} {C S K : String} {n : Nat} (w : (Cond.superclass C S).before a0 Z = true) (wk : (Cond.instantiable K n).before a0 Z = true) (ns : NS Z C K) (hn : C ≠ K) : ∃ c t, Z.vm.findClass C = some c ∧ Z.vm.findClass K = some t ∧ Z.vm.assignable c t = false := by
  obtain ⟨c, t, h0, g0, n3⟩ := ns
  obtain ⟨p, k, kp, h1, h2, h3, h4, h5, -, h7⟩ := Cond.superclass_spec h0 w
  obtain ⟨t', k', g1, g2, g3, g4, -⟩ := Cond.instantiable_spec wk
  cases g0.symm.trans g1
  have ne := ids_ne h0 g0 hn
  have g5 : k'.isInterface = false := (Bool.or_eq_false_iff.mp g4).1
  refine ⟨c, t, h0, g0, ?_⟩
  show Z.vm.assignableAux (255 + 1) c t = false
  simp [Vm.assignableAux, ne, h2, g2, h5, g3, g5, Vm.isSubclass, n3]
theorem own_nar {v : Value} {C : String} (h : v.isRef = true) : narrow (.object C) v = v := by rcases ref_cases h with rfl | ⟨a, rfl⟩ <;> rfl
theorem own_fit {v : Value} {C : String} (h : v.isRef = true) : fits (.object C) v = true := by rcases ref_cases h with rfl | ⟨a, rfl⟩ <;> rfl
theorem own_refof {v : Value} (h : v.isRef = true) (n : ¬ v = .null) : ∃ a, v = .ref a := (ref_cases h).elim (fun q => absurd q n) id
theorem own_sint {args : Array Value} {s : State} {t : Term} {k : Int32} (h : (Cond.eq t (.int k)).value args s none s [] = some true) : t.eval args s none [] s = some (.int k) := by
  obtain ⟨x, y, hx, hy, -, kin⟩ := cmp_v (Or.inl h)
  obtain rfl : Value.int k = y := Option.some.inj hy
  obtain ⟨z, rfl⟩ := kin
  have e : z = k := by simpa [Cond.value, hx, hy] using h
  subst e; exact hx
theorem own_snot {args : Array Value} {s : State} {t : Term} {k z : Int32} (ht : t.eval args s none [] s = some (.int z)) (h : (Cond.not (Cond.eq t (.int k))).value args s none s [] = some true) : ¬ z = k := by
  have := not_v h
  intro e
  subst e
  simp [Cond.value, ht, Term.eval] at this
theorem own_seq {args : Array Value} {s : State} {t u : Term} {a b : Addr} (ht : t.eval args s none [] s = some (.ref a)) (hu : u.eval args s none [] s = some (.ref b)) (h : (Cond.eq t u).value args s none s [] = some true) : b = a := by
  have e : a = b := by simpa [Cond.value, ht, hu] using h
  exact e.symm
theorem own_len {args : Array Value} {s : State} {t : Term} {a : Addr} {c : Cell} {ty : FieldType} {n : Int32} (ht : t.eval args s none [] s = some (.ref a)) (A : Arr s s.heap a c ty) (h : (Cond.eq (.length t) (.int n)).value args s none s [] = some true) : c.slots.size < 2 ^ 31 ∧ c.slots.size.toInt32 = n := by
  have e0 := own_sint h
  have hfin := A.fin (Vm.Alike.refl _)
  by_cases hl : c.slots.size < 2 ^ 31
  · rw [len_f ht hfin hl] at e0
    exact ⟨hl, Value.int.inj (Option.some.inj e0)⟩
  · exfalso
    simp [Term.eval, ht, hfin, hl] at e0
theorem own_elem {args : Array Value} {s : State} {t u : Term} {a w : Addr} {c : Cell} {i : Int32} (ht : t.eval args s none [] s = some (.ref a)) (hc : s.heap[a]? = some c) (hu : u.eval args s none [] s = some (.ref w)) (h : (Cond.eq (.elem t (.int i)) u).value args s none s [] = some true) : c.slots[i.toNatClampNeg]? = some (.ref w) := by
  obtain ⟨x, y, hx, hy, k1, k2⟩ := cmp_v (Or.inl h)
  obtain rfl : Value.ref w = y := Option.some.inj (hu.symm.trans hy)
  have e := gotT (eq_R hx hu k2.2 rfl) h
  rw [e] at hx
  exact (elem_in hx ht (Term.int_eval i) hc).2
theorem own_ldcF {p : Program} {l : Launch} {e : Env} {R : Room} {s : State} {m : MethodId} {args : Array Value} {below : List Frame} {meth : Method} {c : Code} {T : State} {locs : List Loc} {cells slots : Nat}
    (X : Stand p l e R s m args below meth c T locs cells slots) (hx : p.tables.exec = Jvm.exec) {own : String} {index : Nat} {b : UInt32} (hown : s.vm.findClass own = some m.cls) (w : (Cond.constantFloat own index b).before args s = true) {g : JFrame} (hg : g.method = m) (hd : decode c.code g.pc = .ok (.ldc index, 2)) :
    ∀ target, Steps p.tables e below (T.setTop { g with pc := g.pc + 2, stack := .float b :: g.stack }) target → Steps p.tables e below (T.setTop g) target := by
  obtain ⟨k, cf, h1, h2, h3⟩ := Cond.constantFloat_spec hown w
  exact X.ldcFloat hx h1 h2 h3 hg hd
theorem own_old {Z : State} {n0 : Nat} {h : Heap} (O : Old Z n0 h) : n0 ≤ h.size := O.1 ▸ O.2.1
theorem own_rand (x m : Int32) (n : Int) (h0 : 0 ≤ m.toInt) (h1 : m.toInt < n) : 0 ≤ (x &&& m).toInt ∧ (x &&& m).toInt < n := by
  have := c_and x m h0; omega
theorem own_rrem (x y : Int32) (n : Int) (h0 : 0 ≤ x.toInt) (hy : y.toInt = n) (hn : 0 < n) : 0 ≤ (x % y).toInt ∧ (x % y).toInt < n := by
  rw [(c_irem x y n hy).1 h0]; exact ⟨Int.emod_nonneg _ (by omega), Int.emod_lt_of_pos _ hn⟩
theorem own_rshr (x q : Int32) (k : Nat) (m : Int) {n : Int} (r : 0 ≤ x.toInt ∧ x.toInt < n) (hk : q.toBitVec.toNat % 32 = k) (hm : (n - 1) / ((2 ^ k : Nat) : Int) < m) : 0 ≤ (x >>> (q &&& 31)).toInt ∧ (x >>> (q &&& 31)).toInt < m := by
  rw [c_ishr x q k hk]
  have hp : (0 : Int) < ((2 ^ k : Nat) : Int) := by exact_mod_cast Nat.two_pow_pos k
  exact ⟨Int.ediv_nonneg r.1 (Int.le_of_lt hp), Int.lt_of_le_of_lt (Int.ediv_le_ediv hp (by omega)) hm⟩
theorem own_off {e c : Int32} {n : Int} (r : 0 ≤ e.toInt ∧ e.toInt < n) (h : decide (n ≤ c.toInt ∨ c.toInt < 0) = true) : ¬ e = c := fun z => by
  subst z
  have := of_decide_eq_true h
  omega
theorem own_below {e c : Int32} {n : Int} (r : 0 ≤ e.toInt ∧ e.toInt < n) (h : n ≤ c.toInt) : e < c := by rw [Int32.lt_iff_toInt_lt]; omega
theorem own_notbelow {e c : Int32} {n : Int} (r : 0 ≤ e.toInt ∧ e.toInt < n) (h : c.toInt ≤ 0) : ¬ e < c := by rw [Int32.lt_iff_toInt_lt]; omega
theorem own_notabove {e c : Int32} {n : Int} (r : 0 ≤ e.toInt ∧ e.toInt < n) (h : n - 1 ≤ c.toInt) : ¬ c < e := by rw [Int32.lt_iff_toInt_lt]; omega
theorem own_above {e c : Int32} {n : Int} (r : 0 ≤ e.toInt ∧ e.toInt < n) (h : c.toInt < 0) : c < e := by rw [Int32.lt_iff_toInt_lt]; omega
theorem own_lt {a b : Int32} {n : Int} (h : a < b) (e : b.toInt = n) : a.toInt < n := by rw [← e]; exact Int32.lt_iff_toInt_lt.mp h
theorem own_ne {a b : Int32} {n : Int} (h : ¬ a = b) (e : b.toInt = n) : a.toInt ≠ n := fun z => h (Int32.toInt_inj.mp (z.trans e.symm))
theorem own_eq {a b : Int32} {n : Int} (e : b.toInt = n) (h : a.toInt = n) : a = b := Int32.toInt_inj.mp (h.trans e.symm)
theorem d1_0 : decode method_2_code 0 = .ok (.iload_n 0, 1) := by decide +kernel
theorem d1_1 : decode method_2_code 1 = .ok (.bipush 82, 2) := by decide +kernel
theorem d1_3 : decode method_2_code 3 = .ok (.if_icmp .eq 9, 3) := by decide +kernel
theorem d1_12 : decode method_2_code 12 = .ok (.iconst 1, 1) := by decide +kernel
theorem d1_13 : decode method_2_code 13 = .ok (.ireturn, 1) := by decide +kernel
theorem d1_6 : decode method_2_code 6 = .ok (.iload_n 0, 1) := by decide +kernel
theorem d1_7 : decode method_2_code 7 = .ok (.bipush 83, 2) := by decide +kernel
theorem d1_9 : decode method_2_code 9 = .ok (.if_icmp .ne 5, 3) := by decide +kernel
theorem d1_14 : decode method_2_code 14 = .ok (.iload_n 0, 1) := by decide +kernel
theorem d1_15 : decode method_2_code 15 = .ok (.ifCond .lt 11, 3) := by decide +kernel
theorem d1_26 : decode method_2_code 26 = .ok (.iload_n 0, 1) := by decide +kernel
theorem d1_27 : decode method_2_code 27 = .ok (.bipush 48, 2) := by decide +kernel
theorem d1_29 : decode method_2_code 29 = .ok (.if_icmp .lt 13, 3) := by decide +kernel
theorem d1_42 : decode method_2_code 42 = .ok (.iconst 0, 1) := by decide +kernel
theorem d1_43 : decode method_2_code 43 = .ok (.ireturn, 1) := by decide +kernel
theorem d1_32 : decode method_2_code 32 = .ok (.iload_n 0, 1) := by decide +kernel
theorem d1_33 : decode method_2_code 33 = .ok (.bipush 51, 2) := by decide +kernel
theorem d1_35 : decode method_2_code 35 = .ok (.if_icmp .gt 7, 3) := by decide +kernel
theorem d1_38 : decode method_2_code 38 = .ok (.iconst 1, 1) := by decide +kernel
theorem d1_39 : decode method_2_code 39 = .ok (.goto 4, 3) := by decide +kernel
theorem d1_18 : decode method_2_code 18 = .ok (.iload_n 0, 1) := by decide +kernel
theorem d1_19 : decode method_2_code 19 = .ok (.bipush 31, 2) := by decide +kernel
theorem d1_21 : decode method_2_code 21 = .ok (.if_icmp .gt 5, 3) := by decide +kernel
theorem d1_24 : decode method_2_code 24 = .ok (.iconst 1, 1) := by decide +kernel
theorem d1_25 : decode method_2_code 25 = .ok (.ireturn, 1) := by decide +kernel
abbrev Y0 : MethodName := (⟨"com/example/waystone/waystone/hessian/ChunkCodesStartsPinLaw", "expectedString", "(I)Z"⟩ : MethodName)
theorem pd_0 : parseMethodDescriptor "(I)Z" = some ⟨[.int], some .boolean⟩ := by decide +kernel
theorem d2_0 : decode prog_16_method_6_code 0 = .ok (.iload_n 1, 1) := by decide +kernel
theorem d2_1 : decode prog_16_method_6_code 1 = .ok (.aload_n 0, 1) := by decide +kernel
theorem d2_2 : decode prog_16_method_6_code 2 = .ok (.getfield 29, 3) := by decide +kernel
theorem d2_5 : decode prog_16_method_6_code 5 = .ok (.if_icmp .eq 27, 3) := by decide +kernel
theorem d2_32 : decode prog_16_method_6_code 32 = .ok (.iconst 1, 1) := by decide +kernel
theorem d2_33 : decode prog_16_method_6_code 33 = .ok (.goto 4, 3) := by decide +kernel
theorem d2_37 : decode prog_16_method_6_code 37 = .ok (.ireturn, 1) := by decide +kernel
theorem d2_8 : decode prog_16_method_6_code 8 = .ok (.iload_n 1, 1) := by decide +kernel
theorem d2_9 : decode prog_16_method_6_code 9 = .ok (.aload_n 0, 1) := by decide +kernel
theorem d2_10 : decode prog_16_method_6_code 10 = .ok (.getfield 33, 3) := by decide +kernel
theorem d2_13 : decode prog_16_method_6_code 13 = .ok (.if_icmp .eq 19, 3) := by decide +kernel
theorem d2_16 : decode prog_16_method_6_code 16 = .ok (.aload_n 0, 1) := by decide +kernel
theorem d2_17 : decode prog_16_method_6_code 17 = .ok (.iload_n 1, 1) := by decide +kernel
theorem d2_18 : decode prog_16_method_6_code 18 = .ok (.invokevirtual 45, 3) := by decide +kernel
theorem d3_0 : decode prog_16_method_4_code 0 = .ok (.aload_n 0, 1) := by decide +kernel
theorem d3_1 : decode prog_16_method_4_code 1 = .ok (.getfield 36, 3) := by decide +kernel
theorem d3_4 : decode prog_16_method_4_code 4 = .ok (.iload_n 1, 1) := by decide +kernel
theorem d3_5 : decode prog_16_method_4_code 5 = .ok (.if_icmp .gt 20, 3) := by decide +kernel
theorem d3_25 : decode prog_16_method_4_code 25 = .ok (.iconst 0, 1) := by decide +kernel
theorem d3_26 : decode prog_16_method_4_code 26 = .ok (.ireturn, 1) := by decide +kernel
theorem d3_8 : decode prog_16_method_4_code 8 = .ok (.iload_n 1, 1) := by decide +kernel
theorem d3_9 : decode prog_16_method_4_code 9 = .ok (.aload_n 0, 1) := by decide +kernel
theorem d3_10 : decode prog_16_method_4_code 10 = .ok (.getfield 36, 3) := by decide +kernel
theorem d3_13 : decode prog_16_method_4_code 13 = .ok (.aload_n 0, 1) := by decide +kernel
theorem d3_14 : decode prog_16_method_4_code 14 = .ok (.getfield 39, 3) := by decide +kernel
theorem d3_17 : decode prog_16_method_4_code 17 = .ok (.iadd, 1) := by decide +kernel
theorem d3_18 : decode prog_16_method_4_code 18 = .ok (.if_icmp .gt 7, 3) := by decide +kernel
theorem d3_21 : decode prog_16_method_4_code 21 = .ok (.iconst 1, 1) := by decide +kernel
theorem d3_22 : decode prog_16_method_4_code 22 = .ok (.goto 4, 3) := by decide +kernel
abbrev Y1 : MethodName := (⟨"com/example/waystone/waystone/hessian/ChunkCodes", "isCompact", "(I)Z"⟩ : MethodName)
theorem d2_21 : decode prog_16_method_6_code 21 = .ok (.ifCond .ne 11, 3) := by decide +kernel
theorem d2_24 : decode prog_16_method_6_code 24 = .ok (.aload_n 0, 1) := by decide +kernel
theorem d2_25 : decode prog_16_method_6_code 25 = .ok (.iload_n 1, 1) := by decide +kernel
theorem d2_26 : decode prog_16_method_6_code 26 = .ok (.invokevirtual 49, 3) := by decide +kernel
theorem d5_0 : decode prog_16_method_5_code 0 = .ok (.aload_n 0, 1) := by decide +kernel
theorem d5_1 : decode prog_16_method_5_code 1 = .ok (.getfield 42, 3) := by decide +kernel
theorem d5_4 : decode prog_16_method_5_code 4 = .ok (.iload_n 1, 1) := by decide +kernel
theorem d5_5 : decode prog_16_method_5_code 5 = .ok (.if_icmp .gt 17, 3) := by decide +kernel
theorem d5_22 : decode prog_16_method_5_code 22 = .ok (.iconst 0, 1) := by decide +kernel
theorem d5_23 : decode prog_16_method_5_code 23 = .ok (.ireturn, 1) := by decide +kernel
theorem d5_8 : decode prog_16_method_5_code 8 = .ok (.iload_n 1, 1) := by decide +kernel
theorem d5_9 : decode prog_16_method_5_code 9 = .ok (.aload_n 0, 1) := by decide +kernel
theorem d5_10 : decode prog_16_method_5_code 10 = .ok (.getfield 42, 3) := by decide +kernel
theorem d5_13 : decode prog_16_method_5_code 13 = .ok (.iconst 3, 1) := by decide +kernel
theorem d5_14 : decode prog_16_method_5_code 14 = .ok (.iadd, 1) := by decide +kernel
theorem d5_15 : decode prog_16_method_5_code 15 = .ok (.if_icmp .gt 7, 3) := by decide +kernel
theorem d5_18 : decode prog_16_method_5_code 18 = .ok (.iconst 1, 1) := by decide +kernel
theorem d5_19 : decode prog_16_method_5_code 19 = .ok (.goto 4, 3) := by decide +kernel
abbrev Y2 : MethodName := (⟨"com/example/waystone/waystone/hessian/ChunkCodes", "isMedium", "(I)Z"⟩ : MethodName)
theorem d2_29 : decode prog_16_method_6_code 29 = .ok (.ifCond .eq 7, 3) := by decide +kernel
theorem d2_36 : decode prog_16_method_6_code 36 = .ok (.iconst 0, 1) := by decide +kernel
abbrev Y3 : MethodName := (⟨"com/example/waystone/waystone/hessian/ChunkCodes", "starts", "(I)Z"⟩ : MethodName)
theorem d4_0 : decode method_3_code 0 = .ok (.iload_n 0, 1) := by decide +kernel
theorem d4_1 : decode method_3_code 1 = .ok (.bipush 65, 2) := by decide +kernel
theorem d4_3 : decode method_3_code 3 = .ok (.if_icmp .eq 9, 3) := by decide +kernel
theorem d4_12 : decode method_3_code 12 = .ok (.iconst 1, 1) := by decide +kernel
theorem d4_13 : decode method_3_code 13 = .ok (.ireturn, 1) := by decide +kernel
theorem d4_6 : decode method_3_code 6 = .ok (.iload_n 0, 1) := by decide +kernel
theorem d4_7 : decode method_3_code 7 = .ok (.bipush 66, 2) := by decide +kernel
theorem d4_9 : decode method_3_code 9 = .ok (.if_icmp .ne 5, 3) := by decide +kernel
theorem d4_14 : decode method_3_code 14 = .ok (.iload_n 0, 1) := by decide +kernel
theorem d4_15 : decode method_3_code 15 = .ok (.bipush 32, 2) := by decide +kernel
theorem d4_17 : decode method_3_code 17 = .ok (.if_icmp .lt 11, 3) := by decide +kernel
theorem d4_28 : decode method_3_code 28 = .ok (.iload_n 0, 1) := by decide +kernel
theorem d4_29 : decode method_3_code 29 = .ok (.bipush 52, 2) := by decide +kernel
theorem d4_31 : decode method_3_code 31 = .ok (.if_icmp .lt 13, 3) := by decide +kernel
theorem d4_44 : decode method_3_code 44 = .ok (.iconst 0, 1) := by decide +kernel
theorem d4_45 : decode method_3_code 45 = .ok (.ireturn, 1) := by decide +kernel
theorem d4_34 : decode method_3_code 34 = .ok (.iload_n 0, 1) := by decide +kernel
theorem d4_35 : decode method_3_code 35 = .ok (.bipush 55, 2) := by decide +kernel
theorem d4_37 : decode method_3_code 37 = .ok (.if_icmp .gt 7, 3) := by decide +kernel
theorem d4_40 : decode method_3_code 40 = .ok (.iconst 1, 1) := by decide +kernel
theorem d4_41 : decode method_3_code 41 = .ok (.goto 4, 3) := by decide +kernel
theorem d4_20 : decode method_3_code 20 = .ok (.iload_n 0, 1) := by decide +kernel
theorem d4_21 : decode method_3_code 21 = .ok (.bipush 47, 2) := by decide +kernel
theorem d4_23 : decode method_3_code 23 = .ok (.if_icmp .gt 5, 3) := by decide +kernel
theorem d4_26 : decode method_3_code 26 = .ok (.iconst 1, 1) := by decide +kernel
theorem d4_27 : decode method_3_code 27 = .ok (.ireturn, 1) := by decide +kernel
abbrev Y4 : MethodName := (⟨"com/example/waystone/waystone/hessian/ChunkCodesStartsPinLaw", "expectedBinary", "(I)Z"⟩ : MethodName)

def StF (Z : State) (w_1 : Addr) (w_2 : Addr) : Prop :=
  Sta Z Z.heap "com/example/waystone/waystone/hessian/ChunkCodes" "STRING" "Lcom/example/waystone/waystone/hessian/ChunkCodes;" (.ref w_1) ∧
  Exa Z Z.heap w_1 "com/example/waystone/waystone/hessian/ChunkCodes" ∧
  Sta Z Z.heap "com/example/waystone/waystone/hessian/ChunkCodes" "BINARY" "Lcom/example/waystone/waystone/hessian/ChunkCodes;" (.ref w_2) ∧
  Exa Z Z.heap w_2 "com/example/waystone/waystone/hessian/ChunkCodes" ∧
  Fld Z Z.heap w_1 "com/example/waystone/waystone/hessian/ChunkCodes" "more" "I" (.int (82 : Int32)) ∧
  Fld Z Z.heap w_1 "com/example/waystone/waystone/hessian/ChunkCodes" "last" "I" (.int (83 : Int32)) ∧
  Fld Z Z.heap w_1 "com/example/waystone/waystone/hessian/ChunkCodes" "compact" "I" (.int (0 : Int32)) ∧
  Fld Z Z.heap w_1 "com/example/waystone/waystone/hessian/ChunkCodes" "compactMax" "I" (.int (31 : Int32)) ∧
  Fld Z Z.heap w_2 "com/example/waystone/waystone/hessian/ChunkCodes" "more" "I" (.int (65 : Int32)) ∧
  Fld Z Z.heap w_2 "com/example/waystone/waystone/hessian/ChunkCodes" "last" "I" (.int (66 : Int32)) ∧
  Fld Z Z.heap w_2 "com/example/waystone/waystone/hessian/ChunkCodes" "compact" "I" (.int (32 : Int32)) ∧
  Fld Z Z.heap w_2 "com/example/waystone/waystone/hessian/ChunkCodes" "medium" "I" (.int (52 : Int32)) ∧
  Fld Z Z.heap w_1 "com/example/waystone/waystone/hessian/ChunkCodes" "medium" "I" (.int (48 : Int32)) ∧
  Fld Z Z.heap w_2 "com/example/waystone/waystone/hessian/ChunkCodes" "compactMax" "I" (.int (15 : Int32))
theorem pn_1 : plainName "com/example/waystone/waystone/hessian/ChunkCodesStartsPinLaw" = true := by first | (simp [plainName, overriddenIn]; done) | decide +kernel
theorem ef_1 (m : MethodId) (p0 : Int32) : entryFrame m #[(.int p0)] 1 = mkF m 0 #[.val (.int p0)] [] := by first | (simp [entryFrame, mkF, argsToLocals, Value.category]; done) | rfl
def sp1 (p0 : Int32) : Int32 := (if p0 = (82 : Int32) then (1 : Int32) else (if p0 = (83 : Int32) then (1 : Int32) else (if p0 < (0 : Int32) then (if p0 < (48 : Int32) then (0 : Int32) else (if (51 : Int32) < p0 then (0 : Int32) else (1 : Int32))) else (if (31 : Int32) < p0 then (if p0 < (48 : Int32) then (0 : Int32) else (if (51 : Int32) < p0 then (0 : Int32) else (1 : Int32))) else (1 : Int32)))))
def Q1 (Z : State) (w_1 : Addr) (w_2 : Addr) (p0 : Int32) (h0 : Heap) (n0 : Nat) (v : Option Value) (h : Heap) (L : List Loc) : Prop := v = some (.int (sp1 p0)) ∧ Fr n0 L ∧ h = h0
set_option maxRecDepth 65536 in
set_option maxHeartbeats 40000000 in
theorem rm1 (l : Launch) (Z : State) (a0 : Array Value) (hw : ∀ d ∈ tables_1, d.before a0 Z = true) (ws : List Jvm.Cond) (w_1 : Addr) (w_2 : Addr) (hS : StF Z w_1 w_2) (p0 : Int32) (h0 : Heap) (n0 : Nat) (O0 : Old Z n0 h0) :
    MetFree l Y0 (head1 (Jvm.Cond.code Y0 method_2_code 1 (some .boolean) :: ws) ({ frames := 0, cells := 0, slots := 0, locals := 0 } : Room)) (fun a U => a = #[(.int p0)] ∧ Z.Warmed39 U.vm ∧ U.heap = h0) (fun _ _ _ _ _ => True) (fun _ U o U' => ∃ v L, o = .returned v ∧ Q1 Z w_1 w_2 p0 h0 n0 v U'.heap L ∧ FrameEnd U o U' L ({ frames := 0, cells := 0, slots := 0, locals := 0 } : Room).cells ({ frames := 0, cells := 0, slots := 0, locals := 0 } : Room).slots) := by
  refine MetFree.of_bodySF (plainFor_of_name pn_1) hisR ?_
  intro p e s m args below meth c s₁ Bd hml0 hP hK
  obtain ⟨rfl, hZ, hh⟩ := hP
  have hx := Bd.exec
  have hby := Bd.bytes
  have hml : c.maxLocals = 1 := hml0
  have hown : s.vm.findClass "com/example/waystone/waystone/hessian/ChunkCodesStartsPinLaw" = some m.cls := findClass_of_methodNamed Bd.named
  have hnm := (name_of_methodNamed Bd.named Bd.method).1
  have X0 : Stand p l e ({ frames := 0, cells := 0, slots := 0, locals := 0 } : Room) s m #[(.int p0)] below meth c s₁ [] 0 0 := Stand.of_body Bd
  have e0 : s₁.heap = h0 := by rw [← hh, Bd.state]; rfl
  have N0 := Fr.nil n0
  have hS0 := hS
  obtain ⟨S_1, E_1, S_2, E_2, F_1_more, F_1_last, F_1_compact, F_1_compactMax, F_2_more, F_2_last, F_2_compact, F_2_medium, F_1_medium, F_2_compactMax⟩ := hS
  have pre0 : ∀ t, Steps p.tables e below (s₁.setTop (mkF m 0 #[.val (.int p0)] [])) t → Steps p.tables e below (s₁.setTop (entryFrame m #[(.int p0)] 1)) t := fun t k => castTop (ef_1 m p0) k
  have pre28 : ∀ t, Steps p.tables e below (s₁.setTop (mkF m 3 #[.val (.int p0)] [(.int (82 : Int32)), (.int p0)])) t → Steps p.tables e below (s₁.setTop (entryFrame m #[(.int p0)] 1)) t := fun t kt => by
    refine pre0 t ?_
    show Steps p.tables e below (s₁.setTop (mkF m 0 #[.val (.int p0)] [])) _
    refine XS.iloadN X0.here hx rfl (hb hby d1_0) rfl ?_
    show Steps p.tables e below (s₁.setTop (mkF m 1 #[.val (.int p0)] [(.int p0)])) _
    refine XS.bipush X0.here hx rfl (hb hby d1_1) ?_
    show Steps p.tables e below (s₁.setTop (mkF m 3 #[.val (.int p0)] [(.int (82 : Int32)), (.int p0)])) _
    exact kt
  by_cases hc29 : p0 = (82 : Int32)
  · obtain ⟨fs, hr, hrun, hended, hW, hsame⟩ := X0.leave (v := some (.int (1 : Int32))) (fun h => by rw [Bd.returns] at h; cases h)
    refine ⟨_, _, pre28 _ ?_, hrun, hended, _, _, rfl, ?_, ⟨_, rfl⟩, hW, hsame.mono (by decide) (by decide)⟩
    · show Steps p.tables e below (s₁.setTop (mkF m 3 #[.val (.int p0)] [(.int (82 : Int32)), (.int p0)])) _
      refine XS.icmpYes X0.here hx rfl (pc0 := 3) (pc' := 12) rfl (hb hby d1_3) rfl (teq hc29).1 (by decide) (by decide) ?_
      show Steps p.tables e below (s₁.setTop (mkF m 12 #[.val (.int p0)] [])) _
      refine XS.iconst X0.here hx rfl (hb hby d1_12) ?_
      show Steps p.tables e below (s₁.setTop (mkF m 13 #[.val (.int p0)] [(.int (1 : Int32))])) _
      exact retN X0 hx (t := .boolean) Bd.returns (by simp) (hb hby d1_13) hr
    · show Q1 Z w_1 w_2 p0 h0 n0 _ s₁.heap _
      rw [e0]
      exact ⟨by unfold sp1; rw [if_pos hc29], N0, rfl⟩
  · have pre30 : ∀ t, Steps p.tables e below (s₁.setTop (mkF m 9 #[.val (.int p0)] [(.int (83 : Int32)), (.int p0)])) t → Steps p.tables e below (s₁.setTop (entryFrame m #[(.int p0)] 1)) t := fun t kt => by
      refine pre28 t ?_
      show Steps p.tables e below (s₁.setTop (mkF m 3 #[.val (.int p0)] [(.int (82 : Int32)), (.int p0)])) _
      refine XS.icmpNo X0.here hx rfl (hb hby d1_3) rfl (feq hc29).1 ?_
      show Steps p.tables e below (s₁.setTop (mkF m 6 #[.val (.int p0)] [])) _
      refine XS.iloadN X0.here hx rfl (hb hby d1_6) rfl ?_
      show Steps p.tables e below (s₁.setTop (mkF m 7 #[.val (.int p0)] [(.int p0)])) _
      refine XS.bipush X0.here hx rfl (hb hby d1_7) ?_
      show Steps p.tables e below (s₁.setTop (mkF m 9 #[.val (.int p0)] [(.int (83 : Int32)), (.int p0)])) _
      exact kt
    by_cases hc31 : p0 = (83 : Int32)
    · obtain ⟨fs, hr, hrun, hended, hW, hsame⟩ := X0.leave (v := some (.int (1 : Int32))) (fun h => by rw [Bd.returns] at h; cases h)
      refine ⟨_, _, pre30 _ ?_, hrun, hended, _, _, rfl, ?_, ⟨_, rfl⟩, hW, hsame.mono (by decide) (by decide)⟩
      · show Steps p.tables e below (s₁.setTop (mkF m 9 #[.val (.int p0)] [(.int (83 : Int32)), (.int p0)])) _
        refine XS.icmpNo X0.here hx rfl (hb hby d1_9) rfl (teq hc31).2 ?_
        show Steps p.tables e below (s₁.setTop (mkF m 12 #[.val (.int p0)] [])) _
        refine XS.iconst X0.here hx rfl (hb hby d1_12) ?_
        show Steps p.tables e below (s₁.setTop (mkF m 13 #[.val (.int p0)] [(.int (1 : Int32))])) _
        exact retN X0 hx (t := .boolean) Bd.returns (by simp) (hb hby d1_13) hr
      · show Q1 Z w_1 w_2 p0 h0 n0 _ s₁.heap _
        rw [e0]
        exact ⟨by unfold sp1; rw [if_neg hc29, if_pos hc31], N0, rfl⟩
    · have pre32 : ∀ t, Steps p.tables e below (s₁.setTop (mkF m 15 #[.val (.int p0)] [(.int p0)])) t → Steps p.tables e below (s₁.setTop (entryFrame m #[(.int p0)] 1)) t := fun t kt => by
        refine pre30 t ?_
        show Steps p.tables e below (s₁.setTop (mkF m 9 #[.val (.int p0)] [(.int (83 : Int32)), (.int p0)])) _
        refine XS.icmpYes X0.here hx rfl (pc0 := 9) (pc' := 14) rfl (hb hby d1_9) rfl (feq hc31).2 (by decide) (by decide) ?_
        show Steps p.tables e below (s₁.setTop (mkF m 14 #[.val (.int p0)] [])) _
        refine XS.iloadN X0.here hx rfl (hb hby d1_14) rfl ?_
        show Steps p.tables e below (s₁.setTop (mkF m 15 #[.val (.int p0)] [(.int p0)])) _
        exact kt
      by_cases hc33 : p0 < (0 : Int32)
      · have pre34 : ∀ t, Steps p.tables e below (s₁.setTop (mkF m 29 #[.val (.int p0)] [(.int (48 : Int32)), (.int p0)])) t → Steps p.tables e below (s₁.setTop (entryFrame m #[(.int p0)] 1)) t := fun t kt => by
          refine pre32 t ?_
          show Steps p.tables e below (s₁.setTop (mkF m 15 #[.val (.int p0)] [(.int p0)])) _
          refine XS.ifYes X0.here hx rfl (pc0 := 15) (pc' := 26) rfl (hb hby d1_15) rfl ((if0 _ _).trans (tlt hc33).1) (by decide) (by decide) ?_
          show Steps p.tables e below (s₁.setTop (mkF m 26 #[.val (.int p0)] [])) _
          refine XS.iloadN X0.here hx rfl (hb hby d1_26) rfl ?_
          show Steps p.tables e below (s₁.setTop (mkF m 27 #[.val (.int p0)] [(.int p0)])) _
          refine XS.bipush X0.here hx rfl (hb hby d1_27) ?_
          show Steps p.tables e below (s₁.setTop (mkF m 29 #[.val (.int p0)] [(.int (48 : Int32)), (.int p0)])) _
          exact kt
        by_cases hc35 : p0 < (48 : Int32)
        · obtain ⟨fs, hr, hrun, hended, hW, hsame⟩ := X0.leave (v := some (.int (0 : Int32))) (fun h => by rw [Bd.returns] at h; cases h)
          refine ⟨_, _, pre34 _ ?_, hrun, hended, _, _, rfl, ?_, ⟨_, rfl⟩, hW, hsame.mono (by decide) (by decide)⟩
          · show Steps p.tables e below (s₁.setTop (mkF m 29 #[.val (.int p0)] [(.int (48 : Int32)), (.int p0)])) _
            refine XS.icmpYes X0.here hx rfl (pc0 := 29) (pc' := 42) rfl (hb hby d1_29) rfl (tlt hc35).1 (by decide) (by decide) ?_
            show Steps p.tables e below (s₁.setTop (mkF m 42 #[.val (.int p0)] [])) _
            refine XS.iconst X0.here hx rfl (hb hby d1_42) ?_
            show Steps p.tables e below (s₁.setTop (mkF m 43 #[.val (.int p0)] [(.int (0 : Int32))])) _
            exact retN X0 hx (t := .boolean) Bd.returns (by simp) (hb hby d1_43) hr
          · show Q1 Z w_1 w_2 p0 h0 n0 _ s₁.heap _
            rw [e0]
            exact ⟨by unfold sp1; rw [if_neg hc29, if_neg hc31, if_pos hc33, if_pos hc35], N0, rfl⟩
        · have pre36 : ∀ t, Steps p.tables e below (s₁.setTop (mkF m 35 #[.val (.int p0)] [(.int (51 : Int32)), (.int p0)])) t → Steps p.tables e below (s₁.setTop (entryFrame m #[(.int p0)] 1)) t := fun t kt => by
            refine pre34 t ?_
            show Steps p.tables e below (s₁.setTop (mkF m 29 #[.val (.int p0)] [(.int (48 : Int32)), (.int p0)])) _
            refine XS.icmpNo X0.here hx rfl (hb hby d1_29) rfl (flt hc35).1 ?_
            show Steps p.tables e below (s₁.setTop (mkF m 32 #[.val (.int p0)] [])) _
            refine XS.iloadN X0.here hx rfl (hb hby d1_32) rfl ?_
            show Steps p.tables e below (s₁.setTop (mkF m 33 #[.val (.int p0)] [(.int p0)])) _
            refine XS.bipush X0.here hx rfl (hb hby d1_33) ?_
            show Steps p.tables e below (s₁.setTop (mkF m 35 #[.val (.int p0)] [(.int (51 : Int32)), (.int p0)])) _
            exact kt
          by_cases hc37 : (51 : Int32) < p0
          · obtain ⟨fs, hr, hrun, hended, hW, hsame⟩ := X0.leave (v := some (.int (0 : Int32))) (fun h => by rw [Bd.returns] at h; cases h)
            refine ⟨_, _, pre36 _ ?_, hrun, hended, _, _, rfl, ?_, ⟨_, rfl⟩, hW, hsame.mono (by decide) (by decide)⟩
            · show Steps p.tables e below (s₁.setTop (mkF m 35 #[.val (.int p0)] [(.int (51 : Int32)), (.int p0)])) _
              refine XS.icmpYes X0.here hx rfl (pc0 := 35) (pc' := 42) rfl (hb hby d1_35) rfl (tlt hc37).2.2.1 (by decide) (by decide) ?_
              show Steps p.tables e below (s₁.setTop (mkF m 42 #[.val (.int p0)] [])) _
              refine XS.iconst X0.here hx rfl (hb hby d1_42) ?_
              show Steps p.tables e below (s₁.setTop (mkF m 43 #[.val (.int p0)] [(.int (0 : Int32))])) _
              exact retN X0 hx (t := .boolean) Bd.returns (by simp) (hb hby d1_43) hr
            · show Q1 Z w_1 w_2 p0 h0 n0 _ s₁.heap _
              rw [e0]
              exact ⟨by unfold sp1; rw [if_neg hc29, if_neg hc31, if_pos hc33, if_neg hc35, if_pos hc37], N0, rfl⟩
          · obtain ⟨fs, hr, hrun, hended, hW, hsame⟩ := X0.leave (v := some (.int (1 : Int32))) (fun h => by rw [Bd.returns] at h; cases h)
            refine ⟨_, _, pre36 _ ?_, hrun, hended, _, _, rfl, ?_, ⟨_, rfl⟩, hW, hsame.mono (by decide) (by decide)⟩
            · show Steps p.tables e below (s₁.setTop (mkF m 35 #[.val (.int p0)] [(.int (51 : Int32)), (.int p0)])) _
              refine XS.icmpNo X0.here hx rfl (hb hby d1_35) rfl (flt hc37).2.2.1 ?_
              show Steps p.tables e below (s₁.setTop (mkF m 38 #[.val (.int p0)] [])) _
              refine XS.iconst X0.here hx rfl (hb hby d1_38) ?_
              show Steps p.tables e below (s₁.setTop (mkF m 39 #[.val (.int p0)] [(.int (1 : Int32))])) _
              refine XS.goto X0.here hx rfl (pc0 := 39) (pc' := 43) rfl (hb hby d1_39) (by decide) (by decide) ?_
              show Steps p.tables e below (s₁.setTop (mkF m 43 #[.val (.int p0)] [(.int (1 : Int32))])) _
              exact retN X0 hx (t := .boolean) Bd.returns (by simp) (hb hby d1_43) hr
            · show Q1 Z w_1 w_2 p0 h0 n0 _ s₁.heap _
              rw [e0]
              exact ⟨by unfold sp1; rw [if_neg hc29, if_neg hc31, if_pos hc33, if_neg hc35, if_neg hc37], N0, rfl⟩
      · have pre38 : ∀ t, Steps p.tables e below (s₁.setTop (mkF m 21 #[.val (.int p0)] [(.int (31 : Int32)), (.int p0)])) t → Steps p.tables e below (s₁.setTop (entryFrame m #[(.int p0)] 1)) t := fun t kt => by
          refine pre32 t ?_
          show Steps p.tables e below (s₁.setTop (mkF m 15 #[.val (.int p0)] [(.int p0)])) _
          refine XS.ifNo X0.here hx rfl (hb hby d1_15) rfl ((if0 _ _).trans (flt hc33).1) ?_
          show Steps p.tables e below (s₁.setTop (mkF m 18 #[.val (.int p0)] [])) _
          refine XS.iloadN X0.here hx rfl (hb hby d1_18) rfl ?_
          show Steps p.tables e below (s₁.setTop (mkF m 19 #[.val (.int p0)] [(.int p0)])) _
          refine XS.bipush X0.here hx rfl (hb hby d1_19) ?_
          show Steps p.tables e below (s₁.setTop (mkF m 21 #[.val (.int p0)] [(.int (31 : Int32)), (.int p0)])) _
          exact kt
        by_cases hc39 : (31 : Int32) < p0
        · have pre40 : ∀ t, Steps p.tables e below (s₁.setTop (mkF m 29 #[.val (.int p0)] [(.int (48 : Int32)), (.int p0)])) t → Steps p.tables e below (s₁.setTop (entryFrame m #[(.int p0)] 1)) t := fun t kt => by
            refine pre38 t ?_
            show Steps p.tables e below (s₁.setTop (mkF m 21 #[.val (.int p0)] [(.int (31 : Int32)), (.int p0)])) _
            refine XS.icmpYes X0.here hx rfl (pc0 := 21) (pc' := 26) rfl (hb hby d1_21) rfl (tlt hc39).2.2.1 (by decide) (by decide) ?_
            show Steps p.tables e below (s₁.setTop (mkF m 26 #[.val (.int p0)] [])) _
            refine XS.iloadN X0.here hx rfl (hb hby d1_26) rfl ?_
            show Steps p.tables e below (s₁.setTop (mkF m 27 #[.val (.int p0)] [(.int p0)])) _
            refine XS.bipush X0.here hx rfl (hb hby d1_27) ?_
            show Steps p.tables e below (s₁.setTop (mkF m 29 #[.val (.int p0)] [(.int (48 : Int32)), (.int p0)])) _
            exact kt
          by_cases hc41 : p0 < (48 : Int32)
          · obtain ⟨fs, hr, hrun, hended, hW, hsame⟩ := X0.leave (v := some (.int (0 : Int32))) (fun h => by rw [Bd.returns] at h; cases h)
            refine ⟨_, _, pre40 _ ?_, hrun, hended, _, _, rfl, ?_, ⟨_, rfl⟩, hW, hsame.mono (by decide) (by decide)⟩
            · show Steps p.tables e below (s₁.setTop (mkF m 29 #[.val (.int p0)] [(.int (48 : Int32)), (.int p0)])) _
              refine XS.icmpYes X0.here hx rfl (pc0 := 29) (pc' := 42) rfl (hb hby d1_29) rfl (tlt hc41).1 (by decide) (by decide) ?_
              show Steps p.tables e below (s₁.setTop (mkF m 42 #[.val (.int p0)] [])) _
              refine XS.iconst X0.here hx rfl (hb hby d1_42) ?_
              show Steps p.tables e below (s₁.setTop (mkF m 43 #[.val (.int p0)] [(.int (0 : Int32))])) _
              exact retN X0 hx (t := .boolean) Bd.returns (by simp) (hb hby d1_43) hr
            · show Q1 Z w_1 w_2 p0 h0 n0 _ s₁.heap _
              rw [e0]
              exact ⟨by unfold sp1; rw [if_neg hc29, if_neg hc31, if_neg hc33, if_pos hc39, if_pos hc41], N0, rfl⟩
          · have pre42 : ∀ t, Steps p.tables e below (s₁.setTop (mkF m 35 #[.val (.int p0)] [(.int (51 : Int32)), (.int p0)])) t → Steps p.tables e below (s₁.setTop (entryFrame m #[(.int p0)] 1)) t := fun t kt => by
              refine pre40 t ?_
              show Steps p.tables e below (s₁.setTop (mkF m 29 #[.val (.int p0)] [(.int (48 : Int32)), (.int p0)])) _
              refine XS.icmpNo X0.here hx rfl (hb hby d1_29) rfl (flt hc41).1 ?_
              show Steps p.tables e below (s₁.setTop (mkF m 32 #[.val (.int p0)] [])) _
              refine XS.iloadN X0.here hx rfl (hb hby d1_32) rfl ?_
              show Steps p.tables e below (s₁.setTop (mkF m 33 #[.val (.int p0)] [(.int p0)])) _
              refine XS.bipush X0.here hx rfl (hb hby d1_33) ?_
              show Steps p.tables e below (s₁.setTop (mkF m 35 #[.val (.int p0)] [(.int (51 : Int32)), (.int p0)])) _
              exact kt
            by_cases hc43 : (51 : Int32) < p0
            · obtain ⟨fs, hr, hrun, hended, hW, hsame⟩ := X0.leave (v := some (.int (0 : Int32))) (fun h => by rw [Bd.returns] at h; cases h)
              refine ⟨_, _, pre42 _ ?_, hrun, hended, _, _, rfl, ?_, ⟨_, rfl⟩, hW, hsame.mono (by decide) (by decide)⟩
              · show Steps p.tables e below (s₁.setTop (mkF m 35 #[.val (.int p0)] [(.int (51 : Int32)), (.int p0)])) _
                refine XS.icmpYes X0.here hx rfl (pc0 := 35) (pc' := 42) rfl (hb hby d1_35) rfl (tlt hc43).2.2.1 (by decide) (by decide) ?_
                show Steps p.tables e below (s₁.setTop (mkF m 42 #[.val (.int p0)] [])) _
                refine XS.iconst X0.here hx rfl (hb hby d1_42) ?_
                show Steps p.tables e below (s₁.setTop (mkF m 43 #[.val (.int p0)] [(.int (0 : Int32))])) _
                exact retN X0 hx (t := .boolean) Bd.returns (by simp) (hb hby d1_43) hr
              · show Q1 Z w_1 w_2 p0 h0 n0 _ s₁.heap _
                rw [e0]
                exact ⟨by unfold sp1; rw [if_neg hc29, if_neg hc31, if_neg hc33, if_pos hc39, if_neg hc41, if_pos hc43], N0, rfl⟩
            · obtain ⟨fs, hr, hrun, hended, hW, hsame⟩ := X0.leave (v := some (.int (1 : Int32))) (fun h => by rw [Bd.returns] at h; cases h)
              refine ⟨_, _, pre42 _ ?_, hrun, hended, _, _, rfl, ?_, ⟨_, rfl⟩, hW, hsame.mono (by decide) (by decide)⟩
              · show Steps p.tables e below (s₁.setTop (mkF m 35 #[.val (.int p0)] [(.int (51 : Int32)), (.int p0)])) _
                refine XS.icmpNo X0.here hx rfl (hb hby d1_35) rfl (flt hc43).2.2.1 ?_
                show Steps p.tables e below (s₁.setTop (mkF m 38 #[.val (.int p0)] [])) _
                refine XS.iconst X0.here hx rfl (hb hby d1_38) ?_
                show Steps p.tables e below (s₁.setTop (mkF m 39 #[.val (.int p0)] [(.int (1 : Int32))])) _
                refine XS.goto X0.here hx rfl (pc0 := 39) (pc' := 43) rfl (hb hby d1_39) (by decide) (by decide) ?_
                show Steps p.tables e below (s₁.setTop (mkF m 43 #[.val (.int p0)] [(.int (1 : Int32))])) _
                exact retN X0 hx (t := .boolean) Bd.returns (by simp) (hb hby d1_43) hr
              · show Q1 Z w_1 w_2 p0 h0 n0 _ s₁.heap _
                rw [e0]
                exact ⟨by unfold sp1; rw [if_neg hc29, if_neg hc31, if_neg hc33, if_pos hc39, if_neg hc41, if_neg hc43], N0, rfl⟩
        · obtain ⟨fs, hr, hrun, hended, hW, hsame⟩ := X0.leave (v := some (.int (1 : Int32))) (fun h => by rw [Bd.returns] at h; cases h)
          refine ⟨_, _, pre38 _ ?_, hrun, hended, _, _, rfl, ?_, ⟨_, rfl⟩, hW, hsame.mono (by decide) (by decide)⟩
          · show Steps p.tables e below (s₁.setTop (mkF m 21 #[.val (.int p0)] [(.int (31 : Int32)), (.int p0)])) _
            refine XS.icmpNo X0.here hx rfl (hb hby d1_21) rfl (flt hc39).2.2.1 ?_
            show Steps p.tables e below (s₁.setTop (mkF m 24 #[.val (.int p0)] [])) _
            refine XS.iconst X0.here hx rfl (hb hby d1_24) ?_
            show Steps p.tables e below (s₁.setTop (mkF m 25 #[.val (.int p0)] [(.int (1 : Int32))])) _
            exact retN X0 hx (t := .boolean) Bd.returns (by simp) (hb hby d1_25) hr
          · show Q1 Z w_1 w_2 p0 h0 n0 _ s₁.heap _
            rw [e0]
            exact ⟨by unfold sp1; rw [if_neg hc29, if_neg hc31, if_neg hc33, if_neg hc39], N0, rfl⟩
theorem pn_3 : plainName "com/example/waystone/waystone/hessian/ChunkCodes" = true := by first | (simp [plainName, overriddenIn]; done) | decide +kernel
theorem ef_3 (m : MethodId) (r0 : Addr) (p1 : Int32) : entryFrame m #[(.ref r0), (.int p1)] 2 = mkF m 0 #[.val (.ref r0), .val (.int p1)] [] := by first | (simp [entryFrame, mkF, argsToLocals, Value.category]; done) | rfl
def sp3 (p1 : Int32) (f_compact_r0 : Int32) (f_compactMax_r0 : Int32) : Int32 := (if p1 < f_compact_r0 then (0 : Int32) else (if (f_compact_r0 + f_compactMax_r0) < p1 then (0 : Int32) else (1 : Int32)))
def Q3 (Z : State) (w_1 : Addr) (w_2 : Addr) (r0 : Addr) (p1 : Int32) (f_compact_r0 : Int32) (f_compactMax_r0 : Int32) (h0 : Heap) (n0 : Nat) (v : Option Value) (h : Heap) (L : List Loc) : Prop := v = some (.int (sp3 p1 f_compact_r0 f_compactMax_r0)) ∧ Fr n0 L ∧ h = h0
set_option maxRecDepth 65536 in
set_option maxHeartbeats 40000000 in
theorem rm3 (l : Launch) (Z : State) (a0 : Array Value) (hw : ∀ d ∈ tables_1, d.before a0 Z = true) (ws : List Jvm.Cond) (w_1 : Addr) (w_2 : Addr) (hS : StF Z w_1 w_2) (r0 : Addr) (p1 : Int32) (f_compact_r0 : Int32) (f_compactMax_r0 : Int32) (h0 : Heap) (n0 : Nat) (O0 : Old Z n0 h0) (F_compact_r0 : Fld Z h0 r0 "com/example/waystone/waystone/hessian/ChunkCodes" "compact" "I" (.int f_compact_r0)) (F_compactMax_r0 : Fld Z h0 r0 "com/example/waystone/waystone/hessian/ChunkCodes" "compactMax" "I" (.int f_compactMax_r0)) :
    MetFree l Y1 (head1 (Jvm.Cond.code Y1 prog_16_method_4_code 2 (some .boolean) :: ws) ({ frames := 0, cells := 0, slots := 0, locals := 0 } : Room)) (fun a U => a = #[(.ref r0), (.int p1)] ∧ Z.Warmed39 U.vm ∧ U.heap = h0) (fun _ _ _ _ _ => True) (fun _ U o U' => ∃ v L, o = .returned v ∧ Q3 Z w_1 w_2 r0 p1 f_compact_r0 f_compactMax_r0 h0 n0 v U'.heap L ∧ FrameEnd U o U' L ({ frames := 0, cells := 0, slots := 0, locals := 0 } : Room).cells ({ frames := 0, cells := 0, slots := 0, locals := 0 } : Room).slots) := by
  refine MetFree.of_bodySF (plainFor_of_name pn_3) hisR ?_
  intro p e s m args below meth c s₁ Bd hml0 hP hK
  obtain ⟨rfl, hZ, hh⟩ := hP
  have hx := Bd.exec
  have hby := Bd.bytes
  have hml : c.maxLocals = 2 := hml0
  have hown : s.vm.findClass "com/example/waystone/waystone/hessian/ChunkCodes" = some m.cls := findClass_of_methodNamed Bd.named
  have hnm := (name_of_methodNamed Bd.named Bd.method).1
  have X0 : Stand p l e ({ frames := 0, cells := 0, slots := 0, locals := 0 } : Room) s m #[(.ref r0), (.int p1)] below meth c s₁ [] 0 0 := Stand.of_body Bd
  have e0 : s₁.heap = h0 := by rw [← hh, Bd.state]; rfl
  have N0 := Fr.nil n0
  have hS0 := hS
  obtain ⟨S_1, E_1, S_2, E_2, F_1_more, F_1_last, F_1_compact, F_1_compactMax, F_2_more, F_2_last, F_2_compact, F_2_medium, F_1_medium, F_2_compactMax⟩ := hS
  have pre0 : ∀ t, Steps p.tables e below (s₁.setTop (mkF m 0 #[.val (.ref r0), .val (.int p1)] [])) t → Steps p.tables e below (s₁.setTop (entryFrame m #[(.ref r0), (.int p1)] 2)) t := fun t k => castTop (ef_3 m r0 p1) k
  obtain ⟨T51, X51, e51, st51⟩ := getF X0 hx hZ hown (host := "") (Or.inl (hw _ (tk 21 rfl))) Via.refl e0 F_compact_r0 (g := (mkF m 1 #[.val (.ref r0), .val (.int p1)] [(.ref r0)])) rfl rfl (hb hby d3_1)
  have pre52 : ∀ t, Steps p.tables e below (T51.setTop (mkF m 5 #[.val (.ref r0), .val (.int p1)] [(.int p1), (.int f_compact_r0)])) t → Steps p.tables e below (s₁.setTop (entryFrame m #[(.ref r0), (.int p1)] 2)) t := fun t kt => by
    refine pre0 t ?_
    show Steps p.tables e below (s₁.setTop (mkF m 0 #[.val (.ref r0), .val (.int p1)] [])) _
    refine XS.aloadN X0.here hx rfl (hb hby d3_0) rfl rfl ?_
    show Steps p.tables e below (s₁.setTop (mkF m 1 #[.val (.ref r0), .val (.int p1)] [(.ref r0)])) _
    refine st51 _ ?_
    show Steps p.tables e below (T51.setTop (mkF m 4 #[.val (.ref r0), .val (.int p1)] [(.int f_compact_r0)])) _
    refine XS.iloadN X51.here hx rfl (hb hby d3_4) rfl ?_
    show Steps p.tables e below (T51.setTop (mkF m 5 #[.val (.ref r0), .val (.int p1)] [(.int p1), (.int f_compact_r0)])) _
    exact kt
  by_cases hc53 : p1 < f_compact_r0
  · obtain ⟨fs, hr, hrun, hended, hW, hsame⟩ := X51.leave (v := some (.int (0 : Int32))) (fun h => by rw [Bd.returns] at h; cases h)
    refine ⟨_, _, pre52 _ ?_, hrun, hended, _, _, rfl, ?_, ⟨_, rfl⟩, hW, hsame.mono (by decide) (by decide)⟩
    · show Steps p.tables e below (T51.setTop (mkF m 5 #[.val (.ref r0), .val (.int p1)] [(.int p1), (.int f_compact_r0)])) _
      refine XS.icmpYes X51.here hx rfl (pc0 := 5) (pc' := 25) rfl (hb hby d3_5) rfl (tlt hc53).2.2.1 (by decide) (by decide) ?_
      show Steps p.tables e below (T51.setTop (mkF m 25 #[.val (.ref r0), .val (.int p1)] [])) _
      refine XS.iconst X51.here hx rfl (hb hby d3_25) ?_
      show Steps p.tables e below (T51.setTop (mkF m 26 #[.val (.ref r0), .val (.int p1)] [(.int (0 : Int32))])) _
      exact retN X51 hx (t := .boolean) Bd.returns (by simp) (hb hby d3_26) hr
    · show Q3 Z w_1 w_2 r0 p1 f_compact_r0 f_compactMax_r0 h0 n0 _ T51.heap _
      rw [e51]
      exact ⟨by unfold sp3; rw [if_pos hc53], N0, rfl⟩
  · obtain ⟨T54, X54, e54, st54⟩ := getF X51 hx hZ hown (host := "") (Or.inl (hw _ (tk 21 rfl))) Via.refl e51 F_compact_r0 (g := (mkF m 10 #[.val (.ref r0), .val (.int p1)] [(.ref r0), (.int p1)])) rfl rfl (hb hby d3_10)
    obtain ⟨T55, X55, e55, st55⟩ := getF X54 hx hZ hown (host := "") (Or.inl (hw _ (tk 23 rfl))) Via.refl e54 F_compactMax_r0 (g := (mkF m 14 #[.val (.ref r0), .val (.int p1)] [(.ref r0), (.int f_compact_r0), (.int p1)])) rfl rfl (hb hby d3_14)
    have pre56 : ∀ t, Steps p.tables e below (T55.setTop (mkF m 18 #[.val (.ref r0), .val (.int p1)] [(.int (f_compact_r0 + f_compactMax_r0)), (.int p1)])) t → Steps p.tables e below (s₁.setTop (entryFrame m #[(.ref r0), (.int p1)] 2)) t := fun t kt => by
      refine pre52 t ?_
      show Steps p.tables e below (T51.setTop (mkF m 5 #[.val (.ref r0), .val (.int p1)] [(.int p1), (.int f_compact_r0)])) _
      refine XS.icmpNo X51.here hx rfl (hb hby d3_5) rfl (flt hc53).2.2.1 ?_
      show Steps p.tables e below (T51.setTop (mkF m 8 #[.val (.ref r0), .val (.int p1)] [])) _
      refine XS.iloadN X51.here hx rfl (hb hby d3_8) rfl ?_
      show Steps p.tables e below (T51.setTop (mkF m 9 #[.val (.ref r0), .val (.int p1)] [(.int p1)])) _
      refine XS.aloadN X51.here hx rfl (hb hby d3_9) rfl rfl ?_
      show Steps p.tables e below (T51.setTop (mkF m 10 #[.val (.ref r0), .val (.int p1)] [(.ref r0), (.int p1)])) _
      refine st54 _ ?_
      show Steps p.tables e below (T54.setTop (mkF m 13 #[.val (.ref r0), .val (.int p1)] [(.int f_compact_r0), (.int p1)])) _
      refine XS.aloadN X54.here hx rfl (hb hby d3_13) rfl rfl ?_
      show Steps p.tables e below (T54.setTop (mkF m 14 #[.val (.ref r0), .val (.int p1)] [(.ref r0), (.int f_compact_r0), (.int p1)])) _
      refine st55 _ ?_
      show Steps p.tables e below (T55.setTop (mkF m 17 #[.val (.ref r0), .val (.int p1)] [(.int f_compactMax_r0), (.int f_compact_r0), (.int p1)])) _
      refine XS.iadd X55.here hx rfl (hb hby d3_17) rfl ?_
      show Steps p.tables e below (T55.setTop (mkF m 18 #[.val (.ref r0), .val (.int p1)] [(.int (f_compact_r0 + f_compactMax_r0)), (.int p1)])) _
      exact kt
    by_cases hc57 : (f_compact_r0 + f_compactMax_r0) < p1
    · obtain ⟨fs, hr, hrun, hended, hW, hsame⟩ := X55.leave (v := some (.int (0 : Int32))) (fun h => by rw [Bd.returns] at h; cases h)
      refine ⟨_, _, pre56 _ ?_, hrun, hended, _, _, rfl, ?_, ⟨_, rfl⟩, hW, hsame.mono (by decide) (by decide)⟩
      · show Steps p.tables e below (T55.setTop (mkF m 18 #[.val (.ref r0), .val (.int p1)] [(.int (f_compact_r0 + f_compactMax_r0)), (.int p1)])) _
        refine XS.icmpYes X55.here hx rfl (pc0 := 18) (pc' := 25) rfl (hb hby d3_18) rfl (tlt hc57).2.2.1 (by decide) (by decide) ?_
        show Steps p.tables e below (T55.setTop (mkF m 25 #[.val (.ref r0), .val (.int p1)] [])) _
        refine XS.iconst X55.here hx rfl (hb hby d3_25) ?_
        show Steps p.tables e below (T55.setTop (mkF m 26 #[.val (.ref r0), .val (.int p1)] [(.int (0 : Int32))])) _
        exact retN X55 hx (t := .boolean) Bd.returns (by simp) (hb hby d3_26) hr
      · show Q3 Z w_1 w_2 r0 p1 f_compact_r0 f_compactMax_r0 h0 n0 _ T55.heap _
        rw [e55]
        exact ⟨by unfold sp3; rw [if_neg hc53, if_pos hc57], N0, rfl⟩
    · obtain ⟨fs, hr, hrun, hended, hW, hsame⟩ := X55.leave (v := some (.int (1 : Int32))) (fun h => by rw [Bd.returns] at h; cases h)
      refine ⟨_, _, pre56 _ ?_, hrun, hended, _, _, rfl, ?_, ⟨_, rfl⟩, hW, hsame.mono (by decide) (by decide)⟩
      · show Steps p.tables e below (T55.setTop (mkF m 18 #[.val (.ref r0), .val (.int p1)] [(.int (f_compact_r0 + f_compactMax_r0)), (.int p1)])) _
        refine XS.icmpNo X55.here hx rfl (hb hby d3_18) rfl (flt hc57).2.2.1 ?_
        show Steps p.tables e below (T55.setTop (mkF m 21 #[.val (.ref r0), .val (.int p1)] [])) _
        refine XS.iconst X55.here hx rfl (hb hby d3_21) ?_
        show Steps p.tables e below (T55.setTop (mkF m 22 #[.val (.ref r0), .val (.int p1)] [(.int (1 : Int32))])) _
        refine XS.goto X55.here hx rfl (pc0 := 22) (pc' := 26) rfl (hb hby d3_22) (by decide) (by decide) ?_
        show Steps p.tables e below (T55.setTop (mkF m 26 #[.val (.ref r0), .val (.int p1)] [(.int (1 : Int32))])) _
        exact retN X55 hx (t := .boolean) Bd.returns (by simp) (hb hby d3_26) hr
      · show Q3 Z w_1 w_2 r0 p1 f_compact_r0 f_compactMax_r0 h0 n0 _ T55.heap _
        rw [e55]
        exact ⟨by unfold sp3; rw [if_neg hc53, if_neg hc57], N0, rfl⟩
theorem pn_5 : plainName "com/example/waystone/waystone/hessian/ChunkCodes" = true := by first | (simp [plainName, overriddenIn]; done) | decide +kernel
theorem ef_5 (m : MethodId) (r0 : Addr) (p1 : Int32) : entryFrame m #[(.ref r0), (.int p1)] 2 = mkF m 0 #[.val (.ref r0), .val (.int p1)] [] := by first | (simp [entryFrame, mkF, argsToLocals, Value.category]; done) | rfl
def sp5 (p1 : Int32) (f_medium_r0 : Int32) : Int32 := (if p1 < f_medium_r0 then (0 : Int32) else (if (f_medium_r0 + (3 : Int32)) < p1 then (0 : Int32) else (1 : Int32)))
def Q5 (Z : State) (w_1 : Addr) (w_2 : Addr) (r0 : Addr) (p1 : Int32) (f_medium_r0 : Int32) (h0 : Heap) (n0 : Nat) (v : Option Value) (h : Heap) (L : List Loc) : Prop := v = some (.int (sp5 p1 f_medium_r0)) ∧ Fr n0 L ∧ h = h0
set_option maxRecDepth 65536 in
set_option maxHeartbeats 40000000 in
theorem rm5 (l : Launch) (Z : State) (a0 : Array Value) (hw : ∀ d ∈ tables_1, d.before a0 Z = true) (ws : List Jvm.Cond) (w_1 : Addr) (w_2 : Addr) (hS : StF Z w_1 w_2) (r0 : Addr) (p1 : Int32) (f_medium_r0 : Int32) (h0 : Heap) (n0 : Nat) (O0 : Old Z n0 h0) (F_medium_r0 : Fld Z h0 r0 "com/example/waystone/waystone/hessian/ChunkCodes" "medium" "I" (.int f_medium_r0)) :
    MetFree l Y2 (head1 (Jvm.Cond.code Y2 prog_16_method_5_code 2 (some .boolean) :: ws) ({ frames := 0, cells := 0, slots := 0, locals := 0 } : Room)) (fun a U => a = #[(.ref r0), (.int p1)] ∧ Z.Warmed39 U.vm ∧ U.heap = h0) (fun _ _ _ _ _ => True) (fun _ U o U' => ∃ v L, o = .returned v ∧ Q5 Z w_1 w_2 r0 p1 f_medium_r0 h0 n0 v U'.heap L ∧ FrameEnd U o U' L ({ frames := 0, cells := 0, slots := 0, locals := 0 } : Room).cells ({ frames := 0, cells := 0, slots := 0, locals := 0 } : Room).slots) := by
  refine MetFree.of_bodySF (plainFor_of_name pn_5) hisR ?_
  intro p e s m args below meth c s₁ Bd hml0 hP hK
  obtain ⟨rfl, hZ, hh⟩ := hP
  have hx := Bd.exec
  have hby := Bd.bytes
  have hml : c.maxLocals = 2 := hml0
  have hown : s.vm.findClass "com/example/waystone/waystone/hessian/ChunkCodes" = some m.cls := findClass_of_methodNamed Bd.named
  have hnm := (name_of_methodNamed Bd.named Bd.method).1
  have X0 : Stand p l e ({ frames := 0, cells := 0, slots := 0, locals := 0 } : Room) s m #[(.ref r0), (.int p1)] below meth c s₁ [] 0 0 := Stand.of_body Bd
  have e0 : s₁.heap = h0 := by rw [← hh, Bd.state]; rfl
  have N0 := Fr.nil n0
  have hS0 := hS
  obtain ⟨S_1, E_1, S_2, E_2, F_1_more, F_1_last, F_1_compact, F_1_compactMax, F_2_more, F_2_last, F_2_compact, F_2_medium, F_1_medium, F_2_compactMax⟩ := hS
  have pre0 : ∀ t, Steps p.tables e below (s₁.setTop (mkF m 0 #[.val (.ref r0), .val (.int p1)] [])) t → Steps p.tables e below (s₁.setTop (entryFrame m #[(.ref r0), (.int p1)] 2)) t := fun t k => castTop (ef_5 m r0 p1) k
  obtain ⟨T61, X61, e61, st61⟩ := getF X0 hx hZ hown (host := "") (Or.inl (hw _ (tk 35 rfl))) Via.refl e0 F_medium_r0 (g := (mkF m 1 #[.val (.ref r0), .val (.int p1)] [(.ref r0)])) rfl rfl (hb hby d5_1)
  have pre62 : ∀ t, Steps p.tables e below (T61.setTop (mkF m 5 #[.val (.ref r0), .val (.int p1)] [(.int p1), (.int f_medium_r0)])) t → Steps p.tables e below (s₁.setTop (entryFrame m #[(.ref r0), (.int p1)] 2)) t := fun t kt => by
    refine pre0 t ?_
    show Steps p.tables e below (s₁.setTop (mkF m 0 #[.val (.ref r0), .val (.int p1)] [])) _
    refine XS.aloadN X0.here hx rfl (hb hby d5_0) rfl rfl ?_
    show Steps p.tables e below (s₁.setTop (mkF m 1 #[.val (.ref r0), .val (.int p1)] [(.ref r0)])) _
    refine st61 _ ?_
    show Steps p.tables e below (T61.setTop (mkF m 4 #[.val (.ref r0), .val (.int p1)] [(.int f_medium_r0)])) _
    refine XS.iloadN X61.here hx rfl (hb hby d5_4) rfl ?_
    show Steps p.tables e below (T61.setTop (mkF m 5 #[.val (.ref r0), .val (.int p1)] [(.int p1), (.int f_medium_r0)])) _
    exact kt
  by_cases hc63 : p1 < f_medium_r0
  · obtain ⟨fs, hr, hrun, hended, hW, hsame⟩ := X61.leave (v := some (.int (0 : Int32))) (fun h => by rw [Bd.returns] at h; cases h)
    refine ⟨_, _, pre62 _ ?_, hrun, hended, _, _, rfl, ?_, ⟨_, rfl⟩, hW, hsame.mono (by decide) (by decide)⟩
    · show Steps p.tables e below (T61.setTop (mkF m 5 #[.val (.ref r0), .val (.int p1)] [(.int p1), (.int f_medium_r0)])) _
      refine XS.icmpYes X61.here hx rfl (pc0 := 5) (pc' := 22) rfl (hb hby d5_5) rfl (tlt hc63).2.2.1 (by decide) (by decide) ?_
      show Steps p.tables e below (T61.setTop (mkF m 22 #[.val (.ref r0), .val (.int p1)] [])) _
      refine XS.iconst X61.here hx rfl (hb hby d5_22) ?_
      show Steps p.tables e below (T61.setTop (mkF m 23 #[.val (.ref r0), .val (.int p1)] [(.int (0 : Int32))])) _
      exact retN X61 hx (t := .boolean) Bd.returns (by simp) (hb hby d5_23) hr
    · show Q5 Z w_1 w_2 r0 p1 f_medium_r0 h0 n0 _ T61.heap _
      rw [e61]
      exact ⟨by unfold sp5; rw [if_pos hc63], N0, rfl⟩
  · obtain ⟨T64, X64, e64, st64⟩ := getF X61 hx hZ hown (host := "") (Or.inl (hw _ (tk 35 rfl))) Via.refl e61 F_medium_r0 (g := (mkF m 10 #[.val (.ref r0), .val (.int p1)] [(.ref r0), (.int p1)])) rfl rfl (hb hby d5_10)
    have pre65 : ∀ t, Steps p.tables e below (T64.setTop (mkF m 15 #[.val (.ref r0), .val (.int p1)] [(.int (f_medium_r0 + (3 : Int32))), (.int p1)])) t → Steps p.tables e below (s₁.setTop (entryFrame m #[(.ref r0), (.int p1)] 2)) t := fun t kt => by
      refine pre62 t ?_
      show Steps p.tables e below (T61.setTop (mkF m 5 #[.val (.ref r0), .val (.int p1)] [(.int p1), (.int f_medium_r0)])) _
      refine XS.icmpNo X61.here hx rfl (hb hby d5_5) rfl (flt hc63).2.2.1 ?_
      show Steps p.tables e below (T61.setTop (mkF m 8 #[.val (.ref r0), .val (.int p1)] [])) _
      refine XS.iloadN X61.here hx rfl (hb hby d5_8) rfl ?_
      show Steps p.tables e below (T61.setTop (mkF m 9 #[.val (.ref r0), .val (.int p1)] [(.int p1)])) _
      refine XS.aloadN X61.here hx rfl (hb hby d5_9) rfl rfl ?_
      show Steps p.tables e below (T61.setTop (mkF m 10 #[.val (.ref r0), .val (.int p1)] [(.ref r0), (.int p1)])) _
      refine st64 _ ?_
      show Steps p.tables e below (T64.setTop (mkF m 13 #[.val (.ref r0), .val (.int p1)] [(.int f_medium_r0), (.int p1)])) _
      refine XS.iconst X64.here hx rfl (hb hby d5_13) ?_
      show Steps p.tables e below (T64.setTop (mkF m 14 #[.val (.ref r0), .val (.int p1)] [(.int (3 : Int32)), (.int f_medium_r0), (.int p1)])) _
      refine XS.iadd X64.here hx rfl (hb hby d5_14) rfl ?_
      show Steps p.tables e below (T64.setTop (mkF m 15 #[.val (.ref r0), .val (.int p1)] [(.int (f_medium_r0 + (3 : Int32))), (.int p1)])) _
      exact kt
    by_cases hc66 : (f_medium_r0 + (3 : Int32)) < p1
    · obtain ⟨fs, hr, hrun, hended, hW, hsame⟩ := X64.leave (v := some (.int (0 : Int32))) (fun h => by rw [Bd.returns] at h; cases h)
      refine ⟨_, _, pre65 _ ?_, hrun, hended, _, _, rfl, ?_, ⟨_, rfl⟩, hW, hsame.mono (by decide) (by decide)⟩
      · show Steps p.tables e below (T64.setTop (mkF m 15 #[.val (.ref r0), .val (.int p1)] [(.int (f_medium_r0 + (3 : Int32))), (.int p1)])) _
        refine XS.icmpYes X64.here hx rfl (pc0 := 15) (pc' := 22) rfl (hb hby d5_15) rfl (tlt hc66).2.2.1 (by decide) (by decide) ?_
        show Steps p.tables e below (T64.setTop (mkF m 22 #[.val (.ref r0), .val (.int p1)] [])) _
        refine XS.iconst X64.here hx rfl (hb hby d5_22) ?_
        show Steps p.tables e below (T64.setTop (mkF m 23 #[.val (.ref r0), .val (.int p1)] [(.int (0 : Int32))])) _
        exact retN X64 hx (t := .boolean) Bd.returns (by simp) (hb hby d5_23) hr
      · show Q5 Z w_1 w_2 r0 p1 f_medium_r0 h0 n0 _ T64.heap _
        rw [e64]
        exact ⟨by unfold sp5; rw [if_neg hc63, if_pos hc66], N0, rfl⟩
    · obtain ⟨fs, hr, hrun, hended, hW, hsame⟩ := X64.leave (v := some (.int (1 : Int32))) (fun h => by rw [Bd.returns] at h; cases h)
      refine ⟨_, _, pre65 _ ?_, hrun, hended, _, _, rfl, ?_, ⟨_, rfl⟩, hW, hsame.mono (by decide) (by decide)⟩
      · show Steps p.tables e below (T64.setTop (mkF m 15 #[.val (.ref r0), .val (.int p1)] [(.int (f_medium_r0 + (3 : Int32))), (.int p1)])) _
        refine XS.icmpNo X64.here hx rfl (hb hby d5_15) rfl (flt hc66).2.2.1 ?_
        show Steps p.tables e below (T64.setTop (mkF m 18 #[.val (.ref r0), .val (.int p1)] [])) _
        refine XS.iconst X64.here hx rfl (hb hby d5_18) ?_
        show Steps p.tables e below (T64.setTop (mkF m 19 #[.val (.ref r0), .val (.int p1)] [(.int (1 : Int32))])) _
        refine XS.goto X64.here hx rfl (pc0 := 19) (pc' := 23) rfl (hb hby d5_19) (by decide) (by decide) ?_
        show Steps p.tables e below (T64.setTop (mkF m 23 #[.val (.ref r0), .val (.int p1)] [(.int (1 : Int32))])) _
        exact retN X64 hx (t := .boolean) Bd.returns (by simp) (hb hby d5_23) hr
      · show Q5 Z w_1 w_2 r0 p1 f_medium_r0 h0 n0 _ T64.heap _
        rw [e64]
        exact ⟨by unfold sp5; rw [if_neg hc63, if_neg hc66], N0, rfl⟩
theorem pn_2 : plainName "com/example/waystone/waystone/hessian/ChunkCodes" = true := by first | (simp [plainName, overriddenIn]; done) | decide +kernel
theorem ef_2 (m : MethodId) (r0 : Addr) (p1 : Int32) : entryFrame m #[(.ref r0), (.int p1)] 2 = mkF m 0 #[.val (.ref r0), .val (.int p1)] [] := by first | (simp [entryFrame, mkF, argsToLocals, Value.category]; done) | rfl
def sp2 (p1 : Int32) (f_more_r0 : Int32) (f_last_r0 : Int32) (f_compact_r0 : Int32) (f_compactMax_r0 : Int32) (f_medium_r0 : Int32) : Int32 := (if p1 = f_more_r0 then (1 : Int32) else (if p1 = f_last_r0 then (1 : Int32) else (if (sp3 p1 f_compact_r0 f_compactMax_r0) = (0 : Int32) then (if (sp5 p1 f_medium_r0) = (0 : Int32) then (0 : Int32) else (1 : Int32)) else (1 : Int32))))
def Q2 (Z : State) (w_1 : Addr) (w_2 : Addr) (r0 : Addr) (p1 : Int32) (f_more_r0 : Int32) (f_last_r0 : Int32) (f_compact_r0 : Int32) (f_compactMax_r0 : Int32) (f_medium_r0 : Int32) (h0 : Heap) (n0 : Nat) (v : Option Value) (h : Heap) (L : List Loc) : Prop := v = some (.int (sp2 p1 f_more_r0 f_last_r0 f_compact_r0 f_compactMax_r0 f_medium_r0)) ∧ Fr n0 L ∧ h = h0
set_option maxRecDepth 65536 in
set_option maxHeartbeats 40000000 in
theorem rm2 (l : Launch) (Z : State) (a0 : Array Value) (hw : ∀ d ∈ tables_1, d.before a0 Z = true) (ws : List Jvm.Cond) (w_1 : Addr) (w_2 : Addr) (hS : StF Z w_1 w_2) (r0 : Addr) (p1 : Int32) (f_more_r0 : Int32) (f_last_r0 : Int32) (f_compact_r0 : Int32) (f_compactMax_r0 : Int32) (f_medium_r0 : Int32) (h0 : Heap) (n0 : Nat) (O0 : Old Z n0 h0) (F_more_r0 : Fld Z h0 r0 "com/example/waystone/waystone/hessian/ChunkCodes" "more" "I" (.int f_more_r0)) (F_last_r0 : Fld Z h0 r0 "com/example/waystone/waystone/hessian/ChunkCodes" "last" "I" (.int f_last_r0)) (F_compact_r0 : Fld Z h0 r0 "com/example/waystone/waystone/hessian/ChunkCodes" "compact" "I" (.int f_compact_r0)) (F_compactMax_r0 : Fld Z h0 r0 "com/example/waystone/waystone/hessian/ChunkCodes" "compactMax" "I" (.int f_compactMax_r0)) (E_r0 : Exa Z h0 r0 "com/example/waystone/waystone/hessian/ChunkCodes") (F_medium_r0 : Fld Z h0 r0 "com/example/waystone/waystone/hessian/ChunkCodes" "medium" "I" (.int f_medium_r0)) :
    MetFree l Y3 (head1 (Jvm.Cond.code Y3 prog_16_method_6_code 2 (some .boolean) :: ws) ({ frames := 1, cells := 0, slots := 0, locals := 13 } : Room)) (fun a U => a = #[(.ref r0), (.int p1)] ∧ Z.Warmed39 U.vm ∧ U.heap = h0) (fun _ _ _ _ _ => True) (fun _ U o U' => ∃ v L, o = .returned v ∧ Q2 Z w_1 w_2 r0 p1 f_more_r0 f_last_r0 f_compact_r0 f_compactMax_r0 f_medium_r0 h0 n0 v U'.heap L ∧ FrameEnd U o U' L ({ frames := 1, cells := 0, slots := 0, locals := 13 } : Room).cells ({ frames := 1, cells := 0, slots := 0, locals := 13 } : Room).slots) := by
  refine MetFree.of_bodySF (plainFor_of_name pn_2) hisR ?_
  intro p e s m args below meth c s₁ Bd hml0 hP hK
  obtain ⟨rfl, hZ, hh⟩ := hP
  have hx := Bd.exec
  have hby := Bd.bytes
  have hml : c.maxLocals = 2 := hml0
  have hown : s.vm.findClass "com/example/waystone/waystone/hessian/ChunkCodes" = some m.cls := findClass_of_methodNamed Bd.named
  have hnm := (name_of_methodNamed Bd.named Bd.method).1
  have X0 : Stand p l e ({ frames := 1, cells := 0, slots := 0, locals := 13 } : Room) s m #[(.ref r0), (.int p1)] below meth c s₁ [] 0 0 := Stand.of_body Bd
  have e0 : s₁.heap = h0 := by rw [← hh, Bd.state]; rfl
  have N0 := Fr.nil n0
  have hS0 := hS
  obtain ⟨S_1, E_1, S_2, E_2, F_1_more, F_1_last, F_1_compact, F_1_compactMax, F_2_more, F_2_last, F_2_compact, F_2_medium, F_1_medium, F_2_compactMax⟩ := hS
  have pre0 : ∀ t, Steps p.tables e below (s₁.setTop (mkF m 0 #[.val (.ref r0), .val (.int p1)] [])) t → Steps p.tables e below (s₁.setTop (entryFrame m #[(.ref r0), (.int p1)] 2)) t := fun t k => castTop (ef_2 m r0 p1) k
  obtain ⟨T45, X45, e45, st45⟩ := getF X0 hx hZ hown (host := "") (Or.inl (hw _ (tk 12 rfl))) Via.refl e0 F_more_r0 (g := (mkF m 2 #[.val (.ref r0), .val (.int p1)] [(.ref r0), (.int p1)])) rfl rfl (hb hby d2_2)
  have pre46 : ∀ t, Steps p.tables e below (T45.setTop (mkF m 5 #[.val (.ref r0), .val (.int p1)] [(.int f_more_r0), (.int p1)])) t → Steps p.tables e below (s₁.setTop (entryFrame m #[(.ref r0), (.int p1)] 2)) t := fun t kt => by
    refine pre0 t ?_
    show Steps p.tables e below (s₁.setTop (mkF m 0 #[.val (.ref r0), .val (.int p1)] [])) _
    refine XS.iloadN X0.here hx rfl (hb hby d2_0) rfl ?_
    show Steps p.tables e below (s₁.setTop (mkF m 1 #[.val (.ref r0), .val (.int p1)] [(.int p1)])) _
    refine XS.aloadN X0.here hx rfl (hb hby d2_1) rfl rfl ?_
    show Steps p.tables e below (s₁.setTop (mkF m 2 #[.val (.ref r0), .val (.int p1)] [(.ref r0), (.int p1)])) _
    refine st45 _ ?_
    show Steps p.tables e below (T45.setTop (mkF m 5 #[.val (.ref r0), .val (.int p1)] [(.int f_more_r0), (.int p1)])) _
    exact kt
  by_cases hc47 : p1 = f_more_r0
  · obtain ⟨fs, hr, hrun, hended, hW, hsame⟩ := X45.leave (v := some (.int (1 : Int32))) (fun h => by rw [Bd.returns] at h; cases h)
    refine ⟨_, _, pre46 _ ?_, hrun, hended, _, _, rfl, ?_, ⟨_, rfl⟩, hW, hsame.mono (by decide) (by decide)⟩
    · show Steps p.tables e below (T45.setTop (mkF m 5 #[.val (.ref r0), .val (.int p1)] [(.int f_more_r0), (.int p1)])) _
      refine XS.icmpYes X45.here hx rfl (pc0 := 5) (pc' := 32) rfl (hb hby d2_5) rfl (teq hc47).1 (by decide) (by decide) ?_
      show Steps p.tables e below (T45.setTop (mkF m 32 #[.val (.ref r0), .val (.int p1)] [])) _
      refine XS.iconst X45.here hx rfl (hb hby d2_32) ?_
      show Steps p.tables e below (T45.setTop (mkF m 33 #[.val (.ref r0), .val (.int p1)] [(.int (1 : Int32))])) _
      refine XS.goto X45.here hx rfl (pc0 := 33) (pc' := 37) rfl (hb hby d2_33) (by decide) (by decide) ?_
      show Steps p.tables e below (T45.setTop (mkF m 37 #[.val (.ref r0), .val (.int p1)] [(.int (1 : Int32))])) _
      exact retN X45 hx (t := .boolean) Bd.returns (by simp) (hb hby d2_37) hr
    · show Q2 Z w_1 w_2 r0 p1 f_more_r0 f_last_r0 f_compact_r0 f_compactMax_r0 f_medium_r0 h0 n0 _ T45.heap _
      rw [e45]
      exact ⟨by unfold sp2; rw [if_pos hc47], N0, rfl⟩
  · obtain ⟨T48, X48, e48, st48⟩ := getF X45 hx hZ hown (host := "") (Or.inl (hw _ (tk 14 rfl))) Via.refl e45 F_last_r0 (g := (mkF m 10 #[.val (.ref r0), .val (.int p1)] [(.ref r0), (.int p1)])) rfl rfl (hb hby d2_10)
    have pre49 : ∀ t, Steps p.tables e below (T48.setTop (mkF m 13 #[.val (.ref r0), .val (.int p1)] [(.int f_last_r0), (.int p1)])) t → Steps p.tables e below (s₁.setTop (entryFrame m #[(.ref r0), (.int p1)] 2)) t := fun t kt => by
      refine pre46 t ?_
      show Steps p.tables e below (T45.setTop (mkF m 5 #[.val (.ref r0), .val (.int p1)] [(.int f_more_r0), (.int p1)])) _
      refine XS.icmpNo X45.here hx rfl (hb hby d2_5) rfl (feq hc47).1 ?_
      show Steps p.tables e below (T45.setTop (mkF m 8 #[.val (.ref r0), .val (.int p1)] [])) _
      refine XS.iloadN X45.here hx rfl (hb hby d2_8) rfl ?_
      show Steps p.tables e below (T45.setTop (mkF m 9 #[.val (.ref r0), .val (.int p1)] [(.int p1)])) _
      refine XS.aloadN X45.here hx rfl (hb hby d2_9) rfl rfl ?_
      show Steps p.tables e below (T45.setTop (mkF m 10 #[.val (.ref r0), .val (.int p1)] [(.ref r0), (.int p1)])) _
      refine st48 _ ?_
      show Steps p.tables e below (T48.setTop (mkF m 13 #[.val (.ref r0), .val (.int p1)] [(.int f_last_r0), (.int p1)])) _
      exact kt
    by_cases hc50 : p1 = f_last_r0
    · obtain ⟨fs, hr, hrun, hended, hW, hsame⟩ := X48.leave (v := some (.int (1 : Int32))) (fun h => by rw [Bd.returns] at h; cases h)
      refine ⟨_, _, pre49 _ ?_, hrun, hended, _, _, rfl, ?_, ⟨_, rfl⟩, hW, hsame.mono (by decide) (by decide)⟩
      · show Steps p.tables e below (T48.setTop (mkF m 13 #[.val (.ref r0), .val (.int p1)] [(.int f_last_r0), (.int p1)])) _
        refine XS.icmpYes X48.here hx rfl (pc0 := 13) (pc' := 32) rfl (hb hby d2_13) rfl (teq hc50).1 (by decide) (by decide) ?_
        show Steps p.tables e below (T48.setTop (mkF m 32 #[.val (.ref r0), .val (.int p1)] [])) _
        refine XS.iconst X48.here hx rfl (hb hby d2_32) ?_
        show Steps p.tables e below (T48.setTop (mkF m 33 #[.val (.ref r0), .val (.int p1)] [(.int (1 : Int32))])) _
        refine XS.goto X48.here hx rfl (pc0 := 33) (pc' := 37) rfl (hb hby d2_33) (by decide) (by decide) ?_
        show Steps p.tables e below (T48.setTop (mkF m 37 #[.val (.ref r0), .val (.int p1)] [(.int (1 : Int32))])) _
        exact retN X48 hx (t := .boolean) Bd.returns (by simp) (hb hby d2_37) hr
      · show Q2 Z w_1 w_2 r0 p1 f_more_r0 f_last_r0 f_compact_r0 f_compactMax_r0 f_medium_r0 h0 n0 _ T48.heap _
        rw [e48]
        exact ⟨by unfold sp2; rw [if_neg hc47, if_pos hc50], N0, rfl⟩
    · obtain ⟨cq58, kq58, q58a, q58b, q58c⟩ := isOf hZ e48 E_r0
      obtain ⟨_, _, ⟨T58, L58, k58, n58⟩, -, X58, ⟨Lc58, hQ58, l58, y58, z58⟩, st58⟩ := X48.virtualBack hx (y := Y1) (z := Y1) hown (mvT hZ (hw _ (tk 16 rfl))) (mvT hZ (hw _ (tk 17 rfl))) (notFace_of_selects (args := #[]) (mvT hZ (hw _ (tk 19 rfl)))) (mvT hZ (hw _ (tk 19 rfl))) (mvT hZ (hw _ (tk 18 rfl))) (by decide) (backOf (W := 0) (rm3 l Z a0 hw [] w_1 w_2 hS0 r0 p1 f_compact_r0 f_compactMax_r0 h0 n0 O0 F_compact_r0 F_compactMax_r0) hZ (hw _ (tk 20 rfl)) (hw _ (tk 1 rfl)) (by decide) (by decide)) q58a q58c (g := (mkF m 18 #[.val (.ref r0), .val (.int p1)] [(.int p1), (.ref r0)])) rfl (by rw [hml]; rfl) (Steps.refl _) (argsL := [(.int p1)]) (rest := []) (lenOf pd_0 rfl) rfl (by show 2 * 0 + _ ≤ _; exact Nat.le_of_eq rfl) (hb hby d2_18) (fun _ _ => ⟨rfl, e48, (by decide : 0 + 0 ≤ _), (by decide : 0 + 0 ≤ _)⟩)
      dsimp only [Pt.U, Pt.locs, Pt.cells, Pt.slots] at X58 l58 y58 z58 st58 hQ58
      subst l58 y58 z58
      obtain ⟨rv58, N58q, e58⟩ := hQ58
      subst rv58
      have N58 := Fr.app N0 N58q
      have pre59 : ∀ t, Steps p.tables e below (T58.setTop (mkF m 21 #[.val (.ref r0), .val (.int p1)] [(.int (sp3 p1 f_compact_r0 f_compactMax_r0))])) t → Steps p.tables e below (s₁.setTop (entryFrame m #[(.ref r0), (.int p1)] 2)) t := fun t kt => by
        refine pre49 t ?_
        show Steps p.tables e below (T48.setTop (mkF m 13 #[.val (.ref r0), .val (.int p1)] [(.int f_last_r0), (.int p1)])) _
        refine XS.icmpNo X48.here hx rfl (hb hby d2_13) rfl (feq hc50).1 ?_
        show Steps p.tables e below (T48.setTop (mkF m 16 #[.val (.ref r0), .val (.int p1)] [])) _
        refine XS.aloadN X48.here hx rfl (hb hby d2_16) rfl rfl ?_
        show Steps p.tables e below (T48.setTop (mkF m 17 #[.val (.ref r0), .val (.int p1)] [(.ref r0)])) _
        refine XS.iloadN X48.here hx rfl (hb hby d2_17) rfl ?_
        show Steps p.tables e below (T48.setTop (mkF m 18 #[.val (.ref r0), .val (.int p1)] [(.int p1), (.ref r0)])) _
        refine st58.trans ?_
        show Steps p.tables e below (T58.setTop (mkF m 21 #[.val (.ref r0), .val (.int p1)] [(.int (sp3 p1 f_compact_r0 f_compactMax_r0))])) _
        exact kt
      by_cases hc60 : (sp3 p1 f_compact_r0 f_compactMax_r0) = (0 : Int32)
      · obtain ⟨cq67, kq67, q67a, q67b, q67c⟩ := isOf hZ e58 E_r0
        obtain ⟨_, _, ⟨T67, L67, k67, n67⟩, -, X67, ⟨Lc67, hQ67, l67, y67, z67⟩, st67⟩ := X58.virtualBack hx (y := Y2) (z := Y2) hown (mvT hZ (hw _ (tk 30 rfl))) (mvT hZ (hw _ (tk 31 rfl))) (notFace_of_selects (args := #[]) (mvT hZ (hw _ (tk 33 rfl)))) (mvT hZ (hw _ (tk 33 rfl))) (mvT hZ (hw _ (tk 32 rfl))) (by decide) (backOf (W := 0) (rm5 l Z a0 hw [] w_1 w_2 hS0 r0 p1 f_medium_r0 h0 n0 O0 F_medium_r0) hZ (hw _ (tk 34 rfl)) (hw _ (tk 1 rfl)) (by decide) (by decide)) q67a q67c (g := (mkF m 26 #[.val (.ref r0), .val (.int p1)] [(.int p1), (.ref r0)])) rfl (by rw [hml]; rfl) (Steps.refl _) (argsL := [(.int p1)]) (rest := []) (lenOf pd_0 rfl) rfl (by show 2 * 0 + _ ≤ _; exact Nat.le_of_eq rfl) (hb hby d2_26) (fun _ _ => ⟨rfl, e58, (by decide : 0 + 0 ≤ _), (by decide : 0 + 0 ≤ _)⟩)
        dsimp only [Pt.U, Pt.locs, Pt.cells, Pt.slots] at X67 l67 y67 z67 st67 hQ67
        subst l67 y67 z67
        obtain ⟨rv67, N67q, e67⟩ := hQ67
        subst rv67
        have N67 := Fr.app N58 N67q
        have pre68 : ∀ t, Steps p.tables e below (T67.setTop (mkF m 29 #[.val (.ref r0), .val (.int p1)] [(.int (sp5 p1 f_medium_r0))])) t → Steps p.tables e below (s₁.setTop (entryFrame m #[(.ref r0), (.int p1)] 2)) t := fun t kt => by
          refine pre59 t ?_
          show Steps p.tables e below (T58.setTop (mkF m 21 #[.val (.ref r0), .val (.int p1)] [(.int (sp3 p1 f_compact_r0 f_compactMax_r0))])) _
          refine XS.ifNo X58.here hx rfl (hb hby d2_21) rfl ((if0 _ _).trans (teq hc60).2) ?_
          show Steps p.tables e below (T58.setTop (mkF m 24 #[.val (.ref r0), .val (.int p1)] [])) _
          refine XS.aloadN X58.here hx rfl (hb hby d2_24) rfl rfl ?_
          show Steps p.tables e below (T58.setTop (mkF m 25 #[.val (.ref r0), .val (.int p1)] [(.ref r0)])) _
          refine XS.iloadN X58.here hx rfl (hb hby d2_25) rfl ?_
          show Steps p.tables e below (T58.setTop (mkF m 26 #[.val (.ref r0), .val (.int p1)] [(.int p1), (.ref r0)])) _
          refine st67.trans ?_
          show Steps p.tables e below (T67.setTop (mkF m 29 #[.val (.ref r0), .val (.int p1)] [(.int (sp5 p1 f_medium_r0))])) _
          exact kt
        by_cases hc69 : (sp5 p1 f_medium_r0) = (0 : Int32)
        · obtain ⟨fs, hr, hrun, hended, hW, hsame⟩ := X67.leave (v := some (.int (0 : Int32))) (fun h => by rw [Bd.returns] at h; cases h)
          refine ⟨_, _, pre68 _ ?_, hrun, hended, _, _, rfl, ?_, ⟨_, rfl⟩, hW, hsame.mono (by decide) (by decide)⟩
          · show Steps p.tables e below (T67.setTop (mkF m 29 #[.val (.ref r0), .val (.int p1)] [(.int (sp5 p1 f_medium_r0))])) _
            refine XS.ifYes X67.here hx rfl (pc0 := 29) (pc' := 36) rfl (hb hby d2_29) rfl ((if0 _ _).trans (teq hc69).1) (by decide) (by decide) ?_
            show Steps p.tables e below (T67.setTop (mkF m 36 #[.val (.ref r0), .val (.int p1)] [])) _
            refine XS.iconst X67.here hx rfl (hb hby d2_36) ?_
            show Steps p.tables e below (T67.setTop (mkF m 37 #[.val (.ref r0), .val (.int p1)] [(.int (0 : Int32))])) _
            exact retN X67 hx (t := .boolean) Bd.returns (by simp) (hb hby d2_37) hr
          · show Q2 Z w_1 w_2 r0 p1 f_more_r0 f_last_r0 f_compact_r0 f_compactMax_r0 f_medium_r0 h0 n0 _ T67.heap _
            rw [e67]
            exact ⟨by unfold sp2; rw [if_neg hc47, if_neg hc50, if_pos hc60, if_pos hc69], N67, rfl⟩
        · obtain ⟨fs, hr, hrun, hended, hW, hsame⟩ := X67.leave (v := some (.int (1 : Int32))) (fun h => by rw [Bd.returns] at h; cases h)
          refine ⟨_, _, pre68 _ ?_, hrun, hended, _, _, rfl, ?_, ⟨_, rfl⟩, hW, hsame.mono (by decide) (by decide)⟩
          · show Steps p.tables e below (T67.setTop (mkF m 29 #[.val (.ref r0), .val (.int p1)] [(.int (sp5 p1 f_medium_r0))])) _
            refine XS.ifNo X67.here hx rfl (hb hby d2_29) rfl ((if0 _ _).trans (feq hc69).1) ?_
            show Steps p.tables e below (T67.setTop (mkF m 32 #[.val (.ref r0), .val (.int p1)] [])) _
            refine XS.iconst X67.here hx rfl (hb hby d2_32) ?_
            show Steps p.tables e below (T67.setTop (mkF m 33 #[.val (.ref r0), .val (.int p1)] [(.int (1 : Int32))])) _
            refine XS.goto X67.here hx rfl (pc0 := 33) (pc' := 37) rfl (hb hby d2_33) (by decide) (by decide) ?_
            show Steps p.tables e below (T67.setTop (mkF m 37 #[.val (.ref r0), .val (.int p1)] [(.int (1 : Int32))])) _
            exact retN X67 hx (t := .boolean) Bd.returns (by simp) (hb hby d2_37) hr
          · show Q2 Z w_1 w_2 r0 p1 f_more_r0 f_last_r0 f_compact_r0 f_compactMax_r0 f_medium_r0 h0 n0 _ T67.heap _
            rw [e67]
            exact ⟨by unfold sp2; rw [if_neg hc47, if_neg hc50, if_pos hc60, if_neg hc69], N67, rfl⟩
      · obtain ⟨fs, hr, hrun, hended, hW, hsame⟩ := X58.leave (v := some (.int (1 : Int32))) (fun h => by rw [Bd.returns] at h; cases h)
        refine ⟨_, _, pre59 _ ?_, hrun, hended, _, _, rfl, ?_, ⟨_, rfl⟩, hW, hsame.mono (by decide) (by decide)⟩
        · show Steps p.tables e below (T58.setTop (mkF m 21 #[.val (.ref r0), .val (.int p1)] [(.int (sp3 p1 f_compact_r0 f_compactMax_r0))])) _
          refine XS.ifYes X58.here hx rfl (pc0 := 21) (pc' := 32) rfl (hb hby d2_21) rfl ((if0 _ _).trans (feq hc60).2) (by decide) (by decide) ?_
          show Steps p.tables e below (T58.setTop (mkF m 32 #[.val (.ref r0), .val (.int p1)] [])) _
          refine XS.iconst X58.here hx rfl (hb hby d2_32) ?_
          show Steps p.tables e below (T58.setTop (mkF m 33 #[.val (.ref r0), .val (.int p1)] [(.int (1 : Int32))])) _
          refine XS.goto X58.here hx rfl (pc0 := 33) (pc' := 37) rfl (hb hby d2_33) (by decide) (by decide) ?_
          show Steps p.tables e below (T58.setTop (mkF m 37 #[.val (.ref r0), .val (.int p1)] [(.int (1 : Int32))])) _
          exact retN X58 hx (t := .boolean) Bd.returns (by simp) (hb hby d2_37) hr
        · show Q2 Z w_1 w_2 r0 p1 f_more_r0 f_last_r0 f_compact_r0 f_compactMax_r0 f_medium_r0 h0 n0 _ T58.heap _
          rw [e58]
          exact ⟨by unfold sp2; rw [if_neg hc47, if_neg hc50, if_neg hc60], N58, rfl⟩
theorem pn_4 : plainName "com/example/waystone/waystone/hessian/ChunkCodesStartsPinLaw" = true := by first | (simp [plainName, overriddenIn]; done) | decide +kernel
theorem ef_4 (m : MethodId) (p0 : Int32) : entryFrame m #[(.int p0)] 1 = mkF m 0 #[.val (.int p0)] [] := by first | (simp [entryFrame, mkF, argsToLocals, Value.category]; done) | rfl
def sp4 (p0 : Int32) : Int32 := (if p0 = (65 : Int32) then (1 : Int32) else (if p0 = (66 : Int32) then (1 : Int32) else (if p0 < (32 : Int32) then (if p0 < (52 : Int32) then (0 : Int32) else (if (55 : Int32) < p0 then (0 : Int32) else (1 : Int32))) else (if (47 : Int32) < p0 then (if p0 < (52 : Int32) then (0 : Int32) else (if (55 : Int32) < p0 then (0 : Int32) else (1 : Int32))) else (1 : Int32)))))
def Q4 (Z : State) (w_1 : Addr) (w_2 : Addr) (p0 : Int32) (h0 : Heap) (n0 : Nat) (v : Option Value) (h : Heap) (L : List Loc) : Prop := v = some (.int (sp4 p0)) ∧ Fr n0 L ∧ h = h0
set_option maxRecDepth 65536 in
set_option maxHeartbeats 40000000 in
theorem rm4 (l : Launch) (Z : State) (a0 : Array Value) (hw : ∀ d ∈ tables_1, d.before a0 Z = true) (ws : List Jvm.Cond) (w_1 : Addr) (w_2 : Addr) (hS : StF Z w_1 w_2) (p0 : Int32) (h0 : Heap) (n0 : Nat) (O0 : Old Z n0 h0) :
    MetFree l Y4 (head1 (Jvm.Cond.code Y4 method_3_code 1 (some .boolean) :: ws) ({ frames := 0, cells := 0, slots := 0, locals := 0 } : Room)) (fun a U => a = #[(.int p0)] ∧ Z.Warmed39 U.vm ∧ U.heap = h0) (fun _ _ _ _ _ => True) (fun _ U o U' => ∃ v L, o = .returned v ∧ Q4 Z w_1 w_2 p0 h0 n0 v U'.heap L ∧ FrameEnd U o U' L ({ frames := 0, cells := 0, slots := 0, locals := 0 } : Room).cells ({ frames := 0, cells := 0, slots := 0, locals := 0 } : Room).slots) := by
  refine MetFree.of_bodySF (plainFor_of_name pn_4) hisR ?_
  intro p e s m args below meth c s₁ Bd hml0 hP hK
  obtain ⟨rfl, hZ, hh⟩ := hP
  have hx := Bd.exec
  have hby := Bd.bytes
  have hml : c.maxLocals = 1 := hml0
  have hown : s.vm.findClass "com/example/waystone/waystone/hessian/ChunkCodesStartsPinLaw" = some m.cls := findClass_of_methodNamed Bd.named
  have hnm := (name_of_methodNamed Bd.named Bd.method).1
  have X0 : Stand p l e ({ frames := 0, cells := 0, slots := 0, locals := 0 } : Room) s m #[(.int p0)] below meth c s₁ [] 0 0 := Stand.of_body Bd
  have e0 : s₁.heap = h0 := by rw [← hh, Bd.state]; rfl
  have N0 := Fr.nil n0
  have hS0 := hS
  obtain ⟨S_1, E_1, S_2, E_2, F_1_more, F_1_last, F_1_compact, F_1_compactMax, F_2_more, F_2_last, F_2_compact, F_2_medium, F_1_medium, F_2_compactMax⟩ := hS
  have pre0 : ∀ t, Steps p.tables e below (s₁.setTop (mkF m 0 #[.val (.int p0)] [])) t → Steps p.tables e below (s₁.setTop (entryFrame m #[(.int p0)] 1)) t := fun t k => castTop (ef_4 m p0) k
  have pre81 : ∀ t, Steps p.tables e below (s₁.setTop (mkF m 3 #[.val (.int p0)] [(.int (65 : Int32)), (.int p0)])) t → Steps p.tables e below (s₁.setTop (entryFrame m #[(.int p0)] 1)) t := fun t kt => by
    refine pre0 t ?_
    show Steps p.tables e below (s₁.setTop (mkF m 0 #[.val (.int p0)] [])) _
    refine XS.iloadN X0.here hx rfl (hb hby d4_0) rfl ?_
    show Steps p.tables e below (s₁.setTop (mkF m 1 #[.val (.int p0)] [(.int p0)])) _
    refine XS.bipush X0.here hx rfl (hb hby d4_1) ?_
    show Steps p.tables e below (s₁.setTop (mkF m 3 #[.val (.int p0)] [(.int (65 : Int32)), (.int p0)])) _
    exact kt
  by_cases hc82 : p0 = (65 : Int32)
  · obtain ⟨fs, hr, hrun, hended, hW, hsame⟩ := X0.leave (v := some (.int (1 : Int32))) (fun h => by rw [Bd.returns] at h; cases h)
    refine ⟨_, _, pre81 _ ?_, hrun, hended, _, _, rfl, ?_, ⟨_, rfl⟩, hW, hsame.mono (by decide) (by decide)⟩
    · show Steps p.tables e below (s₁.setTop (mkF m 3 #[.val (.int p0)] [(.int (65 : Int32)), (.int p0)])) _
      refine XS.icmpYes X0.here hx rfl (pc0 := 3) (pc' := 12) rfl (hb hby d4_3) rfl (teq hc82).1 (by decide) (by decide) ?_
      show Steps p.tables e below (s₁.setTop (mkF m 12 #[.val (.int p0)] [])) _
      refine XS.iconst X0.here hx rfl (hb hby d4_12) ?_
      show Steps p.tables e below (s₁.setTop (mkF m 13 #[.val (.int p0)] [(.int (1 : Int32))])) _
      exact retN X0 hx (t := .boolean) Bd.returns (by simp) (hb hby d4_13) hr
    · show Q4 Z w_1 w_2 p0 h0 n0 _ s₁.heap _
      rw [e0]
      exact ⟨by unfold sp4; rw [if_pos hc82], N0, rfl⟩
  · have pre83 : ∀ t, Steps p.tables e below (s₁.setTop (mkF m 9 #[.val (.int p0)] [(.int (66 : Int32)), (.int p0)])) t → Steps p.tables e below (s₁.setTop (entryFrame m #[(.int p0)] 1)) t := fun t kt => by
      refine pre81 t ?_
      show Steps p.tables e below (s₁.setTop (mkF m 3 #[.val (.int p0)] [(.int (65 : Int32)), (.int p0)])) _
      refine XS.icmpNo X0.here hx rfl (hb hby d4_3) rfl (feq hc82).1 ?_
      show Steps p.tables e below (s₁.setTop (mkF m 6 #[.val (.int p0)] [])) _
      refine XS.iloadN X0.here hx rfl (hb hby d4_6) rfl ?_
      show Steps p.tables e below (s₁.setTop (mkF m 7 #[.val (.int p0)] [(.int p0)])) _
      refine XS.bipush X0.here hx rfl (hb hby d4_7) ?_
      show Steps p.tables e below (s₁.setTop (mkF m 9 #[.val (.int p0)] [(.int (66 : Int32)), (.int p0)])) _
      exact kt
    by_cases hc84 : p0 = (66 : Int32)
    · obtain ⟨fs, hr, hrun, hended, hW, hsame⟩ := X0.leave (v := some (.int (1 : Int32))) (fun h => by rw [Bd.returns] at h; cases h)
      refine ⟨_, _, pre83 _ ?_, hrun, hended, _, _, rfl, ?_, ⟨_, rfl⟩, hW, hsame.mono (by decide) (by decide)⟩
      · show Steps p.tables e below (s₁.setTop (mkF m 9 #[.val (.int p0)] [(.int (66 : Int32)), (.int p0)])) _
        refine XS.icmpNo X0.here hx rfl (hb hby d4_9) rfl (teq hc84).2 ?_
        show Steps p.tables e below (s₁.setTop (mkF m 12 #[.val (.int p0)] [])) _
        refine XS.iconst X0.here hx rfl (hb hby d4_12) ?_
        show Steps p.tables e below (s₁.setTop (mkF m 13 #[.val (.int p0)] [(.int (1 : Int32))])) _
        exact retN X0 hx (t := .boolean) Bd.returns (by simp) (hb hby d4_13) hr
      · show Q4 Z w_1 w_2 p0 h0 n0 _ s₁.heap _
        rw [e0]
        exact ⟨by unfold sp4; rw [if_neg hc82, if_pos hc84], N0, rfl⟩
    · have pre85 : ∀ t, Steps p.tables e below (s₁.setTop (mkF m 17 #[.val (.int p0)] [(.int (32 : Int32)), (.int p0)])) t → Steps p.tables e below (s₁.setTop (entryFrame m #[(.int p0)] 1)) t := fun t kt => by
        refine pre83 t ?_
        show Steps p.tables e below (s₁.setTop (mkF m 9 #[.val (.int p0)] [(.int (66 : Int32)), (.int p0)])) _
        refine XS.icmpYes X0.here hx rfl (pc0 := 9) (pc' := 14) rfl (hb hby d4_9) rfl (feq hc84).2 (by decide) (by decide) ?_
        show Steps p.tables e below (s₁.setTop (mkF m 14 #[.val (.int p0)] [])) _
        refine XS.iloadN X0.here hx rfl (hb hby d4_14) rfl ?_
        show Steps p.tables e below (s₁.setTop (mkF m 15 #[.val (.int p0)] [(.int p0)])) _
        refine XS.bipush X0.here hx rfl (hb hby d4_15) ?_
        show Steps p.tables e below (s₁.setTop (mkF m 17 #[.val (.int p0)] [(.int (32 : Int32)), (.int p0)])) _
        exact kt
      by_cases hc86 : p0 < (32 : Int32)
      · have pre87 : ∀ t, Steps p.tables e below (s₁.setTop (mkF m 31 #[.val (.int p0)] [(.int (52 : Int32)), (.int p0)])) t → Steps p.tables e below (s₁.setTop (entryFrame m #[(.int p0)] 1)) t := fun t kt => by
          refine pre85 t ?_
          show Steps p.tables e below (s₁.setTop (mkF m 17 #[.val (.int p0)] [(.int (32 : Int32)), (.int p0)])) _
          refine XS.icmpYes X0.here hx rfl (pc0 := 17) (pc' := 28) rfl (hb hby d4_17) rfl (tlt hc86).1 (by decide) (by decide) ?_
          show Steps p.tables e below (s₁.setTop (mkF m 28 #[.val (.int p0)] [])) _
          refine XS.iloadN X0.here hx rfl (hb hby d4_28) rfl ?_
          show Steps p.tables e below (s₁.setTop (mkF m 29 #[.val (.int p0)] [(.int p0)])) _
          refine XS.bipush X0.here hx rfl (hb hby d4_29) ?_
          show Steps p.tables e below (s₁.setTop (mkF m 31 #[.val (.int p0)] [(.int (52 : Int32)), (.int p0)])) _
          exact kt
        by_cases hc88 : p0 < (52 : Int32)
        · obtain ⟨fs, hr, hrun, hended, hW, hsame⟩ := X0.leave (v := some (.int (0 : Int32))) (fun h => by rw [Bd.returns] at h; cases h)
          refine ⟨_, _, pre87 _ ?_, hrun, hended, _, _, rfl, ?_, ⟨_, rfl⟩, hW, hsame.mono (by decide) (by decide)⟩
          · show Steps p.tables e below (s₁.setTop (mkF m 31 #[.val (.int p0)] [(.int (52 : Int32)), (.int p0)])) _
            refine XS.icmpYes X0.here hx rfl (pc0 := 31) (pc' := 44) rfl (hb hby d4_31) rfl (tlt hc88).1 (by decide) (by decide) ?_
            show Steps p.tables e below (s₁.setTop (mkF m 44 #[.val (.int p0)] [])) _
            refine XS.iconst X0.here hx rfl (hb hby d4_44) ?_
            show Steps p.tables e below (s₁.setTop (mkF m 45 #[.val (.int p0)] [(.int (0 : Int32))])) _
            exact retN X0 hx (t := .boolean) Bd.returns (by simp) (hb hby d4_45) hr
          · show Q4 Z w_1 w_2 p0 h0 n0 _ s₁.heap _
            rw [e0]
            exact ⟨by unfold sp4; rw [if_neg hc82, if_neg hc84, if_pos hc86, if_pos hc88], N0, rfl⟩
        · have pre89 : ∀ t, Steps p.tables e below (s₁.setTop (mkF m 37 #[.val (.int p0)] [(.int (55 : Int32)), (.int p0)])) t → Steps p.tables e below (s₁.setTop (entryFrame m #[(.int p0)] 1)) t := fun t kt => by
            refine pre87 t ?_
            show Steps p.tables e below (s₁.setTop (mkF m 31 #[.val (.int p0)] [(.int (52 : Int32)), (.int p0)])) _
            refine XS.icmpNo X0.here hx rfl (hb hby d4_31) rfl (flt hc88).1 ?_
            show Steps p.tables e below (s₁.setTop (mkF m 34 #[.val (.int p0)] [])) _
            refine XS.iloadN X0.here hx rfl (hb hby d4_34) rfl ?_
            show Steps p.tables e below (s₁.setTop (mkF m 35 #[.val (.int p0)] [(.int p0)])) _
            refine XS.bipush X0.here hx rfl (hb hby d4_35) ?_
            show Steps p.tables e below (s₁.setTop (mkF m 37 #[.val (.int p0)] [(.int (55 : Int32)), (.int p0)])) _
            exact kt
          by_cases hc90 : (55 : Int32) < p0
          · obtain ⟨fs, hr, hrun, hended, hW, hsame⟩ := X0.leave (v := some (.int (0 : Int32))) (fun h => by rw [Bd.returns] at h; cases h)
            refine ⟨_, _, pre89 _ ?_, hrun, hended, _, _, rfl, ?_, ⟨_, rfl⟩, hW, hsame.mono (by decide) (by decide)⟩
            · show Steps p.tables e below (s₁.setTop (mkF m 37 #[.val (.int p0)] [(.int (55 : Int32)), (.int p0)])) _
              refine XS.icmpYes X0.here hx rfl (pc0 := 37) (pc' := 44) rfl (hb hby d4_37) rfl (tlt hc90).2.2.1 (by decide) (by decide) ?_
              show Steps p.tables e below (s₁.setTop (mkF m 44 #[.val (.int p0)] [])) _
              refine XS.iconst X0.here hx rfl (hb hby d4_44) ?_
              show Steps p.tables e below (s₁.setTop (mkF m 45 #[.val (.int p0)] [(.int (0 : Int32))])) _
              exact retN X0 hx (t := .boolean) Bd.returns (by simp) (hb hby d4_45) hr
            · show Q4 Z w_1 w_2 p0 h0 n0 _ s₁.heap _
              rw [e0]
              exact ⟨by unfold sp4; rw [if_neg hc82, if_neg hc84, if_pos hc86, if_neg hc88, if_pos hc90], N0, rfl⟩
          · obtain ⟨fs, hr, hrun, hended, hW, hsame⟩ := X0.leave (v := some (.int (1 : Int32))) (fun h => by rw [Bd.returns] at h; cases h)
            refine ⟨_, _, pre89 _ ?_, hrun, hended, _, _, rfl, ?_, ⟨_, rfl⟩, hW, hsame.mono (by decide) (by decide)⟩
            · show Steps p.tables e below (s₁.setTop (mkF m 37 #[.val (.int p0)] [(.int (55 : Int32)), (.int p0)])) _
              refine XS.icmpNo X0.here hx rfl (hb hby d4_37) rfl (flt hc90).2.2.1 ?_
              show Steps p.tables e below (s₁.setTop (mkF m 40 #[.val (.int p0)] [])) _
              refine XS.iconst X0.here hx rfl (hb hby d4_40) ?_
              show Steps p.tables e below (s₁.setTop (mkF m 41 #[.val (.int p0)] [(.int (1 : Int32))])) _
              refine XS.goto X0.here hx rfl (pc0 := 41) (pc' := 45) rfl (hb hby d4_41) (by decide) (by decide) ?_
              show Steps p.tables e below (s₁.setTop (mkF m 45 #[.val (.int p0)] [(.int (1 : Int32))])) _
              exact retN X0 hx (t := .boolean) Bd.returns (by simp) (hb hby d4_45) hr
            · show Q4 Z w_1 w_2 p0 h0 n0 _ s₁.heap _
              rw [e0]
              exact ⟨by unfold sp4; rw [if_neg hc82, if_neg hc84, if_pos hc86, if_neg hc88, if_neg hc90], N0, rfl⟩
      · have pre91 : ∀ t, Steps p.tables e below (s₁.setTop (mkF m 23 #[.val (.int p0)] [(.int (47 : Int32)), (.int p0)])) t → Steps p.tables e below (s₁.setTop (entryFrame m #[(.int p0)] 1)) t := fun t kt => by
          refine pre85 t ?_
          show Steps p.tables e below (s₁.setTop (mkF m 17 #[.val (.int p0)] [(.int (32 : Int32)), (.int p0)])) _
          refine XS.icmpNo X0.here hx rfl (hb hby d4_17) rfl (flt hc86).1 ?_
          show Steps p.tables e below (s₁.setTop (mkF m 20 #[.val (.int p0)] [])) _
          refine XS.iloadN X0.here hx rfl (hb hby d4_20) rfl ?_
          show Steps p.tables e below (s₁.setTop (mkF m 21 #[.val (.int p0)] [(.int p0)])) _
          refine XS.bipush X0.here hx rfl (hb hby d4_21) ?_
          show Steps p.tables e below (s₁.setTop (mkF m 23 #[.val (.int p0)] [(.int (47 : Int32)), (.int p0)])) _
          exact kt
        by_cases hc92 : (47 : Int32) < p0
        · have pre93 : ∀ t, Steps p.tables e below (s₁.setTop (mkF m 31 #[.val (.int p0)] [(.int (52 : Int32)), (.int p0)])) t → Steps p.tables e below (s₁.setTop (entryFrame m #[(.int p0)] 1)) t := fun t kt => by
            refine pre91 t ?_
            show Steps p.tables e below (s₁.setTop (mkF m 23 #[.val (.int p0)] [(.int (47 : Int32)), (.int p0)])) _
            refine XS.icmpYes X0.here hx rfl (pc0 := 23) (pc' := 28) rfl (hb hby d4_23) rfl (tlt hc92).2.2.1 (by decide) (by decide) ?_
            show Steps p.tables e below (s₁.setTop (mkF m 28 #[.val (.int p0)] [])) _
            refine XS.iloadN X0.here hx rfl (hb hby d4_28) rfl ?_
            show Steps p.tables e below (s₁.setTop (mkF m 29 #[.val (.int p0)] [(.int p0)])) _
            refine XS.bipush X0.here hx rfl (hb hby d4_29) ?_
            show Steps p.tables e below (s₁.setTop (mkF m 31 #[.val (.int p0)] [(.int (52 : Int32)), (.int p0)])) _
            exact kt
          by_cases hc94 : p0 < (52 : Int32)
          · obtain ⟨fs, hr, hrun, hended, hW, hsame⟩ := X0.leave (v := some (.int (0 : Int32))) (fun h => by rw [Bd.returns] at h; cases h)
            refine ⟨_, _, pre93 _ ?_, hrun, hended, _, _, rfl, ?_, ⟨_, rfl⟩, hW, hsame.mono (by decide) (by decide)⟩
            · show Steps p.tables e below (s₁.setTop (mkF m 31 #[.val (.int p0)] [(.int (52 : Int32)), (.int p0)])) _
              refine XS.icmpYes X0.here hx rfl (pc0 := 31) (pc' := 44) rfl (hb hby d4_31) rfl (tlt hc94).1 (by decide) (by decide) ?_
              show Steps p.tables e below (s₁.setTop (mkF m 44 #[.val (.int p0)] [])) _
              refine XS.iconst X0.here hx rfl (hb hby d4_44) ?_
              show Steps p.tables e below (s₁.setTop (mkF m 45 #[.val (.int p0)] [(.int (0 : Int32))])) _
              exact retN X0 hx (t := .boolean) Bd.returns (by simp) (hb hby d4_45) hr
            · show Q4 Z w_1 w_2 p0 h0 n0 _ s₁.heap _
              rw [e0]
              exact ⟨by unfold sp4; rw [if_neg hc82, if_neg hc84, if_neg hc86, if_pos hc92, if_pos hc94], N0, rfl⟩
          · have pre95 : ∀ t, Steps p.tables e below (s₁.setTop (mkF m 37 #[.val (.int p0)] [(.int (55 : Int32)), (.int p0)])) t → Steps p.tables e below (s₁.setTop (entryFrame m #[(.int p0)] 1)) t := fun t kt => by
              refine pre93 t ?_
              show Steps p.tables e below (s₁.setTop (mkF m 31 #[.val (.int p0)] [(.int (52 : Int32)), (.int p0)])) _
              refine XS.icmpNo X0.here hx rfl (hb hby d4_31) rfl (flt hc94).1 ?_
              show Steps p.tables e below (s₁.setTop (mkF m 34 #[.val (.int p0)] [])) _
              refine XS.iloadN X0.here hx rfl (hb hby d4_34) rfl ?_
              show Steps p.tables e below (s₁.setTop (mkF m 35 #[.val (.int p0)] [(.int p0)])) _
              refine XS.bipush X0.here hx rfl (hb hby d4_35) ?_
              show Steps p.tables e below (s₁.setTop (mkF m 37 #[.val (.int p0)] [(.int (55 : Int32)), (.int p0)])) _
              exact kt
            by_cases hc96 : (55 : Int32) < p0
            · obtain ⟨fs, hr, hrun, hended, hW, hsame⟩ := X0.leave (v := some (.int (0 : Int32))) (fun h => by rw [Bd.returns] at h; cases h)
              refine ⟨_, _, pre95 _ ?_, hrun, hended, _, _, rfl, ?_, ⟨_, rfl⟩, hW, hsame.mono (by decide) (by decide)⟩
              · show Steps p.tables e below (s₁.setTop (mkF m 37 #[.val (.int p0)] [(.int (55 : Int32)), (.int p0)])) _
                refine XS.icmpYes X0.here hx rfl (pc0 := 37) (pc' := 44) rfl (hb hby d4_37) rfl (tlt hc96).2.2.1 (by decide) (by decide) ?_
                show Steps p.tables e below (s₁.setTop (mkF m 44 #[.val (.int p0)] [])) _
                refine XS.iconst X0.here hx rfl (hb hby d4_44) ?_
                show Steps p.tables e below (s₁.setTop (mkF m 45 #[.val (.int p0)] [(.int (0 : Int32))])) _
                exact retN X0 hx (t := .boolean) Bd.returns (by simp) (hb hby d4_45) hr
              · show Q4 Z w_1 w_2 p0 h0 n0 _ s₁.heap _
                rw [e0]
                exact ⟨by unfold sp4; rw [if_neg hc82, if_neg hc84, if_neg hc86, if_pos hc92, if_neg hc94, if_pos hc96], N0, rfl⟩
            · obtain ⟨fs, hr, hrun, hended, hW, hsame⟩ := X0.leave (v := some (.int (1 : Int32))) (fun h => by rw [Bd.returns] at h; cases h)
              refine ⟨_, _, pre95 _ ?_, hrun, hended, _, _, rfl, ?_, ⟨_, rfl⟩, hW, hsame.mono (by decide) (by decide)⟩
              · show Steps p.tables e below (s₁.setTop (mkF m 37 #[.val (.int p0)] [(.int (55 : Int32)), (.int p0)])) _
                refine XS.icmpNo X0.here hx rfl (hb hby d4_37) rfl (flt hc96).2.2.1 ?_
                show Steps p.tables e below (s₁.setTop (mkF m 40 #[.val (.int p0)] [])) _
                refine XS.iconst X0.here hx rfl (hb hby d4_40) ?_
                show Steps p.tables e below (s₁.setTop (mkF m 41 #[.val (.int p0)] [(.int (1 : Int32))])) _
                refine XS.goto X0.here hx rfl (pc0 := 41) (pc' := 45) rfl (hb hby d4_41) (by decide) (by decide) ?_
                show Steps p.tables e below (s₁.setTop (mkF m 45 #[.val (.int p0)] [(.int (1 : Int32))])) _
                exact retN X0 hx (t := .boolean) Bd.returns (by simp) (hb hby d4_45) hr
              · show Q4 Z w_1 w_2 p0 h0 n0 _ s₁.heap _
                rw [e0]
                exact ⟨by unfold sp4; rw [if_neg hc82, if_neg hc84, if_neg hc86, if_pos hc92, if_neg hc94, if_neg hc96], N0, rfl⟩
        · obtain ⟨fs, hr, hrun, hended, hW, hsame⟩ := X0.leave (v := some (.int (1 : Int32))) (fun h => by rw [Bd.returns] at h; cases h)
          refine ⟨_, _, pre91 _ ?_, hrun, hended, _, _, rfl, ?_, ⟨_, rfl⟩, hW, hsame.mono (by decide) (by decide)⟩
          · show Steps p.tables e below (s₁.setTop (mkF m 23 #[.val (.int p0)] [(.int (47 : Int32)), (.int p0)])) _
            refine XS.icmpNo X0.here hx rfl (hb hby d4_23) rfl (flt hc92).2.2.1 ?_
            show Steps p.tables e below (s₁.setTop (mkF m 26 #[.val (.int p0)] [])) _
            refine XS.iconst X0.here hx rfl (hb hby d4_26) ?_
            show Steps p.tables e below (s₁.setTop (mkF m 27 #[.val (.int p0)] [(.int (1 : Int32))])) _
            exact retN X0 hx (t := .boolean) Bd.returns (by simp) (hb hby d4_27) hr
          · show Q4 Z w_1 w_2 p0 h0 n0 _ s₁.heap _
            rw [e0]
            exact ⟨by unfold sp4; rw [if_neg hc82, if_neg hc84, if_neg hc86, if_neg hc92], N0, rfl⟩
theorem pn_0 : plainName "com/example/waystone/waystone/hessian/ChunkCodesStartsPinLaw" = true := by first | (simp [plainName, overriddenIn]; done) | decide +kernel
theorem ef_0 (m : MethodId) (p0 : Int32) (p1 : Int32) (p2 : Int32) : entryFrame m #[(.int p0), (.int p1), (.int p2)] maxLocals = mkF m 0 #[.val (.int p0), .val (.int p1), .val (.int p2), .unset, .unset, .unset, .unset, .unset] [] := by first | (simp [entryFrame, mkF, argsToLocals, Value.category, maxLocals]; done) | rfl
def sp0 (p0 : Int32) (p1 : Int32) (p2 : Int32) : Int32 := (if (p0 &&& (1 : Int32)) = (0 : Int32) then (if (p2 &&& (1 : Int32)) = (0 : Int32) then (if (sp2 (p1 &&& (255 : Int32)) (82 : Int32) (83 : Int32) (0 : Int32) (31 : Int32) (48 : Int32)) = (sp1 (p1 &&& (255 : Int32))) then (1 : Int32) else (0 : Int32)) else (if (sp2 p1 (82 : Int32) (83 : Int32) (0 : Int32) (31 : Int32) (48 : Int32)) = (sp1 p1) then (1 : Int32) else (0 : Int32))) else (if (p2 &&& (1 : Int32)) = (0 : Int32) then (if (sp2 (p1 &&& (255 : Int32)) (65 : Int32) (66 : Int32) (32 : Int32) (15 : Int32) (52 : Int32)) = (sp4 (p1 &&& (255 : Int32))) then (1 : Int32) else (0 : Int32)) else (if (sp2 p1 (65 : Int32) (66 : Int32) (32 : Int32) (15 : Int32) (52 : Int32)) = (sp4 p1) then (1 : Int32) else (0 : Int32))))
def Q0 (Z : State) (w_1 : Addr) (w_2 : Addr) (p0 : Int32) (p1 : Int32) (p2 : Int32) (h0 : Heap) (n0 : Nat) (v : Option Value) (h : Heap) (L : List Loc) : Prop := v = some (.int (sp0 p0 p1 p2)) ∧ Fr n0 L ∧ h = h0
set_option maxRecDepth 65536 in
set_option maxHeartbeats 40000000 in
theorem rm0 (l : Launch) (Z : State) (a0 : Array Value) (hw : ∀ d ∈ tables_1, d.before a0 Z = true) (ws : List Jvm.Cond) (w_1 : Addr) (w_2 : Addr) (hS : StF Z w_1 w_2) (p0 : Int32) (p1 : Int32) (p2 : Int32) (h0 : Heap) (n0 : Nat) (O0 : Old Z n0 h0) :
    MetFree l x (head1 (Jvm.Cond.code x code maxLocals ret :: ws) room_1) (fun a U => a = #[(.int p0), (.int p1), (.int p2)] ∧ Z.Warmed39 U.vm ∧ U.heap = h0) (fun _ _ _ _ _ => True) (fun _ U o U' => ∃ v L, o = .returned v ∧ Q0 Z w_1 w_2 p0 p1 p2 h0 n0 v U'.heap L ∧ FrameEnd U o U' L room_1.cells room_1.slots) := by
  refine MetFree.of_bodySF (plainFor_of_name pn_0) hisR ?_
  intro p e s m args below meth c s₁ Bd hml0 hP hK
  obtain ⟨rfl, hZ, hh⟩ := hP
  have hx := Bd.exec
  have hby := Bd.bytes
  have hml : c.maxLocals = 8 := hml0
  have hown : s.vm.findClass "com/example/waystone/waystone/hessian/ChunkCodesStartsPinLaw" = some m.cls := findClass_of_methodNamed Bd.named
  have hnm := (name_of_methodNamed Bd.named Bd.method).1
  have X0 : Stand p l e room_1 s m #[(.int p0), (.int p1), (.int p2)] below meth c s₁ [] 0 0 := Stand.of_body Bd
  have e0 : s₁.heap = h0 := by rw [← hh, Bd.state]; rfl
  have N0 := Fr.nil n0
  have hS0 := hS
  obtain ⟨S_1, E_1, S_2, E_2, F_1_more, F_1_last, F_1_compact, F_1_compactMax, F_2_more, F_2_last, F_2_compact, F_2_medium, F_1_medium, F_2_compactMax⟩ := hS
  have pre0 : ∀ t, Steps p.tables e below (s₁.setTop (mkF m 0 #[.val (.int p0), .val (.int p1), .val (.int p2), .unset, .unset, .unset, .unset, .unset] [])) t → Steps p.tables e below (s₁.setTop (entryFrame m #[(.int p0), (.int p1), (.int p2)] maxLocals)) t := fun t k => castTop (ef_0 m p0 p1 p2) k
  have pre23 : ∀ t, Steps p.tables e below (s₁.setTop (mkF m 3 #[.val (.int p0), .val (.int p1), .val (.int p2), .unset, .unset, .unset, .unset, .unset] [(.int (p0 &&& (1 : Int32)))])) t → Steps p.tables e below (s₁.setTop (entryFrame m #[(.int p0), (.int p1), (.int p2)] maxLocals)) t := fun t kt => by
    refine pre0 t ?_
    show Steps p.tables e below (s₁.setTop (mkF m 0 #[.val (.int p0), .val (.int p1), .val (.int p2), .unset, .unset, .unset, .unset, .unset] [])) _
    refine XS.iloadN X0.here hx rfl (hb hby at_0) rfl ?_
    show Steps p.tables e below (s₁.setTop (mkF m 1 #[.val (.int p0), .val (.int p1), .val (.int p2), .unset, .unset, .unset, .unset, .unset] [(.int p0)])) _
    refine XS.iconst X0.here hx rfl (hb hby at_1) ?_
    show Steps p.tables e below (s₁.setTop (mkF m 2 #[.val (.int p0), .val (.int p1), .val (.int p2), .unset, .unset, .unset, .unset, .unset] [(.int (1 : Int32)), (.int p0)])) _
    refine XS.iand X0.here hx rfl (hb hby at_2) rfl ?_
    show Steps p.tables e below (s₁.setTop (mkF m 3 #[.val (.int p0), .val (.int p1), .val (.int p2), .unset, .unset, .unset, .unset, .unset] [(.int (p0 &&& (1 : Int32)))])) _
    exact kt
  by_cases hc24 : (p0 &&& (1 : Int32)) = (0 : Int32)
  · have pre25 : ∀ t, Steps p.tables e below (s₁.setTop (mkF m 15 #[.val (.int p0), .val (.int p1), .val (.int p2), .val (.int (1 : Int32)), .unset, .unset, .unset, .unset] [(.int (p2 &&& (1 : Int32)))])) t → Steps p.tables e below (s₁.setTop (entryFrame m #[(.int p0), (.int p1), (.int p2)] maxLocals)) t := fun t kt => by
      refine pre23 t ?_
      show Steps p.tables e below (s₁.setTop (mkF m 3 #[.val (.int p0), .val (.int p1), .val (.int p2), .unset, .unset, .unset, .unset, .unset] [(.int (p0 &&& (1 : Int32)))])) _
      refine XS.ifNo X0.here hx rfl (hb hby at_3) rfl ((if0 _ _).trans (teq hc24).2) ?_
      show Steps p.tables e below (s₁.setTop (mkF m 6 #[.val (.int p0), .val (.int p1), .val (.int p2), .unset, .unset, .unset, .unset, .unset] [])) _
      refine XS.iconst X0.here hx rfl (hb hby at_6) ?_
      show Steps p.tables e below (s₁.setTop (mkF m 7 #[.val (.int p0), .val (.int p1), .val (.int p2), .unset, .unset, .unset, .unset, .unset] [(.int (1 : Int32))])) _
      refine XS.goto X0.here hx rfl (pc0 := 7) (pc' := 11) rfl (hb hby at_7) (by decide) (by decide) ?_
      show Steps p.tables e below (s₁.setTop (mkF m 11 #[.val (.int p0), .val (.int p1), .val (.int p2), .unset, .unset, .unset, .unset, .unset] [(.int (1 : Int32))])) _
      refine XS.istoreN X0.here hx rfl (hb hby at_11) rfl (l' := #[.val (.int p0), .val (.int p1), .val (.int p2), .val (.int (1 : Int32)), .unset, .unset, .unset, .unset]) rfl ?_
      show Steps p.tables e below (s₁.setTop (mkF m 12 #[.val (.int p0), .val (.int p1), .val (.int p2), .val (.int (1 : Int32)), .unset, .unset, .unset, .unset] [])) _
      refine XS.iloadN X0.here hx rfl (hb hby at_12) rfl ?_
      show Steps p.tables e below (s₁.setTop (mkF m 13 #[.val (.int p0), .val (.int p1), .val (.int p2), .val (.int (1 : Int32)), .unset, .unset, .unset, .unset] [(.int p2)])) _
      refine XS.iconst X0.here hx rfl (hb hby at_13) ?_
      show Steps p.tables e below (s₁.setTop (mkF m 14 #[.val (.int p0), .val (.int p1), .val (.int p2), .val (.int (1 : Int32)), .unset, .unset, .unset, .unset] [(.int (1 : Int32)), (.int p2)])) _
      refine XS.iand X0.here hx rfl (hb hby at_14) rfl ?_
      show Steps p.tables e below (s₁.setTop (mkF m 15 #[.val (.int p0), .val (.int p1), .val (.int p2), .val (.int (1 : Int32)), .unset, .unset, .unset, .unset] [(.int (p2 &&& (1 : Int32)))])) _
      exact kt
    by_cases hc26 : (p2 &&& (1 : Int32)) = (0 : Int32)
    · obtain ⟨T27, X27, e27, st27⟩ := getS2 X0 hx hZ hown (host := "") (Or.inl (hw _ (tk 0 rfl))) Via.refl e0 (S_1.ext O0.2) (g := (mkF m 45 #[.val (.int p0), .val (.int p1), .val (.int p2), .val (.int (1 : Int32)), .val (.int (0 : Int32)), .val (.int (p1 &&& (255 : Int32))), .unset, .unset] [])) rfl (hb hby at_45)
      obtain ⟨_, _, ⟨T44, L44, k44, n44⟩, -, X44, ⟨Lc44, hQ44, l44, y44, z44⟩, st44⟩ := Jvm.LawKit.callS X27 hx (y := Y0) hown (mvT hZ (hw _ (tk 3 rfl))) (mvT hZ (hw _ (tk 4 rfl))) (mvT hZ (hw _ (tk 5 rfl))) (mvT hZ (hw _ (tk 6 rfl))) (by decide) (backOf (W := 0) (rm1 l Z a0 hw [] w_1 w_2 hS0 (p1 &&& (255 : Int32)) h0 n0 O0) hZ (hw _ (tk 6 rfl)) (hw _ (tk 5 rfl)) (by decide) (by decide)) (g := (mkF m 62 #[.val (.int p0), .val (.int p1), .val (.int p2), .val (.int (1 : Int32)), .val (.int (0 : Int32)), .val (.int (p1 &&& (255 : Int32))), .val (.ref w_1), .unset] [(.int (p1 &&& (255 : Int32)))])) rfl (by rw [hml]; rfl) (argsL := [(.int (p1 &&& (255 : Int32)))]) (rest := []) (lenOf pd_0 rfl) rfl (by show 2 * 0 + _ ≤ _; exact Nat.le_of_eq rfl) (hb hby at_62) (fun _ _ => ⟨rfl, e27, (by decide : 0 + 0 ≤ _), (by decide : 0 + 0 ≤ _)⟩)
      dsimp only [Pt.U, Pt.locs, Pt.cells, Pt.slots] at X44 l44 y44 z44 st44 hQ44
      subst l44 y44 z44
      obtain ⟨rv44, N44q, e44⟩ := hQ44
      subst rv44
      have N44 := Fr.app N0 N44q
      obtain ⟨cq70, kq70, q70a, q70b, q70c⟩ := isOf hZ e44 (E_1.ext O0.2)
      obtain ⟨_, _, ⟨T70, L70, k70, n70⟩, -, X70, ⟨Lc70, hQ70, l70, y70, z70⟩, st70⟩ := X44.virtualBack hx (y := Y3) (z := Y3) hown (mvT hZ (hw _ (tk 7 rfl))) (mvT hZ (hw _ (tk 8 rfl))) (notFace_of_selects (args := #[]) (mvT hZ (hw _ (tk 10 rfl)))) (mvT hZ (hw _ (tk 10 rfl))) (mvT hZ (hw _ (tk 9 rfl))) (by decide) (backOf (W := 0) (rm2 l Z a0 hw [] w_1 w_2 hS0 w_1 (p1 &&& (255 : Int32)) (82 : Int32) (83 : Int32) (0 : Int32) (31 : Int32) (48 : Int32) h0 n0 O0 (F_1_more.ext O0.2) (F_1_last.ext O0.2) (F_1_compact.ext O0.2) (F_1_compactMax.ext O0.2) (E_1.ext O0.2) (F_1_medium.ext O0.2)) hZ (hw _ (tk 11 rfl)) (hw _ (tk 1 rfl)) (by decide) (by decide)) q70a q70c (g := (mkF m 79 #[.val (.int p0), .val (.int p1), .val (.int p2), .val (.int (1 : Int32)), .val (.int (0 : Int32)), .val (.int (p1 &&& (255 : Int32))), .val (.ref w_1), .val (.int (sp1 (p1 &&& (255 : Int32))))] [(.int (p1 &&& (255 : Int32))), (.ref w_1)])) rfl (by rw [hml]; rfl) (Steps.refl _) (argsL := [(.int (p1 &&& (255 : Int32)))]) (rest := []) (lenOf pd_0 rfl) rfl (by show 2 * 0 + _ ≤ _; exact Nat.le_of_eq rfl) (hb hby at_79) (fun _ _ => ⟨rfl, e44, (by decide : 0 + 0 ≤ _), (by decide : 0 + 0 ≤ _)⟩)
      dsimp only [Pt.U, Pt.locs, Pt.cells, Pt.slots] at X70 l70 y70 z70 st70 hQ70
      subst l70 y70 z70
      obtain ⟨rv70, N70q, e70⟩ := hQ70
      subst rv70
      have N70 := Fr.app N44 N70q
      have pre71 : ∀ t, Steps p.tables e below (T70.setTop (mkF m 84 #[.val (.int p0), .val (.int p1), .val (.int p2), .val (.int (1 : Int32)), .val (.int (0 : Int32)), .val (.int (p1 &&& (255 : Int32))), .val (.ref w_1), .val (.int (sp1 (p1 &&& (255 : Int32))))] [(.int (sp1 (p1 &&& (255 : Int32)))), (.int (sp2 (p1 &&& (255 : Int32)) (82 : Int32) (83 : Int32) (0 : Int32) (31 : Int32) (48 : Int32)))])) t → Steps p.tables e below (s₁.setTop (entryFrame m #[(.int p0), (.int p1), (.int p2)] maxLocals)) t := fun t kt => by
        refine pre25 t ?_
        show Steps p.tables e below (s₁.setTop (mkF m 15 #[.val (.int p0), .val (.int p1), .val (.int p2), .val (.int (1 : Int32)), .unset, .unset, .unset, .unset] [(.int (p2 &&& (1 : Int32)))])) _
        refine XS.ifYes X0.here hx rfl (pc0 := 15) (pc' := 22) rfl (hb hby at_15) rfl ((if0 _ _).trans (teq hc26).1) (by decide) (by decide) ?_
        show Steps p.tables e below (s₁.setTop (mkF m 22 #[.val (.int p0), .val (.int p1), .val (.int p2), .val (.int (1 : Int32)), .unset, .unset, .unset, .unset] [])) _
        refine XS.iconst X0.here hx rfl (hb hby at_22) ?_
        show Steps p.tables e below (s₁.setTop (mkF m 23 #[.val (.int p0), .val (.int p1), .val (.int p2), .val (.int (1 : Int32)), .unset, .unset, .unset, .unset] [(.int (0 : Int32))])) _
        refine XS.istore X0.here hx rfl (hb hby at_23) rfl (l' := #[.val (.int p0), .val (.int p1), .val (.int p2), .val (.int (1 : Int32)), .val (.int (0 : Int32)), .unset, .unset, .unset]) rfl ?_
        show Steps p.tables e below (s₁.setTop (mkF m 25 #[.val (.int p0), .val (.int p1), .val (.int p2), .val (.int (1 : Int32)), .val (.int (0 : Int32)), .unset, .unset, .unset] [])) _
        refine XS.iload X0.here hx rfl (hb hby at_25) rfl ?_
        show Steps p.tables e below (s₁.setTop (mkF m 27 #[.val (.int p0), .val (.int p1), .val (.int p2), .val (.int (1 : Int32)), .val (.int (0 : Int32)), .unset, .unset, .unset] [(.int (0 : Int32))])) _
        refine XS.ifYes X0.here hx rfl (pc0 := 27) (pc' := 34) rfl (hb hby at_27) rfl ((if0 _ _).trans (teq (by decide : ((0 : Int32) = (0 : Int32)))).1) (by decide) (by decide) ?_
        show Steps p.tables e below (s₁.setTop (mkF m 34 #[.val (.int p0), .val (.int p1), .val (.int p2), .val (.int (1 : Int32)), .val (.int (0 : Int32)), .unset, .unset, .unset] [])) _
        refine XS.iloadN X0.here hx rfl (hb hby at_34) rfl ?_
        show Steps p.tables e below (s₁.setTop (mkF m 35 #[.val (.int p0), .val (.int p1), .val (.int p2), .val (.int (1 : Int32)), .val (.int (0 : Int32)), .unset, .unset, .unset] [(.int p1)])) _
        refine XS.sipush X0.here hx rfl (hb hby at_35) ?_
        show Steps p.tables e below (s₁.setTop (mkF m 38 #[.val (.int p0), .val (.int p1), .val (.int p2), .val (.int (1 : Int32)), .val (.int (0 : Int32)), .unset, .unset, .unset] [(.int (255 : Int32)), (.int p1)])) _
        refine XS.iand X0.here hx rfl (hb hby at_38) rfl ?_
        show Steps p.tables e below (s₁.setTop (mkF m 39 #[.val (.int p0), .val (.int p1), .val (.int p2), .val (.int (1 : Int32)), .val (.int (0 : Int32)), .unset, .unset, .unset] [(.int (p1 &&& (255 : Int32)))])) _
        refine XS.istore X0.here hx rfl (hb hby at_39) rfl (l' := #[.val (.int p0), .val (.int p1), .val (.int p2), .val (.int (1 : Int32)), .val (.int (0 : Int32)), .val (.int (p1 &&& (255 : Int32))), .unset, .unset]) rfl ?_
        show Steps p.tables e below (s₁.setTop (mkF m 41 #[.val (.int p0), .val (.int p1), .val (.int p2), .val (.int (1 : Int32)), .val (.int (0 : Int32)), .val (.int (p1 &&& (255 : Int32))), .unset, .unset] [])) _
        refine XS.iloadN X0.here hx rfl (hb hby at_41) rfl ?_
        show Steps p.tables e below (s₁.setTop (mkF m 42 #[.val (.int p0), .val (.int p1), .val (.int p2), .val (.int (1 : Int32)), .val (.int (0 : Int32)), .val (.int (p1 &&& (255 : Int32))), .unset, .unset] [(.int (1 : Int32))])) _
        refine XS.ifNo X0.here hx rfl (hb hby at_42) rfl ((if0 _ _).trans (feq (by decide : ¬ ((1 : Int32) = (0 : Int32)))).1) ?_
        show Steps p.tables e below (s₁.setTop (mkF m 45 #[.val (.int p0), .val (.int p1), .val (.int p2), .val (.int (1 : Int32)), .val (.int (0 : Int32)), .val (.int (p1 &&& (255 : Int32))), .unset, .unset] [])) _
        refine st27 _ ?_
        show Steps p.tables e below (T27.setTop (mkF m 48 #[.val (.int p0), .val (.int p1), .val (.int p2), .val (.int (1 : Int32)), .val (.int (0 : Int32)), .val (.int (p1 &&& (255 : Int32))), .unset, .unset] [(.ref w_1)])) _
        refine XS.goto X27.here hx rfl (pc0 := 48) (pc' := 54) rfl (hb hby at_48) (by decide) (by decide) ?_
        show Steps p.tables e below (T27.setTop (mkF m 54 #[.val (.int p0), .val (.int p1), .val (.int p2), .val (.int (1 : Int32)), .val (.int (0 : Int32)), .val (.int (p1 &&& (255 : Int32))), .unset, .unset] [(.ref w_1)])) _
        refine XS.astore X27.here hx rfl (hb hby at_54) rfl rfl (l' := #[.val (.int p0), .val (.int p1), .val (.int p2), .val (.int (1 : Int32)), .val (.int (0 : Int32)), .val (.int (p1 &&& (255 : Int32))), .val (.ref w_1), .unset]) rfl ?_
        show Steps p.tables e below (T27.setTop (mkF m 56 #[.val (.int p0), .val (.int p1), .val (.int p2), .val (.int (1 : Int32)), .val (.int (0 : Int32)), .val (.int (p1 &&& (255 : Int32))), .val (.ref w_1), .unset] [])) _
        refine XS.iloadN X27.here hx rfl (hb hby at_56) rfl ?_
        show Steps p.tables e below (T27.setTop (mkF m 57 #[.val (.int p0), .val (.int p1), .val (.int p2), .val (.int (1 : Int32)), .val (.int (0 : Int32)), .val (.int (p1 &&& (255 : Int32))), .val (.ref w_1), .unset] [(.int (1 : Int32))])) _
        refine XS.ifNo X27.here hx rfl (hb hby at_57) rfl ((if0 _ _).trans (feq (by decide : ¬ ((1 : Int32) = (0 : Int32)))).1) ?_
        show Steps p.tables e below (T27.setTop (mkF m 60 #[.val (.int p0), .val (.int p1), .val (.int p2), .val (.int (1 : Int32)), .val (.int (0 : Int32)), .val (.int (p1 &&& (255 : Int32))), .val (.ref w_1), .unset] [])) _
        refine XS.iload X27.here hx rfl (hb hby at_60) rfl ?_
        show Steps p.tables e below (T27.setTop (mkF m 62 #[.val (.int p0), .val (.int p1), .val (.int p2), .val (.int (1 : Int32)), .val (.int (0 : Int32)), .val (.int (p1 &&& (255 : Int32))), .val (.ref w_1), .unset] [(.int (p1 &&& (255 : Int32)))])) _
        refine st44 _ ?_
        show Steps p.tables e below (T44.setTop (mkF m 65 #[.val (.int p0), .val (.int p1), .val (.int p2), .val (.int (1 : Int32)), .val (.int (0 : Int32)), .val (.int (p1 &&& (255 : Int32))), .val (.ref w_1), .unset] [(.int (sp1 (p1 &&& (255 : Int32))))])) _
        refine XS.goto X44.here hx rfl (pc0 := 65) (pc' := 73) rfl (hb hby at_65) (by decide) (by decide) ?_
        show Steps p.tables e below (T44.setTop (mkF m 73 #[.val (.int p0), .val (.int p1), .val (.int p2), .val (.int (1 : Int32)), .val (.int (0 : Int32)), .val (.int (p1 &&& (255 : Int32))), .val (.ref w_1), .unset] [(.int (sp1 (p1 &&& (255 : Int32))))])) _
        refine XS.istore X44.here hx rfl (hb hby at_73) rfl (l' := #[.val (.int p0), .val (.int p1), .val (.int p2), .val (.int (1 : Int32)), .val (.int (0 : Int32)), .val (.int (p1 &&& (255 : Int32))), .val (.ref w_1), .val (.int (sp1 (p1 &&& (255 : Int32))))]) rfl ?_
        show Steps p.tables e below (T44.setTop (mkF m 75 #[.val (.int p0), .val (.int p1), .val (.int p2), .val (.int (1 : Int32)), .val (.int (0 : Int32)), .val (.int (p1 &&& (255 : Int32))), .val (.ref w_1), .val (.int (sp1 (p1 &&& (255 : Int32))))] [])) _
        refine XS.aload X44.here hx rfl (hb hby at_75) rfl rfl ?_
        show Steps p.tables e below (T44.setTop (mkF m 77 #[.val (.int p0), .val (.int p1), .val (.int p2), .val (.int (1 : Int32)), .val (.int (0 : Int32)), .val (.int (p1 &&& (255 : Int32))), .val (.ref w_1), .val (.int (sp1 (p1 &&& (255 : Int32))))] [(.ref w_1)])) _
        refine XS.iload X44.here hx rfl (hb hby at_77) rfl ?_
        show Steps p.tables e below (T44.setTop (mkF m 79 #[.val (.int p0), .val (.int p1), .val (.int p2), .val (.int (1 : Int32)), .val (.int (0 : Int32)), .val (.int (p1 &&& (255 : Int32))), .val (.ref w_1), .val (.int (sp1 (p1 &&& (255 : Int32))))] [(.int (p1 &&& (255 : Int32))), (.ref w_1)])) _
        refine st70.trans ?_
        show Steps p.tables e below (T70.setTop (mkF m 82 #[.val (.int p0), .val (.int p1), .val (.int p2), .val (.int (1 : Int32)), .val (.int (0 : Int32)), .val (.int (p1 &&& (255 : Int32))), .val (.ref w_1), .val (.int (sp1 (p1 &&& (255 : Int32))))] [(.int (sp2 (p1 &&& (255 : Int32)) (82 : Int32) (83 : Int32) (0 : Int32) (31 : Int32) (48 : Int32)))])) _
        refine XS.iload X70.here hx rfl (hb hby at_82) rfl ?_
        show Steps p.tables e below (T70.setTop (mkF m 84 #[.val (.int p0), .val (.int p1), .val (.int p2), .val (.int (1 : Int32)), .val (.int (0 : Int32)), .val (.int (p1 &&& (255 : Int32))), .val (.ref w_1), .val (.int (sp1 (p1 &&& (255 : Int32))))] [(.int (sp1 (p1 &&& (255 : Int32)))), (.int (sp2 (p1 &&& (255 : Int32)) (82 : Int32) (83 : Int32) (0 : Int32) (31 : Int32) (48 : Int32)))])) _
        exact kt
      by_cases hc72 : (sp2 (p1 &&& (255 : Int32)) (82 : Int32) (83 : Int32) (0 : Int32) (31 : Int32) (48 : Int32)) = (sp1 (p1 &&& (255 : Int32)))
      · obtain ⟨fs, hr, hrun, hended, hW, hsame⟩ := X70.leave (v := some (.int (1 : Int32))) (fun h => by rw [Bd.returns] at h; cases h)
        refine ⟨_, _, pre71 _ ?_, hrun, hended, _, _, rfl, ?_, ⟨_, rfl⟩, hW, hsame.mono (by decide) (by decide)⟩
        · show Steps p.tables e below (T70.setTop (mkF m 84 #[.val (.int p0), .val (.int p1), .val (.int p2), .val (.int (1 : Int32)), .val (.int (0 : Int32)), .val (.int (p1 &&& (255 : Int32))), .val (.ref w_1), .val (.int (sp1 (p1 &&& (255 : Int32))))] [(.int (sp1 (p1 &&& (255 : Int32)))), (.int (sp2 (p1 &&& (255 : Int32)) (82 : Int32) (83 : Int32) (0 : Int32) (31 : Int32) (48 : Int32)))])) _
          refine XS.icmpNo X70.here hx rfl (hb hby at_84) rfl (teq hc72).2 ?_
          show Steps p.tables e below (T70.setTop (mkF m 87 #[.val (.int p0), .val (.int p1), .val (.int p2), .val (.int (1 : Int32)), .val (.int (0 : Int32)), .val (.int (p1 &&& (255 : Int32))), .val (.ref w_1), .val (.int (sp1 (p1 &&& (255 : Int32))))] [])) _
          refine XS.iconst X70.here hx rfl (hb hby at_87) ?_
          show Steps p.tables e below (T70.setTop (mkF m 88 #[.val (.int p0), .val (.int p1), .val (.int p2), .val (.int (1 : Int32)), .val (.int (0 : Int32)), .val (.int (p1 &&& (255 : Int32))), .val (.ref w_1), .val (.int (sp1 (p1 &&& (255 : Int32))))] [(.int (1 : Int32))])) _
          refine XS.goto X70.here hx rfl (pc0 := 88) (pc' := 92) rfl (hb hby at_88) (by decide) (by decide) ?_
          show Steps p.tables e below (T70.setTop (mkF m 92 #[.val (.int p0), .val (.int p1), .val (.int p2), .val (.int (1 : Int32)), .val (.int (0 : Int32)), .val (.int (p1 &&& (255 : Int32))), .val (.ref w_1), .val (.int (sp1 (p1 &&& (255 : Int32))))] [(.int (1 : Int32))])) _
          exact retN X70 hx (t := .boolean) Bd.returns (by simp) (hb hby at_92) hr
        · show Q0 Z w_1 w_2 p0 p1 p2 h0 n0 _ T70.heap _
          rw [e70]
          exact ⟨by unfold sp0; rw [if_pos hc24, if_pos hc26, if_pos hc72], N70, rfl⟩
      · obtain ⟨fs, hr, hrun, hended, hW, hsame⟩ := X70.leave (v := some (.int (0 : Int32))) (fun h => by rw [Bd.returns] at h; cases h)
        refine ⟨_, _, pre71 _ ?_, hrun, hended, _, _, rfl, ?_, ⟨_, rfl⟩, hW, hsame.mono (by decide) (by decide)⟩
        · show Steps p.tables e below (T70.setTop (mkF m 84 #[.val (.int p0), .val (.int p1), .val (.int p2), .val (.int (1 : Int32)), .val (.int (0 : Int32)), .val (.int (p1 &&& (255 : Int32))), .val (.ref w_1), .val (.int (sp1 (p1 &&& (255 : Int32))))] [(.int (sp1 (p1 &&& (255 : Int32)))), (.int (sp2 (p1 &&& (255 : Int32)) (82 : Int32) (83 : Int32) (0 : Int32) (31 : Int32) (48 : Int32)))])) _
          refine XS.icmpYes X70.here hx rfl (pc0 := 84) (pc' := 91) rfl (hb hby at_84) rfl (feq hc72).2 (by decide) (by decide) ?_
          show Steps p.tables e below (T70.setTop (mkF m 91 #[.val (.int p0), .val (.int p1), .val (.int p2), .val (.int (1 : Int32)), .val (.int (0 : Int32)), .val (.int (p1 &&& (255 : Int32))), .val (.ref w_1), .val (.int (sp1 (p1 &&& (255 : Int32))))] [])) _
          refine XS.iconst X70.here hx rfl (hb hby at_91) ?_
          show Steps p.tables e below (T70.setTop (mkF m 92 #[.val (.int p0), .val (.int p1), .val (.int p2), .val (.int (1 : Int32)), .val (.int (0 : Int32)), .val (.int (p1 &&& (255 : Int32))), .val (.ref w_1), .val (.int (sp1 (p1 &&& (255 : Int32))))] [(.int (0 : Int32))])) _
          exact retN X70 hx (t := .boolean) Bd.returns (by simp) (hb hby at_92) hr
        · show Q0 Z w_1 w_2 p0 p1 p2 h0 n0 _ T70.heap _
          rw [e70]
          exact ⟨by unfold sp0; rw [if_pos hc24, if_pos hc26, if_neg hc72], N70, rfl⟩
    · obtain ⟨T73, X73, e73, st73⟩ := getS2 X0 hx hZ hown (host := "") (Or.inl (hw _ (tk 0 rfl))) Via.refl e0 (S_1.ext O0.2) (g := (mkF m 45 #[.val (.int p0), .val (.int p1), .val (.int p2), .val (.int (1 : Int32)), .val (.int (1 : Int32)), .val (.int p1), .unset, .unset] [])) rfl (hb hby at_45)
      obtain ⟨_, _, ⟨T74, L74, k74, n74⟩, -, X74, ⟨Lc74, hQ74, l74, y74, z74⟩, st74⟩ := Jvm.LawKit.callS X73 hx (y := Y0) hown (mvT hZ (hw _ (tk 3 rfl))) (mvT hZ (hw _ (tk 4 rfl))) (mvT hZ (hw _ (tk 5 rfl))) (mvT hZ (hw _ (tk 6 rfl))) (by decide) (backOf (W := 0) (rm1 l Z a0 hw [] w_1 w_2 hS0 p1 h0 n0 O0) hZ (hw _ (tk 6 rfl)) (hw _ (tk 5 rfl)) (by decide) (by decide)) (g := (mkF m 62 #[.val (.int p0), .val (.int p1), .val (.int p2), .val (.int (1 : Int32)), .val (.int (1 : Int32)), .val (.int p1), .val (.ref w_1), .unset] [(.int p1)])) rfl (by rw [hml]; rfl) (argsL := [(.int p1)]) (rest := []) (lenOf pd_0 rfl) rfl (by show 2 * 0 + _ ≤ _; exact Nat.le_of_eq rfl) (hb hby at_62) (fun _ _ => ⟨rfl, e73, (by decide : 0 + 0 ≤ _), (by decide : 0 + 0 ≤ _)⟩)
      dsimp only [Pt.U, Pt.locs, Pt.cells, Pt.slots] at X74 l74 y74 z74 st74 hQ74
      subst l74 y74 z74
      obtain ⟨rv74, N74q, e74⟩ := hQ74
      subst rv74
      have N74 := Fr.app N0 N74q
      obtain ⟨cq75, kq75, q75a, q75b, q75c⟩ := isOf hZ e74 (E_1.ext O0.2)
      obtain ⟨_, _, ⟨T75, L75, k75, n75⟩, -, X75, ⟨Lc75, hQ75, l75, y75, z75⟩, st75⟩ := X74.virtualBack hx (y := Y3) (z := Y3) hown (mvT hZ (hw _ (tk 7 rfl))) (mvT hZ (hw _ (tk 8 rfl))) (notFace_of_selects (args := #[]) (mvT hZ (hw _ (tk 10 rfl)))) (mvT hZ (hw _ (tk 10 rfl))) (mvT hZ (hw _ (tk 9 rfl))) (by decide) (backOf (W := 0) (rm2 l Z a0 hw [] w_1 w_2 hS0 w_1 p1 (82 : Int32) (83 : Int32) (0 : Int32) (31 : Int32) (48 : Int32) h0 n0 O0 (F_1_more.ext O0.2) (F_1_last.ext O0.2) (F_1_compact.ext O0.2) (F_1_compactMax.ext O0.2) (E_1.ext O0.2) (F_1_medium.ext O0.2)) hZ (hw _ (tk 11 rfl)) (hw _ (tk 1 rfl)) (by decide) (by decide)) q75a q75c (g := (mkF m 79 #[.val (.int p0), .val (.int p1), .val (.int p2), .val (.int (1 : Int32)), .val (.int (1 : Int32)), .val (.int p1), .val (.ref w_1), .val (.int (sp1 p1))] [(.int p1), (.ref w_1)])) rfl (by rw [hml]; rfl) (Steps.refl _) (argsL := [(.int p1)]) (rest := []) (lenOf pd_0 rfl) rfl (by show 2 * 0 + _ ≤ _; exact Nat.le_of_eq rfl) (hb hby at_79) (fun _ _ => ⟨rfl, e74, (by decide : 0 + 0 ≤ _), (by decide : 0 + 0 ≤ _)⟩)
      dsimp only [Pt.U, Pt.locs, Pt.cells, Pt.slots] at X75 l75 y75 z75 st75 hQ75
      subst l75 y75 z75
      obtain ⟨rv75, N75q, e75⟩ := hQ75
      subst rv75
      have N75 := Fr.app N74 N75q
      have pre76 : ∀ t, Steps p.tables e below (T75.setTop (mkF m 84 #[.val (.int p0), .val (.int p1), .val (.int p2), .val (.int (1 : Int32)), .val (.int (1 : Int32)), .val (.int p1), .val (.ref w_1), .val (.int (sp1 p1))] [(.int (sp1 p1)), (.int (sp2 p1 (82 : Int32) (83 : Int32) (0 : Int32) (31 : Int32) (48 : Int32)))])) t → Steps p.tables e below (s₁.setTop (entryFrame m #[(.int p0), (.int p1), (.int p2)] maxLocals)) t := fun t kt => by
        refine pre25 t ?_
        show Steps p.tables e below (s₁.setTop (mkF m 15 #[.val (.int p0), .val (.int p1), .val (.int p2), .val (.int (1 : Int32)), .unset, .unset, .unset, .unset] [(.int (p2 &&& (1 : Int32)))])) _
        refine XS.ifNo X0.here hx rfl (hb hby at_15) rfl ((if0 _ _).trans (feq hc26).1) ?_
        show Steps p.tables e below (s₁.setTop (mkF m 18 #[.val (.int p0), .val (.int p1), .val (.int p2), .val (.int (1 : Int32)), .unset, .unset, .unset, .unset] [])) _
        refine XS.iconst X0.here hx rfl (hb hby at_18) ?_
        show Steps p.tables e below (s₁.setTop (mkF m 19 #[.val (.int p0), .val (.int p1), .val (.int p2), .val (.int (1 : Int32)), .unset, .unset, .unset, .unset] [(.int (1 : Int32))])) _
        refine XS.goto X0.here hx rfl (pc0 := 19) (pc' := 23) rfl (hb hby at_19) (by decide) (by decide) ?_
        show Steps p.tables e below (s₁.setTop (mkF m 23 #[.val (.int p0), .val (.int p1), .val (.int p2), .val (.int (1 : Int32)), .unset, .unset, .unset, .unset] [(.int (1 : Int32))])) _
        refine XS.istore X0.here hx rfl (hb hby at_23) rfl (l' := #[.val (.int p0), .val (.int p1), .val (.int p2), .val (.int (1 : Int32)), .val (.int (1 : Int32)), .unset, .unset, .unset]) rfl ?_
        show Steps p.tables e below (s₁.setTop (mkF m 25 #[.val (.int p0), .val (.int p1), .val (.int p2), .val (.int (1 : Int32)), .val (.int (1 : Int32)), .unset, .unset, .unset] [])) _
        refine XS.iload X0.here hx rfl (hb hby at_25) rfl ?_
        show Steps p.tables e below (s₁.setTop (mkF m 27 #[.val (.int p0), .val (.int p1), .val (.int p2), .val (.int (1 : Int32)), .val (.int (1 : Int32)), .unset, .unset, .unset] [(.int (1 : Int32))])) _
        refine XS.ifNo X0.here hx rfl (hb hby at_27) rfl ((if0 _ _).trans (feq (by decide : ¬ ((1 : Int32) = (0 : Int32)))).1) ?_
        show Steps p.tables e below (s₁.setTop (mkF m 30 #[.val (.int p0), .val (.int p1), .val (.int p2), .val (.int (1 : Int32)), .val (.int (1 : Int32)), .unset, .unset, .unset] [])) _
        refine XS.iloadN X0.here hx rfl (hb hby at_30) rfl ?_
        show Steps p.tables e below (s₁.setTop (mkF m 31 #[.val (.int p0), .val (.int p1), .val (.int p2), .val (.int (1 : Int32)), .val (.int (1 : Int32)), .unset, .unset, .unset] [(.int p1)])) _
        refine XS.goto X0.here hx rfl (pc0 := 31) (pc' := 39) rfl (hb hby at_31) (by decide) (by decide) ?_
        show Steps p.tables e below (s₁.setTop (mkF m 39 #[.val (.int p0), .val (.int p1), .val (.int p2), .val (.int (1 : Int32)), .val (.int (1 : Int32)), .unset, .unset, .unset] [(.int p1)])) _
        refine XS.istore X0.here hx rfl (hb hby at_39) rfl (l' := #[.val (.int p0), .val (.int p1), .val (.int p2), .val (.int (1 : Int32)), .val (.int (1 : Int32)), .val (.int p1), .unset, .unset]) rfl ?_
        show Steps p.tables e below (s₁.setTop (mkF m 41 #[.val (.int p0), .val (.int p1), .val (.int p2), .val (.int (1 : Int32)), .val (.int (1 : Int32)), .val (.int p1), .unset, .unset] [])) _
        refine XS.iloadN X0.here hx rfl (hb hby at_41) rfl ?_
        show Steps p.tables e below (s₁.setTop (mkF m 42 #[.val (.int p0), .val (.int p1), .val (.int p2), .val (.int (1 : Int32)), .val (.int (1 : Int32)), .val (.int p1), .unset, .unset] [(.int (1 : Int32))])) _
        refine XS.ifNo X0.here hx rfl (hb hby at_42) rfl ((if0 _ _).trans (feq (by decide : ¬ ((1 : Int32) = (0 : Int32)))).1) ?_
        show Steps p.tables e below (s₁.setTop (mkF m 45 #[.val (.int p0), .val (.int p1), .val (.int p2), .val (.int (1 : Int32)), .val (.int (1 : Int32)), .val (.int p1), .unset, .unset] [])) _
        refine st73 _ ?_
        show Steps p.tables e below (T73.setTop (mkF m 48 #[.val (.int p0), .val (.int p1), .val (.int p2), .val (.int (1 : Int32)), .val (.int (1 : Int32)), .val (.int p1), .unset, .unset] [(.ref w_1)])) _
        refine XS.goto X73.here hx rfl (pc0 := 48) (pc' := 54) rfl (hb hby at_48) (by decide) (by decide) ?_
        show Steps p.tables e below (T73.setTop (mkF m 54 #[.val (.int p0), .val (.int p1), .val (.int p2), .val (.int (1 : Int32)), .val (.int (1 : Int32)), .val (.int p1), .unset, .unset] [(.ref w_1)])) _
        refine XS.astore X73.here hx rfl (hb hby at_54) rfl rfl (l' := #[.val (.int p0), .val (.int p1), .val (.int p2), .val (.int (1 : Int32)), .val (.int (1 : Int32)), .val (.int p1), .val (.ref w_1), .unset]) rfl ?_
        show Steps p.tables e below (T73.setTop (mkF m 56 #[.val (.int p0), .val (.int p1), .val (.int p2), .val (.int (1 : Int32)), .val (.int (1 : Int32)), .val (.int p1), .val (.ref w_1), .unset] [])) _
        refine XS.iloadN X73.here hx rfl (hb hby at_56) rfl ?_
        show Steps p.tables e below (T73.setTop (mkF m 57 #[.val (.int p0), .val (.int p1), .val (.int p2), .val (.int (1 : Int32)), .val (.int (1 : Int32)), .val (.int p1), .val (.ref w_1), .unset] [(.int (1 : Int32))])) _
        refine XS.ifNo X73.here hx rfl (hb hby at_57) rfl ((if0 _ _).trans (feq (by decide : ¬ ((1 : Int32) = (0 : Int32)))).1) ?_
        show Steps p.tables e below (T73.setTop (mkF m 60 #[.val (.int p0), .val (.int p1), .val (.int p2), .val (.int (1 : Int32)), .val (.int (1 : Int32)), .val (.int p1), .val (.ref w_1), .unset] [])) _
        refine XS.iload X73.here hx rfl (hb hby at_60) rfl ?_
        show Steps p.tables e below (T73.setTop (mkF m 62 #[.val (.int p0), .val (.int p1), .val (.int p2), .val (.int (1 : Int32)), .val (.int (1 : Int32)), .val (.int p1), .val (.ref w_1), .unset] [(.int p1)])) _
        refine st74 _ ?_
        show Steps p.tables e below (T74.setTop (mkF m 65 #[.val (.int p0), .val (.int p1), .val (.int p2), .val (.int (1 : Int32)), .val (.int (1 : Int32)), .val (.int p1), .val (.ref w_1), .unset] [(.int (sp1 p1))])) _
        refine XS.goto X74.here hx rfl (pc0 := 65) (pc' := 73) rfl (hb hby at_65) (by decide) (by decide) ?_
        show Steps p.tables e below (T74.setTop (mkF m 73 #[.val (.int p0), .val (.int p1), .val (.int p2), .val (.int (1 : Int32)), .val (.int (1 : Int32)), .val (.int p1), .val (.ref w_1), .unset] [(.int (sp1 p1))])) _
        refine XS.istore X74.here hx rfl (hb hby at_73) rfl (l' := #[.val (.int p0), .val (.int p1), .val (.int p2), .val (.int (1 : Int32)), .val (.int (1 : Int32)), .val (.int p1), .val (.ref w_1), .val (.int (sp1 p1))]) rfl ?_
        show Steps p.tables e below (T74.setTop (mkF m 75 #[.val (.int p0), .val (.int p1), .val (.int p2), .val (.int (1 : Int32)), .val (.int (1 : Int32)), .val (.int p1), .val (.ref w_1), .val (.int (sp1 p1))] [])) _
        refine XS.aload X74.here hx rfl (hb hby at_75) rfl rfl ?_
        show Steps p.tables e below (T74.setTop (mkF m 77 #[.val (.int p0), .val (.int p1), .val (.int p2), .val (.int (1 : Int32)), .val (.int (1 : Int32)), .val (.int p1), .val (.ref w_1), .val (.int (sp1 p1))] [(.ref w_1)])) _
        refine XS.iload X74.here hx rfl (hb hby at_77) rfl ?_
        show Steps p.tables e below (T74.setTop (mkF m 79 #[.val (.int p0), .val (.int p1), .val (.int p2), .val (.int (1 : Int32)), .val (.int (1 : Int32)), .val (.int p1), .val (.ref w_1), .val (.int (sp1 p1))] [(.int p1), (.ref w_1)])) _
        refine st75.trans ?_
        show Steps p.tables e below (T75.setTop (mkF m 82 #[.val (.int p0), .val (.int p1), .val (.int p2), .val (.int (1 : Int32)), .val (.int (1 : Int32)), .val (.int p1), .val (.ref w_1), .val (.int (sp1 p1))] [(.int (sp2 p1 (82 : Int32) (83 : Int32) (0 : Int32) (31 : Int32) (48 : Int32)))])) _
        refine XS.iload X75.here hx rfl (hb hby at_82) rfl ?_
        show Steps p.tables e below (T75.setTop (mkF m 84 #[.val (.int p0), .val (.int p1), .val (.int p2), .val (.int (1 : Int32)), .val (.int (1 : Int32)), .val (.int p1), .val (.ref w_1), .val (.int (sp1 p1))] [(.int (sp1 p1)), (.int (sp2 p1 (82 : Int32) (83 : Int32) (0 : Int32) (31 : Int32) (48 : Int32)))])) _
        exact kt
      by_cases hc77 : (sp2 p1 (82 : Int32) (83 : Int32) (0 : Int32) (31 : Int32) (48 : Int32)) = (sp1 p1)
      · obtain ⟨fs, hr, hrun, hended, hW, hsame⟩ := X75.leave (v := some (.int (1 : Int32))) (fun h => by rw [Bd.returns] at h; cases h)
        refine ⟨_, _, pre76 _ ?_, hrun, hended, _, _, rfl, ?_, ⟨_, rfl⟩, hW, hsame.mono (by decide) (by decide)⟩
        · show Steps p.tables e below (T75.setTop (mkF m 84 #[.val (.int p0), .val (.int p1), .val (.int p2), .val (.int (1 : Int32)), .val (.int (1 : Int32)), .val (.int p1), .val (.ref w_1), .val (.int (sp1 p1))] [(.int (sp1 p1)), (.int (sp2 p1 (82 : Int32) (83 : Int32) (0 : Int32) (31 : Int32) (48 : Int32)))])) _
          refine XS.icmpNo X75.here hx rfl (hb hby at_84) rfl (teq hc77).2 ?_
          show Steps p.tables e below (T75.setTop (mkF m 87 #[.val (.int p0), .val (.int p1), .val (.int p2), .val (.int (1 : Int32)), .val (.int (1 : Int32)), .val (.int p1), .val (.ref w_1), .val (.int (sp1 p1))] [])) _
          refine XS.iconst X75.here hx rfl (hb hby at_87) ?_
          show Steps p.tables e below (T75.setTop (mkF m 88 #[.val (.int p0), .val (.int p1), .val (.int p2), .val (.int (1 : Int32)), .val (.int (1 : Int32)), .val (.int p1), .val (.ref w_1), .val (.int (sp1 p1))] [(.int (1 : Int32))])) _
          refine XS.goto X75.here hx rfl (pc0 := 88) (pc' := 92) rfl (hb hby at_88) (by decide) (by decide) ?_
          show Steps p.tables e below (T75.setTop (mkF m 92 #[.val (.int p0), .val (.int p1), .val (.int p2), .val (.int (1 : Int32)), .val (.int (1 : Int32)), .val (.int p1), .val (.ref w_1), .val (.int (sp1 p1))] [(.int (1 : Int32))])) _
          exact retN X75 hx (t := .boolean) Bd.returns (by simp) (hb hby at_92) hr
        · show Q0 Z w_1 w_2 p0 p1 p2 h0 n0 _ T75.heap _
          rw [e75]
          exact ⟨by unfold sp0; rw [if_pos hc24, if_neg hc26, if_pos hc77], N75, rfl⟩
      · obtain ⟨fs, hr, hrun, hended, hW, hsame⟩ := X75.leave (v := some (.int (0 : Int32))) (fun h => by rw [Bd.returns] at h; cases h)
        refine ⟨_, _, pre76 _ ?_, hrun, hended, _, _, rfl, ?_, ⟨_, rfl⟩, hW, hsame.mono (by decide) (by decide)⟩
        · show Steps p.tables e below (T75.setTop (mkF m 84 #[.val (.int p0), .val (.int p1), .val (.int p2), .val (.int (1 : Int32)), .val (.int (1 : Int32)), .val (.int p1), .val (.ref w_1), .val (.int (sp1 p1))] [(.int (sp1 p1)), (.int (sp2 p1 (82 : Int32) (83 : Int32) (0 : Int32) (31 : Int32) (48 : Int32)))])) _
          refine XS.icmpYes X75.here hx rfl (pc0 := 84) (pc' := 91) rfl (hb hby at_84) rfl (feq hc77).2 (by decide) (by decide) ?_
          show Steps p.tables e below (T75.setTop (mkF m 91 #[.val (.int p0), .val (.int p1), .val (.int p2), .val (.int (1 : Int32)), .val (.int (1 : Int32)), .val (.int p1), .val (.ref w_1), .val (.int (sp1 p1))] [])) _
          refine XS.iconst X75.here hx rfl (hb hby at_91) ?_
          show Steps p.tables e below (T75.setTop (mkF m 92 #[.val (.int p0), .val (.int p1), .val (.int p2), .val (.int (1 : Int32)), .val (.int (1 : Int32)), .val (.int p1), .val (.ref w_1), .val (.int (sp1 p1))] [(.int (0 : Int32))])) _
          exact retN X75 hx (t := .boolean) Bd.returns (by simp) (hb hby at_92) hr
        · show Q0 Z w_1 w_2 p0 p1 p2 h0 n0 _ T75.heap _
          rw [e75]
          exact ⟨by unfold sp0; rw [if_pos hc24, if_neg hc26, if_neg hc77], N75, rfl⟩
  · have pre78 : ∀ t, Steps p.tables e below (s₁.setTop (mkF m 15 #[.val (.int p0), .val (.int p1), .val (.int p2), .val (.int (0 : Int32)), .unset, .unset, .unset, .unset] [(.int (p2 &&& (1 : Int32)))])) t → Steps p.tables e below (s₁.setTop (entryFrame m #[(.int p0), (.int p1), (.int p2)] maxLocals)) t := fun t kt => by
      refine pre23 t ?_
      show Steps p.tables e below (s₁.setTop (mkF m 3 #[.val (.int p0), .val (.int p1), .val (.int p2), .unset, .unset, .unset, .unset, .unset] [(.int (p0 &&& (1 : Int32)))])) _
      refine XS.ifYes X0.here hx rfl (pc0 := 3) (pc' := 10) rfl (hb hby at_3) rfl ((if0 _ _).trans (feq hc24).2) (by decide) (by decide) ?_
      show Steps p.tables e below (s₁.setTop (mkF m 10 #[.val (.int p0), .val (.int p1), .val (.int p2), .unset, .unset, .unset, .unset, .unset] [])) _
      refine XS.iconst X0.here hx rfl (hb hby at_10) ?_
      show Steps p.tables e below (s₁.setTop (mkF m 11 #[.val (.int p0), .val (.int p1), .val (.int p2), .unset, .unset, .unset, .unset, .unset] [(.int (0 : Int32))])) _
      refine XS.istoreN X0.here hx rfl (hb hby at_11) rfl (l' := #[.val (.int p0), .val (.int p1), .val (.int p2), .val (.int (0 : Int32)), .unset, .unset, .unset, .unset]) rfl ?_
      show Steps p.tables e below (s₁.setTop (mkF m 12 #[.val (.int p0), .val (.int p1), .val (.int p2), .val (.int (0 : Int32)), .unset, .unset, .unset, .unset] [])) _
      refine XS.iloadN X0.here hx rfl (hb hby at_12) rfl ?_
      show Steps p.tables e below (s₁.setTop (mkF m 13 #[.val (.int p0), .val (.int p1), .val (.int p2), .val (.int (0 : Int32)), .unset, .unset, .unset, .unset] [(.int p2)])) _
      refine XS.iconst X0.here hx rfl (hb hby at_13) ?_
      show Steps p.tables e below (s₁.setTop (mkF m 14 #[.val (.int p0), .val (.int p1), .val (.int p2), .val (.int (0 : Int32)), .unset, .unset, .unset, .unset] [(.int (1 : Int32)), (.int p2)])) _
      refine XS.iand X0.here hx rfl (hb hby at_14) rfl ?_
      show Steps p.tables e below (s₁.setTop (mkF m 15 #[.val (.int p0), .val (.int p1), .val (.int p2), .val (.int (0 : Int32)), .unset, .unset, .unset, .unset] [(.int (p2 &&& (1 : Int32)))])) _
      exact kt
    by_cases hc79 : (p2 &&& (1 : Int32)) = (0 : Int32)
    · obtain ⟨T80, X80, e80, st80⟩ := getS2 X0 hx hZ hown (host := "") (Or.inl (hw _ (tk 25 rfl))) Via.refl e0 (S_2.ext O0.2) (g := (mkF m 51 #[.val (.int p0), .val (.int p1), .val (.int p2), .val (.int (0 : Int32)), .val (.int (0 : Int32)), .val (.int (p1 &&& (255 : Int32))), .unset, .unset] [])) rfl (hb hby at_51)
      obtain ⟨_, _, ⟨T97, L97, k97, n97⟩, -, X97, ⟨Lc97, hQ97, l97, y97, z97⟩, st97⟩ := Jvm.LawKit.callS X80 hx (y := Y4) hown (mvT hZ (hw _ (tk 27 rfl))) (mvT hZ (hw _ (tk 28 rfl))) (mvT hZ (hw _ (tk 5 rfl))) (mvT hZ (hw _ (tk 29 rfl))) (by decide) (backOf (W := 0) (rm4 l Z a0 hw [] w_1 w_2 hS0 (p1 &&& (255 : Int32)) h0 n0 O0) hZ (hw _ (tk 29 rfl)) (hw _ (tk 5 rfl)) (by decide) (by decide)) (g := (mkF m 70 #[.val (.int p0), .val (.int p1), .val (.int p2), .val (.int (0 : Int32)), .val (.int (0 : Int32)), .val (.int (p1 &&& (255 : Int32))), .val (.ref w_2), .unset] [(.int (p1 &&& (255 : Int32)))])) rfl (by rw [hml]; rfl) (argsL := [(.int (p1 &&& (255 : Int32)))]) (rest := []) (lenOf pd_0 rfl) rfl (by show 2 * 0 + _ ≤ _; exact Nat.le_of_eq rfl) (hb hby at_70) (fun _ _ => ⟨rfl, e80, (by decide : 0 + 0 ≤ _), (by decide : 0 + 0 ≤ _)⟩)
      dsimp only [Pt.U, Pt.locs, Pt.cells, Pt.slots] at X97 l97 y97 z97 st97 hQ97
      subst l97 y97 z97
      obtain ⟨rv97, N97q, e97⟩ := hQ97
      subst rv97
      have N97 := Fr.app N0 N97q
      obtain ⟨cq98, kq98, q98a, q98b, q98c⟩ := isOf hZ e97 (E_2.ext O0.2)
      obtain ⟨_, _, ⟨T98, L98, k98, n98⟩, -, X98, ⟨Lc98, hQ98, l98, y98, z98⟩, st98⟩ := X97.virtualBack hx (y := Y3) (z := Y3) hown (mvT hZ (hw _ (tk 7 rfl))) (mvT hZ (hw _ (tk 8 rfl))) (notFace_of_selects (args := #[]) (mvT hZ (hw _ (tk 10 rfl)))) (mvT hZ (hw _ (tk 10 rfl))) (mvT hZ (hw _ (tk 9 rfl))) (by decide) (backOf (W := 0) (rm2 l Z a0 hw [] w_1 w_2 hS0 w_2 (p1 &&& (255 : Int32)) (65 : Int32) (66 : Int32) (32 : Int32) (15 : Int32) (52 : Int32) h0 n0 O0 (F_2_more.ext O0.2) (F_2_last.ext O0.2) (F_2_compact.ext O0.2) (F_2_compactMax.ext O0.2) (E_2.ext O0.2) (F_2_medium.ext O0.2)) hZ (hw _ (tk 11 rfl)) (hw _ (tk 1 rfl)) (by decide) (by decide)) q98a q98c (g := (mkF m 79 #[.val (.int p0), .val (.int p1), .val (.int p2), .val (.int (0 : Int32)), .val (.int (0 : Int32)), .val (.int (p1 &&& (255 : Int32))), .val (.ref w_2), .val (.int (sp4 (p1 &&& (255 : Int32))))] [(.int (p1 &&& (255 : Int32))), (.ref w_2)])) rfl (by rw [hml]; rfl) (Steps.refl _) (argsL := [(.int (p1 &&& (255 : Int32)))]) (rest := []) (lenOf pd_0 rfl) rfl (by show 2 * 0 + _ ≤ _; exact Nat.le_of_eq rfl) (hb hby at_79) (fun _ _ => ⟨rfl, e97, (by decide : 0 + 0 ≤ _), (by decide : 0 + 0 ≤ _)⟩)
      dsimp only [Pt.U, Pt.locs, Pt.cells, Pt.slots] at X98 l98 y98 z98 st98 hQ98
      subst l98 y98 z98
      obtain ⟨rv98, N98q, e98⟩ := hQ98
      subst rv98
      have N98 := Fr.app N97 N98q
      have pre99 : ∀ t, Steps p.tables e below (T98.setTop (mkF m 84 #[.val (.int p0), .val (.int p1), .val (.int p2), .val (.int (0 : Int32)), .val (.int (0 : Int32)), .val (.int (p1 &&& (255 : Int32))), .val (.ref w_2), .val (.int (sp4 (p1 &&& (255 : Int32))))] [(.int (sp4 (p1 &&& (255 : Int32)))), (.int (sp2 (p1 &&& (255 : Int32)) (65 : Int32) (66 : Int32) (32 : Int32) (15 : Int32) (52 : Int32)))])) t → Steps p.tables e below (s₁.setTop (entryFrame m #[(.int p0), (.int p1), (.int p2)] maxLocals)) t := fun t kt => by
        refine pre78 t ?_
        show Steps p.tables e below (s₁.setTop (mkF m 15 #[.val (.int p0), .val (.int p1), .val (.int p2), .val (.int (0 : Int32)), .unset, .unset, .unset, .unset] [(.int (p2 &&& (1 : Int32)))])) _
        refine XS.ifYes X0.here hx rfl (pc0 := 15) (pc' := 22) rfl (hb hby at_15) rfl ((if0 _ _).trans (teq hc79).1) (by decide) (by decide) ?_
        show Steps p.tables e below (s₁.setTop (mkF m 22 #[.val (.int p0), .val (.int p1), .val (.int p2), .val (.int (0 : Int32)), .unset, .unset, .unset, .unset] [])) _
        refine XS.iconst X0.here hx rfl (hb hby at_22) ?_
        show Steps p.tables e below (s₁.setTop (mkF m 23 #[.val (.int p0), .val (.int p1), .val (.int p2), .val (.int (0 : Int32)), .unset, .unset, .unset, .unset] [(.int (0 : Int32))])) _
        refine XS.istore X0.here hx rfl (hb hby at_23) rfl (l' := #[.val (.int p0), .val (.int p1), .val (.int p2), .val (.int (0 : Int32)), .val (.int (0 : Int32)), .unset, .unset, .unset]) rfl ?_
        show Steps p.tables e below (s₁.setTop (mkF m 25 #[.val (.int p0), .val (.int p1), .val (.int p2), .val (.int (0 : Int32)), .val (.int (0 : Int32)), .unset, .unset, .unset] [])) _
        refine XS.iload X0.here hx rfl (hb hby at_25) rfl ?_
        show Steps p.tables e below (s₁.setTop (mkF m 27 #[.val (.int p0), .val (.int p1), .val (.int p2), .val (.int (0 : Int32)), .val (.int (0 : Int32)), .unset, .unset, .unset] [(.int (0 : Int32))])) _
        refine XS.ifYes X0.here hx rfl (pc0 := 27) (pc' := 34) rfl (hb hby at_27) rfl ((if0 _ _).trans (teq (by decide : ((0 : Int32) = (0 : Int32)))).1) (by decide) (by decide) ?_
        show Steps p.tables e below (s₁.setTop (mkF m 34 #[.val (.int p0), .val (.int p1), .val (.int p2), .val (.int (0 : Int32)), .val (.int (0 : Int32)), .unset, .unset, .unset] [])) _
        refine XS.iloadN X0.here hx rfl (hb hby at_34) rfl ?_
        show Steps p.tables e below (s₁.setTop (mkF m 35 #[.val (.int p0), .val (.int p1), .val (.int p2), .val (.int (0 : Int32)), .val (.int (0 : Int32)), .unset, .unset, .unset] [(.int p1)])) _
        refine XS.sipush X0.here hx rfl (hb hby at_35) ?_
        show Steps p.tables e below (s₁.setTop (mkF m 38 #[.val (.int p0), .val (.int p1), .val (.int p2), .val (.int (0 : Int32)), .val (.int (0 : Int32)), .unset, .unset, .unset] [(.int (255 : Int32)), (.int p1)])) _
        refine XS.iand X0.here hx rfl (hb hby at_38) rfl ?_
        show Steps p.tables e below (s₁.setTop (mkF m 39 #[.val (.int p0), .val (.int p1), .val (.int p2), .val (.int (0 : Int32)), .val (.int (0 : Int32)), .unset, .unset, .unset] [(.int (p1 &&& (255 : Int32)))])) _
        refine XS.istore X0.here hx rfl (hb hby at_39) rfl (l' := #[.val (.int p0), .val (.int p1), .val (.int p2), .val (.int (0 : Int32)), .val (.int (0 : Int32)), .val (.int (p1 &&& (255 : Int32))), .unset, .unset]) rfl ?_
        show Steps p.tables e below (s₁.setTop (mkF m 41 #[.val (.int p0), .val (.int p1), .val (.int p2), .val (.int (0 : Int32)), .val (.int (0 : Int32)), .val (.int (p1 &&& (255 : Int32))), .unset, .unset] [])) _
        refine XS.iloadN X0.here hx rfl (hb hby at_41) rfl ?_
        show Steps p.tables e below (s₁.setTop (mkF m 42 #[.val (.int p0), .val (.int p1), .val (.int p2), .val (.int (0 : Int32)), .val (.int (0 : Int32)), .val (.int (p1 &&& (255 : Int32))), .unset, .unset] [(.int (0 : Int32))])) _
        refine XS.ifYes X0.here hx rfl (pc0 := 42) (pc' := 51) rfl (hb hby at_42) rfl ((if0 _ _).trans (teq (by decide : ((0 : Int32) = (0 : Int32)))).1) (by decide) (by decide) ?_
        show Steps p.tables e below (s₁.setTop (mkF m 51 #[.val (.int p0), .val (.int p1), .val (.int p2), .val (.int (0 : Int32)), .val (.int (0 : Int32)), .val (.int (p1 &&& (255 : Int32))), .unset, .unset] [])) _
        refine st80 _ ?_
        show Steps p.tables e below (T80.setTop (mkF m 54 #[.val (.int p0), .val (.int p1), .val (.int p2), .val (.int (0 : Int32)), .val (.int (0 : Int32)), .val (.int (p1 &&& (255 : Int32))), .unset, .unset] [(.ref w_2)])) _
        refine XS.astore X80.here hx rfl (hb hby at_54) rfl rfl (l' := #[.val (.int p0), .val (.int p1), .val (.int p2), .val (.int (0 : Int32)), .val (.int (0 : Int32)), .val (.int (p1 &&& (255 : Int32))), .val (.ref w_2), .unset]) rfl ?_
        show Steps p.tables e below (T80.setTop (mkF m 56 #[.val (.int p0), .val (.int p1), .val (.int p2), .val (.int (0 : Int32)), .val (.int (0 : Int32)), .val (.int (p1 &&& (255 : Int32))), .val (.ref w_2), .unset] [])) _
        refine XS.iloadN X80.here hx rfl (hb hby at_56) rfl ?_
        show Steps p.tables e below (T80.setTop (mkF m 57 #[.val (.int p0), .val (.int p1), .val (.int p2), .val (.int (0 : Int32)), .val (.int (0 : Int32)), .val (.int (p1 &&& (255 : Int32))), .val (.ref w_2), .unset] [(.int (0 : Int32))])) _
        refine XS.ifYes X80.here hx rfl (pc0 := 57) (pc' := 68) rfl (hb hby at_57) rfl ((if0 _ _).trans (teq (by decide : ((0 : Int32) = (0 : Int32)))).1) (by decide) (by decide) ?_
        show Steps p.tables e below (T80.setTop (mkF m 68 #[.val (.int p0), .val (.int p1), .val (.int p2), .val (.int (0 : Int32)), .val (.int (0 : Int32)), .val (.int (p1 &&& (255 : Int32))), .val (.ref w_2), .unset] [])) _
        refine XS.iload X80.here hx rfl (hb hby at_68) rfl ?_
        show Steps p.tables e below (T80.setTop (mkF m 70 #[.val (.int p0), .val (.int p1), .val (.int p2), .val (.int (0 : Int32)), .val (.int (0 : Int32)), .val (.int (p1 &&& (255 : Int32))), .val (.ref w_2), .unset] [(.int (p1 &&& (255 : Int32)))])) _
        refine st97 _ ?_
        show Steps p.tables e below (T97.setTop (mkF m 73 #[.val (.int p0), .val (.int p1), .val (.int p2), .val (.int (0 : Int32)), .val (.int (0 : Int32)), .val (.int (p1 &&& (255 : Int32))), .val (.ref w_2), .unset] [(.int (sp4 (p1 &&& (255 : Int32))))])) _
        refine XS.istore X97.here hx rfl (hb hby at_73) rfl (l' := #[.val (.int p0), .val (.int p1), .val (.int p2), .val (.int (0 : Int32)), .val (.int (0 : Int32)), .val (.int (p1 &&& (255 : Int32))), .val (.ref w_2), .val (.int (sp4 (p1 &&& (255 : Int32))))]) rfl ?_
        show Steps p.tables e below (T97.setTop (mkF m 75 #[.val (.int p0), .val (.int p1), .val (.int p2), .val (.int (0 : Int32)), .val (.int (0 : Int32)), .val (.int (p1 &&& (255 : Int32))), .val (.ref w_2), .val (.int (sp4 (p1 &&& (255 : Int32))))] [])) _
        refine XS.aload X97.here hx rfl (hb hby at_75) rfl rfl ?_
        show Steps p.tables e below (T97.setTop (mkF m 77 #[.val (.int p0), .val (.int p1), .val (.int p2), .val (.int (0 : Int32)), .val (.int (0 : Int32)), .val (.int (p1 &&& (255 : Int32))), .val (.ref w_2), .val (.int (sp4 (p1 &&& (255 : Int32))))] [(.ref w_2)])) _
        refine XS.iload X97.here hx rfl (hb hby at_77) rfl ?_
        show Steps p.tables e below (T97.setTop (mkF m 79 #[.val (.int p0), .val (.int p1), .val (.int p2), .val (.int (0 : Int32)), .val (.int (0 : Int32)), .val (.int (p1 &&& (255 : Int32))), .val (.ref w_2), .val (.int (sp4 (p1 &&& (255 : Int32))))] [(.int (p1 &&& (255 : Int32))), (.ref w_2)])) _
        refine st98.trans ?_
        show Steps p.tables e below (T98.setTop (mkF m 82 #[.val (.int p0), .val (.int p1), .val (.int p2), .val (.int (0 : Int32)), .val (.int (0 : Int32)), .val (.int (p1 &&& (255 : Int32))), .val (.ref w_2), .val (.int (sp4 (p1 &&& (255 : Int32))))] [(.int (sp2 (p1 &&& (255 : Int32)) (65 : Int32) (66 : Int32) (32 : Int32) (15 : Int32) (52 : Int32)))])) _
        refine XS.iload X98.here hx rfl (hb hby at_82) rfl ?_
        show Steps p.tables e below (T98.setTop (mkF m 84 #[.val (.int p0), .val (.int p1), .val (.int p2), .val (.int (0 : Int32)), .val (.int (0 : Int32)), .val (.int (p1 &&& (255 : Int32))), .val (.ref w_2), .val (.int (sp4 (p1 &&& (255 : Int32))))] [(.int (sp4 (p1 &&& (255 : Int32)))), (.int (sp2 (p1 &&& (255 : Int32)) (65 : Int32) (66 : Int32) (32 : Int32) (15 : Int32) (52 : Int32)))])) _
        exact kt
      by_cases hc100 : (sp2 (p1 &&& (255 : Int32)) (65 : Int32) (66 : Int32) (32 : Int32) (15 : Int32) (52 : Int32)) = (sp4 (p1 &&& (255 : Int32)))
      · obtain ⟨fs, hr, hrun, hended, hW, hsame⟩ := X98.leave (v := some (.int (1 : Int32))) (fun h => by rw [Bd.returns] at h; cases h)
        refine ⟨_, _, pre99 _ ?_, hrun, hended, _, _, rfl, ?_, ⟨_, rfl⟩, hW, hsame.mono (by decide) (by decide)⟩
        · show Steps p.tables e below (T98.setTop (mkF m 84 #[.val (.int p0), .val (.int p1), .val (.int p2), .val (.int (0 : Int32)), .val (.int (0 : Int32)), .val (.int (p1 &&& (255 : Int32))), .val (.ref w_2), .val (.int (sp4 (p1 &&& (255 : Int32))))] [(.int (sp4 (p1 &&& (255 : Int32)))), (.int (sp2 (p1 &&& (255 : Int32)) (65 : Int32) (66 : Int32) (32 : Int32) (15 : Int32) (52 : Int32)))])) _
          refine XS.icmpNo X98.here hx rfl (hb hby at_84) rfl (teq hc100).2 ?_
          show Steps p.tables e below (T98.setTop (mkF m 87 #[.val (.int p0), .val (.int p1), .val (.int p2), .val (.int (0 : Int32)), .val (.int (0 : Int32)), .val (.int (p1 &&& (255 : Int32))), .val (.ref w_2), .val (.int (sp4 (p1 &&& (255 : Int32))))] [])) _
          refine XS.iconst X98.here hx rfl (hb hby at_87) ?_
          show Steps p.tables e below (T98.setTop (mkF m 88 #[.val (.int p0), .val (.int p1), .val (.int p2), .val (.int (0 : Int32)), .val (.int (0 : Int32)), .val (.int (p1 &&& (255 : Int32))), .val (.ref w_2), .val (.int (sp4 (p1 &&& (255 : Int32))))] [(.int (1 : Int32))])) _
          refine XS.goto X98.here hx rfl (pc0 := 88) (pc' := 92) rfl (hb hby at_88) (by decide) (by decide) ?_
          show Steps p.tables e below (T98.setTop (mkF m 92 #[.val (.int p0), .val (.int p1), .val (.int p2), .val (.int (0 : Int32)), .val (.int (0 : Int32)), .val (.int (p1 &&& (255 : Int32))), .val (.ref w_2), .val (.int (sp4 (p1 &&& (255 : Int32))))] [(.int (1 : Int32))])) _
          exact retN X98 hx (t := .boolean) Bd.returns (by simp) (hb hby at_92) hr
        · show Q0 Z w_1 w_2 p0 p1 p2 h0 n0 _ T98.heap _
          rw [e98]
          exact ⟨by unfold sp0; rw [if_neg hc24, if_pos hc79, if_pos hc100], N98, rfl⟩
      · obtain ⟨fs, hr, hrun, hended, hW, hsame⟩ := X98.leave (v := some (.int (0 : Int32))) (fun h => by rw [Bd.returns] at h; cases h)
        refine ⟨_, _, pre99 _ ?_, hrun, hended, _, _, rfl, ?_, ⟨_, rfl⟩, hW, hsame.mono (by decide) (by decide)⟩
        · show Steps p.tables e below (T98.setTop (mkF m 84 #[.val (.int p0), .val (.int p1), .val (.int p2), .val (.int (0 : Int32)), .val (.int (0 : Int32)), .val (.int (p1 &&& (255 : Int32))), .val (.ref w_2), .val (.int (sp4 (p1 &&& (255 : Int32))))] [(.int (sp4 (p1 &&& (255 : Int32)))), (.int (sp2 (p1 &&& (255 : Int32)) (65 : Int32) (66 : Int32) (32 : Int32) (15 : Int32) (52 : Int32)))])) _
          refine XS.icmpYes X98.here hx rfl (pc0 := 84) (pc' := 91) rfl (hb hby at_84) rfl (feq hc100).2 (by decide) (by decide) ?_
          show Steps p.tables e below (T98.setTop (mkF m 91 #[.val (.int p0), .val (.int p1), .val (.int p2), .val (.int (0 : Int32)), .val (.int (0 : Int32)), .val (.int (p1 &&& (255 : Int32))), .val (.ref w_2), .val (.int (sp4 (p1 &&& (255 : Int32))))] [])) _
          refine XS.iconst X98.here hx rfl (hb hby at_91) ?_
          show Steps p.tables e below (T98.setTop (mkF m 92 #[.val (.int p0), .val (.int p1), .val (.int p2), .val (.int (0 : Int32)), .val (.int (0 : Int32)), .val (.int (p1 &&& (255 : Int32))), .val (.ref w_2), .val (.int (sp4 (p1 &&& (255 : Int32))))] [(.int (0 : Int32))])) _
          exact retN X98 hx (t := .boolean) Bd.returns (by simp) (hb hby at_92) hr
        · show Q0 Z w_1 w_2 p0 p1 p2 h0 n0 _ T98.heap _
          rw [e98]
          exact ⟨by unfold sp0; rw [if_neg hc24, if_pos hc79, if_neg hc100], N98, rfl⟩
    · obtain ⟨T101, X101, e101, st101⟩ := getS2 X0 hx hZ hown (host := "") (Or.inl (hw _ (tk 25 rfl))) Via.refl e0 (S_2.ext O0.2) (g := (mkF m 51 #[.val (.int p0), .val (.int p1), .val (.int p2), .val (.int (0 : Int32)), .val (.int (1 : Int32)), .val (.int p1), .unset, .unset] [])) rfl (hb hby at_51)
      obtain ⟨_, _, ⟨T102, L102, k102, n102⟩, -, X102, ⟨Lc102, hQ102, l102, y102, z102⟩, st102⟩ := Jvm.LawKit.callS X101 hx (y := Y4) hown (mvT hZ (hw _ (tk 27 rfl))) (mvT hZ (hw _ (tk 28 rfl))) (mvT hZ (hw _ (tk 5 rfl))) (mvT hZ (hw _ (tk 29 rfl))) (by decide) (backOf (W := 0) (rm4 l Z a0 hw [] w_1 w_2 hS0 p1 h0 n0 O0) hZ (hw _ (tk 29 rfl)) (hw _ (tk 5 rfl)) (by decide) (by decide)) (g := (mkF m 70 #[.val (.int p0), .val (.int p1), .val (.int p2), .val (.int (0 : Int32)), .val (.int (1 : Int32)), .val (.int p1), .val (.ref w_2), .unset] [(.int p1)])) rfl (by rw [hml]; rfl) (argsL := [(.int p1)]) (rest := []) (lenOf pd_0 rfl) rfl (by show 2 * 0 + _ ≤ _; exact Nat.le_of_eq rfl) (hb hby at_70) (fun _ _ => ⟨rfl, e101, (by decide : 0 + 0 ≤ _), (by decide : 0 + 0 ≤ _)⟩)
      dsimp only [Pt.U, Pt.locs, Pt.cells, Pt.slots] at X102 l102 y102 z102 st102 hQ102
      subst l102 y102 z102
      obtain ⟨rv102, N102q, e102⟩ := hQ102
      subst rv102
      have N102 := Fr.app N0 N102q
      obtain ⟨cq103, kq103, q103a, q103b, q103c⟩ := isOf hZ e102 (E_2.ext O0.2)
      obtain ⟨_, _, ⟨T103, L103, k103, n103⟩, -, X103, ⟨Lc103, hQ103, l103, y103, z103⟩, st103⟩ := X102.virtualBack hx (y := Y3) (z := Y3) hown (mvT hZ (hw _ (tk 7 rfl))) (mvT hZ (hw _ (tk 8 rfl))) (notFace_of_selects (args := #[]) (mvT hZ (hw _ (tk 10 rfl)))) (mvT hZ (hw _ (tk 10 rfl))) (mvT hZ (hw _ (tk 9 rfl))) (by decide) (backOf (W := 0) (rm2 l Z a0 hw [] w_1 w_2 hS0 w_2 p1 (65 : Int32) (66 : Int32) (32 : Int32) (15 : Int32) (52 : Int32) h0 n0 O0 (F_2_more.ext O0.2) (F_2_last.ext O0.2) (F_2_compact.ext O0.2) (F_2_compactMax.ext O0.2) (E_2.ext O0.2) (F_2_medium.ext O0.2)) hZ (hw _ (tk 11 rfl)) (hw _ (tk 1 rfl)) (by decide) (by decide)) q103a q103c (g := (mkF m 79 #[.val (.int p0), .val (.int p1), .val (.int p2), .val (.int (0 : Int32)), .val (.int (1 : Int32)), .val (.int p1), .val (.ref w_2), .val (.int (sp4 p1))] [(.int p1), (.ref w_2)])) rfl (by rw [hml]; rfl) (Steps.refl _) (argsL := [(.int p1)]) (rest := []) (lenOf pd_0 rfl) rfl (by show 2 * 0 + _ ≤ _; exact Nat.le_of_eq rfl) (hb hby at_79) (fun _ _ => ⟨rfl, e102, (by decide : 0 + 0 ≤ _), (by decide : 0 + 0 ≤ _)⟩)
      dsimp only [Pt.U, Pt.locs, Pt.cells, Pt.slots] at X103 l103 y103 z103 st103 hQ103
      subst l103 y103 z103
      obtain ⟨rv103, N103q, e103⟩ := hQ103
      subst rv103
      have N103 := Fr.app N102 N103q
      have pre104 : ∀ t, Steps p.tables e below (T103.setTop (mkF m 84 #[.val (.int p0), .val (.int p1), .val (.int p2), .val (.int (0 : Int32)), .val (.int (1 : Int32)), .val (.int p1), .val (.ref w_2), .val (.int (sp4 p1))] [(.int (sp4 p1)), (.int (sp2 p1 (65 : Int32) (66 : Int32) (32 : Int32) (15 : Int32) (52 : Int32)))])) t → Steps p.tables e below (s₁.setTop (entryFrame m #[(.int p0), (.int p1), (.int p2)] maxLocals)) t := fun t kt => by
        refine pre78 t ?_
        show Steps p.tables e below (s₁.setTop (mkF m 15 #[.val (.int p0), .val (.int p1), .val (.int p2), .val (.int (0 : Int32)), .unset, .unset, .unset, .unset] [(.int (p2 &&& (1 : Int32)))])) _
        refine XS.ifNo X0.here hx rfl (hb hby at_15) rfl ((if0 _ _).trans (feq hc79).1) ?_
        show Steps p.tables e below (s₁.setTop (mkF m 18 #[.val (.int p0), .val (.int p1), .val (.int p2), .val (.int (0 : Int32)), .unset, .unset, .unset, .unset] [])) _
        refine XS.iconst X0.here hx rfl (hb hby at_18) ?_
        show Steps p.tables e below (s₁.setTop (mkF m 19 #[.val (.int p0), .val (.int p1), .val (.int p2), .val (.int (0 : Int32)), .unset, .unset, .unset, .unset] [(.int (1 : Int32))])) _
        refine XS.goto X0.here hx rfl (pc0 := 19) (pc' := 23) rfl (hb hby at_19) (by decide) (by decide) ?_
        show Steps p.tables e below (s₁.setTop (mkF m 23 #[.val (.int p0), .val (.int p1), .val (.int p2), .val (.int (0 : Int32)), .unset, .unset, .unset, .unset] [(.int (1 : Int32))])) _
        refine XS.istore X0.here hx rfl (hb hby at_23) rfl (l' := #[.val (.int p0), .val (.int p1), .val (.int p2), .val (.int (0 : Int32)), .val (.int (1 : Int32)), .unset, .unset, .unset]) rfl ?_
        show Steps p.tables e below (s₁.setTop (mkF m 25 #[.val (.int p0), .val (.int p1), .val (.int p2), .val (.int (0 : Int32)), .val (.int (1 : Int32)), .unset, .unset, .unset] [])) _
        refine XS.iload X0.here hx rfl (hb hby at_25) rfl ?_
        show Steps p.tables e below (s₁.setTop (mkF m 27 #[.val (.int p0), .val (.int p1), .val (.int p2), .val (.int (0 : Int32)), .val (.int (1 : Int32)), .unset, .unset, .unset] [(.int (1 : Int32))])) _
        refine XS.ifNo X0.here hx rfl (hb hby at_27) rfl ((if0 _ _).trans (feq (by decide : ¬ ((1 : Int32) = (0 : Int32)))).1) ?_
        show Steps p.tables e below (s₁.setTop (mkF m 30 #[.val (.int p0), .val (.int p1), .val (.int p2), .val (.int (0 : Int32)), .val (.int (1 : Int32)), .unset, .unset, .unset] [])) _
        refine XS.iloadN X0.here hx rfl (hb hby at_30) rfl ?_
        show Steps p.tables e below (s₁.setTop (mkF m 31 #[.val (.int p0), .val (.int p1), .val (.int p2), .val (.int (0 : Int32)), .val (.int (1 : Int32)), .unset, .unset, .unset] [(.int p1)])) _
        refine XS.goto X0.here hx rfl (pc0 := 31) (pc' := 39) rfl (hb hby at_31) (by decide) (by decide) ?_
        show Steps p.tables e below (s₁.setTop (mkF m 39 #[.val (.int p0), .val (.int p1), .val (.int p2), .val (.int (0 : Int32)), .val (.int (1 : Int32)), .unset, .unset, .unset] [(.int p1)])) _
        refine XS.istore X0.here hx rfl (hb hby at_39) rfl (l' := #[.val (.int p0), .val (.int p1), .val (.int p2), .val (.int (0 : Int32)), .val (.int (1 : Int32)), .val (.int p1), .unset, .unset]) rfl ?_
        show Steps p.tables e below (s₁.setTop (mkF m 41 #[.val (.int p0), .val (.int p1), .val (.int p2), .val (.int (0 : Int32)), .val (.int (1 : Int32)), .val (.int p1), .unset, .unset] [])) _
        refine XS.iloadN X0.here hx rfl (hb hby at_41) rfl ?_
        show Steps p.tables e below (s₁.setTop (mkF m 42 #[.val (.int p0), .val (.int p1), .val (.int p2), .val (.int (0 : Int32)), .val (.int (1 : Int32)), .val (.int p1), .unset, .unset] [(.int (0 : Int32))])) _
        refine XS.ifYes X0.here hx rfl (pc0 := 42) (pc' := 51) rfl (hb hby at_42) rfl ((if0 _ _).trans (teq (by decide : ((0 : Int32) = (0 : Int32)))).1) (by decide) (by decide) ?_
        show Steps p.tables e below (s₁.setTop (mkF m 51 #[.val (.int p0), .val (.int p1), .val (.int p2), .val (.int (0 : Int32)), .val (.int (1 : Int32)), .val (.int p1), .unset, .unset] [])) _
        refine st101 _ ?_
        show Steps p.tables e below (T101.setTop (mkF m 54 #[.val (.int p0), .val (.int p1), .val (.int p2), .val (.int (0 : Int32)), .val (.int (1 : Int32)), .val (.int p1), .unset, .unset] [(.ref w_2)])) _
        refine XS.astore X101.here hx rfl (hb hby at_54) rfl rfl (l' := #[.val (.int p0), .val (.int p1), .val (.int p2), .val (.int (0 : Int32)), .val (.int (1 : Int32)), .val (.int p1), .val (.ref w_2), .unset]) rfl ?_
        show Steps p.tables e below (T101.setTop (mkF m 56 #[.val (.int p0), .val (.int p1), .val (.int p2), .val (.int (0 : Int32)), .val (.int (1 : Int32)), .val (.int p1), .val (.ref w_2), .unset] [])) _
        refine XS.iloadN X101.here hx rfl (hb hby at_56) rfl ?_
        show Steps p.tables e below (T101.setTop (mkF m 57 #[.val (.int p0), .val (.int p1), .val (.int p2), .val (.int (0 : Int32)), .val (.int (1 : Int32)), .val (.int p1), .val (.ref w_2), .unset] [(.int (0 : Int32))])) _
        refine XS.ifYes X101.here hx rfl (pc0 := 57) (pc' := 68) rfl (hb hby at_57) rfl ((if0 _ _).trans (teq (by decide : ((0 : Int32) = (0 : Int32)))).1) (by decide) (by decide) ?_
        show Steps p.tables e below (T101.setTop (mkF m 68 #[.val (.int p0), .val (.int p1), .val (.int p2), .val (.int (0 : Int32)), .val (.int (1 : Int32)), .val (.int p1), .val (.ref w_2), .unset] [])) _
        refine XS.iload X101.here hx rfl (hb hby at_68) rfl ?_
        show Steps p.tables e below (T101.setTop (mkF m 70 #[.val (.int p0), .val (.int p1), .val (.int p2), .val (.int (0 : Int32)), .val (.int (1 : Int32)), .val (.int p1), .val (.ref w_2), .unset] [(.int p1)])) _
        refine st102 _ ?_
        show Steps p.tables e below (T102.setTop (mkF m 73 #[.val (.int p0), .val (.int p1), .val (.int p2), .val (.int (0 : Int32)), .val (.int (1 : Int32)), .val (.int p1), .val (.ref w_2), .unset] [(.int (sp4 p1))])) _
        refine XS.istore X102.here hx rfl (hb hby at_73) rfl (l' := #[.val (.int p0), .val (.int p1), .val (.int p2), .val (.int (0 : Int32)), .val (.int (1 : Int32)), .val (.int p1), .val (.ref w_2), .val (.int (sp4 p1))]) rfl ?_
        show Steps p.tables e below (T102.setTop (mkF m 75 #[.val (.int p0), .val (.int p1), .val (.int p2), .val (.int (0 : Int32)), .val (.int (1 : Int32)), .val (.int p1), .val (.ref w_2), .val (.int (sp4 p1))] [])) _
        refine XS.aload X102.here hx rfl (hb hby at_75) rfl rfl ?_
        show Steps p.tables e below (T102.setTop (mkF m 77 #[.val (.int p0), .val (.int p1), .val (.int p2), .val (.int (0 : Int32)), .val (.int (1 : Int32)), .val (.int p1), .val (.ref w_2), .val (.int (sp4 p1))] [(.ref w_2)])) _
        refine XS.iload X102.here hx rfl (hb hby at_77) rfl ?_
        show Steps p.tables e below (T102.setTop (mkF m 79 #[.val (.int p0), .val (.int p1), .val (.int p2), .val (.int (0 : Int32)), .val (.int (1 : Int32)), .val (.int p1), .val (.ref w_2), .val (.int (sp4 p1))] [(.int p1), (.ref w_2)])) _
        refine st103.trans ?_
        show Steps p.tables e below (T103.setTop (mkF m 82 #[.val (.int p0), .val (.int p1), .val (.int p2), .val (.int (0 : Int32)), .val (.int (1 : Int32)), .val (.int p1), .val (.ref w_2), .val (.int (sp4 p1))] [(.int (sp2 p1 (65 : Int32) (66 : Int32) (32 : Int32) (15 : Int32) (52 : Int32)))])) _
        refine XS.iload X103.here hx rfl (hb hby at_82) rfl ?_
        show Steps p.tables e below (T103.setTop (mkF m 84 #[.val (.int p0), .val (.int p1), .val (.int p2), .val (.int (0 : Int32)), .val (.int (1 : Int32)), .val (.int p1), .val (.ref w_2), .val (.int (sp4 p1))] [(.int (sp4 p1)), (.int (sp2 p1 (65 : Int32) (66 : Int32) (32 : Int32) (15 : Int32) (52 : Int32)))])) _
        exact kt
      by_cases hc105 : (sp2 p1 (65 : Int32) (66 : Int32) (32 : Int32) (15 : Int32) (52 : Int32)) = (sp4 p1)
      · obtain ⟨fs, hr, hrun, hended, hW, hsame⟩ := X103.leave (v := some (.int (1 : Int32))) (fun h => by rw [Bd.returns] at h; cases h)
        refine ⟨_, _, pre104 _ ?_, hrun, hended, _, _, rfl, ?_, ⟨_, rfl⟩, hW, hsame.mono (by decide) (by decide)⟩
        · show Steps p.tables e below (T103.setTop (mkF m 84 #[.val (.int p0), .val (.int p1), .val (.int p2), .val (.int (0 : Int32)), .val (.int (1 : Int32)), .val (.int p1), .val (.ref w_2), .val (.int (sp4 p1))] [(.int (sp4 p1)), (.int (sp2 p1 (65 : Int32) (66 : Int32) (32 : Int32) (15 : Int32) (52 : Int32)))])) _
          refine XS.icmpNo X103.here hx rfl (hb hby at_84) rfl (teq hc105).2 ?_
          show Steps p.tables e below (T103.setTop (mkF m 87 #[.val (.int p0), .val (.int p1), .val (.int p2), .val (.int (0 : Int32)), .val (.int (1 : Int32)), .val (.int p1), .val (.ref w_2), .val (.int (sp4 p1))] [])) _
          refine XS.iconst X103.here hx rfl (hb hby at_87) ?_
          show Steps p.tables e below (T103.setTop (mkF m 88 #[.val (.int p0), .val (.int p1), .val (.int p2), .val (.int (0 : Int32)), .val (.int (1 : Int32)), .val (.int p1), .val (.ref w_2), .val (.int (sp4 p1))] [(.int (1 : Int32))])) _
          refine XS.goto X103.here hx rfl (pc0 := 88) (pc' := 92) rfl (hb hby at_88) (by decide) (by decide) ?_
          show Steps p.tables e below (T103.setTop (mkF m 92 #[.val (.int p0), .val (.int p1), .val (.int p2), .val (.int (0 : Int32)), .val (.int (1 : Int32)), .val (.int p1), .val (.ref w_2), .val (.int (sp4 p1))] [(.int (1 : Int32))])) _
          exact retN X103 hx (t := .boolean) Bd.returns (by simp) (hb hby at_92) hr
        · show Q0 Z w_1 w_2 p0 p1 p2 h0 n0 _ T103.heap _
          rw [e103]
          exact ⟨by unfold sp0; rw [if_neg hc24, if_neg hc79, if_pos hc105], N103, rfl⟩
      · obtain ⟨fs, hr, hrun, hended, hW, hsame⟩ := X103.leave (v := some (.int (0 : Int32))) (fun h => by rw [Bd.returns] at h; cases h)
        refine ⟨_, _, pre104 _ ?_, hrun, hended, _, _, rfl, ?_, ⟨_, rfl⟩, hW, hsame.mono (by decide) (by decide)⟩
        · show Steps p.tables e below (T103.setTop (mkF m 84 #[.val (.int p0), .val (.int p1), .val (.int p2), .val (.int (0 : Int32)), .val (.int (1 : Int32)), .val (.int p1), .val (.ref w_2), .val (.int (sp4 p1))] [(.int (sp4 p1)), (.int (sp2 p1 (65 : Int32) (66 : Int32) (32 : Int32) (15 : Int32) (52 : Int32)))])) _
          refine XS.icmpYes X103.here hx rfl (pc0 := 84) (pc' := 91) rfl (hb hby at_84) rfl (feq hc105).2 (by decide) (by decide) ?_
          show Steps p.tables e below (T103.setTop (mkF m 91 #[.val (.int p0), .val (.int p1), .val (.int p2), .val (.int (0 : Int32)), .val (.int (1 : Int32)), .val (.int p1), .val (.ref w_2), .val (.int (sp4 p1))] [])) _
          refine XS.iconst X103.here hx rfl (hb hby at_91) ?_
          show Steps p.tables e below (T103.setTop (mkF m 92 #[.val (.int p0), .val (.int p1), .val (.int p2), .val (.int (0 : Int32)), .val (.int (1 : Int32)), .val (.int p1), .val (.ref w_2), .val (.int (sp4 p1))] [(.int (0 : Int32))])) _
          exact retN X103 hx (t := .boolean) Bd.returns (by simp) (hb hby at_92) hr
        · show Q0 Z w_1 w_2 p0 p1 p2 h0 n0 _ T103.heap _
          rw [e103]
          exact ⟨by unfold sp0; rw [if_neg hc24, if_neg hc79, if_neg hc105], N103, rfl⟩
theorem own_str (x : Int32) : sp2 x 82 83 0 31 48 = sp1 x := by
  have a1 : (0 : Int32) + 31 = 31 := by decide
  have a2 : (48 : Int32) + 3 = 51 := by decide
  have z1 : ¬ ((1 : Int32) = 0) := by decide
  unfold sp2 sp1 sp3 sp5
  rw [a1, a2]
  by_cases h1 : x = 82
  · simp [h1]
  by_cases h2 : x = 83
  · simp [h1, h2]
  by_cases h3 : x < 0 <;> by_cases h4 : 31 < x <;> by_cases h5 : x < 48 <;> by_cases h6 : 51 < x <;> simp [h1, h2, h3, h4, h5, h6]
theorem own_bin (x : Int32) : sp2 x 65 66 32 15 52 = sp4 x := by
  have a1 : (32 : Int32) + 15 = 47 := by decide
  have a2 : (52 : Int32) + 3 = 55 := by decide
  unfold sp2 sp4 sp3 sp5
  rw [a1, a2]
  by_cases h1 : x = 65
  · simp [h1]
  by_cases h2 : x = 66
  · simp [h1, h2]
  by_cases h3 : x < 32 <;> by_cases h4 : 47 < x <;> by_cases h5 : x < 52 <;> by_cases h6 : 55 < x <;> simp [h1, h2, h3, h4, h5, h6]
theorem own_plain (p0 : Int32) (p1 : Int32) (p2 : Int32) : sp0 p0 p1 p2 = (1 : Int32) := by
  unfold sp0
  simp only [own_str, own_bin, if_true]
  repeat' split
  all_goals rfl
set_option maxRecDepth 65536 in
set_option maxHeartbeats 40000000 in
theorem comes_1 {Post : Tables → Env → Array Value → State → Outcome → State → Prop} (hpost : ∀ tb e args s v u, (limb_1_1.after args s (.returned v) u = true ∧ limb_1_2.after args s (.returned v) u = true ∧ True) → FrameEnd s (.returned v) u (Jvm.fieldLocs frame_1_writes args s ++ Jvm.arrayLocs frame_1_arrays args s ++ Jvm.staticLocs frame_1_statics s) 0 0 → Post tb e args s (.returned v) u) :
    ArmFor flags0 classFile x code maxLocals ret World_1 tables_1 room_1 Calls_1 rest_1 Pre_1 Post := by
  intro l hfl _ _ p e ha hc hk s m args below hf hA hF happ hP
  obtain ⟨hcalls, hrest, hpre⟩ := hP
  obtain ⟨-, -, -, hnamed, -, -, -, hat⟩ := (Spec.applies_iff hf).mp happ
  obtain ⟨hg, hn⟩ := and_e (Cond.before_iff.mp (show (Jvm.Cond.and given_1 narrow_1).before args s = true from hpre))
  obtain ⟨g106, g107⟩ := and_e hg
  obtain ⟨g108, g109⟩ := and_e g107
  obtain ⟨g110, g111⟩ := and_e g109
  obtain ⟨w0, w1, w2, rfl⟩ : ∃ w0 w1 w2 : Value, args = #[w0, w1, w2] := by
    have hs : args.size = 3 := by simpa [Cond.value, given_1] using g106
    obtain ⟨L⟩ := args
    match L, hs with
    | [w0, w1, w2], _ => exact ⟨w0, w1, w2, rfl⟩
  have hw := fun d (hd : d ∈ tables_1) => atoms_spec (ws := Jvm.Cond.code x code maxLocals ret :: tables_1) hat d (List.mem_cons_of_mem _ hd)
  have hfit : Fit s := fun {y c} hc i hi => by
    obtain ⟨ha, rfl⟩ := Array.getElem?_eq_some_iff.mp hc
    have q := List.all_eq_true.mp ((Array.all_eq_true_iff_forall_mem.mp hF) _ (Array.getElem_mem ha)) i (List.mem_range.mpr hi)
    simpa [Array.getElem?_eq_getElem hi] using q
  obtain ⟨i0, ei0⟩ := is_v g108
  obtain rfl : w0 = (.int i0) := Option.some.inj ei0
  obtain ⟨i1, ei1⟩ := is_v g110
  obtain rfl : w1 = (.int i1) := Option.some.inj ei1
  obtain ⟨i2, ei2⟩ := is_v g111
  obtain rfl : w2 = (.int i2) := Option.some.inj ei2
  obtain ⟨n1, n2⟩ := and_e hn
  obtain ⟨n3, n4⟩ := and_e n2
  obtain ⟨n5, n6⟩ := and_e n4
  obtain ⟨n7, n8⟩ := and_e n6
  obtain ⟨n9, n10⟩ := and_e n8
  obtain ⟨n11, n12⟩ := and_e n10
  obtain ⟨n13, n14⟩ := and_e n12
  obtain ⟨n15, n16⟩ := and_e n14
  obtain ⟨n17, n18⟩ := and_e n16
  obtain ⟨n19, n20⟩ := and_e n18
  obtain ⟨n21, n22⟩ := and_e n20
  obtain ⟨w_1, ew_1⟩ := exa_v n1
  have S_1 : Sta s s.heap "com/example/waystone/waystone/hessian/ChunkCodes" "STRING" "Lcom/example/waystone/waystone/hessian/ChunkCodes;" (.ref w_1) := Sta.start ew_1 (Or.inr ⟨(hw _ (tk 1 rfl)), (hw _ (tk 2 rfl))⟩)
  have E_1 : Exa s s.heap w_1 "com/example/waystone/waystone/hessian/ChunkCodes" := Exa.start ew_1 n1
  obtain ⟨w_2, ew_2⟩ := exa_v n11
  have S_2 : Sta s s.heap "com/example/waystone/waystone/hessian/ChunkCodes" "BINARY" "Lcom/example/waystone/waystone/hessian/ChunkCodes;" (.ref w_2) := Sta.start ew_2 (Or.inr ⟨(hw _ (tk 1 rfl)), (hw _ (tk 26 rfl))⟩)
  have E_2 : Exa s s.heap w_2 "com/example/waystone/waystone/hessian/ChunkCodes" := Exa.start ew_2 n11
  have F_1_more : Fld s s.heap w_1 "com/example/waystone/waystone/hessian/ChunkCodes" "more" "I" (.int (82 : Int32)) := own_fld ew_1 n3
  have F_1_last : Fld s s.heap w_1 "com/example/waystone/waystone/hessian/ChunkCodes" "last" "I" (.int (83 : Int32)) := own_fld ew_1 n5
  have F_1_compact : Fld s s.heap w_1 "com/example/waystone/waystone/hessian/ChunkCodes" "compact" "I" (.int (0 : Int32)) := own_fld ew_1 n7
  have F_1_compactMax : Fld s s.heap w_1 "com/example/waystone/waystone/hessian/ChunkCodes" "compactMax" "I" (.int (31 : Int32)) := own_fld ew_1 n9
  have F_2_more : Fld s s.heap w_2 "com/example/waystone/waystone/hessian/ChunkCodes" "more" "I" (.int (65 : Int32)) := own_fld ew_2 n13
  have F_2_last : Fld s s.heap w_2 "com/example/waystone/waystone/hessian/ChunkCodes" "last" "I" (.int (66 : Int32)) := own_fld ew_2 n15
  have F_2_compact : Fld s s.heap w_2 "com/example/waystone/waystone/hessian/ChunkCodes" "compact" "I" (.int (32 : Int32)) := own_fld ew_2 n17
  have F_2_medium : Fld s s.heap w_2 "com/example/waystone/waystone/hessian/ChunkCodes" "medium" "I" (.int (52 : Int32)) := own_fld ew_2 n19
  have F_1_medium : Fld s s.heap w_1 "com/example/waystone/waystone/hessian/ChunkCodes" "medium" "I" (.int (48 : Int32)) := own_fld ew_1 n21
  have F_2_compactMax : Fld s s.heap w_2 "com/example/waystone/waystone/hessian/ChunkCodes" "compactMax" "I" (.int (15 : Int32)) := own_fld ew_2 n22
  have hS : StF s w_1 w_2 := ⟨S_1, E_1, S_2, E_2, F_1_more, F_1_last, F_1_compact, F_1_compactMax, F_2_more, F_2_last, F_2_compact, F_2_medium, F_1_medium, F_2_compactMax⟩
  obtain ⟨n, o, h1, h2, h3, _, L, rfl, ⟨hv, N, -⟩, hq⟩ := rm0 l s _ hw tables_1 w_1 w_2 hS i0 i1 i2 s.heap s.heap.size (Old.start s) p e ha hc hk s m _ below hf ((Spec.applies_iff_loose hf).mp happ).1 ⟨rfl, State.Warmed39.refl s, rfl⟩ trivial
  rw [own_plain i0 i1 i2] at hv
  subst hv
  refine ⟨n, _, h1, h2, h3, hpost _ _ _ _ _ _ ⟨Cond.after_iff.mpr rfl, Cond.after_iff.mpr (eq_i res_at (Term.int_eval (1)) rfl), trivial⟩ ⟨hq.1, hq.2.1, (hq.2.2.sift fun y hy => Or.inr (N y hy)).mono (by decide) (by decide)⟩⟩
theorem main_1_1 : Claimed_1_1 := comes_1 fun _ _ _ _ _ _ h hF => ⟨h.1, hF⟩
theorem main_1_2 : Claimed_1_2 := comes_1 fun _ _ _ _ _ _ h hF => ⟨h.2.1, hF⟩
end Jvm.Pilot.@@N@@
namespace Jvm.Pilot.@@N@@
open Jvm Jvm.ClassFile Sem Op Lib Jvm.Free Jvm.Stand Jvm.Pilot.@@N@@.Jvm.D
/-! MADE BY PROGRAM (witnessworld.py) out of the Statement's table words and the real class files: 12 classes; the members and pool entries that the words name. The judged class is class 1, her method 3. -/
namespace start1
open Jvm.ClassFile
def u (s : String) : CpInfo := .utf8 (stringToUtf16 s)
/-- a pool by its gaps: so many unusable entries, then the entry; so many at the end -/
def gap : Nat → List CpInfo → List CpInfo
  | 0, r => r
  | n + 1, r => .unusable :: gap n r
def poolList (es : List (Nat × CpInfo)) (last : Nat) : List CpInfo := es.foldr (fun e r => gap e.1 (e.2 :: r)) (gap last [])
def pool (es : List (Nat × CpInfo)) (last : Nat) : Array CpInfo := ⟨poolList es last⟩
def fileOf (pool : Array CpInfo) (this : Nat) (attrs : Array Attribute := #[]) (ms : Array MethodInfo := #[]) (fl : Nat := 33) (sup : Nat := 0) (ifs : Array Nat := #[]) (fds : Array FieldInfo := #[]) : ClassFile where
  minorVersion := 0
  majorVersion := 65
  constantPool := pool
  accessFlags := fl
  thisClass := this
  superClass := sup
  interfaces := ifs
  fields := fds
  methods := ms
  attributes := attrs
def plain (name : String) (sup : Option ClassId) : Class where
  name := name
  kind := .ordinary
  loader := none
  accessFlags := 33
  super := sup
  interfaces := #[]
  cf := none
  fields := #[]
  methods := #[]
  instanceTypes := #[]
  staticTypes := #[]
  resolved := #[]
  callSites := []
  init := .initialized
  statics := none
  mirror := none

def pool0 : Array CpInfo := pool [(5, u "<init>"), (0, u "()V"), (1, .class_ 10), (1, u "java/lang/Object")] 113

def k0m0 : Method := { name := "<init>", desc := "()V", sig := { parameters := [], returnType := none }, accessFlags := 1, code := none }
/-- java/lang/Object -/
def k0 : Class := { plain "java/lang/Object" none with
  accessFlags := 33
  interfaces := #[]
  cf := some (fileOf pool0 8 #[] #[{ accessFlags := 1, nameIndex := 5, descriptorIndex := 6, attributes := #[] }] 33 0 #[] #[])
  fields := #[]
  methods := #[k0m0]
  instanceTypes := #[]
  staticTypes := #[]
  resolved := Array.replicate 124 none
  statics := none }

def pool1 : Array CpInfo := pool [(2, .class_ 4), (1, u "java/lang/Object"), (0, u "<init>"), (0, u "()V"), (0, .fieldref 8 9), (0, .class_ 10), (0, .nameAndType 11 12), (0, u "com/example/waystone/waystone/hessian/ChunkCodes"), (0, u "STRING"), (0, u "Lcom/example/waystone/waystone/hessian/ChunkCodes;"), (0, .fieldref 8 14), (0, .nameAndType 15 12), (0, u "BINARY"), (0, .methodref 17 18), (0, .class_ 19), (0, .nameAndType 20 21), (0, u "com/example/waystone/waystone/hessian/ChunkCodesStartsPinLaw"), (0, u "expectedString"), (0, u "(I)Z"), (0, .methodref 17 23), (0, .nameAndType 24 21), (0, u "expectedBinary"), (0, .methodref 8 26), (0, .nameAndType 27 21), (0, u "starts"), (3, u "law"), (0, u "(III)Z")] 2

def k1m0 : Method := { name := "<init>", desc := "()V", sig := { parameters := [], returnType := none }, accessFlags := 2, code := none }
def k1c1 : Code := { maxStack := 2, maxLocals := 1, code := method_2_code, exceptionTable := #[], attributes := #[] }
def k1m1 : Method := { name := "expectedString", desc := "(I)Z", sig := { parameters := [.int], returnType := some .boolean }, accessFlags := 10, code := some k1c1 }
def k1c2 : Code := { maxStack := 2, maxLocals := 1, code := method_3_code, exceptionTable := #[], attributes := #[] }
def k1m2 : Method := { name := "expectedBinary", desc := "(I)Z", sig := { parameters := [.int], returnType := some .boolean }, accessFlags := 10, code := some k1c2 }
def k1c3 : Code := { maxStack := 2, maxLocals := 8, code := code, exceptionTable := #[], attributes := #[] }
def k1m3 : Method := { name := "law", desc := "(III)Z", sig := { parameters := [.int, .int, .int], returnType := some .boolean }, accessFlags := 9, code := some k1c3 }
/-- com/example/waystone/waystone/hessian/ChunkCodesStartsPinLaw -/
def k1 : Class := { plain "com/example/waystone/waystone/hessian/ChunkCodesStartsPinLaw" (some 0) with
  accessFlags := 49
  interfaces := #[]
  cf := some (fileOf pool1 17 #[] #[{ accessFlags := 2, nameIndex := 5, descriptorIndex := 6, attributes := #[] }, { accessFlags := 10, nameIndex := 20, descriptorIndex := 21, attributes := #[] }, { accessFlags := 10, nameIndex := 24, descriptorIndex := 21, attributes := #[] }, { accessFlags := 9, nameIndex := 31, descriptorIndex := 32, attributes := #[] }] 49 2 #[] #[])
  fields := #[]
  methods := #[k1m0, k1m1, k1m2, k1m3]
  instanceTypes := #[]
  staticTypes := #[]
  resolved := Array.replicate 35 none
  statics := none }

def pool2 : Array CpInfo := pool [(1, .class_ 2), (0, u "java/lang/constant/Constable"), (0, .class_ 4), (0, u "java/lang/Object")] 6

/-- java/lang/constant/Constable -/
def k2 : Class := { plain "java/lang/constant/Constable" (some 0) with
  accessFlags := 1537
  interfaces := #[]
  cf := some (fileOf pool2 1 #[] #[] 1537 3 #[] #[])
  fields := #[]
  methods := #[]
  instanceTypes := #[]
  staticTypes := #[]
  resolved := Array.replicate 11 none
  statics := none }

def pool3 : Array CpInfo := pool [(1, .class_ 2), (0, u "java/lang/Comparable"), (0, .class_ 4), (0, u "java/lang/Object")] 7

/-- java/lang/Comparable -/
def k3 : Class := { plain "java/lang/Comparable" (some 0) with
  accessFlags := 1537
  interfaces := #[]
  cf := some (fileOf pool3 1 #[] #[] 1537 3 #[] #[])
  fields := #[]
  methods := #[]
  instanceTypes := #[]
  staticTypes := #[]
  resolved := Array.replicate 12 none
  statics := none }

def pool4 : Array CpInfo := pool [(1, .class_ 2), (0, u "java/io/Serializable"), (0, .class_ 4), (0, u "java/lang/Object")] 2

/-- java/io/Serializable -/
def k4 : Class := { plain "java/io/Serializable" (some 0) with
  accessFlags := 1537
  interfaces := #[]
  cf := some (fileOf pool4 1 #[] #[] 1537 3 #[] #[])
  fields := #[]
  methods := #[]
  instanceTypes := #[]
  staticTypes := #[]
  resolved := Array.replicate 7 none
  statics := none }

def pool5 : Array CpInfo := pool [(2, .class_ 4), (1, u "java/lang/Enum"), (0, u "name"), (0, u "Ljava/lang/String;"), (2, u "ordinal"), (0, u "I"), (1, .class_ 14), (1, u "java/lang/Object"), (4, u "hash"), (86, .class_ 108), (1, u "java/lang/Enum$EnumDesc"), (2, .class_ 112), (0, u "java/lang/constant/Constable"), (0, .class_ 114), (0, u "java/lang/Comparable"), (0, .class_ 116), (0, u "java/io/Serializable")] 87

/-- java/lang/Enum -/
def k5 : Class := { plain "java/lang/Enum" (some 0) with
  accessFlags := 1057
  interfaces := #[2, 3, 4]
  cf := some (fileOf pool5 2 #[.nestMembers #[106]] #[] 1057 12 #[111, 113, 115] #[{ accessFlags := 18, nameIndex := 5, descriptorIndex := 6, attributes := #[] }, { accessFlags := 18, nameIndex := 9, descriptorIndex := 10, attributes := #[] }, { accessFlags := 2, nameIndex := 19, descriptorIndex := 10, attributes := #[] }])
  fields := #[{ name := "name", type := (.object "java/lang/String"), accessFlags := 18, slot := 0, constantValue := 0 }, { name := "ordinal", type := .int, accessFlags := 18, slot := 1, constantValue := 0 }, { name := "hash", type := .int, accessFlags := 2, slot := 2, constantValue := 0 }]
  methods := #[]
  instanceTypes := #[(.object "java/lang/String"), .int, .int]
  staticTypes := #[]
  resolved := Array.replicate 204 none
  statics := none }

def pool6 : Array CpInfo := pool [(1, .class_ 2), (0, u "com/example/waystone/waystone/hessian/ChunkCodes"), (2, u "STRING"), (0, u "Lcom/example/waystone/waystone/hessian/ChunkCodes;"), (2, u "BINARY"), (2, u "$VALUES"), (0, u "[Lcom/example/waystone/waystone/hessian/ChunkCodes;"), (6, .class_ 22), (1, u "java/lang/Enum"), (6, .fieldref 1 30), (0, .nameAndType 31 32), (0, u "more"), (0, u "I"), (0, .fieldref 1 34), (0, .nameAndType 35 32), (0, u "last"), (0, .fieldref 1 37), (0, .nameAndType 38 32), (0, u "compact"), (0, .fieldref 1 40), (0, .nameAndType 41 32), (0, u "compactMax"), (0, .fieldref 1 43), (0, .nameAndType 44 32), (0, u "medium"), (0, .methodref 1 46), (0, .nameAndType 47 48), (0, u "isCompact"), (0, u "(I)Z"), (0, .methodref 1 50), (0, .nameAndType 51 48), (0, u "isMedium"), (9, u "MEDIUM_MAX"), (10, u "starts")] 5

def k6c0 : Code := { maxStack := 3, maxLocals := 2, code := prog_16_method_4_code, exceptionTable := #[], attributes := #[] }
def k6m0 : Method := { name := "isCompact", desc := "(I)Z", sig := { parameters := [.int], returnType := some .boolean }, accessFlags := 0, code := some k6c0 }
def k6c1 : Code := { maxStack := 3, maxLocals := 2, code := prog_16_method_5_code, exceptionTable := #[], attributes := #[] }
def k6m1 : Method := { name := "isMedium", desc := "(I)Z", sig := { parameters := [.int], returnType := some .boolean }, accessFlags := 0, code := some k6c1 }
def k6c2 : Code := { maxStack := 2, maxLocals := 2, code := prog_16_method_6_code, exceptionTable := #[], attributes := #[] }
def k6m2 : Method := { name := "starts", desc := "(I)Z", sig := { parameters := [.int], returnType := some .boolean }, accessFlags := 0, code := some k6c2 }
/-- com/example/waystone/waystone/hessian/ChunkCodes -/
def k6 : Class := { plain "com/example/waystone/waystone/hessian/ChunkCodes" (some 5) with
  accessFlags := 16432
  interfaces := #[]
  cf := some (fileOf pool6 1 #[] #[{ accessFlags := 0, nameIndex := 47, descriptorIndex := 48, attributes := #[] }, { accessFlags := 0, nameIndex := 51, descriptorIndex := 48, attributes := #[] }, { accessFlags := 0, nameIndex := 72, descriptorIndex := 48, attributes := #[] }] 16432 20 #[] #[{ accessFlags := 16409, nameIndex := 5, descriptorIndex := 6, attributes := #[] }, { accessFlags := 16409, nameIndex := 9, descriptorIndex := 6, attributes := #[] }, { accessFlags := 24, nameIndex := 61, descriptorIndex := 32, attributes := #[] }, { accessFlags := 16, nameIndex := 31, descriptorIndex := 32, attributes := #[] }, { accessFlags := 16, nameIndex := 35, descriptorIndex := 32, attributes := #[] }, { accessFlags := 16, nameIndex := 38, descriptorIndex := 32, attributes := #[] }, { accessFlags := 16, nameIndex := 41, descriptorIndex := 32, attributes := #[] }, { accessFlags := 16, nameIndex := 44, descriptorIndex := 32, attributes := #[] }, { accessFlags := 4122, nameIndex := 12, descriptorIndex := 13, attributes := #[] }])
  fields := #[{ name := "STRING", type := (.object "com/example/waystone/waystone/hessian/ChunkCodes"), accessFlags := 16409, slot := 0, constantValue := 0 }, { name := "BINARY", type := (.object "com/example/waystone/waystone/hessian/ChunkCodes"), accessFlags := 16409, slot := 1, constantValue := 0 }, { name := "MEDIUM_MAX", type := .int, accessFlags := 24, slot := 2, constantValue := 0 }, { name := "more", type := .int, accessFlags := 16, slot := 3, constantValue := 0 }, { name := "last", type := .int, accessFlags := 16, slot := 4, constantValue := 0 }, { name := "compact", type := .int, accessFlags := 16, slot := 5, constantValue := 0 }, { name := "compactMax", type := .int, accessFlags := 16, slot := 6, constantValue := 0 }, { name := "medium", type := .int, accessFlags := 16, slot := 7, constantValue := 0 }, { name := "$VALUES", type := (.array (.object "com/example/waystone/waystone/hessian/ChunkCodes")), accessFlags := 4122, slot := 3, constantValue := 0 }]
  methods := #[k6m0, k6m1, k6m2]
  instanceTypes := #[(.object "java/lang/String"), .int, .int, .int, .int, .int, .int, .int]
  staticTypes := #[(.object "com/example/waystone/waystone/hessian/ChunkCodes"), (.object "com/example/waystone/waystone/hessian/ChunkCodes"), .int, (.array (.object "com/example/waystone/waystone/hessian/ChunkCodes"))]
  resolved := Array.replicate 78 none
  statics := some 0 }

def pool7 : Array CpInfo := pool [(1, u "java/lang/Cloneable"), (0, .class_ 1), (0, u "java/lang/Object"), (0, .class_ 3)] 3

/-- java/lang/Cloneable -/
def k7 : Class := { plain "java/lang/Cloneable" (some 0) with
  accessFlags := 1537
  interfaces := #[]
  cf := some (fileOf pool7 2 #[] #[] 1537 4 #[] #[])
  fields := #[]
  methods := #[]
  instanceTypes := #[]
  staticTypes := #[]
  resolved := Array.replicate 8 none
  statics := none }

/-- the primitive byte -/
def k8 : Class := { plain "byte" none with kind := .primitive 'B', accessFlags := 0x411 }
/-- [B -/
def k9 : Class := { plain "[B" (some 0) with kind := .array 8 .byte, interfaces := #[7, 4], accessFlags := 1041 }

/-- the primitive int -/
def k10 : Class := { plain "int" none with kind := .primitive 'I', accessFlags := 0x411 }
/-- [I -/
def k11 : Class := { plain "[I" (some 0) with kind := .array 10 .int, interfaces := #[7, 4], accessFlags := 1041 }

def heap : Heap := #[{ cls := 6, slots := #[.ref 1, .ref 2, .int 0, .null], vm := .statics 6 },
  { cls := 6, slots := #[.null, .int 0, .int 0, .int 82, .int 83, .int 0, .int 31, .int 48], vm := .none },
  { cls := 6, slots := #[.null, .int 0, .int 0, .int 65, .int 66, .int 32, .int 15, .int 52], vm := .none }]
def classes : Array Class := #[k0, k1, k2, k3, k4, k5, k6, k7, k8, k9, k10, k11]
def interned : List (Array UInt16 × Addr) := []
def slotsUsed : Nat := 20
def theMethod : MethodId := ⟨1, 3⟩
def args0 : Array Value := #[.int 1, .int 2, .int 3]
def aboutOver (below : List Frame) : State where
  vm := { classes := classes, interned := interned.toArray }
  heap := heap
  slotsUsed := slotsUsed
  threads := #[{ frames := .invoking theMethod args0 :: below }]
def below0 : List Frame := [.native { method := ⟨0, 0⟩, args := #[] }]
def about1 : State := aboutOver below0
def p0 : Program := .bare "" "" ""
def e0 : Env := launch0.env 0 0 0
theorem w_frames : about1.frames = Frame.invoking theMethod args0 :: below0 := rfl
set_option maxRecDepth 65536 in
theorem w_args : argsFit about1.vm theMethod args0 = true := by decide +kernel
set_option maxRecDepth 65536 in
theorem w_heap : heapFits about1 = true := by decide +kernel
set_option maxRecDepth 65536 in
theorem w_runnable : about1.curStatus? = some .runnable := by decide +kernel
set_option maxRecDepth 65536 in
theorem w_alone : about1.alone = true := by decide +kernel
set_option maxRecDepth 65536 in
theorem w_named : about1.methodNamed? x = some theMethod := by decide +kernel
set_option maxRecDepth 65536 in
theorem w_hears : about1.hears theMethod below0 = true := by decide +kernel
set_option maxRecDepth 65536 in
theorem w_ripe : about1.ripe theMethod args0 below0 = true := by decide +kernel
theorem w_running : about1.status = .running := rfl
set_option maxRecDepth 65536 in
theorem w_room : about1.hasRoom e0.platform room_1 = true :=
  launch0.hasRoom_least _ room_1 (by decide +kernel) (by decide +kernel) (by decide +kernel) (by decide +kernel) (by decide +kernel) (by decide +kernel)
theorem allAtoms_all (ts : List Jvm.Cond) (a : Array Jvm.Value) (st : Jvm.State) : (allAtoms ts).before a st = ts.all (fun c => c.before a st) := by
  induction ts with
  | nil => rfl
  | cons c t ih =>
    show (Jvm.Cond.and c (allAtoms t)).before a st = _
    rw [Jvm.Cond.before_and, ih, List.all_cons]
def words1 : List Jvm.Cond := Jvm.Cond.code x code maxLocals ret :: tables_1
/-- a 'code' word, met by the world's own term for the bytes: nothing is compared byte by byte -/
theorem code_word {y : MethodName} {bytes : ByteArray} {mx : Nat} {rt : Option FieldType} {a : Array Value} {s : State} {m : MethodId} {meth : Method} {c : Code} (h1 : s.methodNamed? y = some m) (h2 : s.vm.method? m = some meth) (h3 : meth.code = some c) (h4 : c.code = bytes)
    (h5 : (c.maxLocals == mx && c.exceptionTable.isEmpty && decide (c.maxStack ≤ mostOperands) && decide (meth.sig.returnType = rt) && !meth.locks && decide (parseMethodDescriptor y.desc = some meth.sig)) = true) : (Jvm.Cond.code y bytes mx rt).before a s = true := by
  simp only [Bool.and_eq_true, beq_iff_eq, Bool.not_eq_true', decide_eq_true_eq] at h5
  obtain ⟨⟨⟨⟨⟨g1, g2⟩, g3⟩, g4⟩, g5⟩, g6⟩ := h5
  simp [Cond.before, Cond.holds, Cond.value, h1, h2, h3, h4, g1, g2, g3, g4, g5, g6]
def isCode : Jvm.Cond → Bool
  | .code _ _ _ _ => true
  | _ => false
theorem all_split {L : List Jvm.Cond} {P : Jvm.Cond → Bool} (h1 : L.all (fun c => isCode c || P c) = true) (h2 : ∀ c ∈ L.filter isCode, P c = true) : L.all P = true := by
  refine List.all_eq_true.mpr fun c hc => ?_
  have h := List.all_eq_true.mp h1 c hc
  rcases Bool.eq_false_or_eq_true (isCode c) with hi | hi
  · exact h2 c (List.mem_filter.mpr ⟨hc, hi⟩)
  · simpa [hi] using h
set_option maxRecDepth 65536 in
theorem w_c0 : (Jvm.Cond.code x code maxLocals ret).before args0 about1 = true := code_word (m := ⟨1, 3⟩) (meth := k1m3) (c := k1c3) (by decide +kernel) rfl rfl rfl (by decide +kernel)
set_option maxRecDepth 65536 in
theorem w_c1 : (Jvm.Cond.code ({ cls := "com/example/waystone/waystone/hessian/ChunkCodesStartsPinLaw", name := "expectedString", desc := "(I)Z" } : Jvm.MethodName) method_2_code (1 : Nat) (Option.some Jvm.ClassFile.FieldType.boolean)).before args0 about1 = true := code_word (m := ⟨1, 1⟩) (meth := k1m1) (c := k1c1) (by decide +kernel) rfl rfl rfl (by decide +kernel)
set_option maxRecDepth 65536 in
theorem w_c2 : (Jvm.Cond.code ({ cls := "com/example/waystone/waystone/hessian/ChunkCodes", name := "starts", desc := "(I)Z" } : Jvm.MethodName) prog_16_method_6_code (2 : Nat) (Option.some Jvm.ClassFile.FieldType.boolean)).before args0 about1 = true := code_word (m := ⟨6, 2⟩) (meth := k6m2) (c := k6c2) (by decide +kernel) rfl rfl rfl (by decide +kernel)
set_option maxRecDepth 65536 in
theorem w_c3 : (Jvm.Cond.code ({ cls := "com/example/waystone/waystone/hessian/ChunkCodes", name := "isCompact", desc := "(I)Z" } : Jvm.MethodName) prog_16_method_4_code (2 : Nat) (Option.some Jvm.ClassFile.FieldType.boolean)).before args0 about1 = true := code_word (m := ⟨6, 0⟩) (meth := k6m0) (c := k6c0) (by decide +kernel) rfl rfl rfl (by decide +kernel)
set_option maxRecDepth 65536 in
theorem w_c4 : (Jvm.Cond.code ({ cls := "com/example/waystone/waystone/hessian/ChunkCodesStartsPinLaw", name := "expectedBinary", desc := "(I)Z" } : Jvm.MethodName) method_3_code (1 : Nat) (Option.some Jvm.ClassFile.FieldType.boolean)).before args0 about1 = true := code_word (m := ⟨1, 2⟩) (meth := k1m2) (c := k1c2) (by decide +kernel) rfl rfl rfl (by decide +kernel)
set_option maxRecDepth 65536 in
theorem w_c5 : (Jvm.Cond.code ({ cls := "com/example/waystone/waystone/hessian/ChunkCodes", name := "isMedium", desc := "(I)Z" } : Jvm.MethodName) prog_16_method_5_code (2 : Nat) (Option.some Jvm.ClassFile.FieldType.boolean)).before args0 about1 = true := code_word (m := ⟨6, 1⟩) (meth := k6m1) (c := k6c1) (by decide +kernel) rfl rfl rfl (by decide +kernel)
def codes1 : List Jvm.Cond := [Jvm.Cond.code x code maxLocals ret, Jvm.Cond.code ({ cls := "com/example/waystone/waystone/hessian/ChunkCodesStartsPinLaw", name := "expectedString", desc := "(I)Z" } : Jvm.MethodName) method_2_code (1 : Nat) (Option.some Jvm.ClassFile.FieldType.boolean), Jvm.Cond.code ({ cls := "com/example/waystone/waystone/hessian/ChunkCodes", name := "starts", desc := "(I)Z" } : Jvm.MethodName) prog_16_method_6_code (2 : Nat) (Option.some Jvm.ClassFile.FieldType.boolean), Jvm.Cond.code ({ cls := "com/example/waystone/waystone/hessian/ChunkCodes", name := "isCompact", desc := "(I)Z" } : Jvm.MethodName) prog_16_method_4_code (2 : Nat) (Option.some Jvm.ClassFile.FieldType.boolean), Jvm.Cond.code ({ cls := "com/example/waystone/waystone/hessian/ChunkCodesStartsPinLaw", name := "expectedBinary", desc := "(I)Z" } : Jvm.MethodName) method_3_code (1 : Nat) (Option.some Jvm.ClassFile.FieldType.boolean), Jvm.Cond.code ({ cls := "com/example/waystone/waystone/hessian/ChunkCodes", name := "isMedium", desc := "(I)Z" } : Jvm.MethodName) prog_16_method_5_code (2 : Nat) (Option.some Jvm.ClassFile.FieldType.boolean)]
set_option maxRecDepth 65536 in
theorem codes_eq : words1.filter isCode = codes1 := rfl
theorem w_codes : ∀ c ∈ words1.filter isCode, c.before args0 about1 = true := by
  rw [codes_eq]
  intro c hc
  simp only [codes1, List.mem_cons, List.not_mem_nil, or_false] at hc
  rcases hc with rfl | rfl | rfl | rfl | rfl | rfl
  · exact w_c0
  · exact w_c1
  · exact w_c2
  · exact w_c3
  · exact w_c4
  · exact w_c5
set_option maxRecDepth 65536 in
theorem w_t1 : (words1.take 24).all (fun c => isCode c || c.before args0 about1) = true := by decide +kernel
set_option maxRecDepth 65536 in
theorem w_t2 : (words1.drop 24).all (fun c => isCode c || c.before args0 about1) = true := by decide +kernel
theorem w_tables : (allAtoms (Jvm.Cond.code x code maxLocals ret :: tables_1)).before args0 about1 = true := by
  rw [allAtoms_all]
  show words1.all (fun c => c.before args0 about1) = true
  refine all_split ?_ w_codes
  rw [← List.take_append_drop 24 words1, List.all_append, w_t1, w_t2]
  rfl
set_option maxRecDepth 65536 in
theorem w_case : (Jvm.Cond.and given_1 narrow_1).before args0 about1 = true := by decide +kernel
theorem w_applies : (headSpec (Jvm.Cond.code x code maxLocals ret :: tables_1) room_1).applies x e0.platform about1 = true :=
  (Spec.applies_iff w_frames).mpr ⟨w_running, w_runnable, w_alone, w_named, w_hears, w_ripe, w_room, w_tables⟩
theorem atStart : AtStart classFile x code maxLocals ret World_1 tables_1 room_1 Calls_1 rest_1 Pre_1 launch0 p0 e0 about1 theMethod args0 below0 :=
  ⟨lists_1, trivial, launch0.admits_env _ _ _, launch0.least_env, fairChoices_fair.cas, fairChoices_fair.clock, w_frames, w_args, w_heap, w_applies, trivial, trivial, w_case⟩
end start1
theorem witness_1 : WitnessClaimed_1 := ⟨start1.p0, start1.e0, start1.about1, start1.theMethod, start1.args0, start1.below0, start1.atStart⟩
end Jvm.Pilot.@@N@@
