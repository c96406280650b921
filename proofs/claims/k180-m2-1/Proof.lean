import JvmDerived
import JvmDerived.Pilot.@@N@@Statement
import JvmDerived.Pilot.@@N@@Code
set_option linter.unusedVariables false
set_option linter.unusedSimpArgs false
namespace Jvm.RoadKit
open Sem ClassFile Op Lib Jvm.Stand Jvm.Free Jvm.LawKit
section New
variable {p : Program} {l : Launch} {e : Env} {R : Room} {s : State} {m : MethodId} {args : Array Value} {below : List Frame} {meth : Method} {c : Code} {T : State} {locs : List Loc} {cells slots : Nat}
theorem retI (X : Stand p l e R s m args below meth c T locs cells slots) (hx : p.tables.exec = Jvm.exec) {pc : Nat} {Ls : Array Slot} {z : Int32} {rest : List Value} (hret : meth.sig.returnType = some .int) (hd : decode c.code pc = .ok (.ireturn, 1)) {fs : List Frame}
    (hl : ∀ (f : JFrame) (acts : List Action), f.method = m → f.locked = none → f.entered = [] → (doReturn e (T.setTop f) acts (some (.int z))).1 = T.setFrames fs) : Steps p.tables e below (T.setTop (mkF m pc Ls (.int z :: rest))) (T.setFrames fs) := by
  have hm' : T.vm.method? m = some meth := X.method'
  have hn : narrow .int (.int z) = .int z := rfl
  show Steps p.tables e below (T.setTop { method := m, pc := pc, locals := Ls, stack := _ :: rest, locked := none }) _
  jvm_step X.here [X.here.top, hx, hd, hm', hret, hn]
  first | (intro acts; rw [hl _ acts rfl rfl rfl]) | rw [hl _ _ rfl rfl rfl]
  exact Steps.refl _
end New
end Jvm.RoadKit
namespace Jvm.Pilot.@@N@@
open Jvm Jvm.ClassFile Sem Op Lib Jvm.Free Jvm.Stand Jvm.LawKit Jvm.RoadKit Bundle Jvm.Pilot.@@N@@.Jvm.D
theorem tk {L : List Jvm.Cond} {d : Jvm.Cond} (i : Nat) (h : L[i]? = some d) : d ∈ L := List.mem_of_getElem? h
/-! own small facts: what the case says of a pinned static's field -/
theorem own_fld {args : Array Value} {s : State} {t : Term} {C n d : String} {w : Addr} {k : Int32} (ht : t.eval args s none [] s = some (.ref w)) (h : (Cond.eq (.field t C n d) (.int k)).value args s none s [] = some true) : Fld s s.heap w C n d (.int k) := by
  obtain ⟨x, y, hx, hy, -, kin⟩ := cmp_v (Or.inl h)
  obtain rfl : Value.int k = y := Option.some.inj hy
  obtain ⟨z, rfl⟩ := kin
  have e : z = k := by simpa [Cond.value, hx, hy] using h
  subst e
  exact Fld.start ((fld_at ht).symm.trans hx)
theorem own_fldN {args : Array Value} {s : State} {t : Term} {C n d : String} {w : Addr} (ht : t.eval args s none [] s = some (.ref w)) (h : (Cond.eq (.field t C n d) .null).value args s none s [] = some true) : Fld s s.heap w C n d .null :=
  Fld.start ((fld_at ht).symm.trans (null_v h))
theorem own_nsroot {Z : State} {a0 : Array Value} {O K : String} {n : Nat} (w : (Cond.noSuperclass O).before a0 Z = true) (wk : (Cond.instantiable K n).before a0 Z = true) (hn : O ≠ K) : NS Z O K := by
  obtain ⟨c, k, h1, h2, h3, -, -⟩ := Cond.noSuperclass_spec w
  obtain ⟨t, -, g1, -⟩ := Cond.instantiable_spec wk
  have ne := ids_ne h1 g1 hn
  refine ⟨c, t, h1, g1, fun fuel => ?_⟩
  cases fuel with
  | zero => rfl
  | succ f => simp [Vm.isSubclassAux, ne, h2, h3]
theorem own_nsno {Z : State} {a0 : Array Value} {C S K : String} {n : Nat} (w : (Cond.superclass C S).before a0 Z = true) (wk : (Cond.instantiable K n).before a0 Z = true) (ns : NS Z C K) (hn : C ≠ K) : ∃ c t, Z.vm.findClass C = some c ∧ Z.vm.findClass K = some t ∧ Z.vm.assignable c t = false := by
  obtain ⟨c, t, h0, g0, n3⟩ := ns
  obtain ⟨p, k, kp, h1, h2, h3, h4, h5, -, h7⟩ := Cond.superclass_spec h0 w
  obtain ⟨t', k', g1, g2, g3, g4, -⟩ := Cond.instantiable_spec wk
  cases g0.symm.trans g1
  have ne := ids_ne h0 g0 hn
  have g5 : k'.isInterface = false := (Bool.or_eq_false_iff.mp g4).1
  refine ⟨c, t, h0, g0, ?_⟩
  show Z.vm.assignableAux (255 + 1) c t = false
  simp [Vm.assignableAux, ne, h2, g2, h5, g3, g5, Vm.isSubclass, n3]
theorem own_nar {v : Value} {C : String} (h : v.isRef = true) : narrow (.object C) v = v := by rcases ref_cases h with rfl | ⟨a, rfl⟩ <;> rfl
theorem own_fit {v : Value} {C : String} (h : v.isRef = true) : fits (.object C) v = true := by rcases ref_cases h with rfl | ⟨a, rfl⟩ <;> rfl
theorem own_refof {v : Value} (h : v.isRef = true) (n : ¬ v = .null) : ∃ a, v = .ref a := (ref_cases h).elim (fun q => absurd q n) id
theorem own_sint {args : Array Value} {s : State} {t : Term} {k : Int32} (h : (Cond.eq t (.int k)).value args s none s [] = some true) : t.eval args s none [] s = some (.int k) := by
  obtain ⟨x, y, hx, hy, -, kin⟩ := cmp_v (Or.inl h)
  obtain rfl : Value.int k = y := Option.some.inj hy
  obtain ⟨z, rfl⟩ := kin
  have e : z = k := by simpa [Cond.value, hx, hy] using h
  subst e; exact hx
theorem own_snot {args : Array Value} {s : State} {t : Term} {k z : Int32} (ht : t.eval args s none [] s = some (.int z)) (h : (Cond.not (Cond.eq t (.int k))).value args s none s [] = some true) : ¬ z = k := by
  have := not_v h
  intro e
  subst e
  simp [Cond.value, ht, Term.eval] at this
theorem own_seq {args : Array Value} {s : State} {t u : Term} {a b : Addr} (ht : t.eval args s none [] s = some (.ref a)) (hu : u.eval args s none [] s = some (.ref b)) (h : (Cond.eq t u).value args s none s [] = some true) : b = a := by
  have e : a = b := by simpa [Cond.value, ht, hu] using h
  exact e.symm
theorem own_len {args : Array Value} {s : State} {t : Term} {a : Addr} {c : Cell} {ty : FieldType} {n : Int32} (ht : t.eval args s none [] s = some (.ref a)) (A : Arr s s.heap a c ty) (h : (Cond.eq (.length t) (.int n)).value args s none s [] = some true) : c.slots.size < 2 ^ 31 ∧ c.slots.size.toInt32 = n := by
  have e0 := own_sint h
  have hfin := A.fin (Vm.Alike.refl _)
  by_cases hl : c.slots.size < 2 ^ 31
  · rw [len_f ht hfin hl] at e0
    exact ⟨hl, Value.int.inj (Option.some.inj e0)⟩
  · exfalso
    simp [Term.eval, ht, hfin, hl] at e0
theorem own_elem {args : Array Value} {s : State} {t u : Term} {a w : Addr} {c : Cell} {i : Int32} (ht : t.eval args s none [] s = some (.ref a)) (hc : s.heap[a]? = some c) (hu : u.eval args s none [] s = some (.ref w)) (h : (Cond.eq (.elem t (.int i)) u).value args s none s [] = some true) : c.slots[i.toNatClampNeg]? = some (.ref w) := by
  obtain ⟨x, y, hx, hy, k1, k2⟩ := cmp_v (Or.inl h)
  obtain rfl : Value.ref w = y := Option.some.inj (hu.symm.trans hy)
  have e := gotT (eq_R hx hu k2.2 rfl) h
  rw [e] at hx
  exact (elem_in hx ht (Term.int_eval i) hc).2
theorem own_ldcF {p : Program} {l : Launch} {e : Env} {R : Room} {s : State} {m : MethodId} {args : Array Value} {below : List Frame} {meth : Method} {c : Code} {T : State} {locs : List Loc} {cells slots : Nat}
    (X : Stand p l e R s m args below meth c T locs cells slots) (hx : p.tables.exec = Jvm.exec) {own : String} {index : Nat} {b : UInt32} (hown : s.vm.findClass own = some m.cls) (w : (Cond.constantFloat own index b).before args s = true) {g : JFrame} (hg : g.method = m) (hd : decode c.code g.pc = .ok (.ldc index, 2)) :
    ∀ target, Steps p.tables e below (T.setTop { g with pc := g.pc + 2, stack := .float b :: g.stack }) target → Steps p.tables e below (T.setTop g) target := by
  obtain ⟨k, cf, h1, h2, h3⟩ := Cond.constantFloat_spec hown w
  exact X.ldcFloat hx h1 h2 h3 hg hd
theorem own_old {Z : State} {n0 : Nat} {h : Heap} (O : Old Z n0 h) : n0 ≤ h.size := O.1 ▸ O.2.1
theorem own_rand (x m : Int32) (n : Int) (h0 : 0 ≤ m.toInt) (h1 : m.toInt < n) : 0 ≤ (x &&& m).toInt ∧ (x &&& m).toInt < n := by
  have := c_and x m h0; omega
theorem own_rrem (x y : Int32) (n : Int) (h0 : 0 ≤ x.toInt) (hy : y.toInt = n) (hn : 0 < n) : 0 ≤ (x % y).toInt ∧ (x % y).toInt < n := by
  rw [(c_irem x y n hy).1 h0]; exact ⟨Int.emod_nonneg _ (by omega), Int.emod_lt_of_pos _ hn⟩
theorem own_rshr (x q : Int32) (k : Nat) (m : Int) {n : Int} (r : 0 ≤ x.toInt ∧ x.toInt < n) (hk : q.toBitVec.toNat % 32 = k) (hm : (n - 1) / ((2 ^ k : Nat) : Int) < m) : 0 ≤ (x >>> (q &&& 31)).toInt ∧ (x >>> (q &&& 31)).toInt < m := by
  rw [c_ishr x q k hk]
  have hp : (0 : Int) < ((2 ^ k : Nat) : Int) := by exact_mod_cast Nat.two_pow_pos k
  exact ⟨Int.ediv_nonneg r.1 (Int.le_of_lt hp), Int.lt_of_le_of_lt (Int.ediv_le_ediv hp (by omega)) hm⟩
theorem own_off {e c : Int32} {n : Int} (r : 0 ≤ e.toInt ∧ e.toInt < n) (h : decide (n ≤ c.toInt ∨ c.toInt < 0) = true) : ¬ e = c := fun z => by
  subst z
  have := of_decide_eq_true h
  omega
theorem own_below {e c : Int32} {n : Int} (r : 0 ≤ e.toInt ∧ e.toInt < n) (h : n ≤ c.toInt) : e < c := by rw [Int32.lt_iff_toInt_lt]; omega
theorem own_notbelow {e c : Int32} {n : Int} (r : 0 ≤ e.toInt ∧ e.toInt < n) (h : c.toInt ≤ 0) : ¬ e < c := by rw [Int32.lt_iff_toInt_lt]; omega
theorem own_notabove {e c : Int32} {n : Int} (r : 0 ≤ e.toInt ∧ e.toInt < n) (h : n - 1 ≤ c.toInt) : ¬ c < e := by rw [Int32.lt_iff_toInt_lt]; omega
theorem own_above {e c : Int32} {n : Int} (r : 0 ≤ e.toInt ∧ e.toInt < n) (h : c.toInt < 0) : c < e := by rw [Int32.lt_iff_toInt_lt]; omega
theorem own_lt {a b : Int32} {n : Int} (h : a < b) (e : b.toInt = n) : a.toInt < n := by rw [← e]; exact Int32.lt_iff_toInt_lt.mp h
theorem own_ne {a b : Int32} {n : Int} (h : ¬ a = b) (e : b.toInt = n) : a.toInt ≠ n := fun z => h (Int32.toInt_inj.mp (z.trans e.symm))
theorem own_eq {a b : Int32} {n : Int} (e : b.toInt = n) (h : a.toInt = n) : a = b := Int32.toInt_inj.mp (h.trans e.symm)
theorem d1_0 : decode method_2_code 0 = .ok (.iload_n 0, 1) := by decide +kernel
theorem d1_1 : decode method_2_code 1 = .ok (.iconst 3, 1) := by decide +kernel
theorem d1_2 : decode method_2_code 2 = .ok (.iand, 1) := by decide +kernel
theorem d1_3 : decode method_2_code 3 = .ok (.istore_n 1, 1) := by decide +kernel
theorem d1_4 : decode method_2_code 4 = .ok (.iload_n 1, 1) := by decide +kernel
theorem d1_5 : decode method_2_code 5 = .ok (.ifCond .ne 7, 3) := by decide +kernel
theorem d1_8 : decode method_2_code 8 = .ok (.getstatic 7, 3) := by decide +kernel
theorem d1_11 : decode method_2_code 11 = .ok (.areturn, 1) := by decide +kernel
theorem d1_12 : decode method_2_code 12 = .ok (.iload_n 1, 1) := by decide +kernel
theorem d1_13 : decode method_2_code 13 = .ok (.iconst 1, 1) := by decide +kernel
theorem d1_14 : decode method_2_code 14 = .ok (.if_icmp .ne 7, 3) := by decide +kernel
theorem d1_17 : decode method_2_code 17 = .ok (.getstatic 13, 3) := by decide +kernel
theorem d1_20 : decode method_2_code 20 = .ok (.areturn, 1) := by decide +kernel
theorem d1_21 : decode method_2_code 21 = .ok (.iload_n 1, 1) := by decide +kernel
theorem d1_22 : decode method_2_code 22 = .ok (.iconst 2, 1) := by decide +kernel
theorem d1_23 : decode method_2_code 23 = .ok (.if_icmp .ne 7, 3) := by decide +kernel
theorem d1_26 : decode method_2_code 26 = .ok (.getstatic 16, 3) := by decide +kernel
theorem d1_29 : decode method_2_code 29 = .ok (.areturn, 1) := by decide +kernel
theorem d1_30 : decode method_2_code 30 = .ok (.getstatic 19, 3) := by decide +kernel
theorem d1_33 : decode method_2_code 33 = .ok (.areturn, 1) := by decide +kernel
abbrev Y0 : MethodName := (⟨"com/example/lucid_locks/lucidlocks/locks/LockModeCoversPinLaw", "pick", "(I)Lcom/example/lucid_locks/lucidlocks/locks/LockMode;"⟩ : MethodName)
theorem pd_0 : parseMethodDescriptor "(I)Lcom/example/lucid_locks/lucidlocks/locks/LockMode;" = some ⟨[.int], some (.object "com/example/lucid_locks/lucidlocks/locks/LockMode")⟩ := by decide +kernel
theorem d2_0 : decode prog_17_method_7_code 0 = .ok (.getstatic 47, 3) := by decide +kernel
theorem d2_3 : decode prog_17_method_7_code 3 = .ok (.astore_n 2, 1) := by decide +kernel
theorem d2_4 : decode prog_17_method_7_code 4 = .ok (.aload_n 2, 1) := by decide +kernel
theorem d2_5 : decode prog_17_method_7_code 5 = .ok (.arraylength, 1) := by decide +kernel
theorem d2_6 : decode prog_17_method_7_code 6 = .ok (.istore_n 3, 1) := by decide +kernel
theorem d2_7 : decode prog_17_method_7_code 7 = .ok (.iconst 0, 1) := by decide +kernel
theorem d2_8 : decode prog_17_method_7_code 8 = .ok (.istore 4, 2) := by decide +kernel
theorem d2_10 : decode prog_17_method_7_code 10 = .ok (.iload 4, 2) := by decide +kernel
theorem d2_12 : decode prog_17_method_7_code 12 = .ok (.iload_n 3, 1) := by decide +kernel
theorem d2_13 : decode prog_17_method_7_code 13 = .ok (.if_icmp .ge 35, 3) := by decide +kernel
theorem d2_16 : decode prog_17_method_7_code 16 = .ok (.aload_n 2, 1) := by decide +kernel
theorem d2_17 : decode prog_17_method_7_code 17 = .ok (.iload 4, 2) := by decide +kernel
theorem d2_19 : decode prog_17_method_7_code 19 = .ok (.aaload, 1) := by decide +kernel
theorem d2_20 : decode prog_17_method_7_code 20 = .ok (.astore 5, 2) := by decide +kernel
theorem d2_22 : decode prog_17_method_7_code 22 = .ok (.aload_n 1, 1) := by decide +kernel
theorem d2_23 : decode prog_17_method_7_code 23 = .ok (.aload 5, 2) := by decide +kernel
theorem d2_25 : decode prog_17_method_7_code 25 = .ok (.invokevirtual 50, 3) := by decide +kernel
theorem d3_0 : decode prog_17_method_5_code 0 = .ok (.aload_n 0, 1) := by decide +kernel
theorem d3_1 : decode prog_17_method_5_code 1 = .ok (.aload_n 1, 1) := by decide +kernel
theorem d3_2 : decode prog_17_method_5_code 2 = .ok (.if_acmp .ne 10, 3) := by decide +kernel
theorem d3_5 : decode prog_17_method_5_code 5 = .ok (.aload_n 0, 1) := by decide +kernel
theorem d3_6 : decode prog_17_method_5_code 6 = .ok (.getfield 39, 3) := by decide +kernel
theorem d3_9 : decode prog_17_method_5_code 9 = .ok (.ifCond .ne 7, 3) := by decide +kernel
theorem d3_12 : decode prog_17_method_5_code 12 = .ok (.iconst 1, 1) := by decide +kernel
theorem d3_13 : decode prog_17_method_5_code 13 = .ok (.goto 4, 3) := by decide +kernel
theorem d3_17 : decode prog_17_method_5_code 17 = .ok (.ireturn, 1) := by decide +kernel
theorem d3_16 : decode prog_17_method_5_code 16 = .ok (.iconst 0, 1) := by decide +kernel
abbrev Y1 : MethodName := (⟨"com/example/lucid_locks/lucidlocks/locks/LockMode", "conflictsWith", "(Lcom/example/lucid_locks/lucidlocks/locks/LockMode;)Z"⟩ : MethodName)
theorem pd_1 : parseMethodDescriptor "(Lcom/example/lucid_locks/lucidlocks/locks/LockMode;)Z" = some ⟨[(.object "com/example/lucid_locks/lucidlocks/locks/LockMode")], some .boolean⟩ := by decide +kernel
theorem d2_28 : decode prog_17_method_7_code 28 = .ok (.ifCond .eq 14, 3) := by decide +kernel
theorem d2_42 : decode prog_17_method_7_code 42 = .ok (.iinc 4 1, 3) := by decide +kernel
theorem d2_45 : decode prog_17_method_7_code 45 = .ok (.goto (-35), 3) := by decide +kernel
theorem d2_31 : decode prog_17_method_7_code 31 = .ok (.aload_n 0, 1) := by decide +kernel
theorem d2_32 : decode prog_17_method_7_code 32 = .ok (.aload 5, 2) := by decide +kernel
theorem d2_34 : decode prog_17_method_7_code 34 = .ok (.invokevirtual 50, 3) := by decide +kernel
theorem d2_37 : decode prog_17_method_7_code 37 = .ok (.ifCond .ne 5, 3) := by decide +kernel
theorem d2_48 : decode prog_17_method_7_code 48 = .ok (.iconst 1, 1) := by decide +kernel
theorem d2_49 : decode prog_17_method_7_code 49 = .ok (.ireturn, 1) := by decide +kernel
abbrev Y2 : MethodName := (⟨"com/example/lucid_locks/lucidlocks/locks/LockMode", "covers", "(Lcom/example/lucid_locks/lucidlocks/locks/LockMode;)Z"⟩ : MethodName)
theorem d2_40 : decode prog_17_method_7_code 40 = .ok (.iconst 0, 1) := by decide +kernel
theorem d2_41 : decode prog_17_method_7_code 41 = .ok (.ireturn, 1) := by decide +kernel

def StF (Z : State) (w_1 : Addr) (w_2 : Addr) (w_3 : Addr) (w_4 : Addr) (w_5 : Addr) (k_4 : ClassId) : Prop :=
  Sta Z Z.heap "com/example/lucid_locks/lucidlocks/locks/LockMode" "READER_SHARED" "Lcom/example/lucid_locks/lucidlocks/locks/LockMode;" (.ref w_1) ∧
  Exa Z Z.heap w_1 "com/example/lucid_locks/lucidlocks/locks/LockMode" ∧
  Sta Z Z.heap "com/example/lucid_locks/lucidlocks/locks/LockMode" "WRITER_SHARED_TIMESTAMP" "Lcom/example/lucid_locks/lucidlocks/locks/LockMode;" (.ref w_2) ∧
  Exa Z Z.heap w_2 "com/example/lucid_locks/lucidlocks/locks/LockMode" ∧
  Sta Z Z.heap "com/example/lucid_locks/lucidlocks/locks/LockMode" "EXCLUSIVE" "Lcom/example/lucid_locks/lucidlocks/locks/LockMode;" (.ref w_3) ∧
  Exa Z Z.heap w_3 "com/example/lucid_locks/lucidlocks/locks/LockMode" ∧
  Sta Z Z.heap "com/example/lucid_locks/lucidlocks/locks/LockMode" "MODES" "[Lcom/example/lucid_locks/lucidlocks/locks/LockMode;" (.ref w_4) ∧
  Sta Z Z.heap "com/example/lucid_locks/lucidlocks/locks/LockMode" "WRITER_SHARED" "Lcom/example/lucid_locks/lucidlocks/locks/LockMode;" (.ref w_5) ∧
  Exa Z Z.heap w_5 "com/example/lucid_locks/lucidlocks/locks/LockMode" ∧
  Fld Z Z.heap w_1 "java/lang/Enum" "ordinal" "I" (.int (0 : Int32)) ∧
  Fld Z Z.heap w_3 "java/lang/Enum" "ordinal" "I" (.int (2 : Int32)) ∧
  Fld Z Z.heap w_2 "java/lang/Enum" "ordinal" "I" (.int (3 : Int32)) ∧
  Fld Z Z.heap w_1 "com/example/lucid_locks/lucidlocks/locks/LockMode" "sharedWithItself" "Z" (.int (1 : Int32)) ∧
  Fld Z Z.heap w_5 "java/lang/Enum" "ordinal" "I" (.int (1 : Int32)) ∧
  Fld Z Z.heap w_5 "com/example/lucid_locks/lucidlocks/locks/LockMode" "sharedWithItself" "Z" (.int (1 : Int32)) ∧
  Fld Z Z.heap w_3 "com/example/lucid_locks/lucidlocks/locks/LockMode" "sharedWithItself" "Z" (.int (0 : Int32)) ∧
  Fld Z Z.heap w_2 "com/example/lucid_locks/lucidlocks/locks/LockMode" "sharedWithItself" "Z" (.int (0 : Int32)) ∧
  Arv Z Z.heap w_4 k_4 (.object "com/example/lucid_locks/lucidlocks/locks/LockMode") (4 : Int32) [(.ref w_1), (.ref w_5), (.ref w_3), (.ref w_2)] .null
theorem pn_1 : plainName "com/example/lucid_locks/lucidlocks/locks/LockModeCoversPinLaw" = true := by first | (simp [plainName, overriddenIn]; done) | decide +kernel
theorem ef_1 (m : MethodId) (p0 : Int32) : entryFrame m #[(.int p0)] 2 = mkF m 0 #[.val (.int p0), .unset] [] := by first | (simp [entryFrame, mkF, argsToLocals, Value.category]; done) | rfl
def sp1 (w_1 : Addr) (w_2 : Addr) (w_3 : Addr) (w_5 : Addr) (p0 : Int32) : Value := (if (p0 &&& (3 : Int32)) = (0 : Int32) then (.ref w_1) else (if (p0 &&& (3 : Int32)) = (1 : Int32) then (.ref w_5) else (if (p0 &&& (3 : Int32)) = (2 : Int32) then (.ref w_3) else (.ref w_2))))
def Q1 (Z : State) (w_1 : Addr) (w_2 : Addr) (w_3 : Addr) (w_4 : Addr) (w_5 : Addr) (k_4 : ClassId) (p0 : Int32) (h0 : Heap) (n0 : Nat) (v : Option Value) (h : Heap) (L : List Loc) : Prop := v = some (sp1 w_1 w_2 w_3 w_5 p0) ∧ Fr n0 L ∧ h = h0
set_option maxRecDepth 65536 in
set_option maxHeartbeats 40000000 in
theorem rm1 (l : Launch) (Z : State) (a0 : Array Value) (hw : ∀ d ∈ tables_1, d.before a0 Z = true) (ws : List Jvm.Cond) (w_1 : Addr) (w_2 : Addr) (w_3 : Addr) (w_4 : Addr) (w_5 : Addr) (k_4 : ClassId) (hS : StF Z w_1 w_2 w_3 w_4 w_5 k_4) (p0 : Int32) (h0 : Heap) (n0 : Nat) (O0 : Old Z n0 h0) :
    MetFree l Y0 (head1 (Jvm.Cond.code Y0 method_2_code 2 (some (.object "com/example/lucid_locks/lucidlocks/locks/LockMode")) :: ws) ({ frames := 0, cells := 0, slots := 0, locals := 0 } : Room)) (fun a U => a = #[(.int p0)] ∧ Z.Warmed39 U.vm ∧ U.heap = h0) (fun _ _ _ _ _ => True) (fun _ U o U' => ∃ v L, o = .returned v ∧ Q1 Z w_1 w_2 w_3 w_4 w_5 k_4 p0 h0 n0 v U'.heap L ∧ FrameEnd U o U' L ({ frames := 0, cells := 0, slots := 0, locals := 0 } : Room).cells ({ frames := 0, cells := 0, slots := 0, locals := 0 } : Room).slots) := by
  refine MetFree.of_bodySF (plainFor_of_name pn_1) hisR ?_
  intro p e s m args below meth c s₁ Bd hml0 hP hK
  obtain ⟨rfl, hZ, hh⟩ := hP
  have hx := Bd.exec
  have hby := Bd.bytes
  have hml : c.maxLocals = 2 := hml0
  have hown : s.vm.findClass "com/example/lucid_locks/lucidlocks/locks/LockModeCoversPinLaw" = some m.cls := findClass_of_methodNamed Bd.named
  have hnm := (name_of_methodNamed Bd.named Bd.method).1
  have X0 : Stand p l e ({ frames := 0, cells := 0, slots := 0, locals := 0 } : Room) s m #[(.int p0)] below meth c s₁ [] 0 0 := Stand.of_body Bd
  have e0 : s₁.heap = h0 := by rw [← hh, Bd.state]; rfl
  have N0 := Fr.nil n0
  have hS0 := hS
  obtain ⟨S_1, E_1, S_2, E_2, S_3, E_3, S_4, S_5, E_5, F_1_ordinal, F_3_ordinal, F_2_ordinal, F_1_sharedWithItself, F_5_ordinal, F_5_sharedWithItself, F_3_sharedWithItself, F_2_sharedWithItself, V_4⟩ := hS
  have pre0 : ∀ t, Steps p.tables e below (s₁.setTop (mkF m 0 #[.val (.int p0), .unset] [])) t → Steps p.tables e below (s₁.setTop (entryFrame m #[(.int p0)] 2)) t := fun t k => castTop (ef_1 m p0) k
  have pre37 : ∀ t, Steps p.tables e below (s₁.setTop (mkF m 5 #[.val (.int p0), .val (.int (p0 &&& (3 : Int32)))] [(.int (p0 &&& (3 : Int32)))])) t → Steps p.tables e below (s₁.setTop (entryFrame m #[(.int p0)] 2)) t := fun t kt => by
    refine pre0 t ?_
    show Steps p.tables e below (s₁.setTop (mkF m 0 #[.val (.int p0), .unset] [])) _
    refine XS.iloadN X0.here hx rfl (hb hby d1_0) rfl ?_
    show Steps p.tables e below (s₁.setTop (mkF m 1 #[.val (.int p0), .unset] [(.int p0)])) _
    refine XS.iconst X0.here hx rfl (hb hby d1_1) ?_
    show Steps p.tables e below (s₁.setTop (mkF m 2 #[.val (.int p0), .unset] [(.int (3 : Int32)), (.int p0)])) _
    refine XS.iand X0.here hx rfl (hb hby d1_2) rfl ?_
    show Steps p.tables e below (s₁.setTop (mkF m 3 #[.val (.int p0), .unset] [(.int (p0 &&& (3 : Int32)))])) _
    refine XS.istoreN X0.here hx rfl (hb hby d1_3) rfl (l' := #[.val (.int p0), .val (.int (p0 &&& (3 : Int32)))]) rfl ?_
    show Steps p.tables e below (s₁.setTop (mkF m 4 #[.val (.int p0), .val (.int (p0 &&& (3 : Int32)))] [])) _
    refine XS.iloadN X0.here hx rfl (hb hby d1_4) rfl ?_
    show Steps p.tables e below (s₁.setTop (mkF m 5 #[.val (.int p0), .val (.int (p0 &&& (3 : Int32)))] [(.int (p0 &&& (3 : Int32)))])) _
    exact kt
  by_cases hc38 : (p0 &&& (3 : Int32)) = (0 : Int32)
  · obtain ⟨T39, X39, e39, st39⟩ := getS2 X0 hx hZ hown (host := "") (Or.inl (hw _ (tk 4 rfl))) Via.refl e0 (S_1.ext O0.2) (g := (mkF m 8 #[.val (.int p0), .val (.int (p0 &&& (3 : Int32)))] [])) rfl (hb hby d1_8)
    obtain ⟨fs, hr, hrun, hended, hW, hsame⟩ := X39.leave (v := some (.ref w_1)) (fun h => by rw [Bd.returns] at h; cases h)
    refine ⟨_, _, pre37 _ ?_, hrun, hended, _, _, rfl, ?_, ⟨_, rfl⟩, hW, hsame.mono (by decide) (by decide)⟩
    · show Steps p.tables e below (s₁.setTop (mkF m 5 #[.val (.int p0), .val (.int (p0 &&& (3 : Int32)))] [(.int (p0 &&& (3 : Int32)))])) _
      refine XS.ifNo X0.here hx rfl (hb hby d1_5) rfl ((if0 _ _).trans (teq hc38).2) ?_
      show Steps p.tables e below (s₁.setTop (mkF m 8 #[.val (.int p0), .val (.int (p0 &&& (3 : Int32)))] [])) _
      refine st39 _ ?_
      show Steps p.tables e below (T39.setTop (mkF m 11 #[.val (.int p0), .val (.int (p0 &&& (3 : Int32)))] [(.ref w_1)])) _
      jvm_step X39.here [X39.here.top, hx, (hb hby d1_11), X39.method', Bd.returns, Value.isRef, FieldType.isReference]
      first | (intro acts; rw [hr _ acts rfl rfl rfl]) | rw [hr _ _ rfl rfl rfl]
      exact Steps.refl _
    · show Q1 Z w_1 w_2 w_3 w_4 w_5 k_4 p0 h0 n0 _ T39.heap _
      rw [e39]
      exact ⟨by unfold sp1; rw [if_pos hc38], N0, rfl⟩
  · have pre40 : ∀ t, Steps p.tables e below (s₁.setTop (mkF m 14 #[.val (.int p0), .val (.int (p0 &&& (3 : Int32)))] [(.int (1 : Int32)), (.int (p0 &&& (3 : Int32)))])) t → Steps p.tables e below (s₁.setTop (entryFrame m #[(.int p0)] 2)) t := fun t kt => by
      refine pre37 t ?_
      show Steps p.tables e below (s₁.setTop (mkF m 5 #[.val (.int p0), .val (.int (p0 &&& (3 : Int32)))] [(.int (p0 &&& (3 : Int32)))])) _
      refine XS.ifYes X0.here hx rfl (pc0 := 5) (pc' := 12) rfl (hb hby d1_5) rfl ((if0 _ _).trans (feq hc38).2) (by decide) (by decide) ?_
      show Steps p.tables e below (s₁.setTop (mkF m 12 #[.val (.int p0), .val (.int (p0 &&& (3 : Int32)))] [])) _
      refine XS.iloadN X0.here hx rfl (hb hby d1_12) rfl ?_
      show Steps p.tables e below (s₁.setTop (mkF m 13 #[.val (.int p0), .val (.int (p0 &&& (3 : Int32)))] [(.int (p0 &&& (3 : Int32)))])) _
      refine XS.iconst X0.here hx rfl (hb hby d1_13) ?_
      show Steps p.tables e below (s₁.setTop (mkF m 14 #[.val (.int p0), .val (.int (p0 &&& (3 : Int32)))] [(.int (1 : Int32)), (.int (p0 &&& (3 : Int32)))])) _
      exact kt
    by_cases hc41 : (p0 &&& (3 : Int32)) = (1 : Int32)
    · obtain ⟨T42, X42, e42, st42⟩ := getS2 X0 hx hZ hown (host := "") (Or.inl (hw _ (tk 25 rfl))) Via.refl e0 (S_5.ext O0.2) (g := (mkF m 17 #[.val (.int p0), .val (.int (p0 &&& (3 : Int32)))] [])) rfl (hb hby d1_17)
      obtain ⟨fs, hr, hrun, hended, hW, hsame⟩ := X42.leave (v := some (.ref w_5)) (fun h => by rw [Bd.returns] at h; cases h)
      refine ⟨_, _, pre40 _ ?_, hrun, hended, _, _, rfl, ?_, ⟨_, rfl⟩, hW, hsame.mono (by decide) (by decide)⟩
      · show Steps p.tables e below (s₁.setTop (mkF m 14 #[.val (.int p0), .val (.int (p0 &&& (3 : Int32)))] [(.int (1 : Int32)), (.int (p0 &&& (3 : Int32)))])) _
        refine XS.icmpNo X0.here hx rfl (hb hby d1_14) rfl (teq hc41).2 ?_
        show Steps p.tables e below (s₁.setTop (mkF m 17 #[.val (.int p0), .val (.int (p0 &&& (3 : Int32)))] [])) _
        refine st42 _ ?_
        show Steps p.tables e below (T42.setTop (mkF m 20 #[.val (.int p0), .val (.int (p0 &&& (3 : Int32)))] [(.ref w_5)])) _
        jvm_step X42.here [X42.here.top, hx, (hb hby d1_20), X42.method', Bd.returns, Value.isRef, FieldType.isReference]
        first | (intro acts; rw [hr _ acts rfl rfl rfl]) | rw [hr _ _ rfl rfl rfl]
        exact Steps.refl _
      · show Q1 Z w_1 w_2 w_3 w_4 w_5 k_4 p0 h0 n0 _ T42.heap _
        rw [e42]
        exact ⟨by unfold sp1; rw [if_neg hc38, if_pos hc41], N0, rfl⟩
    · have pre43 : ∀ t, Steps p.tables e below (s₁.setTop (mkF m 23 #[.val (.int p0), .val (.int (p0 &&& (3 : Int32)))] [(.int (2 : Int32)), (.int (p0 &&& (3 : Int32)))])) t → Steps p.tables e below (s₁.setTop (entryFrame m #[(.int p0)] 2)) t := fun t kt => by
        refine pre40 t ?_
        show Steps p.tables e below (s₁.setTop (mkF m 14 #[.val (.int p0), .val (.int (p0 &&& (3 : Int32)))] [(.int (1 : Int32)), (.int (p0 &&& (3 : Int32)))])) _
        refine XS.icmpYes X0.here hx rfl (pc0 := 14) (pc' := 21) rfl (hb hby d1_14) rfl (feq hc41).2 (by decide) (by decide) ?_
        show Steps p.tables e below (s₁.setTop (mkF m 21 #[.val (.int p0), .val (.int (p0 &&& (3 : Int32)))] [])) _
        refine XS.iloadN X0.here hx rfl (hb hby d1_21) rfl ?_
        show Steps p.tables e below (s₁.setTop (mkF m 22 #[.val (.int p0), .val (.int (p0 &&& (3 : Int32)))] [(.int (p0 &&& (3 : Int32)))])) _
        refine XS.iconst X0.here hx rfl (hb hby d1_22) ?_
        show Steps p.tables e below (s₁.setTop (mkF m 23 #[.val (.int p0), .val (.int (p0 &&& (3 : Int32)))] [(.int (2 : Int32)), (.int (p0 &&& (3 : Int32)))])) _
        exact kt
      by_cases hc44 : (p0 &&& (3 : Int32)) = (2 : Int32)
      · obtain ⟨T45, X45, e45, st45⟩ := getS2 X0 hx hZ hown (host := "") (Or.inl (hw _ (tk 9 rfl))) Via.refl e0 (S_3.ext O0.2) (g := (mkF m 26 #[.val (.int p0), .val (.int (p0 &&& (3 : Int32)))] [])) rfl (hb hby d1_26)
        obtain ⟨fs, hr, hrun, hended, hW, hsame⟩ := X45.leave (v := some (.ref w_3)) (fun h => by rw [Bd.returns] at h; cases h)
        refine ⟨_, _, pre43 _ ?_, hrun, hended, _, _, rfl, ?_, ⟨_, rfl⟩, hW, hsame.mono (by decide) (by decide)⟩
        · show Steps p.tables e below (s₁.setTop (mkF m 23 #[.val (.int p0), .val (.int (p0 &&& (3 : Int32)))] [(.int (2 : Int32)), (.int (p0 &&& (3 : Int32)))])) _
          refine XS.icmpNo X0.here hx rfl (hb hby d1_23) rfl (teq hc44).2 ?_
          show Steps p.tables e below (s₁.setTop (mkF m 26 #[.val (.int p0), .val (.int (p0 &&& (3 : Int32)))] [])) _
          refine st45 _ ?_
          show Steps p.tables e below (T45.setTop (mkF m 29 #[.val (.int p0), .val (.int (p0 &&& (3 : Int32)))] [(.ref w_3)])) _
          jvm_step X45.here [X45.here.top, hx, (hb hby d1_29), X45.method', Bd.returns, Value.isRef, FieldType.isReference]
          first | (intro acts; rw [hr _ acts rfl rfl rfl]) | rw [hr _ _ rfl rfl rfl]
          exact Steps.refl _
        · show Q1 Z w_1 w_2 w_3 w_4 w_5 k_4 p0 h0 n0 _ T45.heap _
          rw [e45]
          exact ⟨by unfold sp1; rw [if_neg hc38, if_neg hc41, if_pos hc44], N0, rfl⟩
      · obtain ⟨T46, X46, e46, st46⟩ := getS2 X0 hx hZ hown (host := "") (Or.inl (hw _ (tk 7 rfl))) Via.refl e0 (S_2.ext O0.2) (g := (mkF m 30 #[.val (.int p0), .val (.int (p0 &&& (3 : Int32)))] [])) rfl (hb hby d1_30)
        obtain ⟨fs, hr, hrun, hended, hW, hsame⟩ := X46.leave (v := some (.ref w_2)) (fun h => by rw [Bd.returns] at h; cases h)
        refine ⟨_, _, pre43 _ ?_, hrun, hended, _, _, rfl, ?_, ⟨_, rfl⟩, hW, hsame.mono (by decide) (by decide)⟩
        · show Steps p.tables e below (s₁.setTop (mkF m 23 #[.val (.int p0), .val (.int (p0 &&& (3 : Int32)))] [(.int (2 : Int32)), (.int (p0 &&& (3 : Int32)))])) _
          refine XS.icmpYes X0.here hx rfl (pc0 := 23) (pc' := 30) rfl (hb hby d1_23) rfl (feq hc44).2 (by decide) (by decide) ?_
          show Steps p.tables e below (s₁.setTop (mkF m 30 #[.val (.int p0), .val (.int (p0 &&& (3 : Int32)))] [])) _
          refine st46 _ ?_
          show Steps p.tables e below (T46.setTop (mkF m 33 #[.val (.int p0), .val (.int (p0 &&& (3 : Int32)))] [(.ref w_2)])) _
          jvm_step X46.here [X46.here.top, hx, (hb hby d1_33), X46.method', Bd.returns, Value.isRef, FieldType.isReference]
          first | (intro acts; rw [hr _ acts rfl rfl rfl]) | rw [hr _ _ rfl rfl rfl]
          exact Steps.refl _
        · show Q1 Z w_1 w_2 w_3 w_4 w_5 k_4 p0 h0 n0 _ T46.heap _
          rw [e46]
          exact ⟨by unfold sp1; rw [if_neg hc38, if_neg hc41, if_neg hc44], N0, rfl⟩
theorem pn_3 : plainName "com/example/lucid_locks/lucidlocks/locks/LockMode" = true := by first | (simp [plainName, overriddenIn]; done) | decide +kernel
theorem ef_3 (m : MethodId) (r0 : Addr) (r1 : Addr) : entryFrame m #[(.ref r0), (.ref r1)] 2 = mkF m 0 #[.val (.ref r0), .val (.ref r1)] [] := by first | (simp [entryFrame, mkF, argsToLocals, Value.category]; done) | rfl
def sp3 (r0 : Addr) (r1 : Addr) (f_sharedWithItself_r0 : Int32) : Int32 := (if r0 = r1 then (if f_sharedWithItself_r0 = (0 : Int32) then (1 : Int32) else (0 : Int32)) else (1 : Int32))
def Q3 (Z : State) (w_1 : Addr) (w_2 : Addr) (w_3 : Addr) (w_4 : Addr) (w_5 : Addr) (k_4 : ClassId) (r0 : Addr) (r1 : Addr) (f_sharedWithItself_r0 : Int32) (h0 : Heap) (n0 : Nat) (v : Option Value) (h : Heap) (L : List Loc) : Prop := v = some (.int (sp3 r0 r1 f_sharedWithItself_r0)) ∧ Fr n0 L ∧ h = h0
set_option maxRecDepth 65536 in
set_option maxHeartbeats 40000000 in
theorem rm3 (l : Launch) (Z : State) (a0 : Array Value) (hw : ∀ d ∈ tables_1, d.before a0 Z = true) (ws : List Jvm.Cond) (w_1 : Addr) (w_2 : Addr) (w_3 : Addr) (w_4 : Addr) (w_5 : Addr) (k_4 : ClassId) (hS : StF Z w_1 w_2 w_3 w_4 w_5 k_4) (r0 : Addr) (r1 : Addr) (f_sharedWithItself_r0 : Int32) (h0 : Heap) (n0 : Nat) (O0 : Old Z n0 h0) (F_sharedWithItself_r0 : Fld Z h0 r0 "com/example/lucid_locks/lucidlocks/locks/LockMode" "sharedWithItself" "Z" (.int f_sharedWithItself_r0)) :
    MetFree l Y1 (head1 (Jvm.Cond.code Y1 prog_17_method_5_code 2 (some .boolean) :: ws) ({ frames := 0, cells := 0, slots := 0, locals := 0 } : Room)) (fun a U => a = #[(.ref r0), (.ref r1)] ∧ Z.Warmed39 U.vm ∧ U.heap = h0) (fun _ _ _ _ _ => True) (fun _ U o U' => ∃ v L, o = .returned v ∧ Q3 Z w_1 w_2 w_3 w_4 w_5 k_4 r0 r1 f_sharedWithItself_r0 h0 n0 v U'.heap L ∧ FrameEnd U o U' L ({ frames := 0, cells := 0, slots := 0, locals := 0 } : Room).cells ({ frames := 0, cells := 0, slots := 0, locals := 0 } : Room).slots) := by
  refine MetFree.of_bodySF (plainFor_of_name pn_3) hisR ?_
  intro p e s m args below meth c s₁ Bd hml0 hP hK
  obtain ⟨rfl, hZ, hh⟩ := hP
  have hx := Bd.exec
  have hby := Bd.bytes
  have hml : c.maxLocals = 2 := hml0
  have hown : s.vm.findClass "com/example/lucid_locks/lucidlocks/locks/LockMode" = some m.cls := findClass_of_methodNamed Bd.named
  have hnm := (name_of_methodNamed Bd.named Bd.method).1
  have X0 : Stand p l e ({ frames := 0, cells := 0, slots := 0, locals := 0 } : Room) s m #[(.ref r0), (.ref r1)] below meth c s₁ [] 0 0 := Stand.of_body Bd
  have e0 : s₁.heap = h0 := by rw [← hh, Bd.state]; rfl
  have N0 := Fr.nil n0
  have hS0 := hS
  obtain ⟨S_1, E_1, S_2, E_2, S_3, E_3, S_4, S_5, E_5, F_1_ordinal, F_3_ordinal, F_2_ordinal, F_1_sharedWithItself, F_5_ordinal, F_5_sharedWithItself, F_3_sharedWithItself, F_2_sharedWithItself, V_4⟩ := hS
  have pre0 : ∀ t, Steps p.tables e below (s₁.setTop (mkF m 0 #[.val (.ref r0), .val (.ref r1)] [])) t → Steps p.tables e below (s₁.setTop (entryFrame m #[(.ref r0), (.ref r1)] 2)) t := fun t k => castTop (ef_3 m r0 r1) k
  have pre54 : ∀ t, Steps p.tables e below (s₁.setTop (mkF m 2 #[.val (.ref r0), .val (.ref r1)] [(.ref r1), (.ref r0)])) t → Steps p.tables e below (s₁.setTop (entryFrame m #[(.ref r0), (.ref r1)] 2)) t := fun t kt => by
    refine pre0 t ?_
    show Steps p.tables e below (s₁.setTop (mkF m 0 #[.val (.ref r0), .val (.ref r1)] [])) _
    refine XS.aloadN X0.here hx rfl (hb hby d3_0) rfl rfl ?_
    show Steps p.tables e below (s₁.setTop (mkF m 1 #[.val (.ref r0), .val (.ref r1)] [(.ref r0)])) _
    refine XS.aloadN X0.here hx rfl (hb hby d3_1) rfl rfl ?_
    show Steps p.tables e below (s₁.setTop (mkF m 2 #[.val (.ref r0), .val (.ref r1)] [(.ref r1), (.ref r0)])) _
    exact kt
  by_cases hc55 : r0 = r1
  · obtain ⟨T56, X56, e56, st56⟩ := getF X0 hx hZ hown (host := "") (Or.inl (hw _ (tk 23 rfl))) Via.refl e0 F_sharedWithItself_r0 (g := (mkF m 6 #[.val (.ref r0), .val (.ref r1)] [(.ref r0)])) rfl rfl (hb hby d3_6)
    have pre57 : ∀ t, Steps p.tables e below (T56.setTop (mkF m 9 #[.val (.ref r0), .val (.ref r1)] [(.int f_sharedWithItself_r0)])) t → Steps p.tables e below (s₁.setTop (entryFrame m #[(.ref r0), (.ref r1)] 2)) t := fun t kt => by
      refine pre54 t ?_
      show Steps p.tables e below (s₁.setTop (mkF m 2 #[.val (.ref r0), .val (.ref r1)] [(.ref r1), (.ref r0)])) _
      refine Jvm.RoadKit.acmp (g := (mkF m 2 #[.val (.ref r0), .val (.ref r1)] [(.ref r1), (.ref r0)])) X0 hx rfl rfl rfl (pc0 := 2) (pc' := 5) (same := true) rfl (hb hby d3_2) rfl (decide_eq_true (congrArg Value.ref hc55)) (by decide) (by decide) ?_
      show Steps p.tables e below (s₁.setTop (mkF m 5 #[.val (.ref r0), .val (.ref r1)] [])) _
      refine XS.aloadN X0.here hx rfl (hb hby d3_5) rfl rfl ?_
      show Steps p.tables e below (s₁.setTop (mkF m 6 #[.val (.ref r0), .val (.ref r1)] [(.ref r0)])) _
      refine st56 _ ?_
      show Steps p.tables e below (T56.setTop (mkF m 9 #[.val (.ref r0), .val (.ref r1)] [(.int f_sharedWithItself_r0)])) _
      exact kt
    by_cases hc58 : f_sharedWithItself_r0 = (0 : Int32)
    · obtain ⟨fs, hr, hrun, hended, hW, hsame⟩ := X56.leave (v := some (.int (1 : Int32))) (fun h => by rw [Bd.returns] at h; cases h)
      refine ⟨_, _, pre57 _ ?_, hrun, hended, _, _, rfl, ?_, ⟨_, rfl⟩, hW, hsame.mono (by decide) (by decide)⟩
      · show Steps p.tables e below (T56.setTop (mkF m 9 #[.val (.ref r0), .val (.ref r1)] [(.int f_sharedWithItself_r0)])) _
        refine XS.ifNo X56.here hx rfl (hb hby d3_9) rfl ((if0 _ _).trans (teq hc58).2) ?_
        show Steps p.tables e below (T56.setTop (mkF m 12 #[.val (.ref r0), .val (.ref r1)] [])) _
        refine XS.iconst X56.here hx rfl (hb hby d3_12) ?_
        show Steps p.tables e below (T56.setTop (mkF m 13 #[.val (.ref r0), .val (.ref r1)] [(.int (1 : Int32))])) _
        refine XS.goto X56.here hx rfl (pc0 := 13) (pc' := 17) rfl (hb hby d3_13) (by decide) (by decide) ?_
        show Steps p.tables e below (T56.setTop (mkF m 17 #[.val (.ref r0), .val (.ref r1)] [(.int (1 : Int32))])) _
        exact retN X56 hx (t := .boolean) Bd.returns (by simp) (hb hby d3_17) hr
      · show Q3 Z w_1 w_2 w_3 w_4 w_5 k_4 r0 r1 f_sharedWithItself_r0 h0 n0 _ T56.heap _
        rw [e56]
        exact ⟨by unfold sp3; rw [if_pos hc55, if_pos hc58], N0, rfl⟩
    · obtain ⟨fs, hr, hrun, hended, hW, hsame⟩ := X56.leave (v := some (.int (0 : Int32))) (fun h => by rw [Bd.returns] at h; cases h)
      refine ⟨_, _, pre57 _ ?_, hrun, hended, _, _, rfl, ?_, ⟨_, rfl⟩, hW, hsame.mono (by decide) (by decide)⟩
      · show Steps p.tables e below (T56.setTop (mkF m 9 #[.val (.ref r0), .val (.ref r1)] [(.int f_sharedWithItself_r0)])) _
        refine XS.ifYes X56.here hx rfl (pc0 := 9) (pc' := 16) rfl (hb hby d3_9) rfl ((if0 _ _).trans (feq hc58).2) (by decide) (by decide) ?_
        show Steps p.tables e below (T56.setTop (mkF m 16 #[.val (.ref r0), .val (.ref r1)] [])) _
        refine XS.iconst X56.here hx rfl (hb hby d3_16) ?_
        show Steps p.tables e below (T56.setTop (mkF m 17 #[.val (.ref r0), .val (.ref r1)] [(.int (0 : Int32))])) _
        exact retN X56 hx (t := .boolean) Bd.returns (by simp) (hb hby d3_17) hr
      · show Q3 Z w_1 w_2 w_3 w_4 w_5 k_4 r0 r1 f_sharedWithItself_r0 h0 n0 _ T56.heap _
        rw [e56]
        exact ⟨by unfold sp3; rw [if_pos hc55, if_neg hc58], N0, rfl⟩
  · obtain ⟨fs, hr, hrun, hended, hW, hsame⟩ := X0.leave (v := some (.int (1 : Int32))) (fun h => by rw [Bd.returns] at h; cases h)
    refine ⟨_, _, pre54 _ ?_, hrun, hended, _, _, rfl, ?_, ⟨_, rfl⟩, hW, hsame.mono (by decide) (by decide)⟩
    · show Steps p.tables e below (s₁.setTop (mkF m 2 #[.val (.ref r0), .val (.ref r1)] [(.ref r1), (.ref r0)])) _
      refine Jvm.RoadKit.acmp (g := (mkF m 2 #[.val (.ref r0), .val (.ref r1)] [(.ref r1), (.ref r0)])) X0 hx rfl rfl rfl (pc0 := 2) (pc' := 12) (same := false) rfl (hb hby d3_2) rfl (decide_eq_false fun q => hc55 (Value.ref.inj q)) (by decide) (by decide) ?_
      show Steps p.tables e below (s₁.setTop (mkF m 12 #[.val (.ref r0), .val (.ref r1)] [])) _
      refine XS.iconst X0.here hx rfl (hb hby d3_12) ?_
      show Steps p.tables e below (s₁.setTop (mkF m 13 #[.val (.ref r0), .val (.ref r1)] [(.int (1 : Int32))])) _
      refine XS.goto X0.here hx rfl (pc0 := 13) (pc' := 17) rfl (hb hby d3_13) (by decide) (by decide) ?_
      show Steps p.tables e below (s₁.setTop (mkF m 17 #[.val (.ref r0), .val (.ref r1)] [(.int (1 : Int32))])) _
      exact retN X0 hx (t := .boolean) Bd.returns (by simp) (hb hby d3_17) hr
    · show Q3 Z w_1 w_2 w_3 w_4 w_5 k_4 r0 r1 f_sharedWithItself_r0 h0 n0 _ s₁.heap _
      rw [e0]
      exact ⟨by unfold sp3; rw [if_neg hc55], N0, rfl⟩
theorem pn_2x1 : plainName "com/example/lucid_locks/lucidlocks/locks/LockMode" = true := by first | (simp [plainName, overriddenIn]; done) | decide +kernel
theorem ef_2x1 (m : MethodId) (w_1 : Addr) : entryFrame m #[(.ref w_1), (.ref w_1)] 6 = mkF m 0 #[.val (.ref w_1), .val (.ref w_1), .unset, .unset, .unset, .unset] [] := by first | (simp [entryFrame, mkF, argsToLocals, Value.category]; done) | rfl
def sp2x1  : Int32 := (1 : Int32)
def Q2x1 (Z : State) (w_1 : Addr) (w_2 : Addr) (w_3 : Addr) (w_4 : Addr) (w_5 : Addr) (k_4 : ClassId) (h0 : Heap) (n0 : Nat) (v : Option Value) (h : Heap) (L : List Loc) : Prop := v = some (.int (sp2x1)) ∧ Fr n0 L ∧ h = h0
set_option maxRecDepth 65536 in
set_option maxHeartbeats 40000000 in
theorem rm2x1 (l : Launch) (Z : State) (a0 : Array Value) (hw : ∀ d ∈ tables_1, d.before a0 Z = true) (ws : List Jvm.Cond) (w_1 : Addr) (w_2 : Addr) (w_3 : Addr) (w_4 : Addr) (w_5 : Addr) (k_4 : ClassId) (hS : StF Z w_1 w_2 w_3 w_4 w_5 k_4) (h0 : Heap) (n0 : Nat) (O0 : Old Z n0 h0) :
    MetFree l Y2 (head1 (Jvm.Cond.code Y2 prog_17_method_7_code 6 (some .boolean) :: ws) ({ frames := 1, cells := 0, slots := 0, locals := 13 } : Room)) (fun a U => a = #[(.ref w_1), (.ref w_1)] ∧ Z.Warmed39 U.vm ∧ U.heap = h0) (fun _ _ _ _ _ => True) (fun _ U o U' => ∃ v L, o = .returned v ∧ Q2x1 Z w_1 w_2 w_3 w_4 w_5 k_4 h0 n0 v U'.heap L ∧ FrameEnd U o U' L ({ frames := 1, cells := 0, slots := 0, locals := 13 } : Room).cells ({ frames := 1, cells := 0, slots := 0, locals := 13 } : Room).slots) := by
  refine MetFree.of_bodySF (plainFor_of_name pn_2x1) hisR ?_
  intro p e s m args below meth c s₁ Bd hml0 hP hK
  obtain ⟨rfl, hZ, hh⟩ := hP
  have hx := Bd.exec
  have hby := Bd.bytes
  have hml : c.maxLocals = 6 := hml0
  have hown : s.vm.findClass "com/example/lucid_locks/lucidlocks/locks/LockMode" = some m.cls := findClass_of_methodNamed Bd.named
  have hnm := (name_of_methodNamed Bd.named Bd.method).1
  have X0 : Stand p l e ({ frames := 1, cells := 0, slots := 0, locals := 13 } : Room) s m #[(.ref w_1), (.ref w_1)] below meth c s₁ [] 0 0 := Stand.of_body Bd
  have e0 : s₁.heap = h0 := by rw [← hh, Bd.state]; rfl
  have N0 := Fr.nil n0
  have hS0 := hS
  obtain ⟨S_1, E_1, S_2, E_2, S_3, E_3, S_4, S_5, E_5, F_1_ordinal, F_3_ordinal, F_2_ordinal, F_1_sharedWithItself, F_5_ordinal, F_5_sharedWithItself, F_3_sharedWithItself, F_2_sharedWithItself, V_4⟩ := hS
  have pre0 : ∀ t, Steps p.tables e below (s₁.setTop (mkF m 0 #[.val (.ref w_1), .val (.ref w_1), .unset, .unset, .unset, .unset] [])) t → Steps p.tables e below (s₁.setTop (entryFrame m #[(.ref w_1), (.ref w_1)] 6)) t := fun t k => castTop (ef_2x1 m w_1) k
  obtain ⟨T51, X51, e51, st51⟩ := getS2 X0 hx hZ hown (host := "") (Or.inl (hw _ (tk 16 rfl))) Via.refl e0 (S_4.ext O0.2) (g := (mkF m 0 #[.val (.ref w_1), .val (.ref w_1), .unset, .unset, .unset, .unset] [])) rfl (hb hby d2_0)
  obtain ⟨cl52, Ar52, qa52, Sa52, Ma52, Ha52, Ga52⟩ := id (V_4.ext O0.2)
  obtain ⟨cl53, Ar53, qa53, Sa53, Ma53, Ha53, Ga53⟩ := id (V_4.ext O0.2)
  have hin53 : ¬ ((0 : Int32) < 0 ∨ cl53.slots.size ≤ ((0 : Int32)).toNatClampNeg) := by  exact inb_of Sa53 ⟨by decide, by decide⟩
  have hat53 : cl53.slots[((0 : Int32)).toNatClampNeg]? = some (.ref w_1) := Has.at Ha53 hin53 (by rfl)
  obtain ⟨cq59, kq59, q59a, q59b, q59c⟩ := isOf hZ e51 (E_1.ext O0.2)
  obtain ⟨_, _, ⟨T59, L59, k59, n59⟩, -, X59, ⟨Lc59, hQ59, l59, y59, z59⟩, st59⟩ := X51.virtualBack hx (y := Y1) (z := Y1) hown (mvT hZ (hw _ (tk 18 rfl))) (mvT hZ (hw _ (tk 19 rfl))) (notFace_of_selects (args := #[]) (mvT hZ (hw _ (tk 21 rfl)))) (mvT hZ (hw _ (tk 21 rfl))) (mvT hZ (hw _ (tk 20 rfl))) (by decide) (backOf (W := 0) (rm3 l Z a0 hw [] w_1 w_2 w_3 w_4 w_5 k_4 hS0 w_1 w_1 (1 : Int32) h0 n0 O0 (F_1_sharedWithItself.ext O0.2)) hZ (hw _ (tk 22 rfl)) (hw _ (tk 5 rfl)) (by decide) (by decide)) q59a q59c (g := (mkF m 25 #[.val (.ref w_1), .val (.ref w_1), .val (.ref w_4), .val (.int (4 : Int32)), .val (.int (0 : Int32)), .val (.ref w_1)] [(.ref w_1), (.ref w_1)])) rfl (by rw [hml]; rfl) (Steps.refl _) (argsL := [(.ref w_1)]) (rest := []) (lenOf pd_1 rfl) rfl (by show 2 * 0 + _ ≤ _; exact Nat.le_of_eq rfl) (hb hby d2_25) (fun _ _ => ⟨rfl, e51, (by decide : 0 + 0 ≤ _), (by decide : 0 + 0 ≤ _)⟩)
  dsimp only [Pt.U, Pt.locs, Pt.cells, Pt.slots] at X59 l59 y59 z59 st59 hQ59
  subst l59 y59 z59
  obtain ⟨rv59, N59q, e59⟩ := hQ59
  rw [show sp3 w_1 w_1 (1 : Int32) = (0 : Int32) from by unfold sp3; rw [if_pos rfl, if_neg (by decide : ¬ ((1 : Int32) = (0 : Int32)))]] at rv59
  subst rv59
  have N59 := Fr.app N0 N59q
  obtain ⟨cl60, Ar60, qa60, Sa60, Ma60, Ha60, Ga60⟩ := id (V_4.ext O0.2)
  have hin60 : ¬ (((0 : Int32) + (1 : Int32)) < 0 ∨ cl60.slots.size ≤ (((0 : Int32) + (1 : Int32))).toNatClampNeg) := by  exact inb_of Sa60 ⟨by decide, by decide⟩
  have hat60 : cl60.slots[(((0 : Int32) + (1 : Int32))).toNatClampNeg]? = some (.ref w_5) := Has.at Ha60 hin60 (by rfl)
  obtain ⟨cq61, kq61, q61a, q61b, q61c⟩ := isOf hZ e59 (E_1.ext O0.2)
  obtain ⟨_, _, ⟨T61, L61, k61, n61⟩, -, X61, ⟨Lc61, hQ61, l61, y61, z61⟩, st61⟩ := X59.virtualBack hx (y := Y1) (z := Y1) hown (mvT hZ (hw _ (tk 18 rfl))) (mvT hZ (hw _ (tk 19 rfl))) (notFace_of_selects (args := #[]) (mvT hZ (hw _ (tk 21 rfl)))) (mvT hZ (hw _ (tk 21 rfl))) (mvT hZ (hw _ (tk 20 rfl))) (by decide) (backOf (W := 0) (rm3 l Z a0 hw [] w_1 w_2 w_3 w_4 w_5 k_4 hS0 w_1 w_5 (1 : Int32) h0 n0 O0 (F_1_sharedWithItself.ext O0.2)) hZ (hw _ (tk 22 rfl)) (hw _ (tk 5 rfl)) (by decide) (by decide)) q61a q61c (g := (mkF m 25 #[.val (.ref w_1), .val (.ref w_1), .val (.ref w_4), .val (.int (4 : Int32)), .val (.int ((0 : Int32) + (1 : Int32))), .val (.ref w_5)] [(.ref w_5), (.ref w_1)])) rfl (by rw [hml]; rfl) (Steps.refl _) (argsL := [(.ref w_5)]) (rest := []) (lenOf pd_1 rfl) rfl (by show 2 * 0 + _ ≤ _; exact Nat.le_of_eq rfl) (hb hby d2_25) (fun _ _ => ⟨rfl, e59, (by decide : 0 + 0 ≤ _), (by decide : 0 + 0 ≤ _)⟩)
  dsimp only [Pt.U, Pt.locs, Pt.cells, Pt.slots] at X61 l61 y61 z61 st61 hQ61
  subst l61 y61 z61
  obtain ⟨rv61, N61q, e61⟩ := hQ61
  rw [show sp3 w_1 w_5 (1 : Int32) = (1 : Int32) from by unfold sp3; rw [if_neg (Fld.ne F_1_ordinal F_5_ordinal (by decide))]] at rv61
  subst rv61
  have N61 := Fr.app N59 N61q
  obtain ⟨cq62, kq62, q62a, q62b, q62c⟩ := isOf hZ e61 (E_1.ext O0.2)
  obtain ⟨_, _, ⟨T62, L62, k62, n62⟩, -, X62, ⟨Lc62, hQ62, l62, y62, z62⟩, st62⟩ := X61.virtualBack hx (y := Y1) (z := Y1) hown (mvT hZ (hw _ (tk 18 rfl))) (mvT hZ (hw _ (tk 19 rfl))) (notFace_of_selects (args := #[]) (mvT hZ (hw _ (tk 21 rfl)))) (mvT hZ (hw _ (tk 21 rfl))) (mvT hZ (hw _ (tk 20 rfl))) (by decide) (backOf (W := 0) (rm3 l Z a0 hw [] w_1 w_2 w_3 w_4 w_5 k_4 hS0 w_1 w_5 (1 : Int32) h0 n0 O0 (F_1_sharedWithItself.ext O0.2)) hZ (hw _ (tk 22 rfl)) (hw _ (tk 5 rfl)) (by decide) (by decide)) q62a q62c (g := (mkF m 34 #[.val (.ref w_1), .val (.ref w_1), .val (.ref w_4), .val (.int (4 : Int32)), .val (.int ((0 : Int32) + (1 : Int32))), .val (.ref w_5)] [(.ref w_5), (.ref w_1)])) rfl (by rw [hml]; rfl) (Steps.refl _) (argsL := [(.ref w_5)]) (rest := []) (lenOf pd_1 rfl) rfl (by show 2 * 0 + _ ≤ _; exact Nat.le_of_eq rfl) (hb hby d2_34) (fun _ _ => ⟨rfl, e61, (by decide : 0 + 0 ≤ _), (by decide : 0 + 0 ≤ _)⟩)
  dsimp only [Pt.U, Pt.locs, Pt.cells, Pt.slots] at X62 l62 y62 z62 st62 hQ62
  subst l62 y62 z62
  obtain ⟨rv62, N62q, e62⟩ := hQ62
  rw [show sp3 w_1 w_5 (1 : Int32) = (1 : Int32) from by unfold sp3; rw [if_neg (Fld.ne F_1_ordinal F_5_ordinal (by decide))]] at rv62
  subst rv62
  have N62 := Fr.app N61 N62q
  obtain ⟨cl63, Ar63, qa63, Sa63, Ma63, Ha63, Ga63⟩ := id (V_4.ext O0.2)
  have hin63 : ¬ ((((0 : Int32) + (1 : Int32)) + (1 : Int32)) < 0 ∨ cl63.slots.size ≤ ((((0 : Int32) + (1 : Int32)) + (1 : Int32))).toNatClampNeg) := by  exact inb_of Sa63 ⟨by decide, by decide⟩
  have hat63 : cl63.slots[((((0 : Int32) + (1 : Int32)) + (1 : Int32))).toNatClampNeg]? = some (.ref w_3) := Has.at Ha63 hin63 (by rfl)
  obtain ⟨cq64, kq64, q64a, q64b, q64c⟩ := isOf hZ e62 (E_1.ext O0.2)
  obtain ⟨_, _, ⟨T64, L64, k64, n64⟩, -, X64, ⟨Lc64, hQ64, l64, y64, z64⟩, st64⟩ := X62.virtualBack hx (y := Y1) (z := Y1) hown (mvT hZ (hw _ (tk 18 rfl))) (mvT hZ (hw _ (tk 19 rfl))) (notFace_of_selects (args := #[]) (mvT hZ (hw _ (tk 21 rfl)))) (mvT hZ (hw _ (tk 21 rfl))) (mvT hZ (hw _ (tk 20 rfl))) (by decide) (backOf (W := 0) (rm3 l Z a0 hw [] w_1 w_2 w_3 w_4 w_5 k_4 hS0 w_1 w_3 (1 : Int32) h0 n0 O0 (F_1_sharedWithItself.ext O0.2)) hZ (hw _ (tk 22 rfl)) (hw _ (tk 5 rfl)) (by decide) (by decide)) q64a q64c (g := (mkF m 25 #[.val (.ref w_1), .val (.ref w_1), .val (.ref w_4), .val (.int (4 : Int32)), .val (.int (((0 : Int32) + (1 : Int32)) + (1 : Int32))), .val (.ref w_3)] [(.ref w_3), (.ref w_1)])) rfl (by rw [hml]; rfl) (Steps.refl _) (argsL := [(.ref w_3)]) (rest := []) (lenOf pd_1 rfl) rfl (by show 2 * 0 + _ ≤ _; exact Nat.le_of_eq rfl) (hb hby d2_25) (fun _ _ => ⟨rfl, e62, (by decide : 0 + 0 ≤ _), (by decide : 0 + 0 ≤ _)⟩)
  dsimp only [Pt.U, Pt.locs, Pt.cells, Pt.slots] at X64 l64 y64 z64 st64 hQ64
  subst l64 y64 z64
  obtain ⟨rv64, N64q, e64⟩ := hQ64
  rw [show sp3 w_1 w_3 (1 : Int32) = (1 : Int32) from by unfold sp3; rw [if_neg (Fld.ne F_1_ordinal F_3_ordinal (by decide))]] at rv64
  subst rv64
  have N64 := Fr.app N62 N64q
  obtain ⟨cq65, kq65, q65a, q65b, q65c⟩ := isOf hZ e64 (E_1.ext O0.2)
  obtain ⟨_, _, ⟨T65, L65, k65, n65⟩, -, X65, ⟨Lc65, hQ65, l65, y65, z65⟩, st65⟩ := X64.virtualBack hx (y := Y1) (z := Y1) hown (mvT hZ (hw _ (tk 18 rfl))) (mvT hZ (hw _ (tk 19 rfl))) (notFace_of_selects (args := #[]) (mvT hZ (hw _ (tk 21 rfl)))) (mvT hZ (hw _ (tk 21 rfl))) (mvT hZ (hw _ (tk 20 rfl))) (by decide) (backOf (W := 0) (rm3 l Z a0 hw [] w_1 w_2 w_3 w_4 w_5 k_4 hS0 w_1 w_3 (1 : Int32) h0 n0 O0 (F_1_sharedWithItself.ext O0.2)) hZ (hw _ (tk 22 rfl)) (hw _ (tk 5 rfl)) (by decide) (by decide)) q65a q65c (g := (mkF m 34 #[.val (.ref w_1), .val (.ref w_1), .val (.ref w_4), .val (.int (4 : Int32)), .val (.int (((0 : Int32) + (1 : Int32)) + (1 : Int32))), .val (.ref w_3)] [(.ref w_3), (.ref w_1)])) rfl (by rw [hml]; rfl) (Steps.refl _) (argsL := [(.ref w_3)]) (rest := []) (lenOf pd_1 rfl) rfl (by show 2 * 0 + _ ≤ _; exact Nat.le_of_eq rfl) (hb hby d2_34) (fun _ _ => ⟨rfl, e64, (by decide : 0 + 0 ≤ _), (by decide : 0 + 0 ≤ _)⟩)
  dsimp only [Pt.U, Pt.locs, Pt.cells, Pt.slots] at X65 l65 y65 z65 st65 hQ65
  subst l65 y65 z65
  obtain ⟨rv65, N65q, e65⟩ := hQ65
  rw [show sp3 w_1 w_3 (1 : Int32) = (1 : Int32) from by unfold sp3; rw [if_neg (Fld.ne F_1_ordinal F_3_ordinal (by decide))]] at rv65
  subst rv65
  have N65 := Fr.app N64 N65q
  obtain ⟨cl66, Ar66, qa66, Sa66, Ma66, Ha66, Ga66⟩ := id (V_4.ext O0.2)
  have hin66 : ¬ (((((0 : Int32) + (1 : Int32)) + (1 : Int32)) + (1 : Int32)) < 0 ∨ cl66.slots.size ≤ (((((0 : Int32) + (1 : Int32)) + (1 : Int32)) + (1 : Int32))).toNatClampNeg) := by  exact inb_of Sa66 ⟨by decide, by decide⟩
  have hat66 : cl66.slots[(((((0 : Int32) + (1 : Int32)) + (1 : Int32)) + (1 : Int32))).toNatClampNeg]? = some (.ref w_2) := Has.at Ha66 hin66 (by rfl)
  obtain ⟨cq67, kq67, q67a, q67b, q67c⟩ := isOf hZ e65 (E_1.ext O0.2)
  obtain ⟨_, _, ⟨T67, L67, k67, n67⟩, -, X67, ⟨Lc67, hQ67, l67, y67, z67⟩, st67⟩ := X65.virtualBack hx (y := Y1) (z := Y1) hown (mvT hZ (hw _ (tk 18 rfl))) (mvT hZ (hw _ (tk 19 rfl))) (notFace_of_selects (args := #[]) (mvT hZ (hw _ (tk 21 rfl)))) (mvT hZ (hw _ (tk 21 rfl))) (mvT hZ (hw _ (tk 20 rfl))) (by decide) (backOf (W := 0) (rm3 l Z a0 hw [] w_1 w_2 w_3 w_4 w_5 k_4 hS0 w_1 w_2 (1 : Int32) h0 n0 O0 (F_1_sharedWithItself.ext O0.2)) hZ (hw _ (tk 22 rfl)) (hw _ (tk 5 rfl)) (by decide) (by decide)) q67a q67c (g := (mkF m 25 #[.val (.ref w_1), .val (.ref w_1), .val (.ref w_4), .val (.int (4 : Int32)), .val (.int ((((0 : Int32) + (1 : Int32)) + (1 : Int32)) + (1 : Int32))), .val (.ref w_2)] [(.ref w_2), (.ref w_1)])) rfl (by rw [hml]; rfl) (Steps.refl _) (argsL := [(.ref w_2)]) (rest := []) (lenOf pd_1 rfl) rfl (by show 2 * 0 + _ ≤ _; exact Nat.le_of_eq rfl) (hb hby d2_25) (fun _ _ => ⟨rfl, e65, (by decide : 0 + 0 ≤ _), (by decide : 0 + 0 ≤ _)⟩)
  dsimp only [Pt.U, Pt.locs, Pt.cells, Pt.slots] at X67 l67 y67 z67 st67 hQ67
  subst l67 y67 z67
  obtain ⟨rv67, N67q, e67⟩ := hQ67
  rw [show sp3 w_1 w_2 (1 : Int32) = (1 : Int32) from by unfold sp3; rw [if_neg (Fld.ne F_1_ordinal F_2_ordinal (by decide))]] at rv67
  subst rv67
  have N67 := Fr.app N65 N67q
  obtain ⟨cq68, kq68, q68a, q68b, q68c⟩ := isOf hZ e67 (E_1.ext O0.2)
  obtain ⟨_, _, ⟨T68, L68, k68, n68⟩, -, X68, ⟨Lc68, hQ68, l68, y68, z68⟩, st68⟩ := X67.virtualBack hx (y := Y1) (z := Y1) hown (mvT hZ (hw _ (tk 18 rfl))) (mvT hZ (hw _ (tk 19 rfl))) (notFace_of_selects (args := #[]) (mvT hZ (hw _ (tk 21 rfl)))) (mvT hZ (hw _ (tk 21 rfl))) (mvT hZ (hw _ (tk 20 rfl))) (by decide) (backOf (W := 0) (rm3 l Z a0 hw [] w_1 w_2 w_3 w_4 w_5 k_4 hS0 w_1 w_2 (1 : Int32) h0 n0 O0 (F_1_sharedWithItself.ext O0.2)) hZ (hw _ (tk 22 rfl)) (hw _ (tk 5 rfl)) (by decide) (by decide)) q68a q68c (g := (mkF m 34 #[.val (.ref w_1), .val (.ref w_1), .val (.ref w_4), .val (.int (4 : Int32)), .val (.int ((((0 : Int32) + (1 : Int32)) + (1 : Int32)) + (1 : Int32))), .val (.ref w_2)] [(.ref w_2), (.ref w_1)])) rfl (by rw [hml]; rfl) (Steps.refl _) (argsL := [(.ref w_2)]) (rest := []) (lenOf pd_1 rfl) rfl (by show 2 * 0 + _ ≤ _; exact Nat.le_of_eq rfl) (hb hby d2_34) (fun _ _ => ⟨rfl, e67, (by decide : 0 + 0 ≤ _), (by decide : 0 + 0 ≤ _)⟩)
  dsimp only [Pt.U, Pt.locs, Pt.cells, Pt.slots] at X68 l68 y68 z68 st68 hQ68
  subst l68 y68 z68
  obtain ⟨rv68, N68q, e68⟩ := hQ68
  rw [show sp3 w_1 w_2 (1 : Int32) = (1 : Int32) from by unfold sp3; rw [if_neg (Fld.ne F_1_ordinal F_2_ordinal (by decide))]] at rv68
  subst rv68
  have N68 := Fr.app N67 N68q
  obtain ⟨fs, hr, hrun, hended, hW, hsame⟩ := X68.leave (v := some (.int (1 : Int32))) (fun h => by rw [Bd.returns] at h; cases h)
  refine ⟨_, _, pre0 _ ?_, hrun, hended, _, _, rfl, ?_, ⟨_, rfl⟩, hW, hsame.mono (by decide) (by decide)⟩
  · show Steps p.tables e below (s₁.setTop (mkF m 0 #[.val (.ref w_1), .val (.ref w_1), .unset, .unset, .unset, .unset] [])) _
    refine st51 _ ?_
    show Steps p.tables e below (T51.setTop (mkF m 3 #[.val (.ref w_1), .val (.ref w_1), .unset, .unset, .unset, .unset] [(.ref w_4)])) _
    refine XS.astoreN X51.here hx rfl (hb hby d2_3) rfl rfl (l' := #[.val (.ref w_1), .val (.ref w_1), .val (.ref w_4), .unset, .unset, .unset]) rfl ?_
    show Steps p.tables e below (T51.setTop (mkF m 4 #[.val (.ref w_1), .val (.ref w_1), .val (.ref w_4), .unset, .unset, .unset] [])) _
    refine XS.aloadN X51.here hx rfl (hb hby d2_4) rfl rfl ?_
    show Steps p.tables e below (T51.setTop (mkF m 5 #[.val (.ref w_1), .val (.ref w_1), .val (.ref w_4), .unset, .unset, .unset] [(.ref w_4)])) _
    refine X51.arraylength hx (by rw [e51]; exact Ar52.1) (State.isArrayOf_alike hZ.alike Ar52.2.1) (g := (mkF m 5 #[.val (.ref w_1), .val (.ref w_1), .val (.ref w_4), .unset, .unset, .unset] [(.ref w_4)])) rfl rfl (hb hby d2_5) _ ?_
    rw [len_of Sa52 Ma52]
    show Steps p.tables e below (T51.setTop (mkF m 6 #[.val (.ref w_1), .val (.ref w_1), .val (.ref w_4), .unset, .unset, .unset] [(.int (4 : Int32))])) _
    refine XS.istoreN X51.here hx rfl (hb hby d2_6) rfl (l' := #[.val (.ref w_1), .val (.ref w_1), .val (.ref w_4), .val (.int (4 : Int32)), .unset, .unset]) rfl ?_
    show Steps p.tables e below (T51.setTop (mkF m 7 #[.val (.ref w_1), .val (.ref w_1), .val (.ref w_4), .val (.int (4 : Int32)), .unset, .unset] [])) _
    refine XS.iconst X51.here hx rfl (hb hby d2_7) ?_
    show Steps p.tables e below (T51.setTop (mkF m 8 #[.val (.ref w_1), .val (.ref w_1), .val (.ref w_4), .val (.int (4 : Int32)), .unset, .unset] [(.int (0 : Int32))])) _
    refine XS.istore X51.here hx rfl (hb hby d2_8) rfl (l' := #[.val (.ref w_1), .val (.ref w_1), .val (.ref w_4), .val (.int (4 : Int32)), .val (.int (0 : Int32)), .unset]) rfl ?_
    show Steps p.tables e below (T51.setTop (mkF m 10 #[.val (.ref w_1), .val (.ref w_1), .val (.ref w_4), .val (.int (4 : Int32)), .val (.int (0 : Int32)), .unset] [])) _
    refine XS.iload X51.here hx rfl (hb hby d2_10) rfl ?_
    show Steps p.tables e below (T51.setTop (mkF m 12 #[.val (.ref w_1), .val (.ref w_1), .val (.ref w_4), .val (.int (4 : Int32)), .val (.int (0 : Int32)), .unset] [(.int (0 : Int32))])) _
    refine XS.iloadN X51.here hx rfl (hb hby d2_12) rfl ?_
    show Steps p.tables e below (T51.setTop (mkF m 13 #[.val (.ref w_1), .val (.ref w_1), .val (.ref w_4), .val (.int (4 : Int32)), .val (.int (0 : Int32)), .unset] [(.int (4 : Int32)), (.int (0 : Int32))])) _
    refine XS.icmpNo X51.here hx rfl (hb hby d2_13) rfl (tlt (by decide : ((0 : Int32) < (4 : Int32)))).2.1 ?_
    show Steps p.tables e below (T51.setTop (mkF m 16 #[.val (.ref w_1), .val (.ref w_1), .val (.ref w_4), .val (.int (4 : Int32)), .val (.int (0 : Int32)), .unset] [])) _
    refine XS.aloadN X51.here hx rfl (hb hby d2_16) rfl rfl ?_
    show Steps p.tables e below (T51.setTop (mkF m 17 #[.val (.ref w_1), .val (.ref w_1), .val (.ref w_4), .val (.int (4 : Int32)), .val (.int (0 : Int32)), .unset] [(.ref w_4)])) _
    refine XS.iload X51.here hx rfl (hb hby d2_17) rfl ?_
    show Steps p.tables e below (T51.setTop (mkF m 19 #[.val (.ref w_1), .val (.ref w_1), .val (.ref w_4), .val (.int (4 : Int32)), .val (.int (0 : Int32)), .unset] [(.int (0 : Int32)), (.ref w_4)])) _
    refine X51.aaload hx (j := (0 : Int32)) (v := (.ref w_1)) (by rw [e51]; exact Ar53.1) (State.isArrayOf_alike hZ.alike Ar53.2.1) rfl Ar53.2.2 hin53 hat53 (g := (mkF m 19 #[.val (.ref w_1), .val (.ref w_1), .val (.ref w_4), .val (.int (4 : Int32)), .val (.int (0 : Int32)), .unset] [(.int (0 : Int32)), (.ref w_4)])) rfl rfl (hb hby d2_19) _ ?_
    show Steps p.tables e below (T51.setTop (mkF m 20 #[.val (.ref w_1), .val (.ref w_1), .val (.ref w_4), .val (.int (4 : Int32)), .val (.int (0 : Int32)), .unset] [(.ref w_1)])) _
    refine XS.astore X51.here hx rfl (hb hby d2_20) rfl rfl (l' := #[.val (.ref w_1), .val (.ref w_1), .val (.ref w_4), .val (.int (4 : Int32)), .val (.int (0 : Int32)), .val (.ref w_1)]) rfl ?_
    show Steps p.tables e below (T51.setTop (mkF m 22 #[.val (.ref w_1), .val (.ref w_1), .val (.ref w_4), .val (.int (4 : Int32)), .val (.int (0 : Int32)), .val (.ref w_1)] [])) _
    refine XS.aloadN X51.here hx rfl (hb hby d2_22) rfl rfl ?_
    show Steps p.tables e below (T51.setTop (mkF m 23 #[.val (.ref w_1), .val (.ref w_1), .val (.ref w_4), .val (.int (4 : Int32)), .val (.int (0 : Int32)), .val (.ref w_1)] [(.ref w_1)])) _
    refine XS.aload X51.here hx rfl (hb hby d2_23) rfl rfl ?_
    show Steps p.tables e below (T51.setTop (mkF m 25 #[.val (.ref w_1), .val (.ref w_1), .val (.ref w_4), .val (.int (4 : Int32)), .val (.int (0 : Int32)), .val (.ref w_1)] [(.ref w_1), (.ref w_1)])) _
    refine st59.trans ?_
    show Steps p.tables e below (T59.setTop (mkF m 28 #[.val (.ref w_1), .val (.ref w_1), .val (.ref w_4), .val (.int (4 : Int32)), .val (.int (0 : Int32)), .val (.ref w_1)] [(.int (0 : Int32))])) _
    refine XS.ifYes X59.here hx rfl (pc0 := 28) (pc' := 42) rfl (hb hby d2_28) rfl ((if0 _ _).trans (teq (by decide : ((0 : Int32) = (0 : Int32)))).1) (by decide) (by decide) ?_
    show Steps p.tables e below (T59.setTop (mkF m 42 #[.val (.ref w_1), .val (.ref w_1), .val (.ref w_4), .val (.int (4 : Int32)), .val (.int (0 : Int32)), .val (.ref w_1)] [])) _
    refine XS.iinc X59.here hx rfl (hb hby d2_42) rfl (l' := #[.val (.ref w_1), .val (.ref w_1), .val (.ref w_4), .val (.int (4 : Int32)), .val (.int ((0 : Int32) + (1 : Int32))), .val (.ref w_1)]) rfl ?_
    show Steps p.tables e below (T59.setTop (mkF m 45 #[.val (.ref w_1), .val (.ref w_1), .val (.ref w_4), .val (.int (4 : Int32)), .val (.int ((0 : Int32) + (1 : Int32))), .val (.ref w_1)] [])) _
    refine XS.goto X59.here hx rfl (pc0 := 45) (pc' := 10) rfl (hb hby d2_45) (by decide) (by decide) ?_
    show Steps p.tables e below (T59.setTop (mkF m 10 #[.val (.ref w_1), .val (.ref w_1), .val (.ref w_4), .val (.int (4 : Int32)), .val (.int ((0 : Int32) + (1 : Int32))), .val (.ref w_1)] [])) _
    refine XS.iload X59.here hx rfl (hb hby d2_10) rfl ?_
    show Steps p.tables e below (T59.setTop (mkF m 12 #[.val (.ref w_1), .val (.ref w_1), .val (.ref w_4), .val (.int (4 : Int32)), .val (.int ((0 : Int32) + (1 : Int32))), .val (.ref w_1)] [(.int ((0 : Int32) + (1 : Int32)))])) _
    refine XS.iloadN X59.here hx rfl (hb hby d2_12) rfl ?_
    show Steps p.tables e below (T59.setTop (mkF m 13 #[.val (.ref w_1), .val (.ref w_1), .val (.ref w_4), .val (.int (4 : Int32)), .val (.int ((0 : Int32) + (1 : Int32))), .val (.ref w_1)] [(.int (4 : Int32)), (.int ((0 : Int32) + (1 : Int32)))])) _
    refine XS.icmpNo X59.here hx rfl (hb hby d2_13) rfl (tlt (by decide : (((0 : Int32) + (1 : Int32)) < (4 : Int32)))).2.1 ?_
    show Steps p.tables e below (T59.setTop (mkF m 16 #[.val (.ref w_1), .val (.ref w_1), .val (.ref w_4), .val (.int (4 : Int32)), .val (.int ((0 : Int32) + (1 : Int32))), .val (.ref w_1)] [])) _
    refine XS.aloadN X59.here hx rfl (hb hby d2_16) rfl rfl ?_
    show Steps p.tables e below (T59.setTop (mkF m 17 #[.val (.ref w_1), .val (.ref w_1), .val (.ref w_4), .val (.int (4 : Int32)), .val (.int ((0 : Int32) + (1 : Int32))), .val (.ref w_1)] [(.ref w_4)])) _
    refine XS.iload X59.here hx rfl (hb hby d2_17) rfl ?_
    show Steps p.tables e below (T59.setTop (mkF m 19 #[.val (.ref w_1), .val (.ref w_1), .val (.ref w_4), .val (.int (4 : Int32)), .val (.int ((0 : Int32) + (1 : Int32))), .val (.ref w_1)] [(.int ((0 : Int32) + (1 : Int32))), (.ref w_4)])) _
    refine X59.aaload hx (j := ((0 : Int32) + (1 : Int32))) (v := (.ref w_5)) (by rw [e59]; exact Ar60.1) (State.isArrayOf_alike hZ.alike Ar60.2.1) rfl Ar60.2.2 hin60 hat60 (g := (mkF m 19 #[.val (.ref w_1), .val (.ref w_1), .val (.ref w_4), .val (.int (4 : Int32)), .val (.int ((0 : Int32) + (1 : Int32))), .val (.ref w_1)] [(.int ((0 : Int32) + (1 : Int32))), (.ref w_4)])) rfl rfl (hb hby d2_19) _ ?_
    show Steps p.tables e below (T59.setTop (mkF m 20 #[.val (.ref w_1), .val (.ref w_1), .val (.ref w_4), .val (.int (4 : Int32)), .val (.int ((0 : Int32) + (1 : Int32))), .val (.ref w_1)] [(.ref w_5)])) _
    refine XS.astore X59.here hx rfl (hb hby d2_20) rfl rfl (l' := #[.val (.ref w_1), .val (.ref w_1), .val (.ref w_4), .val (.int (4 : Int32)), .val (.int ((0 : Int32) + (1 : Int32))), .val (.ref w_5)]) rfl ?_
    show Steps p.tables e below (T59.setTop (mkF m 22 #[.val (.ref w_1), .val (.ref w_1), .val (.ref w_4), .val (.int (4 : Int32)), .val (.int ((0 : Int32) + (1 : Int32))), .val (.ref w_5)] [])) _
    refine XS.aloadN X59.here hx rfl (hb hby d2_22) rfl rfl ?_
    show Steps p.tables e below (T59.setTop (mkF m 23 #[.val (.ref w_1), .val (.ref w_1), .val (.ref w_4), .val (.int (4 : Int32)), .val (.int ((0 : Int32) + (1 : Int32))), .val (.ref w_5)] [(.ref w_1)])) _
    refine XS.aload X59.here hx rfl (hb hby d2_23) rfl rfl ?_
    show Steps p.tables e below (T59.setTop (mkF m 25 #[.val (.ref w_1), .val (.ref w_1), .val (.ref w_4), .val (.int (4 : Int32)), .val (.int ((0 : Int32) + (1 : Int32))), .val (.ref w_5)] [(.ref w_5), (.ref w_1)])) _
    refine st61.trans ?_
    show Steps p.tables e below (T61.setTop (mkF m 28 #[.val (.ref w_1), .val (.ref w_1), .val (.ref w_4), .val (.int (4 : Int32)), .val (.int ((0 : Int32) + (1 : Int32))), .val (.ref w_5)] [(.int (1 : Int32))])) _
    refine XS.ifNo X61.here hx rfl (hb hby d2_28) rfl ((if0 _ _).trans (feq (by decide : ¬ ((1 : Int32) = (0 : Int32)))).1) ?_
    show Steps p.tables e below (T61.setTop (mkF m 31 #[.val (.ref w_1), .val (.ref w_1), .val (.ref w_4), .val (.int (4 : Int32)), .val (.int ((0 : Int32) + (1 : Int32))), .val (.ref w_5)] [])) _
    refine XS.aloadN X61.here hx rfl (hb hby d2_31) rfl rfl ?_
    show Steps p.tables e below (T61.setTop (mkF m 32 #[.val (.ref w_1), .val (.ref w_1), .val (.ref w_4), .val (.int (4 : Int32)), .val (.int ((0 : Int32) + (1 : Int32))), .val (.ref w_5)] [(.ref w_1)])) _
    refine XS.aload X61.here hx rfl (hb hby d2_32) rfl rfl ?_
    show Steps p.tables e below (T61.setTop (mkF m 34 #[.val (.ref w_1), .val (.ref w_1), .val (.ref w_4), .val (.int (4 : Int32)), .val (.int ((0 : Int32) + (1 : Int32))), .val (.ref w_5)] [(.ref w_5), (.ref w_1)])) _
    refine st62.trans ?_
    show Steps p.tables e below (T62.setTop (mkF m 37 #[.val (.ref w_1), .val (.ref w_1), .val (.ref w_4), .val (.int (4 : Int32)), .val (.int ((0 : Int32) + (1 : Int32))), .val (.ref w_5)] [(.int (1 : Int32))])) _
    refine XS.ifYes X62.here hx rfl (pc0 := 37) (pc' := 42) rfl (hb hby d2_37) rfl ((if0 _ _).trans (feq (by decide : ¬ ((1 : Int32) = (0 : Int32)))).2) (by decide) (by decide) ?_
    show Steps p.tables e below (T62.setTop (mkF m 42 #[.val (.ref w_1), .val (.ref w_1), .val (.ref w_4), .val (.int (4 : Int32)), .val (.int ((0 : Int32) + (1 : Int32))), .val (.ref w_5)] [])) _
    refine XS.iinc X62.here hx rfl (hb hby d2_42) rfl (l' := #[.val (.ref w_1), .val (.ref w_1), .val (.ref w_4), .val (.int (4 : Int32)), .val (.int (((0 : Int32) + (1 : Int32)) + (1 : Int32))), .val (.ref w_5)]) rfl ?_
    show Steps p.tables e below (T62.setTop (mkF m 45 #[.val (.ref w_1), .val (.ref w_1), .val (.ref w_4), .val (.int (4 : Int32)), .val (.int (((0 : Int32) + (1 : Int32)) + (1 : Int32))), .val (.ref w_5)] [])) _
    refine XS.goto X62.here hx rfl (pc0 := 45) (pc' := 10) rfl (hb hby d2_45) (by decide) (by decide) ?_
    show Steps p.tables e below (T62.setTop (mkF m 10 #[.val (.ref w_1), .val (.ref w_1), .val (.ref w_4), .val (.int (4 : Int32)), .val (.int (((0 : Int32) + (1 : Int32)) + (1 : Int32))), .val (.ref w_5)] [])) _
    refine XS.iload X62.here hx rfl (hb hby d2_10) rfl ?_
    show Steps p.tables e below (T62.setTop (mkF m 12 #[.val (.ref w_1), .val (.ref w_1), .val (.ref w_4), .val (.int (4 : Int32)), .val (.int (((0 : Int32) + (1 : Int32)) + (1 : Int32))), .val (.ref w_5)] [(.int (((0 : Int32) + (1 : Int32)) + (1 : Int32)))])) _
    refine XS.iloadN X62.here hx rfl (hb hby d2_12) rfl ?_
    show Steps p.tables e below (T62.setTop (mkF m 13 #[.val (.ref w_1), .val (.ref w_1), .val (.ref w_4), .val (.int (4 : Int32)), .val (.int (((0 : Int32) + (1 : Int32)) + (1 : Int32))), .val (.ref w_5)] [(.int (4 : Int32)), (.int (((0 : Int32) + (1 : Int32)) + (1 : Int32)))])) _
    refine XS.icmpNo X62.here hx rfl (hb hby d2_13) rfl (tlt (by decide : ((((0 : Int32) + (1 : Int32)) + (1 : Int32)) < (4 : Int32)))).2.1 ?_
    show Steps p.tables e below (T62.setTop (mkF m 16 #[.val (.ref w_1), .val (.ref w_1), .val (.ref w_4), .val (.int (4 : Int32)), .val (.int (((0 : Int32) + (1 : Int32)) + (1 : Int32))), .val (.ref w_5)] [])) _
    refine XS.aloadN X62.here hx rfl (hb hby d2_16) rfl rfl ?_
    show Steps p.tables e below (T62.setTop (mkF m 17 #[.val (.ref w_1), .val (.ref w_1), .val (.ref w_4), .val (.int (4 : Int32)), .val (.int (((0 : Int32) + (1 : Int32)) + (1 : Int32))), .val (.ref w_5)] [(.ref w_4)])) _
    refine XS.iload X62.here hx rfl (hb hby d2_17) rfl ?_
    show Steps p.tables e below (T62.setTop (mkF m 19 #[.val (.ref w_1), .val (.ref w_1), .val (.ref w_4), .val (.int (4 : Int32)), .val (.int (((0 : Int32) + (1 : Int32)) + (1 : Int32))), .val (.ref w_5)] [(.int (((0 : Int32) + (1 : Int32)) + (1 : Int32))), (.ref w_4)])) _
    refine X62.aaload hx (j := (((0 : Int32) + (1 : Int32)) + (1 : Int32))) (v := (.ref w_3)) (by rw [e62]; exact Ar63.1) (State.isArrayOf_alike hZ.alike Ar63.2.1) rfl Ar63.2.2 hin63 hat63 (g := (mkF m 19 #[.val (.ref w_1), .val (.ref w_1), .val (.ref w_4), .val (.int (4 : Int32)), .val (.int (((0 : Int32) + (1 : Int32)) + (1 : Int32))), .val (.ref w_5)] [(.int (((0 : Int32) + (1 : Int32)) + (1 : Int32))), (.ref w_4)])) rfl rfl (hb hby d2_19) _ ?_
    show Steps p.tables e below (T62.setTop (mkF m 20 #[.val (.ref w_1), .val (.ref w_1), .val (.ref w_4), .val (.int (4 : Int32)), .val (.int (((0 : Int32) + (1 : Int32)) + (1 : Int32))), .val (.ref w_5)] [(.ref w_3)])) _
    refine XS.astore X62.here hx rfl (hb hby d2_20) rfl rfl (l' := #[.val (.ref w_1), .val (.ref w_1), .val (.ref w_4), .val (.int (4 : Int32)), .val (.int (((0 : Int32) + (1 : Int32)) + (1 : Int32))), .val (.ref w_3)]) rfl ?_
    show Steps p.tables e below (T62.setTop (mkF m 22 #[.val (.ref w_1), .val (.ref w_1), .val (.ref w_4), .val (.int (4 : Int32)), .val (.int (((0 : Int32) + (1 : Int32)) + (1 : Int32))), .val (.ref w_3)] [])) _
    refine XS.aloadN X62.here hx rfl (hb hby d2_22) rfl rfl ?_
    show Steps p.tables e below (T62.setTop (mkF m 23 #[.val (.ref w_1), .val (.ref w_1), .val (.ref w_4), .val (.int (4 : Int32)), .val (.int (((0 : Int32) + (1 : Int32)) + (1 : Int32))), .val (.ref w_3)] [(.ref w_1)])) _
    refine XS.aload X62.here hx rfl (hb hby d2_23) rfl rfl ?_
    show Steps p.tables e below (T62.setTop (mkF m 25 #[.val (.ref w_1), .val (.ref w_1), .val (.ref w_4), .val (.int (4 : Int32)), .val (.int (((0 : Int32) + (1 : Int32)) + (1 : Int32))), .val (.ref w_3)] [(.ref w_3), (.ref w_1)])) _
    refine st64.trans ?_
    show Steps p.tables e below (T64.setTop (mkF m 28 #[.val (.ref w_1), .val (.ref w_1), .val (.ref w_4), .val (.int (4 : Int32)), .val (.int (((0 : Int32) + (1 : Int32)) + (1 : Int32))), .val (.ref w_3)] [(.int (1 : Int32))])) _
    refine XS.ifNo X64.here hx rfl (hb hby d2_28) rfl ((if0 _ _).trans (feq (by decide : ¬ ((1 : Int32) = (0 : Int32)))).1) ?_
    show Steps p.tables e below (T64.setTop (mkF m 31 #[.val (.ref w_1), .val (.ref w_1), .val (.ref w_4), .val (.int (4 : Int32)), .val (.int (((0 : Int32) + (1 : Int32)) + (1 : Int32))), .val (.ref w_3)] [])) _
    refine XS.aloadN X64.here hx rfl (hb hby d2_31) rfl rfl ?_
    show Steps p.tables e below (T64.setTop (mkF m 32 #[.val (.ref w_1), .val (.ref w_1), .val (.ref w_4), .val (.int (4 : Int32)), .val (.int (((0 : Int32) + (1 : Int32)) + (1 : Int32))), .val (.ref w_3)] [(.ref w_1)])) _
    refine XS.aload X64.here hx rfl (hb hby d2_32) rfl rfl ?_
    show Steps p.tables e below (T64.setTop (mkF m 34 #[.val (.ref w_1), .val (.ref w_1), .val (.ref w_4), .val (.int (4 : Int32)), .val (.int (((0 : Int32) + (1 : Int32)) + (1 : Int32))), .val (.ref w_3)] [(.ref w_3), (.ref w_1)])) _
    refine st65.trans ?_
    show Steps p.tables e below (T65.setTop (mkF m 37 #[.val (.ref w_1), .val (.ref w_1), .val (.ref w_4), .val (.int (4 : Int32)), .val (.int (((0 : Int32) + (1 : Int32)) + (1 : Int32))), .val (.ref w_3)] [(.int (1 : Int32))])) _
    refine XS.ifYes X65.here hx rfl (pc0 := 37) (pc' := 42) rfl (hb hby d2_37) rfl ((if0 _ _).trans (feq (by decide : ¬ ((1 : Int32) = (0 : Int32)))).2) (by decide) (by decide) ?_
    show Steps p.tables e below (T65.setTop (mkF m 42 #[.val (.ref w_1), .val (.ref w_1), .val (.ref w_4), .val (.int (4 : Int32)), .val (.int (((0 : Int32) + (1 : Int32)) + (1 : Int32))), .val (.ref w_3)] [])) _
    refine XS.iinc X65.here hx rfl (hb hby d2_42) rfl (l' := #[.val (.ref w_1), .val (.ref w_1), .val (.ref w_4), .val (.int (4 : Int32)), .val (.int ((((0 : Int32) + (1 : Int32)) + (1 : Int32)) + (1 : Int32))), .val (.ref w_3)]) rfl ?_
    show Steps p.tables e below (T65.setTop (mkF m 45 #[.val (.ref w_1), .val (.ref w_1), .val (.ref w_4), .val (.int (4 : Int32)), .val (.int ((((0 : Int32) + (1 : Int32)) + (1 : Int32)) + (1 : Int32))), .val (.ref w_3)] [])) _
    refine XS.goto X65.here hx rfl (pc0 := 45) (pc' := 10) rfl (hb hby d2_45) (by decide) (by decide) ?_
    show Steps p.tables e below (T65.setTop (mkF m 10 #[.val (.ref w_1), .val (.ref w_1), .val (.ref w_4), .val (.int (4 : Int32)), .val (.int ((((0 : Int32) + (1 : Int32)) + (1 : Int32)) + (1 : Int32))), .val (.ref w_3)] [])) _
    refine XS.iload X65.here hx rfl (hb hby d2_10) rfl ?_
    show Steps p.tables e below (T65.setTop (mkF m 12 #[.val (.ref w_1), .val (.ref w_1), .val (.ref w_4), .val (.int (4 : Int32)), .val (.int ((((0 : Int32) + (1 : Int32)) + (1 : Int32)) + (1 : Int32))), .val (.ref w_3)] [(.int ((((0 : Int32) + (1 : Int32)) + (1 : Int32)) + (1 : Int32)))])) _
    refine XS.iloadN X65.here hx rfl (hb hby d2_12) rfl ?_
    show Steps p.tables e below (T65.setTop (mkF m 13 #[.val (.ref w_1), .val (.ref w_1), .val (.ref w_4), .val (.int (4 : Int32)), .val (.int ((((0 : Int32) + (1 : Int32)) + (1 : Int32)) + (1 : Int32))), .val (.ref w_3)] [(.int (4 : Int32)), (.int ((((0 : Int32) + (1 : Int32)) + (1 : Int32)) + (1 : Int32)))])) _
    refine XS.icmpNo X65.here hx rfl (hb hby d2_13) rfl (tlt (by decide : (((((0 : Int32) + (1 : Int32)) + (1 : Int32)) + (1 : Int32)) < (4 : Int32)))).2.1 ?_
    show Steps p.tables e below (T65.setTop (mkF m 16 #[.val (.ref w_1), .val (.ref w_1), .val (.ref w_4), .val (.int (4 : Int32)), .val (.int ((((0 : Int32) + (1 : Int32)) + (1 : Int32)) + (1 : Int32))), .val (.ref w_3)] [])) _
    refine XS.aloadN X65.here hx rfl (hb hby d2_16) rfl rfl ?_
    show Steps p.tables e below (T65.setTop (mkF m 17 #[.val (.ref w_1), .val (.ref w_1), .val (.ref w_4), .val (.int (4 : Int32)), .val (.int ((((0 : Int32) + (1 : Int32)) + (1 : Int32)) + (1 : Int32))), .val (.ref w_3)] [(.ref w_4)])) _
    refine XS.iload X65.here hx rfl (hb hby d2_17) rfl ?_
    show Steps p.tables e below (T65.setTop (mkF m 19 #[.val (.ref w_1), .val (.ref w_1), .val (.ref w_4), .val (.int (4 : Int32)), .val (.int ((((0 : Int32) + (1 : Int32)) + (1 : Int32)) + (1 : Int32))), .val (.ref w_3)] [(.int ((((0 : Int32) + (1 : Int32)) + (1 : Int32)) + (1 : Int32))), (.ref w_4)])) _
    refine X65.aaload hx (j := ((((0 : Int32) + (1 : Int32)) + (1 : Int32)) + (1 : Int32))) (v := (.ref w_2)) (by rw [e65]; exact Ar66.1) (State.isArrayOf_alike hZ.alike Ar66.2.1) rfl Ar66.2.2 hin66 hat66 (g := (mkF m 19 #[.val (.ref w_1), .val (.ref w_1), .val (.ref w_4), .val (.int (4 : Int32)), .val (.int ((((0 : Int32) + (1 : Int32)) + (1 : Int32)) + (1 : Int32))), .val (.ref w_3)] [(.int ((((0 : Int32) + (1 : Int32)) + (1 : Int32)) + (1 : Int32))), (.ref w_4)])) rfl rfl (hb hby d2_19) _ ?_
    show Steps p.tables e below (T65.setTop (mkF m 20 #[.val (.ref w_1), .val (.ref w_1), .val (.ref w_4), .val (.int (4 : Int32)), .val (.int ((((0 : Int32) + (1 : Int32)) + (1 : Int32)) + (1 : Int32))), .val (.ref w_3)] [(.ref w_2)])) _
    refine XS.astore X65.here hx rfl (hb hby d2_20) rfl rfl (l' := #[.val (.ref w_1), .val (.ref w_1), .val (.ref w_4), .val (.int (4 : Int32)), .val (.int ((((0 : Int32) + (1 : Int32)) + (1 : Int32)) + (1 : Int32))), .val (.ref w_2)]) rfl ?_
    show Steps p.tables e below (T65.setTop (mkF m 22 #[.val (.ref w_1), .val (.ref w_1), .val (.ref w_4), .val (.int (4 : Int32)), .val (.int ((((0 : Int32) + (1 : Int32)) + (1 : Int32)) + (1 : Int32))), .val (.ref w_2)] [])) _
    refine XS.aloadN X65.here hx rfl (hb hby d2_22) rfl rfl ?_
    show Steps p.tables e below (T65.setTop (mkF m 23 #[.val (.ref w_1), .val (.ref w_1), .val (.ref w_4), .val (.int (4 : Int32)), .val (.int ((((0 : Int32) + (1 : Int32)) + (1 : Int32)) + (1 : Int32))), .val (.ref w_2)] [(.ref w_1)])) _
    refine XS.aload X65.here hx rfl (hb hby d2_23) rfl rfl ?_
    show Steps p.tables e below (T65.setTop (mkF m 25 #[.val (.ref w_1), .val (.ref w_1), .val (.ref w_4), .val (.int (4 : Int32)), .val (.int ((((0 : Int32) + (1 : Int32)) + (1 : Int32)) + (1 : Int32))), .val (.ref w_2)] [(.ref w_2), (.ref w_1)])) _
    refine st67.trans ?_
    show Steps p.tables e below (T67.setTop (mkF m 28 #[.val (.ref w_1), .val (.ref w_1), .val (.ref w_4), .val (.int (4 : Int32)), .val (.int ((((0 : Int32) + (1 : Int32)) + (1 : Int32)) + (1 : Int32))), .val (.ref w_2)] [(.int (1 : Int32))])) _
    refine XS.ifNo X67.here hx rfl (hb hby d2_28) rfl ((if0 _ _).trans (feq (by decide : ¬ ((1 : Int32) = (0 : Int32)))).1) ?_
    show Steps p.tables e below (T67.setTop (mkF m 31 #[.val (.ref w_1), .val (.ref w_1), .val (.ref w_4), .val (.int (4 : Int32)), .val (.int ((((0 : Int32) + (1 : Int32)) + (1 : Int32)) + (1 : Int32))), .val (.ref w_2)] [])) _
    refine XS.aloadN X67.here hx rfl (hb hby d2_31) rfl rfl ?_
    show Steps p.tables e below (T67.setTop (mkF m 32 #[.val (.ref w_1), .val (.ref w_1), .val (.ref w_4), .val (.int (4 : Int32)), .val (.int ((((0 : Int32) + (1 : Int32)) + (1 : Int32)) + (1 : Int32))), .val (.ref w_2)] [(.ref w_1)])) _
    refine XS.aload X67.here hx rfl (hb hby d2_32) rfl rfl ?_
    show Steps p.tables e below (T67.setTop (mkF m 34 #[.val (.ref w_1), .val (.ref w_1), .val (.ref w_4), .val (.int (4 : Int32)), .val (.int ((((0 : Int32) + (1 : Int32)) + (1 : Int32)) + (1 : Int32))), .val (.ref w_2)] [(.ref w_2), (.ref w_1)])) _
    refine st68.trans ?_
    show Steps p.tables e below (T68.setTop (mkF m 37 #[.val (.ref w_1), .val (.ref w_1), .val (.ref w_4), .val (.int (4 : Int32)), .val (.int ((((0 : Int32) + (1 : Int32)) + (1 : Int32)) + (1 : Int32))), .val (.ref w_2)] [(.int (1 : Int32))])) _
    refine XS.ifYes X68.here hx rfl (pc0 := 37) (pc' := 42) rfl (hb hby d2_37) rfl ((if0 _ _).trans (feq (by decide : ¬ ((1 : Int32) = (0 : Int32)))).2) (by decide) (by decide) ?_
    show Steps p.tables e below (T68.setTop (mkF m 42 #[.val (.ref w_1), .val (.ref w_1), .val (.ref w_4), .val (.int (4 : Int32)), .val (.int ((((0 : Int32) + (1 : Int32)) + (1 : Int32)) + (1 : Int32))), .val (.ref w_2)] [])) _
    refine XS.iinc X68.here hx rfl (hb hby d2_42) rfl (l' := #[.val (.ref w_1), .val (.ref w_1), .val (.ref w_4), .val (.int (4 : Int32)), .val (.int (((((0 : Int32) + (1 : Int32)) + (1 : Int32)) + (1 : Int32)) + (1 : Int32))), .val (.ref w_2)]) rfl ?_
    show Steps p.tables e below (T68.setTop (mkF m 45 #[.val (.ref w_1), .val (.ref w_1), .val (.ref w_4), .val (.int (4 : Int32)), .val (.int (((((0 : Int32) + (1 : Int32)) + (1 : Int32)) + (1 : Int32)) + (1 : Int32))), .val (.ref w_2)] [])) _
    refine XS.goto X68.here hx rfl (pc0 := 45) (pc' := 10) rfl (hb hby d2_45) (by decide) (by decide) ?_
    show Steps p.tables e below (T68.setTop (mkF m 10 #[.val (.ref w_1), .val (.ref w_1), .val (.ref w_4), .val (.int (4 : Int32)), .val (.int (((((0 : Int32) + (1 : Int32)) + (1 : Int32)) + (1 : Int32)) + (1 : Int32))), .val (.ref w_2)] [])) _
    refine XS.iload X68.here hx rfl (hb hby d2_10) rfl ?_
    show Steps p.tables e below (T68.setTop (mkF m 12 #[.val (.ref w_1), .val (.ref w_1), .val (.ref w_4), .val (.int (4 : Int32)), .val (.int (((((0 : Int32) + (1 : Int32)) + (1 : Int32)) + (1 : Int32)) + (1 : Int32))), .val (.ref w_2)] [(.int (((((0 : Int32) + (1 : Int32)) + (1 : Int32)) + (1 : Int32)) + (1 : Int32)))])) _
    refine XS.iloadN X68.here hx rfl (hb hby d2_12) rfl ?_
    show Steps p.tables e below (T68.setTop (mkF m 13 #[.val (.ref w_1), .val (.ref w_1), .val (.ref w_4), .val (.int (4 : Int32)), .val (.int (((((0 : Int32) + (1 : Int32)) + (1 : Int32)) + (1 : Int32)) + (1 : Int32))), .val (.ref w_2)] [(.int (4 : Int32)), (.int (((((0 : Int32) + (1 : Int32)) + (1 : Int32)) + (1 : Int32)) + (1 : Int32)))])) _
    refine XS.icmpYes X68.here hx rfl (pc0 := 13) (pc' := 48) rfl (hb hby d2_13) rfl (flt (by decide : ¬ ((((((0 : Int32) + (1 : Int32)) + (1 : Int32)) + (1 : Int32)) + (1 : Int32)) < (4 : Int32)))).2.1 (by decide) (by decide) ?_
    show Steps p.tables e below (T68.setTop (mkF m 48 #[.val (.ref w_1), .val (.ref w_1), .val (.ref w_4), .val (.int (4 : Int32)), .val (.int (((((0 : Int32) + (1 : Int32)) + (1 : Int32)) + (1 : Int32)) + (1 : Int32))), .val (.ref w_2)] [])) _
    refine XS.iconst X68.here hx rfl (hb hby d2_48) ?_
    show Steps p.tables e below (T68.setTop (mkF m 49 #[.val (.ref w_1), .val (.ref w_1), .val (.ref w_4), .val (.int (4 : Int32)), .val (.int (((((0 : Int32) + (1 : Int32)) + (1 : Int32)) + (1 : Int32)) + (1 : Int32))), .val (.ref w_2)] [(.int (1 : Int32))])) _
    exact retN X68 hx (t := .boolean) Bd.returns (by simp) (hb hby d2_49) hr
  · show Q2x1 Z w_1 w_2 w_3 w_4 w_5 k_4 h0 n0 _ T68.heap _
    rw [e68]
    exact ⟨by unfold sp2x1; rfl, N68, rfl⟩
theorem pn_2x2 : plainName "com/example/lucid_locks/lucidlocks/locks/LockMode" = true := by first | (simp [plainName, overriddenIn]; done) | decide +kernel
theorem ef_2x2 (m : MethodId) (w_1 : Addr) (w_5 : Addr) : entryFrame m #[(.ref w_1), (.ref w_5)] 6 = mkF m 0 #[.val (.ref w_1), .val (.ref w_5), .unset, .unset, .unset, .unset] [] := by first | (simp [entryFrame, mkF, argsToLocals, Value.category]; done) | rfl
def sp2x2  : Int32 := (0 : Int32)
def Q2x2 (Z : State) (w_1 : Addr) (w_2 : Addr) (w_3 : Addr) (w_4 : Addr) (w_5 : Addr) (k_4 : ClassId) (h0 : Heap) (n0 : Nat) (v : Option Value) (h : Heap) (L : List Loc) : Prop := v = some (.int (sp2x2)) ∧ Fr n0 L ∧ h = h0
set_option maxRecDepth 65536 in
set_option maxHeartbeats 40000000 in
theorem rm2x2 (l : Launch) (Z : State) (a0 : Array Value) (hw : ∀ d ∈ tables_1, d.before a0 Z = true) (ws : List Jvm.Cond) (w_1 : Addr) (w_2 : Addr) (w_3 : Addr) (w_4 : Addr) (w_5 : Addr) (k_4 : ClassId) (hS : StF Z w_1 w_2 w_3 w_4 w_5 k_4) (h0 : Heap) (n0 : Nat) (O0 : Old Z n0 h0) :
    MetFree l Y2 (head1 (Jvm.Cond.code Y2 prog_17_method_7_code 6 (some .boolean) :: ws) ({ frames := 1, cells := 0, slots := 0, locals := 13 } : Room)) (fun a U => a = #[(.ref w_1), (.ref w_5)] ∧ Z.Warmed39 U.vm ∧ U.heap = h0) (fun _ _ _ _ _ => True) (fun _ U o U' => ∃ v L, o = .returned v ∧ Q2x2 Z w_1 w_2 w_3 w_4 w_5 k_4 h0 n0 v U'.heap L ∧ FrameEnd U o U' L ({ frames := 1, cells := 0, slots := 0, locals := 13 } : Room).cells ({ frames := 1, cells := 0, slots := 0, locals := 13 } : Room).slots) := by
  refine MetFree.of_bodySF (plainFor_of_name pn_2x2) hisR ?_
  intro p e s m args below meth c s₁ Bd hml0 hP hK
  obtain ⟨rfl, hZ, hh⟩ := hP
  have hx := Bd.exec
  have hby := Bd.bytes
  have hml : c.maxLocals = 6 := hml0
  have hown : s.vm.findClass "com/example/lucid_locks/lucidlocks/locks/LockMode" = some m.cls := findClass_of_methodNamed Bd.named
  have hnm := (name_of_methodNamed Bd.named Bd.method).1
  have X0 : Stand p l e ({ frames := 1, cells := 0, slots := 0, locals := 13 } : Room) s m #[(.ref w_1), (.ref w_5)] below meth c s₁ [] 0 0 := Stand.of_body Bd
  have e0 : s₁.heap = h0 := by rw [← hh, Bd.state]; rfl
  have N0 := Fr.nil n0
  have hS0 := hS
  obtain ⟨S_1, E_1, S_2, E_2, S_3, E_3, S_4, S_5, E_5, F_1_ordinal, F_3_ordinal, F_2_ordinal, F_1_sharedWithItself, F_5_ordinal, F_5_sharedWithItself, F_3_sharedWithItself, F_2_sharedWithItself, V_4⟩ := hS
  have pre0 : ∀ t, Steps p.tables e below (s₁.setTop (mkF m 0 #[.val (.ref w_1), .val (.ref w_5), .unset, .unset, .unset, .unset] [])) t → Steps p.tables e below (s₁.setTop (entryFrame m #[(.ref w_1), (.ref w_5)] 6)) t := fun t k => castTop (ef_2x2 m w_1 w_5) k
  obtain ⟨T75, X75, e75, st75⟩ := getS2 X0 hx hZ hown (host := "") (Or.inl (hw _ (tk 16 rfl))) Via.refl e0 (S_4.ext O0.2) (g := (mkF m 0 #[.val (.ref w_1), .val (.ref w_5), .unset, .unset, .unset, .unset] [])) rfl (hb hby d2_0)
  obtain ⟨cl76, Ar76, qa76, Sa76, Ma76, Ha76, Ga76⟩ := id (V_4.ext O0.2)
  obtain ⟨cl77, Ar77, qa77, Sa77, Ma77, Ha77, Ga77⟩ := id (V_4.ext O0.2)
  have hin77 : ¬ ((0 : Int32) < 0 ∨ cl77.slots.size ≤ ((0 : Int32)).toNatClampNeg) := by  exact inb_of Sa77 ⟨by decide, by decide⟩
  have hat77 : cl77.slots[((0 : Int32)).toNatClampNeg]? = some (.ref w_1) := Has.at Ha77 hin77 (by rfl)
  obtain ⟨cq78, kq78, q78a, q78b, q78c⟩ := isOf hZ e75 (E_5.ext O0.2)
  obtain ⟨_, _, ⟨T78, L78, k78, n78⟩, -, X78, ⟨Lc78, hQ78, l78, y78, z78⟩, st78⟩ := X75.virtualBack hx (y := Y1) (z := Y1) hown (mvT hZ (hw _ (tk 18 rfl))) (mvT hZ (hw _ (tk 19 rfl))) (notFace_of_selects (args := #[]) (mvT hZ (hw _ (tk 21 rfl)))) (mvT hZ (hw _ (tk 21 rfl))) (mvT hZ (hw _ (tk 20 rfl))) (by decide) (backOf (W := 0) (rm3 l Z a0 hw [] w_1 w_2 w_3 w_4 w_5 k_4 hS0 w_5 w_1 (1 : Int32) h0 n0 O0 (F_5_sharedWithItself.ext O0.2)) hZ (hw _ (tk 22 rfl)) (hw _ (tk 5 rfl)) (by decide) (by decide)) q78a q78c (g := (mkF m 25 #[.val (.ref w_1), .val (.ref w_5), .val (.ref w_4), .val (.int (4 : Int32)), .val (.int (0 : Int32)), .val (.ref w_1)] [(.ref w_1), (.ref w_5)])) rfl (by rw [hml]; rfl) (Steps.refl _) (argsL := [(.ref w_1)]) (rest := []) (lenOf pd_1 rfl) rfl (by show 2 * 0 + _ ≤ _; exact Nat.le_of_eq rfl) (hb hby d2_25) (fun _ _ => ⟨rfl, e75, (by decide : 0 + 0 ≤ _), (by decide : 0 + 0 ≤ _)⟩)
  dsimp only [Pt.U, Pt.locs, Pt.cells, Pt.slots] at X78 l78 y78 z78 st78 hQ78
  subst l78 y78 z78
  obtain ⟨rv78, N78q, e78⟩ := hQ78
  rw [show sp3 w_5 w_1 (1 : Int32) = (1 : Int32) from by unfold sp3; rw [if_neg (Fld.ne F_5_ordinal F_1_ordinal (by decide))]] at rv78
  subst rv78
  have N78 := Fr.app N0 N78q
  obtain ⟨cq79, kq79, q79a, q79b, q79c⟩ := isOf hZ e78 (E_1.ext O0.2)
  obtain ⟨_, _, ⟨T79, L79, k79, n79⟩, -, X79, ⟨Lc79, hQ79, l79, y79, z79⟩, st79⟩ := X78.virtualBack hx (y := Y1) (z := Y1) hown (mvT hZ (hw _ (tk 18 rfl))) (mvT hZ (hw _ (tk 19 rfl))) (notFace_of_selects (args := #[]) (mvT hZ (hw _ (tk 21 rfl)))) (mvT hZ (hw _ (tk 21 rfl))) (mvT hZ (hw _ (tk 20 rfl))) (by decide) (backOf (W := 0) (rm3 l Z a0 hw [] w_1 w_2 w_3 w_4 w_5 k_4 hS0 w_1 w_1 (1 : Int32) h0 n0 O0 (F_1_sharedWithItself.ext O0.2)) hZ (hw _ (tk 22 rfl)) (hw _ (tk 5 rfl)) (by decide) (by decide)) q79a q79c (g := (mkF m 34 #[.val (.ref w_1), .val (.ref w_5), .val (.ref w_4), .val (.int (4 : Int32)), .val (.int (0 : Int32)), .val (.ref w_1)] [(.ref w_1), (.ref w_1)])) rfl (by rw [hml]; rfl) (Steps.refl _) (argsL := [(.ref w_1)]) (rest := []) (lenOf pd_1 rfl) rfl (by show 2 * 0 + _ ≤ _; exact Nat.le_of_eq rfl) (hb hby d2_34) (fun _ _ => ⟨rfl, e78, (by decide : 0 + 0 ≤ _), (by decide : 0 + 0 ≤ _)⟩)
  dsimp only [Pt.U, Pt.locs, Pt.cells, Pt.slots] at X79 l79 y79 z79 st79 hQ79
  subst l79 y79 z79
  obtain ⟨rv79, N79q, e79⟩ := hQ79
  rw [show sp3 w_1 w_1 (1 : Int32) = (0 : Int32) from by unfold sp3; rw [if_pos rfl, if_neg (by decide : ¬ ((1 : Int32) = (0 : Int32)))]] at rv79
  subst rv79
  have N79 := Fr.app N78 N79q
  obtain ⟨fs, hr, hrun, hended, hW, hsame⟩ := X79.leave (v := some (.int (0 : Int32))) (fun h => by rw [Bd.returns] at h; cases h)
  refine ⟨_, _, pre0 _ ?_, hrun, hended, _, _, rfl, ?_, ⟨_, rfl⟩, hW, hsame.mono (by decide) (by decide)⟩
  · show Steps p.tables e below (s₁.setTop (mkF m 0 #[.val (.ref w_1), .val (.ref w_5), .unset, .unset, .unset, .unset] [])) _
    refine st75 _ ?_
    show Steps p.tables e below (T75.setTop (mkF m 3 #[.val (.ref w_1), .val (.ref w_5), .unset, .unset, .unset, .unset] [(.ref w_4)])) _
    refine XS.astoreN X75.here hx rfl (hb hby d2_3) rfl rfl (l' := #[.val (.ref w_1), .val (.ref w_5), .val (.ref w_4), .unset, .unset, .unset]) rfl ?_
    show Steps p.tables e below (T75.setTop (mkF m 4 #[.val (.ref w_1), .val (.ref w_5), .val (.ref w_4), .unset, .unset, .unset] [])) _
    refine XS.aloadN X75.here hx rfl (hb hby d2_4) rfl rfl ?_
    show Steps p.tables e below (T75.setTop (mkF m 5 #[.val (.ref w_1), .val (.ref w_5), .val (.ref w_4), .unset, .unset, .unset] [(.ref w_4)])) _
    refine X75.arraylength hx (by rw [e75]; exact Ar76.1) (State.isArrayOf_alike hZ.alike Ar76.2.1) (g := (mkF m 5 #[.val (.ref w_1), .val (.ref w_5), .val (.ref w_4), .unset, .unset, .unset] [(.ref w_4)])) rfl rfl (hb hby d2_5) _ ?_
    rw [len_of Sa76 Ma76]
    show Steps p.tables e below (T75.setTop (mkF m 6 #[.val (.ref w_1), .val (.ref w_5), .val (.ref w_4), .unset, .unset, .unset] [(.int (4 : Int32))])) _
    refine XS.istoreN X75.here hx rfl (hb hby d2_6) rfl (l' := #[.val (.ref w_1), .val (.ref w_5), .val (.ref w_4), .val (.int (4 : Int32)), .unset, .unset]) rfl ?_
    show Steps p.tables e below (T75.setTop (mkF m 7 #[.val (.ref w_1), .val (.ref w_5), .val (.ref w_4), .val (.int (4 : Int32)), .unset, .unset] [])) _
    refine XS.iconst X75.here hx rfl (hb hby d2_7) ?_
    show Steps p.tables e below (T75.setTop (mkF m 8 #[.val (.ref w_1), .val (.ref w_5), .val (.ref w_4), .val (.int (4 : Int32)), .unset, .unset] [(.int (0 : Int32))])) _
    refine XS.istore X75.here hx rfl (hb hby d2_8) rfl (l' := #[.val (.ref w_1), .val (.ref w_5), .val (.ref w_4), .val (.int (4 : Int32)), .val (.int (0 : Int32)), .unset]) rfl ?_
    show Steps p.tables e below (T75.setTop (mkF m 10 #[.val (.ref w_1), .val (.ref w_5), .val (.ref w_4), .val (.int (4 : Int32)), .val (.int (0 : Int32)), .unset] [])) _
    refine XS.iload X75.here hx rfl (hb hby d2_10) rfl ?_
    show Steps p.tables e below (T75.setTop (mkF m 12 #[.val (.ref w_1), .val (.ref w_5), .val (.ref w_4), .val (.int (4 : Int32)), .val (.int (0 : Int32)), .unset] [(.int (0 : Int32))])) _
    refine XS.iloadN X75.here hx rfl (hb hby d2_12) rfl ?_
    show Steps p.tables e below (T75.setTop (mkF m 13 #[.val (.ref w_1), .val (.ref w_5), .val (.ref w_4), .val (.int (4 : Int32)), .val (.int (0 : Int32)), .unset] [(.int (4 : Int32)), (.int (0 : Int32))])) _
    refine XS.icmpNo X75.here hx rfl (hb hby d2_13) rfl (tlt (by decide : ((0 : Int32) < (4 : Int32)))).2.1 ?_
    show Steps p.tables e below (T75.setTop (mkF m 16 #[.val (.ref w_1), .val (.ref w_5), .val (.ref w_4), .val (.int (4 : Int32)), .val (.int (0 : Int32)), .unset] [])) _
    refine XS.aloadN X75.here hx rfl (hb hby d2_16) rfl rfl ?_
    show Steps p.tables e below (T75.setTop (mkF m 17 #[.val (.ref w_1), .val (.ref w_5), .val (.ref w_4), .val (.int (4 : Int32)), .val (.int (0 : Int32)), .unset] [(.ref w_4)])) _
    refine XS.iload X75.here hx rfl (hb hby d2_17) rfl ?_
    show Steps p.tables e below (T75.setTop (mkF m 19 #[.val (.ref w_1), .val (.ref w_5), .val (.ref w_4), .val (.int (4 : Int32)), .val (.int (0 : Int32)), .unset] [(.int (0 : Int32)), (.ref w_4)])) _
    refine X75.aaload hx (j := (0 : Int32)) (v := (.ref w_1)) (by rw [e75]; exact Ar77.1) (State.isArrayOf_alike hZ.alike Ar77.2.1) rfl Ar77.2.2 hin77 hat77 (g := (mkF m 19 #[.val (.ref w_1), .val (.ref w_5), .val (.ref w_4), .val (.int (4 : Int32)), .val (.int (0 : Int32)), .unset] [(.int (0 : Int32)), (.ref w_4)])) rfl rfl (hb hby d2_19) _ ?_
    show Steps p.tables e below (T75.setTop (mkF m 20 #[.val (.ref w_1), .val (.ref w_5), .val (.ref w_4), .val (.int (4 : Int32)), .val (.int (0 : Int32)), .unset] [(.ref w_1)])) _
    refine XS.astore X75.here hx rfl (hb hby d2_20) rfl rfl (l' := #[.val (.ref w_1), .val (.ref w_5), .val (.ref w_4), .val (.int (4 : Int32)), .val (.int (0 : Int32)), .val (.ref w_1)]) rfl ?_
    show Steps p.tables e below (T75.setTop (mkF m 22 #[.val (.ref w_1), .val (.ref w_5), .val (.ref w_4), .val (.int (4 : Int32)), .val (.int (0 : Int32)), .val (.ref w_1)] [])) _
    refine XS.aloadN X75.here hx rfl (hb hby d2_22) rfl rfl ?_
    show Steps p.tables e below (T75.setTop (mkF m 23 #[.val (.ref w_1), .val (.ref w_5), .val (.ref w_4), .val (.int (4 : Int32)), .val (.int (0 : Int32)), .val (.ref w_1)] [(.ref w_5)])) _
    refine XS.aload X75.here hx rfl (hb hby d2_23) rfl rfl ?_
    show Steps p.tables e below (T75.setTop (mkF m 25 #[.val (.ref w_1), .val (.ref w_5), .val (.ref w_4), .val (.int (4 : Int32)), .val (.int (0 : Int32)), .val (.ref w_1)] [(.ref w_1), (.ref w_5)])) _
    refine st78.trans ?_
    show Steps p.tables e below (T78.setTop (mkF m 28 #[.val (.ref w_1), .val (.ref w_5), .val (.ref w_4), .val (.int (4 : Int32)), .val (.int (0 : Int32)), .val (.ref w_1)] [(.int (1 : Int32))])) _
    refine XS.ifNo X78.here hx rfl (hb hby d2_28) rfl ((if0 _ _).trans (feq (by decide : ¬ ((1 : Int32) = (0 : Int32)))).1) ?_
    show Steps p.tables e below (T78.setTop (mkF m 31 #[.val (.ref w_1), .val (.ref w_5), .val (.ref w_4), .val (.int (4 : Int32)), .val (.int (0 : Int32)), .val (.ref w_1)] [])) _
    refine XS.aloadN X78.here hx rfl (hb hby d2_31) rfl rfl ?_
    show Steps p.tables e below (T78.setTop (mkF m 32 #[.val (.ref w_1), .val (.ref w_5), .val (.ref w_4), .val (.int (4 : Int32)), .val (.int (0 : Int32)), .val (.ref w_1)] [(.ref w_1)])) _
    refine XS.aload X78.here hx rfl (hb hby d2_32) rfl rfl ?_
    show Steps p.tables e below (T78.setTop (mkF m 34 #[.val (.ref w_1), .val (.ref w_5), .val (.ref w_4), .val (.int (4 : Int32)), .val (.int (0 : Int32)), .val (.ref w_1)] [(.ref w_1), (.ref w_1)])) _
    refine st79.trans ?_
    show Steps p.tables e below (T79.setTop (mkF m 37 #[.val (.ref w_1), .val (.ref w_5), .val (.ref w_4), .val (.int (4 : Int32)), .val (.int (0 : Int32)), .val (.ref w_1)] [(.int (0 : Int32))])) _
    refine XS.ifNo X79.here hx rfl (hb hby d2_37) rfl ((if0 _ _).trans (teq (by decide : ((0 : Int32) = (0 : Int32)))).2) ?_
    show Steps p.tables e below (T79.setTop (mkF m 40 #[.val (.ref w_1), .val (.ref w_5), .val (.ref w_4), .val (.int (4 : Int32)), .val (.int (0 : Int32)), .val (.ref w_1)] [])) _
    refine XS.iconst X79.here hx rfl (hb hby d2_40) ?_
    show Steps p.tables e below (T79.setTop (mkF m 41 #[.val (.ref w_1), .val (.ref w_5), .val (.ref w_4), .val (.int (4 : Int32)), .val (.int (0 : Int32)), .val (.ref w_1)] [(.int (0 : Int32))])) _
    exact retN X79 hx (t := .boolean) Bd.returns (by simp) (hb hby d2_41) hr
  · show Q2x2 Z w_1 w_2 w_3 w_4 w_5 k_4 h0 n0 _ T79.heap _
    rw [e79]
    exact ⟨by unfold sp2x2; rfl, N79, rfl⟩
theorem pn_2x3 : plainName "com/example/lucid_locks/lucidlocks/locks/LockMode" = true := by first | (simp [plainName, overriddenIn]; done) | decide +kernel
theorem ef_2x3 (m : MethodId) (w_1 : Addr) (w_3 : Addr) : entryFrame m #[(.ref w_1), (.ref w_3)] 6 = mkF m 0 #[.val (.ref w_1), .val (.ref w_3), .unset, .unset, .unset, .unset] [] := by first | (simp [entryFrame, mkF, argsToLocals, Value.category]; done) | rfl
def sp2x3  : Int32 := (0 : Int32)
def Q2x3 (Z : State) (w_1 : Addr) (w_2 : Addr) (w_3 : Addr) (w_4 : Addr) (w_5 : Addr) (k_4 : ClassId) (h0 : Heap) (n0 : Nat) (v : Option Value) (h : Heap) (L : List Loc) : Prop := v = some (.int (sp2x3)) ∧ Fr n0 L ∧ h = h0
set_option maxRecDepth 65536 in
set_option maxHeartbeats 40000000 in
theorem rm2x3 (l : Launch) (Z : State) (a0 : Array Value) (hw : ∀ d ∈ tables_1, d.before a0 Z = true) (ws : List Jvm.Cond) (w_1 : Addr) (w_2 : Addr) (w_3 : Addr) (w_4 : Addr) (w_5 : Addr) (k_4 : ClassId) (hS : StF Z w_1 w_2 w_3 w_4 w_5 k_4) (h0 : Heap) (n0 : Nat) (O0 : Old Z n0 h0) :
    MetFree l Y2 (head1 (Jvm.Cond.code Y2 prog_17_method_7_code 6 (some .boolean) :: ws) ({ frames := 1, cells := 0, slots := 0, locals := 13 } : Room)) (fun a U => a = #[(.ref w_1), (.ref w_3)] ∧ Z.Warmed39 U.vm ∧ U.heap = h0) (fun _ _ _ _ _ => True) (fun _ U o U' => ∃ v L, o = .returned v ∧ Q2x3 Z w_1 w_2 w_3 w_4 w_5 k_4 h0 n0 v U'.heap L ∧ FrameEnd U o U' L ({ frames := 1, cells := 0, slots := 0, locals := 13 } : Room).cells ({ frames := 1, cells := 0, slots := 0, locals := 13 } : Room).slots) := by
  refine MetFree.of_bodySF (plainFor_of_name pn_2x3) hisR ?_
  intro p e s m args below meth c s₁ Bd hml0 hP hK
  obtain ⟨rfl, hZ, hh⟩ := hP
  have hx := Bd.exec
  have hby := Bd.bytes
  have hml : c.maxLocals = 6 := hml0
  have hown : s.vm.findClass "com/example/lucid_locks/lucidlocks/locks/LockMode" = some m.cls := findClass_of_methodNamed Bd.named
  have hnm := (name_of_methodNamed Bd.named Bd.method).1
  have X0 : Stand p l e ({ frames := 1, cells := 0, slots := 0, locals := 13 } : Room) s m #[(.ref w_1), (.ref w_3)] below meth c s₁ [] 0 0 := Stand.of_body Bd
  have e0 : s₁.heap = h0 := by rw [← hh, Bd.state]; rfl
  have N0 := Fr.nil n0
  have hS0 := hS
  obtain ⟨S_1, E_1, S_2, E_2, S_3, E_3, S_4, S_5, E_5, F_1_ordinal, F_3_ordinal, F_2_ordinal, F_1_sharedWithItself, F_5_ordinal, F_5_sharedWithItself, F_3_sharedWithItself, F_2_sharedWithItself, V_4⟩ := hS
  have pre0 : ∀ t, Steps p.tables e below (s₁.setTop (mkF m 0 #[.val (.ref w_1), .val (.ref w_3), .unset, .unset, .unset, .unset] [])) t → Steps p.tables e below (s₁.setTop (entryFrame m #[(.ref w_1), (.ref w_3)] 6)) t := fun t k => castTop (ef_2x3 m w_1 w_3) k
  obtain ⟨T86, X86, e86, st86⟩ := getS2 X0 hx hZ hown (host := "") (Or.inl (hw _ (tk 16 rfl))) Via.refl e0 (S_4.ext O0.2) (g := (mkF m 0 #[.val (.ref w_1), .val (.ref w_3), .unset, .unset, .unset, .unset] [])) rfl (hb hby d2_0)
  obtain ⟨cl87, Ar87, qa87, Sa87, Ma87, Ha87, Ga87⟩ := id (V_4.ext O0.2)
  obtain ⟨cl88, Ar88, qa88, Sa88, Ma88, Ha88, Ga88⟩ := id (V_4.ext O0.2)
  have hin88 : ¬ ((0 : Int32) < 0 ∨ cl88.slots.size ≤ ((0 : Int32)).toNatClampNeg) := by  exact inb_of Sa88 ⟨by decide, by decide⟩
  have hat88 : cl88.slots[((0 : Int32)).toNatClampNeg]? = some (.ref w_1) := Has.at Ha88 hin88 (by rfl)
  obtain ⟨cq89, kq89, q89a, q89b, q89c⟩ := isOf hZ e86 (E_3.ext O0.2)
  obtain ⟨_, _, ⟨T89, L89, k89, n89⟩, -, X89, ⟨Lc89, hQ89, l89, y89, z89⟩, st89⟩ := X86.virtualBack hx (y := Y1) (z := Y1) hown (mvT hZ (hw _ (tk 18 rfl))) (mvT hZ (hw _ (tk 19 rfl))) (notFace_of_selects (args := #[]) (mvT hZ (hw _ (tk 21 rfl)))) (mvT hZ (hw _ (tk 21 rfl))) (mvT hZ (hw _ (tk 20 rfl))) (by decide) (backOf (W := 0) (rm3 l Z a0 hw [] w_1 w_2 w_3 w_4 w_5 k_4 hS0 w_3 w_1 (0 : Int32) h0 n0 O0 (F_3_sharedWithItself.ext O0.2)) hZ (hw _ (tk 22 rfl)) (hw _ (tk 5 rfl)) (by decide) (by decide)) q89a q89c (g := (mkF m 25 #[.val (.ref w_1), .val (.ref w_3), .val (.ref w_4), .val (.int (4 : Int32)), .val (.int (0 : Int32)), .val (.ref w_1)] [(.ref w_1), (.ref w_3)])) rfl (by rw [hml]; rfl) (Steps.refl _) (argsL := [(.ref w_1)]) (rest := []) (lenOf pd_1 rfl) rfl (by show 2 * 0 + _ ≤ _; exact Nat.le_of_eq rfl) (hb hby d2_25) (fun _ _ => ⟨rfl, e86, (by decide : 0 + 0 ≤ _), (by decide : 0 + 0 ≤ _)⟩)
  dsimp only [Pt.U, Pt.locs, Pt.cells, Pt.slots] at X89 l89 y89 z89 st89 hQ89
  subst l89 y89 z89
  obtain ⟨rv89, N89q, e89⟩ := hQ89
  rw [show sp3 w_3 w_1 (0 : Int32) = (1 : Int32) from by unfold sp3; rw [if_neg (Fld.ne F_3_ordinal F_1_ordinal (by decide))]] at rv89
  subst rv89
  have N89 := Fr.app N0 N89q
  obtain ⟨cq90, kq90, q90a, q90b, q90c⟩ := isOf hZ e89 (E_1.ext O0.2)
  obtain ⟨_, _, ⟨T90, L90, k90, n90⟩, -, X90, ⟨Lc90, hQ90, l90, y90, z90⟩, st90⟩ := X89.virtualBack hx (y := Y1) (z := Y1) hown (mvT hZ (hw _ (tk 18 rfl))) (mvT hZ (hw _ (tk 19 rfl))) (notFace_of_selects (args := #[]) (mvT hZ (hw _ (tk 21 rfl)))) (mvT hZ (hw _ (tk 21 rfl))) (mvT hZ (hw _ (tk 20 rfl))) (by decide) (backOf (W := 0) (rm3 l Z a0 hw [] w_1 w_2 w_3 w_4 w_5 k_4 hS0 w_1 w_1 (1 : Int32) h0 n0 O0 (F_1_sharedWithItself.ext O0.2)) hZ (hw _ (tk 22 rfl)) (hw _ (tk 5 rfl)) (by decide) (by decide)) q90a q90c (g := (mkF m 34 #[.val (.ref w_1), .val (.ref w_3), .val (.ref w_4), .val (.int (4 : Int32)), .val (.int (0 : Int32)), .val (.ref w_1)] [(.ref w_1), (.ref w_1)])) rfl (by rw [hml]; rfl) (Steps.refl _) (argsL := [(.ref w_1)]) (rest := []) (lenOf pd_1 rfl) rfl (by show 2 * 0 + _ ≤ _; exact Nat.le_of_eq rfl) (hb hby d2_34) (fun _ _ => ⟨rfl, e89, (by decide : 0 + 0 ≤ _), (by decide : 0 + 0 ≤ _)⟩)
  dsimp only [Pt.U, Pt.locs, Pt.cells, Pt.slots] at X90 l90 y90 z90 st90 hQ90
  subst l90 y90 z90
  obtain ⟨rv90, N90q, e90⟩ := hQ90
  rw [show sp3 w_1 w_1 (1 : Int32) = (0 : Int32) from by unfold sp3; rw [if_pos rfl, if_neg (by decide : ¬ ((1 : Int32) = (0 : Int32)))]] at rv90
  subst rv90
  have N90 := Fr.app N89 N90q
  obtain ⟨fs, hr, hrun, hended, hW, hsame⟩ := X90.leave (v := some (.int (0 : Int32))) (fun h => by rw [Bd.returns] at h; cases h)
  refine ⟨_, _, pre0 _ ?_, hrun, hended, _, _, rfl, ?_, ⟨_, rfl⟩, hW, hsame.mono (by decide) (by decide)⟩
  · show Steps p.tables e below (s₁.setTop (mkF m 0 #[.val (.ref w_1), .val (.ref w_3), .unset, .unset, .unset, .unset] [])) _
    refine st86 _ ?_
    show Steps p.tables e below (T86.setTop (mkF m 3 #[.val (.ref w_1), .val (.ref w_3), .unset, .unset, .unset, .unset] [(.ref w_4)])) _
    refine XS.astoreN X86.here hx rfl (hb hby d2_3) rfl rfl (l' := #[.val (.ref w_1), .val (.ref w_3), .val (.ref w_4), .unset, .unset, .unset]) rfl ?_
    show Steps p.tables e below (T86.setTop (mkF m 4 #[.val (.ref w_1), .val (.ref w_3), .val (.ref w_4), .unset, .unset, .unset] [])) _
    refine XS.aloadN X86.here hx rfl (hb hby d2_4) rfl rfl ?_
    show Steps p.tables e below (T86.setTop (mkF m 5 #[.val (.ref w_1), .val (.ref w_3), .val (.ref w_4), .unset, .unset, .unset] [(.ref w_4)])) _
    refine X86.arraylength hx (by rw [e86]; exact Ar87.1) (State.isArrayOf_alike hZ.alike Ar87.2.1) (g := (mkF m 5 #[.val (.ref w_1), .val (.ref w_3), .val (.ref w_4), .unset, .unset, .unset] [(.ref w_4)])) rfl rfl (hb hby d2_5) _ ?_
    rw [len_of Sa87 Ma87]
    show Steps p.tables e below (T86.setTop (mkF m 6 #[.val (.ref w_1), .val (.ref w_3), .val (.ref w_4), .unset, .unset, .unset] [(.int (4 : Int32))])) _
    refine XS.istoreN X86.here hx rfl (hb hby d2_6) rfl (l' := #[.val (.ref w_1), .val (.ref w_3), .val (.ref w_4), .val (.int (4 : Int32)), .unset, .unset]) rfl ?_
    show Steps p.tables e below (T86.setTop (mkF m 7 #[.val (.ref w_1), .val (.ref w_3), .val (.ref w_4), .val (.int (4 : Int32)), .unset, .unset] [])) _
    refine XS.iconst X86.here hx rfl (hb hby d2_7) ?_
    show Steps p.tables e below (T86.setTop (mkF m 8 #[.val (.ref w_1), .val (.ref w_3), .val (.ref w_4), .val (.int (4 : Int32)), .unset, .unset] [(.int (0 : Int32))])) _
    refine XS.istore X86.here hx rfl (hb hby d2_8) rfl (l' := #[.val (.ref w_1), .val (.ref w_3), .val (.ref w_4), .val (.int (4 : Int32)), .val (.int (0 : Int32)), .unset]) rfl ?_
    show Steps p.tables e below (T86.setTop (mkF m 10 #[.val (.ref w_1), .val (.ref w_3), .val (.ref w_4), .val (.int (4 : Int32)), .val (.int (0 : Int32)), .unset] [])) _
    refine XS.iload X86.here hx rfl (hb hby d2_10) rfl ?_
    show Steps p.tables e below (T86.setTop (mkF m 12 #[.val (.ref w_1), .val (.ref w_3), .val (.ref w_4), .val (.int (4 : Int32)), .val (.int (0 : Int32)), .unset] [(.int (0 : Int32))])) _
    refine XS.iloadN X86.here hx rfl (hb hby d2_12) rfl ?_
    show Steps p.tables e below (T86.setTop (mkF m 13 #[.val (.ref w_1), .val (.ref w_3), .val (.ref w_4), .val (.int (4 : Int32)), .val (.int (0 : Int32)), .unset] [(.int (4 : Int32)), (.int (0 : Int32))])) _
    refine XS.icmpNo X86.here hx rfl (hb hby d2_13) rfl (tlt (by decide : ((0 : Int32) < (4 : Int32)))).2.1 ?_
    show Steps p.tables e below (T86.setTop (mkF m 16 #[.val (.ref w_1), .val (.ref w_3), .val (.ref w_4), .val (.int (4 : Int32)), .val (.int (0 : Int32)), .unset] [])) _
    refine XS.aloadN X86.here hx rfl (hb hby d2_16) rfl rfl ?_
    show Steps p.tables e below (T86.setTop (mkF m 17 #[.val (.ref w_1), .val (.ref w_3), .val (.ref w_4), .val (.int (4 : Int32)), .val (.int (0 : Int32)), .unset] [(.ref w_4)])) _
    refine XS.iload X86.here hx rfl (hb hby d2_17) rfl ?_
    show Steps p.tables e below (T86.setTop (mkF m 19 #[.val (.ref w_1), .val (.ref w_3), .val (.ref w_4), .val (.int (4 : Int32)), .val (.int (0 : Int32)), .unset] [(.int (0 : Int32)), (.ref w_4)])) _
    refine X86.aaload hx (j := (0 : Int32)) (v := (.ref w_1)) (by rw [e86]; exact Ar88.1) (State.isArrayOf_alike hZ.alike Ar88.2.1) rfl Ar88.2.2 hin88 hat88 (g := (mkF m 19 #[.val (.ref w_1), .val (.ref w_3), .val (.ref w_4), .val (.int (4 : Int32)), .val (.int (0 : Int32)), .unset] [(.int (0 : Int32)), (.ref w_4)])) rfl rfl (hb hby d2_19) _ ?_
    show Steps p.tables e below (T86.setTop (mkF m 20 #[.val (.ref w_1), .val (.ref w_3), .val (.ref w_4), .val (.int (4 : Int32)), .val (.int (0 : Int32)), .unset] [(.ref w_1)])) _
    refine XS.astore X86.here hx rfl (hb hby d2_20) rfl rfl (l' := #[.val (.ref w_1), .val (.ref w_3), .val (.ref w_4), .val (.int (4 : Int32)), .val (.int (0 : Int32)), .val (.ref w_1)]) rfl ?_
    show Steps p.tables e below (T86.setTop (mkF m 22 #[.val (.ref w_1), .val (.ref w_3), .val (.ref w_4), .val (.int (4 : Int32)), .val (.int (0 : Int32)), .val (.ref w_1)] [])) _
    refine XS.aloadN X86.here hx rfl (hb hby d2_22) rfl rfl ?_
    show Steps p.tables e below (T86.setTop (mkF m 23 #[.val (.ref w_1), .val (.ref w_3), .val (.ref w_4), .val (.int (4 : Int32)), .val (.int (0 : Int32)), .val (.ref w_1)] [(.ref w_3)])) _
    refine XS.aload X86.here hx rfl (hb hby d2_23) rfl rfl ?_
    show Steps p.tables e below (T86.setTop (mkF m 25 #[.val (.ref w_1), .val (.ref w_3), .val (.ref w_4), .val (.int (4 : Int32)), .val (.int (0 : Int32)), .val (.ref w_1)] [(.ref w_1), (.ref w_3)])) _
    refine st89.trans ?_
    show Steps p.tables e below (T89.setTop (mkF m 28 #[.val (.ref w_1), .val (.ref w_3), .val (.ref w_4), .val (.int (4 : Int32)), .val (.int (0 : Int32)), .val (.ref w_1)] [(.int (1 : Int32))])) _
    refine XS.ifNo X89.here hx rfl (hb hby d2_28) rfl ((if0 _ _).trans (feq (by decide : ¬ ((1 : Int32) = (0 : Int32)))).1) ?_
    show Steps p.tables e below (T89.setTop (mkF m 31 #[.val (.ref w_1), .val (.ref w_3), .val (.ref w_4), .val (.int (4 : Int32)), .val (.int (0 : Int32)), .val (.ref w_1)] [])) _
    refine XS.aloadN X89.here hx rfl (hb hby d2_31) rfl rfl ?_
    show Steps p.tables e below (T89.setTop (mkF m 32 #[.val (.ref w_1), .val (.ref w_3), .val (.ref w_4), .val (.int (4 : Int32)), .val (.int (0 : Int32)), .val (.ref w_1)] [(.ref w_1)])) _
    refine XS.aload X89.here hx rfl (hb hby d2_32) rfl rfl ?_
    show Steps p.tables e below (T89.setTop (mkF m 34 #[.val (.ref w_1), .val (.ref w_3), .val (.ref w_4), .val (.int (4 : Int32)), .val (.int (0 : Int32)), .val (.ref w_1)] [(.ref w_1), (.ref w_1)])) _
    refine st90.trans ?_
    show Steps p.tables e below (T90.setTop (mkF m 37 #[.val (.ref w_1), .val (.ref w_3), .val (.ref w_4), .val (.int (4 : Int32)), .val (.int (0 : Int32)), .val (.ref w_1)] [(.int (0 : Int32))])) _
    refine XS.ifNo X90.here hx rfl (hb hby d2_37) rfl ((if0 _ _).trans (teq (by decide : ((0 : Int32) = (0 : Int32)))).2) ?_
    show Steps p.tables e below (T90.setTop (mkF m 40 #[.val (.ref w_1), .val (.ref w_3), .val (.ref w_4), .val (.int (4 : Int32)), .val (.int (0 : Int32)), .val (.ref w_1)] [])) _
    refine XS.iconst X90.here hx rfl (hb hby d2_40) ?_
    show Steps p.tables e below (T90.setTop (mkF m 41 #[.val (.ref w_1), .val (.ref w_3), .val (.ref w_4), .val (.int (4 : Int32)), .val (.int (0 : Int32)), .val (.ref w_1)] [(.int (0 : Int32))])) _
    exact retN X90 hx (t := .boolean) Bd.returns (by simp) (hb hby d2_41) hr
  · show Q2x3 Z w_1 w_2 w_3 w_4 w_5 k_4 h0 n0 _ T90.heap _
    rw [e90]
    exact ⟨by unfold sp2x3; rfl, N90, rfl⟩
theorem pn_2x4 : plainName "com/example/lucid_locks/lucidlocks/locks/LockMode" = true := by first | (simp [plainName, overriddenIn]; done) | decide +kernel
theorem ef_2x4 (m : MethodId) (w_1 : Addr) (w_2 : Addr) : entryFrame m #[(.ref w_1), (.ref w_2)] 6 = mkF m 0 #[.val (.ref w_1), .val (.ref w_2), .unset, .unset, .unset, .unset] [] := by first | (simp [entryFrame, mkF, argsToLocals, Value.category]; done) | rfl
def sp2x4  : Int32 := (0 : Int32)
def Q2x4 (Z : State) (w_1 : Addr) (w_2 : Addr) (w_3 : Addr) (w_4 : Addr) (w_5 : Addr) (k_4 : ClassId) (h0 : Heap) (n0 : Nat) (v : Option Value) (h : Heap) (L : List Loc) : Prop := v = some (.int (sp2x4)) ∧ Fr n0 L ∧ h = h0
set_option maxRecDepth 65536 in
set_option maxHeartbeats 40000000 in
theorem rm2x4 (l : Launch) (Z : State) (a0 : Array Value) (hw : ∀ d ∈ tables_1, d.before a0 Z = true) (ws : List Jvm.Cond) (w_1 : Addr) (w_2 : Addr) (w_3 : Addr) (w_4 : Addr) (w_5 : Addr) (k_4 : ClassId) (hS : StF Z w_1 w_2 w_3 w_4 w_5 k_4) (h0 : Heap) (n0 : Nat) (O0 : Old Z n0 h0) :
    MetFree l Y2 (head1 (Jvm.Cond.code Y2 prog_17_method_7_code 6 (some .boolean) :: ws) ({ frames := 1, cells := 0, slots := 0, locals := 13 } : Room)) (fun a U => a = #[(.ref w_1), (.ref w_2)] ∧ Z.Warmed39 U.vm ∧ U.heap = h0) (fun _ _ _ _ _ => True) (fun _ U o U' => ∃ v L, o = .returned v ∧ Q2x4 Z w_1 w_2 w_3 w_4 w_5 k_4 h0 n0 v U'.heap L ∧ FrameEnd U o U' L ({ frames := 1, cells := 0, slots := 0, locals := 13 } : Room).cells ({ frames := 1, cells := 0, slots := 0, locals := 13 } : Room).slots) := by
  refine MetFree.of_bodySF (plainFor_of_name pn_2x4) hisR ?_
  intro p e s m args below meth c s₁ Bd hml0 hP hK
  obtain ⟨rfl, hZ, hh⟩ := hP
  have hx := Bd.exec
  have hby := Bd.bytes
  have hml : c.maxLocals = 6 := hml0
  have hown : s.vm.findClass "com/example/lucid_locks/lucidlocks/locks/LockMode" = some m.cls := findClass_of_methodNamed Bd.named
  have hnm := (name_of_methodNamed Bd.named Bd.method).1
  have X0 : Stand p l e ({ frames := 1, cells := 0, slots := 0, locals := 13 } : Room) s m #[(.ref w_1), (.ref w_2)] below meth c s₁ [] 0 0 := Stand.of_body Bd
  have e0 : s₁.heap = h0 := by rw [← hh, Bd.state]; rfl
  have N0 := Fr.nil n0
  have hS0 := hS
  obtain ⟨S_1, E_1, S_2, E_2, S_3, E_3, S_4, S_5, E_5, F_1_ordinal, F_3_ordinal, F_2_ordinal, F_1_sharedWithItself, F_5_ordinal, F_5_sharedWithItself, F_3_sharedWithItself, F_2_sharedWithItself, V_4⟩ := hS
  have pre0 : ∀ t, Steps p.tables e below (s₁.setTop (mkF m 0 #[.val (.ref w_1), .val (.ref w_2), .unset, .unset, .unset, .unset] [])) t → Steps p.tables e below (s₁.setTop (entryFrame m #[(.ref w_1), (.ref w_2)] 6)) t := fun t k => castTop (ef_2x4 m w_1 w_2) k
  obtain ⟨T97, X97, e97, st97⟩ := getS2 X0 hx hZ hown (host := "") (Or.inl (hw _ (tk 16 rfl))) Via.refl e0 (S_4.ext O0.2) (g := (mkF m 0 #[.val (.ref w_1), .val (.ref w_2), .unset, .unset, .unset, .unset] [])) rfl (hb hby d2_0)
  obtain ⟨cl98, Ar98, qa98, Sa98, Ma98, Ha98, Ga98⟩ := id (V_4.ext O0.2)
  obtain ⟨cl99, Ar99, qa99, Sa99, Ma99, Ha99, Ga99⟩ := id (V_4.ext O0.2)
  have hin99 : ¬ ((0 : Int32) < 0 ∨ cl99.slots.size ≤ ((0 : Int32)).toNatClampNeg) := by  exact inb_of Sa99 ⟨by decide, by decide⟩
  have hat99 : cl99.slots[((0 : Int32)).toNatClampNeg]? = some (.ref w_1) := Has.at Ha99 hin99 (by rfl)
  obtain ⟨cq100, kq100, q100a, q100b, q100c⟩ := isOf hZ e97 (E_2.ext O0.2)
  obtain ⟨_, _, ⟨T100, L100, k100, n100⟩, -, X100, ⟨Lc100, hQ100, l100, y100, z100⟩, st100⟩ := X97.virtualBack hx (y := Y1) (z := Y1) hown (mvT hZ (hw _ (tk 18 rfl))) (mvT hZ (hw _ (tk 19 rfl))) (notFace_of_selects (args := #[]) (mvT hZ (hw _ (tk 21 rfl)))) (mvT hZ (hw _ (tk 21 rfl))) (mvT hZ (hw _ (tk 20 rfl))) (by decide) (backOf (W := 0) (rm3 l Z a0 hw [] w_1 w_2 w_3 w_4 w_5 k_4 hS0 w_2 w_1 (0 : Int32) h0 n0 O0 (F_2_sharedWithItself.ext O0.2)) hZ (hw _ (tk 22 rfl)) (hw _ (tk 5 rfl)) (by decide) (by decide)) q100a q100c (g := (mkF m 25 #[.val (.ref w_1), .val (.ref w_2), .val (.ref w_4), .val (.int (4 : Int32)), .val (.int (0 : Int32)), .val (.ref w_1)] [(.ref w_1), (.ref w_2)])) rfl (by rw [hml]; rfl) (Steps.refl _) (argsL := [(.ref w_1)]) (rest := []) (lenOf pd_1 rfl) rfl (by show 2 * 0 + _ ≤ _; exact Nat.le_of_eq rfl) (hb hby d2_25) (fun _ _ => ⟨rfl, e97, (by decide : 0 + 0 ≤ _), (by decide : 0 + 0 ≤ _)⟩)
  dsimp only [Pt.U, Pt.locs, Pt.cells, Pt.slots] at X100 l100 y100 z100 st100 hQ100
  subst l100 y100 z100
  obtain ⟨rv100, N100q, e100⟩ := hQ100
  rw [show sp3 w_2 w_1 (0 : Int32) = (1 : Int32) from by unfold sp3; rw [if_neg (Fld.ne F_2_ordinal F_1_ordinal (by decide))]] at rv100
  subst rv100
  have N100 := Fr.app N0 N100q
  obtain ⟨cq101, kq101, q101a, q101b, q101c⟩ := isOf hZ e100 (E_1.ext O0.2)
  obtain ⟨_, _, ⟨T101, L101, k101, n101⟩, -, X101, ⟨Lc101, hQ101, l101, y101, z101⟩, st101⟩ := X100.virtualBack hx (y := Y1) (z := Y1) hown (mvT hZ (hw _ (tk 18 rfl))) (mvT hZ (hw _ (tk 19 rfl))) (notFace_of_selects (args := #[]) (mvT hZ (hw _ (tk 21 rfl)))) (mvT hZ (hw _ (tk 21 rfl))) (mvT hZ (hw _ (tk 20 rfl))) (by decide) (backOf (W := 0) (rm3 l Z a0 hw [] w_1 w_2 w_3 w_4 w_5 k_4 hS0 w_1 w_1 (1 : Int32) h0 n0 O0 (F_1_sharedWithItself.ext O0.2)) hZ (hw _ (tk 22 rfl)) (hw _ (tk 5 rfl)) (by decide) (by decide)) q101a q101c (g := (mkF m 34 #[.val (.ref w_1), .val (.ref w_2), .val (.ref w_4), .val (.int (4 : Int32)), .val (.int (0 : Int32)), .val (.ref w_1)] [(.ref w_1), (.ref w_1)])) rfl (by rw [hml]; rfl) (Steps.refl _) (argsL := [(.ref w_1)]) (rest := []) (lenOf pd_1 rfl) rfl (by show 2 * 0 + _ ≤ _; exact Nat.le_of_eq rfl) (hb hby d2_34) (fun _ _ => ⟨rfl, e100, (by decide : 0 + 0 ≤ _), (by decide : 0 + 0 ≤ _)⟩)
  dsimp only [Pt.U, Pt.locs, Pt.cells, Pt.slots] at X101 l101 y101 z101 st101 hQ101
  subst l101 y101 z101
  obtain ⟨rv101, N101q, e101⟩ := hQ101
  rw [show sp3 w_1 w_1 (1 : Int32) = (0 : Int32) from by unfold sp3; rw [if_pos rfl, if_neg (by decide : ¬ ((1 : Int32) = (0 : Int32)))]] at rv101
  subst rv101
  have N101 := Fr.app N100 N101q
  obtain ⟨fs, hr, hrun, hended, hW, hsame⟩ := X101.leave (v := some (.int (0 : Int32))) (fun h => by rw [Bd.returns] at h; cases h)
  refine ⟨_, _, pre0 _ ?_, hrun, hended, _, _, rfl, ?_, ⟨_, rfl⟩, hW, hsame.mono (by decide) (by decide)⟩
  · show Steps p.tables e below (s₁.setTop (mkF m 0 #[.val (.ref w_1), .val (.ref w_2), .unset, .unset, .unset, .unset] [])) _
    refine st97 _ ?_
    show Steps p.tables e below (T97.setTop (mkF m 3 #[.val (.ref w_1), .val (.ref w_2), .unset, .unset, .unset, .unset] [(.ref w_4)])) _
    refine XS.astoreN X97.here hx rfl (hb hby d2_3) rfl rfl (l' := #[.val (.ref w_1), .val (.ref w_2), .val (.ref w_4), .unset, .unset, .unset]) rfl ?_
    show Steps p.tables e below (T97.setTop (mkF m 4 #[.val (.ref w_1), .val (.ref w_2), .val (.ref w_4), .unset, .unset, .unset] [])) _
    refine XS.aloadN X97.here hx rfl (hb hby d2_4) rfl rfl ?_
    show Steps p.tables e below (T97.setTop (mkF m 5 #[.val (.ref w_1), .val (.ref w_2), .val (.ref w_4), .unset, .unset, .unset] [(.ref w_4)])) _
    refine X97.arraylength hx (by rw [e97]; exact Ar98.1) (State.isArrayOf_alike hZ.alike Ar98.2.1) (g := (mkF m 5 #[.val (.ref w_1), .val (.ref w_2), .val (.ref w_4), .unset, .unset, .unset] [(.ref w_4)])) rfl rfl (hb hby d2_5) _ ?_
    rw [len_of Sa98 Ma98]
    show Steps p.tables e below (T97.setTop (mkF m 6 #[.val (.ref w_1), .val (.ref w_2), .val (.ref w_4), .unset, .unset, .unset] [(.int (4 : Int32))])) _
    refine XS.istoreN X97.here hx rfl (hb hby d2_6) rfl (l' := #[.val (.ref w_1), .val (.ref w_2), .val (.ref w_4), .val (.int (4 : Int32)), .unset, .unset]) rfl ?_
    show Steps p.tables e below (T97.setTop (mkF m 7 #[.val (.ref w_1), .val (.ref w_2), .val (.ref w_4), .val (.int (4 : Int32)), .unset, .unset] [])) _
    refine XS.iconst X97.here hx rfl (hb hby d2_7) ?_
    show Steps p.tables e below (T97.setTop (mkF m 8 #[.val (.ref w_1), .val (.ref w_2), .val (.ref w_4), .val (.int (4 : Int32)), .unset, .unset] [(.int (0 : Int32))])) _
    refine XS.istore X97.here hx rfl (hb hby d2_8) rfl (l' := #[.val (.ref w_1), .val (.ref w_2), .val (.ref w_4), .val (.int (4 : Int32)), .val (.int (0 : Int32)), .unset]) rfl ?_
    show Steps p.tables e below (T97.setTop (mkF m 10 #[.val (.ref w_1), .val (.ref w_2), .val (.ref w_4), .val (.int (4 : Int32)), .val (.int (0 : Int32)), .unset] [])) _
    refine XS.iload X97.here hx rfl (hb hby d2_10) rfl ?_
    show Steps p.tables e below (T97.setTop (mkF m 12 #[.val (.ref w_1), .val (.ref w_2), .val (.ref w_4), .val (.int (4 : Int32)), .val (.int (0 : Int32)), .unset] [(.int (0 : Int32))])) _
    refine XS.iloadN X97.here hx rfl (hb hby d2_12) rfl ?_
    show Steps p.tables e below (T97.setTop (mkF m 13 #[.val (.ref w_1), .val (.ref w_2), .val (.ref w_4), .val (.int (4 : Int32)), .val (.int (0 : Int32)), .unset] [(.int (4 : Int32)), (.int (0 : Int32))])) _
    refine XS.icmpNo X97.here hx rfl (hb hby d2_13) rfl (tlt (by decide : ((0 : Int32) < (4 : Int32)))).2.1 ?_
    show Steps p.tables e below (T97.setTop (mkF m 16 #[.val (.ref w_1), .val (.ref w_2), .val (.ref w_4), .val (.int (4 : Int32)), .val (.int (0 : Int32)), .unset] [])) _
    refine XS.aloadN X97.here hx rfl (hb hby d2_16) rfl rfl ?_
    show Steps p.tables e below (T97.setTop (mkF m 17 #[.val (.ref w_1), .val (.ref w_2), .val (.ref w_4), .val (.int (4 : Int32)), .val (.int (0 : Int32)), .unset] [(.ref w_4)])) _
    refine XS.iload X97.here hx rfl (hb hby d2_17) rfl ?_
    show Steps p.tables e below (T97.setTop (mkF m 19 #[.val (.ref w_1), .val (.ref w_2), .val (.ref w_4), .val (.int (4 : Int32)), .val (.int (0 : Int32)), .unset] [(.int (0 : Int32)), (.ref w_4)])) _
    refine X97.aaload hx (j := (0 : Int32)) (v := (.ref w_1)) (by rw [e97]; exact Ar99.1) (State.isArrayOf_alike hZ.alike Ar99.2.1) rfl Ar99.2.2 hin99 hat99 (g := (mkF m 19 #[.val (.ref w_1), .val (.ref w_2), .val (.ref w_4), .val (.int (4 : Int32)), .val (.int (0 : Int32)), .unset] [(.int (0 : Int32)), (.ref w_4)])) rfl rfl (hb hby d2_19) _ ?_
    show Steps p.tables e below (T97.setTop (mkF m 20 #[.val (.ref w_1), .val (.ref w_2), .val (.ref w_4), .val (.int (4 : Int32)), .val (.int (0 : Int32)), .unset] [(.ref w_1)])) _
    refine XS.astore X97.here hx rfl (hb hby d2_20) rfl rfl (l' := #[.val (.ref w_1), .val (.ref w_2), .val (.ref w_4), .val (.int (4 : Int32)), .val (.int (0 : Int32)), .val (.ref w_1)]) rfl ?_
    show Steps p.tables e below (T97.setTop (mkF m 22 #[.val (.ref w_1), .val (.ref w_2), .val (.ref w_4), .val (.int (4 : Int32)), .val (.int (0 : Int32)), .val (.ref w_1)] [])) _
    refine XS.aloadN X97.here hx rfl (hb hby d2_22) rfl rfl ?_
    show Steps p.tables e below (T97.setTop (mkF m 23 #[.val (.ref w_1), .val (.ref w_2), .val (.ref w_4), .val (.int (4 : Int32)), .val (.int (0 : Int32)), .val (.ref w_1)] [(.ref w_2)])) _
    refine XS.aload X97.here hx rfl (hb hby d2_23) rfl rfl ?_
    show Steps p.tables e below (T97.setTop (mkF m 25 #[.val (.ref w_1), .val (.ref w_2), .val (.ref w_4), .val (.int (4 : Int32)), .val (.int (0 : Int32)), .val (.ref w_1)] [(.ref w_1), (.ref w_2)])) _
    refine st100.trans ?_
    show Steps p.tables e below (T100.setTop (mkF m 28 #[.val (.ref w_1), .val (.ref w_2), .val (.ref w_4), .val (.int (4 : Int32)), .val (.int (0 : Int32)), .val (.ref w_1)] [(.int (1 : Int32))])) _
    refine XS.ifNo X100.here hx rfl (hb hby d2_28) rfl ((if0 _ _).trans (feq (by decide : ¬ ((1 : Int32) = (0 : Int32)))).1) ?_
    show Steps p.tables e below (T100.setTop (mkF m 31 #[.val (.ref w_1), .val (.ref w_2), .val (.ref w_4), .val (.int (4 : Int32)), .val (.int (0 : Int32)), .val (.ref w_1)] [])) _
    refine XS.aloadN X100.here hx rfl (hb hby d2_31) rfl rfl ?_
    show Steps p.tables e below (T100.setTop (mkF m 32 #[.val (.ref w_1), .val (.ref w_2), .val (.ref w_4), .val (.int (4 : Int32)), .val (.int (0 : Int32)), .val (.ref w_1)] [(.ref w_1)])) _
    refine XS.aload X100.here hx rfl (hb hby d2_32) rfl rfl ?_
    show Steps p.tables e below (T100.setTop (mkF m 34 #[.val (.ref w_1), .val (.ref w_2), .val (.ref w_4), .val (.int (4 : Int32)), .val (.int (0 : Int32)), .val (.ref w_1)] [(.ref w_1), (.ref w_1)])) _
    refine st101.trans ?_
    show Steps p.tables e below (T101.setTop (mkF m 37 #[.val (.ref w_1), .val (.ref w_2), .val (.ref w_4), .val (.int (4 : Int32)), .val (.int (0 : Int32)), .val (.ref w_1)] [(.int (0 : Int32))])) _
    refine XS.ifNo X101.here hx rfl (hb hby d2_37) rfl ((if0 _ _).trans (teq (by decide : ((0 : Int32) = (0 : Int32)))).2) ?_
    show Steps p.tables e below (T101.setTop (mkF m 40 #[.val (.ref w_1), .val (.ref w_2), .val (.ref w_4), .val (.int (4 : Int32)), .val (.int (0 : Int32)), .val (.ref w_1)] [])) _
    refine XS.iconst X101.here hx rfl (hb hby d2_40) ?_
    show Steps p.tables e below (T101.setTop (mkF m 41 #[.val (.ref w_1), .val (.ref w_2), .val (.ref w_4), .val (.int (4 : Int32)), .val (.int (0 : Int32)), .val (.ref w_1)] [(.int (0 : Int32))])) _
    exact retN X101 hx (t := .boolean) Bd.returns (by simp) (hb hby d2_41) hr
  · show Q2x4 Z w_1 w_2 w_3 w_4 w_5 k_4 h0 n0 _ T101.heap _
    rw [e101]
    exact ⟨by unfold sp2x4; rfl, N101, rfl⟩
theorem pn_2x5 : plainName "com/example/lucid_locks/lucidlocks/locks/LockMode" = true := by first | (simp [plainName, overriddenIn]; done) | decide +kernel
theorem ef_2x5 (m : MethodId) (w_5 : Addr) (w_1 : Addr) : entryFrame m #[(.ref w_5), (.ref w_1)] 6 = mkF m 0 #[.val (.ref w_5), .val (.ref w_1), .unset, .unset, .unset, .unset] [] := by first | (simp [entryFrame, mkF, argsToLocals, Value.category]; done) | rfl
def sp2x5  : Int32 := (0 : Int32)
def Q2x5 (Z : State) (w_1 : Addr) (w_2 : Addr) (w_3 : Addr) (w_4 : Addr) (w_5 : Addr) (k_4 : ClassId) (h0 : Heap) (n0 : Nat) (v : Option Value) (h : Heap) (L : List Loc) : Prop := v = some (.int (sp2x5)) ∧ Fr n0 L ∧ h = h0
set_option maxRecDepth 65536 in
set_option maxHeartbeats 40000000 in
theorem rm2x5 (l : Launch) (Z : State) (a0 : Array Value) (hw : ∀ d ∈ tables_1, d.before a0 Z = true) (ws : List Jvm.Cond) (w_1 : Addr) (w_2 : Addr) (w_3 : Addr) (w_4 : Addr) (w_5 : Addr) (k_4 : ClassId) (hS : StF Z w_1 w_2 w_3 w_4 w_5 k_4) (h0 : Heap) (n0 : Nat) (O0 : Old Z n0 h0) :
    MetFree l Y2 (head1 (Jvm.Cond.code Y2 prog_17_method_7_code 6 (some .boolean) :: ws) ({ frames := 1, cells := 0, slots := 0, locals := 13 } : Room)) (fun a U => a = #[(.ref w_5), (.ref w_1)] ∧ Z.Warmed39 U.vm ∧ U.heap = h0) (fun _ _ _ _ _ => True) (fun _ U o U' => ∃ v L, o = .returned v ∧ Q2x5 Z w_1 w_2 w_3 w_4 w_5 k_4 h0 n0 v U'.heap L ∧ FrameEnd U o U' L ({ frames := 1, cells := 0, slots := 0, locals := 13 } : Room).cells ({ frames := 1, cells := 0, slots := 0, locals := 13 } : Room).slots) := by
  refine MetFree.of_bodySF (plainFor_of_name pn_2x5) hisR ?_
  intro p e s m args below meth c s₁ Bd hml0 hP hK
  obtain ⟨rfl, hZ, hh⟩ := hP
  have hx := Bd.exec
  have hby := Bd.bytes
  have hml : c.maxLocals = 6 := hml0
  have hown : s.vm.findClass "com/example/lucid_locks/lucidlocks/locks/LockMode" = some m.cls := findClass_of_methodNamed Bd.named
  have hnm := (name_of_methodNamed Bd.named Bd.method).1
  have X0 : Stand p l e ({ frames := 1, cells := 0, slots := 0, locals := 13 } : Room) s m #[(.ref w_5), (.ref w_1)] below meth c s₁ [] 0 0 := Stand.of_body Bd
  have e0 : s₁.heap = h0 := by rw [← hh, Bd.state]; rfl
  have N0 := Fr.nil n0
  have hS0 := hS
  obtain ⟨S_1, E_1, S_2, E_2, S_3, E_3, S_4, S_5, E_5, F_1_ordinal, F_3_ordinal, F_2_ordinal, F_1_sharedWithItself, F_5_ordinal, F_5_sharedWithItself, F_3_sharedWithItself, F_2_sharedWithItself, V_4⟩ := hS
  have pre0 : ∀ t, Steps p.tables e below (s₁.setTop (mkF m 0 #[.val (.ref w_5), .val (.ref w_1), .unset, .unset, .unset, .unset] [])) t → Steps p.tables e below (s₁.setTop (entryFrame m #[(.ref w_5), (.ref w_1)] 6)) t := fun t k => castTop (ef_2x5 m w_5 w_1) k
  obtain ⟨T109, X109, e109, st109⟩ := getS2 X0 hx hZ hown (host := "") (Or.inl (hw _ (tk 16 rfl))) Via.refl e0 (S_4.ext O0.2) (g := (mkF m 0 #[.val (.ref w_5), .val (.ref w_1), .unset, .unset, .unset, .unset] [])) rfl (hb hby d2_0)
  obtain ⟨cl110, Ar110, qa110, Sa110, Ma110, Ha110, Ga110⟩ := id (V_4.ext O0.2)
  obtain ⟨cl111, Ar111, qa111, Sa111, Ma111, Ha111, Ga111⟩ := id (V_4.ext O0.2)
  have hin111 : ¬ ((0 : Int32) < 0 ∨ cl111.slots.size ≤ ((0 : Int32)).toNatClampNeg) := by  exact inb_of Sa111 ⟨by decide, by decide⟩
  have hat111 : cl111.slots[((0 : Int32)).toNatClampNeg]? = some (.ref w_1) := Has.at Ha111 hin111 (by rfl)
  obtain ⟨cq112, kq112, q112a, q112b, q112c⟩ := isOf hZ e109 (E_1.ext O0.2)
  obtain ⟨_, _, ⟨T112, L112, k112, n112⟩, -, X112, ⟨Lc112, hQ112, l112, y112, z112⟩, st112⟩ := X109.virtualBack hx (y := Y1) (z := Y1) hown (mvT hZ (hw _ (tk 18 rfl))) (mvT hZ (hw _ (tk 19 rfl))) (notFace_of_selects (args := #[]) (mvT hZ (hw _ (tk 21 rfl)))) (mvT hZ (hw _ (tk 21 rfl))) (mvT hZ (hw _ (tk 20 rfl))) (by decide) (backOf (W := 0) (rm3 l Z a0 hw [] w_1 w_2 w_3 w_4 w_5 k_4 hS0 w_1 w_1 (1 : Int32) h0 n0 O0 (F_1_sharedWithItself.ext O0.2)) hZ (hw _ (tk 22 rfl)) (hw _ (tk 5 rfl)) (by decide) (by decide)) q112a q112c (g := (mkF m 25 #[.val (.ref w_5), .val (.ref w_1), .val (.ref w_4), .val (.int (4 : Int32)), .val (.int (0 : Int32)), .val (.ref w_1)] [(.ref w_1), (.ref w_1)])) rfl (by rw [hml]; rfl) (Steps.refl _) (argsL := [(.ref w_1)]) (rest := []) (lenOf pd_1 rfl) rfl (by show 2 * 0 + _ ≤ _; exact Nat.le_of_eq rfl) (hb hby d2_25) (fun _ _ => ⟨rfl, e109, (by decide : 0 + 0 ≤ _), (by decide : 0 + 0 ≤ _)⟩)
  dsimp only [Pt.U, Pt.locs, Pt.cells, Pt.slots] at X112 l112 y112 z112 st112 hQ112
  subst l112 y112 z112
  obtain ⟨rv112, N112q, e112⟩ := hQ112
  rw [show sp3 w_1 w_1 (1 : Int32) = (0 : Int32) from by unfold sp3; rw [if_pos rfl, if_neg (by decide : ¬ ((1 : Int32) = (0 : Int32)))]] at rv112
  subst rv112
  have N112 := Fr.app N0 N112q
  obtain ⟨cl113, Ar113, qa113, Sa113, Ma113, Ha113, Ga113⟩ := id (V_4.ext O0.2)
  have hin113 : ¬ (((0 : Int32) + (1 : Int32)) < 0 ∨ cl113.slots.size ≤ (((0 : Int32) + (1 : Int32))).toNatClampNeg) := by  exact inb_of Sa113 ⟨by decide, by decide⟩
  have hat113 : cl113.slots[(((0 : Int32) + (1 : Int32))).toNatClampNeg]? = some (.ref w_5) := Has.at Ha113 hin113 (by rfl)
  obtain ⟨cq114, kq114, q114a, q114b, q114c⟩ := isOf hZ e112 (E_1.ext O0.2)
  obtain ⟨_, _, ⟨T114, L114, k114, n114⟩, -, X114, ⟨Lc114, hQ114, l114, y114, z114⟩, st114⟩ := X112.virtualBack hx (y := Y1) (z := Y1) hown (mvT hZ (hw _ (tk 18 rfl))) (mvT hZ (hw _ (tk 19 rfl))) (notFace_of_selects (args := #[]) (mvT hZ (hw _ (tk 21 rfl)))) (mvT hZ (hw _ (tk 21 rfl))) (mvT hZ (hw _ (tk 20 rfl))) (by decide) (backOf (W := 0) (rm3 l Z a0 hw [] w_1 w_2 w_3 w_4 w_5 k_4 hS0 w_1 w_5 (1 : Int32) h0 n0 O0 (F_1_sharedWithItself.ext O0.2)) hZ (hw _ (tk 22 rfl)) (hw _ (tk 5 rfl)) (by decide) (by decide)) q114a q114c (g := (mkF m 25 #[.val (.ref w_5), .val (.ref w_1), .val (.ref w_4), .val (.int (4 : Int32)), .val (.int ((0 : Int32) + (1 : Int32))), .val (.ref w_5)] [(.ref w_5), (.ref w_1)])) rfl (by rw [hml]; rfl) (Steps.refl _) (argsL := [(.ref w_5)]) (rest := []) (lenOf pd_1 rfl) rfl (by show 2 * 0 + _ ≤ _; exact Nat.le_of_eq rfl) (hb hby d2_25) (fun _ _ => ⟨rfl, e112, (by decide : 0 + 0 ≤ _), (by decide : 0 + 0 ≤ _)⟩)
  dsimp only [Pt.U, Pt.locs, Pt.cells, Pt.slots] at X114 l114 y114 z114 st114 hQ114
  subst l114 y114 z114
  obtain ⟨rv114, N114q, e114⟩ := hQ114
  rw [show sp3 w_1 w_5 (1 : Int32) = (1 : Int32) from by unfold sp3; rw [if_neg (Fld.ne F_1_ordinal F_5_ordinal (by decide))]] at rv114
  subst rv114
  have N114 := Fr.app N112 N114q
  obtain ⟨cq115, kq115, q115a, q115b, q115c⟩ := isOf hZ e114 (E_5.ext O0.2)
  obtain ⟨_, _, ⟨T115, L115, k115, n115⟩, -, X115, ⟨Lc115, hQ115, l115, y115, z115⟩, st115⟩ := X114.virtualBack hx (y := Y1) (z := Y1) hown (mvT hZ (hw _ (tk 18 rfl))) (mvT hZ (hw _ (tk 19 rfl))) (notFace_of_selects (args := #[]) (mvT hZ (hw _ (tk 21 rfl)))) (mvT hZ (hw _ (tk 21 rfl))) (mvT hZ (hw _ (tk 20 rfl))) (by decide) (backOf (W := 0) (rm3 l Z a0 hw [] w_1 w_2 w_3 w_4 w_5 k_4 hS0 w_5 w_5 (1 : Int32) h0 n0 O0 (F_5_sharedWithItself.ext O0.2)) hZ (hw _ (tk 22 rfl)) (hw _ (tk 5 rfl)) (by decide) (by decide)) q115a q115c (g := (mkF m 34 #[.val (.ref w_5), .val (.ref w_1), .val (.ref w_4), .val (.int (4 : Int32)), .val (.int ((0 : Int32) + (1 : Int32))), .val (.ref w_5)] [(.ref w_5), (.ref w_5)])) rfl (by rw [hml]; rfl) (Steps.refl _) (argsL := [(.ref w_5)]) (rest := []) (lenOf pd_1 rfl) rfl (by show 2 * 0 + _ ≤ _; exact Nat.le_of_eq rfl) (hb hby d2_34) (fun _ _ => ⟨rfl, e114, (by decide : 0 + 0 ≤ _), (by decide : 0 + 0 ≤ _)⟩)
  dsimp only [Pt.U, Pt.locs, Pt.cells, Pt.slots] at X115 l115 y115 z115 st115 hQ115
  subst l115 y115 z115
  obtain ⟨rv115, N115q, e115⟩ := hQ115
  rw [show sp3 w_5 w_5 (1 : Int32) = (0 : Int32) from by unfold sp3; rw [if_pos rfl, if_neg (by decide : ¬ ((1 : Int32) = (0 : Int32)))]] at rv115
  subst rv115
  have N115 := Fr.app N114 N115q
  obtain ⟨fs, hr, hrun, hended, hW, hsame⟩ := X115.leave (v := some (.int (0 : Int32))) (fun h => by rw [Bd.returns] at h; cases h)
  refine ⟨_, _, pre0 _ ?_, hrun, hended, _, _, rfl, ?_, ⟨_, rfl⟩, hW, hsame.mono (by decide) (by decide)⟩
  · show Steps p.tables e below (s₁.setTop (mkF m 0 #[.val (.ref w_5), .val (.ref w_1), .unset, .unset, .unset, .unset] [])) _
    refine st109 _ ?_
    show Steps p.tables e below (T109.setTop (mkF m 3 #[.val (.ref w_5), .val (.ref w_1), .unset, .unset, .unset, .unset] [(.ref w_4)])) _
    refine XS.astoreN X109.here hx rfl (hb hby d2_3) rfl rfl (l' := #[.val (.ref w_5), .val (.ref w_1), .val (.ref w_4), .unset, .unset, .unset]) rfl ?_
    show Steps p.tables e below (T109.setTop (mkF m 4 #[.val (.ref w_5), .val (.ref w_1), .val (.ref w_4), .unset, .unset, .unset] [])) _
    refine XS.aloadN X109.here hx rfl (hb hby d2_4) rfl rfl ?_
    show Steps p.tables e below (T109.setTop (mkF m 5 #[.val (.ref w_5), .val (.ref w_1), .val (.ref w_4), .unset, .unset, .unset] [(.ref w_4)])) _
    refine X109.arraylength hx (by rw [e109]; exact Ar110.1) (State.isArrayOf_alike hZ.alike Ar110.2.1) (g := (mkF m 5 #[.val (.ref w_5), .val (.ref w_1), .val (.ref w_4), .unset, .unset, .unset] [(.ref w_4)])) rfl rfl (hb hby d2_5) _ ?_
    rw [len_of Sa110 Ma110]
    show Steps p.tables e below (T109.setTop (mkF m 6 #[.val (.ref w_5), .val (.ref w_1), .val (.ref w_4), .unset, .unset, .unset] [(.int (4 : Int32))])) _
    refine XS.istoreN X109.here hx rfl (hb hby d2_6) rfl (l' := #[.val (.ref w_5), .val (.ref w_1), .val (.ref w_4), .val (.int (4 : Int32)), .unset, .unset]) rfl ?_
    show Steps p.tables e below (T109.setTop (mkF m 7 #[.val (.ref w_5), .val (.ref w_1), .val (.ref w_4), .val (.int (4 : Int32)), .unset, .unset] [])) _
    refine XS.iconst X109.here hx rfl (hb hby d2_7) ?_
    show Steps p.tables e below (T109.setTop (mkF m 8 #[.val (.ref w_5), .val (.ref w_1), .val (.ref w_4), .val (.int (4 : Int32)), .unset, .unset] [(.int (0 : Int32))])) _
    refine XS.istore X109.here hx rfl (hb hby d2_8) rfl (l' := #[.val (.ref w_5), .val (.ref w_1), .val (.ref w_4), .val (.int (4 : Int32)), .val (.int (0 : Int32)), .unset]) rfl ?_
    show Steps p.tables e below (T109.setTop (mkF m 10 #[.val (.ref w_5), .val (.ref w_1), .val (.ref w_4), .val (.int (4 : Int32)), .val (.int (0 : Int32)), .unset] [])) _
    refine XS.iload X109.here hx rfl (hb hby d2_10) rfl ?_
    show Steps p.tables e below (T109.setTop (mkF m 12 #[.val (.ref w_5), .val (.ref w_1), .val (.ref w_4), .val (.int (4 : Int32)), .val (.int (0 : Int32)), .unset] [(.int (0 : Int32))])) _
    refine XS.iloadN X109.here hx rfl (hb hby d2_12) rfl ?_
    show Steps p.tables e below (T109.setTop (mkF m 13 #[.val (.ref w_5), .val (.ref w_1), .val (.ref w_4), .val (.int (4 : Int32)), .val (.int (0 : Int32)), .unset] [(.int (4 : Int32)), (.int (0 : Int32))])) _
    refine XS.icmpNo X109.here hx rfl (hb hby d2_13) rfl (tlt (by decide : ((0 : Int32) < (4 : Int32)))).2.1 ?_
    show Steps p.tables e below (T109.setTop (mkF m 16 #[.val (.ref w_5), .val (.ref w_1), .val (.ref w_4), .val (.int (4 : Int32)), .val (.int (0 : Int32)), .unset] [])) _
    refine XS.aloadN X109.here hx rfl (hb hby d2_16) rfl rfl ?_
    show Steps p.tables e below (T109.setTop (mkF m 17 #[.val (.ref w_5), .val (.ref w_1), .val (.ref w_4), .val (.int (4 : Int32)), .val (.int (0 : Int32)), .unset] [(.ref w_4)])) _
    refine XS.iload X109.here hx rfl (hb hby d2_17) rfl ?_
    show Steps p.tables e below (T109.setTop (mkF m 19 #[.val (.ref w_5), .val (.ref w_1), .val (.ref w_4), .val (.int (4 : Int32)), .val (.int (0 : Int32)), .unset] [(.int (0 : Int32)), (.ref w_4)])) _
    refine X109.aaload hx (j := (0 : Int32)) (v := (.ref w_1)) (by rw [e109]; exact Ar111.1) (State.isArrayOf_alike hZ.alike Ar111.2.1) rfl Ar111.2.2 hin111 hat111 (g := (mkF m 19 #[.val (.ref w_5), .val (.ref w_1), .val (.ref w_4), .val (.int (4 : Int32)), .val (.int (0 : Int32)), .unset] [(.int (0 : Int32)), (.ref w_4)])) rfl rfl (hb hby d2_19) _ ?_
    show Steps p.tables e below (T109.setTop (mkF m 20 #[.val (.ref w_5), .val (.ref w_1), .val (.ref w_4), .val (.int (4 : Int32)), .val (.int (0 : Int32)), .unset] [(.ref w_1)])) _
    refine XS.astore X109.here hx rfl (hb hby d2_20) rfl rfl (l' := #[.val (.ref w_5), .val (.ref w_1), .val (.ref w_4), .val (.int (4 : Int32)), .val (.int (0 : Int32)), .val (.ref w_1)]) rfl ?_
    show Steps p.tables e below (T109.setTop (mkF m 22 #[.val (.ref w_5), .val (.ref w_1), .val (.ref w_4), .val (.int (4 : Int32)), .val (.int (0 : Int32)), .val (.ref w_1)] [])) _
    refine XS.aloadN X109.here hx rfl (hb hby d2_22) rfl rfl ?_
    show Steps p.tables e below (T109.setTop (mkF m 23 #[.val (.ref w_5), .val (.ref w_1), .val (.ref w_4), .val (.int (4 : Int32)), .val (.int (0 : Int32)), .val (.ref w_1)] [(.ref w_1)])) _
    refine XS.aload X109.here hx rfl (hb hby d2_23) rfl rfl ?_
    show Steps p.tables e below (T109.setTop (mkF m 25 #[.val (.ref w_5), .val (.ref w_1), .val (.ref w_4), .val (.int (4 : Int32)), .val (.int (0 : Int32)), .val (.ref w_1)] [(.ref w_1), (.ref w_1)])) _
    refine st112.trans ?_
    show Steps p.tables e below (T112.setTop (mkF m 28 #[.val (.ref w_5), .val (.ref w_1), .val (.ref w_4), .val (.int (4 : Int32)), .val (.int (0 : Int32)), .val (.ref w_1)] [(.int (0 : Int32))])) _
    refine XS.ifYes X112.here hx rfl (pc0 := 28) (pc' := 42) rfl (hb hby d2_28) rfl ((if0 _ _).trans (teq (by decide : ((0 : Int32) = (0 : Int32)))).1) (by decide) (by decide) ?_
    show Steps p.tables e below (T112.setTop (mkF m 42 #[.val (.ref w_5), .val (.ref w_1), .val (.ref w_4), .val (.int (4 : Int32)), .val (.int (0 : Int32)), .val (.ref w_1)] [])) _
    refine XS.iinc X112.here hx rfl (hb hby d2_42) rfl (l' := #[.val (.ref w_5), .val (.ref w_1), .val (.ref w_4), .val (.int (4 : Int32)), .val (.int ((0 : Int32) + (1 : Int32))), .val (.ref w_1)]) rfl ?_
    show Steps p.tables e below (T112.setTop (mkF m 45 #[.val (.ref w_5), .val (.ref w_1), .val (.ref w_4), .val (.int (4 : Int32)), .val (.int ((0 : Int32) + (1 : Int32))), .val (.ref w_1)] [])) _
    refine XS.goto X112.here hx rfl (pc0 := 45) (pc' := 10) rfl (hb hby d2_45) (by decide) (by decide) ?_
    show Steps p.tables e below (T112.setTop (mkF m 10 #[.val (.ref w_5), .val (.ref w_1), .val (.ref w_4), .val (.int (4 : Int32)), .val (.int ((0 : Int32) + (1 : Int32))), .val (.ref w_1)] [])) _
    refine XS.iload X112.here hx rfl (hb hby d2_10) rfl ?_
    show Steps p.tables e below (T112.setTop (mkF m 12 #[.val (.ref w_5), .val (.ref w_1), .val (.ref w_4), .val (.int (4 : Int32)), .val (.int ((0 : Int32) + (1 : Int32))), .val (.ref w_1)] [(.int ((0 : Int32) + (1 : Int32)))])) _
    refine XS.iloadN X112.here hx rfl (hb hby d2_12) rfl ?_
    show Steps p.tables e below (T112.setTop (mkF m 13 #[.val (.ref w_5), .val (.ref w_1), .val (.ref w_4), .val (.int (4 : Int32)), .val (.int ((0 : Int32) + (1 : Int32))), .val (.ref w_1)] [(.int (4 : Int32)), (.int ((0 : Int32) + (1 : Int32)))])) _
    refine XS.icmpNo X112.here hx rfl (hb hby d2_13) rfl (tlt (by decide : (((0 : Int32) + (1 : Int32)) < (4 : Int32)))).2.1 ?_
    show Steps p.tables e below (T112.setTop (mkF m 16 #[.val (.ref w_5), .val (.ref w_1), .val (.ref w_4), .val (.int (4 : Int32)), .val (.int ((0 : Int32) + (1 : Int32))), .val (.ref w_1)] [])) _
    refine XS.aloadN X112.here hx rfl (hb hby d2_16) rfl rfl ?_
    show Steps p.tables e below (T112.setTop (mkF m 17 #[.val (.ref w_5), .val (.ref w_1), .val (.ref w_4), .val (.int (4 : Int32)), .val (.int ((0 : Int32) + (1 : Int32))), .val (.ref w_1)] [(.ref w_4)])) _
    refine XS.iload X112.here hx rfl (hb hby d2_17) rfl ?_
    show Steps p.tables e below (T112.setTop (mkF m 19 #[.val (.ref w_5), .val (.ref w_1), .val (.ref w_4), .val (.int (4 : Int32)), .val (.int ((0 : Int32) + (1 : Int32))), .val (.ref w_1)] [(.int ((0 : Int32) + (1 : Int32))), (.ref w_4)])) _
    refine X112.aaload hx (j := ((0 : Int32) + (1 : Int32))) (v := (.ref w_5)) (by rw [e112]; exact Ar113.1) (State.isArrayOf_alike hZ.alike Ar113.2.1) rfl Ar113.2.2 hin113 hat113 (g := (mkF m 19 #[.val (.ref w_5), .val (.ref w_1), .val (.ref w_4), .val (.int (4 : Int32)), .val (.int ((0 : Int32) + (1 : Int32))), .val (.ref w_1)] [(.int ((0 : Int32) + (1 : Int32))), (.ref w_4)])) rfl rfl (hb hby d2_19) _ ?_
    show Steps p.tables e below (T112.setTop (mkF m 20 #[.val (.ref w_5), .val (.ref w_1), .val (.ref w_4), .val (.int (4 : Int32)), .val (.int ((0 : Int32) + (1 : Int32))), .val (.ref w_1)] [(.ref w_5)])) _
    refine XS.astore X112.here hx rfl (hb hby d2_20) rfl rfl (l' := #[.val (.ref w_5), .val (.ref w_1), .val (.ref w_4), .val (.int (4 : Int32)), .val (.int ((0 : Int32) + (1 : Int32))), .val (.ref w_5)]) rfl ?_
    show Steps p.tables e below (T112.setTop (mkF m 22 #[.val (.ref w_5), .val (.ref w_1), .val (.ref w_4), .val (.int (4 : Int32)), .val (.int ((0 : Int32) + (1 : Int32))), .val (.ref w_5)] [])) _
    refine XS.aloadN X112.here hx rfl (hb hby d2_22) rfl rfl ?_
    show Steps p.tables e below (T112.setTop (mkF m 23 #[.val (.ref w_5), .val (.ref w_1), .val (.ref w_4), .val (.int (4 : Int32)), .val (.int ((0 : Int32) + (1 : Int32))), .val (.ref w_5)] [(.ref w_1)])) _
    refine XS.aload X112.here hx rfl (hb hby d2_23) rfl rfl ?_
    show Steps p.tables e below (T112.setTop (mkF m 25 #[.val (.ref w_5), .val (.ref w_1), .val (.ref w_4), .val (.int (4 : Int32)), .val (.int ((0 : Int32) + (1 : Int32))), .val (.ref w_5)] [(.ref w_5), (.ref w_1)])) _
    refine st114.trans ?_
    show Steps p.tables e below (T114.setTop (mkF m 28 #[.val (.ref w_5), .val (.ref w_1), .val (.ref w_4), .val (.int (4 : Int32)), .val (.int ((0 : Int32) + (1 : Int32))), .val (.ref w_5)] [(.int (1 : Int32))])) _
    refine XS.ifNo X114.here hx rfl (hb hby d2_28) rfl ((if0 _ _).trans (feq (by decide : ¬ ((1 : Int32) = (0 : Int32)))).1) ?_
    show Steps p.tables e below (T114.setTop (mkF m 31 #[.val (.ref w_5), .val (.ref w_1), .val (.ref w_4), .val (.int (4 : Int32)), .val (.int ((0 : Int32) + (1 : Int32))), .val (.ref w_5)] [])) _
    refine XS.aloadN X114.here hx rfl (hb hby d2_31) rfl rfl ?_
    show Steps p.tables e below (T114.setTop (mkF m 32 #[.val (.ref w_5), .val (.ref w_1), .val (.ref w_4), .val (.int (4 : Int32)), .val (.int ((0 : Int32) + (1 : Int32))), .val (.ref w_5)] [(.ref w_5)])) _
    refine XS.aload X114.here hx rfl (hb hby d2_32) rfl rfl ?_
    show Steps p.tables e below (T114.setTop (mkF m 34 #[.val (.ref w_5), .val (.ref w_1), .val (.ref w_4), .val (.int (4 : Int32)), .val (.int ((0 : Int32) + (1 : Int32))), .val (.ref w_5)] [(.ref w_5), (.ref w_5)])) _
    refine st115.trans ?_
    show Steps p.tables e below (T115.setTop (mkF m 37 #[.val (.ref w_5), .val (.ref w_1), .val (.ref w_4), .val (.int (4 : Int32)), .val (.int ((0 : Int32) + (1 : Int32))), .val (.ref w_5)] [(.int (0 : Int32))])) _
    refine XS.ifNo X115.here hx rfl (hb hby d2_37) rfl ((if0 _ _).trans (teq (by decide : ((0 : Int32) = (0 : Int32)))).2) ?_
    show Steps p.tables e below (T115.setTop (mkF m 40 #[.val (.ref w_5), .val (.ref w_1), .val (.ref w_4), .val (.int (4 : Int32)), .val (.int ((0 : Int32) + (1 : Int32))), .val (.ref w_5)] [])) _
    refine XS.iconst X115.here hx rfl (hb hby d2_40) ?_
    show Steps p.tables e below (T115.setTop (mkF m 41 #[.val (.ref w_5), .val (.ref w_1), .val (.ref w_4), .val (.int (4 : Int32)), .val (.int ((0 : Int32) + (1 : Int32))), .val (.ref w_5)] [(.int (0 : Int32))])) _
    exact retN X115 hx (t := .boolean) Bd.returns (by simp) (hb hby d2_41) hr
  · show Q2x5 Z w_1 w_2 w_3 w_4 w_5 k_4 h0 n0 _ T115.heap _
    rw [e115]
    exact ⟨by unfold sp2x5; rfl, N115, rfl⟩
theorem pn_2x6 : plainName "com/example/lucid_locks/lucidlocks/locks/LockMode" = true := by first | (simp [plainName, overriddenIn]; done) | decide +kernel
theorem ef_2x6 (m : MethodId) (w_5 : Addr) : entryFrame m #[(.ref w_5), (.ref w_5)] 6 = mkF m 0 #[.val (.ref w_5), .val (.ref w_5), .unset, .unset, .unset, .unset] [] := by first | (simp [entryFrame, mkF, argsToLocals, Value.category]; done) | rfl
def sp2x6  : Int32 := (1 : Int32)
def Q2x6 (Z : State) (w_1 : Addr) (w_2 : Addr) (w_3 : Addr) (w_4 : Addr) (w_5 : Addr) (k_4 : ClassId) (h0 : Heap) (n0 : Nat) (v : Option Value) (h : Heap) (L : List Loc) : Prop := v = some (.int (sp2x6)) ∧ Fr n0 L ∧ h = h0
set_option maxRecDepth 65536 in
set_option maxHeartbeats 40000000 in
theorem rm2x6 (l : Launch) (Z : State) (a0 : Array Value) (hw : ∀ d ∈ tables_1, d.before a0 Z = true) (ws : List Jvm.Cond) (w_1 : Addr) (w_2 : Addr) (w_3 : Addr) (w_4 : Addr) (w_5 : Addr) (k_4 : ClassId) (hS : StF Z w_1 w_2 w_3 w_4 w_5 k_4) (h0 : Heap) (n0 : Nat) (O0 : Old Z n0 h0) :
    MetFree l Y2 (head1 (Jvm.Cond.code Y2 prog_17_method_7_code 6 (some .boolean) :: ws) ({ frames := 1, cells := 0, slots := 0, locals := 13 } : Room)) (fun a U => a = #[(.ref w_5), (.ref w_5)] ∧ Z.Warmed39 U.vm ∧ U.heap = h0) (fun _ _ _ _ _ => True) (fun _ U o U' => ∃ v L, o = .returned v ∧ Q2x6 Z w_1 w_2 w_3 w_4 w_5 k_4 h0 n0 v U'.heap L ∧ FrameEnd U o U' L ({ frames := 1, cells := 0, slots := 0, locals := 13 } : Room).cells ({ frames := 1, cells := 0, slots := 0, locals := 13 } : Room).slots) := by
  refine MetFree.of_bodySF (plainFor_of_name pn_2x6) hisR ?_
  intro p e s m args below meth c s₁ Bd hml0 hP hK
  obtain ⟨rfl, hZ, hh⟩ := hP
  have hx := Bd.exec
  have hby := Bd.bytes
  have hml : c.maxLocals = 6 := hml0
  have hown : s.vm.findClass "com/example/lucid_locks/lucidlocks/locks/LockMode" = some m.cls := findClass_of_methodNamed Bd.named
  have hnm := (name_of_methodNamed Bd.named Bd.method).1
  have X0 : Stand p l e ({ frames := 1, cells := 0, slots := 0, locals := 13 } : Room) s m #[(.ref w_5), (.ref w_5)] below meth c s₁ [] 0 0 := Stand.of_body Bd
  have e0 : s₁.heap = h0 := by rw [← hh, Bd.state]; rfl
  have N0 := Fr.nil n0
  have hS0 := hS
  obtain ⟨S_1, E_1, S_2, E_2, S_3, E_3, S_4, S_5, E_5, F_1_ordinal, F_3_ordinal, F_2_ordinal, F_1_sharedWithItself, F_5_ordinal, F_5_sharedWithItself, F_3_sharedWithItself, F_2_sharedWithItself, V_4⟩ := hS
  have pre0 : ∀ t, Steps p.tables e below (s₁.setTop (mkF m 0 #[.val (.ref w_5), .val (.ref w_5), .unset, .unset, .unset, .unset] [])) t → Steps p.tables e below (s₁.setTop (entryFrame m #[(.ref w_5), (.ref w_5)] 6)) t := fun t k => castTop (ef_2x6 m w_5) k
  obtain ⟨T122, X122, e122, st122⟩ := getS2 X0 hx hZ hown (host := "") (Or.inl (hw _ (tk 16 rfl))) Via.refl e0 (S_4.ext O0.2) (g := (mkF m 0 #[.val (.ref w_5), .val (.ref w_5), .unset, .unset, .unset, .unset] [])) rfl (hb hby d2_0)
  obtain ⟨cl123, Ar123, qa123, Sa123, Ma123, Ha123, Ga123⟩ := id (V_4.ext O0.2)
  obtain ⟨cl124, Ar124, qa124, Sa124, Ma124, Ha124, Ga124⟩ := id (V_4.ext O0.2)
  have hin124 : ¬ ((0 : Int32) < 0 ∨ cl124.slots.size ≤ ((0 : Int32)).toNatClampNeg) := by  exact inb_of Sa124 ⟨by decide, by decide⟩
  have hat124 : cl124.slots[((0 : Int32)).toNatClampNeg]? = some (.ref w_1) := Has.at Ha124 hin124 (by rfl)
  obtain ⟨cq125, kq125, q125a, q125b, q125c⟩ := isOf hZ e122 (E_5.ext O0.2)
  obtain ⟨_, _, ⟨T125, L125, k125, n125⟩, -, X125, ⟨Lc125, hQ125, l125, y125, z125⟩, st125⟩ := X122.virtualBack hx (y := Y1) (z := Y1) hown (mvT hZ (hw _ (tk 18 rfl))) (mvT hZ (hw _ (tk 19 rfl))) (notFace_of_selects (args := #[]) (mvT hZ (hw _ (tk 21 rfl)))) (mvT hZ (hw _ (tk 21 rfl))) (mvT hZ (hw _ (tk 20 rfl))) (by decide) (backOf (W := 0) (rm3 l Z a0 hw [] w_1 w_2 w_3 w_4 w_5 k_4 hS0 w_5 w_1 (1 : Int32) h0 n0 O0 (F_5_sharedWithItself.ext O0.2)) hZ (hw _ (tk 22 rfl)) (hw _ (tk 5 rfl)) (by decide) (by decide)) q125a q125c (g := (mkF m 25 #[.val (.ref w_5), .val (.ref w_5), .val (.ref w_4), .val (.int (4 : Int32)), .val (.int (0 : Int32)), .val (.ref w_1)] [(.ref w_1), (.ref w_5)])) rfl (by rw [hml]; rfl) (Steps.refl _) (argsL := [(.ref w_1)]) (rest := []) (lenOf pd_1 rfl) rfl (by show 2 * 0 + _ ≤ _; exact Nat.le_of_eq rfl) (hb hby d2_25) (fun _ _ => ⟨rfl, e122, (by decide : 0 + 0 ≤ _), (by decide : 0 + 0 ≤ _)⟩)
  dsimp only [Pt.U, Pt.locs, Pt.cells, Pt.slots] at X125 l125 y125 z125 st125 hQ125
  subst l125 y125 z125
  obtain ⟨rv125, N125q, e125⟩ := hQ125
  rw [show sp3 w_5 w_1 (1 : Int32) = (1 : Int32) from by unfold sp3; rw [if_neg (Fld.ne F_5_ordinal F_1_ordinal (by decide))]] at rv125
  subst rv125
  have N125 := Fr.app N0 N125q
  obtain ⟨cq126, kq126, q126a, q126b, q126c⟩ := isOf hZ e125 (E_5.ext O0.2)
  obtain ⟨_, _, ⟨T126, L126, k126, n126⟩, -, X126, ⟨Lc126, hQ126, l126, y126, z126⟩, st126⟩ := X125.virtualBack hx (y := Y1) (z := Y1) hown (mvT hZ (hw _ (tk 18 rfl))) (mvT hZ (hw _ (tk 19 rfl))) (notFace_of_selects (args := #[]) (mvT hZ (hw _ (tk 21 rfl)))) (mvT hZ (hw _ (tk 21 rfl))) (mvT hZ (hw _ (tk 20 rfl))) (by decide) (backOf (W := 0) (rm3 l Z a0 hw [] w_1 w_2 w_3 w_4 w_5 k_4 hS0 w_5 w_1 (1 : Int32) h0 n0 O0 (F_5_sharedWithItself.ext O0.2)) hZ (hw _ (tk 22 rfl)) (hw _ (tk 5 rfl)) (by decide) (by decide)) q126a q126c (g := (mkF m 34 #[.val (.ref w_5), .val (.ref w_5), .val (.ref w_4), .val (.int (4 : Int32)), .val (.int (0 : Int32)), .val (.ref w_1)] [(.ref w_1), (.ref w_5)])) rfl (by rw [hml]; rfl) (Steps.refl _) (argsL := [(.ref w_1)]) (rest := []) (lenOf pd_1 rfl) rfl (by show 2 * 0 + _ ≤ _; exact Nat.le_of_eq rfl) (hb hby d2_34) (fun _ _ => ⟨rfl, e125, (by decide : 0 + 0 ≤ _), (by decide : 0 + 0 ≤ _)⟩)
  dsimp only [Pt.U, Pt.locs, Pt.cells, Pt.slots] at X126 l126 y126 z126 st126 hQ126
  subst l126 y126 z126
  obtain ⟨rv126, N126q, e126⟩ := hQ126
  rw [show sp3 w_5 w_1 (1 : Int32) = (1 : Int32) from by unfold sp3; rw [if_neg (Fld.ne F_5_ordinal F_1_ordinal (by decide))]] at rv126
  subst rv126
  have N126 := Fr.app N125 N126q
  obtain ⟨cl127, Ar127, qa127, Sa127, Ma127, Ha127, Ga127⟩ := id (V_4.ext O0.2)
  have hin127 : ¬ (((0 : Int32) + (1 : Int32)) < 0 ∨ cl127.slots.size ≤ (((0 : Int32) + (1 : Int32))).toNatClampNeg) := by  exact inb_of Sa127 ⟨by decide, by decide⟩
  have hat127 : cl127.slots[(((0 : Int32) + (1 : Int32))).toNatClampNeg]? = some (.ref w_5) := Has.at Ha127 hin127 (by rfl)
  obtain ⟨cq128, kq128, q128a, q128b, q128c⟩ := isOf hZ e126 (E_5.ext O0.2)
  obtain ⟨_, _, ⟨T128, L128, k128, n128⟩, -, X128, ⟨Lc128, hQ128, l128, y128, z128⟩, st128⟩ := X126.virtualBack hx (y := Y1) (z := Y1) hown (mvT hZ (hw _ (tk 18 rfl))) (mvT hZ (hw _ (tk 19 rfl))) (notFace_of_selects (args := #[]) (mvT hZ (hw _ (tk 21 rfl)))) (mvT hZ (hw _ (tk 21 rfl))) (mvT hZ (hw _ (tk 20 rfl))) (by decide) (backOf (W := 0) (rm3 l Z a0 hw [] w_1 w_2 w_3 w_4 w_5 k_4 hS0 w_5 w_5 (1 : Int32) h0 n0 O0 (F_5_sharedWithItself.ext O0.2)) hZ (hw _ (tk 22 rfl)) (hw _ (tk 5 rfl)) (by decide) (by decide)) q128a q128c (g := (mkF m 25 #[.val (.ref w_5), .val (.ref w_5), .val (.ref w_4), .val (.int (4 : Int32)), .val (.int ((0 : Int32) + (1 : Int32))), .val (.ref w_5)] [(.ref w_5), (.ref w_5)])) rfl (by rw [hml]; rfl) (Steps.refl _) (argsL := [(.ref w_5)]) (rest := []) (lenOf pd_1 rfl) rfl (by show 2 * 0 + _ ≤ _; exact Nat.le_of_eq rfl) (hb hby d2_25) (fun _ _ => ⟨rfl, e126, (by decide : 0 + 0 ≤ _), (by decide : 0 + 0 ≤ _)⟩)
  dsimp only [Pt.U, Pt.locs, Pt.cells, Pt.slots] at X128 l128 y128 z128 st128 hQ128
  subst l128 y128 z128
  obtain ⟨rv128, N128q, e128⟩ := hQ128
  rw [show sp3 w_5 w_5 (1 : Int32) = (0 : Int32) from by unfold sp3; rw [if_pos rfl, if_neg (by decide : ¬ ((1 : Int32) = (0 : Int32)))]] at rv128
  subst rv128
  have N128 := Fr.app N126 N128q
  obtain ⟨cl129, Ar129, qa129, Sa129, Ma129, Ha129, Ga129⟩ := id (V_4.ext O0.2)
  have hin129 : ¬ ((((0 : Int32) + (1 : Int32)) + (1 : Int32)) < 0 ∨ cl129.slots.size ≤ ((((0 : Int32) + (1 : Int32)) + (1 : Int32))).toNatClampNeg) := by  exact inb_of Sa129 ⟨by decide, by decide⟩
  have hat129 : cl129.slots[((((0 : Int32) + (1 : Int32)) + (1 : Int32))).toNatClampNeg]? = some (.ref w_3) := Has.at Ha129 hin129 (by rfl)
  obtain ⟨cq130, kq130, q130a, q130b, q130c⟩ := isOf hZ e128 (E_5.ext O0.2)
  obtain ⟨_, _, ⟨T130, L130, k130, n130⟩, -, X130, ⟨Lc130, hQ130, l130, y130, z130⟩, st130⟩ := X128.virtualBack hx (y := Y1) (z := Y1) hown (mvT hZ (hw _ (tk 18 rfl))) (mvT hZ (hw _ (tk 19 rfl))) (notFace_of_selects (args := #[]) (mvT hZ (hw _ (tk 21 rfl)))) (mvT hZ (hw _ (tk 21 rfl))) (mvT hZ (hw _ (tk 20 rfl))) (by decide) (backOf (W := 0) (rm3 l Z a0 hw [] w_1 w_2 w_3 w_4 w_5 k_4 hS0 w_5 w_3 (1 : Int32) h0 n0 O0 (F_5_sharedWithItself.ext O0.2)) hZ (hw _ (tk 22 rfl)) (hw _ (tk 5 rfl)) (by decide) (by decide)) q130a q130c (g := (mkF m 25 #[.val (.ref w_5), .val (.ref w_5), .val (.ref w_4), .val (.int (4 : Int32)), .val (.int (((0 : Int32) + (1 : Int32)) + (1 : Int32))), .val (.ref w_3)] [(.ref w_3), (.ref w_5)])) rfl (by rw [hml]; rfl) (Steps.refl _) (argsL := [(.ref w_3)]) (rest := []) (lenOf pd_1 rfl) rfl (by show 2 * 0 + _ ≤ _; exact Nat.le_of_eq rfl) (hb hby d2_25) (fun _ _ => ⟨rfl, e128, (by decide : 0 + 0 ≤ _), (by decide : 0 + 0 ≤ _)⟩)
  dsimp only [Pt.U, Pt.locs, Pt.cells, Pt.slots] at X130 l130 y130 z130 st130 hQ130
  subst l130 y130 z130
  obtain ⟨rv130, N130q, e130⟩ := hQ130
  rw [show sp3 w_5 w_3 (1 : Int32) = (1 : Int32) from by unfold sp3; rw [if_neg (Fld.ne F_5_ordinal F_3_ordinal (by decide))]] at rv130
  subst rv130
  have N130 := Fr.app N128 N130q
  obtain ⟨cq131, kq131, q131a, q131b, q131c⟩ := isOf hZ e130 (E_5.ext O0.2)
  obtain ⟨_, _, ⟨T131, L131, k131, n131⟩, -, X131, ⟨Lc131, hQ131, l131, y131, z131⟩, st131⟩ := X130.virtualBack hx (y := Y1) (z := Y1) hown (mvT hZ (hw _ (tk 18 rfl))) (mvT hZ (hw _ (tk 19 rfl))) (notFace_of_selects (args := #[]) (mvT hZ (hw _ (tk 21 rfl)))) (mvT hZ (hw _ (tk 21 rfl))) (mvT hZ (hw _ (tk 20 rfl))) (by decide) (backOf (W := 0) (rm3 l Z a0 hw [] w_1 w_2 w_3 w_4 w_5 k_4 hS0 w_5 w_3 (1 : Int32) h0 n0 O0 (F_5_sharedWithItself.ext O0.2)) hZ (hw _ (tk 22 rfl)) (hw _ (tk 5 rfl)) (by decide) (by decide)) q131a q131c (g := (mkF m 34 #[.val (.ref w_5), .val (.ref w_5), .val (.ref w_4), .val (.int (4 : Int32)), .val (.int (((0 : Int32) + (1 : Int32)) + (1 : Int32))), .val (.ref w_3)] [(.ref w_3), (.ref w_5)])) rfl (by rw [hml]; rfl) (Steps.refl _) (argsL := [(.ref w_3)]) (rest := []) (lenOf pd_1 rfl) rfl (by show 2 * 0 + _ ≤ _; exact Nat.le_of_eq rfl) (hb hby d2_34) (fun _ _ => ⟨rfl, e130, (by decide : 0 + 0 ≤ _), (by decide : 0 + 0 ≤ _)⟩)
  dsimp only [Pt.U, Pt.locs, Pt.cells, Pt.slots] at X131 l131 y131 z131 st131 hQ131
  subst l131 y131 z131
  obtain ⟨rv131, N131q, e131⟩ := hQ131
  rw [show sp3 w_5 w_3 (1 : Int32) = (1 : Int32) from by unfold sp3; rw [if_neg (Fld.ne F_5_ordinal F_3_ordinal (by decide))]] at rv131
  subst rv131
  have N131 := Fr.app N130 N131q
  obtain ⟨cl132, Ar132, qa132, Sa132, Ma132, Ha132, Ga132⟩ := id (V_4.ext O0.2)
  have hin132 : ¬ (((((0 : Int32) + (1 : Int32)) + (1 : Int32)) + (1 : Int32)) < 0 ∨ cl132.slots.size ≤ (((((0 : Int32) + (1 : Int32)) + (1 : Int32)) + (1 : Int32))).toNatClampNeg) := by  exact inb_of Sa132 ⟨by decide, by decide⟩
  have hat132 : cl132.slots[(((((0 : Int32) + (1 : Int32)) + (1 : Int32)) + (1 : Int32))).toNatClampNeg]? = some (.ref w_2) := Has.at Ha132 hin132 (by rfl)
  obtain ⟨cq133, kq133, q133a, q133b, q133c⟩ := isOf hZ e131 (E_5.ext O0.2)
  obtain ⟨_, _, ⟨T133, L133, k133, n133⟩, -, X133, ⟨Lc133, hQ133, l133, y133, z133⟩, st133⟩ := X131.virtualBack hx (y := Y1) (z := Y1) hown (mvT hZ (hw _ (tk 18 rfl))) (mvT hZ (hw _ (tk 19 rfl))) (notFace_of_selects (args := #[]) (mvT hZ (hw _ (tk 21 rfl)))) (mvT hZ (hw _ (tk 21 rfl))) (mvT hZ (hw _ (tk 20 rfl))) (by decide) (backOf (W := 0) (rm3 l Z a0 hw [] w_1 w_2 w_3 w_4 w_5 k_4 hS0 w_5 w_2 (1 : Int32) h0 n0 O0 (F_5_sharedWithItself.ext O0.2)) hZ (hw _ (tk 22 rfl)) (hw _ (tk 5 rfl)) (by decide) (by decide)) q133a q133c (g := (mkF m 25 #[.val (.ref w_5), .val (.ref w_5), .val (.ref w_4), .val (.int (4 : Int32)), .val (.int ((((0 : Int32) + (1 : Int32)) + (1 : Int32)) + (1 : Int32))), .val (.ref w_2)] [(.ref w_2), (.ref w_5)])) rfl (by rw [hml]; rfl) (Steps.refl _) (argsL := [(.ref w_2)]) (rest := []) (lenOf pd_1 rfl) rfl (by show 2 * 0 + _ ≤ _; exact Nat.le_of_eq rfl) (hb hby d2_25) (fun _ _ => ⟨rfl, e131, (by decide : 0 + 0 ≤ _), (by decide : 0 + 0 ≤ _)⟩)
  dsimp only [Pt.U, Pt.locs, Pt.cells, Pt.slots] at X133 l133 y133 z133 st133 hQ133
  subst l133 y133 z133
  obtain ⟨rv133, N133q, e133⟩ := hQ133
  rw [show sp3 w_5 w_2 (1 : Int32) = (1 : Int32) from by unfold sp3; rw [if_neg (Fld.ne F_5_ordinal F_2_ordinal (by decide))]] at rv133
  subst rv133
  have N133 := Fr.app N131 N133q
  obtain ⟨cq134, kq134, q134a, q134b, q134c⟩ := isOf hZ e133 (E_5.ext O0.2)
  obtain ⟨_, _, ⟨T134, L134, k134, n134⟩, -, X134, ⟨Lc134, hQ134, l134, y134, z134⟩, st134⟩ := X133.virtualBack hx (y := Y1) (z := Y1) hown (mvT hZ (hw _ (tk 18 rfl))) (mvT hZ (hw _ (tk 19 rfl))) (notFace_of_selects (args := #[]) (mvT hZ (hw _ (tk 21 rfl)))) (mvT hZ (hw _ (tk 21 rfl))) (mvT hZ (hw _ (tk 20 rfl))) (by decide) (backOf (W := 0) (rm3 l Z a0 hw [] w_1 w_2 w_3 w_4 w_5 k_4 hS0 w_5 w_2 (1 : Int32) h0 n0 O0 (F_5_sharedWithItself.ext O0.2)) hZ (hw _ (tk 22 rfl)) (hw _ (tk 5 rfl)) (by decide) (by decide)) q134a q134c (g := (mkF m 34 #[.val (.ref w_5), .val (.ref w_5), .val (.ref w_4), .val (.int (4 : Int32)), .val (.int ((((0 : Int32) + (1 : Int32)) + (1 : Int32)) + (1 : Int32))), .val (.ref w_2)] [(.ref w_2), (.ref w_5)])) rfl (by rw [hml]; rfl) (Steps.refl _) (argsL := [(.ref w_2)]) (rest := []) (lenOf pd_1 rfl) rfl (by show 2 * 0 + _ ≤ _; exact Nat.le_of_eq rfl) (hb hby d2_34) (fun _ _ => ⟨rfl, e133, (by decide : 0 + 0 ≤ _), (by decide : 0 + 0 ≤ _)⟩)
  dsimp only [Pt.U, Pt.locs, Pt.cells, Pt.slots] at X134 l134 y134 z134 st134 hQ134
  subst l134 y134 z134
  obtain ⟨rv134, N134q, e134⟩ := hQ134
  rw [show sp3 w_5 w_2 (1 : Int32) = (1 : Int32) from by unfold sp3; rw [if_neg (Fld.ne F_5_ordinal F_2_ordinal (by decide))]] at rv134
  subst rv134
  have N134 := Fr.app N133 N134q
  obtain ⟨fs, hr, hrun, hended, hW, hsame⟩ := X134.leave (v := some (.int (1 : Int32))) (fun h => by rw [Bd.returns] at h; cases h)
  refine ⟨_, _, pre0 _ ?_, hrun, hended, _, _, rfl, ?_, ⟨_, rfl⟩, hW, hsame.mono (by decide) (by decide)⟩
  · show Steps p.tables e below (s₁.setTop (mkF m 0 #[.val (.ref w_5), .val (.ref w_5), .unset, .unset, .unset, .unset] [])) _
    refine st122 _ ?_
    show Steps p.tables e below (T122.setTop (mkF m 3 #[.val (.ref w_5), .val (.ref w_5), .unset, .unset, .unset, .unset] [(.ref w_4)])) _
    refine XS.astoreN X122.here hx rfl (hb hby d2_3) rfl rfl (l' := #[.val (.ref w_5), .val (.ref w_5), .val (.ref w_4), .unset, .unset, .unset]) rfl ?_
    show Steps p.tables e below (T122.setTop (mkF m 4 #[.val (.ref w_5), .val (.ref w_5), .val (.ref w_4), .unset, .unset, .unset] [])) _
    refine XS.aloadN X122.here hx rfl (hb hby d2_4) rfl rfl ?_
    show Steps p.tables e below (T122.setTop (mkF m 5 #[.val (.ref w_5), .val (.ref w_5), .val (.ref w_4), .unset, .unset, .unset] [(.ref w_4)])) _
    refine X122.arraylength hx (by rw [e122]; exact Ar123.1) (State.isArrayOf_alike hZ.alike Ar123.2.1) (g := (mkF m 5 #[.val (.ref w_5), .val (.ref w_5), .val (.ref w_4), .unset, .unset, .unset] [(.ref w_4)])) rfl rfl (hb hby d2_5) _ ?_
    rw [len_of Sa123 Ma123]
    show Steps p.tables e below (T122.setTop (mkF m 6 #[.val (.ref w_5), .val (.ref w_5), .val (.ref w_4), .unset, .unset, .unset] [(.int (4 : Int32))])) _
    refine XS.istoreN X122.here hx rfl (hb hby d2_6) rfl (l' := #[.val (.ref w_5), .val (.ref w_5), .val (.ref w_4), .val (.int (4 : Int32)), .unset, .unset]) rfl ?_
    show Steps p.tables e below (T122.setTop (mkF m 7 #[.val (.ref w_5), .val (.ref w_5), .val (.ref w_4), .val (.int (4 : Int32)), .unset, .unset] [])) _
    refine XS.iconst X122.here hx rfl (hb hby d2_7) ?_
    show Steps p.tables e below (T122.setTop (mkF m 8 #[.val (.ref w_5), .val (.ref w_5), .val (.ref w_4), .val (.int (4 : Int32)), .unset, .unset] [(.int (0 : Int32))])) _
    refine XS.istore X122.here hx rfl (hb hby d2_8) rfl (l' := #[.val (.ref w_5), .val (.ref w_5), .val (.ref w_4), .val (.int (4 : Int32)), .val (.int (0 : Int32)), .unset]) rfl ?_
    show Steps p.tables e below (T122.setTop (mkF m 10 #[.val (.ref w_5), .val (.ref w_5), .val (.ref w_4), .val (.int (4 : Int32)), .val (.int (0 : Int32)), .unset] [])) _
    refine XS.iload X122.here hx rfl (hb hby d2_10) rfl ?_
    show Steps p.tables e below (T122.setTop (mkF m 12 #[.val (.ref w_5), .val (.ref w_5), .val (.ref w_4), .val (.int (4 : Int32)), .val (.int (0 : Int32)), .unset] [(.int (0 : Int32))])) _
    refine XS.iloadN X122.here hx rfl (hb hby d2_12) rfl ?_
    show Steps p.tables e below (T122.setTop (mkF m 13 #[.val (.ref w_5), .val (.ref w_5), .val (.ref w_4), .val (.int (4 : Int32)), .val (.int (0 : Int32)), .unset] [(.int (4 : Int32)), (.int (0 : Int32))])) _
    refine XS.icmpNo X122.here hx rfl (hb hby d2_13) rfl (tlt (by decide : ((0 : Int32) < (4 : Int32)))).2.1 ?_
    show Steps p.tables e below (T122.setTop (mkF m 16 #[.val (.ref w_5), .val (.ref w_5), .val (.ref w_4), .val (.int (4 : Int32)), .val (.int (0 : Int32)), .unset] [])) _
    refine XS.aloadN X122.here hx rfl (hb hby d2_16) rfl rfl ?_
    show Steps p.tables e below (T122.setTop (mkF m 17 #[.val (.ref w_5), .val (.ref w_5), .val (.ref w_4), .val (.int (4 : Int32)), .val (.int (0 : Int32)), .unset] [(.ref w_4)])) _
    refine XS.iload X122.here hx rfl (hb hby d2_17) rfl ?_
    show Steps p.tables e below (T122.setTop (mkF m 19 #[.val (.ref w_5), .val (.ref w_5), .val (.ref w_4), .val (.int (4 : Int32)), .val (.int (0 : Int32)), .unset] [(.int (0 : Int32)), (.ref w_4)])) _
    refine X122.aaload hx (j := (0 : Int32)) (v := (.ref w_1)) (by rw [e122]; exact Ar124.1) (State.isArrayOf_alike hZ.alike Ar124.2.1) rfl Ar124.2.2 hin124 hat124 (g := (mkF m 19 #[.val (.ref w_5), .val (.ref w_5), .val (.ref w_4), .val (.int (4 : Int32)), .val (.int (0 : Int32)), .unset] [(.int (0 : Int32)), (.ref w_4)])) rfl rfl (hb hby d2_19) _ ?_
    show Steps p.tables e below (T122.setTop (mkF m 20 #[.val (.ref w_5), .val (.ref w_5), .val (.ref w_4), .val (.int (4 : Int32)), .val (.int (0 : Int32)), .unset] [(.ref w_1)])) _
    refine XS.astore X122.here hx rfl (hb hby d2_20) rfl rfl (l' := #[.val (.ref w_5), .val (.ref w_5), .val (.ref w_4), .val (.int (4 : Int32)), .val (.int (0 : Int32)), .val (.ref w_1)]) rfl ?_
    show Steps p.tables e below (T122.setTop (mkF m 22 #[.val (.ref w_5), .val (.ref w_5), .val (.ref w_4), .val (.int (4 : Int32)), .val (.int (0 : Int32)), .val (.ref w_1)] [])) _
    refine XS.aloadN X122.here hx rfl (hb hby d2_22) rfl rfl ?_
    show Steps p.tables e below (T122.setTop (mkF m 23 #[.val (.ref w_5), .val (.ref w_5), .val (.ref w_4), .val (.int (4 : Int32)), .val (.int (0 : Int32)), .val (.ref w_1)] [(.ref w_5)])) _
    refine XS.aload X122.here hx rfl (hb hby d2_23) rfl rfl ?_
    show Steps p.tables e below (T122.setTop (mkF m 25 #[.val (.ref w_5), .val (.ref w_5), .val (.ref w_4), .val (.int (4 : Int32)), .val (.int (0 : Int32)), .val (.ref w_1)] [(.ref w_1), (.ref w_5)])) _
    refine st125.trans ?_
    show Steps p.tables e below (T125.setTop (mkF m 28 #[.val (.ref w_5), .val (.ref w_5), .val (.ref w_4), .val (.int (4 : Int32)), .val (.int (0 : Int32)), .val (.ref w_1)] [(.int (1 : Int32))])) _
    refine XS.ifNo X125.here hx rfl (hb hby d2_28) rfl ((if0 _ _).trans (feq (by decide : ¬ ((1 : Int32) = (0 : Int32)))).1) ?_
    show Steps p.tables e below (T125.setTop (mkF m 31 #[.val (.ref w_5), .val (.ref w_5), .val (.ref w_4), .val (.int (4 : Int32)), .val (.int (0 : Int32)), .val (.ref w_1)] [])) _
    refine XS.aloadN X125.here hx rfl (hb hby d2_31) rfl rfl ?_
    show Steps p.tables e below (T125.setTop (mkF m 32 #[.val (.ref w_5), .val (.ref w_5), .val (.ref w_4), .val (.int (4 : Int32)), .val (.int (0 : Int32)), .val (.ref w_1)] [(.ref w_5)])) _
    refine XS.aload X125.here hx rfl (hb hby d2_32) rfl rfl ?_
    show Steps p.tables e below (T125.setTop (mkF m 34 #[.val (.ref w_5), .val (.ref w_5), .val (.ref w_4), .val (.int (4 : Int32)), .val (.int (0 : Int32)), .val (.ref w_1)] [(.ref w_1), (.ref w_5)])) _
    refine st126.trans ?_
    show Steps p.tables e below (T126.setTop (mkF m 37 #[.val (.ref w_5), .val (.ref w_5), .val (.ref w_4), .val (.int (4 : Int32)), .val (.int (0 : Int32)), .val (.ref w_1)] [(.int (1 : Int32))])) _
    refine XS.ifYes X126.here hx rfl (pc0 := 37) (pc' := 42) rfl (hb hby d2_37) rfl ((if0 _ _).trans (feq (by decide : ¬ ((1 : Int32) = (0 : Int32)))).2) (by decide) (by decide) ?_
    show Steps p.tables e below (T126.setTop (mkF m 42 #[.val (.ref w_5), .val (.ref w_5), .val (.ref w_4), .val (.int (4 : Int32)), .val (.int (0 : Int32)), .val (.ref w_1)] [])) _
    refine XS.iinc X126.here hx rfl (hb hby d2_42) rfl (l' := #[.val (.ref w_5), .val (.ref w_5), .val (.ref w_4), .val (.int (4 : Int32)), .val (.int ((0 : Int32) + (1 : Int32))), .val (.ref w_1)]) rfl ?_
    show Steps p.tables e below (T126.setTop (mkF m 45 #[.val (.ref w_5), .val (.ref w_5), .val (.ref w_4), .val (.int (4 : Int32)), .val (.int ((0 : Int32) + (1 : Int32))), .val (.ref w_1)] [])) _
    refine XS.goto X126.here hx rfl (pc0 := 45) (pc' := 10) rfl (hb hby d2_45) (by decide) (by decide) ?_
    show Steps p.tables e below (T126.setTop (mkF m 10 #[.val (.ref w_5), .val (.ref w_5), .val (.ref w_4), .val (.int (4 : Int32)), .val (.int ((0 : Int32) + (1 : Int32))), .val (.ref w_1)] [])) _
    refine XS.iload X126.here hx rfl (hb hby d2_10) rfl ?_
    show Steps p.tables e below (T126.setTop (mkF m 12 #[.val (.ref w_5), .val (.ref w_5), .val (.ref w_4), .val (.int (4 : Int32)), .val (.int ((0 : Int32) + (1 : Int32))), .val (.ref w_1)] [(.int ((0 : Int32) + (1 : Int32)))])) _
    refine XS.iloadN X126.here hx rfl (hb hby d2_12) rfl ?_
    show Steps p.tables e below (T126.setTop (mkF m 13 #[.val (.ref w_5), .val (.ref w_5), .val (.ref w_4), .val (.int (4 : Int32)), .val (.int ((0 : Int32) + (1 : Int32))), .val (.ref w_1)] [(.int (4 : Int32)), (.int ((0 : Int32) + (1 : Int32)))])) _
    refine XS.icmpNo X126.here hx rfl (hb hby d2_13) rfl (tlt (by decide : (((0 : Int32) + (1 : Int32)) < (4 : Int32)))).2.1 ?_
    show Steps p.tables e below (T126.setTop (mkF m 16 #[.val (.ref w_5), .val (.ref w_5), .val (.ref w_4), .val (.int (4 : Int32)), .val (.int ((0 : Int32) + (1 : Int32))), .val (.ref w_1)] [])) _
    refine XS.aloadN X126.here hx rfl (hb hby d2_16) rfl rfl ?_
    show Steps p.tables e below (T126.setTop (mkF m 17 #[.val (.ref w_5), .val (.ref w_5), .val (.ref w_4), .val (.int (4 : Int32)), .val (.int ((0 : Int32) + (1 : Int32))), .val (.ref w_1)] [(.ref w_4)])) _
    refine XS.iload X126.here hx rfl (hb hby d2_17) rfl ?_
    show Steps p.tables e below (T126.setTop (mkF m 19 #[.val (.ref w_5), .val (.ref w_5), .val (.ref w_4), .val (.int (4 : Int32)), .val (.int ((0 : Int32) + (1 : Int32))), .val (.ref w_1)] [(.int ((0 : Int32) + (1 : Int32))), (.ref w_4)])) _
    refine X126.aaload hx (j := ((0 : Int32) + (1 : Int32))) (v := (.ref w_5)) (by rw [e126]; exact Ar127.1) (State.isArrayOf_alike hZ.alike Ar127.2.1) rfl Ar127.2.2 hin127 hat127 (g := (mkF m 19 #[.val (.ref w_5), .val (.ref w_5), .val (.ref w_4), .val (.int (4 : Int32)), .val (.int ((0 : Int32) + (1 : Int32))), .val (.ref w_1)] [(.int ((0 : Int32) + (1 : Int32))), (.ref w_4)])) rfl rfl (hb hby d2_19) _ ?_
    show Steps p.tables e below (T126.setTop (mkF m 20 #[.val (.ref w_5), .val (.ref w_5), .val (.ref w_4), .val (.int (4 : Int32)), .val (.int ((0 : Int32) + (1 : Int32))), .val (.ref w_1)] [(.ref w_5)])) _
    refine XS.astore X126.here hx rfl (hb hby d2_20) rfl rfl (l' := #[.val (.ref w_5), .val (.ref w_5), .val (.ref w_4), .val (.int (4 : Int32)), .val (.int ((0 : Int32) + (1 : Int32))), .val (.ref w_5)]) rfl ?_
    show Steps p.tables e below (T126.setTop (mkF m 22 #[.val (.ref w_5), .val (.ref w_5), .val (.ref w_4), .val (.int (4 : Int32)), .val (.int ((0 : Int32) + (1 : Int32))), .val (.ref w_5)] [])) _
    refine XS.aloadN X126.here hx rfl (hb hby d2_22) rfl rfl ?_
    show Steps p.tables e below (T126.setTop (mkF m 23 #[.val (.ref w_5), .val (.ref w_5), .val (.ref w_4), .val (.int (4 : Int32)), .val (.int ((0 : Int32) + (1 : Int32))), .val (.ref w_5)] [(.ref w_5)])) _
    refine XS.aload X126.here hx rfl (hb hby d2_23) rfl rfl ?_
    show Steps p.tables e below (T126.setTop (mkF m 25 #[.val (.ref w_5), .val (.ref w_5), .val (.ref w_4), .val (.int (4 : Int32)), .val (.int ((0 : Int32) + (1 : Int32))), .val (.ref w_5)] [(.ref w_5), (.ref w_5)])) _
    refine st128.trans ?_
    show Steps p.tables e below (T128.setTop (mkF m 28 #[.val (.ref w_5), .val (.ref w_5), .val (.ref w_4), .val (.int (4 : Int32)), .val (.int ((0 : Int32) + (1 : Int32))), .val (.ref w_5)] [(.int (0 : Int32))])) _
    refine XS.ifYes X128.here hx rfl (pc0 := 28) (pc' := 42) rfl (hb hby d2_28) rfl ((if0 _ _).trans (teq (by decide : ((0 : Int32) = (0 : Int32)))).1) (by decide) (by decide) ?_
    show Steps p.tables e below (T128.setTop (mkF m 42 #[.val (.ref w_5), .val (.ref w_5), .val (.ref w_4), .val (.int (4 : Int32)), .val (.int ((0 : Int32) + (1 : Int32))), .val (.ref w_5)] [])) _
    refine XS.iinc X128.here hx rfl (hb hby d2_42) rfl (l' := #[.val (.ref w_5), .val (.ref w_5), .val (.ref w_4), .val (.int (4 : Int32)), .val (.int (((0 : Int32) + (1 : Int32)) + (1 : Int32))), .val (.ref w_5)]) rfl ?_
    show Steps p.tables e below (T128.setTop (mkF m 45 #[.val (.ref w_5), .val (.ref w_5), .val (.ref w_4), .val (.int (4 : Int32)), .val (.int (((0 : Int32) + (1 : Int32)) + (1 : Int32))), .val (.ref w_5)] [])) _
    refine XS.goto X128.here hx rfl (pc0 := 45) (pc' := 10) rfl (hb hby d2_45) (by decide) (by decide) ?_
    show Steps p.tables e below (T128.setTop (mkF m 10 #[.val (.ref w_5), .val (.ref w_5), .val (.ref w_4), .val (.int (4 : Int32)), .val (.int (((0 : Int32) + (1 : Int32)) + (1 : Int32))), .val (.ref w_5)] [])) _
    refine XS.iload X128.here hx rfl (hb hby d2_10) rfl ?_
    show Steps p.tables e below (T128.setTop (mkF m 12 #[.val (.ref w_5), .val (.ref w_5), .val (.ref w_4), .val (.int (4 : Int32)), .val (.int (((0 : Int32) + (1 : Int32)) + (1 : Int32))), .val (.ref w_5)] [(.int (((0 : Int32) + (1 : Int32)) + (1 : Int32)))])) _
    refine XS.iloadN X128.here hx rfl (hb hby d2_12) rfl ?_
    show Steps p.tables e below (T128.setTop (mkF m 13 #[.val (.ref w_5), .val (.ref w_5), .val (.ref w_4), .val (.int (4 : Int32)), .val (.int (((0 : Int32) + (1 : Int32)) + (1 : Int32))), .val (.ref w_5)] [(.int (4 : Int32)), (.int (((0 : Int32) + (1 : Int32)) + (1 : Int32)))])) _
    refine XS.icmpNo X128.here hx rfl (hb hby d2_13) rfl (tlt (by decide : ((((0 : Int32) + (1 : Int32)) + (1 : Int32)) < (4 : Int32)))).2.1 ?_
    show Steps p.tables e below (T128.setTop (mkF m 16 #[.val (.ref w_5), .val (.ref w_5), .val (.ref w_4), .val (.int (4 : Int32)), .val (.int (((0 : Int32) + (1 : Int32)) + (1 : Int32))), .val (.ref w_5)] [])) _
    refine XS.aloadN X128.here hx rfl (hb hby d2_16) rfl rfl ?_
    show Steps p.tables e below (T128.setTop (mkF m 17 #[.val (.ref w_5), .val (.ref w_5), .val (.ref w_4), .val (.int (4 : Int32)), .val (.int (((0 : Int32) + (1 : Int32)) + (1 : Int32))), .val (.ref w_5)] [(.ref w_4)])) _
    refine XS.iload X128.here hx rfl (hb hby d2_17) rfl ?_
    show Steps p.tables e below (T128.setTop (mkF m 19 #[.val (.ref w_5), .val (.ref w_5), .val (.ref w_4), .val (.int (4 : Int32)), .val (.int (((0 : Int32) + (1 : Int32)) + (1 : Int32))), .val (.ref w_5)] [(.int (((0 : Int32) + (1 : Int32)) + (1 : Int32))), (.ref w_4)])) _
    refine X128.aaload hx (j := (((0 : Int32) + (1 : Int32)) + (1 : Int32))) (v := (.ref w_3)) (by rw [e128]; exact Ar129.1) (State.isArrayOf_alike hZ.alike Ar129.2.1) rfl Ar129.2.2 hin129 hat129 (g := (mkF m 19 #[.val (.ref w_5), .val (.ref w_5), .val (.ref w_4), .val (.int (4 : Int32)), .val (.int (((0 : Int32) + (1 : Int32)) + (1 : Int32))), .val (.ref w_5)] [(.int (((0 : Int32) + (1 : Int32)) + (1 : Int32))), (.ref w_4)])) rfl rfl (hb hby d2_19) _ ?_
    show Steps p.tables e below (T128.setTop (mkF m 20 #[.val (.ref w_5), .val (.ref w_5), .val (.ref w_4), .val (.int (4 : Int32)), .val (.int (((0 : Int32) + (1 : Int32)) + (1 : Int32))), .val (.ref w_5)] [(.ref w_3)])) _
    refine XS.astore X128.here hx rfl (hb hby d2_20) rfl rfl (l' := #[.val (.ref w_5), .val (.ref w_5), .val (.ref w_4), .val (.int (4 : Int32)), .val (.int (((0 : Int32) + (1 : Int32)) + (1 : Int32))), .val (.ref w_3)]) rfl ?_
    show Steps p.tables e below (T128.setTop (mkF m 22 #[.val (.ref w_5), .val (.ref w_5), .val (.ref w_4), .val (.int (4 : Int32)), .val (.int (((0 : Int32) + (1 : Int32)) + (1 : Int32))), .val (.ref w_3)] [])) _
    refine XS.aloadN X128.here hx rfl (hb hby d2_22) rfl rfl ?_
    show Steps p.tables e below (T128.setTop (mkF m 23 #[.val (.ref w_5), .val (.ref w_5), .val (.ref w_4), .val (.int (4 : Int32)), .val (.int (((0 : Int32) + (1 : Int32)) + (1 : Int32))), .val (.ref w_3)] [(.ref w_5)])) _
    refine XS.aload X128.here hx rfl (hb hby d2_23) rfl rfl ?_
    show Steps p.tables e below (T128.setTop (mkF m 25 #[.val (.ref w_5), .val (.ref w_5), .val (.ref w_4), .val (.int (4 : Int32)), .val (.int (((0 : Int32) + (1 : Int32)) + (1 : Int32))), .val (.ref w_3)] [(.ref w_3), (.ref w_5)])) _
    refine st130.trans ?_
    show Steps p.tables e below (T130.setTop (mkF m 28 #[.val (.ref w_5), .val (.ref w_5), .val (.ref w_4), .val (.int (4 : Int32)), .val (.int (((0 : Int32) + (1 : Int32)) + (1 : Int32))), .val (.ref w_3)] [(.int (1 : Int32))])) _
    refine XS.ifNo X130.here hx rfl (hb hby d2_28) rfl ((if0 _ _).trans (feq (by decide : ¬ ((1 : Int32) = (0 : Int32)))).1) ?_
    show Steps p.tables e below (T130.setTop (mkF m 31 #[.val (.ref w_5), .val (.ref w_5), .val (.ref w_4), .val (.int (4 : Int32)), .val (.int (((0 : Int32) + (1 : Int32)) + (1 : Int32))), .val (.ref w_3)] [])) _
    refine XS.aloadN X130.here hx rfl (hb hby d2_31) rfl rfl ?_
    show Steps p.tables e below (T130.setTop (mkF m 32 #[.val (.ref w_5), .val (.ref w_5), .val (.ref w_4), .val (.int (4 : Int32)), .val (.int (((0 : Int32) + (1 : Int32)) + (1 : Int32))), .val (.ref w_3)] [(.ref w_5)])) _
    refine XS.aload X130.here hx rfl (hb hby d2_32) rfl rfl ?_
    show Steps p.tables e below (T130.setTop (mkF m 34 #[.val (.ref w_5), .val (.ref w_5), .val (.ref w_4), .val (.int (4 : Int32)), .val (.int (((0 : Int32) + (1 : Int32)) + (1 : Int32))), .val (.ref w_3)] [(.ref w_3), (.ref w_5)])) _
    refine st131.trans ?_
    show Steps p.tables e below (T131.setTop (mkF m 37 #[.val (.ref w_5), .val (.ref w_5), .val (.ref w_4), .val (.int (4 : Int32)), .val (.int (((0 : Int32) + (1 : Int32)) + (1 : Int32))), .val (.ref w_3)] [(.int (1 : Int32))])) _
    refine XS.ifYes X131.here hx rfl (pc0 := 37) (pc' := 42) rfl (hb hby d2_37) rfl ((if0 _ _).trans (feq (by decide : ¬ ((1 : Int32) = (0 : Int32)))).2) (by decide) (by decide) ?_
    show Steps p.tables e below (T131.setTop (mkF m 42 #[.val (.ref w_5), .val (.ref w_5), .val (.ref w_4), .val (.int (4 : Int32)), .val (.int (((0 : Int32) + (1 : Int32)) + (1 : Int32))), .val (.ref w_3)] [])) _
    refine XS.iinc X131.here hx rfl (hb hby d2_42) rfl (l' := #[.val (.ref w_5), .val (.ref w_5), .val (.ref w_4), .val (.int (4 : Int32)), .val (.int ((((0 : Int32) + (1 : Int32)) + (1 : Int32)) + (1 : Int32))), .val (.ref w_3)]) rfl ?_
    show Steps p.tables e below (T131.setTop (mkF m 45 #[.val (.ref w_5), .val (.ref w_5), .val (.ref w_4), .val (.int (4 : Int32)), .val (.int ((((0 : Int32) + (1 : Int32)) + (1 : Int32)) + (1 : Int32))), .val (.ref w_3)] [])) _
    refine XS.goto X131.here hx rfl (pc0 := 45) (pc' := 10) rfl (hb hby d2_45) (by decide) (by decide) ?_
    show Steps p.tables e below (T131.setTop (mkF m 10 #[.val (.ref w_5), .val (.ref w_5), .val (.ref w_4), .val (.int (4 : Int32)), .val (.int ((((0 : Int32) + (1 : Int32)) + (1 : Int32)) + (1 : Int32))), .val (.ref w_3)] [])) _
    refine XS.iload X131.here hx rfl (hb hby d2_10) rfl ?_
    show Steps p.tables e below (T131.setTop (mkF m 12 #[.val (.ref w_5), .val (.ref w_5), .val (.ref w_4), .val (.int (4 : Int32)), .val (.int ((((0 : Int32) + (1 : Int32)) + (1 : Int32)) + (1 : Int32))), .val (.ref w_3)] [(.int ((((0 : Int32) + (1 : Int32)) + (1 : Int32)) + (1 : Int32)))])) _
    refine XS.iloadN X131.here hx rfl (hb hby d2_12) rfl ?_
    show Steps p.tables e below (T131.setTop (mkF m 13 #[.val (.ref w_5), .val (.ref w_5), .val (.ref w_4), .val (.int (4 : Int32)), .val (.int ((((0 : Int32) + (1 : Int32)) + (1 : Int32)) + (1 : Int32))), .val (.ref w_3)] [(.int (4 : Int32)), (.int ((((0 : Int32) + (1 : Int32)) + (1 : Int32)) + (1 : Int32)))])) _
    refine XS.icmpNo X131.here hx rfl (hb hby d2_13) rfl (tlt (by decide : (((((0 : Int32) + (1 : Int32)) + (1 : Int32)) + (1 : Int32)) < (4 : Int32)))).2.1 ?_
    show Steps p.tables e below (T131.setTop (mkF m 16 #[.val (.ref w_5), .val (.ref w_5), .val (.ref w_4), .val (.int (4 : Int32)), .val (.int ((((0 : Int32) + (1 : Int32)) + (1 : Int32)) + (1 : Int32))), .val (.ref w_3)] [])) _
    refine XS.aloadN X131.here hx rfl (hb hby d2_16) rfl rfl ?_
    show Steps p.tables e below (T131.setTop (mkF m 17 #[.val (.ref w_5), .val (.ref w_5), .val (.ref w_4), .val (.int (4 : Int32)), .val (.int ((((0 : Int32) + (1 : Int32)) + (1 : Int32)) + (1 : Int32))), .val (.ref w_3)] [(.ref w_4)])) _
    refine XS.iload X131.here hx rfl (hb hby d2_17) rfl ?_
    show Steps p.tables e below (T131.setTop (mkF m 19 #[.val (.ref w_5), .val (.ref w_5), .val (.ref w_4), .val (.int (4 : Int32)), .val (.int ((((0 : Int32) + (1 : Int32)) + (1 : Int32)) + (1 : Int32))), .val (.ref w_3)] [(.int ((((0 : Int32) + (1 : Int32)) + (1 : Int32)) + (1 : Int32))), (.ref w_4)])) _
    refine X131.aaload hx (j := ((((0 : Int32) + (1 : Int32)) + (1 : Int32)) + (1 : Int32))) (v := (.ref w_2)) (by rw [e131]; exact Ar132.1) (State.isArrayOf_alike hZ.alike Ar132.2.1) rfl Ar132.2.2 hin132 hat132 (g := (mkF m 19 #[.val (.ref w_5), .val (.ref w_5), .val (.ref w_4), .val (.int (4 : Int32)), .val (.int ((((0 : Int32) + (1 : Int32)) + (1 : Int32)) + (1 : Int32))), .val (.ref w_3)] [(.int ((((0 : Int32) + (1 : Int32)) + (1 : Int32)) + (1 : Int32))), (.ref w_4)])) rfl rfl (hb hby d2_19) _ ?_
    show Steps p.tables e below (T131.setTop (mkF m 20 #[.val (.ref w_5), .val (.ref w_5), .val (.ref w_4), .val (.int (4 : Int32)), .val (.int ((((0 : Int32) + (1 : Int32)) + (1 : Int32)) + (1 : Int32))), .val (.ref w_3)] [(.ref w_2)])) _
    refine XS.astore X131.here hx rfl (hb hby d2_20) rfl rfl (l' := #[.val (.ref w_5), .val (.ref w_5), .val (.ref w_4), .val (.int (4 : Int32)), .val (.int ((((0 : Int32) + (1 : Int32)) + (1 : Int32)) + (1 : Int32))), .val (.ref w_2)]) rfl ?_
    show Steps p.tables e below (T131.setTop (mkF m 22 #[.val (.ref w_5), .val (.ref w_5), .val (.ref w_4), .val (.int (4 : Int32)), .val (.int ((((0 : Int32) + (1 : Int32)) + (1 : Int32)) + (1 : Int32))), .val (.ref w_2)] [])) _
    refine XS.aloadN X131.here hx rfl (hb hby d2_22) rfl rfl ?_
    show Steps p.tables e below (T131.setTop (mkF m 23 #[.val (.ref w_5), .val (.ref w_5), .val (.ref w_4), .val (.int (4 : Int32)), .val (.int ((((0 : Int32) + (1 : Int32)) + (1 : Int32)) + (1 : Int32))), .val (.ref w_2)] [(.ref w_5)])) _
    refine XS.aload X131.here hx rfl (hb hby d2_23) rfl rfl ?_
    show Steps p.tables e below (T131.setTop (mkF m 25 #[.val (.ref w_5), .val (.ref w_5), .val (.ref w_4), .val (.int (4 : Int32)), .val (.int ((((0 : Int32) + (1 : Int32)) + (1 : Int32)) + (1 : Int32))), .val (.ref w_2)] [(.ref w_2), (.ref w_5)])) _
    refine st133.trans ?_
    show Steps p.tables e below (T133.setTop (mkF m 28 #[.val (.ref w_5), .val (.ref w_5), .val (.ref w_4), .val (.int (4 : Int32)), .val (.int ((((0 : Int32) + (1 : Int32)) + (1 : Int32)) + (1 : Int32))), .val (.ref w_2)] [(.int (1 : Int32))])) _
    refine XS.ifNo X133.here hx rfl (hb hby d2_28) rfl ((if0 _ _).trans (feq (by decide : ¬ ((1 : Int32) = (0 : Int32)))).1) ?_
    show Steps p.tables e below (T133.setTop (mkF m 31 #[.val (.ref w_5), .val (.ref w_5), .val (.ref w_4), .val (.int (4 : Int32)), .val (.int ((((0 : Int32) + (1 : Int32)) + (1 : Int32)) + (1 : Int32))), .val (.ref w_2)] [])) _
    refine XS.aloadN X133.here hx rfl (hb hby d2_31) rfl rfl ?_
    show Steps p.tables e below (T133.setTop (mkF m 32 #[.val (.ref w_5), .val (.ref w_5), .val (.ref w_4), .val (.int (4 : Int32)), .val (.int ((((0 : Int32) + (1 : Int32)) + (1 : Int32)) + (1 : Int32))), .val (.ref w_2)] [(.ref w_5)])) _
    refine XS.aload X133.here hx rfl (hb hby d2_32) rfl rfl ?_
    show Steps p.tables e below (T133.setTop (mkF m 34 #[.val (.ref w_5), .val (.ref w_5), .val (.ref w_4), .val (.int (4 : Int32)), .val (.int ((((0 : Int32) + (1 : Int32)) + (1 : Int32)) + (1 : Int32))), .val (.ref w_2)] [(.ref w_2), (.ref w_5)])) _
    refine st134.trans ?_
    show Steps p.tables e below (T134.setTop (mkF m 37 #[.val (.ref w_5), .val (.ref w_5), .val (.ref w_4), .val (.int (4 : Int32)), .val (.int ((((0 : Int32) + (1 : Int32)) + (1 : Int32)) + (1 : Int32))), .val (.ref w_2)] [(.int (1 : Int32))])) _
    refine XS.ifYes X134.here hx rfl (pc0 := 37) (pc' := 42) rfl (hb hby d2_37) rfl ((if0 _ _).trans (feq (by decide : ¬ ((1 : Int32) = (0 : Int32)))).2) (by decide) (by decide) ?_
    show Steps p.tables e below (T134.setTop (mkF m 42 #[.val (.ref w_5), .val (.ref w_5), .val (.ref w_4), .val (.int (4 : Int32)), .val (.int ((((0 : Int32) + (1 : Int32)) + (1 : Int32)) + (1 : Int32))), .val (.ref w_2)] [])) _
    refine XS.iinc X134.here hx rfl (hb hby d2_42) rfl (l' := #[.val (.ref w_5), .val (.ref w_5), .val (.ref w_4), .val (.int (4 : Int32)), .val (.int (((((0 : Int32) + (1 : Int32)) + (1 : Int32)) + (1 : Int32)) + (1 : Int32))), .val (.ref w_2)]) rfl ?_
    show Steps p.tables e below (T134.setTop (mkF m 45 #[.val (.ref w_5), .val (.ref w_5), .val (.ref w_4), .val (.int (4 : Int32)), .val (.int (((((0 : Int32) + (1 : Int32)) + (1 : Int32)) + (1 : Int32)) + (1 : Int32))), .val (.ref w_2)] [])) _
    refine XS.goto X134.here hx rfl (pc0 := 45) (pc' := 10) rfl (hb hby d2_45) (by decide) (by decide) ?_
    show Steps p.tables e below (T134.setTop (mkF m 10 #[.val (.ref w_5), .val (.ref w_5), .val (.ref w_4), .val (.int (4 : Int32)), .val (.int (((((0 : Int32) + (1 : Int32)) + (1 : Int32)) + (1 : Int32)) + (1 : Int32))), .val (.ref w_2)] [])) _
    refine XS.iload X134.here hx rfl (hb hby d2_10) rfl ?_
    show Steps p.tables e below (T134.setTop (mkF m 12 #[.val (.ref w_5), .val (.ref w_5), .val (.ref w_4), .val (.int (4 : Int32)), .val (.int (((((0 : Int32) + (1 : Int32)) + (1 : Int32)) + (1 : Int32)) + (1 : Int32))), .val (.ref w_2)] [(.int (((((0 : Int32) + (1 : Int32)) + (1 : Int32)) + (1 : Int32)) + (1 : Int32)))])) _
    refine XS.iloadN X134.here hx rfl (hb hby d2_12) rfl ?_
    show Steps p.tables e below (T134.setTop (mkF m 13 #[.val (.ref w_5), .val (.ref w_5), .val (.ref w_4), .val (.int (4 : Int32)), .val (.int (((((0 : Int32) + (1 : Int32)) + (1 : Int32)) + (1 : Int32)) + (1 : Int32))), .val (.ref w_2)] [(.int (4 : Int32)), (.int (((((0 : Int32) + (1 : Int32)) + (1 : Int32)) + (1 : Int32)) + (1 : Int32)))])) _
    refine XS.icmpYes X134.here hx rfl (pc0 := 13) (pc' := 48) rfl (hb hby d2_13) rfl (flt (by decide : ¬ ((((((0 : Int32) + (1 : Int32)) + (1 : Int32)) + (1 : Int32)) + (1 : Int32)) < (4 : Int32)))).2.1 (by decide) (by decide) ?_
    show Steps p.tables e below (T134.setTop (mkF m 48 #[.val (.ref w_5), .val (.ref w_5), .val (.ref w_4), .val (.int (4 : Int32)), .val (.int (((((0 : Int32) + (1 : Int32)) + (1 : Int32)) + (1 : Int32)) + (1 : Int32))), .val (.ref w_2)] [])) _
    refine XS.iconst X134.here hx rfl (hb hby d2_48) ?_
    show Steps p.tables e below (T134.setTop (mkF m 49 #[.val (.ref w_5), .val (.ref w_5), .val (.ref w_4), .val (.int (4 : Int32)), .val (.int (((((0 : Int32) + (1 : Int32)) + (1 : Int32)) + (1 : Int32)) + (1 : Int32))), .val (.ref w_2)] [(.int (1 : Int32))])) _
    exact retN X134 hx (t := .boolean) Bd.returns (by simp) (hb hby d2_49) hr
  · show Q2x6 Z w_1 w_2 w_3 w_4 w_5 k_4 h0 n0 _ T134.heap _
    rw [e134]
    exact ⟨by unfold sp2x6; rfl, N134, rfl⟩
theorem pn_2x7 : plainName "com/example/lucid_locks/lucidlocks/locks/LockMode" = true := by first | (simp [plainName, overriddenIn]; done) | decide +kernel
theorem ef_2x7 (m : MethodId) (w_5 : Addr) (w_3 : Addr) : entryFrame m #[(.ref w_5), (.ref w_3)] 6 = mkF m 0 #[.val (.ref w_5), .val (.ref w_3), .unset, .unset, .unset, .unset] [] := by first | (simp [entryFrame, mkF, argsToLocals, Value.category]; done) | rfl
def sp2x7  : Int32 := (0 : Int32)
def Q2x7 (Z : State) (w_1 : Addr) (w_2 : Addr) (w_3 : Addr) (w_4 : Addr) (w_5 : Addr) (k_4 : ClassId) (h0 : Heap) (n0 : Nat) (v : Option Value) (h : Heap) (L : List Loc) : Prop := v = some (.int (sp2x7)) ∧ Fr n0 L ∧ h = h0
set_option maxRecDepth 65536 in
set_option maxHeartbeats 40000000 in
theorem rm2x7 (l : Launch) (Z : State) (a0 : Array Value) (hw : ∀ d ∈ tables_1, d.before a0 Z = true) (ws : List Jvm.Cond) (w_1 : Addr) (w_2 : Addr) (w_3 : Addr) (w_4 : Addr) (w_5 : Addr) (k_4 : ClassId) (hS : StF Z w_1 w_2 w_3 w_4 w_5 k_4) (h0 : Heap) (n0 : Nat) (O0 : Old Z n0 h0) :
    MetFree l Y2 (head1 (Jvm.Cond.code Y2 prog_17_method_7_code 6 (some .boolean) :: ws) ({ frames := 1, cells := 0, slots := 0, locals := 13 } : Room)) (fun a U => a = #[(.ref w_5), (.ref w_3)] ∧ Z.Warmed39 U.vm ∧ U.heap = h0) (fun _ _ _ _ _ => True) (fun _ U o U' => ∃ v L, o = .returned v ∧ Q2x7 Z w_1 w_2 w_3 w_4 w_5 k_4 h0 n0 v U'.heap L ∧ FrameEnd U o U' L ({ frames := 1, cells := 0, slots := 0, locals := 13 } : Room).cells ({ frames := 1, cells := 0, slots := 0, locals := 13 } : Room).slots) := by
  refine MetFree.of_bodySF (plainFor_of_name pn_2x7) hisR ?_
  intro p e s m args below meth c s₁ Bd hml0 hP hK
  obtain ⟨rfl, hZ, hh⟩ := hP
  have hx := Bd.exec
  have hby := Bd.bytes
  have hml : c.maxLocals = 6 := hml0
  have hown : s.vm.findClass "com/example/lucid_locks/lucidlocks/locks/LockMode" = some m.cls := findClass_of_methodNamed Bd.named
  have hnm := (name_of_methodNamed Bd.named Bd.method).1
  have X0 : Stand p l e ({ frames := 1, cells := 0, slots := 0, locals := 13 } : Room) s m #[(.ref w_5), (.ref w_3)] below meth c s₁ [] 0 0 := Stand.of_body Bd
  have e0 : s₁.heap = h0 := by rw [← hh, Bd.state]; rfl
  have N0 := Fr.nil n0
  have hS0 := hS
  obtain ⟨S_1, E_1, S_2, E_2, S_3, E_3, S_4, S_5, E_5, F_1_ordinal, F_3_ordinal, F_2_ordinal, F_1_sharedWithItself, F_5_ordinal, F_5_sharedWithItself, F_3_sharedWithItself, F_2_sharedWithItself, V_4⟩ := hS
  have pre0 : ∀ t, Steps p.tables e below (s₁.setTop (mkF m 0 #[.val (.ref w_5), .val (.ref w_3), .unset, .unset, .unset, .unset] [])) t → Steps p.tables e below (s₁.setTop (entryFrame m #[(.ref w_5), (.ref w_3)] 6)) t := fun t k => castTop (ef_2x7 m w_5 w_3) k
  obtain ⟨T141, X141, e141, st141⟩ := getS2 X0 hx hZ hown (host := "") (Or.inl (hw _ (tk 16 rfl))) Via.refl e0 (S_4.ext O0.2) (g := (mkF m 0 #[.val (.ref w_5), .val (.ref w_3), .unset, .unset, .unset, .unset] [])) rfl (hb hby d2_0)
  obtain ⟨cl142, Ar142, qa142, Sa142, Ma142, Ha142, Ga142⟩ := id (V_4.ext O0.2)
  obtain ⟨cl143, Ar143, qa143, Sa143, Ma143, Ha143, Ga143⟩ := id (V_4.ext O0.2)
  have hin143 : ¬ ((0 : Int32) < 0 ∨ cl143.slots.size ≤ ((0 : Int32)).toNatClampNeg) := by  exact inb_of Sa143 ⟨by decide, by decide⟩
  have hat143 : cl143.slots[((0 : Int32)).toNatClampNeg]? = some (.ref w_1) := Has.at Ha143 hin143 (by rfl)
  obtain ⟨cq144, kq144, q144a, q144b, q144c⟩ := isOf hZ e141 (E_3.ext O0.2)
  obtain ⟨_, _, ⟨T144, L144, k144, n144⟩, -, X144, ⟨Lc144, hQ144, l144, y144, z144⟩, st144⟩ := X141.virtualBack hx (y := Y1) (z := Y1) hown (mvT hZ (hw _ (tk 18 rfl))) (mvT hZ (hw _ (tk 19 rfl))) (notFace_of_selects (args := #[]) (mvT hZ (hw _ (tk 21 rfl)))) (mvT hZ (hw _ (tk 21 rfl))) (mvT hZ (hw _ (tk 20 rfl))) (by decide) (backOf (W := 0) (rm3 l Z a0 hw [] w_1 w_2 w_3 w_4 w_5 k_4 hS0 w_3 w_1 (0 : Int32) h0 n0 O0 (F_3_sharedWithItself.ext O0.2)) hZ (hw _ (tk 22 rfl)) (hw _ (tk 5 rfl)) (by decide) (by decide)) q144a q144c (g := (mkF m 25 #[.val (.ref w_5), .val (.ref w_3), .val (.ref w_4), .val (.int (4 : Int32)), .val (.int (0 : Int32)), .val (.ref w_1)] [(.ref w_1), (.ref w_3)])) rfl (by rw [hml]; rfl) (Steps.refl _) (argsL := [(.ref w_1)]) (rest := []) (lenOf pd_1 rfl) rfl (by show 2 * 0 + _ ≤ _; exact Nat.le_of_eq rfl) (hb hby d2_25) (fun _ _ => ⟨rfl, e141, (by decide : 0 + 0 ≤ _), (by decide : 0 + 0 ≤ _)⟩)
  dsimp only [Pt.U, Pt.locs, Pt.cells, Pt.slots] at X144 l144 y144 z144 st144 hQ144
  subst l144 y144 z144
  obtain ⟨rv144, N144q, e144⟩ := hQ144
  rw [show sp3 w_3 w_1 (0 : Int32) = (1 : Int32) from by unfold sp3; rw [if_neg (Fld.ne F_3_ordinal F_1_ordinal (by decide))]] at rv144
  subst rv144
  have N144 := Fr.app N0 N144q
  obtain ⟨cq145, kq145, q145a, q145b, q145c⟩ := isOf hZ e144 (E_5.ext O0.2)
  obtain ⟨_, _, ⟨T145, L145, k145, n145⟩, -, X145, ⟨Lc145, hQ145, l145, y145, z145⟩, st145⟩ := X144.virtualBack hx (y := Y1) (z := Y1) hown (mvT hZ (hw _ (tk 18 rfl))) (mvT hZ (hw _ (tk 19 rfl))) (notFace_of_selects (args := #[]) (mvT hZ (hw _ (tk 21 rfl)))) (mvT hZ (hw _ (tk 21 rfl))) (mvT hZ (hw _ (tk 20 rfl))) (by decide) (backOf (W := 0) (rm3 l Z a0 hw [] w_1 w_2 w_3 w_4 w_5 k_4 hS0 w_5 w_1 (1 : Int32) h0 n0 O0 (F_5_sharedWithItself.ext O0.2)) hZ (hw _ (tk 22 rfl)) (hw _ (tk 5 rfl)) (by decide) (by decide)) q145a q145c (g := (mkF m 34 #[.val (.ref w_5), .val (.ref w_3), .val (.ref w_4), .val (.int (4 : Int32)), .val (.int (0 : Int32)), .val (.ref w_1)] [(.ref w_1), (.ref w_5)])) rfl (by rw [hml]; rfl) (Steps.refl _) (argsL := [(.ref w_1)]) (rest := []) (lenOf pd_1 rfl) rfl (by show 2 * 0 + _ ≤ _; exact Nat.le_of_eq rfl) (hb hby d2_34) (fun _ _ => ⟨rfl, e144, (by decide : 0 + 0 ≤ _), (by decide : 0 + 0 ≤ _)⟩)
  dsimp only [Pt.U, Pt.locs, Pt.cells, Pt.slots] at X145 l145 y145 z145 st145 hQ145
  subst l145 y145 z145
  obtain ⟨rv145, N145q, e145⟩ := hQ145
  rw [show sp3 w_5 w_1 (1 : Int32) = (1 : Int32) from by unfold sp3; rw [if_neg (Fld.ne F_5_ordinal F_1_ordinal (by decide))]] at rv145
  subst rv145
  have N145 := Fr.app N144 N145q
  obtain ⟨cl146, Ar146, qa146, Sa146, Ma146, Ha146, Ga146⟩ := id (V_4.ext O0.2)
  have hin146 : ¬ (((0 : Int32) + (1 : Int32)) < 0 ∨ cl146.slots.size ≤ (((0 : Int32) + (1 : Int32))).toNatClampNeg) := by  exact inb_of Sa146 ⟨by decide, by decide⟩
  have hat146 : cl146.slots[(((0 : Int32) + (1 : Int32))).toNatClampNeg]? = some (.ref w_5) := Has.at Ha146 hin146 (by rfl)
  obtain ⟨cq147, kq147, q147a, q147b, q147c⟩ := isOf hZ e145 (E_3.ext O0.2)
  obtain ⟨_, _, ⟨T147, L147, k147, n147⟩, -, X147, ⟨Lc147, hQ147, l147, y147, z147⟩, st147⟩ := X145.virtualBack hx (y := Y1) (z := Y1) hown (mvT hZ (hw _ (tk 18 rfl))) (mvT hZ (hw _ (tk 19 rfl))) (notFace_of_selects (args := #[]) (mvT hZ (hw _ (tk 21 rfl)))) (mvT hZ (hw _ (tk 21 rfl))) (mvT hZ (hw _ (tk 20 rfl))) (by decide) (backOf (W := 0) (rm3 l Z a0 hw [] w_1 w_2 w_3 w_4 w_5 k_4 hS0 w_3 w_5 (0 : Int32) h0 n0 O0 (F_3_sharedWithItself.ext O0.2)) hZ (hw _ (tk 22 rfl)) (hw _ (tk 5 rfl)) (by decide) (by decide)) q147a q147c (g := (mkF m 25 #[.val (.ref w_5), .val (.ref w_3), .val (.ref w_4), .val (.int (4 : Int32)), .val (.int ((0 : Int32) + (1 : Int32))), .val (.ref w_5)] [(.ref w_5), (.ref w_3)])) rfl (by rw [hml]; rfl) (Steps.refl _) (argsL := [(.ref w_5)]) (rest := []) (lenOf pd_1 rfl) rfl (by show 2 * 0 + _ ≤ _; exact Nat.le_of_eq rfl) (hb hby d2_25) (fun _ _ => ⟨rfl, e145, (by decide : 0 + 0 ≤ _), (by decide : 0 + 0 ≤ _)⟩)
  dsimp only [Pt.U, Pt.locs, Pt.cells, Pt.slots] at X147 l147 y147 z147 st147 hQ147
  subst l147 y147 z147
  obtain ⟨rv147, N147q, e147⟩ := hQ147
  rw [show sp3 w_3 w_5 (0 : Int32) = (1 : Int32) from by unfold sp3; rw [if_neg (Fld.ne F_3_ordinal F_5_ordinal (by decide))]] at rv147
  subst rv147
  have N147 := Fr.app N145 N147q
  obtain ⟨cq148, kq148, q148a, q148b, q148c⟩ := isOf hZ e147 (E_5.ext O0.2)
  obtain ⟨_, _, ⟨T148, L148, k148, n148⟩, -, X148, ⟨Lc148, hQ148, l148, y148, z148⟩, st148⟩ := X147.virtualBack hx (y := Y1) (z := Y1) hown (mvT hZ (hw _ (tk 18 rfl))) (mvT hZ (hw _ (tk 19 rfl))) (notFace_of_selects (args := #[]) (mvT hZ (hw _ (tk 21 rfl)))) (mvT hZ (hw _ (tk 21 rfl))) (mvT hZ (hw _ (tk 20 rfl))) (by decide) (backOf (W := 0) (rm3 l Z a0 hw [] w_1 w_2 w_3 w_4 w_5 k_4 hS0 w_5 w_5 (1 : Int32) h0 n0 O0 (F_5_sharedWithItself.ext O0.2)) hZ (hw _ (tk 22 rfl)) (hw _ (tk 5 rfl)) (by decide) (by decide)) q148a q148c (g := (mkF m 34 #[.val (.ref w_5), .val (.ref w_3), .val (.ref w_4), .val (.int (4 : Int32)), .val (.int ((0 : Int32) + (1 : Int32))), .val (.ref w_5)] [(.ref w_5), (.ref w_5)])) rfl (by rw [hml]; rfl) (Steps.refl _) (argsL := [(.ref w_5)]) (rest := []) (lenOf pd_1 rfl) rfl (by show 2 * 0 + _ ≤ _; exact Nat.le_of_eq rfl) (hb hby d2_34) (fun _ _ => ⟨rfl, e147, (by decide : 0 + 0 ≤ _), (by decide : 0 + 0 ≤ _)⟩)
  dsimp only [Pt.U, Pt.locs, Pt.cells, Pt.slots] at X148 l148 y148 z148 st148 hQ148
  subst l148 y148 z148
  obtain ⟨rv148, N148q, e148⟩ := hQ148
  rw [show sp3 w_5 w_5 (1 : Int32) = (0 : Int32) from by unfold sp3; rw [if_pos rfl, if_neg (by decide : ¬ ((1 : Int32) = (0 : Int32)))]] at rv148
  subst rv148
  have N148 := Fr.app N147 N148q
  obtain ⟨fs, hr, hrun, hended, hW, hsame⟩ := X148.leave (v := some (.int (0 : Int32))) (fun h => by rw [Bd.returns] at h; cases h)
  refine ⟨_, _, pre0 _ ?_, hrun, hended, _, _, rfl, ?_, ⟨_, rfl⟩, hW, hsame.mono (by decide) (by decide)⟩
  · show Steps p.tables e below (s₁.setTop (mkF m 0 #[.val (.ref w_5), .val (.ref w_3), .unset, .unset, .unset, .unset] [])) _
    refine st141 _ ?_
    show Steps p.tables e below (T141.setTop (mkF m 3 #[.val (.ref w_5), .val (.ref w_3), .unset, .unset, .unset, .unset] [(.ref w_4)])) _
    refine XS.astoreN X141.here hx rfl (hb hby d2_3) rfl rfl (l' := #[.val (.ref w_5), .val (.ref w_3), .val (.ref w_4), .unset, .unset, .unset]) rfl ?_
    show Steps p.tables e below (T141.setTop (mkF m 4 #[.val (.ref w_5), .val (.ref w_3), .val (.ref w_4), .unset, .unset, .unset] [])) _
    refine XS.aloadN X141.here hx rfl (hb hby d2_4) rfl rfl ?_
    show Steps p.tables e below (T141.setTop (mkF m 5 #[.val (.ref w_5), .val (.ref w_3), .val (.ref w_4), .unset, .unset, .unset] [(.ref w_4)])) _
    refine X141.arraylength hx (by rw [e141]; exact Ar142.1) (State.isArrayOf_alike hZ.alike Ar142.2.1) (g := (mkF m 5 #[.val (.ref w_5), .val (.ref w_3), .val (.ref w_4), .unset, .unset, .unset] [(.ref w_4)])) rfl rfl (hb hby d2_5) _ ?_
    rw [len_of Sa142 Ma142]
    show Steps p.tables e below (T141.setTop (mkF m 6 #[.val (.ref w_5), .val (.ref w_3), .val (.ref w_4), .unset, .unset, .unset] [(.int (4 : Int32))])) _
    refine XS.istoreN X141.here hx rfl (hb hby d2_6) rfl (l' := #[.val (.ref w_5), .val (.ref w_3), .val (.ref w_4), .val (.int (4 : Int32)), .unset, .unset]) rfl ?_
    show Steps p.tables e below (T141.setTop (mkF m 7 #[.val (.ref w_5), .val (.ref w_3), .val (.ref w_4), .val (.int (4 : Int32)), .unset, .unset] [])) _
    refine XS.iconst X141.here hx rfl (hb hby d2_7) ?_
    show Steps p.tables e below (T141.setTop (mkF m 8 #[.val (.ref w_5), .val (.ref w_3), .val (.ref w_4), .val (.int (4 : Int32)), .unset, .unset] [(.int (0 : Int32))])) _
    refine XS.istore X141.here hx rfl (hb hby d2_8) rfl (l' := #[.val (.ref w_5), .val (.ref w_3), .val (.ref w_4), .val (.int (4 : Int32)), .val (.int (0 : Int32)), .unset]) rfl ?_
    show Steps p.tables e below (T141.setTop (mkF m 10 #[.val (.ref w_5), .val (.ref w_3), .val (.ref w_4), .val (.int (4 : Int32)), .val (.int (0 : Int32)), .unset] [])) _
    refine XS.iload X141.here hx rfl (hb hby d2_10) rfl ?_
    show Steps p.tables e below (T141.setTop (mkF m 12 #[.val (.ref w_5), .val (.ref w_3), .val (.ref w_4), .val (.int (4 : Int32)), .val (.int (0 : Int32)), .unset] [(.int (0 : Int32))])) _
    refine XS.iloadN X141.here hx rfl (hb hby d2_12) rfl ?_
    show Steps p.tables e below (T141.setTop (mkF m 13 #[.val (.ref w_5), .val (.ref w_3), .val (.ref w_4), .val (.int (4 : Int32)), .val (.int (0 : Int32)), .unset] [(.int (4 : Int32)), (.int (0 : Int32))])) _
    refine XS.icmpNo X141.here hx rfl (hb hby d2_13) rfl (tlt (by decide : ((0 : Int32) < (4 : Int32)))).2.1 ?_
    show Steps p.tables e below (T141.setTop (mkF m 16 #[.val (.ref w_5), .val (.ref w_3), .val (.ref w_4), .val (.int (4 : Int32)), .val (.int (0 : Int32)), .unset] [])) _
    refine XS.aloadN X141.here hx rfl (hb hby d2_16) rfl rfl ?_
    show Steps p.tables e below (T141.setTop (mkF m 17 #[.val (.ref w_5), .val (.ref w_3), .val (.ref w_4), .val (.int (4 : Int32)), .val (.int (0 : Int32)), .unset] [(.ref w_4)])) _
    refine XS.iload X141.here hx rfl (hb hby d2_17) rfl ?_
    show Steps p.tables e below (T141.setTop (mkF m 19 #[.val (.ref w_5), .val (.ref w_3), .val (.ref w_4), .val (.int (4 : Int32)), .val (.int (0 : Int32)), .unset] [(.int (0 : Int32)), (.ref w_4)])) _
    refine X141.aaload hx (j := (0 : Int32)) (v := (.ref w_1)) (by rw [e141]; exact Ar143.1) (State.isArrayOf_alike hZ.alike Ar143.2.1) rfl Ar143.2.2 hin143 hat143 (g := (mkF m 19 #[.val (.ref w_5), .val (.ref w_3), .val (.ref w_4), .val (.int (4 : Int32)), .val (.int (0 : Int32)), .unset] [(.int (0 : Int32)), (.ref w_4)])) rfl rfl (hb hby d2_19) _ ?_
    show Steps p.tables e below (T141.setTop (mkF m 20 #[.val (.ref w_5), .val (.ref w_3), .val (.ref w_4), .val (.int (4 : Int32)), .val (.int (0 : Int32)), .unset] [(.ref w_1)])) _
    refine XS.astore X141.here hx rfl (hb hby d2_20) rfl rfl (l' := #[.val (.ref w_5), .val (.ref w_3), .val (.ref w_4), .val (.int (4 : Int32)), .val (.int (0 : Int32)), .val (.ref w_1)]) rfl ?_
    show Steps p.tables e below (T141.setTop (mkF m 22 #[.val (.ref w_5), .val (.ref w_3), .val (.ref w_4), .val (.int (4 : Int32)), .val (.int (0 : Int32)), .val (.ref w_1)] [])) _
    refine XS.aloadN X141.here hx rfl (hb hby d2_22) rfl rfl ?_
    show Steps p.tables e below (T141.setTop (mkF m 23 #[.val (.ref w_5), .val (.ref w_3), .val (.ref w_4), .val (.int (4 : Int32)), .val (.int (0 : Int32)), .val (.ref w_1)] [(.ref w_3)])) _
    refine XS.aload X141.here hx rfl (hb hby d2_23) rfl rfl ?_
    show Steps p.tables e below (T141.setTop (mkF m 25 #[.val (.ref w_5), .val (.ref w_3), .val (.ref w_4), .val (.int (4 : Int32)), .val (.int (0 : Int32)), .val (.ref w_1)] [(.ref w_1), (.ref w_3)])) _
    refine st144.trans ?_
    show Steps p.tables e below (T144.setTop (mkF m 28 #[.val (.ref w_5), .val (.ref w_3), .val (.ref w_4), .val (.int (4 : Int32)), .val (.int (0 : Int32)), .val (.ref w_1)] [(.int (1 : Int32))])) _
    refine XS.ifNo X144.here hx rfl (hb hby d2_28) rfl ((if0 _ _).trans (feq (by decide : ¬ ((1 : Int32) = (0 : Int32)))).1) ?_
    show Steps p.tables e below (T144.setTop (mkF m 31 #[.val (.ref w_5), .val (.ref w_3), .val (.ref w_4), .val (.int (4 : Int32)), .val (.int (0 : Int32)), .val (.ref w_1)] [])) _
    refine XS.aloadN X144.here hx rfl (hb hby d2_31) rfl rfl ?_
    show Steps p.tables e below (T144.setTop (mkF m 32 #[.val (.ref w_5), .val (.ref w_3), .val (.ref w_4), .val (.int (4 : Int32)), .val (.int (0 : Int32)), .val (.ref w_1)] [(.ref w_5)])) _
    refine XS.aload X144.here hx rfl (hb hby d2_32) rfl rfl ?_
    show Steps p.tables e below (T144.setTop (mkF m 34 #[.val (.ref w_5), .val (.ref w_3), .val (.ref w_4), .val (.int (4 : Int32)), .val (.int (0 : Int32)), .val (.ref w_1)] [(.ref w_1), (.ref w_5)])) _
    refine st145.trans ?_
    show Steps p.tables e below (T145.setTop (mkF m 37 #[.val (.ref w_5), .val (.ref w_3), .val (.ref w_4), .val (.int (4 : Int32)), .val (.int (0 : Int32)), .val (.ref w_1)] [(.int (1 : Int32))])) _
    refine XS.ifYes X145.here hx rfl (pc0 := 37) (pc' := 42) rfl (hb hby d2_37) rfl ((if0 _ _).trans (feq (by decide : ¬ ((1 : Int32) = (0 : Int32)))).2) (by decide) (by decide) ?_
    show Steps p.tables e below (T145.setTop (mkF m 42 #[.val (.ref w_5), .val (.ref w_3), .val (.ref w_4), .val (.int (4 : Int32)), .val (.int (0 : Int32)), .val (.ref w_1)] [])) _
    refine XS.iinc X145.here hx rfl (hb hby d2_42) rfl (l' := #[.val (.ref w_5), .val (.ref w_3), .val (.ref w_4), .val (.int (4 : Int32)), .val (.int ((0 : Int32) + (1 : Int32))), .val (.ref w_1)]) rfl ?_
    show Steps p.tables e below (T145.setTop (mkF m 45 #[.val (.ref w_5), .val (.ref w_3), .val (.ref w_4), .val (.int (4 : Int32)), .val (.int ((0 : Int32) + (1 : Int32))), .val (.ref w_1)] [])) _
    refine XS.goto X145.here hx rfl (pc0 := 45) (pc' := 10) rfl (hb hby d2_45) (by decide) (by decide) ?_
    show Steps p.tables e below (T145.setTop (mkF m 10 #[.val (.ref w_5), .val (.ref w_3), .val (.ref w_4), .val (.int (4 : Int32)), .val (.int ((0 : Int32) + (1 : Int32))), .val (.ref w_1)] [])) _
    refine XS.iload X145.here hx rfl (hb hby d2_10) rfl ?_
    show Steps p.tables e below (T145.setTop (mkF m 12 #[.val (.ref w_5), .val (.ref w_3), .val (.ref w_4), .val (.int (4 : Int32)), .val (.int ((0 : Int32) + (1 : Int32))), .val (.ref w_1)] [(.int ((0 : Int32) + (1 : Int32)))])) _
    refine XS.iloadN X145.here hx rfl (hb hby d2_12) rfl ?_
    show Steps p.tables e below (T145.setTop (mkF m 13 #[.val (.ref w_5), .val (.ref w_3), .val (.ref w_4), .val (.int (4 : Int32)), .val (.int ((0 : Int32) + (1 : Int32))), .val (.ref w_1)] [(.int (4 : Int32)), (.int ((0 : Int32) + (1 : Int32)))])) _
    refine XS.icmpNo X145.here hx rfl (hb hby d2_13) rfl (tlt (by decide : (((0 : Int32) + (1 : Int32)) < (4 : Int32)))).2.1 ?_
    show Steps p.tables e below (T145.setTop (mkF m 16 #[.val (.ref w_5), .val (.ref w_3), .val (.ref w_4), .val (.int (4 : Int32)), .val (.int ((0 : Int32) + (1 : Int32))), .val (.ref w_1)] [])) _
    refine XS.aloadN X145.here hx rfl (hb hby d2_16) rfl rfl ?_
    show Steps p.tables e below (T145.setTop (mkF m 17 #[.val (.ref w_5), .val (.ref w_3), .val (.ref w_4), .val (.int (4 : Int32)), .val (.int ((0 : Int32) + (1 : Int32))), .val (.ref w_1)] [(.ref w_4)])) _
    refine XS.iload X145.here hx rfl (hb hby d2_17) rfl ?_
    show Steps p.tables e below (T145.setTop (mkF m 19 #[.val (.ref w_5), .val (.ref w_3), .val (.ref w_4), .val (.int (4 : Int32)), .val (.int ((0 : Int32) + (1 : Int32))), .val (.ref w_1)] [(.int ((0 : Int32) + (1 : Int32))), (.ref w_4)])) _
    refine X145.aaload hx (j := ((0 : Int32) + (1 : Int32))) (v := (.ref w_5)) (by rw [e145]; exact Ar146.1) (State.isArrayOf_alike hZ.alike Ar146.2.1) rfl Ar146.2.2 hin146 hat146 (g := (mkF m 19 #[.val (.ref w_5), .val (.ref w_3), .val (.ref w_4), .val (.int (4 : Int32)), .val (.int ((0 : Int32) + (1 : Int32))), .val (.ref w_1)] [(.int ((0 : Int32) + (1 : Int32))), (.ref w_4)])) rfl rfl (hb hby d2_19) _ ?_
    show Steps p.tables e below (T145.setTop (mkF m 20 #[.val (.ref w_5), .val (.ref w_3), .val (.ref w_4), .val (.int (4 : Int32)), .val (.int ((0 : Int32) + (1 : Int32))), .val (.ref w_1)] [(.ref w_5)])) _
    refine XS.astore X145.here hx rfl (hb hby d2_20) rfl rfl (l' := #[.val (.ref w_5), .val (.ref w_3), .val (.ref w_4), .val (.int (4 : Int32)), .val (.int ((0 : Int32) + (1 : Int32))), .val (.ref w_5)]) rfl ?_
    show Steps p.tables e below (T145.setTop (mkF m 22 #[.val (.ref w_5), .val (.ref w_3), .val (.ref w_4), .val (.int (4 : Int32)), .val (.int ((0 : Int32) + (1 : Int32))), .val (.ref w_5)] [])) _
    refine XS.aloadN X145.here hx rfl (hb hby d2_22) rfl rfl ?_
    show Steps p.tables e below (T145.setTop (mkF m 23 #[.val (.ref w_5), .val (.ref w_3), .val (.ref w_4), .val (.int (4 : Int32)), .val (.int ((0 : Int32) + (1 : Int32))), .val (.ref w_5)] [(.ref w_3)])) _
    refine XS.aload X145.here hx rfl (hb hby d2_23) rfl rfl ?_
    show Steps p.tables e below (T145.setTop (mkF m 25 #[.val (.ref w_5), .val (.ref w_3), .val (.ref w_4), .val (.int (4 : Int32)), .val (.int ((0 : Int32) + (1 : Int32))), .val (.ref w_5)] [(.ref w_5), (.ref w_3)])) _
    refine st147.trans ?_
    show Steps p.tables e below (T147.setTop (mkF m 28 #[.val (.ref w_5), .val (.ref w_3), .val (.ref w_4), .val (.int (4 : Int32)), .val (.int ((0 : Int32) + (1 : Int32))), .val (.ref w_5)] [(.int (1 : Int32))])) _
    refine XS.ifNo X147.here hx rfl (hb hby d2_28) rfl ((if0 _ _).trans (feq (by decide : ¬ ((1 : Int32) = (0 : Int32)))).1) ?_
    show Steps p.tables e below (T147.setTop (mkF m 31 #[.val (.ref w_5), .val (.ref w_3), .val (.ref w_4), .val (.int (4 : Int32)), .val (.int ((0 : Int32) + (1 : Int32))), .val (.ref w_5)] [])) _
    refine XS.aloadN X147.here hx rfl (hb hby d2_31) rfl rfl ?_
    show Steps p.tables e below (T147.setTop (mkF m 32 #[.val (.ref w_5), .val (.ref w_3), .val (.ref w_4), .val (.int (4 : Int32)), .val (.int ((0 : Int32) + (1 : Int32))), .val (.ref w_5)] [(.ref w_5)])) _
    refine XS.aload X147.here hx rfl (hb hby d2_32) rfl rfl ?_
    show Steps p.tables e below (T147.setTop (mkF m 34 #[.val (.ref w_5), .val (.ref w_3), .val (.ref w_4), .val (.int (4 : Int32)), .val (.int ((0 : Int32) + (1 : Int32))), .val (.ref w_5)] [(.ref w_5), (.ref w_5)])) _
    refine st148.trans ?_
    show Steps p.tables e below (T148.setTop (mkF m 37 #[.val (.ref w_5), .val (.ref w_3), .val (.ref w_4), .val (.int (4 : Int32)), .val (.int ((0 : Int32) + (1 : Int32))), .val (.ref w_5)] [(.int (0 : Int32))])) _
    refine XS.ifNo X148.here hx rfl (hb hby d2_37) rfl ((if0 _ _).trans (teq (by decide : ((0 : Int32) = (0 : Int32)))).2) ?_
    show Steps p.tables e below (T148.setTop (mkF m 40 #[.val (.ref w_5), .val (.ref w_3), .val (.ref w_4), .val (.int (4 : Int32)), .val (.int ((0 : Int32) + (1 : Int32))), .val (.ref w_5)] [])) _
    refine XS.iconst X148.here hx rfl (hb hby d2_40) ?_
    show Steps p.tables e below (T148.setTop (mkF m 41 #[.val (.ref w_5), .val (.ref w_3), .val (.ref w_4), .val (.int (4 : Int32)), .val (.int ((0 : Int32) + (1 : Int32))), .val (.ref w_5)] [(.int (0 : Int32))])) _
    exact retN X148 hx (t := .boolean) Bd.returns (by simp) (hb hby d2_41) hr
  · show Q2x7 Z w_1 w_2 w_3 w_4 w_5 k_4 h0 n0 _ T148.heap _
    rw [e148]
    exact ⟨by unfold sp2x7; rfl, N148, rfl⟩
theorem pn_2x8 : plainName "com/example/lucid_locks/lucidlocks/locks/LockMode" = true := by first | (simp [plainName, overriddenIn]; done) | decide +kernel
theorem ef_2x8 (m : MethodId) (w_5 : Addr) (w_2 : Addr) : entryFrame m #[(.ref w_5), (.ref w_2)] 6 = mkF m 0 #[.val (.ref w_5), .val (.ref w_2), .unset, .unset, .unset, .unset] [] := by first | (simp [entryFrame, mkF, argsToLocals, Value.category]; done) | rfl
def sp2x8  : Int32 := (0 : Int32)
def Q2x8 (Z : State) (w_1 : Addr) (w_2 : Addr) (w_3 : Addr) (w_4 : Addr) (w_5 : Addr) (k_4 : ClassId) (h0 : Heap) (n0 : Nat) (v : Option Value) (h : Heap) (L : List Loc) : Prop := v = some (.int (sp2x8)) ∧ Fr n0 L ∧ h = h0
set_option maxRecDepth 65536 in
set_option maxHeartbeats 40000000 in
theorem rm2x8 (l : Launch) (Z : State) (a0 : Array Value) (hw : ∀ d ∈ tables_1, d.before a0 Z = true) (ws : List Jvm.Cond) (w_1 : Addr) (w_2 : Addr) (w_3 : Addr) (w_4 : Addr) (w_5 : Addr) (k_4 : ClassId) (hS : StF Z w_1 w_2 w_3 w_4 w_5 k_4) (h0 : Heap) (n0 : Nat) (O0 : Old Z n0 h0) :
    MetFree l Y2 (head1 (Jvm.Cond.code Y2 prog_17_method_7_code 6 (some .boolean) :: ws) ({ frames := 1, cells := 0, slots := 0, locals := 13 } : Room)) (fun a U => a = #[(.ref w_5), (.ref w_2)] ∧ Z.Warmed39 U.vm ∧ U.heap = h0) (fun _ _ _ _ _ => True) (fun _ U o U' => ∃ v L, o = .returned v ∧ Q2x8 Z w_1 w_2 w_3 w_4 w_5 k_4 h0 n0 v U'.heap L ∧ FrameEnd U o U' L ({ frames := 1, cells := 0, slots := 0, locals := 13 } : Room).cells ({ frames := 1, cells := 0, slots := 0, locals := 13 } : Room).slots) := by
  refine MetFree.of_bodySF (plainFor_of_name pn_2x8) hisR ?_
  intro p e s m args below meth c s₁ Bd hml0 hP hK
  obtain ⟨rfl, hZ, hh⟩ := hP
  have hx := Bd.exec
  have hby := Bd.bytes
  have hml : c.maxLocals = 6 := hml0
  have hown : s.vm.findClass "com/example/lucid_locks/lucidlocks/locks/LockMode" = some m.cls := findClass_of_methodNamed Bd.named
  have hnm := (name_of_methodNamed Bd.named Bd.method).1
  have X0 : Stand p l e ({ frames := 1, cells := 0, slots := 0, locals := 13 } : Room) s m #[(.ref w_5), (.ref w_2)] below meth c s₁ [] 0 0 := Stand.of_body Bd
  have e0 : s₁.heap = h0 := by rw [← hh, Bd.state]; rfl
  have N0 := Fr.nil n0
  have hS0 := hS
  obtain ⟨S_1, E_1, S_2, E_2, S_3, E_3, S_4, S_5, E_5, F_1_ordinal, F_3_ordinal, F_2_ordinal, F_1_sharedWithItself, F_5_ordinal, F_5_sharedWithItself, F_3_sharedWithItself, F_2_sharedWithItself, V_4⟩ := hS
  have pre0 : ∀ t, Steps p.tables e below (s₁.setTop (mkF m 0 #[.val (.ref w_5), .val (.ref w_2), .unset, .unset, .unset, .unset] [])) t → Steps p.tables e below (s₁.setTop (entryFrame m #[(.ref w_5), (.ref w_2)] 6)) t := fun t k => castTop (ef_2x8 m w_5 w_2) k
  obtain ⟨T155, X155, e155, st155⟩ := getS2 X0 hx hZ hown (host := "") (Or.inl (hw _ (tk 16 rfl))) Via.refl e0 (S_4.ext O0.2) (g := (mkF m 0 #[.val (.ref w_5), .val (.ref w_2), .unset, .unset, .unset, .unset] [])) rfl (hb hby d2_0)
  obtain ⟨cl156, Ar156, qa156, Sa156, Ma156, Ha156, Ga156⟩ := id (V_4.ext O0.2)
  obtain ⟨cl157, Ar157, qa157, Sa157, Ma157, Ha157, Ga157⟩ := id (V_4.ext O0.2)
  have hin157 : ¬ ((0 : Int32) < 0 ∨ cl157.slots.size ≤ ((0 : Int32)).toNatClampNeg) := by  exact inb_of Sa157 ⟨by decide, by decide⟩
  have hat157 : cl157.slots[((0 : Int32)).toNatClampNeg]? = some (.ref w_1) := Has.at Ha157 hin157 (by rfl)
  obtain ⟨cq158, kq158, q158a, q158b, q158c⟩ := isOf hZ e155 (E_2.ext O0.2)
  obtain ⟨_, _, ⟨T158, L158, k158, n158⟩, -, X158, ⟨Lc158, hQ158, l158, y158, z158⟩, st158⟩ := X155.virtualBack hx (y := Y1) (z := Y1) hown (mvT hZ (hw _ (tk 18 rfl))) (mvT hZ (hw _ (tk 19 rfl))) (notFace_of_selects (args := #[]) (mvT hZ (hw _ (tk 21 rfl)))) (mvT hZ (hw _ (tk 21 rfl))) (mvT hZ (hw _ (tk 20 rfl))) (by decide) (backOf (W := 0) (rm3 l Z a0 hw [] w_1 w_2 w_3 w_4 w_5 k_4 hS0 w_2 w_1 (0 : Int32) h0 n0 O0 (F_2_sharedWithItself.ext O0.2)) hZ (hw _ (tk 22 rfl)) (hw _ (tk 5 rfl)) (by decide) (by decide)) q158a q158c (g := (mkF m 25 #[.val (.ref w_5), .val (.ref w_2), .val (.ref w_4), .val (.int (4 : Int32)), .val (.int (0 : Int32)), .val (.ref w_1)] [(.ref w_1), (.ref w_2)])) rfl (by rw [hml]; rfl) (Steps.refl _) (argsL := [(.ref w_1)]) (rest := []) (lenOf pd_1 rfl) rfl (by show 2 * 0 + _ ≤ _; exact Nat.le_of_eq rfl) (hb hby d2_25) (fun _ _ => ⟨rfl, e155, (by decide : 0 + 0 ≤ _), (by decide : 0 + 0 ≤ _)⟩)
  dsimp only [Pt.U, Pt.locs, Pt.cells, Pt.slots] at X158 l158 y158 z158 st158 hQ158
  subst l158 y158 z158
  obtain ⟨rv158, N158q, e158⟩ := hQ158
  rw [show sp3 w_2 w_1 (0 : Int32) = (1 : Int32) from by unfold sp3; rw [if_neg (Fld.ne F_2_ordinal F_1_ordinal (by decide))]] at rv158
  subst rv158
  have N158 := Fr.app N0 N158q
  obtain ⟨cq159, kq159, q159a, q159b, q159c⟩ := isOf hZ e158 (E_5.ext O0.2)
  obtain ⟨_, _, ⟨T159, L159, k159, n159⟩, -, X159, ⟨Lc159, hQ159, l159, y159, z159⟩, st159⟩ := X158.virtualBack hx (y := Y1) (z := Y1) hown (mvT hZ (hw _ (tk 18 rfl))) (mvT hZ (hw _ (tk 19 rfl))) (notFace_of_selects (args := #[]) (mvT hZ (hw _ (tk 21 rfl)))) (mvT hZ (hw _ (tk 21 rfl))) (mvT hZ (hw _ (tk 20 rfl))) (by decide) (backOf (W := 0) (rm3 l Z a0 hw [] w_1 w_2 w_3 w_4 w_5 k_4 hS0 w_5 w_1 (1 : Int32) h0 n0 O0 (F_5_sharedWithItself.ext O0.2)) hZ (hw _ (tk 22 rfl)) (hw _ (tk 5 rfl)) (by decide) (by decide)) q159a q159c (g := (mkF m 34 #[.val (.ref w_5), .val (.ref w_2), .val (.ref w_4), .val (.int (4 : Int32)), .val (.int (0 : Int32)), .val (.ref w_1)] [(.ref w_1), (.ref w_5)])) rfl (by rw [hml]; rfl) (Steps.refl _) (argsL := [(.ref w_1)]) (rest := []) (lenOf pd_1 rfl) rfl (by show 2 * 0 + _ ≤ _; exact Nat.le_of_eq rfl) (hb hby d2_34) (fun _ _ => ⟨rfl, e158, (by decide : 0 + 0 ≤ _), (by decide : 0 + 0 ≤ _)⟩)
  dsimp only [Pt.U, Pt.locs, Pt.cells, Pt.slots] at X159 l159 y159 z159 st159 hQ159
  subst l159 y159 z159
  obtain ⟨rv159, N159q, e159⟩ := hQ159
  rw [show sp3 w_5 w_1 (1 : Int32) = (1 : Int32) from by unfold sp3; rw [if_neg (Fld.ne F_5_ordinal F_1_ordinal (by decide))]] at rv159
  subst rv159
  have N159 := Fr.app N158 N159q
  obtain ⟨cl160, Ar160, qa160, Sa160, Ma160, Ha160, Ga160⟩ := id (V_4.ext O0.2)
  have hin160 : ¬ (((0 : Int32) + (1 : Int32)) < 0 ∨ cl160.slots.size ≤ (((0 : Int32) + (1 : Int32))).toNatClampNeg) := by  exact inb_of Sa160 ⟨by decide, by decide⟩
  have hat160 : cl160.slots[(((0 : Int32) + (1 : Int32))).toNatClampNeg]? = some (.ref w_5) := Has.at Ha160 hin160 (by rfl)
  obtain ⟨cq161, kq161, q161a, q161b, q161c⟩ := isOf hZ e159 (E_2.ext O0.2)
  obtain ⟨_, _, ⟨T161, L161, k161, n161⟩, -, X161, ⟨Lc161, hQ161, l161, y161, z161⟩, st161⟩ := X159.virtualBack hx (y := Y1) (z := Y1) hown (mvT hZ (hw _ (tk 18 rfl))) (mvT hZ (hw _ (tk 19 rfl))) (notFace_of_selects (args := #[]) (mvT hZ (hw _ (tk 21 rfl)))) (mvT hZ (hw _ (tk 21 rfl))) (mvT hZ (hw _ (tk 20 rfl))) (by decide) (backOf (W := 0) (rm3 l Z a0 hw [] w_1 w_2 w_3 w_4 w_5 k_4 hS0 w_2 w_5 (0 : Int32) h0 n0 O0 (F_2_sharedWithItself.ext O0.2)) hZ (hw _ (tk 22 rfl)) (hw _ (tk 5 rfl)) (by decide) (by decide)) q161a q161c (g := (mkF m 25 #[.val (.ref w_5), .val (.ref w_2), .val (.ref w_4), .val (.int (4 : Int32)), .val (.int ((0 : Int32) + (1 : Int32))), .val (.ref w_5)] [(.ref w_5), (.ref w_2)])) rfl (by rw [hml]; rfl) (Steps.refl _) (argsL := [(.ref w_5)]) (rest := []) (lenOf pd_1 rfl) rfl (by show 2 * 0 + _ ≤ _; exact Nat.le_of_eq rfl) (hb hby d2_25) (fun _ _ => ⟨rfl, e159, (by decide : 0 + 0 ≤ _), (by decide : 0 + 0 ≤ _)⟩)
  dsimp only [Pt.U, Pt.locs, Pt.cells, Pt.slots] at X161 l161 y161 z161 st161 hQ161
  subst l161 y161 z161
  obtain ⟨rv161, N161q, e161⟩ := hQ161
  rw [show sp3 w_2 w_5 (0 : Int32) = (1 : Int32) from by unfold sp3; rw [if_neg (Fld.ne F_2_ordinal F_5_ordinal (by decide))]] at rv161
  subst rv161
  have N161 := Fr.app N159 N161q
  obtain ⟨cq162, kq162, q162a, q162b, q162c⟩ := isOf hZ e161 (E_5.ext O0.2)
  obtain ⟨_, _, ⟨T162, L162, k162, n162⟩, -, X162, ⟨Lc162, hQ162, l162, y162, z162⟩, st162⟩ := X161.virtualBack hx (y := Y1) (z := Y1) hown (mvT hZ (hw _ (tk 18 rfl))) (mvT hZ (hw _ (tk 19 rfl))) (notFace_of_selects (args := #[]) (mvT hZ (hw _ (tk 21 rfl)))) (mvT hZ (hw _ (tk 21 rfl))) (mvT hZ (hw _ (tk 20 rfl))) (by decide) (backOf (W := 0) (rm3 l Z a0 hw [] w_1 w_2 w_3 w_4 w_5 k_4 hS0 w_5 w_5 (1 : Int32) h0 n0 O0 (F_5_sharedWithItself.ext O0.2)) hZ (hw _ (tk 22 rfl)) (hw _ (tk 5 rfl)) (by decide) (by decide)) q162a q162c (g := (mkF m 34 #[.val (.ref w_5), .val (.ref w_2), .val (.ref w_4), .val (.int (4 : Int32)), .val (.int ((0 : Int32) + (1 : Int32))), .val (.ref w_5)] [(.ref w_5), (.ref w_5)])) rfl (by rw [hml]; rfl) (Steps.refl _) (argsL := [(.ref w_5)]) (rest := []) (lenOf pd_1 rfl) rfl (by show 2 * 0 + _ ≤ _; exact Nat.le_of_eq rfl) (hb hby d2_34) (fun _ _ => ⟨rfl, e161, (by decide : 0 + 0 ≤ _), (by decide : 0 + 0 ≤ _)⟩)
  dsimp only [Pt.U, Pt.locs, Pt.cells, Pt.slots] at X162 l162 y162 z162 st162 hQ162
  subst l162 y162 z162
  obtain ⟨rv162, N162q, e162⟩ := hQ162
  rw [show sp3 w_5 w_5 (1 : Int32) = (0 : Int32) from by unfold sp3; rw [if_pos rfl, if_neg (by decide : ¬ ((1 : Int32) = (0 : Int32)))]] at rv162
  subst rv162
  have N162 := Fr.app N161 N162q
  obtain ⟨fs, hr, hrun, hended, hW, hsame⟩ := X162.leave (v := some (.int (0 : Int32))) (fun h => by rw [Bd.returns] at h; cases h)
  refine ⟨_, _, pre0 _ ?_, hrun, hended, _, _, rfl, ?_, ⟨_, rfl⟩, hW, hsame.mono (by decide) (by decide)⟩
  · show Steps p.tables e below (s₁.setTop (mkF m 0 #[.val (.ref w_5), .val (.ref w_2), .unset, .unset, .unset, .unset] [])) _
    refine st155 _ ?_
    show Steps p.tables e below (T155.setTop (mkF m 3 #[.val (.ref w_5), .val (.ref w_2), .unset, .unset, .unset, .unset] [(.ref w_4)])) _
    refine XS.astoreN X155.here hx rfl (hb hby d2_3) rfl rfl (l' := #[.val (.ref w_5), .val (.ref w_2), .val (.ref w_4), .unset, .unset, .unset]) rfl ?_
    show Steps p.tables e below (T155.setTop (mkF m 4 #[.val (.ref w_5), .val (.ref w_2), .val (.ref w_4), .unset, .unset, .unset] [])) _
    refine XS.aloadN X155.here hx rfl (hb hby d2_4) rfl rfl ?_
    show Steps p.tables e below (T155.setTop (mkF m 5 #[.val (.ref w_5), .val (.ref w_2), .val (.ref w_4), .unset, .unset, .unset] [(.ref w_4)])) _
    refine X155.arraylength hx (by rw [e155]; exact Ar156.1) (State.isArrayOf_alike hZ.alike Ar156.2.1) (g := (mkF m 5 #[.val (.ref w_5), .val (.ref w_2), .val (.ref w_4), .unset, .unset, .unset] [(.ref w_4)])) rfl rfl (hb hby d2_5) _ ?_
    rw [len_of Sa156 Ma156]
    show Steps p.tables e below (T155.setTop (mkF m 6 #[.val (.ref w_5), .val (.ref w_2), .val (.ref w_4), .unset, .unset, .unset] [(.int (4 : Int32))])) _
    refine XS.istoreN X155.here hx rfl (hb hby d2_6) rfl (l' := #[.val (.ref w_5), .val (.ref w_2), .val (.ref w_4), .val (.int (4 : Int32)), .unset, .unset]) rfl ?_
    show Steps p.tables e below (T155.setTop (mkF m 7 #[.val (.ref w_5), .val (.ref w_2), .val (.ref w_4), .val (.int (4 : Int32)), .unset, .unset] [])) _
    refine XS.iconst X155.here hx rfl (hb hby d2_7) ?_
    show Steps p.tables e below (T155.setTop (mkF m 8 #[.val (.ref w_5), .val (.ref w_2), .val (.ref w_4), .val (.int (4 : Int32)), .unset, .unset] [(.int (0 : Int32))])) _
    refine XS.istore X155.here hx rfl (hb hby d2_8) rfl (l' := #[.val (.ref w_5), .val (.ref w_2), .val (.ref w_4), .val (.int (4 : Int32)), .val (.int (0 : Int32)), .unset]) rfl ?_
    show Steps p.tables e below (T155.setTop (mkF m 10 #[.val (.ref w_5), .val (.ref w_2), .val (.ref w_4), .val (.int (4 : Int32)), .val (.int (0 : Int32)), .unset] [])) _
    refine XS.iload X155.here hx rfl (hb hby d2_10) rfl ?_
    show Steps p.tables e below (T155.setTop (mkF m 12 #[.val (.ref w_5), .val (.ref w_2), .val (.ref w_4), .val (.int (4 : Int32)), .val (.int (0 : Int32)), .unset] [(.int (0 : Int32))])) _
    refine XS.iloadN X155.here hx rfl (hb hby d2_12) rfl ?_
    show Steps p.tables e below (T155.setTop (mkF m 13 #[.val (.ref w_5), .val (.ref w_2), .val (.ref w_4), .val (.int (4 : Int32)), .val (.int (0 : Int32)), .unset] [(.int (4 : Int32)), (.int (0 : Int32))])) _
    refine XS.icmpNo X155.here hx rfl (hb hby d2_13) rfl (tlt (by decide : ((0 : Int32) < (4 : Int32)))).2.1 ?_
    show Steps p.tables e below (T155.setTop (mkF m 16 #[.val (.ref w_5), .val (.ref w_2), .val (.ref w_4), .val (.int (4 : Int32)), .val (.int (0 : Int32)), .unset] [])) _
    refine XS.aloadN X155.here hx rfl (hb hby d2_16) rfl rfl ?_
    show Steps p.tables e below (T155.setTop (mkF m 17 #[.val (.ref w_5), .val (.ref w_2), .val (.ref w_4), .val (.int (4 : Int32)), .val (.int (0 : Int32)), .unset] [(.ref w_4)])) _
    refine XS.iload X155.here hx rfl (hb hby d2_17) rfl ?_
    show Steps p.tables e below (T155.setTop (mkF m 19 #[.val (.ref w_5), .val (.ref w_2), .val (.ref w_4), .val (.int (4 : Int32)), .val (.int (0 : Int32)), .unset] [(.int (0 : Int32)), (.ref w_4)])) _
    refine X155.aaload hx (j := (0 : Int32)) (v := (.ref w_1)) (by rw [e155]; exact Ar157.1) (State.isArrayOf_alike hZ.alike Ar157.2.1) rfl Ar157.2.2 hin157 hat157 (g := (mkF m 19 #[.val (.ref w_5), .val (.ref w_2), .val (.ref w_4), .val (.int (4 : Int32)), .val (.int (0 : Int32)), .unset] [(.int (0 : Int32)), (.ref w_4)])) rfl rfl (hb hby d2_19) _ ?_
    show Steps p.tables e below (T155.setTop (mkF m 20 #[.val (.ref w_5), .val (.ref w_2), .val (.ref w_4), .val (.int (4 : Int32)), .val (.int (0 : Int32)), .unset] [(.ref w_1)])) _
    refine XS.astore X155.here hx rfl (hb hby d2_20) rfl rfl (l' := #[.val (.ref w_5), .val (.ref w_2), .val (.ref w_4), .val (.int (4 : Int32)), .val (.int (0 : Int32)), .val (.ref w_1)]) rfl ?_
    show Steps p.tables e below (T155.setTop (mkF m 22 #[.val (.ref w_5), .val (.ref w_2), .val (.ref w_4), .val (.int (4 : Int32)), .val (.int (0 : Int32)), .val (.ref w_1)] [])) _
    refine XS.aloadN X155.here hx rfl (hb hby d2_22) rfl rfl ?_
    show Steps p.tables e below (T155.setTop (mkF m 23 #[.val (.ref w_5), .val (.ref w_2), .val (.ref w_4), .val (.int (4 : Int32)), .val (.int (0 : Int32)), .val (.ref w_1)] [(.ref w_2)])) _
    refine XS.aload X155.here hx rfl (hb hby d2_23) rfl rfl ?_
    show Steps p.tables e below (T155.setTop (mkF m 25 #[.val (.ref w_5), .val (.ref w_2), .val (.ref w_4), .val (.int (4 : Int32)), .val (.int (0 : Int32)), .val (.ref w_1)] [(.ref w_1), (.ref w_2)])) _
    refine st158.trans ?_
    show Steps p.tables e below (T158.setTop (mkF m 28 #[.val (.ref w_5), .val (.ref w_2), .val (.ref w_4), .val (.int (4 : Int32)), .val (.int (0 : Int32)), .val (.ref w_1)] [(.int (1 : Int32))])) _
    refine XS.ifNo X158.here hx rfl (hb hby d2_28) rfl ((if0 _ _).trans (feq (by decide : ¬ ((1 : Int32) = (0 : Int32)))).1) ?_
    show Steps p.tables e below (T158.setTop (mkF m 31 #[.val (.ref w_5), .val (.ref w_2), .val (.ref w_4), .val (.int (4 : Int32)), .val (.int (0 : Int32)), .val (.ref w_1)] [])) _
    refine XS.aloadN X158.here hx rfl (hb hby d2_31) rfl rfl ?_
    show Steps p.tables e below (T158.setTop (mkF m 32 #[.val (.ref w_5), .val (.ref w_2), .val (.ref w_4), .val (.int (4 : Int32)), .val (.int (0 : Int32)), .val (.ref w_1)] [(.ref w_5)])) _
    refine XS.aload X158.here hx rfl (hb hby d2_32) rfl rfl ?_
    show Steps p.tables e below (T158.setTop (mkF m 34 #[.val (.ref w_5), .val (.ref w_2), .val (.ref w_4), .val (.int (4 : Int32)), .val (.int (0 : Int32)), .val (.ref w_1)] [(.ref w_1), (.ref w_5)])) _
    refine st159.trans ?_
    show Steps p.tables e below (T159.setTop (mkF m 37 #[.val (.ref w_5), .val (.ref w_2), .val (.ref w_4), .val (.int (4 : Int32)), .val (.int (0 : Int32)), .val (.ref w_1)] [(.int (1 : Int32))])) _
    refine XS.ifYes X159.here hx rfl (pc0 := 37) (pc' := 42) rfl (hb hby d2_37) rfl ((if0 _ _).trans (feq (by decide : ¬ ((1 : Int32) = (0 : Int32)))).2) (by decide) (by decide) ?_
    show Steps p.tables e below (T159.setTop (mkF m 42 #[.val (.ref w_5), .val (.ref w_2), .val (.ref w_4), .val (.int (4 : Int32)), .val (.int (0 : Int32)), .val (.ref w_1)] [])) _
    refine XS.iinc X159.here hx rfl (hb hby d2_42) rfl (l' := #[.val (.ref w_5), .val (.ref w_2), .val (.ref w_4), .val (.int (4 : Int32)), .val (.int ((0 : Int32) + (1 : Int32))), .val (.ref w_1)]) rfl ?_
    show Steps p.tables e below (T159.setTop (mkF m 45 #[.val (.ref w_5), .val (.ref w_2), .val (.ref w_4), .val (.int (4 : Int32)), .val (.int ((0 : Int32) + (1 : Int32))), .val (.ref w_1)] [])) _
    refine XS.goto X159.here hx rfl (pc0 := 45) (pc' := 10) rfl (hb hby d2_45) (by decide) (by decide) ?_
    show Steps p.tables e below (T159.setTop (mkF m 10 #[.val (.ref w_5), .val (.ref w_2), .val (.ref w_4), .val (.int (4 : Int32)), .val (.int ((0 : Int32) + (1 : Int32))), .val (.ref w_1)] [])) _
    refine XS.iload X159.here hx rfl (hb hby d2_10) rfl ?_
    show Steps p.tables e below (T159.setTop (mkF m 12 #[.val (.ref w_5), .val (.ref w_2), .val (.ref w_4), .val (.int (4 : Int32)), .val (.int ((0 : Int32) + (1 : Int32))), .val (.ref w_1)] [(.int ((0 : Int32) + (1 : Int32)))])) _
    refine XS.iloadN X159.here hx rfl (hb hby d2_12) rfl ?_
    show Steps p.tables e below (T159.setTop (mkF m 13 #[.val (.ref w_5), .val (.ref w_2), .val (.ref w_4), .val (.int (4 : Int32)), .val (.int ((0 : Int32) + (1 : Int32))), .val (.ref w_1)] [(.int (4 : Int32)), (.int ((0 : Int32) + (1 : Int32)))])) _
    refine XS.icmpNo X159.here hx rfl (hb hby d2_13) rfl (tlt (by decide : (((0 : Int32) + (1 : Int32)) < (4 : Int32)))).2.1 ?_
    show Steps p.tables e below (T159.setTop (mkF m 16 #[.val (.ref w_5), .val (.ref w_2), .val (.ref w_4), .val (.int (4 : Int32)), .val (.int ((0 : Int32) + (1 : Int32))), .val (.ref w_1)] [])) _
    refine XS.aloadN X159.here hx rfl (hb hby d2_16) rfl rfl ?_
    show Steps p.tables e below (T159.setTop (mkF m 17 #[.val (.ref w_5), .val (.ref w_2), .val (.ref w_4), .val (.int (4 : Int32)), .val (.int ((0 : Int32) + (1 : Int32))), .val (.ref w_1)] [(.ref w_4)])) _
    refine XS.iload X159.here hx rfl (hb hby d2_17) rfl ?_
    show Steps p.tables e below (T159.setTop (mkF m 19 #[.val (.ref w_5), .val (.ref w_2), .val (.ref w_4), .val (.int (4 : Int32)), .val (.int ((0 : Int32) + (1 : Int32))), .val (.ref w_1)] [(.int ((0 : Int32) + (1 : Int32))), (.ref w_4)])) _
    refine X159.aaload hx (j := ((0 : Int32) + (1 : Int32))) (v := (.ref w_5)) (by rw [e159]; exact Ar160.1) (State.isArrayOf_alike hZ.alike Ar160.2.1) rfl Ar160.2.2 hin160 hat160 (g := (mkF m 19 #[.val (.ref w_5), .val (.ref w_2), .val (.ref w_4), .val (.int (4 : Int32)), .val (.int ((0 : Int32) + (1 : Int32))), .val (.ref w_1)] [(.int ((0 : Int32) + (1 : Int32))), (.ref w_4)])) rfl rfl (hb hby d2_19) _ ?_
    show Steps p.tables e below (T159.setTop (mkF m 20 #[.val (.ref w_5), .val (.ref w_2), .val (.ref w_4), .val (.int (4 : Int32)), .val (.int ((0 : Int32) + (1 : Int32))), .val (.ref w_1)] [(.ref w_5)])) _
    refine XS.astore X159.here hx rfl (hb hby d2_20) rfl rfl (l' := #[.val (.ref w_5), .val (.ref w_2), .val (.ref w_4), .val (.int (4 : Int32)), .val (.int ((0 : Int32) + (1 : Int32))), .val (.ref w_5)]) rfl ?_
    show Steps p.tables e below (T159.setTop (mkF m 22 #[.val (.ref w_5), .val (.ref w_2), .val (.ref w_4), .val (.int (4 : Int32)), .val (.int ((0 : Int32) + (1 : Int32))), .val (.ref w_5)] [])) _
    refine XS.aloadN X159.here hx rfl (hb hby d2_22) rfl rfl ?_
    show Steps p.tables e below (T159.setTop (mkF m 23 #[.val (.ref w_5), .val (.ref w_2), .val (.ref w_4), .val (.int (4 : Int32)), .val (.int ((0 : Int32) + (1 : Int32))), .val (.ref w_5)] [(.ref w_2)])) _
    refine XS.aload X159.here hx rfl (hb hby d2_23) rfl rfl ?_
    show Steps p.tables e below (T159.setTop (mkF m 25 #[.val (.ref w_5), .val (.ref w_2), .val (.ref w_4), .val (.int (4 : Int32)), .val (.int ((0 : Int32) + (1 : Int32))), .val (.ref w_5)] [(.ref w_5), (.ref w_2)])) _
    refine st161.trans ?_
    show Steps p.tables e below (T161.setTop (mkF m 28 #[.val (.ref w_5), .val (.ref w_2), .val (.ref w_4), .val (.int (4 : Int32)), .val (.int ((0 : Int32) + (1 : Int32))), .val (.ref w_5)] [(.int (1 : Int32))])) _
    refine XS.ifNo X161.here hx rfl (hb hby d2_28) rfl ((if0 _ _).trans (feq (by decide : ¬ ((1 : Int32) = (0 : Int32)))).1) ?_
    show Steps p.tables e below (T161.setTop (mkF m 31 #[.val (.ref w_5), .val (.ref w_2), .val (.ref w_4), .val (.int (4 : Int32)), .val (.int ((0 : Int32) + (1 : Int32))), .val (.ref w_5)] [])) _
    refine XS.aloadN X161.here hx rfl (hb hby d2_31) rfl rfl ?_
    show Steps p.tables e below (T161.setTop (mkF m 32 #[.val (.ref w_5), .val (.ref w_2), .val (.ref w_4), .val (.int (4 : Int32)), .val (.int ((0 : Int32) + (1 : Int32))), .val (.ref w_5)] [(.ref w_5)])) _
    refine XS.aload X161.here hx rfl (hb hby d2_32) rfl rfl ?_
    show Steps p.tables e below (T161.setTop (mkF m 34 #[.val (.ref w_5), .val (.ref w_2), .val (.ref w_4), .val (.int (4 : Int32)), .val (.int ((0 : Int32) + (1 : Int32))), .val (.ref w_5)] [(.ref w_5), (.ref w_5)])) _
    refine st162.trans ?_
    show Steps p.tables e below (T162.setTop (mkF m 37 #[.val (.ref w_5), .val (.ref w_2), .val (.ref w_4), .val (.int (4 : Int32)), .val (.int ((0 : Int32) + (1 : Int32))), .val (.ref w_5)] [(.int (0 : Int32))])) _
    refine XS.ifNo X162.here hx rfl (hb hby d2_37) rfl ((if0 _ _).trans (teq (by decide : ((0 : Int32) = (0 : Int32)))).2) ?_
    show Steps p.tables e below (T162.setTop (mkF m 40 #[.val (.ref w_5), .val (.ref w_2), .val (.ref w_4), .val (.int (4 : Int32)), .val (.int ((0 : Int32) + (1 : Int32))), .val (.ref w_5)] [])) _
    refine XS.iconst X162.here hx rfl (hb hby d2_40) ?_
    show Steps p.tables e below (T162.setTop (mkF m 41 #[.val (.ref w_5), .val (.ref w_2), .val (.ref w_4), .val (.int (4 : Int32)), .val (.int ((0 : Int32) + (1 : Int32))), .val (.ref w_5)] [(.int (0 : Int32))])) _
    exact retN X162 hx (t := .boolean) Bd.returns (by simp) (hb hby d2_41) hr
  · show Q2x8 Z w_1 w_2 w_3 w_4 w_5 k_4 h0 n0 _ T162.heap _
    rw [e162]
    exact ⟨by unfold sp2x8; rfl, N162, rfl⟩
theorem pn_2x9 : plainName "com/example/lucid_locks/lucidlocks/locks/LockMode" = true := by first | (simp [plainName, overriddenIn]; done) | decide +kernel
theorem ef_2x9 (m : MethodId) (w_3 : Addr) (w_1 : Addr) : entryFrame m #[(.ref w_3), (.ref w_1)] 6 = mkF m 0 #[.val (.ref w_3), .val (.ref w_1), .unset, .unset, .unset, .unset] [] := by first | (simp [entryFrame, mkF, argsToLocals, Value.category]; done) | rfl
def sp2x9  : Int32 := (1 : Int32)
def Q2x9 (Z : State) (w_1 : Addr) (w_2 : Addr) (w_3 : Addr) (w_4 : Addr) (w_5 : Addr) (k_4 : ClassId) (h0 : Heap) (n0 : Nat) (v : Option Value) (h : Heap) (L : List Loc) : Prop := v = some (.int (sp2x9)) ∧ Fr n0 L ∧ h = h0
set_option maxRecDepth 65536 in
set_option maxHeartbeats 40000000 in
theorem rm2x9 (l : Launch) (Z : State) (a0 : Array Value) (hw : ∀ d ∈ tables_1, d.before a0 Z = true) (ws : List Jvm.Cond) (w_1 : Addr) (w_2 : Addr) (w_3 : Addr) (w_4 : Addr) (w_5 : Addr) (k_4 : ClassId) (hS : StF Z w_1 w_2 w_3 w_4 w_5 k_4) (h0 : Heap) (n0 : Nat) (O0 : Old Z n0 h0) :
    MetFree l Y2 (head1 (Jvm.Cond.code Y2 prog_17_method_7_code 6 (some .boolean) :: ws) ({ frames := 1, cells := 0, slots := 0, locals := 13 } : Room)) (fun a U => a = #[(.ref w_3), (.ref w_1)] ∧ Z.Warmed39 U.vm ∧ U.heap = h0) (fun _ _ _ _ _ => True) (fun _ U o U' => ∃ v L, o = .returned v ∧ Q2x9 Z w_1 w_2 w_3 w_4 w_5 k_4 h0 n0 v U'.heap L ∧ FrameEnd U o U' L ({ frames := 1, cells := 0, slots := 0, locals := 13 } : Room).cells ({ frames := 1, cells := 0, slots := 0, locals := 13 } : Room).slots) := by
  refine MetFree.of_bodySF (plainFor_of_name pn_2x9) hisR ?_
  intro p e s m args below meth c s₁ Bd hml0 hP hK
  obtain ⟨rfl, hZ, hh⟩ := hP
  have hx := Bd.exec
  have hby := Bd.bytes
  have hml : c.maxLocals = 6 := hml0
  have hown : s.vm.findClass "com/example/lucid_locks/lucidlocks/locks/LockMode" = some m.cls := findClass_of_methodNamed Bd.named
  have hnm := (name_of_methodNamed Bd.named Bd.method).1
  have X0 : Stand p l e ({ frames := 1, cells := 0, slots := 0, locals := 13 } : Room) s m #[(.ref w_3), (.ref w_1)] below meth c s₁ [] 0 0 := Stand.of_body Bd
  have e0 : s₁.heap = h0 := by rw [← hh, Bd.state]; rfl
  have N0 := Fr.nil n0
  have hS0 := hS
  obtain ⟨S_1, E_1, S_2, E_2, S_3, E_3, S_4, S_5, E_5, F_1_ordinal, F_3_ordinal, F_2_ordinal, F_1_sharedWithItself, F_5_ordinal, F_5_sharedWithItself, F_3_sharedWithItself, F_2_sharedWithItself, V_4⟩ := hS
  have pre0 : ∀ t, Steps p.tables e below (s₁.setTop (mkF m 0 #[.val (.ref w_3), .val (.ref w_1), .unset, .unset, .unset, .unset] [])) t → Steps p.tables e below (s₁.setTop (entryFrame m #[(.ref w_3), (.ref w_1)] 6)) t := fun t k => castTop (ef_2x9 m w_3 w_1) k
  obtain ⟨T169, X169, e169, st169⟩ := getS2 X0 hx hZ hown (host := "") (Or.inl (hw _ (tk 16 rfl))) Via.refl e0 (S_4.ext O0.2) (g := (mkF m 0 #[.val (.ref w_3), .val (.ref w_1), .unset, .unset, .unset, .unset] [])) rfl (hb hby d2_0)
  obtain ⟨cl170, Ar170, qa170, Sa170, Ma170, Ha170, Ga170⟩ := id (V_4.ext O0.2)
  obtain ⟨cl171, Ar171, qa171, Sa171, Ma171, Ha171, Ga171⟩ := id (V_4.ext O0.2)
  have hin171 : ¬ ((0 : Int32) < 0 ∨ cl171.slots.size ≤ ((0 : Int32)).toNatClampNeg) := by  exact inb_of Sa171 ⟨by decide, by decide⟩
  have hat171 : cl171.slots[((0 : Int32)).toNatClampNeg]? = some (.ref w_1) := Has.at Ha171 hin171 (by rfl)
  obtain ⟨cq172, kq172, q172a, q172b, q172c⟩ := isOf hZ e169 (E_1.ext O0.2)
  obtain ⟨_, _, ⟨T172, L172, k172, n172⟩, -, X172, ⟨Lc172, hQ172, l172, y172, z172⟩, st172⟩ := X169.virtualBack hx (y := Y1) (z := Y1) hown (mvT hZ (hw _ (tk 18 rfl))) (mvT hZ (hw _ (tk 19 rfl))) (notFace_of_selects (args := #[]) (mvT hZ (hw _ (tk 21 rfl)))) (mvT hZ (hw _ (tk 21 rfl))) (mvT hZ (hw _ (tk 20 rfl))) (by decide) (backOf (W := 0) (rm3 l Z a0 hw [] w_1 w_2 w_3 w_4 w_5 k_4 hS0 w_1 w_1 (1 : Int32) h0 n0 O0 (F_1_sharedWithItself.ext O0.2)) hZ (hw _ (tk 22 rfl)) (hw _ (tk 5 rfl)) (by decide) (by decide)) q172a q172c (g := (mkF m 25 #[.val (.ref w_3), .val (.ref w_1), .val (.ref w_4), .val (.int (4 : Int32)), .val (.int (0 : Int32)), .val (.ref w_1)] [(.ref w_1), (.ref w_1)])) rfl (by rw [hml]; rfl) (Steps.refl _) (argsL := [(.ref w_1)]) (rest := []) (lenOf pd_1 rfl) rfl (by show 2 * 0 + _ ≤ _; exact Nat.le_of_eq rfl) (hb hby d2_25) (fun _ _ => ⟨rfl, e169, (by decide : 0 + 0 ≤ _), (by decide : 0 + 0 ≤ _)⟩)
  dsimp only [Pt.U, Pt.locs, Pt.cells, Pt.slots] at X172 l172 y172 z172 st172 hQ172
  subst l172 y172 z172
  obtain ⟨rv172, N172q, e172⟩ := hQ172
  rw [show sp3 w_1 w_1 (1 : Int32) = (0 : Int32) from by unfold sp3; rw [if_pos rfl, if_neg (by decide : ¬ ((1 : Int32) = (0 : Int32)))]] at rv172
  subst rv172
  have N172 := Fr.app N0 N172q
  obtain ⟨cl173, Ar173, qa173, Sa173, Ma173, Ha173, Ga173⟩ := id (V_4.ext O0.2)
  have hin173 : ¬ (((0 : Int32) + (1 : Int32)) < 0 ∨ cl173.slots.size ≤ (((0 : Int32) + (1 : Int32))).toNatClampNeg) := by  exact inb_of Sa173 ⟨by decide, by decide⟩
  have hat173 : cl173.slots[(((0 : Int32) + (1 : Int32))).toNatClampNeg]? = some (.ref w_5) := Has.at Ha173 hin173 (by rfl)
  obtain ⟨cq174, kq174, q174a, q174b, q174c⟩ := isOf hZ e172 (E_1.ext O0.2)
  obtain ⟨_, _, ⟨T174, L174, k174, n174⟩, -, X174, ⟨Lc174, hQ174, l174, y174, z174⟩, st174⟩ := X172.virtualBack hx (y := Y1) (z := Y1) hown (mvT hZ (hw _ (tk 18 rfl))) (mvT hZ (hw _ (tk 19 rfl))) (notFace_of_selects (args := #[]) (mvT hZ (hw _ (tk 21 rfl)))) (mvT hZ (hw _ (tk 21 rfl))) (mvT hZ (hw _ (tk 20 rfl))) (by decide) (backOf (W := 0) (rm3 l Z a0 hw [] w_1 w_2 w_3 w_4 w_5 k_4 hS0 w_1 w_5 (1 : Int32) h0 n0 O0 (F_1_sharedWithItself.ext O0.2)) hZ (hw _ (tk 22 rfl)) (hw _ (tk 5 rfl)) (by decide) (by decide)) q174a q174c (g := (mkF m 25 #[.val (.ref w_3), .val (.ref w_1), .val (.ref w_4), .val (.int (4 : Int32)), .val (.int ((0 : Int32) + (1 : Int32))), .val (.ref w_5)] [(.ref w_5), (.ref w_1)])) rfl (by rw [hml]; rfl) (Steps.refl _) (argsL := [(.ref w_5)]) (rest := []) (lenOf pd_1 rfl) rfl (by show 2 * 0 + _ ≤ _; exact Nat.le_of_eq rfl) (hb hby d2_25) (fun _ _ => ⟨rfl, e172, (by decide : 0 + 0 ≤ _), (by decide : 0 + 0 ≤ _)⟩)
  dsimp only [Pt.U, Pt.locs, Pt.cells, Pt.slots] at X174 l174 y174 z174 st174 hQ174
  subst l174 y174 z174
  obtain ⟨rv174, N174q, e174⟩ := hQ174
  rw [show sp3 w_1 w_5 (1 : Int32) = (1 : Int32) from by unfold sp3; rw [if_neg (Fld.ne F_1_ordinal F_5_ordinal (by decide))]] at rv174
  subst rv174
  have N174 := Fr.app N172 N174q
  obtain ⟨cq175, kq175, q175a, q175b, q175c⟩ := isOf hZ e174 (E_3.ext O0.2)
  obtain ⟨_, _, ⟨T175, L175, k175, n175⟩, -, X175, ⟨Lc175, hQ175, l175, y175, z175⟩, st175⟩ := X174.virtualBack hx (y := Y1) (z := Y1) hown (mvT hZ (hw _ (tk 18 rfl))) (mvT hZ (hw _ (tk 19 rfl))) (notFace_of_selects (args := #[]) (mvT hZ (hw _ (tk 21 rfl)))) (mvT hZ (hw _ (tk 21 rfl))) (mvT hZ (hw _ (tk 20 rfl))) (by decide) (backOf (W := 0) (rm3 l Z a0 hw [] w_1 w_2 w_3 w_4 w_5 k_4 hS0 w_3 w_5 (0 : Int32) h0 n0 O0 (F_3_sharedWithItself.ext O0.2)) hZ (hw _ (tk 22 rfl)) (hw _ (tk 5 rfl)) (by decide) (by decide)) q175a q175c (g := (mkF m 34 #[.val (.ref w_3), .val (.ref w_1), .val (.ref w_4), .val (.int (4 : Int32)), .val (.int ((0 : Int32) + (1 : Int32))), .val (.ref w_5)] [(.ref w_5), (.ref w_3)])) rfl (by rw [hml]; rfl) (Steps.refl _) (argsL := [(.ref w_5)]) (rest := []) (lenOf pd_1 rfl) rfl (by show 2 * 0 + _ ≤ _; exact Nat.le_of_eq rfl) (hb hby d2_34) (fun _ _ => ⟨rfl, e174, (by decide : 0 + 0 ≤ _), (by decide : 0 + 0 ≤ _)⟩)
  dsimp only [Pt.U, Pt.locs, Pt.cells, Pt.slots] at X175 l175 y175 z175 st175 hQ175
  subst l175 y175 z175
  obtain ⟨rv175, N175q, e175⟩ := hQ175
  rw [show sp3 w_3 w_5 (0 : Int32) = (1 : Int32) from by unfold sp3; rw [if_neg (Fld.ne F_3_ordinal F_5_ordinal (by decide))]] at rv175
  subst rv175
  have N175 := Fr.app N174 N175q
  obtain ⟨cl176, Ar176, qa176, Sa176, Ma176, Ha176, Ga176⟩ := id (V_4.ext O0.2)
  have hin176 : ¬ ((((0 : Int32) + (1 : Int32)) + (1 : Int32)) < 0 ∨ cl176.slots.size ≤ ((((0 : Int32) + (1 : Int32)) + (1 : Int32))).toNatClampNeg) := by  exact inb_of Sa176 ⟨by decide, by decide⟩
  have hat176 : cl176.slots[((((0 : Int32) + (1 : Int32)) + (1 : Int32))).toNatClampNeg]? = some (.ref w_3) := Has.at Ha176 hin176 (by rfl)
  obtain ⟨cq177, kq177, q177a, q177b, q177c⟩ := isOf hZ e175 (E_1.ext O0.2)
  obtain ⟨_, _, ⟨T177, L177, k177, n177⟩, -, X177, ⟨Lc177, hQ177, l177, y177, z177⟩, st177⟩ := X175.virtualBack hx (y := Y1) (z := Y1) hown (mvT hZ (hw _ (tk 18 rfl))) (mvT hZ (hw _ (tk 19 rfl))) (notFace_of_selects (args := #[]) (mvT hZ (hw _ (tk 21 rfl)))) (mvT hZ (hw _ (tk 21 rfl))) (mvT hZ (hw _ (tk 20 rfl))) (by decide) (backOf (W := 0) (rm3 l Z a0 hw [] w_1 w_2 w_3 w_4 w_5 k_4 hS0 w_1 w_3 (1 : Int32) h0 n0 O0 (F_1_sharedWithItself.ext O0.2)) hZ (hw _ (tk 22 rfl)) (hw _ (tk 5 rfl)) (by decide) (by decide)) q177a q177c (g := (mkF m 25 #[.val (.ref w_3), .val (.ref w_1), .val (.ref w_4), .val (.int (4 : Int32)), .val (.int (((0 : Int32) + (1 : Int32)) + (1 : Int32))), .val (.ref w_3)] [(.ref w_3), (.ref w_1)])) rfl (by rw [hml]; rfl) (Steps.refl _) (argsL := [(.ref w_3)]) (rest := []) (lenOf pd_1 rfl) rfl (by show 2 * 0 + _ ≤ _; exact Nat.le_of_eq rfl) (hb hby d2_25) (fun _ _ => ⟨rfl, e175, (by decide : 0 + 0 ≤ _), (by decide : 0 + 0 ≤ _)⟩)
  dsimp only [Pt.U, Pt.locs, Pt.cells, Pt.slots] at X177 l177 y177 z177 st177 hQ177
  subst l177 y177 z177
  obtain ⟨rv177, N177q, e177⟩ := hQ177
  rw [show sp3 w_1 w_3 (1 : Int32) = (1 : Int32) from by unfold sp3; rw [if_neg (Fld.ne F_1_ordinal F_3_ordinal (by decide))]] at rv177
  subst rv177
  have N177 := Fr.app N175 N177q
  obtain ⟨cq178, kq178, q178a, q178b, q178c⟩ := isOf hZ e177 (E_3.ext O0.2)
  obtain ⟨_, _, ⟨T178, L178, k178, n178⟩, -, X178, ⟨Lc178, hQ178, l178, y178, z178⟩, st178⟩ := X177.virtualBack hx (y := Y1) (z := Y1) hown (mvT hZ (hw _ (tk 18 rfl))) (mvT hZ (hw _ (tk 19 rfl))) (notFace_of_selects (args := #[]) (mvT hZ (hw _ (tk 21 rfl)))) (mvT hZ (hw _ (tk 21 rfl))) (mvT hZ (hw _ (tk 20 rfl))) (by decide) (backOf (W := 0) (rm3 l Z a0 hw [] w_1 w_2 w_3 w_4 w_5 k_4 hS0 w_3 w_3 (0 : Int32) h0 n0 O0 (F_3_sharedWithItself.ext O0.2)) hZ (hw _ (tk 22 rfl)) (hw _ (tk 5 rfl)) (by decide) (by decide)) q178a q178c (g := (mkF m 34 #[.val (.ref w_3), .val (.ref w_1), .val (.ref w_4), .val (.int (4 : Int32)), .val (.int (((0 : Int32) + (1 : Int32)) + (1 : Int32))), .val (.ref w_3)] [(.ref w_3), (.ref w_3)])) rfl (by rw [hml]; rfl) (Steps.refl _) (argsL := [(.ref w_3)]) (rest := []) (lenOf pd_1 rfl) rfl (by show 2 * 0 + _ ≤ _; exact Nat.le_of_eq rfl) (hb hby d2_34) (fun _ _ => ⟨rfl, e177, (by decide : 0 + 0 ≤ _), (by decide : 0 + 0 ≤ _)⟩)
  dsimp only [Pt.U, Pt.locs, Pt.cells, Pt.slots] at X178 l178 y178 z178 st178 hQ178
  subst l178 y178 z178
  obtain ⟨rv178, N178q, e178⟩ := hQ178
  rw [show sp3 w_3 w_3 (0 : Int32) = (1 : Int32) from by unfold sp3; rw [if_pos rfl, if_pos (by decide : ((0 : Int32) = (0 : Int32)))]] at rv178
  subst rv178
  have N178 := Fr.app N177 N178q
  obtain ⟨cl179, Ar179, qa179, Sa179, Ma179, Ha179, Ga179⟩ := id (V_4.ext O0.2)
  have hin179 : ¬ (((((0 : Int32) + (1 : Int32)) + (1 : Int32)) + (1 : Int32)) < 0 ∨ cl179.slots.size ≤ (((((0 : Int32) + (1 : Int32)) + (1 : Int32)) + (1 : Int32))).toNatClampNeg) := by  exact inb_of Sa179 ⟨by decide, by decide⟩
  have hat179 : cl179.slots[(((((0 : Int32) + (1 : Int32)) + (1 : Int32)) + (1 : Int32))).toNatClampNeg]? = some (.ref w_2) := Has.at Ha179 hin179 (by rfl)
  obtain ⟨cq180, kq180, q180a, q180b, q180c⟩ := isOf hZ e178 (E_1.ext O0.2)
  obtain ⟨_, _, ⟨T180, L180, k180, n180⟩, -, X180, ⟨Lc180, hQ180, l180, y180, z180⟩, st180⟩ := X178.virtualBack hx (y := Y1) (z := Y1) hown (mvT hZ (hw _ (tk 18 rfl))) (mvT hZ (hw _ (tk 19 rfl))) (notFace_of_selects (args := #[]) (mvT hZ (hw _ (tk 21 rfl)))) (mvT hZ (hw _ (tk 21 rfl))) (mvT hZ (hw _ (tk 20 rfl))) (by decide) (backOf (W := 0) (rm3 l Z a0 hw [] w_1 w_2 w_3 w_4 w_5 k_4 hS0 w_1 w_2 (1 : Int32) h0 n0 O0 (F_1_sharedWithItself.ext O0.2)) hZ (hw _ (tk 22 rfl)) (hw _ (tk 5 rfl)) (by decide) (by decide)) q180a q180c (g := (mkF m 25 #[.val (.ref w_3), .val (.ref w_1), .val (.ref w_4), .val (.int (4 : Int32)), .val (.int ((((0 : Int32) + (1 : Int32)) + (1 : Int32)) + (1 : Int32))), .val (.ref w_2)] [(.ref w_2), (.ref w_1)])) rfl (by rw [hml]; rfl) (Steps.refl _) (argsL := [(.ref w_2)]) (rest := []) (lenOf pd_1 rfl) rfl (by show 2 * 0 + _ ≤ _; exact Nat.le_of_eq rfl) (hb hby d2_25) (fun _ _ => ⟨rfl, e178, (by decide : 0 + 0 ≤ _), (by decide : 0 + 0 ≤ _)⟩)
  dsimp only [Pt.U, Pt.locs, Pt.cells, Pt.slots] at X180 l180 y180 z180 st180 hQ180
  subst l180 y180 z180
  obtain ⟨rv180, N180q, e180⟩ := hQ180
  rw [show sp3 w_1 w_2 (1 : Int32) = (1 : Int32) from by unfold sp3; rw [if_neg (Fld.ne F_1_ordinal F_2_ordinal (by decide))]] at rv180
  subst rv180
  have N180 := Fr.app N178 N180q
  obtain ⟨cq181, kq181, q181a, q181b, q181c⟩ := isOf hZ e180 (E_3.ext O0.2)
  obtain ⟨_, _, ⟨T181, L181, k181, n181⟩, -, X181, ⟨Lc181, hQ181, l181, y181, z181⟩, st181⟩ := X180.virtualBack hx (y := Y1) (z := Y1) hown (mvT hZ (hw _ (tk 18 rfl))) (mvT hZ (hw _ (tk 19 rfl))) (notFace_of_selects (args := #[]) (mvT hZ (hw _ (tk 21 rfl)))) (mvT hZ (hw _ (tk 21 rfl))) (mvT hZ (hw _ (tk 20 rfl))) (by decide) (backOf (W := 0) (rm3 l Z a0 hw [] w_1 w_2 w_3 w_4 w_5 k_4 hS0 w_3 w_2 (0 : Int32) h0 n0 O0 (F_3_sharedWithItself.ext O0.2)) hZ (hw _ (tk 22 rfl)) (hw _ (tk 5 rfl)) (by decide) (by decide)) q181a q181c (g := (mkF m 34 #[.val (.ref w_3), .val (.ref w_1), .val (.ref w_4), .val (.int (4 : Int32)), .val (.int ((((0 : Int32) + (1 : Int32)) + (1 : Int32)) + (1 : Int32))), .val (.ref w_2)] [(.ref w_2), (.ref w_3)])) rfl (by rw [hml]; rfl) (Steps.refl _) (argsL := [(.ref w_2)]) (rest := []) (lenOf pd_1 rfl) rfl (by show 2 * 0 + _ ≤ _; exact Nat.le_of_eq rfl) (hb hby d2_34) (fun _ _ => ⟨rfl, e180, (by decide : 0 + 0 ≤ _), (by decide : 0 + 0 ≤ _)⟩)
  dsimp only [Pt.U, Pt.locs, Pt.cells, Pt.slots] at X181 l181 y181 z181 st181 hQ181
  subst l181 y181 z181
  obtain ⟨rv181, N181q, e181⟩ := hQ181
  rw [show sp3 w_3 w_2 (0 : Int32) = (1 : Int32) from by unfold sp3; rw [if_neg (Fld.ne F_3_ordinal F_2_ordinal (by decide))]] at rv181
  subst rv181
  have N181 := Fr.app N180 N181q
  obtain ⟨fs, hr, hrun, hended, hW, hsame⟩ := X181.leave (v := some (.int (1 : Int32))) (fun h => by rw [Bd.returns] at h; cases h)
  refine ⟨_, _, pre0 _ ?_, hrun, hended, _, _, rfl, ?_, ⟨_, rfl⟩, hW, hsame.mono (by decide) (by decide)⟩
  · show Steps p.tables e below (s₁.setTop (mkF m 0 #[.val (.ref w_3), .val (.ref w_1), .unset, .unset, .unset, .unset] [])) _
    refine st169 _ ?_
    show Steps p.tables e below (T169.setTop (mkF m 3 #[.val (.ref w_3), .val (.ref w_1), .unset, .unset, .unset, .unset] [(.ref w_4)])) _
    refine XS.astoreN X169.here hx rfl (hb hby d2_3) rfl rfl (l' := #[.val (.ref w_3), .val (.ref w_1), .val (.ref w_4), .unset, .unset, .unset]) rfl ?_
    show Steps p.tables e below (T169.setTop (mkF m 4 #[.val (.ref w_3), .val (.ref w_1), .val (.ref w_4), .unset, .unset, .unset] [])) _
    refine XS.aloadN X169.here hx rfl (hb hby d2_4) rfl rfl ?_
    show Steps p.tables e below (T169.setTop (mkF m 5 #[.val (.ref w_3), .val (.ref w_1), .val (.ref w_4), .unset, .unset, .unset] [(.ref w_4)])) _
    refine X169.arraylength hx (by rw [e169]; exact Ar170.1) (State.isArrayOf_alike hZ.alike Ar170.2.1) (g := (mkF m 5 #[.val (.ref w_3), .val (.ref w_1), .val (.ref w_4), .unset, .unset, .unset] [(.ref w_4)])) rfl rfl (hb hby d2_5) _ ?_
    rw [len_of Sa170 Ma170]
    show Steps p.tables e below (T169.setTop (mkF m 6 #[.val (.ref w_3), .val (.ref w_1), .val (.ref w_4), .unset, .unset, .unset] [(.int (4 : Int32))])) _
    refine XS.istoreN X169.here hx rfl (hb hby d2_6) rfl (l' := #[.val (.ref w_3), .val (.ref w_1), .val (.ref w_4), .val (.int (4 : Int32)), .unset, .unset]) rfl ?_
    show Steps p.tables e below (T169.setTop (mkF m 7 #[.val (.ref w_3), .val (.ref w_1), .val (.ref w_4), .val (.int (4 : Int32)), .unset, .unset] [])) _
    refine XS.iconst X169.here hx rfl (hb hby d2_7) ?_
    show Steps p.tables e below (T169.setTop (mkF m 8 #[.val (.ref w_3), .val (.ref w_1), .val (.ref w_4), .val (.int (4 : Int32)), .unset, .unset] [(.int (0 : Int32))])) _
    refine XS.istore X169.here hx rfl (hb hby d2_8) rfl (l' := #[.val (.ref w_3), .val (.ref w_1), .val (.ref w_4), .val (.int (4 : Int32)), .val (.int (0 : Int32)), .unset]) rfl ?_
    show Steps p.tables e below (T169.setTop (mkF m 10 #[.val (.ref w_3), .val (.ref w_1), .val (.ref w_4), .val (.int (4 : Int32)), .val (.int (0 : Int32)), .unset] [])) _
    refine XS.iload X169.here hx rfl (hb hby d2_10) rfl ?_
    show Steps p.tables e below (T169.setTop (mkF m 12 #[.val (.ref w_3), .val (.ref w_1), .val (.ref w_4), .val (.int (4 : Int32)), .val (.int (0 : Int32)), .unset] [(.int (0 : Int32))])) _
    refine XS.iloadN X169.here hx rfl (hb hby d2_12) rfl ?_
    show Steps p.tables e below (T169.setTop (mkF m 13 #[.val (.ref w_3), .val (.ref w_1), .val (.ref w_4), .val (.int (4 : Int32)), .val (.int (0 : Int32)), .unset] [(.int (4 : Int32)), (.int (0 : Int32))])) _
    refine XS.icmpNo X169.here hx rfl (hb hby d2_13) rfl (tlt (by decide : ((0 : Int32) < (4 : Int32)))).2.1 ?_
    show Steps p.tables e below (T169.setTop (mkF m 16 #[.val (.ref w_3), .val (.ref w_1), .val (.ref w_4), .val (.int (4 : Int32)), .val (.int (0 : Int32)), .unset] [])) _
    refine XS.aloadN X169.here hx rfl (hb hby d2_16) rfl rfl ?_
    show Steps p.tables e below (T169.setTop (mkF m 17 #[.val (.ref w_3), .val (.ref w_1), .val (.ref w_4), .val (.int (4 : Int32)), .val (.int (0 : Int32)), .unset] [(.ref w_4)])) _
    refine XS.iload X169.here hx rfl (hb hby d2_17) rfl ?_
    show Steps p.tables e below (T169.setTop (mkF m 19 #[.val (.ref w_3), .val (.ref w_1), .val (.ref w_4), .val (.int (4 : Int32)), .val (.int (0 : Int32)), .unset] [(.int (0 : Int32)), (.ref w_4)])) _
    refine X169.aaload hx (j := (0 : Int32)) (v := (.ref w_1)) (by rw [e169]; exact Ar171.1) (State.isArrayOf_alike hZ.alike Ar171.2.1) rfl Ar171.2.2 hin171 hat171 (g := (mkF m 19 #[.val (.ref w_3), .val (.ref w_1), .val (.ref w_4), .val (.int (4 : Int32)), .val (.int (0 : Int32)), .unset] [(.int (0 : Int32)), (.ref w_4)])) rfl rfl (hb hby d2_19) _ ?_
    show Steps p.tables e below (T169.setTop (mkF m 20 #[.val (.ref w_3), .val (.ref w_1), .val (.ref w_4), .val (.int (4 : Int32)), .val (.int (0 : Int32)), .unset] [(.ref w_1)])) _
    refine XS.astore X169.here hx rfl (hb hby d2_20) rfl rfl (l' := #[.val (.ref w_3), .val (.ref w_1), .val (.ref w_4), .val (.int (4 : Int32)), .val (.int (0 : Int32)), .val (.ref w_1)]) rfl ?_
    show Steps p.tables e below (T169.setTop (mkF m 22 #[.val (.ref w_3), .val (.ref w_1), .val (.ref w_4), .val (.int (4 : Int32)), .val (.int (0 : Int32)), .val (.ref w_1)] [])) _
    refine XS.aloadN X169.here hx rfl (hb hby d2_22) rfl rfl ?_
    show Steps p.tables e below (T169.setTop (mkF m 23 #[.val (.ref w_3), .val (.ref w_1), .val (.ref w_4), .val (.int (4 : Int32)), .val (.int (0 : Int32)), .val (.ref w_1)] [(.ref w_1)])) _
    refine XS.aload X169.here hx rfl (hb hby d2_23) rfl rfl ?_
    show Steps p.tables e below (T169.setTop (mkF m 25 #[.val (.ref w_3), .val (.ref w_1), .val (.ref w_4), .val (.int (4 : Int32)), .val (.int (0 : Int32)), .val (.ref w_1)] [(.ref w_1), (.ref w_1)])) _
    refine st172.trans ?_
    show Steps p.tables e below (T172.setTop (mkF m 28 #[.val (.ref w_3), .val (.ref w_1), .val (.ref w_4), .val (.int (4 : Int32)), .val (.int (0 : Int32)), .val (.ref w_1)] [(.int (0 : Int32))])) _
    refine XS.ifYes X172.here hx rfl (pc0 := 28) (pc' := 42) rfl (hb hby d2_28) rfl ((if0 _ _).trans (teq (by decide : ((0 : Int32) = (0 : Int32)))).1) (by decide) (by decide) ?_
    show Steps p.tables e below (T172.setTop (mkF m 42 #[.val (.ref w_3), .val (.ref w_1), .val (.ref w_4), .val (.int (4 : Int32)), .val (.int (0 : Int32)), .val (.ref w_1)] [])) _
    refine XS.iinc X172.here hx rfl (hb hby d2_42) rfl (l' := #[.val (.ref w_3), .val (.ref w_1), .val (.ref w_4), .val (.int (4 : Int32)), .val (.int ((0 : Int32) + (1 : Int32))), .val (.ref w_1)]) rfl ?_
    show Steps p.tables e below (T172.setTop (mkF m 45 #[.val (.ref w_3), .val (.ref w_1), .val (.ref w_4), .val (.int (4 : Int32)), .val (.int ((0 : Int32) + (1 : Int32))), .val (.ref w_1)] [])) _
    refine XS.goto X172.here hx rfl (pc0 := 45) (pc' := 10) rfl (hb hby d2_45) (by decide) (by decide) ?_
    show Steps p.tables e below (T172.setTop (mkF m 10 #[.val (.ref w_3), .val (.ref w_1), .val (.ref w_4), .val (.int (4 : Int32)), .val (.int ((0 : Int32) + (1 : Int32))), .val (.ref w_1)] [])) _
    refine XS.iload X172.here hx rfl (hb hby d2_10) rfl ?_
    show Steps p.tables e below (T172.setTop (mkF m 12 #[.val (.ref w_3), .val (.ref w_1), .val (.ref w_4), .val (.int (4 : Int32)), .val (.int ((0 : Int32) + (1 : Int32))), .val (.ref w_1)] [(.int ((0 : Int32) + (1 : Int32)))])) _
    refine XS.iloadN X172.here hx rfl (hb hby d2_12) rfl ?_
    show Steps p.tables e below (T172.setTop (mkF m 13 #[.val (.ref w_3), .val (.ref w_1), .val (.ref w_4), .val (.int (4 : Int32)), .val (.int ((0 : Int32) + (1 : Int32))), .val (.ref w_1)] [(.int (4 : Int32)), (.int ((0 : Int32) + (1 : Int32)))])) _
    refine XS.icmpNo X172.here hx rfl (hb hby d2_13) rfl (tlt (by decide : (((0 : Int32) + (1 : Int32)) < (4 : Int32)))).2.1 ?_
    show Steps p.tables e below (T172.setTop (mkF m 16 #[.val (.ref w_3), .val (.ref w_1), .val (.ref w_4), .val (.int (4 : Int32)), .val (.int ((0 : Int32) + (1 : Int32))), .val (.ref w_1)] [])) _
    refine XS.aloadN X172.here hx rfl (hb hby d2_16) rfl rfl ?_
    show Steps p.tables e below (T172.setTop (mkF m 17 #[.val (.ref w_3), .val (.ref w_1), .val (.ref w_4), .val (.int (4 : Int32)), .val (.int ((0 : Int32) + (1 : Int32))), .val (.ref w_1)] [(.ref w_4)])) _
    refine XS.iload X172.here hx rfl (hb hby d2_17) rfl ?_
    show Steps p.tables e below (T172.setTop (mkF m 19 #[.val (.ref w_3), .val (.ref w_1), .val (.ref w_4), .val (.int (4 : Int32)), .val (.int ((0 : Int32) + (1 : Int32))), .val (.ref w_1)] [(.int ((0 : Int32) + (1 : Int32))), (.ref w_4)])) _
    refine X172.aaload hx (j := ((0 : Int32) + (1 : Int32))) (v := (.ref w_5)) (by rw [e172]; exact Ar173.1) (State.isArrayOf_alike hZ.alike Ar173.2.1) rfl Ar173.2.2 hin173 hat173 (g := (mkF m 19 #[.val (.ref w_3), .val (.ref w_1), .val (.ref w_4), .val (.int (4 : Int32)), .val (.int ((0 : Int32) + (1 : Int32))), .val (.ref w_1)] [(.int ((0 : Int32) + (1 : Int32))), (.ref w_4)])) rfl rfl (hb hby d2_19) _ ?_
    show Steps p.tables e below (T172.setTop (mkF m 20 #[.val (.ref w_3), .val (.ref w_1), .val (.ref w_4), .val (.int (4 : Int32)), .val (.int ((0 : Int32) + (1 : Int32))), .val (.ref w_1)] [(.ref w_5)])) _
    refine XS.astore X172.here hx rfl (hb hby d2_20) rfl rfl (l' := #[.val (.ref w_3), .val (.ref w_1), .val (.ref w_4), .val (.int (4 : Int32)), .val (.int ((0 : Int32) + (1 : Int32))), .val (.ref w_5)]) rfl ?_
    show Steps p.tables e below (T172.setTop (mkF m 22 #[.val (.ref w_3), .val (.ref w_1), .val (.ref w_4), .val (.int (4 : Int32)), .val (.int ((0 : Int32) + (1 : Int32))), .val (.ref w_5)] [])) _
    refine XS.aloadN X172.here hx rfl (hb hby d2_22) rfl rfl ?_
    show Steps p.tables e below (T172.setTop (mkF m 23 #[.val (.ref w_3), .val (.ref w_1), .val (.ref w_4), .val (.int (4 : Int32)), .val (.int ((0 : Int32) + (1 : Int32))), .val (.ref w_5)] [(.ref w_1)])) _
    refine XS.aload X172.here hx rfl (hb hby d2_23) rfl rfl ?_
    show Steps p.tables e below (T172.setTop (mkF m 25 #[.val (.ref w_3), .val (.ref w_1), .val (.ref w_4), .val (.int (4 : Int32)), .val (.int ((0 : Int32) + (1 : Int32))), .val (.ref w_5)] [(.ref w_5), (.ref w_1)])) _
    refine st174.trans ?_
    show Steps p.tables e below (T174.setTop (mkF m 28 #[.val (.ref w_3), .val (.ref w_1), .val (.ref w_4), .val (.int (4 : Int32)), .val (.int ((0 : Int32) + (1 : Int32))), .val (.ref w_5)] [(.int (1 : Int32))])) _
    refine XS.ifNo X174.here hx rfl (hb hby d2_28) rfl ((if0 _ _).trans (feq (by decide : ¬ ((1 : Int32) = (0 : Int32)))).1) ?_
    show Steps p.tables e below (T174.setTop (mkF m 31 #[.val (.ref w_3), .val (.ref w_1), .val (.ref w_4), .val (.int (4 : Int32)), .val (.int ((0 : Int32) + (1 : Int32))), .val (.ref w_5)] [])) _
    refine XS.aloadN X174.here hx rfl (hb hby d2_31) rfl rfl ?_
    show Steps p.tables e below (T174.setTop (mkF m 32 #[.val (.ref w_3), .val (.ref w_1), .val (.ref w_4), .val (.int (4 : Int32)), .val (.int ((0 : Int32) + (1 : Int32))), .val (.ref w_5)] [(.ref w_3)])) _
    refine XS.aload X174.here hx rfl (hb hby d2_32) rfl rfl ?_
    show Steps p.tables e below (T174.setTop (mkF m 34 #[.val (.ref w_3), .val (.ref w_1), .val (.ref w_4), .val (.int (4 : Int32)), .val (.int ((0 : Int32) + (1 : Int32))), .val (.ref w_5)] [(.ref w_5), (.ref w_3)])) _
    refine st175.trans ?_
    show Steps p.tables e below (T175.setTop (mkF m 37 #[.val (.ref w_3), .val (.ref w_1), .val (.ref w_4), .val (.int (4 : Int32)), .val (.int ((0 : Int32) + (1 : Int32))), .val (.ref w_5)] [(.int (1 : Int32))])) _
    refine XS.ifYes X175.here hx rfl (pc0 := 37) (pc' := 42) rfl (hb hby d2_37) rfl ((if0 _ _).trans (feq (by decide : ¬ ((1 : Int32) = (0 : Int32)))).2) (by decide) (by decide) ?_
    show Steps p.tables e below (T175.setTop (mkF m 42 #[.val (.ref w_3), .val (.ref w_1), .val (.ref w_4), .val (.int (4 : Int32)), .val (.int ((0 : Int32) + (1 : Int32))), .val (.ref w_5)] [])) _
    refine XS.iinc X175.here hx rfl (hb hby d2_42) rfl (l' := #[.val (.ref w_3), .val (.ref w_1), .val (.ref w_4), .val (.int (4 : Int32)), .val (.int (((0 : Int32) + (1 : Int32)) + (1 : Int32))), .val (.ref w_5)]) rfl ?_
    show Steps p.tables e below (T175.setTop (mkF m 45 #[.val (.ref w_3), .val (.ref w_1), .val (.ref w_4), .val (.int (4 : Int32)), .val (.int (((0 : Int32) + (1 : Int32)) + (1 : Int32))), .val (.ref w_5)] [])) _
    refine XS.goto X175.here hx rfl (pc0 := 45) (pc' := 10) rfl (hb hby d2_45) (by decide) (by decide) ?_
    show Steps p.tables e below (T175.setTop (mkF m 10 #[.val (.ref w_3), .val (.ref w_1), .val (.ref w_4), .val (.int (4 : Int32)), .val (.int (((0 : Int32) + (1 : Int32)) + (1 : Int32))), .val (.ref w_5)] [])) _
    refine XS.iload X175.here hx rfl (hb hby d2_10) rfl ?_
    show Steps p.tables e below (T175.setTop (mkF m 12 #[.val (.ref w_3), .val (.ref w_1), .val (.ref w_4), .val (.int (4 : Int32)), .val (.int (((0 : Int32) + (1 : Int32)) + (1 : Int32))), .val (.ref w_5)] [(.int (((0 : Int32) + (1 : Int32)) + (1 : Int32)))])) _
    refine XS.iloadN X175.here hx rfl (hb hby d2_12) rfl ?_
    show Steps p.tables e below (T175.setTop (mkF m 13 #[.val (.ref w_3), .val (.ref w_1), .val (.ref w_4), .val (.int (4 : Int32)), .val (.int (((0 : Int32) + (1 : Int32)) + (1 : Int32))), .val (.ref w_5)] [(.int (4 : Int32)), (.int (((0 : Int32) + (1 : Int32)) + (1 : Int32)))])) _
    refine XS.icmpNo X175.here hx rfl (hb hby d2_13) rfl (tlt (by decide : ((((0 : Int32) + (1 : Int32)) + (1 : Int32)) < (4 : Int32)))).2.1 ?_
    show Steps p.tables e below (T175.setTop (mkF m 16 #[.val (.ref w_3), .val (.ref w_1), .val (.ref w_4), .val (.int (4 : Int32)), .val (.int (((0 : Int32) + (1 : Int32)) + (1 : Int32))), .val (.ref w_5)] [])) _
    refine XS.aloadN X175.here hx rfl (hb hby d2_16) rfl rfl ?_
    show Steps p.tables e below (T175.setTop (mkF m 17 #[.val (.ref w_3), .val (.ref w_1), .val (.ref w_4), .val (.int (4 : Int32)), .val (.int (((0 : Int32) + (1 : Int32)) + (1 : Int32))), .val (.ref w_5)] [(.ref w_4)])) _
    refine XS.iload X175.here hx rfl (hb hby d2_17) rfl ?_
    show Steps p.tables e below (T175.setTop (mkF m 19 #[.val (.ref w_3), .val (.ref w_1), .val (.ref w_4), .val (.int (4 : Int32)), .val (.int (((0 : Int32) + (1 : Int32)) + (1 : Int32))), .val (.ref w_5)] [(.int (((0 : Int32) + (1 : Int32)) + (1 : Int32))), (.ref w_4)])) _
    refine X175.aaload hx (j := (((0 : Int32) + (1 : Int32)) + (1 : Int32))) (v := (.ref w_3)) (by rw [e175]; exact Ar176.1) (State.isArrayOf_alike hZ.alike Ar176.2.1) rfl Ar176.2.2 hin176 hat176 (g := (mkF m 19 #[.val (.ref w_3), .val (.ref w_1), .val (.ref w_4), .val (.int (4 : Int32)), .val (.int (((0 : Int32) + (1 : Int32)) + (1 : Int32))), .val (.ref w_5)] [(.int (((0 : Int32) + (1 : Int32)) + (1 : Int32))), (.ref w_4)])) rfl rfl (hb hby d2_19) _ ?_
    show Steps p.tables e below (T175.setTop (mkF m 20 #[.val (.ref w_3), .val (.ref w_1), .val (.ref w_4), .val (.int (4 : Int32)), .val (.int (((0 : Int32) + (1 : Int32)) + (1 : Int32))), .val (.ref w_5)] [(.ref w_3)])) _
    refine XS.astore X175.here hx rfl (hb hby d2_20) rfl rfl (l' := #[.val (.ref w_3), .val (.ref w_1), .val (.ref w_4), .val (.int (4 : Int32)), .val (.int (((0 : Int32) + (1 : Int32)) + (1 : Int32))), .val (.ref w_3)]) rfl ?_
    show Steps p.tables e below (T175.setTop (mkF m 22 #[.val (.ref w_3), .val (.ref w_1), .val (.ref w_4), .val (.int (4 : Int32)), .val (.int (((0 : Int32) + (1 : Int32)) + (1 : Int32))), .val (.ref w_3)] [])) _
    refine XS.aloadN X175.here hx rfl (hb hby d2_22) rfl rfl ?_
    show Steps p.tables e below (T175.setTop (mkF m 23 #[.val (.ref w_3), .val (.ref w_1), .val (.ref w_4), .val (.int (4 : Int32)), .val (.int (((0 : Int32) + (1 : Int32)) + (1 : Int32))), .val (.ref w_3)] [(.ref w_1)])) _
    refine XS.aload X175.here hx rfl (hb hby d2_23) rfl rfl ?_
    show Steps p.tables e below (T175.setTop (mkF m 25 #[.val (.ref w_3), .val (.ref w_1), .val (.ref w_4), .val (.int (4 : Int32)), .val (.int (((0 : Int32) + (1 : Int32)) + (1 : Int32))), .val (.ref w_3)] [(.ref w_3), (.ref w_1)])) _
    refine st177.trans ?_
    show Steps p.tables e below (T177.setTop (mkF m 28 #[.val (.ref w_3), .val (.ref w_1), .val (.ref w_4), .val (.int (4 : Int32)), .val (.int (((0 : Int32) + (1 : Int32)) + (1 : Int32))), .val (.ref w_3)] [(.int (1 : Int32))])) _
    refine XS.ifNo X177.here hx rfl (hb hby d2_28) rfl ((if0 _ _).trans (feq (by decide : ¬ ((1 : Int32) = (0 : Int32)))).1) ?_
    show Steps p.tables e below (T177.setTop (mkF m 31 #[.val (.ref w_3), .val (.ref w_1), .val (.ref w_4), .val (.int (4 : Int32)), .val (.int (((0 : Int32) + (1 : Int32)) + (1 : Int32))), .val (.ref w_3)] [])) _
    refine XS.aloadN X177.here hx rfl (hb hby d2_31) rfl rfl ?_
    show Steps p.tables e below (T177.setTop (mkF m 32 #[.val (.ref w_3), .val (.ref w_1), .val (.ref w_4), .val (.int (4 : Int32)), .val (.int (((0 : Int32) + (1 : Int32)) + (1 : Int32))), .val (.ref w_3)] [(.ref w_3)])) _
    refine XS.aload X177.here hx rfl (hb hby d2_32) rfl rfl ?_
    show Steps p.tables e below (T177.setTop (mkF m 34 #[.val (.ref w_3), .val (.ref w_1), .val (.ref w_4), .val (.int (4 : Int32)), .val (.int (((0 : Int32) + (1 : Int32)) + (1 : Int32))), .val (.ref w_3)] [(.ref w_3), (.ref w_3)])) _
    refine st178.trans ?_
    show Steps p.tables e below (T178.setTop (mkF m 37 #[.val (.ref w_3), .val (.ref w_1), .val (.ref w_4), .val (.int (4 : Int32)), .val (.int (((0 : Int32) + (1 : Int32)) + (1 : Int32))), .val (.ref w_3)] [(.int (1 : Int32))])) _
    refine XS.ifYes X178.here hx rfl (pc0 := 37) (pc' := 42) rfl (hb hby d2_37) rfl ((if0 _ _).trans (feq (by decide : ¬ ((1 : Int32) = (0 : Int32)))).2) (by decide) (by decide) ?_
    show Steps p.tables e below (T178.setTop (mkF m 42 #[.val (.ref w_3), .val (.ref w_1), .val (.ref w_4), .val (.int (4 : Int32)), .val (.int (((0 : Int32) + (1 : Int32)) + (1 : Int32))), .val (.ref w_3)] [])) _
    refine XS.iinc X178.here hx rfl (hb hby d2_42) rfl (l' := #[.val (.ref w_3), .val (.ref w_1), .val (.ref w_4), .val (.int (4 : Int32)), .val (.int ((((0 : Int32) + (1 : Int32)) + (1 : Int32)) + (1 : Int32))), .val (.ref w_3)]) rfl ?_
    show Steps p.tables e below (T178.setTop (mkF m 45 #[.val (.ref w_3), .val (.ref w_1), .val (.ref w_4), .val (.int (4 : Int32)), .val (.int ((((0 : Int32) + (1 : Int32)) + (1 : Int32)) + (1 : Int32))), .val (.ref w_3)] [])) _
    refine XS.goto X178.here hx rfl (pc0 := 45) (pc' := 10) rfl (hb hby d2_45) (by decide) (by decide) ?_
    show Steps p.tables e below (T178.setTop (mkF m 10 #[.val (.ref w_3), .val (.ref w_1), .val (.ref w_4), .val (.int (4 : Int32)), .val (.int ((((0 : Int32) + (1 : Int32)) + (1 : Int32)) + (1 : Int32))), .val (.ref w_3)] [])) _
    refine XS.iload X178.here hx rfl (hb hby d2_10) rfl ?_
    show Steps p.tables e below (T178.setTop (mkF m 12 #[.val (.ref w_3), .val (.ref w_1), .val (.ref w_4), .val (.int (4 : Int32)), .val (.int ((((0 : Int32) + (1 : Int32)) + (1 : Int32)) + (1 : Int32))), .val (.ref w_3)] [(.int ((((0 : Int32) + (1 : Int32)) + (1 : Int32)) + (1 : Int32)))])) _
    refine XS.iloadN X178.here hx rfl (hb hby d2_12) rfl ?_
    show Steps p.tables e below (T178.setTop (mkF m 13 #[.val (.ref w_3), .val (.ref w_1), .val (.ref w_4), .val (.int (4 : Int32)), .val (.int ((((0 : Int32) + (1 : Int32)) + (1 : Int32)) + (1 : Int32))), .val (.ref w_3)] [(.int (4 : Int32)), (.int ((((0 : Int32) + (1 : Int32)) + (1 : Int32)) + (1 : Int32)))])) _
    refine XS.icmpNo X178.here hx rfl (hb hby d2_13) rfl (tlt (by decide : (((((0 : Int32) + (1 : Int32)) + (1 : Int32)) + (1 : Int32)) < (4 : Int32)))).2.1 ?_
    show Steps p.tables e below (T178.setTop (mkF m 16 #[.val (.ref w_3), .val (.ref w_1), .val (.ref w_4), .val (.int (4 : Int32)), .val (.int ((((0 : Int32) + (1 : Int32)) + (1 : Int32)) + (1 : Int32))), .val (.ref w_3)] [])) _
    refine XS.aloadN X178.here hx rfl (hb hby d2_16) rfl rfl ?_
    show Steps p.tables e below (T178.setTop (mkF m 17 #[.val (.ref w_3), .val (.ref w_1), .val (.ref w_4), .val (.int (4 : Int32)), .val (.int ((((0 : Int32) + (1 : Int32)) + (1 : Int32)) + (1 : Int32))), .val (.ref w_3)] [(.ref w_4)])) _
    refine XS.iload X178.here hx rfl (hb hby d2_17) rfl ?_
    show Steps p.tables e below (T178.setTop (mkF m 19 #[.val (.ref w_3), .val (.ref w_1), .val (.ref w_4), .val (.int (4 : Int32)), .val (.int ((((0 : Int32) + (1 : Int32)) + (1 : Int32)) + (1 : Int32))), .val (.ref w_3)] [(.int ((((0 : Int32) + (1 : Int32)) + (1 : Int32)) + (1 : Int32))), (.ref w_4)])) _
    refine X178.aaload hx (j := ((((0 : Int32) + (1 : Int32)) + (1 : Int32)) + (1 : Int32))) (v := (.ref w_2)) (by rw [e178]; exact Ar179.1) (State.isArrayOf_alike hZ.alike Ar179.2.1) rfl Ar179.2.2 hin179 hat179 (g := (mkF m 19 #[.val (.ref w_3), .val (.ref w_1), .val (.ref w_4), .val (.int (4 : Int32)), .val (.int ((((0 : Int32) + (1 : Int32)) + (1 : Int32)) + (1 : Int32))), .val (.ref w_3)] [(.int ((((0 : Int32) + (1 : Int32)) + (1 : Int32)) + (1 : Int32))), (.ref w_4)])) rfl rfl (hb hby d2_19) _ ?_
    show Steps p.tables e below (T178.setTop (mkF m 20 #[.val (.ref w_3), .val (.ref w_1), .val (.ref w_4), .val (.int (4 : Int32)), .val (.int ((((0 : Int32) + (1 : Int32)) + (1 : Int32)) + (1 : Int32))), .val (.ref w_3)] [(.ref w_2)])) _
    refine XS.astore X178.here hx rfl (hb hby d2_20) rfl rfl (l' := #[.val (.ref w_3), .val (.ref w_1), .val (.ref w_4), .val (.int (4 : Int32)), .val (.int ((((0 : Int32) + (1 : Int32)) + (1 : Int32)) + (1 : Int32))), .val (.ref w_2)]) rfl ?_
    show Steps p.tables e below (T178.setTop (mkF m 22 #[.val (.ref w_3), .val (.ref w_1), .val (.ref w_4), .val (.int (4 : Int32)), .val (.int ((((0 : Int32) + (1 : Int32)) + (1 : Int32)) + (1 : Int32))), .val (.ref w_2)] [])) _
    refine XS.aloadN X178.here hx rfl (hb hby d2_22) rfl rfl ?_
    show Steps p.tables e below (T178.setTop (mkF m 23 #[.val (.ref w_3), .val (.ref w_1), .val (.ref w_4), .val (.int (4 : Int32)), .val (.int ((((0 : Int32) + (1 : Int32)) + (1 : Int32)) + (1 : Int32))), .val (.ref w_2)] [(.ref w_1)])) _
    refine XS.aload X178.here hx rfl (hb hby d2_23) rfl rfl ?_
    show Steps p.tables e below (T178.setTop (mkF m 25 #[.val (.ref w_3), .val (.ref w_1), .val (.ref w_4), .val (.int (4 : Int32)), .val (.int ((((0 : Int32) + (1 : Int32)) + (1 : Int32)) + (1 : Int32))), .val (.ref w_2)] [(.ref w_2), (.ref w_1)])) _
    refine st180.trans ?_
    show Steps p.tables e below (T180.setTop (mkF m 28 #[.val (.ref w_3), .val (.ref w_1), .val (.ref w_4), .val (.int (4 : Int32)), .val (.int ((((0 : Int32) + (1 : Int32)) + (1 : Int32)) + (1 : Int32))), .val (.ref w_2)] [(.int (1 : Int32))])) _
    refine XS.ifNo X180.here hx rfl (hb hby d2_28) rfl ((if0 _ _).trans (feq (by decide : ¬ ((1 : Int32) = (0 : Int32)))).1) ?_
    show Steps p.tables e below (T180.setTop (mkF m 31 #[.val (.ref w_3), .val (.ref w_1), .val (.ref w_4), .val (.int (4 : Int32)), .val (.int ((((0 : Int32) + (1 : Int32)) + (1 : Int32)) + (1 : Int32))), .val (.ref w_2)] [])) _
    refine XS.aloadN X180.here hx rfl (hb hby d2_31) rfl rfl ?_
    show Steps p.tables e below (T180.setTop (mkF m 32 #[.val (.ref w_3), .val (.ref w_1), .val (.ref w_4), .val (.int (4 : Int32)), .val (.int ((((0 : Int32) + (1 : Int32)) + (1 : Int32)) + (1 : Int32))), .val (.ref w_2)] [(.ref w_3)])) _
    refine XS.aload X180.here hx rfl (hb hby d2_32) rfl rfl ?_
    show Steps p.tables e below (T180.setTop (mkF m 34 #[.val (.ref w_3), .val (.ref w_1), .val (.ref w_4), .val (.int (4 : Int32)), .val (.int ((((0 : Int32) + (1 : Int32)) + (1 : Int32)) + (1 : Int32))), .val (.ref w_2)] [(.ref w_2), (.ref w_3)])) _
    refine st181.trans ?_
    show Steps p.tables e below (T181.setTop (mkF m 37 #[.val (.ref w_3), .val (.ref w_1), .val (.ref w_4), .val (.int (4 : Int32)), .val (.int ((((0 : Int32) + (1 : Int32)) + (1 : Int32)) + (1 : Int32))), .val (.ref w_2)] [(.int (1 : Int32))])) _
    refine XS.ifYes X181.here hx rfl (pc0 := 37) (pc' := 42) rfl (hb hby d2_37) rfl ((if0 _ _).trans (feq (by decide : ¬ ((1 : Int32) = (0 : Int32)))).2) (by decide) (by decide) ?_
    show Steps p.tables e below (T181.setTop (mkF m 42 #[.val (.ref w_3), .val (.ref w_1), .val (.ref w_4), .val (.int (4 : Int32)), .val (.int ((((0 : Int32) + (1 : Int32)) + (1 : Int32)) + (1 : Int32))), .val (.ref w_2)] [])) _
    refine XS.iinc X181.here hx rfl (hb hby d2_42) rfl (l' := #[.val (.ref w_3), .val (.ref w_1), .val (.ref w_4), .val (.int (4 : Int32)), .val (.int (((((0 : Int32) + (1 : Int32)) + (1 : Int32)) + (1 : Int32)) + (1 : Int32))), .val (.ref w_2)]) rfl ?_
    show Steps p.tables e below (T181.setTop (mkF m 45 #[.val (.ref w_3), .val (.ref w_1), .val (.ref w_4), .val (.int (4 : Int32)), .val (.int (((((0 : Int32) + (1 : Int32)) + (1 : Int32)) + (1 : Int32)) + (1 : Int32))), .val (.ref w_2)] [])) _
    refine XS.goto X181.here hx rfl (pc0 := 45) (pc' := 10) rfl (hb hby d2_45) (by decide) (by decide) ?_
    show Steps p.tables e below (T181.setTop (mkF m 10 #[.val (.ref w_3), .val (.ref w_1), .val (.ref w_4), .val (.int (4 : Int32)), .val (.int (((((0 : Int32) + (1 : Int32)) + (1 : Int32)) + (1 : Int32)) + (1 : Int32))), .val (.ref w_2)] [])) _
    refine XS.iload X181.here hx rfl (hb hby d2_10) rfl ?_
    show Steps p.tables e below (T181.setTop (mkF m 12 #[.val (.ref w_3), .val (.ref w_1), .val (.ref w_4), .val (.int (4 : Int32)), .val (.int (((((0 : Int32) + (1 : Int32)) + (1 : Int32)) + (1 : Int32)) + (1 : Int32))), .val (.ref w_2)] [(.int (((((0 : Int32) + (1 : Int32)) + (1 : Int32)) + (1 : Int32)) + (1 : Int32)))])) _
    refine XS.iloadN X181.here hx rfl (hb hby d2_12) rfl ?_
    show Steps p.tables e below (T181.setTop (mkF m 13 #[.val (.ref w_3), .val (.ref w_1), .val (.ref w_4), .val (.int (4 : Int32)), .val (.int (((((0 : Int32) + (1 : Int32)) + (1 : Int32)) + (1 : Int32)) + (1 : Int32))), .val (.ref w_2)] [(.int (4 : Int32)), (.int (((((0 : Int32) + (1 : Int32)) + (1 : Int32)) + (1 : Int32)) + (1 : Int32)))])) _
    refine XS.icmpYes X181.here hx rfl (pc0 := 13) (pc' := 48) rfl (hb hby d2_13) rfl (flt (by decide : ¬ ((((((0 : Int32) + (1 : Int32)) + (1 : Int32)) + (1 : Int32)) + (1 : Int32)) < (4 : Int32)))).2.1 (by decide) (by decide) ?_
    show Steps p.tables e below (T181.setTop (mkF m 48 #[.val (.ref w_3), .val (.ref w_1), .val (.ref w_4), .val (.int (4 : Int32)), .val (.int (((((0 : Int32) + (1 : Int32)) + (1 : Int32)) + (1 : Int32)) + (1 : Int32))), .val (.ref w_2)] [])) _
    refine XS.iconst X181.here hx rfl (hb hby d2_48) ?_
    show Steps p.tables e below (T181.setTop (mkF m 49 #[.val (.ref w_3), .val (.ref w_1), .val (.ref w_4), .val (.int (4 : Int32)), .val (.int (((((0 : Int32) + (1 : Int32)) + (1 : Int32)) + (1 : Int32)) + (1 : Int32))), .val (.ref w_2)] [(.int (1 : Int32))])) _
    exact retN X181 hx (t := .boolean) Bd.returns (by simp) (hb hby d2_49) hr
  · show Q2x9 Z w_1 w_2 w_3 w_4 w_5 k_4 h0 n0 _ T181.heap _
    rw [e181]
    exact ⟨by unfold sp2x9; rfl, N181, rfl⟩
theorem pn_2x10 : plainName "com/example/lucid_locks/lucidlocks/locks/LockMode" = true := by first | (simp [plainName, overriddenIn]; done) | decide +kernel
theorem ef_2x10 (m : MethodId) (w_3 : Addr) (w_5 : Addr) : entryFrame m #[(.ref w_3), (.ref w_5)] 6 = mkF m 0 #[.val (.ref w_3), .val (.ref w_5), .unset, .unset, .unset, .unset] [] := by first | (simp [entryFrame, mkF, argsToLocals, Value.category]; done) | rfl
def sp2x10  : Int32 := (1 : Int32)
def Q2x10 (Z : State) (w_1 : Addr) (w_2 : Addr) (w_3 : Addr) (w_4 : Addr) (w_5 : Addr) (k_4 : ClassId) (h0 : Heap) (n0 : Nat) (v : Option Value) (h : Heap) (L : List Loc) : Prop := v = some (.int (sp2x10)) ∧ Fr n0 L ∧ h = h0
set_option maxRecDepth 65536 in
set_option maxHeartbeats 40000000 in
theorem rm2x10 (l : Launch) (Z : State) (a0 : Array Value) (hw : ∀ d ∈ tables_1, d.before a0 Z = true) (ws : List Jvm.Cond) (w_1 : Addr) (w_2 : Addr) (w_3 : Addr) (w_4 : Addr) (w_5 : Addr) (k_4 : ClassId) (hS : StF Z w_1 w_2 w_3 w_4 w_5 k_4) (h0 : Heap) (n0 : Nat) (O0 : Old Z n0 h0) :
    MetFree l Y2 (head1 (Jvm.Cond.code Y2 prog_17_method_7_code 6 (some .boolean) :: ws) ({ frames := 1, cells := 0, slots := 0, locals := 13 } : Room)) (fun a U => a = #[(.ref w_3), (.ref w_5)] ∧ Z.Warmed39 U.vm ∧ U.heap = h0) (fun _ _ _ _ _ => True) (fun _ U o U' => ∃ v L, o = .returned v ∧ Q2x10 Z w_1 w_2 w_3 w_4 w_5 k_4 h0 n0 v U'.heap L ∧ FrameEnd U o U' L ({ frames := 1, cells := 0, slots := 0, locals := 13 } : Room).cells ({ frames := 1, cells := 0, slots := 0, locals := 13 } : Room).slots) := by
  refine MetFree.of_bodySF (plainFor_of_name pn_2x10) hisR ?_
  intro p e s m args below meth c s₁ Bd hml0 hP hK
  obtain ⟨rfl, hZ, hh⟩ := hP
  have hx := Bd.exec
  have hby := Bd.bytes
  have hml : c.maxLocals = 6 := hml0
  have hown : s.vm.findClass "com/example/lucid_locks/lucidlocks/locks/LockMode" = some m.cls := findClass_of_methodNamed Bd.named
  have hnm := (name_of_methodNamed Bd.named Bd.method).1
  have X0 : Stand p l e ({ frames := 1, cells := 0, slots := 0, locals := 13 } : Room) s m #[(.ref w_3), (.ref w_5)] below meth c s₁ [] 0 0 := Stand.of_body Bd
  have e0 : s₁.heap = h0 := by rw [← hh, Bd.state]; rfl
  have N0 := Fr.nil n0
  have hS0 := hS
  obtain ⟨S_1, E_1, S_2, E_2, S_3, E_3, S_4, S_5, E_5, F_1_ordinal, F_3_ordinal, F_2_ordinal, F_1_sharedWithItself, F_5_ordinal, F_5_sharedWithItself, F_3_sharedWithItself, F_2_sharedWithItself, V_4⟩ := hS
  have pre0 : ∀ t, Steps p.tables e below (s₁.setTop (mkF m 0 #[.val (.ref w_3), .val (.ref w_5), .unset, .unset, .unset, .unset] [])) t → Steps p.tables e below (s₁.setTop (entryFrame m #[(.ref w_3), (.ref w_5)] 6)) t := fun t k => castTop (ef_2x10 m w_3 w_5) k
  obtain ⟨T187, X187, e187, st187⟩ := getS2 X0 hx hZ hown (host := "") (Or.inl (hw _ (tk 16 rfl))) Via.refl e0 (S_4.ext O0.2) (g := (mkF m 0 #[.val (.ref w_3), .val (.ref w_5), .unset, .unset, .unset, .unset] [])) rfl (hb hby d2_0)
  obtain ⟨cl188, Ar188, qa188, Sa188, Ma188, Ha188, Ga188⟩ := id (V_4.ext O0.2)
  obtain ⟨cl189, Ar189, qa189, Sa189, Ma189, Ha189, Ga189⟩ := id (V_4.ext O0.2)
  have hin189 : ¬ ((0 : Int32) < 0 ∨ cl189.slots.size ≤ ((0 : Int32)).toNatClampNeg) := by  exact inb_of Sa189 ⟨by decide, by decide⟩
  have hat189 : cl189.slots[((0 : Int32)).toNatClampNeg]? = some (.ref w_1) := Has.at Ha189 hin189 (by rfl)
  obtain ⟨cq190, kq190, q190a, q190b, q190c⟩ := isOf hZ e187 (E_5.ext O0.2)
  obtain ⟨_, _, ⟨T190, L190, k190, n190⟩, -, X190, ⟨Lc190, hQ190, l190, y190, z190⟩, st190⟩ := X187.virtualBack hx (y := Y1) (z := Y1) hown (mvT hZ (hw _ (tk 18 rfl))) (mvT hZ (hw _ (tk 19 rfl))) (notFace_of_selects (args := #[]) (mvT hZ (hw _ (tk 21 rfl)))) (mvT hZ (hw _ (tk 21 rfl))) (mvT hZ (hw _ (tk 20 rfl))) (by decide) (backOf (W := 0) (rm3 l Z a0 hw [] w_1 w_2 w_3 w_4 w_5 k_4 hS0 w_5 w_1 (1 : Int32) h0 n0 O0 (F_5_sharedWithItself.ext O0.2)) hZ (hw _ (tk 22 rfl)) (hw _ (tk 5 rfl)) (by decide) (by decide)) q190a q190c (g := (mkF m 25 #[.val (.ref w_3), .val (.ref w_5), .val (.ref w_4), .val (.int (4 : Int32)), .val (.int (0 : Int32)), .val (.ref w_1)] [(.ref w_1), (.ref w_5)])) rfl (by rw [hml]; rfl) (Steps.refl _) (argsL := [(.ref w_1)]) (rest := []) (lenOf pd_1 rfl) rfl (by show 2 * 0 + _ ≤ _; exact Nat.le_of_eq rfl) (hb hby d2_25) (fun _ _ => ⟨rfl, e187, (by decide : 0 + 0 ≤ _), (by decide : 0 + 0 ≤ _)⟩)
  dsimp only [Pt.U, Pt.locs, Pt.cells, Pt.slots] at X190 l190 y190 z190 st190 hQ190
  subst l190 y190 z190
  obtain ⟨rv190, N190q, e190⟩ := hQ190
  rw [show sp3 w_5 w_1 (1 : Int32) = (1 : Int32) from by unfold sp3; rw [if_neg (Fld.ne F_5_ordinal F_1_ordinal (by decide))]] at rv190
  subst rv190
  have N190 := Fr.app N0 N190q
  obtain ⟨cq191, kq191, q191a, q191b, q191c⟩ := isOf hZ e190 (E_3.ext O0.2)
  obtain ⟨_, _, ⟨T191, L191, k191, n191⟩, -, X191, ⟨Lc191, hQ191, l191, y191, z191⟩, st191⟩ := X190.virtualBack hx (y := Y1) (z := Y1) hown (mvT hZ (hw _ (tk 18 rfl))) (mvT hZ (hw _ (tk 19 rfl))) (notFace_of_selects (args := #[]) (mvT hZ (hw _ (tk 21 rfl)))) (mvT hZ (hw _ (tk 21 rfl))) (mvT hZ (hw _ (tk 20 rfl))) (by decide) (backOf (W := 0) (rm3 l Z a0 hw [] w_1 w_2 w_3 w_4 w_5 k_4 hS0 w_3 w_1 (0 : Int32) h0 n0 O0 (F_3_sharedWithItself.ext O0.2)) hZ (hw _ (tk 22 rfl)) (hw _ (tk 5 rfl)) (by decide) (by decide)) q191a q191c (g := (mkF m 34 #[.val (.ref w_3), .val (.ref w_5), .val (.ref w_4), .val (.int (4 : Int32)), .val (.int (0 : Int32)), .val (.ref w_1)] [(.ref w_1), (.ref w_3)])) rfl (by rw [hml]; rfl) (Steps.refl _) (argsL := [(.ref w_1)]) (rest := []) (lenOf pd_1 rfl) rfl (by show 2 * 0 + _ ≤ _; exact Nat.le_of_eq rfl) (hb hby d2_34) (fun _ _ => ⟨rfl, e190, (by decide : 0 + 0 ≤ _), (by decide : 0 + 0 ≤ _)⟩)
  dsimp only [Pt.U, Pt.locs, Pt.cells, Pt.slots] at X191 l191 y191 z191 st191 hQ191
  subst l191 y191 z191
  obtain ⟨rv191, N191q, e191⟩ := hQ191
  rw [show sp3 w_3 w_1 (0 : Int32) = (1 : Int32) from by unfold sp3; rw [if_neg (Fld.ne F_3_ordinal F_1_ordinal (by decide))]] at rv191
  subst rv191
  have N191 := Fr.app N190 N191q
  obtain ⟨cl192, Ar192, qa192, Sa192, Ma192, Ha192, Ga192⟩ := id (V_4.ext O0.2)
  have hin192 : ¬ (((0 : Int32) + (1 : Int32)) < 0 ∨ cl192.slots.size ≤ (((0 : Int32) + (1 : Int32))).toNatClampNeg) := by  exact inb_of Sa192 ⟨by decide, by decide⟩
  have hat192 : cl192.slots[(((0 : Int32) + (1 : Int32))).toNatClampNeg]? = some (.ref w_5) := Has.at Ha192 hin192 (by rfl)
  obtain ⟨cq193, kq193, q193a, q193b, q193c⟩ := isOf hZ e191 (E_5.ext O0.2)
  obtain ⟨_, _, ⟨T193, L193, k193, n193⟩, -, X193, ⟨Lc193, hQ193, l193, y193, z193⟩, st193⟩ := X191.virtualBack hx (y := Y1) (z := Y1) hown (mvT hZ (hw _ (tk 18 rfl))) (mvT hZ (hw _ (tk 19 rfl))) (notFace_of_selects (args := #[]) (mvT hZ (hw _ (tk 21 rfl)))) (mvT hZ (hw _ (tk 21 rfl))) (mvT hZ (hw _ (tk 20 rfl))) (by decide) (backOf (W := 0) (rm3 l Z a0 hw [] w_1 w_2 w_3 w_4 w_5 k_4 hS0 w_5 w_5 (1 : Int32) h0 n0 O0 (F_5_sharedWithItself.ext O0.2)) hZ (hw _ (tk 22 rfl)) (hw _ (tk 5 rfl)) (by decide) (by decide)) q193a q193c (g := (mkF m 25 #[.val (.ref w_3), .val (.ref w_5), .val (.ref w_4), .val (.int (4 : Int32)), .val (.int ((0 : Int32) + (1 : Int32))), .val (.ref w_5)] [(.ref w_5), (.ref w_5)])) rfl (by rw [hml]; rfl) (Steps.refl _) (argsL := [(.ref w_5)]) (rest := []) (lenOf pd_1 rfl) rfl (by show 2 * 0 + _ ≤ _; exact Nat.le_of_eq rfl) (hb hby d2_25) (fun _ _ => ⟨rfl, e191, (by decide : 0 + 0 ≤ _), (by decide : 0 + 0 ≤ _)⟩)
  dsimp only [Pt.U, Pt.locs, Pt.cells, Pt.slots] at X193 l193 y193 z193 st193 hQ193
  subst l193 y193 z193
  obtain ⟨rv193, N193q, e193⟩ := hQ193
  rw [show sp3 w_5 w_5 (1 : Int32) = (0 : Int32) from by unfold sp3; rw [if_pos rfl, if_neg (by decide : ¬ ((1 : Int32) = (0 : Int32)))]] at rv193
  subst rv193
  have N193 := Fr.app N191 N193q
  obtain ⟨cl194, Ar194, qa194, Sa194, Ma194, Ha194, Ga194⟩ := id (V_4.ext O0.2)
  have hin194 : ¬ ((((0 : Int32) + (1 : Int32)) + (1 : Int32)) < 0 ∨ cl194.slots.size ≤ ((((0 : Int32) + (1 : Int32)) + (1 : Int32))).toNatClampNeg) := by  exact inb_of Sa194 ⟨by decide, by decide⟩
  have hat194 : cl194.slots[((((0 : Int32) + (1 : Int32)) + (1 : Int32))).toNatClampNeg]? = some (.ref w_3) := Has.at Ha194 hin194 (by rfl)
  obtain ⟨cq195, kq195, q195a, q195b, q195c⟩ := isOf hZ e193 (E_5.ext O0.2)
  obtain ⟨_, _, ⟨T195, L195, k195, n195⟩, -, X195, ⟨Lc195, hQ195, l195, y195, z195⟩, st195⟩ := X193.virtualBack hx (y := Y1) (z := Y1) hown (mvT hZ (hw _ (tk 18 rfl))) (mvT hZ (hw _ (tk 19 rfl))) (notFace_of_selects (args := #[]) (mvT hZ (hw _ (tk 21 rfl)))) (mvT hZ (hw _ (tk 21 rfl))) (mvT hZ (hw _ (tk 20 rfl))) (by decide) (backOf (W := 0) (rm3 l Z a0 hw [] w_1 w_2 w_3 w_4 w_5 k_4 hS0 w_5 w_3 (1 : Int32) h0 n0 O0 (F_5_sharedWithItself.ext O0.2)) hZ (hw _ (tk 22 rfl)) (hw _ (tk 5 rfl)) (by decide) (by decide)) q195a q195c (g := (mkF m 25 #[.val (.ref w_3), .val (.ref w_5), .val (.ref w_4), .val (.int (4 : Int32)), .val (.int (((0 : Int32) + (1 : Int32)) + (1 : Int32))), .val (.ref w_3)] [(.ref w_3), (.ref w_5)])) rfl (by rw [hml]; rfl) (Steps.refl _) (argsL := [(.ref w_3)]) (rest := []) (lenOf pd_1 rfl) rfl (by show 2 * 0 + _ ≤ _; exact Nat.le_of_eq rfl) (hb hby d2_25) (fun _ _ => ⟨rfl, e193, (by decide : 0 + 0 ≤ _), (by decide : 0 + 0 ≤ _)⟩)
  dsimp only [Pt.U, Pt.locs, Pt.cells, Pt.slots] at X195 l195 y195 z195 st195 hQ195
  subst l195 y195 z195
  obtain ⟨rv195, N195q, e195⟩ := hQ195
  rw [show sp3 w_5 w_3 (1 : Int32) = (1 : Int32) from by unfold sp3; rw [if_neg (Fld.ne F_5_ordinal F_3_ordinal (by decide))]] at rv195
  subst rv195
  have N195 := Fr.app N193 N195q
  obtain ⟨cq196, kq196, q196a, q196b, q196c⟩ := isOf hZ e195 (E_3.ext O0.2)
  obtain ⟨_, _, ⟨T196, L196, k196, n196⟩, -, X196, ⟨Lc196, hQ196, l196, y196, z196⟩, st196⟩ := X195.virtualBack hx (y := Y1) (z := Y1) hown (mvT hZ (hw _ (tk 18 rfl))) (mvT hZ (hw _ (tk 19 rfl))) (notFace_of_selects (args := #[]) (mvT hZ (hw _ (tk 21 rfl)))) (mvT hZ (hw _ (tk 21 rfl))) (mvT hZ (hw _ (tk 20 rfl))) (by decide) (backOf (W := 0) (rm3 l Z a0 hw [] w_1 w_2 w_3 w_4 w_5 k_4 hS0 w_3 w_3 (0 : Int32) h0 n0 O0 (F_3_sharedWithItself.ext O0.2)) hZ (hw _ (tk 22 rfl)) (hw _ (tk 5 rfl)) (by decide) (by decide)) q196a q196c (g := (mkF m 34 #[.val (.ref w_3), .val (.ref w_5), .val (.ref w_4), .val (.int (4 : Int32)), .val (.int (((0 : Int32) + (1 : Int32)) + (1 : Int32))), .val (.ref w_3)] [(.ref w_3), (.ref w_3)])) rfl (by rw [hml]; rfl) (Steps.refl _) (argsL := [(.ref w_3)]) (rest := []) (lenOf pd_1 rfl) rfl (by show 2 * 0 + _ ≤ _; exact Nat.le_of_eq rfl) (hb hby d2_34) (fun _ _ => ⟨rfl, e195, (by decide : 0 + 0 ≤ _), (by decide : 0 + 0 ≤ _)⟩)
  dsimp only [Pt.U, Pt.locs, Pt.cells, Pt.slots] at X196 l196 y196 z196 st196 hQ196
  subst l196 y196 z196
  obtain ⟨rv196, N196q, e196⟩ := hQ196
  rw [show sp3 w_3 w_3 (0 : Int32) = (1 : Int32) from by unfold sp3; rw [if_pos rfl, if_pos (by decide : ((0 : Int32) = (0 : Int32)))]] at rv196
  subst rv196
  have N196 := Fr.app N195 N196q
  obtain ⟨cl197, Ar197, qa197, Sa197, Ma197, Ha197, Ga197⟩ := id (V_4.ext O0.2)
  have hin197 : ¬ (((((0 : Int32) + (1 : Int32)) + (1 : Int32)) + (1 : Int32)) < 0 ∨ cl197.slots.size ≤ (((((0 : Int32) + (1 : Int32)) + (1 : Int32)) + (1 : Int32))).toNatClampNeg) := by  exact inb_of Sa197 ⟨by decide, by decide⟩
  have hat197 : cl197.slots[(((((0 : Int32) + (1 : Int32)) + (1 : Int32)) + (1 : Int32))).toNatClampNeg]? = some (.ref w_2) := Has.at Ha197 hin197 (by rfl)
  obtain ⟨cq198, kq198, q198a, q198b, q198c⟩ := isOf hZ e196 (E_5.ext O0.2)
  obtain ⟨_, _, ⟨T198, L198, k198, n198⟩, -, X198, ⟨Lc198, hQ198, l198, y198, z198⟩, st198⟩ := X196.virtualBack hx (y := Y1) (z := Y1) hown (mvT hZ (hw _ (tk 18 rfl))) (mvT hZ (hw _ (tk 19 rfl))) (notFace_of_selects (args := #[]) (mvT hZ (hw _ (tk 21 rfl)))) (mvT hZ (hw _ (tk 21 rfl))) (mvT hZ (hw _ (tk 20 rfl))) (by decide) (backOf (W := 0) (rm3 l Z a0 hw [] w_1 w_2 w_3 w_4 w_5 k_4 hS0 w_5 w_2 (1 : Int32) h0 n0 O0 (F_5_sharedWithItself.ext O0.2)) hZ (hw _ (tk 22 rfl)) (hw _ (tk 5 rfl)) (by decide) (by decide)) q198a q198c (g := (mkF m 25 #[.val (.ref w_3), .val (.ref w_5), .val (.ref w_4), .val (.int (4 : Int32)), .val (.int ((((0 : Int32) + (1 : Int32)) + (1 : Int32)) + (1 : Int32))), .val (.ref w_2)] [(.ref w_2), (.ref w_5)])) rfl (by rw [hml]; rfl) (Steps.refl _) (argsL := [(.ref w_2)]) (rest := []) (lenOf pd_1 rfl) rfl (by show 2 * 0 + _ ≤ _; exact Nat.le_of_eq rfl) (hb hby d2_25) (fun _ _ => ⟨rfl, e196, (by decide : 0 + 0 ≤ _), (by decide : 0 + 0 ≤ _)⟩)
  dsimp only [Pt.U, Pt.locs, Pt.cells, Pt.slots] at X198 l198 y198 z198 st198 hQ198
  subst l198 y198 z198
  obtain ⟨rv198, N198q, e198⟩ := hQ198
  rw [show sp3 w_5 w_2 (1 : Int32) = (1 : Int32) from by unfold sp3; rw [if_neg (Fld.ne F_5_ordinal F_2_ordinal (by decide))]] at rv198
  subst rv198
  have N198 := Fr.app N196 N198q
  obtain ⟨cq199, kq199, q199a, q199b, q199c⟩ := isOf hZ e198 (E_3.ext O0.2)
  obtain ⟨_, _, ⟨T199, L199, k199, n199⟩, -, X199, ⟨Lc199, hQ199, l199, y199, z199⟩, st199⟩ := X198.virtualBack hx (y := Y1) (z := Y1) hown (mvT hZ (hw _ (tk 18 rfl))) (mvT hZ (hw _ (tk 19 rfl))) (notFace_of_selects (args := #[]) (mvT hZ (hw _ (tk 21 rfl)))) (mvT hZ (hw _ (tk 21 rfl))) (mvT hZ (hw _ (tk 20 rfl))) (by decide) (backOf (W := 0) (rm3 l Z a0 hw [] w_1 w_2 w_3 w_4 w_5 k_4 hS0 w_3 w_2 (0 : Int32) h0 n0 O0 (F_3_sharedWithItself.ext O0.2)) hZ (hw _ (tk 22 rfl)) (hw _ (tk 5 rfl)) (by decide) (by decide)) q199a q199c (g := (mkF m 34 #[.val (.ref w_3), .val (.ref w_5), .val (.ref w_4), .val (.int (4 : Int32)), .val (.int ((((0 : Int32) + (1 : Int32)) + (1 : Int32)) + (1 : Int32))), .val (.ref w_2)] [(.ref w_2), (.ref w_3)])) rfl (by rw [hml]; rfl) (Steps.refl _) (argsL := [(.ref w_2)]) (rest := []) (lenOf pd_1 rfl) rfl (by show 2 * 0 + _ ≤ _; exact Nat.le_of_eq rfl) (hb hby d2_34) (fun _ _ => ⟨rfl, e198, (by decide : 0 + 0 ≤ _), (by decide : 0 + 0 ≤ _)⟩)
  dsimp only [Pt.U, Pt.locs, Pt.cells, Pt.slots] at X199 l199 y199 z199 st199 hQ199
  subst l199 y199 z199
  obtain ⟨rv199, N199q, e199⟩ := hQ199
  rw [show sp3 w_3 w_2 (0 : Int32) = (1 : Int32) from by unfold sp3; rw [if_neg (Fld.ne F_3_ordinal F_2_ordinal (by decide))]] at rv199
  subst rv199
  have N199 := Fr.app N198 N199q
  obtain ⟨fs, hr, hrun, hended, hW, hsame⟩ := X199.leave (v := some (.int (1 : Int32))) (fun h => by rw [Bd.returns] at h; cases h)
  refine ⟨_, _, pre0 _ ?_, hrun, hended, _, _, rfl, ?_, ⟨_, rfl⟩, hW, hsame.mono (by decide) (by decide)⟩
  · show Steps p.tables e below (s₁.setTop (mkF m 0 #[.val (.ref w_3), .val (.ref w_5), .unset, .unset, .unset, .unset] [])) _
    refine st187 _ ?_
    show Steps p.tables e below (T187.setTop (mkF m 3 #[.val (.ref w_3), .val (.ref w_5), .unset, .unset, .unset, .unset] [(.ref w_4)])) _
    refine XS.astoreN X187.here hx rfl (hb hby d2_3) rfl rfl (l' := #[.val (.ref w_3), .val (.ref w_5), .val (.ref w_4), .unset, .unset, .unset]) rfl ?_
    show Steps p.tables e below (T187.setTop (mkF m 4 #[.val (.ref w_3), .val (.ref w_5), .val (.ref w_4), .unset, .unset, .unset] [])) _
    refine XS.aloadN X187.here hx rfl (hb hby d2_4) rfl rfl ?_
    show Steps p.tables e below (T187.setTop (mkF m 5 #[.val (.ref w_3), .val (.ref w_5), .val (.ref w_4), .unset, .unset, .unset] [(.ref w_4)])) _
    refine X187.arraylength hx (by rw [e187]; exact Ar188.1) (State.isArrayOf_alike hZ.alike Ar188.2.1) (g := (mkF m 5 #[.val (.ref w_3), .val (.ref w_5), .val (.ref w_4), .unset, .unset, .unset] [(.ref w_4)])) rfl rfl (hb hby d2_5) _ ?_
    rw [len_of Sa188 Ma188]
    show Steps p.tables e below (T187.setTop (mkF m 6 #[.val (.ref w_3), .val (.ref w_5), .val (.ref w_4), .unset, .unset, .unset] [(.int (4 : Int32))])) _
    refine XS.istoreN X187.here hx rfl (hb hby d2_6) rfl (l' := #[.val (.ref w_3), .val (.ref w_5), .val (.ref w_4), .val (.int (4 : Int32)), .unset, .unset]) rfl ?_
    show Steps p.tables e below (T187.setTop (mkF m 7 #[.val (.ref w_3), .val (.ref w_5), .val (.ref w_4), .val (.int (4 : Int32)), .unset, .unset] [])) _
    refine XS.iconst X187.here hx rfl (hb hby d2_7) ?_
    show Steps p.tables e below (T187.setTop (mkF m 8 #[.val (.ref w_3), .val (.ref w_5), .val (.ref w_4), .val (.int (4 : Int32)), .unset, .unset] [(.int (0 : Int32))])) _
    refine XS.istore X187.here hx rfl (hb hby d2_8) rfl (l' := #[.val (.ref w_3), .val (.ref w_5), .val (.ref w_4), .val (.int (4 : Int32)), .val (.int (0 : Int32)), .unset]) rfl ?_
    show Steps p.tables e below (T187.setTop (mkF m 10 #[.val (.ref w_3), .val (.ref w_5), .val (.ref w_4), .val (.int (4 : Int32)), .val (.int (0 : Int32)), .unset] [])) _
    refine XS.iload X187.here hx rfl (hb hby d2_10) rfl ?_
    show Steps p.tables e below (T187.setTop (mkF m 12 #[.val (.ref w_3), .val (.ref w_5), .val (.ref w_4), .val (.int (4 : Int32)), .val (.int (0 : Int32)), .unset] [(.int (0 : Int32))])) _
    refine XS.iloadN X187.here hx rfl (hb hby d2_12) rfl ?_
    show Steps p.tables e below (T187.setTop (mkF m 13 #[.val (.ref w_3), .val (.ref w_5), .val (.ref w_4), .val (.int (4 : Int32)), .val (.int (0 : Int32)), .unset] [(.int (4 : Int32)), (.int (0 : Int32))])) _
    refine XS.icmpNo X187.here hx rfl (hb hby d2_13) rfl (tlt (by decide : ((0 : Int32) < (4 : Int32)))).2.1 ?_
    show Steps p.tables e below (T187.setTop (mkF m 16 #[.val (.ref w_3), .val (.ref w_5), .val (.ref w_4), .val (.int (4 : Int32)), .val (.int (0 : Int32)), .unset] [])) _
    refine XS.aloadN X187.here hx rfl (hb hby d2_16) rfl rfl ?_
    show Steps p.tables e below (T187.setTop (mkF m 17 #[.val (.ref w_3), .val (.ref w_5), .val (.ref w_4), .val (.int (4 : Int32)), .val (.int (0 : Int32)), .unset] [(.ref w_4)])) _
    refine XS.iload X187.here hx rfl (hb hby d2_17) rfl ?_
    show Steps p.tables e below (T187.setTop (mkF m 19 #[.val (.ref w_3), .val (.ref w_5), .val (.ref w_4), .val (.int (4 : Int32)), .val (.int (0 : Int32)), .unset] [(.int (0 : Int32)), (.ref w_4)])) _
    refine X187.aaload hx (j := (0 : Int32)) (v := (.ref w_1)) (by rw [e187]; exact Ar189.1) (State.isArrayOf_alike hZ.alike Ar189.2.1) rfl Ar189.2.2 hin189 hat189 (g := (mkF m 19 #[.val (.ref w_3), .val (.ref w_5), .val (.ref w_4), .val (.int (4 : Int32)), .val (.int (0 : Int32)), .unset] [(.int (0 : Int32)), (.ref w_4)])) rfl rfl (hb hby d2_19) _ ?_
    show Steps p.tables e below (T187.setTop (mkF m 20 #[.val (.ref w_3), .val (.ref w_5), .val (.ref w_4), .val (.int (4 : Int32)), .val (.int (0 : Int32)), .unset] [(.ref w_1)])) _
    refine XS.astore X187.here hx rfl (hb hby d2_20) rfl rfl (l' := #[.val (.ref w_3), .val (.ref w_5), .val (.ref w_4), .val (.int (4 : Int32)), .val (.int (0 : Int32)), .val (.ref w_1)]) rfl ?_
    show Steps p.tables e below (T187.setTop (mkF m 22 #[.val (.ref w_3), .val (.ref w_5), .val (.ref w_4), .val (.int (4 : Int32)), .val (.int (0 : Int32)), .val (.ref w_1)] [])) _
    refine XS.aloadN X187.here hx rfl (hb hby d2_22) rfl rfl ?_
    show Steps p.tables e below (T187.setTop (mkF m 23 #[.val (.ref w_3), .val (.ref w_5), .val (.ref w_4), .val (.int (4 : Int32)), .val (.int (0 : Int32)), .val (.ref w_1)] [(.ref w_5)])) _
    refine XS.aload X187.here hx rfl (hb hby d2_23) rfl rfl ?_
    show Steps p.tables e below (T187.setTop (mkF m 25 #[.val (.ref w_3), .val (.ref w_5), .val (.ref w_4), .val (.int (4 : Int32)), .val (.int (0 : Int32)), .val (.ref w_1)] [(.ref w_1), (.ref w_5)])) _
    refine st190.trans ?_
    show Steps p.tables e below (T190.setTop (mkF m 28 #[.val (.ref w_3), .val (.ref w_5), .val (.ref w_4), .val (.int (4 : Int32)), .val (.int (0 : Int32)), .val (.ref w_1)] [(.int (1 : Int32))])) _
    refine XS.ifNo X190.here hx rfl (hb hby d2_28) rfl ((if0 _ _).trans (feq (by decide : ¬ ((1 : Int32) = (0 : Int32)))).1) ?_
    show Steps p.tables e below (T190.setTop (mkF m 31 #[.val (.ref w_3), .val (.ref w_5), .val (.ref w_4), .val (.int (4 : Int32)), .val (.int (0 : Int32)), .val (.ref w_1)] [])) _
    refine XS.aloadN X190.here hx rfl (hb hby d2_31) rfl rfl ?_
    show Steps p.tables e below (T190.setTop (mkF m 32 #[.val (.ref w_3), .val (.ref w_5), .val (.ref w_4), .val (.int (4 : Int32)), .val (.int (0 : Int32)), .val (.ref w_1)] [(.ref w_3)])) _
    refine XS.aload X190.here hx rfl (hb hby d2_32) rfl rfl ?_
    show Steps p.tables e below (T190.setTop (mkF m 34 #[.val (.ref w_3), .val (.ref w_5), .val (.ref w_4), .val (.int (4 : Int32)), .val (.int (0 : Int32)), .val (.ref w_1)] [(.ref w_1), (.ref w_3)])) _
    refine st191.trans ?_
    show Steps p.tables e below (T191.setTop (mkF m 37 #[.val (.ref w_3), .val (.ref w_5), .val (.ref w_4), .val (.int (4 : Int32)), .val (.int (0 : Int32)), .val (.ref w_1)] [(.int (1 : Int32))])) _
    refine XS.ifYes X191.here hx rfl (pc0 := 37) (pc' := 42) rfl (hb hby d2_37) rfl ((if0 _ _).trans (feq (by decide : ¬ ((1 : Int32) = (0 : Int32)))).2) (by decide) (by decide) ?_
    show Steps p.tables e below (T191.setTop (mkF m 42 #[.val (.ref w_3), .val (.ref w_5), .val (.ref w_4), .val (.int (4 : Int32)), .val (.int (0 : Int32)), .val (.ref w_1)] [])) _
    refine XS.iinc X191.here hx rfl (hb hby d2_42) rfl (l' := #[.val (.ref w_3), .val (.ref w_5), .val (.ref w_4), .val (.int (4 : Int32)), .val (.int ((0 : Int32) + (1 : Int32))), .val (.ref w_1)]) rfl ?_
    show Steps p.tables e below (T191.setTop (mkF m 45 #[.val (.ref w_3), .val (.ref w_5), .val (.ref w_4), .val (.int (4 : Int32)), .val (.int ((0 : Int32) + (1 : Int32))), .val (.ref w_1)] [])) _
    refine XS.goto X191.here hx rfl (pc0 := 45) (pc' := 10) rfl (hb hby d2_45) (by decide) (by decide) ?_
    show Steps p.tables e below (T191.setTop (mkF m 10 #[.val (.ref w_3), .val (.ref w_5), .val (.ref w_4), .val (.int (4 : Int32)), .val (.int ((0 : Int32) + (1 : Int32))), .val (.ref w_1)] [])) _
    refine XS.iload X191.here hx rfl (hb hby d2_10) rfl ?_
    show Steps p.tables e below (T191.setTop (mkF m 12 #[.val (.ref w_3), .val (.ref w_5), .val (.ref w_4), .val (.int (4 : Int32)), .val (.int ((0 : Int32) + (1 : Int32))), .val (.ref w_1)] [(.int ((0 : Int32) + (1 : Int32)))])) _
    refine XS.iloadN X191.here hx rfl (hb hby d2_12) rfl ?_
    show Steps p.tables e below (T191.setTop (mkF m 13 #[.val (.ref w_3), .val (.ref w_5), .val (.ref w_4), .val (.int (4 : Int32)), .val (.int ((0 : Int32) + (1 : Int32))), .val (.ref w_1)] [(.int (4 : Int32)), (.int ((0 : Int32) + (1 : Int32)))])) _
    refine XS.icmpNo X191.here hx rfl (hb hby d2_13) rfl (tlt (by decide : (((0 : Int32) + (1 : Int32)) < (4 : Int32)))).2.1 ?_
    show Steps p.tables e below (T191.setTop (mkF m 16 #[.val (.ref w_3), .val (.ref w_5), .val (.ref w_4), .val (.int (4 : Int32)), .val (.int ((0 : Int32) + (1 : Int32))), .val (.ref w_1)] [])) _
    refine XS.aloadN X191.here hx rfl (hb hby d2_16) rfl rfl ?_
    show Steps p.tables e below (T191.setTop (mkF m 17 #[.val (.ref w_3), .val (.ref w_5), .val (.ref w_4), .val (.int (4 : Int32)), .val (.int ((0 : Int32) + (1 : Int32))), .val (.ref w_1)] [(.ref w_4)])) _
    refine XS.iload X191.here hx rfl (hb hby d2_17) rfl ?_
    show Steps p.tables e below (T191.setTop (mkF m 19 #[.val (.ref w_3), .val (.ref w_5), .val (.ref w_4), .val (.int (4 : Int32)), .val (.int ((0 : Int32) + (1 : Int32))), .val (.ref w_1)] [(.int ((0 : Int32) + (1 : Int32))), (.ref w_4)])) _
    refine X191.aaload hx (j := ((0 : Int32) + (1 : Int32))) (v := (.ref w_5)) (by rw [e191]; exact Ar192.1) (State.isArrayOf_alike hZ.alike Ar192.2.1) rfl Ar192.2.2 hin192 hat192 (g := (mkF m 19 #[.val (.ref w_3), .val (.ref w_5), .val (.ref w_4), .val (.int (4 : Int32)), .val (.int ((0 : Int32) + (1 : Int32))), .val (.ref w_1)] [(.int ((0 : Int32) + (1 : Int32))), (.ref w_4)])) rfl rfl (hb hby d2_19) _ ?_
    show Steps p.tables e below (T191.setTop (mkF m 20 #[.val (.ref w_3), .val (.ref w_5), .val (.ref w_4), .val (.int (4 : Int32)), .val (.int ((0 : Int32) + (1 : Int32))), .val (.ref w_1)] [(.ref w_5)])) _
    refine XS.astore X191.here hx rfl (hb hby d2_20) rfl rfl (l' := #[.val (.ref w_3), .val (.ref w_5), .val (.ref w_4), .val (.int (4 : Int32)), .val (.int ((0 : Int32) + (1 : Int32))), .val (.ref w_5)]) rfl ?_
    show Steps p.tables e below (T191.setTop (mkF m 22 #[.val (.ref w_3), .val (.ref w_5), .val (.ref w_4), .val (.int (4 : Int32)), .val (.int ((0 : Int32) + (1 : Int32))), .val (.ref w_5)] [])) _
    refine XS.aloadN X191.here hx rfl (hb hby d2_22) rfl rfl ?_
    show Steps p.tables e below (T191.setTop (mkF m 23 #[.val (.ref w_3), .val (.ref w_5), .val (.ref w_4), .val (.int (4 : Int32)), .val (.int ((0 : Int32) + (1 : Int32))), .val (.ref w_5)] [(.ref w_5)])) _
    refine XS.aload X191.here hx rfl (hb hby d2_23) rfl rfl ?_
    show Steps p.tables e below (T191.setTop (mkF m 25 #[.val (.ref w_3), .val (.ref w_5), .val (.ref w_4), .val (.int (4 : Int32)), .val (.int ((0 : Int32) + (1 : Int32))), .val (.ref w_5)] [(.ref w_5), (.ref w_5)])) _
    refine st193.trans ?_
    show Steps p.tables e below (T193.setTop (mkF m 28 #[.val (.ref w_3), .val (.ref w_5), .val (.ref w_4), .val (.int (4 : Int32)), .val (.int ((0 : Int32) + (1 : Int32))), .val (.ref w_5)] [(.int (0 : Int32))])) _
    refine XS.ifYes X193.here hx rfl (pc0 := 28) (pc' := 42) rfl (hb hby d2_28) rfl ((if0 _ _).trans (teq (by decide : ((0 : Int32) = (0 : Int32)))).1) (by decide) (by decide) ?_
    show Steps p.tables e below (T193.setTop (mkF m 42 #[.val (.ref w_3), .val (.ref w_5), .val (.ref w_4), .val (.int (4 : Int32)), .val (.int ((0 : Int32) + (1 : Int32))), .val (.ref w_5)] [])) _
    refine XS.iinc X193.here hx rfl (hb hby d2_42) rfl (l' := #[.val (.ref w_3), .val (.ref w_5), .val (.ref w_4), .val (.int (4 : Int32)), .val (.int (((0 : Int32) + (1 : Int32)) + (1 : Int32))), .val (.ref w_5)]) rfl ?_
    show Steps p.tables e below (T193.setTop (mkF m 45 #[.val (.ref w_3), .val (.ref w_5), .val (.ref w_4), .val (.int (4 : Int32)), .val (.int (((0 : Int32) + (1 : Int32)) + (1 : Int32))), .val (.ref w_5)] [])) _
    refine XS.goto X193.here hx rfl (pc0 := 45) (pc' := 10) rfl (hb hby d2_45) (by decide) (by decide) ?_
    show Steps p.tables e below (T193.setTop (mkF m 10 #[.val (.ref w_3), .val (.ref w_5), .val (.ref w_4), .val (.int (4 : Int32)), .val (.int (((0 : Int32) + (1 : Int32)) + (1 : Int32))), .val (.ref w_5)] [])) _
    refine XS.iload X193.here hx rfl (hb hby d2_10) rfl ?_
    show Steps p.tables e below (T193.setTop (mkF m 12 #[.val (.ref w_3), .val (.ref w_5), .val (.ref w_4), .val (.int (4 : Int32)), .val (.int (((0 : Int32) + (1 : Int32)) + (1 : Int32))), .val (.ref w_5)] [(.int (((0 : Int32) + (1 : Int32)) + (1 : Int32)))])) _
    refine XS.iloadN X193.here hx rfl (hb hby d2_12) rfl ?_
    show Steps p.tables e below (T193.setTop (mkF m 13 #[.val (.ref w_3), .val (.ref w_5), .val (.ref w_4), .val (.int (4 : Int32)), .val (.int (((0 : Int32) + (1 : Int32)) + (1 : Int32))), .val (.ref w_5)] [(.int (4 : Int32)), (.int (((0 : Int32) + (1 : Int32)) + (1 : Int32)))])) _
    refine XS.icmpNo X193.here hx rfl (hb hby d2_13) rfl (tlt (by decide : ((((0 : Int32) + (1 : Int32)) + (1 : Int32)) < (4 : Int32)))).2.1 ?_
    show Steps p.tables e below (T193.setTop (mkF m 16 #[.val (.ref w_3), .val (.ref w_5), .val (.ref w_4), .val (.int (4 : Int32)), .val (.int (((0 : Int32) + (1 : Int32)) + (1 : Int32))), .val (.ref w_5)] [])) _
    refine XS.aloadN X193.here hx rfl (hb hby d2_16) rfl rfl ?_
    show Steps p.tables e below (T193.setTop (mkF m 17 #[.val (.ref w_3), .val (.ref w_5), .val (.ref w_4), .val (.int (4 : Int32)), .val (.int (((0 : Int32) + (1 : Int32)) + (1 : Int32))), .val (.ref w_5)] [(.ref w_4)])) _
    refine XS.iload X193.here hx rfl (hb hby d2_17) rfl ?_
    show Steps p.tables e below (T193.setTop (mkF m 19 #[.val (.ref w_3), .val (.ref w_5), .val (.ref w_4), .val (.int (4 : Int32)), .val (.int (((0 : Int32) + (1 : Int32)) + (1 : Int32))), .val (.ref w_5)] [(.int (((0 : Int32) + (1 : Int32)) + (1 : Int32))), (.ref w_4)])) _
    refine X193.aaload hx (j := (((0 : Int32) + (1 : Int32)) + (1 : Int32))) (v := (.ref w_3)) (by rw [e193]; exact Ar194.1) (State.isArrayOf_alike hZ.alike Ar194.2.1) rfl Ar194.2.2 hin194 hat194 (g := (mkF m 19 #[.val (.ref w_3), .val (.ref w_5), .val (.ref w_4), .val (.int (4 : Int32)), .val (.int (((0 : Int32) + (1 : Int32)) + (1 : Int32))), .val (.ref w_5)] [(.int (((0 : Int32) + (1 : Int32)) + (1 : Int32))), (.ref w_4)])) rfl rfl (hb hby d2_19) _ ?_
    show Steps p.tables e below (T193.setTop (mkF m 20 #[.val (.ref w_3), .val (.ref w_5), .val (.ref w_4), .val (.int (4 : Int32)), .val (.int (((0 : Int32) + (1 : Int32)) + (1 : Int32))), .val (.ref w_5)] [(.ref w_3)])) _
    refine XS.astore X193.here hx rfl (hb hby d2_20) rfl rfl (l' := #[.val (.ref w_3), .val (.ref w_5), .val (.ref w_4), .val (.int (4 : Int32)), .val (.int (((0 : Int32) + (1 : Int32)) + (1 : Int32))), .val (.ref w_3)]) rfl ?_
    show Steps p.tables e below (T193.setTop (mkF m 22 #[.val (.ref w_3), .val (.ref w_5), .val (.ref w_4), .val (.int (4 : Int32)), .val (.int (((0 : Int32) + (1 : Int32)) + (1 : Int32))), .val (.ref w_3)] [])) _
    refine XS.aloadN X193.here hx rfl (hb hby d2_22) rfl rfl ?_
    show Steps p.tables e below (T193.setTop (mkF m 23 #[.val (.ref w_3), .val (.ref w_5), .val (.ref w_4), .val (.int (4 : Int32)), .val (.int (((0 : Int32) + (1 : Int32)) + (1 : Int32))), .val (.ref w_3)] [(.ref w_5)])) _
    refine XS.aload X193.here hx rfl (hb hby d2_23) rfl rfl ?_
    show Steps p.tables e below (T193.setTop (mkF m 25 #[.val (.ref w_3), .val (.ref w_5), .val (.ref w_4), .val (.int (4 : Int32)), .val (.int (((0 : Int32) + (1 : Int32)) + (1 : Int32))), .val (.ref w_3)] [(.ref w_3), (.ref w_5)])) _
    refine st195.trans ?_
    show Steps p.tables e below (T195.setTop (mkF m 28 #[.val (.ref w_3), .val (.ref w_5), .val (.ref w_4), .val (.int (4 : Int32)), .val (.int (((0 : Int32) + (1 : Int32)) + (1 : Int32))), .val (.ref w_3)] [(.int (1 : Int32))])) _
    refine XS.ifNo X195.here hx rfl (hb hby d2_28) rfl ((if0 _ _).trans (feq (by decide : ¬ ((1 : Int32) = (0 : Int32)))).1) ?_
    show Steps p.tables e below (T195.setTop (mkF m 31 #[.val (.ref w_3), .val (.ref w_5), .val (.ref w_4), .val (.int (4 : Int32)), .val (.int (((0 : Int32) + (1 : Int32)) + (1 : Int32))), .val (.ref w_3)] [])) _
    refine XS.aloadN X195.here hx rfl (hb hby d2_31) rfl rfl ?_
    show Steps p.tables e below (T195.setTop (mkF m 32 #[.val (.ref w_3), .val (.ref w_5), .val (.ref w_4), .val (.int (4 : Int32)), .val (.int (((0 : Int32) + (1 : Int32)) + (1 : Int32))), .val (.ref w_3)] [(.ref w_3)])) _
    refine XS.aload X195.here hx rfl (hb hby d2_32) rfl rfl ?_
    show Steps p.tables e below (T195.setTop (mkF m 34 #[.val (.ref w_3), .val (.ref w_5), .val (.ref w_4), .val (.int (4 : Int32)), .val (.int (((0 : Int32) + (1 : Int32)) + (1 : Int32))), .val (.ref w_3)] [(.ref w_3), (.ref w_3)])) _
    refine st196.trans ?_
    show Steps p.tables e below (T196.setTop (mkF m 37 #[.val (.ref w_3), .val (.ref w_5), .val (.ref w_4), .val (.int (4 : Int32)), .val (.int (((0 : Int32) + (1 : Int32)) + (1 : Int32))), .val (.ref w_3)] [(.int (1 : Int32))])) _
    refine XS.ifYes X196.here hx rfl (pc0 := 37) (pc' := 42) rfl (hb hby d2_37) rfl ((if0 _ _).trans (feq (by decide : ¬ ((1 : Int32) = (0 : Int32)))).2) (by decide) (by decide) ?_
    show Steps p.tables e below (T196.setTop (mkF m 42 #[.val (.ref w_3), .val (.ref w_5), .val (.ref w_4), .val (.int (4 : Int32)), .val (.int (((0 : Int32) + (1 : Int32)) + (1 : Int32))), .val (.ref w_3)] [])) _
    refine XS.iinc X196.here hx rfl (hb hby d2_42) rfl (l' := #[.val (.ref w_3), .val (.ref w_5), .val (.ref w_4), .val (.int (4 : Int32)), .val (.int ((((0 : Int32) + (1 : Int32)) + (1 : Int32)) + (1 : Int32))), .val (.ref w_3)]) rfl ?_
    show Steps p.tables e below (T196.setTop (mkF m 45 #[.val (.ref w_3), .val (.ref w_5), .val (.ref w_4), .val (.int (4 : Int32)), .val (.int ((((0 : Int32) + (1 : Int32)) + (1 : Int32)) + (1 : Int32))), .val (.ref w_3)] [])) _
    refine XS.goto X196.here hx rfl (pc0 := 45) (pc' := 10) rfl (hb hby d2_45) (by decide) (by decide) ?_
    show Steps p.tables e below (T196.setTop (mkF m 10 #[.val (.ref w_3), .val (.ref w_5), .val (.ref w_4), .val (.int (4 : Int32)), .val (.int ((((0 : Int32) + (1 : Int32)) + (1 : Int32)) + (1 : Int32))), .val (.ref w_3)] [])) _
    refine XS.iload X196.here hx rfl (hb hby d2_10) rfl ?_
    show Steps p.tables e below (T196.setTop (mkF m 12 #[.val (.ref w_3), .val (.ref w_5), .val (.ref w_4), .val (.int (4 : Int32)), .val (.int ((((0 : Int32) + (1 : Int32)) + (1 : Int32)) + (1 : Int32))), .val (.ref w_3)] [(.int ((((0 : Int32) + (1 : Int32)) + (1 : Int32)) + (1 : Int32)))])) _
    refine XS.iloadN X196.here hx rfl (hb hby d2_12) rfl ?_
    show Steps p.tables e below (T196.setTop (mkF m 13 #[.val (.ref w_3), .val (.ref w_5), .val (.ref w_4), .val (.int (4 : Int32)), .val (.int ((((0 : Int32) + (1 : Int32)) + (1 : Int32)) + (1 : Int32))), .val (.ref w_3)] [(.int (4 : Int32)), (.int ((((0 : Int32) + (1 : Int32)) + (1 : Int32)) + (1 : Int32)))])) _
    refine XS.icmpNo X196.here hx rfl (hb hby d2_13) rfl (tlt (by decide : (((((0 : Int32) + (1 : Int32)) + (1 : Int32)) + (1 : Int32)) < (4 : Int32)))).2.1 ?_
    show Steps p.tables e below (T196.setTop (mkF m 16 #[.val (.ref w_3), .val (.ref w_5), .val (.ref w_4), .val (.int (4 : Int32)), .val (.int ((((0 : Int32) + (1 : Int32)) + (1 : Int32)) + (1 : Int32))), .val (.ref w_3)] [])) _
    refine XS.aloadN X196.here hx rfl (hb hby d2_16) rfl rfl ?_
    show Steps p.tables e below (T196.setTop (mkF m 17 #[.val (.ref w_3), .val (.ref w_5), .val (.ref w_4), .val (.int (4 : Int32)), .val (.int ((((0 : Int32) + (1 : Int32)) + (1 : Int32)) + (1 : Int32))), .val (.ref w_3)] [(.ref w_4)])) _
    refine XS.iload X196.here hx rfl (hb hby d2_17) rfl ?_
    show Steps p.tables e below (T196.setTop (mkF m 19 #[.val (.ref w_3), .val (.ref w_5), .val (.ref w_4), .val (.int (4 : Int32)), .val (.int ((((0 : Int32) + (1 : Int32)) + (1 : Int32)) + (1 : Int32))), .val (.ref w_3)] [(.int ((((0 : Int32) + (1 : Int32)) + (1 : Int32)) + (1 : Int32))), (.ref w_4)])) _
    refine X196.aaload hx (j := ((((0 : Int32) + (1 : Int32)) + (1 : Int32)) + (1 : Int32))) (v := (.ref w_2)) (by rw [e196]; exact Ar197.1) (State.isArrayOf_alike hZ.alike Ar197.2.1) rfl Ar197.2.2 hin197 hat197 (g := (mkF m 19 #[.val (.ref w_3), .val (.ref w_5), .val (.ref w_4), .val (.int (4 : Int32)), .val (.int ((((0 : Int32) + (1 : Int32)) + (1 : Int32)) + (1 : Int32))), .val (.ref w_3)] [(.int ((((0 : Int32) + (1 : Int32)) + (1 : Int32)) + (1 : Int32))), (.ref w_4)])) rfl rfl (hb hby d2_19) _ ?_
    show Steps p.tables e below (T196.setTop (mkF m 20 #[.val (.ref w_3), .val (.ref w_5), .val (.ref w_4), .val (.int (4 : Int32)), .val (.int ((((0 : Int32) + (1 : Int32)) + (1 : Int32)) + (1 : Int32))), .val (.ref w_3)] [(.ref w_2)])) _
    refine XS.astore X196.here hx rfl (hb hby d2_20) rfl rfl (l' := #[.val (.ref w_3), .val (.ref w_5), .val (.ref w_4), .val (.int (4 : Int32)), .val (.int ((((0 : Int32) + (1 : Int32)) + (1 : Int32)) + (1 : Int32))), .val (.ref w_2)]) rfl ?_
    show Steps p.tables e below (T196.setTop (mkF m 22 #[.val (.ref w_3), .val (.ref w_5), .val (.ref w_4), .val (.int (4 : Int32)), .val (.int ((((0 : Int32) + (1 : Int32)) + (1 : Int32)) + (1 : Int32))), .val (.ref w_2)] [])) _
    refine XS.aloadN X196.here hx rfl (hb hby d2_22) rfl rfl ?_
    show Steps p.tables e below (T196.setTop (mkF m 23 #[.val (.ref w_3), .val (.ref w_5), .val (.ref w_4), .val (.int (4 : Int32)), .val (.int ((((0 : Int32) + (1 : Int32)) + (1 : Int32)) + (1 : Int32))), .val (.ref w_2)] [(.ref w_5)])) _
    refine XS.aload X196.here hx rfl (hb hby d2_23) rfl rfl ?_
    show Steps p.tables e below (T196.setTop (mkF m 25 #[.val (.ref w_3), .val (.ref w_5), .val (.ref w_4), .val (.int (4 : Int32)), .val (.int ((((0 : Int32) + (1 : Int32)) + (1 : Int32)) + (1 : Int32))), .val (.ref w_2)] [(.ref w_2), (.ref w_5)])) _
    refine st198.trans ?_
    show Steps p.tables e below (T198.setTop (mkF m 28 #[.val (.ref w_3), .val (.ref w_5), .val (.ref w_4), .val (.int (4 : Int32)), .val (.int ((((0 : Int32) + (1 : Int32)) + (1 : Int32)) + (1 : Int32))), .val (.ref w_2)] [(.int (1 : Int32))])) _
    refine XS.ifNo X198.here hx rfl (hb hby d2_28) rfl ((if0 _ _).trans (feq (by decide : ¬ ((1 : Int32) = (0 : Int32)))).1) ?_
    show Steps p.tables e below (T198.setTop (mkF m 31 #[.val (.ref w_3), .val (.ref w_5), .val (.ref w_4), .val (.int (4 : Int32)), .val (.int ((((0 : Int32) + (1 : Int32)) + (1 : Int32)) + (1 : Int32))), .val (.ref w_2)] [])) _
    refine XS.aloadN X198.here hx rfl (hb hby d2_31) rfl rfl ?_
    show Steps p.tables e below (T198.setTop (mkF m 32 #[.val (.ref w_3), .val (.ref w_5), .val (.ref w_4), .val (.int (4 : Int32)), .val (.int ((((0 : Int32) + (1 : Int32)) + (1 : Int32)) + (1 : Int32))), .val (.ref w_2)] [(.ref w_3)])) _
    refine XS.aload X198.here hx rfl (hb hby d2_32) rfl rfl ?_
    show Steps p.tables e below (T198.setTop (mkF m 34 #[.val (.ref w_3), .val (.ref w_5), .val (.ref w_4), .val (.int (4 : Int32)), .val (.int ((((0 : Int32) + (1 : Int32)) + (1 : Int32)) + (1 : Int32))), .val (.ref w_2)] [(.ref w_2), (.ref w_3)])) _
    refine st199.trans ?_
    show Steps p.tables e below (T199.setTop (mkF m 37 #[.val (.ref w_3), .val (.ref w_5), .val (.ref w_4), .val (.int (4 : Int32)), .val (.int ((((0 : Int32) + (1 : Int32)) + (1 : Int32)) + (1 : Int32))), .val (.ref w_2)] [(.int (1 : Int32))])) _
    refine XS.ifYes X199.here hx rfl (pc0 := 37) (pc' := 42) rfl (hb hby d2_37) rfl ((if0 _ _).trans (feq (by decide : ¬ ((1 : Int32) = (0 : Int32)))).2) (by decide) (by decide) ?_
    show Steps p.tables e below (T199.setTop (mkF m 42 #[.val (.ref w_3), .val (.ref w_5), .val (.ref w_4), .val (.int (4 : Int32)), .val (.int ((((0 : Int32) + (1 : Int32)) + (1 : Int32)) + (1 : Int32))), .val (.ref w_2)] [])) _
    refine XS.iinc X199.here hx rfl (hb hby d2_42) rfl (l' := #[.val (.ref w_3), .val (.ref w_5), .val (.ref w_4), .val (.int (4 : Int32)), .val (.int (((((0 : Int32) + (1 : Int32)) + (1 : Int32)) + (1 : Int32)) + (1 : Int32))), .val (.ref w_2)]) rfl ?_
    show Steps p.tables e below (T199.setTop (mkF m 45 #[.val (.ref w_3), .val (.ref w_5), .val (.ref w_4), .val (.int (4 : Int32)), .val (.int (((((0 : Int32) + (1 : Int32)) + (1 : Int32)) + (1 : Int32)) + (1 : Int32))), .val (.ref w_2)] [])) _
    refine XS.goto X199.here hx rfl (pc0 := 45) (pc' := 10) rfl (hb hby d2_45) (by decide) (by decide) ?_
    show Steps p.tables e below (T199.setTop (mkF m 10 #[.val (.ref w_3), .val (.ref w_5), .val (.ref w_4), .val (.int (4 : Int32)), .val (.int (((((0 : Int32) + (1 : Int32)) + (1 : Int32)) + (1 : Int32)) + (1 : Int32))), .val (.ref w_2)] [])) _
    refine XS.iload X199.here hx rfl (hb hby d2_10) rfl ?_
    show Steps p.tables e below (T199.setTop (mkF m 12 #[.val (.ref w_3), .val (.ref w_5), .val (.ref w_4), .val (.int (4 : Int32)), .val (.int (((((0 : Int32) + (1 : Int32)) + (1 : Int32)) + (1 : Int32)) + (1 : Int32))), .val (.ref w_2)] [(.int (((((0 : Int32) + (1 : Int32)) + (1 : Int32)) + (1 : Int32)) + (1 : Int32)))])) _
    refine XS.iloadN X199.here hx rfl (hb hby d2_12) rfl ?_
    show Steps p.tables e below (T199.setTop (mkF m 13 #[.val (.ref w_3), .val (.ref w_5), .val (.ref w_4), .val (.int (4 : Int32)), .val (.int (((((0 : Int32) + (1 : Int32)) + (1 : Int32)) + (1 : Int32)) + (1 : Int32))), .val (.ref w_2)] [(.int (4 : Int32)), (.int (((((0 : Int32) + (1 : Int32)) + (1 : Int32)) + (1 : Int32)) + (1 : Int32)))])) _
    refine XS.icmpYes X199.here hx rfl (pc0 := 13) (pc' := 48) rfl (hb hby d2_13) rfl (flt (by decide : ¬ ((((((0 : Int32) + (1 : Int32)) + (1 : Int32)) + (1 : Int32)) + (1 : Int32)) < (4 : Int32)))).2.1 (by decide) (by decide) ?_
    show Steps p.tables e below (T199.setTop (mkF m 48 #[.val (.ref w_3), .val (.ref w_5), .val (.ref w_4), .val (.int (4 : Int32)), .val (.int (((((0 : Int32) + (1 : Int32)) + (1 : Int32)) + (1 : Int32)) + (1 : Int32))), .val (.ref w_2)] [])) _
    refine XS.iconst X199.here hx rfl (hb hby d2_48) ?_
    show Steps p.tables e below (T199.setTop (mkF m 49 #[.val (.ref w_3), .val (.ref w_5), .val (.ref w_4), .val (.int (4 : Int32)), .val (.int (((((0 : Int32) + (1 : Int32)) + (1 : Int32)) + (1 : Int32)) + (1 : Int32))), .val (.ref w_2)] [(.int (1 : Int32))])) _
    exact retN X199 hx (t := .boolean) Bd.returns (by simp) (hb hby d2_49) hr
  · show Q2x10 Z w_1 w_2 w_3 w_4 w_5 k_4 h0 n0 _ T199.heap _
    rw [e199]
    exact ⟨by unfold sp2x10; rfl, N199, rfl⟩
theorem pn_2x11 : plainName "com/example/lucid_locks/lucidlocks/locks/LockMode" = true := by first | (simp [plainName, overriddenIn]; done) | decide +kernel
theorem ef_2x11 (m : MethodId) (w_3 : Addr) : entryFrame m #[(.ref w_3), (.ref w_3)] 6 = mkF m 0 #[.val (.ref w_3), .val (.ref w_3), .unset, .unset, .unset, .unset] [] := by first | (simp [entryFrame, mkF, argsToLocals, Value.category]; done) | rfl
def sp2x11  : Int32 := (1 : Int32)
def Q2x11 (Z : State) (w_1 : Addr) (w_2 : Addr) (w_3 : Addr) (w_4 : Addr) (w_5 : Addr) (k_4 : ClassId) (h0 : Heap) (n0 : Nat) (v : Option Value) (h : Heap) (L : List Loc) : Prop := v = some (.int (sp2x11)) ∧ Fr n0 L ∧ h = h0
set_option maxRecDepth 65536 in
set_option maxHeartbeats 40000000 in
theorem rm2x11 (l : Launch) (Z : State) (a0 : Array Value) (hw : ∀ d ∈ tables_1, d.before a0 Z = true) (ws : List Jvm.Cond) (w_1 : Addr) (w_2 : Addr) (w_3 : Addr) (w_4 : Addr) (w_5 : Addr) (k_4 : ClassId) (hS : StF Z w_1 w_2 w_3 w_4 w_5 k_4) (h0 : Heap) (n0 : Nat) (O0 : Old Z n0 h0) :
    MetFree l Y2 (head1 (Jvm.Cond.code Y2 prog_17_method_7_code 6 (some .boolean) :: ws) ({ frames := 1, cells := 0, slots := 0, locals := 13 } : Room)) (fun a U => a = #[(.ref w_3), (.ref w_3)] ∧ Z.Warmed39 U.vm ∧ U.heap = h0) (fun _ _ _ _ _ => True) (fun _ U o U' => ∃ v L, o = .returned v ∧ Q2x11 Z w_1 w_2 w_3 w_4 w_5 k_4 h0 n0 v U'.heap L ∧ FrameEnd U o U' L ({ frames := 1, cells := 0, slots := 0, locals := 13 } : Room).cells ({ frames := 1, cells := 0, slots := 0, locals := 13 } : Room).slots) := by
  refine MetFree.of_bodySF (plainFor_of_name pn_2x11) hisR ?_
  intro p e s m args below meth c s₁ Bd hml0 hP hK
  obtain ⟨rfl, hZ, hh⟩ := hP
  have hx := Bd.exec
  have hby := Bd.bytes
  have hml : c.maxLocals = 6 := hml0
  have hown : s.vm.findClass "com/example/lucid_locks/lucidlocks/locks/LockMode" = some m.cls := findClass_of_methodNamed Bd.named
  have hnm := (name_of_methodNamed Bd.named Bd.method).1
  have X0 : Stand p l e ({ frames := 1, cells := 0, slots := 0, locals := 13 } : Room) s m #[(.ref w_3), (.ref w_3)] below meth c s₁ [] 0 0 := Stand.of_body Bd
  have e0 : s₁.heap = h0 := by rw [← hh, Bd.state]; rfl
  have N0 := Fr.nil n0
  have hS0 := hS
  obtain ⟨S_1, E_1, S_2, E_2, S_3, E_3, S_4, S_5, E_5, F_1_ordinal, F_3_ordinal, F_2_ordinal, F_1_sharedWithItself, F_5_ordinal, F_5_sharedWithItself, F_3_sharedWithItself, F_2_sharedWithItself, V_4⟩ := hS
  have pre0 : ∀ t, Steps p.tables e below (s₁.setTop (mkF m 0 #[.val (.ref w_3), .val (.ref w_3), .unset, .unset, .unset, .unset] [])) t → Steps p.tables e below (s₁.setTop (entryFrame m #[(.ref w_3), (.ref w_3)] 6)) t := fun t k => castTop (ef_2x11 m w_3) k
  obtain ⟨T205, X205, e205, st205⟩ := getS2 X0 hx hZ hown (host := "") (Or.inl (hw _ (tk 16 rfl))) Via.refl e0 (S_4.ext O0.2) (g := (mkF m 0 #[.val (.ref w_3), .val (.ref w_3), .unset, .unset, .unset, .unset] [])) rfl (hb hby d2_0)
  obtain ⟨cl206, Ar206, qa206, Sa206, Ma206, Ha206, Ga206⟩ := id (V_4.ext O0.2)
  obtain ⟨cl207, Ar207, qa207, Sa207, Ma207, Ha207, Ga207⟩ := id (V_4.ext O0.2)
  have hin207 : ¬ ((0 : Int32) < 0 ∨ cl207.slots.size ≤ ((0 : Int32)).toNatClampNeg) := by  exact inb_of Sa207 ⟨by decide, by decide⟩
  have hat207 : cl207.slots[((0 : Int32)).toNatClampNeg]? = some (.ref w_1) := Has.at Ha207 hin207 (by rfl)
  obtain ⟨cq208, kq208, q208a, q208b, q208c⟩ := isOf hZ e205 (E_3.ext O0.2)
  obtain ⟨_, _, ⟨T208, L208, k208, n208⟩, -, X208, ⟨Lc208, hQ208, l208, y208, z208⟩, st208⟩ := X205.virtualBack hx (y := Y1) (z := Y1) hown (mvT hZ (hw _ (tk 18 rfl))) (mvT hZ (hw _ (tk 19 rfl))) (notFace_of_selects (args := #[]) (mvT hZ (hw _ (tk 21 rfl)))) (mvT hZ (hw _ (tk 21 rfl))) (mvT hZ (hw _ (tk 20 rfl))) (by decide) (backOf (W := 0) (rm3 l Z a0 hw [] w_1 w_2 w_3 w_4 w_5 k_4 hS0 w_3 w_1 (0 : Int32) h0 n0 O0 (F_3_sharedWithItself.ext O0.2)) hZ (hw _ (tk 22 rfl)) (hw _ (tk 5 rfl)) (by decide) (by decide)) q208a q208c (g := (mkF m 25 #[.val (.ref w_3), .val (.ref w_3), .val (.ref w_4), .val (.int (4 : Int32)), .val (.int (0 : Int32)), .val (.ref w_1)] [(.ref w_1), (.ref w_3)])) rfl (by rw [hml]; rfl) (Steps.refl _) (argsL := [(.ref w_1)]) (rest := []) (lenOf pd_1 rfl) rfl (by show 2 * 0 + _ ≤ _; exact Nat.le_of_eq rfl) (hb hby d2_25) (fun _ _ => ⟨rfl, e205, (by decide : 0 + 0 ≤ _), (by decide : 0 + 0 ≤ _)⟩)
  dsimp only [Pt.U, Pt.locs, Pt.cells, Pt.slots] at X208 l208 y208 z208 st208 hQ208
  subst l208 y208 z208
  obtain ⟨rv208, N208q, e208⟩ := hQ208
  rw [show sp3 w_3 w_1 (0 : Int32) = (1 : Int32) from by unfold sp3; rw [if_neg (Fld.ne F_3_ordinal F_1_ordinal (by decide))]] at rv208
  subst rv208
  have N208 := Fr.app N0 N208q
  obtain ⟨cq209, kq209, q209a, q209b, q209c⟩ := isOf hZ e208 (E_3.ext O0.2)
  obtain ⟨_, _, ⟨T209, L209, k209, n209⟩, -, X209, ⟨Lc209, hQ209, l209, y209, z209⟩, st209⟩ := X208.virtualBack hx (y := Y1) (z := Y1) hown (mvT hZ (hw _ (tk 18 rfl))) (mvT hZ (hw _ (tk 19 rfl))) (notFace_of_selects (args := #[]) (mvT hZ (hw _ (tk 21 rfl)))) (mvT hZ (hw _ (tk 21 rfl))) (mvT hZ (hw _ (tk 20 rfl))) (by decide) (backOf (W := 0) (rm3 l Z a0 hw [] w_1 w_2 w_3 w_4 w_5 k_4 hS0 w_3 w_1 (0 : Int32) h0 n0 O0 (F_3_sharedWithItself.ext O0.2)) hZ (hw _ (tk 22 rfl)) (hw _ (tk 5 rfl)) (by decide) (by decide)) q209a q209c (g := (mkF m 34 #[.val (.ref w_3), .val (.ref w_3), .val (.ref w_4), .val (.int (4 : Int32)), .val (.int (0 : Int32)), .val (.ref w_1)] [(.ref w_1), (.ref w_3)])) rfl (by rw [hml]; rfl) (Steps.refl _) (argsL := [(.ref w_1)]) (rest := []) (lenOf pd_1 rfl) rfl (by show 2 * 0 + _ ≤ _; exact Nat.le_of_eq rfl) (hb hby d2_34) (fun _ _ => ⟨rfl, e208, (by decide : 0 + 0 ≤ _), (by decide : 0 + 0 ≤ _)⟩)
  dsimp only [Pt.U, Pt.locs, Pt.cells, Pt.slots] at X209 l209 y209 z209 st209 hQ209
  subst l209 y209 z209
  obtain ⟨rv209, N209q, e209⟩ := hQ209
  rw [show sp3 w_3 w_1 (0 : Int32) = (1 : Int32) from by unfold sp3; rw [if_neg (Fld.ne F_3_ordinal F_1_ordinal (by decide))]] at rv209
  subst rv209
  have N209 := Fr.app N208 N209q
  obtain ⟨cl210, Ar210, qa210, Sa210, Ma210, Ha210, Ga210⟩ := id (V_4.ext O0.2)
  have hin210 : ¬ (((0 : Int32) + (1 : Int32)) < 0 ∨ cl210.slots.size ≤ (((0 : Int32) + (1 : Int32))).toNatClampNeg) := by  exact inb_of Sa210 ⟨by decide, by decide⟩
  have hat210 : cl210.slots[(((0 : Int32) + (1 : Int32))).toNatClampNeg]? = some (.ref w_5) := Has.at Ha210 hin210 (by rfl)
  obtain ⟨cq211, kq211, q211a, q211b, q211c⟩ := isOf hZ e209 (E_3.ext O0.2)
  obtain ⟨_, _, ⟨T211, L211, k211, n211⟩, -, X211, ⟨Lc211, hQ211, l211, y211, z211⟩, st211⟩ := X209.virtualBack hx (y := Y1) (z := Y1) hown (mvT hZ (hw _ (tk 18 rfl))) (mvT hZ (hw _ (tk 19 rfl))) (notFace_of_selects (args := #[]) (mvT hZ (hw _ (tk 21 rfl)))) (mvT hZ (hw _ (tk 21 rfl))) (mvT hZ (hw _ (tk 20 rfl))) (by decide) (backOf (W := 0) (rm3 l Z a0 hw [] w_1 w_2 w_3 w_4 w_5 k_4 hS0 w_3 w_5 (0 : Int32) h0 n0 O0 (F_3_sharedWithItself.ext O0.2)) hZ (hw _ (tk 22 rfl)) (hw _ (tk 5 rfl)) (by decide) (by decide)) q211a q211c (g := (mkF m 25 #[.val (.ref w_3), .val (.ref w_3), .val (.ref w_4), .val (.int (4 : Int32)), .val (.int ((0 : Int32) + (1 : Int32))), .val (.ref w_5)] [(.ref w_5), (.ref w_3)])) rfl (by rw [hml]; rfl) (Steps.refl _) (argsL := [(.ref w_5)]) (rest := []) (lenOf pd_1 rfl) rfl (by show 2 * 0 + _ ≤ _; exact Nat.le_of_eq rfl) (hb hby d2_25) (fun _ _ => ⟨rfl, e209, (by decide : 0 + 0 ≤ _), (by decide : 0 + 0 ≤ _)⟩)
  dsimp only [Pt.U, Pt.locs, Pt.cells, Pt.slots] at X211 l211 y211 z211 st211 hQ211
  subst l211 y211 z211
  obtain ⟨rv211, N211q, e211⟩ := hQ211
  rw [show sp3 w_3 w_5 (0 : Int32) = (1 : Int32) from by unfold sp3; rw [if_neg (Fld.ne F_3_ordinal F_5_ordinal (by decide))]] at rv211
  subst rv211
  have N211 := Fr.app N209 N211q
  obtain ⟨cq212, kq212, q212a, q212b, q212c⟩ := isOf hZ e211 (E_3.ext O0.2)
  obtain ⟨_, _, ⟨T212, L212, k212, n212⟩, -, X212, ⟨Lc212, hQ212, l212, y212, z212⟩, st212⟩ := X211.virtualBack hx (y := Y1) (z := Y1) hown (mvT hZ (hw _ (tk 18 rfl))) (mvT hZ (hw _ (tk 19 rfl))) (notFace_of_selects (args := #[]) (mvT hZ (hw _ (tk 21 rfl)))) (mvT hZ (hw _ (tk 21 rfl))) (mvT hZ (hw _ (tk 20 rfl))) (by decide) (backOf (W := 0) (rm3 l Z a0 hw [] w_1 w_2 w_3 w_4 w_5 k_4 hS0 w_3 w_5 (0 : Int32) h0 n0 O0 (F_3_sharedWithItself.ext O0.2)) hZ (hw _ (tk 22 rfl)) (hw _ (tk 5 rfl)) (by decide) (by decide)) q212a q212c (g := (mkF m 34 #[.val (.ref w_3), .val (.ref w_3), .val (.ref w_4), .val (.int (4 : Int32)), .val (.int ((0 : Int32) + (1 : Int32))), .val (.ref w_5)] [(.ref w_5), (.ref w_3)])) rfl (by rw [hml]; rfl) (Steps.refl _) (argsL := [(.ref w_5)]) (rest := []) (lenOf pd_1 rfl) rfl (by show 2 * 0 + _ ≤ _; exact Nat.le_of_eq rfl) (hb hby d2_34) (fun _ _ => ⟨rfl, e211, (by decide : 0 + 0 ≤ _), (by decide : 0 + 0 ≤ _)⟩)
  dsimp only [Pt.U, Pt.locs, Pt.cells, Pt.slots] at X212 l212 y212 z212 st212 hQ212
  subst l212 y212 z212
  obtain ⟨rv212, N212q, e212⟩ := hQ212
  rw [show sp3 w_3 w_5 (0 : Int32) = (1 : Int32) from by unfold sp3; rw [if_neg (Fld.ne F_3_ordinal F_5_ordinal (by decide))]] at rv212
  subst rv212
  have N212 := Fr.app N211 N212q
  obtain ⟨cl213, Ar213, qa213, Sa213, Ma213, Ha213, Ga213⟩ := id (V_4.ext O0.2)
  have hin213 : ¬ ((((0 : Int32) + (1 : Int32)) + (1 : Int32)) < 0 ∨ cl213.slots.size ≤ ((((0 : Int32) + (1 : Int32)) + (1 : Int32))).toNatClampNeg) := by  exact inb_of Sa213 ⟨by decide, by decide⟩
  have hat213 : cl213.slots[((((0 : Int32) + (1 : Int32)) + (1 : Int32))).toNatClampNeg]? = some (.ref w_3) := Has.at Ha213 hin213 (by rfl)
  obtain ⟨cq214, kq214, q214a, q214b, q214c⟩ := isOf hZ e212 (E_3.ext O0.2)
  obtain ⟨_, _, ⟨T214, L214, k214, n214⟩, -, X214, ⟨Lc214, hQ214, l214, y214, z214⟩, st214⟩ := X212.virtualBack hx (y := Y1) (z := Y1) hown (mvT hZ (hw _ (tk 18 rfl))) (mvT hZ (hw _ (tk 19 rfl))) (notFace_of_selects (args := #[]) (mvT hZ (hw _ (tk 21 rfl)))) (mvT hZ (hw _ (tk 21 rfl))) (mvT hZ (hw _ (tk 20 rfl))) (by decide) (backOf (W := 0) (rm3 l Z a0 hw [] w_1 w_2 w_3 w_4 w_5 k_4 hS0 w_3 w_3 (0 : Int32) h0 n0 O0 (F_3_sharedWithItself.ext O0.2)) hZ (hw _ (tk 22 rfl)) (hw _ (tk 5 rfl)) (by decide) (by decide)) q214a q214c (g := (mkF m 25 #[.val (.ref w_3), .val (.ref w_3), .val (.ref w_4), .val (.int (4 : Int32)), .val (.int (((0 : Int32) + (1 : Int32)) + (1 : Int32))), .val (.ref w_3)] [(.ref w_3), (.ref w_3)])) rfl (by rw [hml]; rfl) (Steps.refl _) (argsL := [(.ref w_3)]) (rest := []) (lenOf pd_1 rfl) rfl (by show 2 * 0 + _ ≤ _; exact Nat.le_of_eq rfl) (hb hby d2_25) (fun _ _ => ⟨rfl, e212, (by decide : 0 + 0 ≤ _), (by decide : 0 + 0 ≤ _)⟩)
  dsimp only [Pt.U, Pt.locs, Pt.cells, Pt.slots] at X214 l214 y214 z214 st214 hQ214
  subst l214 y214 z214
  obtain ⟨rv214, N214q, e214⟩ := hQ214
  rw [show sp3 w_3 w_3 (0 : Int32) = (1 : Int32) from by unfold sp3; rw [if_pos rfl, if_pos (by decide : ((0 : Int32) = (0 : Int32)))]] at rv214
  subst rv214
  have N214 := Fr.app N212 N214q
  obtain ⟨cq215, kq215, q215a, q215b, q215c⟩ := isOf hZ e214 (E_3.ext O0.2)
  obtain ⟨_, _, ⟨T215, L215, k215, n215⟩, -, X215, ⟨Lc215, hQ215, l215, y215, z215⟩, st215⟩ := X214.virtualBack hx (y := Y1) (z := Y1) hown (mvT hZ (hw _ (tk 18 rfl))) (mvT hZ (hw _ (tk 19 rfl))) (notFace_of_selects (args := #[]) (mvT hZ (hw _ (tk 21 rfl)))) (mvT hZ (hw _ (tk 21 rfl))) (mvT hZ (hw _ (tk 20 rfl))) (by decide) (backOf (W := 0) (rm3 l Z a0 hw [] w_1 w_2 w_3 w_4 w_5 k_4 hS0 w_3 w_3 (0 : Int32) h0 n0 O0 (F_3_sharedWithItself.ext O0.2)) hZ (hw _ (tk 22 rfl)) (hw _ (tk 5 rfl)) (by decide) (by decide)) q215a q215c (g := (mkF m 34 #[.val (.ref w_3), .val (.ref w_3), .val (.ref w_4), .val (.int (4 : Int32)), .val (.int (((0 : Int32) + (1 : Int32)) + (1 : Int32))), .val (.ref w_3)] [(.ref w_3), (.ref w_3)])) rfl (by rw [hml]; rfl) (Steps.refl _) (argsL := [(.ref w_3)]) (rest := []) (lenOf pd_1 rfl) rfl (by show 2 * 0 + _ ≤ _; exact Nat.le_of_eq rfl) (hb hby d2_34) (fun _ _ => ⟨rfl, e214, (by decide : 0 + 0 ≤ _), (by decide : 0 + 0 ≤ _)⟩)
  dsimp only [Pt.U, Pt.locs, Pt.cells, Pt.slots] at X215 l215 y215 z215 st215 hQ215
  subst l215 y215 z215
  obtain ⟨rv215, N215q, e215⟩ := hQ215
  rw [show sp3 w_3 w_3 (0 : Int32) = (1 : Int32) from by unfold sp3; rw [if_pos rfl, if_pos (by decide : ((0 : Int32) = (0 : Int32)))]] at rv215
  subst rv215
  have N215 := Fr.app N214 N215q
  obtain ⟨cl216, Ar216, qa216, Sa216, Ma216, Ha216, Ga216⟩ := id (V_4.ext O0.2)
  have hin216 : ¬ (((((0 : Int32) + (1 : Int32)) + (1 : Int32)) + (1 : Int32)) < 0 ∨ cl216.slots.size ≤ (((((0 : Int32) + (1 : Int32)) + (1 : Int32)) + (1 : Int32))).toNatClampNeg) := by  exact inb_of Sa216 ⟨by decide, by decide⟩
  have hat216 : cl216.slots[(((((0 : Int32) + (1 : Int32)) + (1 : Int32)) + (1 : Int32))).toNatClampNeg]? = some (.ref w_2) := Has.at Ha216 hin216 (by rfl)
  obtain ⟨cq217, kq217, q217a, q217b, q217c⟩ := isOf hZ e215 (E_3.ext O0.2)
  obtain ⟨_, _, ⟨T217, L217, k217, n217⟩, -, X217, ⟨Lc217, hQ217, l217, y217, z217⟩, st217⟩ := X215.virtualBack hx (y := Y1) (z := Y1) hown (mvT hZ (hw _ (tk 18 rfl))) (mvT hZ (hw _ (tk 19 rfl))) (notFace_of_selects (args := #[]) (mvT hZ (hw _ (tk 21 rfl)))) (mvT hZ (hw _ (tk 21 rfl))) (mvT hZ (hw _ (tk 20 rfl))) (by decide) (backOf (W := 0) (rm3 l Z a0 hw [] w_1 w_2 w_3 w_4 w_5 k_4 hS0 w_3 w_2 (0 : Int32) h0 n0 O0 (F_3_sharedWithItself.ext O0.2)) hZ (hw _ (tk 22 rfl)) (hw _ (tk 5 rfl)) (by decide) (by decide)) q217a q217c (g := (mkF m 25 #[.val (.ref w_3), .val (.ref w_3), .val (.ref w_4), .val (.int (4 : Int32)), .val (.int ((((0 : Int32) + (1 : Int32)) + (1 : Int32)) + (1 : Int32))), .val (.ref w_2)] [(.ref w_2), (.ref w_3)])) rfl (by rw [hml]; rfl) (Steps.refl _) (argsL := [(.ref w_2)]) (rest := []) (lenOf pd_1 rfl) rfl (by show 2 * 0 + _ ≤ _; exact Nat.le_of_eq rfl) (hb hby d2_25) (fun _ _ => ⟨rfl, e215, (by decide : 0 + 0 ≤ _), (by decide : 0 + 0 ≤ _)⟩)
  dsimp only [Pt.U, Pt.locs, Pt.cells, Pt.slots] at X217 l217 y217 z217 st217 hQ217
  subst l217 y217 z217
  obtain ⟨rv217, N217q, e217⟩ := hQ217
  rw [show sp3 w_3 w_2 (0 : Int32) = (1 : Int32) from by unfold sp3; rw [if_neg (Fld.ne F_3_ordinal F_2_ordinal (by decide))]] at rv217
  subst rv217
  have N217 := Fr.app N215 N217q
  obtain ⟨cq218, kq218, q218a, q218b, q218c⟩ := isOf hZ e217 (E_3.ext O0.2)
  obtain ⟨_, _, ⟨T218, L218, k218, n218⟩, -, X218, ⟨Lc218, hQ218, l218, y218, z218⟩, st218⟩ := X217.virtualBack hx (y := Y1) (z := Y1) hown (mvT hZ (hw _ (tk 18 rfl))) (mvT hZ (hw _ (tk 19 rfl))) (notFace_of_selects (args := #[]) (mvT hZ (hw _ (tk 21 rfl)))) (mvT hZ (hw _ (tk 21 rfl))) (mvT hZ (hw _ (tk 20 rfl))) (by decide) (backOf (W := 0) (rm3 l Z a0 hw [] w_1 w_2 w_3 w_4 w_5 k_4 hS0 w_3 w_2 (0 : Int32) h0 n0 O0 (F_3_sharedWithItself.ext O0.2)) hZ (hw _ (tk 22 rfl)) (hw _ (tk 5 rfl)) (by decide) (by decide)) q218a q218c (g := (mkF m 34 #[.val (.ref w_3), .val (.ref w_3), .val (.ref w_4), .val (.int (4 : Int32)), .val (.int ((((0 : Int32) + (1 : Int32)) + (1 : Int32)) + (1 : Int32))), .val (.ref w_2)] [(.ref w_2), (.ref w_3)])) rfl (by rw [hml]; rfl) (Steps.refl _) (argsL := [(.ref w_2)]) (rest := []) (lenOf pd_1 rfl) rfl (by show 2 * 0 + _ ≤ _; exact Nat.le_of_eq rfl) (hb hby d2_34) (fun _ _ => ⟨rfl, e217, (by decide : 0 + 0 ≤ _), (by decide : 0 + 0 ≤ _)⟩)
  dsimp only [Pt.U, Pt.locs, Pt.cells, Pt.slots] at X218 l218 y218 z218 st218 hQ218
  subst l218 y218 z218
  obtain ⟨rv218, N218q, e218⟩ := hQ218
  rw [show sp3 w_3 w_2 (0 : Int32) = (1 : Int32) from by unfold sp3; rw [if_neg (Fld.ne F_3_ordinal F_2_ordinal (by decide))]] at rv218
  subst rv218
  have N218 := Fr.app N217 N218q
  obtain ⟨fs, hr, hrun, hended, hW, hsame⟩ := X218.leave (v := some (.int (1 : Int32))) (fun h => by rw [Bd.returns] at h; cases h)
  refine ⟨_, _, pre0 _ ?_, hrun, hended, _, _, rfl, ?_, ⟨_, rfl⟩, hW, hsame.mono (by decide) (by decide)⟩
  · show Steps p.tables e below (s₁.setTop (mkF m 0 #[.val (.ref w_3), .val (.ref w_3), .unset, .unset, .unset, .unset] [])) _
    refine st205 _ ?_
    show Steps p.tables e below (T205.setTop (mkF m 3 #[.val (.ref w_3), .val (.ref w_3), .unset, .unset, .unset, .unset] [(.ref w_4)])) _
    refine XS.astoreN X205.here hx rfl (hb hby d2_3) rfl rfl (l' := #[.val (.ref w_3), .val (.ref w_3), .val (.ref w_4), .unset, .unset, .unset]) rfl ?_
    show Steps p.tables e below (T205.setTop (mkF m 4 #[.val (.ref w_3), .val (.ref w_3), .val (.ref w_4), .unset, .unset, .unset] [])) _
    refine XS.aloadN X205.here hx rfl (hb hby d2_4) rfl rfl ?_
    show Steps p.tables e below (T205.setTop (mkF m 5 #[.val (.ref w_3), .val (.ref w_3), .val (.ref w_4), .unset, .unset, .unset] [(.ref w_4)])) _
    refine X205.arraylength hx (by rw [e205]; exact Ar206.1) (State.isArrayOf_alike hZ.alike Ar206.2.1) (g := (mkF m 5 #[.val (.ref w_3), .val (.ref w_3), .val (.ref w_4), .unset, .unset, .unset] [(.ref w_4)])) rfl rfl (hb hby d2_5) _ ?_
    rw [len_of Sa206 Ma206]
    show Steps p.tables e below (T205.setTop (mkF m 6 #[.val (.ref w_3), .val (.ref w_3), .val (.ref w_4), .unset, .unset, .unset] [(.int (4 : Int32))])) _
    refine XS.istoreN X205.here hx rfl (hb hby d2_6) rfl (l' := #[.val (.ref w_3), .val (.ref w_3), .val (.ref w_4), .val (.int (4 : Int32)), .unset, .unset]) rfl ?_
    show Steps p.tables e below (T205.setTop (mkF m 7 #[.val (.ref w_3), .val (.ref w_3), .val (.ref w_4), .val (.int (4 : Int32)), .unset, .unset] [])) _
    refine XS.iconst X205.here hx rfl (hb hby d2_7) ?_
    show Steps p.tables e below (T205.setTop (mkF m 8 #[.val (.ref w_3), .val (.ref w_3), .val (.ref w_4), .val (.int (4 : Int32)), .unset, .unset] [(.int (0 : Int32))])) _
    refine XS.istore X205.here hx rfl (hb hby d2_8) rfl (l' := #[.val (.ref w_3), .val (.ref w_3), .val (.ref w_4), .val (.int (4 : Int32)), .val (.int (0 : Int32)), .unset]) rfl ?_
    show Steps p.tables e below (T205.setTop (mkF m 10 #[.val (.ref w_3), .val (.ref w_3), .val (.ref w_4), .val (.int (4 : Int32)), .val (.int (0 : Int32)), .unset] [])) _
    refine XS.iload X205.here hx rfl (hb hby d2_10) rfl ?_
    show Steps p.tables e below (T205.setTop (mkF m 12 #[.val (.ref w_3), .val (.ref w_3), .val (.ref w_4), .val (.int (4 : Int32)), .val (.int (0 : Int32)), .unset] [(.int (0 : Int32))])) _
    refine XS.iloadN X205.here hx rfl (hb hby d2_12) rfl ?_
    show Steps p.tables e below (T205.setTop (mkF m 13 #[.val (.ref w_3), .val (.ref w_3), .val (.ref w_4), .val (.int (4 : Int32)), .val (.int (0 : Int32)), .unset] [(.int (4 : Int32)), (.int (0 : Int32))])) _
    refine XS.icmpNo X205.here hx rfl (hb hby d2_13) rfl (tlt (by decide : ((0 : Int32) < (4 : Int32)))).2.1 ?_
    show Steps p.tables e below (T205.setTop (mkF m 16 #[.val (.ref w_3), .val (.ref w_3), .val (.ref w_4), .val (.int (4 : Int32)), .val (.int (0 : Int32)), .unset] [])) _
    refine XS.aloadN X205.here hx rfl (hb hby d2_16) rfl rfl ?_
    show Steps p.tables e below (T205.setTop (mkF m 17 #[.val (.ref w_3), .val (.ref w_3), .val (.ref w_4), .val (.int (4 : Int32)), .val (.int (0 : Int32)), .unset] [(.ref w_4)])) _
    refine XS.iload X205.here hx rfl (hb hby d2_17) rfl ?_
    show Steps p.tables e below (T205.setTop (mkF m 19 #[.val (.ref w_3), .val (.ref w_3), .val (.ref w_4), .val (.int (4 : Int32)), .val (.int (0 : Int32)), .unset] [(.int (0 : Int32)), (.ref w_4)])) _
    refine X205.aaload hx (j := (0 : Int32)) (v := (.ref w_1)) (by rw [e205]; exact Ar207.1) (State.isArrayOf_alike hZ.alike Ar207.2.1) rfl Ar207.2.2 hin207 hat207 (g := (mkF m 19 #[.val (.ref w_3), .val (.ref w_3), .val (.ref w_4), .val (.int (4 : Int32)), .val (.int (0 : Int32)), .unset] [(.int (0 : Int32)), (.ref w_4)])) rfl rfl (hb hby d2_19) _ ?_
    show Steps p.tables e below (T205.setTop (mkF m 20 #[.val (.ref w_3), .val (.ref w_3), .val (.ref w_4), .val (.int (4 : Int32)), .val (.int (0 : Int32)), .unset] [(.ref w_1)])) _
    refine XS.astore X205.here hx rfl (hb hby d2_20) rfl rfl (l' := #[.val (.ref w_3), .val (.ref w_3), .val (.ref w_4), .val (.int (4 : Int32)), .val (.int (0 : Int32)), .val (.ref w_1)]) rfl ?_
    show Steps p.tables e below (T205.setTop (mkF m 22 #[.val (.ref w_3), .val (.ref w_3), .val (.ref w_4), .val (.int (4 : Int32)), .val (.int (0 : Int32)), .val (.ref w_1)] [])) _
    refine XS.aloadN X205.here hx rfl (hb hby d2_22) rfl rfl ?_
    show Steps p.tables e below (T205.setTop (mkF m 23 #[.val (.ref w_3), .val (.ref w_3), .val (.ref w_4), .val (.int (4 : Int32)), .val (.int (0 : Int32)), .val (.ref w_1)] [(.ref w_3)])) _
    refine XS.aload X205.here hx rfl (hb hby d2_23) rfl rfl ?_
    show Steps p.tables e below (T205.setTop (mkF m 25 #[.val (.ref w_3), .val (.ref w_3), .val (.ref w_4), .val (.int (4 : Int32)), .val (.int (0 : Int32)), .val (.ref w_1)] [(.ref w_1), (.ref w_3)])) _
    refine st208.trans ?_
    show Steps p.tables e below (T208.setTop (mkF m 28 #[.val (.ref w_3), .val (.ref w_3), .val (.ref w_4), .val (.int (4 : Int32)), .val (.int (0 : Int32)), .val (.ref w_1)] [(.int (1 : Int32))])) _
    refine XS.ifNo X208.here hx rfl (hb hby d2_28) rfl ((if0 _ _).trans (feq (by decide : ¬ ((1 : Int32) = (0 : Int32)))).1) ?_
    show Steps p.tables e below (T208.setTop (mkF m 31 #[.val (.ref w_3), .val (.ref w_3), .val (.ref w_4), .val (.int (4 : Int32)), .val (.int (0 : Int32)), .val (.ref w_1)] [])) _
    refine XS.aloadN X208.here hx rfl (hb hby d2_31) rfl rfl ?_
    show Steps p.tables e below (T208.setTop (mkF m 32 #[.val (.ref w_3), .val (.ref w_3), .val (.ref w_4), .val (.int (4 : Int32)), .val (.int (0 : Int32)), .val (.ref w_1)] [(.ref w_3)])) _
    refine XS.aload X208.here hx rfl (hb hby d2_32) rfl rfl ?_
    show Steps p.tables e below (T208.setTop (mkF m 34 #[.val (.ref w_3), .val (.ref w_3), .val (.ref w_4), .val (.int (4 : Int32)), .val (.int (0 : Int32)), .val (.ref w_1)] [(.ref w_1), (.ref w_3)])) _
    refine st209.trans ?_
    show Steps p.tables e below (T209.setTop (mkF m 37 #[.val (.ref w_3), .val (.ref w_3), .val (.ref w_4), .val (.int (4 : Int32)), .val (.int (0 : Int32)), .val (.ref w_1)] [(.int (1 : Int32))])) _
    refine XS.ifYes X209.here hx rfl (pc0 := 37) (pc' := 42) rfl (hb hby d2_37) rfl ((if0 _ _).trans (feq (by decide : ¬ ((1 : Int32) = (0 : Int32)))).2) (by decide) (by decide) ?_
    show Steps p.tables e below (T209.setTop (mkF m 42 #[.val (.ref w_3), .val (.ref w_3), .val (.ref w_4), .val (.int (4 : Int32)), .val (.int (0 : Int32)), .val (.ref w_1)] [])) _
    refine XS.iinc X209.here hx rfl (hb hby d2_42) rfl (l' := #[.val (.ref w_3), .val (.ref w_3), .val (.ref w_4), .val (.int (4 : Int32)), .val (.int ((0 : Int32) + (1 : Int32))), .val (.ref w_1)]) rfl ?_
    show Steps p.tables e below (T209.setTop (mkF m 45 #[.val (.ref w_3), .val (.ref w_3), .val (.ref w_4), .val (.int (4 : Int32)), .val (.int ((0 : Int32) + (1 : Int32))), .val (.ref w_1)] [])) _
    refine XS.goto X209.here hx rfl (pc0 := 45) (pc' := 10) rfl (hb hby d2_45) (by decide) (by decide) ?_
    show Steps p.tables e below (T209.setTop (mkF m 10 #[.val (.ref w_3), .val (.ref w_3), .val (.ref w_4), .val (.int (4 : Int32)), .val (.int ((0 : Int32) + (1 : Int32))), .val (.ref w_1)] [])) _
    refine XS.iload X209.here hx rfl (hb hby d2_10) rfl ?_
    show Steps p.tables e below (T209.setTop (mkF m 12 #[.val (.ref w_3), .val (.ref w_3), .val (.ref w_4), .val (.int (4 : Int32)), .val (.int ((0 : Int32) + (1 : Int32))), .val (.ref w_1)] [(.int ((0 : Int32) + (1 : Int32)))])) _
    refine XS.iloadN X209.here hx rfl (hb hby d2_12) rfl ?_
    show Steps p.tables e below (T209.setTop (mkF m 13 #[.val (.ref w_3), .val (.ref w_3), .val (.ref w_4), .val (.int (4 : Int32)), .val (.int ((0 : Int32) + (1 : Int32))), .val (.ref w_1)] [(.int (4 : Int32)), (.int ((0 : Int32) + (1 : Int32)))])) _
    refine XS.icmpNo X209.here hx rfl (hb hby d2_13) rfl (tlt (by decide : (((0 : Int32) + (1 : Int32)) < (4 : Int32)))).2.1 ?_
    show Steps p.tables e below (T209.setTop (mkF m 16 #[.val (.ref w_3), .val (.ref w_3), .val (.ref w_4), .val (.int (4 : Int32)), .val (.int ((0 : Int32) + (1 : Int32))), .val (.ref w_1)] [])) _
    refine XS.aloadN X209.here hx rfl (hb hby d2_16) rfl rfl ?_
    show Steps p.tables e below (T209.setTop (mkF m 17 #[.val (.ref w_3), .val (.ref w_3), .val (.ref w_4), .val (.int (4 : Int32)), .val (.int ((0 : Int32) + (1 : Int32))), .val (.ref w_1)] [(.ref w_4)])) _
    refine XS.iload X209.here hx rfl (hb hby d2_17) rfl ?_
    show Steps p.tables e below (T209.setTop (mkF m 19 #[.val (.ref w_3), .val (.ref w_3), .val (.ref w_4), .val (.int (4 : Int32)), .val (.int ((0 : Int32) + (1 : Int32))), .val (.ref w_1)] [(.int ((0 : Int32) + (1 : Int32))), (.ref w_4)])) _
    refine X209.aaload hx (j := ((0 : Int32) + (1 : Int32))) (v := (.ref w_5)) (by rw [e209]; exact Ar210.1) (State.isArrayOf_alike hZ.alike Ar210.2.1) rfl Ar210.2.2 hin210 hat210 (g := (mkF m 19 #[.val (.ref w_3), .val (.ref w_3), .val (.ref w_4), .val (.int (4 : Int32)), .val (.int ((0 : Int32) + (1 : Int32))), .val (.ref w_1)] [(.int ((0 : Int32) + (1 : Int32))), (.ref w_4)])) rfl rfl (hb hby d2_19) _ ?_
    show Steps p.tables e below (T209.setTop (mkF m 20 #[.val (.ref w_3), .val (.ref w_3), .val (.ref w_4), .val (.int (4 : Int32)), .val (.int ((0 : Int32) + (1 : Int32))), .val (.ref w_1)] [(.ref w_5)])) _
    refine XS.astore X209.here hx rfl (hb hby d2_20) rfl rfl (l' := #[.val (.ref w_3), .val (.ref w_3), .val (.ref w_4), .val (.int (4 : Int32)), .val (.int ((0 : Int32) + (1 : Int32))), .val (.ref w_5)]) rfl ?_
    show Steps p.tables e below (T209.setTop (mkF m 22 #[.val (.ref w_3), .val (.ref w_3), .val (.ref w_4), .val (.int (4 : Int32)), .val (.int ((0 : Int32) + (1 : Int32))), .val (.ref w_5)] [])) _
    refine XS.aloadN X209.here hx rfl (hb hby d2_22) rfl rfl ?_
    show Steps p.tables e below (T209.setTop (mkF m 23 #[.val (.ref w_3), .val (.ref w_3), .val (.ref w_4), .val (.int (4 : Int32)), .val (.int ((0 : Int32) + (1 : Int32))), .val (.ref w_5)] [(.ref w_3)])) _
    refine XS.aload X209.here hx rfl (hb hby d2_23) rfl rfl ?_
    show Steps p.tables e below (T209.setTop (mkF m 25 #[.val (.ref w_3), .val (.ref w_3), .val (.ref w_4), .val (.int (4 : Int32)), .val (.int ((0 : Int32) + (1 : Int32))), .val (.ref w_5)] [(.ref w_5), (.ref w_3)])) _
    refine st211.trans ?_
    show Steps p.tables e below (T211.setTop (mkF m 28 #[.val (.ref w_3), .val (.ref w_3), .val (.ref w_4), .val (.int (4 : Int32)), .val (.int ((0 : Int32) + (1 : Int32))), .val (.ref w_5)] [(.int (1 : Int32))])) _
    refine XS.ifNo X211.here hx rfl (hb hby d2_28) rfl ((if0 _ _).trans (feq (by decide : ¬ ((1 : Int32) = (0 : Int32)))).1) ?_
    show Steps p.tables e below (T211.setTop (mkF m 31 #[.val (.ref w_3), .val (.ref w_3), .val (.ref w_4), .val (.int (4 : Int32)), .val (.int ((0 : Int32) + (1 : Int32))), .val (.ref w_5)] [])) _
    refine XS.aloadN X211.here hx rfl (hb hby d2_31) rfl rfl ?_
    show Steps p.tables e below (T211.setTop (mkF m 32 #[.val (.ref w_3), .val (.ref w_3), .val (.ref w_4), .val (.int (4 : Int32)), .val (.int ((0 : Int32) + (1 : Int32))), .val (.ref w_5)] [(.ref w_3)])) _
    refine XS.aload X211.here hx rfl (hb hby d2_32) rfl rfl ?_
    show Steps p.tables e below (T211.setTop (mkF m 34 #[.val (.ref w_3), .val (.ref w_3), .val (.ref w_4), .val (.int (4 : Int32)), .val (.int ((0 : Int32) + (1 : Int32))), .val (.ref w_5)] [(.ref w_5), (.ref w_3)])) _
    refine st212.trans ?_
    show Steps p.tables e below (T212.setTop (mkF m 37 #[.val (.ref w_3), .val (.ref w_3), .val (.ref w_4), .val (.int (4 : Int32)), .val (.int ((0 : Int32) + (1 : Int32))), .val (.ref w_5)] [(.int (1 : Int32))])) _
    refine XS.ifYes X212.here hx rfl (pc0 := 37) (pc' := 42) rfl (hb hby d2_37) rfl ((if0 _ _).trans (feq (by decide : ¬ ((1 : Int32) = (0 : Int32)))).2) (by decide) (by decide) ?_
    show Steps p.tables e below (T212.setTop (mkF m 42 #[.val (.ref w_3), .val (.ref w_3), .val (.ref w_4), .val (.int (4 : Int32)), .val (.int ((0 : Int32) + (1 : Int32))), .val (.ref w_5)] [])) _
    refine XS.iinc X212.here hx rfl (hb hby d2_42) rfl (l' := #[.val (.ref w_3), .val (.ref w_3), .val (.ref w_4), .val (.int (4 : Int32)), .val (.int (((0 : Int32) + (1 : Int32)) + (1 : Int32))), .val (.ref w_5)]) rfl ?_
    show Steps p.tables e below (T212.setTop (mkF m 45 #[.val (.ref w_3), .val (.ref w_3), .val (.ref w_4), .val (.int (4 : Int32)), .val (.int (((0 : Int32) + (1 : Int32)) + (1 : Int32))), .val (.ref w_5)] [])) _
    refine XS.goto X212.here hx rfl (pc0 := 45) (pc' := 10) rfl (hb hby d2_45) (by decide) (by decide) ?_
    show Steps p.tables e below (T212.setTop (mkF m 10 #[.val (.ref w_3), .val (.ref w_3), .val (.ref w_4), .val (.int (4 : Int32)), .val (.int (((0 : Int32) + (1 : Int32)) + (1 : Int32))), .val (.ref w_5)] [])) _
    refine XS.iload X212.here hx rfl (hb hby d2_10) rfl ?_
    show Steps p.tables e below (T212.setTop (mkF m 12 #[.val (.ref w_3), .val (.ref w_3), .val (.ref w_4), .val (.int (4 : Int32)), .val (.int (((0 : Int32) + (1 : Int32)) + (1 : Int32))), .val (.ref w_5)] [(.int (((0 : Int32) + (1 : Int32)) + (1 : Int32)))])) _
    refine XS.iloadN X212.here hx rfl (hb hby d2_12) rfl ?_
    show Steps p.tables e below (T212.setTop (mkF m 13 #[.val (.ref w_3), .val (.ref w_3), .val (.ref w_4), .val (.int (4 : Int32)), .val (.int (((0 : Int32) + (1 : Int32)) + (1 : Int32))), .val (.ref w_5)] [(.int (4 : Int32)), (.int (((0 : Int32) + (1 : Int32)) + (1 : Int32)))])) _
    refine XS.icmpNo X212.here hx rfl (hb hby d2_13) rfl (tlt (by decide : ((((0 : Int32) + (1 : Int32)) + (1 : Int32)) < (4 : Int32)))).2.1 ?_
    show Steps p.tables e below (T212.setTop (mkF m 16 #[.val (.ref w_3), .val (.ref w_3), .val (.ref w_4), .val (.int (4 : Int32)), .val (.int (((0 : Int32) + (1 : Int32)) + (1 : Int32))), .val (.ref w_5)] [])) _
    refine XS.aloadN X212.here hx rfl (hb hby d2_16) rfl rfl ?_
    show Steps p.tables e below (T212.setTop (mkF m 17 #[.val (.ref w_3), .val (.ref w_3), .val (.ref w_4), .val (.int (4 : Int32)), .val (.int (((0 : Int32) + (1 : Int32)) + (1 : Int32))), .val (.ref w_5)] [(.ref w_4)])) _
    refine XS.iload X212.here hx rfl (hb hby d2_17) rfl ?_
    show Steps p.tables e below (T212.setTop (mkF m 19 #[.val (.ref w_3), .val (.ref w_3), .val (.ref w_4), .val (.int (4 : Int32)), .val (.int (((0 : Int32) + (1 : Int32)) + (1 : Int32))), .val (.ref w_5)] [(.int (((0 : Int32) + (1 : Int32)) + (1 : Int32))), (.ref w_4)])) _
    refine X212.aaload hx (j := (((0 : Int32) + (1 : Int32)) + (1 : Int32))) (v := (.ref w_3)) (by rw [e212]; exact Ar213.1) (State.isArrayOf_alike hZ.alike Ar213.2.1) rfl Ar213.2.2 hin213 hat213 (g := (mkF m 19 #[.val (.ref w_3), .val (.ref w_3), .val (.ref w_4), .val (.int (4 : Int32)), .val (.int (((0 : Int32) + (1 : Int32)) + (1 : Int32))), .val (.ref w_5)] [(.int (((0 : Int32) + (1 : Int32)) + (1 : Int32))), (.ref w_4)])) rfl rfl (hb hby d2_19) _ ?_
    show Steps p.tables e below (T212.setTop (mkF m 20 #[.val (.ref w_3), .val (.ref w_3), .val (.ref w_4), .val (.int (4 : Int32)), .val (.int (((0 : Int32) + (1 : Int32)) + (1 : Int32))), .val (.ref w_5)] [(.ref w_3)])) _
    refine XS.astore X212.here hx rfl (hb hby d2_20) rfl rfl (l' := #[.val (.ref w_3), .val (.ref w_3), .val (.ref w_4), .val (.int (4 : Int32)), .val (.int (((0 : Int32) + (1 : Int32)) + (1 : Int32))), .val (.ref w_3)]) rfl ?_
    show Steps p.tables e below (T212.setTop (mkF m 22 #[.val (.ref w_3), .val (.ref w_3), .val (.ref w_4), .val (.int (4 : Int32)), .val (.int (((0 : Int32) + (1 : Int32)) + (1 : Int32))), .val (.ref w_3)] [])) _
    refine XS.aloadN X212.here hx rfl (hb hby d2_22) rfl rfl ?_
    show Steps p.tables e below (T212.setTop (mkF m 23 #[.val (.ref w_3), .val (.ref w_3), .val (.ref w_4), .val (.int (4 : Int32)), .val (.int (((0 : Int32) + (1 : Int32)) + (1 : Int32))), .val (.ref w_3)] [(.ref w_3)])) _
    refine XS.aload X212.here hx rfl (hb hby d2_23) rfl rfl ?_
    show Steps p.tables e below (T212.setTop (mkF m 25 #[.val (.ref w_3), .val (.ref w_3), .val (.ref w_4), .val (.int (4 : Int32)), .val (.int (((0 : Int32) + (1 : Int32)) + (1 : Int32))), .val (.ref w_3)] [(.ref w_3), (.ref w_3)])) _
    refine st214.trans ?_
    show Steps p.tables e below (T214.setTop (mkF m 28 #[.val (.ref w_3), .val (.ref w_3), .val (.ref w_4), .val (.int (4 : Int32)), .val (.int (((0 : Int32) + (1 : Int32)) + (1 : Int32))), .val (.ref w_3)] [(.int (1 : Int32))])) _
    refine XS.ifNo X214.here hx rfl (hb hby d2_28) rfl ((if0 _ _).trans (feq (by decide : ¬ ((1 : Int32) = (0 : Int32)))).1) ?_
    show Steps p.tables e below (T214.setTop (mkF m 31 #[.val (.ref w_3), .val (.ref w_3), .val (.ref w_4), .val (.int (4 : Int32)), .val (.int (((0 : Int32) + (1 : Int32)) + (1 : Int32))), .val (.ref w_3)] [])) _
    refine XS.aloadN X214.here hx rfl (hb hby d2_31) rfl rfl ?_
    show Steps p.tables e below (T214.setTop (mkF m 32 #[.val (.ref w_3), .val (.ref w_3), .val (.ref w_4), .val (.int (4 : Int32)), .val (.int (((0 : Int32) + (1 : Int32)) + (1 : Int32))), .val (.ref w_3)] [(.ref w_3)])) _
    refine XS.aload X214.here hx rfl (hb hby d2_32) rfl rfl ?_
    show Steps p.tables e below (T214.setTop (mkF m 34 #[.val (.ref w_3), .val (.ref w_3), .val (.ref w_4), .val (.int (4 : Int32)), .val (.int (((0 : Int32) + (1 : Int32)) + (1 : Int32))), .val (.ref w_3)] [(.ref w_3), (.ref w_3)])) _
    refine st215.trans ?_
    show Steps p.tables e below (T215.setTop (mkF m 37 #[.val (.ref w_3), .val (.ref w_3), .val (.ref w_4), .val (.int (4 : Int32)), .val (.int (((0 : Int32) + (1 : Int32)) + (1 : Int32))), .val (.ref w_3)] [(.int (1 : Int32))])) _
    refine XS.ifYes X215.here hx rfl (pc0 := 37) (pc' := 42) rfl (hb hby d2_37) rfl ((if0 _ _).trans (feq (by decide : ¬ ((1 : Int32) = (0 : Int32)))).2) (by decide) (by decide) ?_
    show Steps p.tables e below (T215.setTop (mkF m 42 #[.val (.ref w_3), .val (.ref w_3), .val (.ref w_4), .val (.int (4 : Int32)), .val (.int (((0 : Int32) + (1 : Int32)) + (1 : Int32))), .val (.ref w_3)] [])) _
    refine XS.iinc X215.here hx rfl (hb hby d2_42) rfl (l' := #[.val (.ref w_3), .val (.ref w_3), .val (.ref w_4), .val (.int (4 : Int32)), .val (.int ((((0 : Int32) + (1 : Int32)) + (1 : Int32)) + (1 : Int32))), .val (.ref w_3)]) rfl ?_
    show Steps p.tables e below (T215.setTop (mkF m 45 #[.val (.ref w_3), .val (.ref w_3), .val (.ref w_4), .val (.int (4 : Int32)), .val (.int ((((0 : Int32) + (1 : Int32)) + (1 : Int32)) + (1 : Int32))), .val (.ref w_3)] [])) _
    refine XS.goto X215.here hx rfl (pc0 := 45) (pc' := 10) rfl (hb hby d2_45) (by decide) (by decide) ?_
    show Steps p.tables e below (T215.setTop (mkF m 10 #[.val (.ref w_3), .val (.ref w_3), .val (.ref w_4), .val (.int (4 : Int32)), .val (.int ((((0 : Int32) + (1 : Int32)) + (1 : Int32)) + (1 : Int32))), .val (.ref w_3)] [])) _
    refine XS.iload X215.here hx rfl (hb hby d2_10) rfl ?_
    show Steps p.tables e below (T215.setTop (mkF m 12 #[.val (.ref w_3), .val (.ref w_3), .val (.ref w_4), .val (.int (4 : Int32)), .val (.int ((((0 : Int32) + (1 : Int32)) + (1 : Int32)) + (1 : Int32))), .val (.ref w_3)] [(.int ((((0 : Int32) + (1 : Int32)) + (1 : Int32)) + (1 : Int32)))])) _
    refine XS.iloadN X215.here hx rfl (hb hby d2_12) rfl ?_
    show Steps p.tables e below (T215.setTop (mkF m 13 #[.val (.ref w_3), .val (.ref w_3), .val (.ref w_4), .val (.int (4 : Int32)), .val (.int ((((0 : Int32) + (1 : Int32)) + (1 : Int32)) + (1 : Int32))), .val (.ref w_3)] [(.int (4 : Int32)), (.int ((((0 : Int32) + (1 : Int32)) + (1 : Int32)) + (1 : Int32)))])) _
    refine XS.icmpNo X215.here hx rfl (hb hby d2_13) rfl (tlt (by decide : (((((0 : Int32) + (1 : Int32)) + (1 : Int32)) + (1 : Int32)) < (4 : Int32)))).2.1 ?_
    show Steps p.tables e below (T215.setTop (mkF m 16 #[.val (.ref w_3), .val (.ref w_3), .val (.ref w_4), .val (.int (4 : Int32)), .val (.int ((((0 : Int32) + (1 : Int32)) + (1 : Int32)) + (1 : Int32))), .val (.ref w_3)] [])) _
    refine XS.aloadN X215.here hx rfl (hb hby d2_16) rfl rfl ?_
    show Steps p.tables e below (T215.setTop (mkF m 17 #[.val (.ref w_3), .val (.ref w_3), .val (.ref w_4), .val (.int (4 : Int32)), .val (.int ((((0 : Int32) + (1 : Int32)) + (1 : Int32)) + (1 : Int32))), .val (.ref w_3)] [(.ref w_4)])) _
    refine XS.iload X215.here hx rfl (hb hby d2_17) rfl ?_
    show Steps p.tables e below (T215.setTop (mkF m 19 #[.val (.ref w_3), .val (.ref w_3), .val (.ref w_4), .val (.int (4 : Int32)), .val (.int ((((0 : Int32) + (1 : Int32)) + (1 : Int32)) + (1 : Int32))), .val (.ref w_3)] [(.int ((((0 : Int32) + (1 : Int32)) + (1 : Int32)) + (1 : Int32))), (.ref w_4)])) _
    refine X215.aaload hx (j := ((((0 : Int32) + (1 : Int32)) + (1 : Int32)) + (1 : Int32))) (v := (.ref w_2)) (by rw [e215]; exact Ar216.1) (State.isArrayOf_alike hZ.alike Ar216.2.1) rfl Ar216.2.2 hin216 hat216 (g := (mkF m 19 #[.val (.ref w_3), .val (.ref w_3), .val (.ref w_4), .val (.int (4 : Int32)), .val (.int ((((0 : Int32) + (1 : Int32)) + (1 : Int32)) + (1 : Int32))), .val (.ref w_3)] [(.int ((((0 : Int32) + (1 : Int32)) + (1 : Int32)) + (1 : Int32))), (.ref w_4)])) rfl rfl (hb hby d2_19) _ ?_
    show Steps p.tables e below (T215.setTop (mkF m 20 #[.val (.ref w_3), .val (.ref w_3), .val (.ref w_4), .val (.int (4 : Int32)), .val (.int ((((0 : Int32) + (1 : Int32)) + (1 : Int32)) + (1 : Int32))), .val (.ref w_3)] [(.ref w_2)])) _
    refine XS.astore X215.here hx rfl (hb hby d2_20) rfl rfl (l' := #[.val (.ref w_3), .val (.ref w_3), .val (.ref w_4), .val (.int (4 : Int32)), .val (.int ((((0 : Int32) + (1 : Int32)) + (1 : Int32)) + (1 : Int32))), .val (.ref w_2)]) rfl ?_
    show Steps p.tables e below (T215.setTop (mkF m 22 #[.val (.ref w_3), .val (.ref w_3), .val (.ref w_4), .val (.int (4 : Int32)), .val (.int ((((0 : Int32) + (1 : Int32)) + (1 : Int32)) + (1 : Int32))), .val (.ref w_2)] [])) _
    refine XS.aloadN X215.here hx rfl (hb hby d2_22) rfl rfl ?_
    show Steps p.tables e below (T215.setTop (mkF m 23 #[.val (.ref w_3), .val (.ref w_3), .val (.ref w_4), .val (.int (4 : Int32)), .val (.int ((((0 : Int32) + (1 : Int32)) + (1 : Int32)) + (1 : Int32))), .val (.ref w_2)] [(.ref w_3)])) _
    refine XS.aload X215.here hx rfl (hb hby d2_23) rfl rfl ?_
    show Steps p.tables e below (T215.setTop (mkF m 25 #[.val (.ref w_3), .val (.ref w_3), .val (.ref w_4), .val (.int (4 : Int32)), .val (.int ((((0 : Int32) + (1 : Int32)) + (1 : Int32)) + (1 : Int32))), .val (.ref w_2)] [(.ref w_2), (.ref w_3)])) _
    refine st217.trans ?_
    show Steps p.tables e below (T217.setTop (mkF m 28 #[.val (.ref w_3), .val (.ref w_3), .val (.ref w_4), .val (.int (4 : Int32)), .val (.int ((((0 : Int32) + (1 : Int32)) + (1 : Int32)) + (1 : Int32))), .val (.ref w_2)] [(.int (1 : Int32))])) _
    refine XS.ifNo X217.here hx rfl (hb hby d2_28) rfl ((if0 _ _).trans (feq (by decide : ¬ ((1 : Int32) = (0 : Int32)))).1) ?_
    show Steps p.tables e below (T217.setTop (mkF m 31 #[.val (.ref w_3), .val (.ref w_3), .val (.ref w_4), .val (.int (4 : Int32)), .val (.int ((((0 : Int32) + (1 : Int32)) + (1 : Int32)) + (1 : Int32))), .val (.ref w_2)] [])) _
    refine XS.aloadN X217.here hx rfl (hb hby d2_31) rfl rfl ?_
    show Steps p.tables e below (T217.setTop (mkF m 32 #[.val (.ref w_3), .val (.ref w_3), .val (.ref w_4), .val (.int (4 : Int32)), .val (.int ((((0 : Int32) + (1 : Int32)) + (1 : Int32)) + (1 : Int32))), .val (.ref w_2)] [(.ref w_3)])) _
    refine XS.aload X217.here hx rfl (hb hby d2_32) rfl rfl ?_
    show Steps p.tables e below (T217.setTop (mkF m 34 #[.val (.ref w_3), .val (.ref w_3), .val (.ref w_4), .val (.int (4 : Int32)), .val (.int ((((0 : Int32) + (1 : Int32)) + (1 : Int32)) + (1 : Int32))), .val (.ref w_2)] [(.ref w_2), (.ref w_3)])) _
    refine st218.trans ?_
    show Steps p.tables e below (T218.setTop (mkF m 37 #[.val (.ref w_3), .val (.ref w_3), .val (.ref w_4), .val (.int (4 : Int32)), .val (.int ((((0 : Int32) + (1 : Int32)) + (1 : Int32)) + (1 : Int32))), .val (.ref w_2)] [(.int (1 : Int32))])) _
    refine XS.ifYes X218.here hx rfl (pc0 := 37) (pc' := 42) rfl (hb hby d2_37) rfl ((if0 _ _).trans (feq (by decide : ¬ ((1 : Int32) = (0 : Int32)))).2) (by decide) (by decide) ?_
    show Steps p.tables e below (T218.setTop (mkF m 42 #[.val (.ref w_3), .val (.ref w_3), .val (.ref w_4), .val (.int (4 : Int32)), .val (.int ((((0 : Int32) + (1 : Int32)) + (1 : Int32)) + (1 : Int32))), .val (.ref w_2)] [])) _
    refine XS.iinc X218.here hx rfl (hb hby d2_42) rfl (l' := #[.val (.ref w_3), .val (.ref w_3), .val (.ref w_4), .val (.int (4 : Int32)), .val (.int (((((0 : Int32) + (1 : Int32)) + (1 : Int32)) + (1 : Int32)) + (1 : Int32))), .val (.ref w_2)]) rfl ?_
    show Steps p.tables e below (T218.setTop (mkF m 45 #[.val (.ref w_3), .val (.ref w_3), .val (.ref w_4), .val (.int (4 : Int32)), .val (.int (((((0 : Int32) + (1 : Int32)) + (1 : Int32)) + (1 : Int32)) + (1 : Int32))), .val (.ref w_2)] [])) _
    refine XS.goto X218.here hx rfl (pc0 := 45) (pc' := 10) rfl (hb hby d2_45) (by decide) (by decide) ?_
    show Steps p.tables e below (T218.setTop (mkF m 10 #[.val (.ref w_3), .val (.ref w_3), .val (.ref w_4), .val (.int (4 : Int32)), .val (.int (((((0 : Int32) + (1 : Int32)) + (1 : Int32)) + (1 : Int32)) + (1 : Int32))), .val (.ref w_2)] [])) _
    refine XS.iload X218.here hx rfl (hb hby d2_10) rfl ?_
    show Steps p.tables e below (T218.setTop (mkF m 12 #[.val (.ref w_3), .val (.ref w_3), .val (.ref w_4), .val (.int (4 : Int32)), .val (.int (((((0 : Int32) + (1 : Int32)) + (1 : Int32)) + (1 : Int32)) + (1 : Int32))), .val (.ref w_2)] [(.int (((((0 : Int32) + (1 : Int32)) + (1 : Int32)) + (1 : Int32)) + (1 : Int32)))])) _
    refine XS.iloadN X218.here hx rfl (hb hby d2_12) rfl ?_
    show Steps p.tables e below (T218.setTop (mkF m 13 #[.val (.ref w_3), .val (.ref w_3), .val (.ref w_4), .val (.int (4 : Int32)), .val (.int (((((0 : Int32) + (1 : Int32)) + (1 : Int32)) + (1 : Int32)) + (1 : Int32))), .val (.ref w_2)] [(.int (4 : Int32)), (.int (((((0 : Int32) + (1 : Int32)) + (1 : Int32)) + (1 : Int32)) + (1 : Int32)))])) _
    refine XS.icmpYes X218.here hx rfl (pc0 := 13) (pc' := 48) rfl (hb hby d2_13) rfl (flt (by decide : ¬ ((((((0 : Int32) + (1 : Int32)) + (1 : Int32)) + (1 : Int32)) + (1 : Int32)) < (4 : Int32)))).2.1 (by decide) (by decide) ?_
    show Steps p.tables e below (T218.setTop (mkF m 48 #[.val (.ref w_3), .val (.ref w_3), .val (.ref w_4), .val (.int (4 : Int32)), .val (.int (((((0 : Int32) + (1 : Int32)) + (1 : Int32)) + (1 : Int32)) + (1 : Int32))), .val (.ref w_2)] [])) _
    refine XS.iconst X218.here hx rfl (hb hby d2_48) ?_
    show Steps p.tables e below (T218.setTop (mkF m 49 #[.val (.ref w_3), .val (.ref w_3), .val (.ref w_4), .val (.int (4 : Int32)), .val (.int (((((0 : Int32) + (1 : Int32)) + (1 : Int32)) + (1 : Int32)) + (1 : Int32))), .val (.ref w_2)] [(.int (1 : Int32))])) _
    exact retN X218 hx (t := .boolean) Bd.returns (by simp) (hb hby d2_49) hr
  · show Q2x11 Z w_1 w_2 w_3 w_4 w_5 k_4 h0 n0 _ T218.heap _
    rw [e218]
    exact ⟨by unfold sp2x11; rfl, N218, rfl⟩
theorem pn_2x12 : plainName "com/example/lucid_locks/lucidlocks/locks/LockMode" = true := by first | (simp [plainName, overriddenIn]; done) | decide +kernel
theorem ef_2x12 (m : MethodId) (w_3 : Addr) (w_2 : Addr) : entryFrame m #[(.ref w_3), (.ref w_2)] 6 = mkF m 0 #[.val (.ref w_3), .val (.ref w_2), .unset, .unset, .unset, .unset] [] := by first | (simp [entryFrame, mkF, argsToLocals, Value.category]; done) | rfl
def sp2x12  : Int32 := (1 : Int32)
def Q2x12 (Z : State) (w_1 : Addr) (w_2 : Addr) (w_3 : Addr) (w_4 : Addr) (w_5 : Addr) (k_4 : ClassId) (h0 : Heap) (n0 : Nat) (v : Option Value) (h : Heap) (L : List Loc) : Prop := v = some (.int (sp2x12)) ∧ Fr n0 L ∧ h = h0
set_option maxRecDepth 65536 in
set_option maxHeartbeats 40000000 in
theorem rm2x12 (l : Launch) (Z : State) (a0 : Array Value) (hw : ∀ d ∈ tables_1, d.before a0 Z = true) (ws : List Jvm.Cond) (w_1 : Addr) (w_2 : Addr) (w_3 : Addr) (w_4 : Addr) (w_5 : Addr) (k_4 : ClassId) (hS : StF Z w_1 w_2 w_3 w_4 w_5 k_4) (h0 : Heap) (n0 : Nat) (O0 : Old Z n0 h0) :
    MetFree l Y2 (head1 (Jvm.Cond.code Y2 prog_17_method_7_code 6 (some .boolean) :: ws) ({ frames := 1, cells := 0, slots := 0, locals := 13 } : Room)) (fun a U => a = #[(.ref w_3), (.ref w_2)] ∧ Z.Warmed39 U.vm ∧ U.heap = h0) (fun _ _ _ _ _ => True) (fun _ U o U' => ∃ v L, o = .returned v ∧ Q2x12 Z w_1 w_2 w_3 w_4 w_5 k_4 h0 n0 v U'.heap L ∧ FrameEnd U o U' L ({ frames := 1, cells := 0, slots := 0, locals := 13 } : Room).cells ({ frames := 1, cells := 0, slots := 0, locals := 13 } : Room).slots) := by
  refine MetFree.of_bodySF (plainFor_of_name pn_2x12) hisR ?_
  intro p e s m args below meth c s₁ Bd hml0 hP hK
  obtain ⟨rfl, hZ, hh⟩ := hP
  have hx := Bd.exec
  have hby := Bd.bytes
  have hml : c.maxLocals = 6 := hml0
  have hown : s.vm.findClass "com/example/lucid_locks/lucidlocks/locks/LockMode" = some m.cls := findClass_of_methodNamed Bd.named
  have hnm := (name_of_methodNamed Bd.named Bd.method).1
  have X0 : Stand p l e ({ frames := 1, cells := 0, slots := 0, locals := 13 } : Room) s m #[(.ref w_3), (.ref w_2)] below meth c s₁ [] 0 0 := Stand.of_body Bd
  have e0 : s₁.heap = h0 := by rw [← hh, Bd.state]; rfl
  have N0 := Fr.nil n0
  have hS0 := hS
  obtain ⟨S_1, E_1, S_2, E_2, S_3, E_3, S_4, S_5, E_5, F_1_ordinal, F_3_ordinal, F_2_ordinal, F_1_sharedWithItself, F_5_ordinal, F_5_sharedWithItself, F_3_sharedWithItself, F_2_sharedWithItself, V_4⟩ := hS
  have pre0 : ∀ t, Steps p.tables e below (s₁.setTop (mkF m 0 #[.val (.ref w_3), .val (.ref w_2), .unset, .unset, .unset, .unset] [])) t → Steps p.tables e below (s₁.setTop (entryFrame m #[(.ref w_3), (.ref w_2)] 6)) t := fun t k => castTop (ef_2x12 m w_3 w_2) k
  obtain ⟨T224, X224, e224, st224⟩ := getS2 X0 hx hZ hown (host := "") (Or.inl (hw _ (tk 16 rfl))) Via.refl e0 (S_4.ext O0.2) (g := (mkF m 0 #[.val (.ref w_3), .val (.ref w_2), .unset, .unset, .unset, .unset] [])) rfl (hb hby d2_0)
  obtain ⟨cl225, Ar225, qa225, Sa225, Ma225, Ha225, Ga225⟩ := id (V_4.ext O0.2)
  obtain ⟨cl226, Ar226, qa226, Sa226, Ma226, Ha226, Ga226⟩ := id (V_4.ext O0.2)
  have hin226 : ¬ ((0 : Int32) < 0 ∨ cl226.slots.size ≤ ((0 : Int32)).toNatClampNeg) := by  exact inb_of Sa226 ⟨by decide, by decide⟩
  have hat226 : cl226.slots[((0 : Int32)).toNatClampNeg]? = some (.ref w_1) := Has.at Ha226 hin226 (by rfl)
  obtain ⟨cq227, kq227, q227a, q227b, q227c⟩ := isOf hZ e224 (E_2.ext O0.2)
  obtain ⟨_, _, ⟨T227, L227, k227, n227⟩, -, X227, ⟨Lc227, hQ227, l227, y227, z227⟩, st227⟩ := X224.virtualBack hx (y := Y1) (z := Y1) hown (mvT hZ (hw _ (tk 18 rfl))) (mvT hZ (hw _ (tk 19 rfl))) (notFace_of_selects (args := #[]) (mvT hZ (hw _ (tk 21 rfl)))) (mvT hZ (hw _ (tk 21 rfl))) (mvT hZ (hw _ (tk 20 rfl))) (by decide) (backOf (W := 0) (rm3 l Z a0 hw [] w_1 w_2 w_3 w_4 w_5 k_4 hS0 w_2 w_1 (0 : Int32) h0 n0 O0 (F_2_sharedWithItself.ext O0.2)) hZ (hw _ (tk 22 rfl)) (hw _ (tk 5 rfl)) (by decide) (by decide)) q227a q227c (g := (mkF m 25 #[.val (.ref w_3), .val (.ref w_2), .val (.ref w_4), .val (.int (4 : Int32)), .val (.int (0 : Int32)), .val (.ref w_1)] [(.ref w_1), (.ref w_2)])) rfl (by rw [hml]; rfl) (Steps.refl _) (argsL := [(.ref w_1)]) (rest := []) (lenOf pd_1 rfl) rfl (by show 2 * 0 + _ ≤ _; exact Nat.le_of_eq rfl) (hb hby d2_25) (fun _ _ => ⟨rfl, e224, (by decide : 0 + 0 ≤ _), (by decide : 0 + 0 ≤ _)⟩)
  dsimp only [Pt.U, Pt.locs, Pt.cells, Pt.slots] at X227 l227 y227 z227 st227 hQ227
  subst l227 y227 z227
  obtain ⟨rv227, N227q, e227⟩ := hQ227
  rw [show sp3 w_2 w_1 (0 : Int32) = (1 : Int32) from by unfold sp3; rw [if_neg (Fld.ne F_2_ordinal F_1_ordinal (by decide))]] at rv227
  subst rv227
  have N227 := Fr.app N0 N227q
  obtain ⟨cq228, kq228, q228a, q228b, q228c⟩ := isOf hZ e227 (E_3.ext O0.2)
  obtain ⟨_, _, ⟨T228, L228, k228, n228⟩, -, X228, ⟨Lc228, hQ228, l228, y228, z228⟩, st228⟩ := X227.virtualBack hx (y := Y1) (z := Y1) hown (mvT hZ (hw _ (tk 18 rfl))) (mvT hZ (hw _ (tk 19 rfl))) (notFace_of_selects (args := #[]) (mvT hZ (hw _ (tk 21 rfl)))) (mvT hZ (hw _ (tk 21 rfl))) (mvT hZ (hw _ (tk 20 rfl))) (by decide) (backOf (W := 0) (rm3 l Z a0 hw [] w_1 w_2 w_3 w_4 w_5 k_4 hS0 w_3 w_1 (0 : Int32) h0 n0 O0 (F_3_sharedWithItself.ext O0.2)) hZ (hw _ (tk 22 rfl)) (hw _ (tk 5 rfl)) (by decide) (by decide)) q228a q228c (g := (mkF m 34 #[.val (.ref w_3), .val (.ref w_2), .val (.ref w_4), .val (.int (4 : Int32)), .val (.int (0 : Int32)), .val (.ref w_1)] [(.ref w_1), (.ref w_3)])) rfl (by rw [hml]; rfl) (Steps.refl _) (argsL := [(.ref w_1)]) (rest := []) (lenOf pd_1 rfl) rfl (by show 2 * 0 + _ ≤ _; exact Nat.le_of_eq rfl) (hb hby d2_34) (fun _ _ => ⟨rfl, e227, (by decide : 0 + 0 ≤ _), (by decide : 0 + 0 ≤ _)⟩)
  dsimp only [Pt.U, Pt.locs, Pt.cells, Pt.slots] at X228 l228 y228 z228 st228 hQ228
  subst l228 y228 z228
  obtain ⟨rv228, N228q, e228⟩ := hQ228
  rw [show sp3 w_3 w_1 (0 : Int32) = (1 : Int32) from by unfold sp3; rw [if_neg (Fld.ne F_3_ordinal F_1_ordinal (by decide))]] at rv228
  subst rv228
  have N228 := Fr.app N227 N228q
  obtain ⟨cl229, Ar229, qa229, Sa229, Ma229, Ha229, Ga229⟩ := id (V_4.ext O0.2)
  have hin229 : ¬ (((0 : Int32) + (1 : Int32)) < 0 ∨ cl229.slots.size ≤ (((0 : Int32) + (1 : Int32))).toNatClampNeg) := by  exact inb_of Sa229 ⟨by decide, by decide⟩
  have hat229 : cl229.slots[(((0 : Int32) + (1 : Int32))).toNatClampNeg]? = some (.ref w_5) := Has.at Ha229 hin229 (by rfl)
  obtain ⟨cq230, kq230, q230a, q230b, q230c⟩ := isOf hZ e228 (E_2.ext O0.2)
  obtain ⟨_, _, ⟨T230, L230, k230, n230⟩, -, X230, ⟨Lc230, hQ230, l230, y230, z230⟩, st230⟩ := X228.virtualBack hx (y := Y1) (z := Y1) hown (mvT hZ (hw _ (tk 18 rfl))) (mvT hZ (hw _ (tk 19 rfl))) (notFace_of_selects (args := #[]) (mvT hZ (hw _ (tk 21 rfl)))) (mvT hZ (hw _ (tk 21 rfl))) (mvT hZ (hw _ (tk 20 rfl))) (by decide) (backOf (W := 0) (rm3 l Z a0 hw [] w_1 w_2 w_3 w_4 w_5 k_4 hS0 w_2 w_5 (0 : Int32) h0 n0 O0 (F_2_sharedWithItself.ext O0.2)) hZ (hw _ (tk 22 rfl)) (hw _ (tk 5 rfl)) (by decide) (by decide)) q230a q230c (g := (mkF m 25 #[.val (.ref w_3), .val (.ref w_2), .val (.ref w_4), .val (.int (4 : Int32)), .val (.int ((0 : Int32) + (1 : Int32))), .val (.ref w_5)] [(.ref w_5), (.ref w_2)])) rfl (by rw [hml]; rfl) (Steps.refl _) (argsL := [(.ref w_5)]) (rest := []) (lenOf pd_1 rfl) rfl (by show 2 * 0 + _ ≤ _; exact Nat.le_of_eq rfl) (hb hby d2_25) (fun _ _ => ⟨rfl, e228, (by decide : 0 + 0 ≤ _), (by decide : 0 + 0 ≤ _)⟩)
  dsimp only [Pt.U, Pt.locs, Pt.cells, Pt.slots] at X230 l230 y230 z230 st230 hQ230
  subst l230 y230 z230
  obtain ⟨rv230, N230q, e230⟩ := hQ230
  rw [show sp3 w_2 w_5 (0 : Int32) = (1 : Int32) from by unfold sp3; rw [if_neg (Fld.ne F_2_ordinal F_5_ordinal (by decide))]] at rv230
  subst rv230
  have N230 := Fr.app N228 N230q
  obtain ⟨cq231, kq231, q231a, q231b, q231c⟩ := isOf hZ e230 (E_3.ext O0.2)
  obtain ⟨_, _, ⟨T231, L231, k231, n231⟩, -, X231, ⟨Lc231, hQ231, l231, y231, z231⟩, st231⟩ := X230.virtualBack hx (y := Y1) (z := Y1) hown (mvT hZ (hw _ (tk 18 rfl))) (mvT hZ (hw _ (tk 19 rfl))) (notFace_of_selects (args := #[]) (mvT hZ (hw _ (tk 21 rfl)))) (mvT hZ (hw _ (tk 21 rfl))) (mvT hZ (hw _ (tk 20 rfl))) (by decide) (backOf (W := 0) (rm3 l Z a0 hw [] w_1 w_2 w_3 w_4 w_5 k_4 hS0 w_3 w_5 (0 : Int32) h0 n0 O0 (F_3_sharedWithItself.ext O0.2)) hZ (hw _ (tk 22 rfl)) (hw _ (tk 5 rfl)) (by decide) (by decide)) q231a q231c (g := (mkF m 34 #[.val (.ref w_3), .val (.ref w_2), .val (.ref w_4), .val (.int (4 : Int32)), .val (.int ((0 : Int32) + (1 : Int32))), .val (.ref w_5)] [(.ref w_5), (.ref w_3)])) rfl (by rw [hml]; rfl) (Steps.refl _) (argsL := [(.ref w_5)]) (rest := []) (lenOf pd_1 rfl) rfl (by show 2 * 0 + _ ≤ _; exact Nat.le_of_eq rfl) (hb hby d2_34) (fun _ _ => ⟨rfl, e230, (by decide : 0 + 0 ≤ _), (by decide : 0 + 0 ≤ _)⟩)
  dsimp only [Pt.U, Pt.locs, Pt.cells, Pt.slots] at X231 l231 y231 z231 st231 hQ231
  subst l231 y231 z231
  obtain ⟨rv231, N231q, e231⟩ := hQ231
  rw [show sp3 w_3 w_5 (0 : Int32) = (1 : Int32) from by unfold sp3; rw [if_neg (Fld.ne F_3_ordinal F_5_ordinal (by decide))]] at rv231
  subst rv231
  have N231 := Fr.app N230 N231q
  obtain ⟨cl232, Ar232, qa232, Sa232, Ma232, Ha232, Ga232⟩ := id (V_4.ext O0.2)
  have hin232 : ¬ ((((0 : Int32) + (1 : Int32)) + (1 : Int32)) < 0 ∨ cl232.slots.size ≤ ((((0 : Int32) + (1 : Int32)) + (1 : Int32))).toNatClampNeg) := by  exact inb_of Sa232 ⟨by decide, by decide⟩
  have hat232 : cl232.slots[((((0 : Int32) + (1 : Int32)) + (1 : Int32))).toNatClampNeg]? = some (.ref w_3) := Has.at Ha232 hin232 (by rfl)
  obtain ⟨cq233, kq233, q233a, q233b, q233c⟩ := isOf hZ e231 (E_2.ext O0.2)
  obtain ⟨_, _, ⟨T233, L233, k233, n233⟩, -, X233, ⟨Lc233, hQ233, l233, y233, z233⟩, st233⟩ := X231.virtualBack hx (y := Y1) (z := Y1) hown (mvT hZ (hw _ (tk 18 rfl))) (mvT hZ (hw _ (tk 19 rfl))) (notFace_of_selects (args := #[]) (mvT hZ (hw _ (tk 21 rfl)))) (mvT hZ (hw _ (tk 21 rfl))) (mvT hZ (hw _ (tk 20 rfl))) (by decide) (backOf (W := 0) (rm3 l Z a0 hw [] w_1 w_2 w_3 w_4 w_5 k_4 hS0 w_2 w_3 (0 : Int32) h0 n0 O0 (F_2_sharedWithItself.ext O0.2)) hZ (hw _ (tk 22 rfl)) (hw _ (tk 5 rfl)) (by decide) (by decide)) q233a q233c (g := (mkF m 25 #[.val (.ref w_3), .val (.ref w_2), .val (.ref w_4), .val (.int (4 : Int32)), .val (.int (((0 : Int32) + (1 : Int32)) + (1 : Int32))), .val (.ref w_3)] [(.ref w_3), (.ref w_2)])) rfl (by rw [hml]; rfl) (Steps.refl _) (argsL := [(.ref w_3)]) (rest := []) (lenOf pd_1 rfl) rfl (by show 2 * 0 + _ ≤ _; exact Nat.le_of_eq rfl) (hb hby d2_25) (fun _ _ => ⟨rfl, e231, (by decide : 0 + 0 ≤ _), (by decide : 0 + 0 ≤ _)⟩)
  dsimp only [Pt.U, Pt.locs, Pt.cells, Pt.slots] at X233 l233 y233 z233 st233 hQ233
  subst l233 y233 z233
  obtain ⟨rv233, N233q, e233⟩ := hQ233
  rw [show sp3 w_2 w_3 (0 : Int32) = (1 : Int32) from by unfold sp3; rw [if_neg (Fld.ne F_2_ordinal F_3_ordinal (by decide))]] at rv233
  subst rv233
  have N233 := Fr.app N231 N233q
  obtain ⟨cq234, kq234, q234a, q234b, q234c⟩ := isOf hZ e233 (E_3.ext O0.2)
  obtain ⟨_, _, ⟨T234, L234, k234, n234⟩, -, X234, ⟨Lc234, hQ234, l234, y234, z234⟩, st234⟩ := X233.virtualBack hx (y := Y1) (z := Y1) hown (mvT hZ (hw _ (tk 18 rfl))) (mvT hZ (hw _ (tk 19 rfl))) (notFace_of_selects (args := #[]) (mvT hZ (hw _ (tk 21 rfl)))) (mvT hZ (hw _ (tk 21 rfl))) (mvT hZ (hw _ (tk 20 rfl))) (by decide) (backOf (W := 0) (rm3 l Z a0 hw [] w_1 w_2 w_3 w_4 w_5 k_4 hS0 w_3 w_3 (0 : Int32) h0 n0 O0 (F_3_sharedWithItself.ext O0.2)) hZ (hw _ (tk 22 rfl)) (hw _ (tk 5 rfl)) (by decide) (by decide)) q234a q234c (g := (mkF m 34 #[.val (.ref w_3), .val (.ref w_2), .val (.ref w_4), .val (.int (4 : Int32)), .val (.int (((0 : Int32) + (1 : Int32)) + (1 : Int32))), .val (.ref w_3)] [(.ref w_3), (.ref w_3)])) rfl (by rw [hml]; rfl) (Steps.refl _) (argsL := [(.ref w_3)]) (rest := []) (lenOf pd_1 rfl) rfl (by show 2 * 0 + _ ≤ _; exact Nat.le_of_eq rfl) (hb hby d2_34) (fun _ _ => ⟨rfl, e233, (by decide : 0 + 0 ≤ _), (by decide : 0 + 0 ≤ _)⟩)
  dsimp only [Pt.U, Pt.locs, Pt.cells, Pt.slots] at X234 l234 y234 z234 st234 hQ234
  subst l234 y234 z234
  obtain ⟨rv234, N234q, e234⟩ := hQ234
  rw [show sp3 w_3 w_3 (0 : Int32) = (1 : Int32) from by unfold sp3; rw [if_pos rfl, if_pos (by decide : ((0 : Int32) = (0 : Int32)))]] at rv234
  subst rv234
  have N234 := Fr.app N233 N234q
  obtain ⟨cl235, Ar235, qa235, Sa235, Ma235, Ha235, Ga235⟩ := id (V_4.ext O0.2)
  have hin235 : ¬ (((((0 : Int32) + (1 : Int32)) + (1 : Int32)) + (1 : Int32)) < 0 ∨ cl235.slots.size ≤ (((((0 : Int32) + (1 : Int32)) + (1 : Int32)) + (1 : Int32))).toNatClampNeg) := by  exact inb_of Sa235 ⟨by decide, by decide⟩
  have hat235 : cl235.slots[(((((0 : Int32) + (1 : Int32)) + (1 : Int32)) + (1 : Int32))).toNatClampNeg]? = some (.ref w_2) := Has.at Ha235 hin235 (by rfl)
  obtain ⟨cq236, kq236, q236a, q236b, q236c⟩ := isOf hZ e234 (E_2.ext O0.2)
  obtain ⟨_, _, ⟨T236, L236, k236, n236⟩, -, X236, ⟨Lc236, hQ236, l236, y236, z236⟩, st236⟩ := X234.virtualBack hx (y := Y1) (z := Y1) hown (mvT hZ (hw _ (tk 18 rfl))) (mvT hZ (hw _ (tk 19 rfl))) (notFace_of_selects (args := #[]) (mvT hZ (hw _ (tk 21 rfl)))) (mvT hZ (hw _ (tk 21 rfl))) (mvT hZ (hw _ (tk 20 rfl))) (by decide) (backOf (W := 0) (rm3 l Z a0 hw [] w_1 w_2 w_3 w_4 w_5 k_4 hS0 w_2 w_2 (0 : Int32) h0 n0 O0 (F_2_sharedWithItself.ext O0.2)) hZ (hw _ (tk 22 rfl)) (hw _ (tk 5 rfl)) (by decide) (by decide)) q236a q236c (g := (mkF m 25 #[.val (.ref w_3), .val (.ref w_2), .val (.ref w_4), .val (.int (4 : Int32)), .val (.int ((((0 : Int32) + (1 : Int32)) + (1 : Int32)) + (1 : Int32))), .val (.ref w_2)] [(.ref w_2), (.ref w_2)])) rfl (by rw [hml]; rfl) (Steps.refl _) (argsL := [(.ref w_2)]) (rest := []) (lenOf pd_1 rfl) rfl (by show 2 * 0 + _ ≤ _; exact Nat.le_of_eq rfl) (hb hby d2_25) (fun _ _ => ⟨rfl, e234, (by decide : 0 + 0 ≤ _), (by decide : 0 + 0 ≤ _)⟩)
  dsimp only [Pt.U, Pt.locs, Pt.cells, Pt.slots] at X236 l236 y236 z236 st236 hQ236
  subst l236 y236 z236
  obtain ⟨rv236, N236q, e236⟩ := hQ236
  rw [show sp3 w_2 w_2 (0 : Int32) = (1 : Int32) from by unfold sp3; rw [if_pos rfl, if_pos (by decide : ((0 : Int32) = (0 : Int32)))]] at rv236
  subst rv236
  have N236 := Fr.app N234 N236q
  obtain ⟨cq237, kq237, q237a, q237b, q237c⟩ := isOf hZ e236 (E_3.ext O0.2)
  obtain ⟨_, _, ⟨T237, L237, k237, n237⟩, -, X237, ⟨Lc237, hQ237, l237, y237, z237⟩, st237⟩ := X236.virtualBack hx (y := Y1) (z := Y1) hown (mvT hZ (hw _ (tk 18 rfl))) (mvT hZ (hw _ (tk 19 rfl))) (notFace_of_selects (args := #[]) (mvT hZ (hw _ (tk 21 rfl)))) (mvT hZ (hw _ (tk 21 rfl))) (mvT hZ (hw _ (tk 20 rfl))) (by decide) (backOf (W := 0) (rm3 l Z a0 hw [] w_1 w_2 w_3 w_4 w_5 k_4 hS0 w_3 w_2 (0 : Int32) h0 n0 O0 (F_3_sharedWithItself.ext O0.2)) hZ (hw _ (tk 22 rfl)) (hw _ (tk 5 rfl)) (by decide) (by decide)) q237a q237c (g := (mkF m 34 #[.val (.ref w_3), .val (.ref w_2), .val (.ref w_4), .val (.int (4 : Int32)), .val (.int ((((0 : Int32) + (1 : Int32)) + (1 : Int32)) + (1 : Int32))), .val (.ref w_2)] [(.ref w_2), (.ref w_3)])) rfl (by rw [hml]; rfl) (Steps.refl _) (argsL := [(.ref w_2)]) (rest := []) (lenOf pd_1 rfl) rfl (by show 2 * 0 + _ ≤ _; exact Nat.le_of_eq rfl) (hb hby d2_34) (fun _ _ => ⟨rfl, e236, (by decide : 0 + 0 ≤ _), (by decide : 0 + 0 ≤ _)⟩)
  dsimp only [Pt.U, Pt.locs, Pt.cells, Pt.slots] at X237 l237 y237 z237 st237 hQ237
  subst l237 y237 z237
  obtain ⟨rv237, N237q, e237⟩ := hQ237
  rw [show sp3 w_3 w_2 (0 : Int32) = (1 : Int32) from by unfold sp3; rw [if_neg (Fld.ne F_3_ordinal F_2_ordinal (by decide))]] at rv237
  subst rv237
  have N237 := Fr.app N236 N237q
  obtain ⟨fs, hr, hrun, hended, hW, hsame⟩ := X237.leave (v := some (.int (1 : Int32))) (fun h => by rw [Bd.returns] at h; cases h)
  refine ⟨_, _, pre0 _ ?_, hrun, hended, _, _, rfl, ?_, ⟨_, rfl⟩, hW, hsame.mono (by decide) (by decide)⟩
  · show Steps p.tables e below (s₁.setTop (mkF m 0 #[.val (.ref w_3), .val (.ref w_2), .unset, .unset, .unset, .unset] [])) _
    refine st224 _ ?_
    show Steps p.tables e below (T224.setTop (mkF m 3 #[.val (.ref w_3), .val (.ref w_2), .unset, .unset, .unset, .unset] [(.ref w_4)])) _
    refine XS.astoreN X224.here hx rfl (hb hby d2_3) rfl rfl (l' := #[.val (.ref w_3), .val (.ref w_2), .val (.ref w_4), .unset, .unset, .unset]) rfl ?_
    show Steps p.tables e below (T224.setTop (mkF m 4 #[.val (.ref w_3), .val (.ref w_2), .val (.ref w_4), .unset, .unset, .unset] [])) _
    refine XS.aloadN X224.here hx rfl (hb hby d2_4) rfl rfl ?_
    show Steps p.tables e below (T224.setTop (mkF m 5 #[.val (.ref w_3), .val (.ref w_2), .val (.ref w_4), .unset, .unset, .unset] [(.ref w_4)])) _
    refine X224.arraylength hx (by rw [e224]; exact Ar225.1) (State.isArrayOf_alike hZ.alike Ar225.2.1) (g := (mkF m 5 #[.val (.ref w_3), .val (.ref w_2), .val (.ref w_4), .unset, .unset, .unset] [(.ref w_4)])) rfl rfl (hb hby d2_5) _ ?_
    rw [len_of Sa225 Ma225]
    show Steps p.tables e below (T224.setTop (mkF m 6 #[.val (.ref w_3), .val (.ref w_2), .val (.ref w_4), .unset, .unset, .unset] [(.int (4 : Int32))])) _
    refine XS.istoreN X224.here hx rfl (hb hby d2_6) rfl (l' := #[.val (.ref w_3), .val (.ref w_2), .val (.ref w_4), .val (.int (4 : Int32)), .unset, .unset]) rfl ?_
    show Steps p.tables e below (T224.setTop (mkF m 7 #[.val (.ref w_3), .val (.ref w_2), .val (.ref w_4), .val (.int (4 : Int32)), .unset, .unset] [])) _
    refine XS.iconst X224.here hx rfl (hb hby d2_7) ?_
    show Steps p.tables e below (T224.setTop (mkF m 8 #[.val (.ref w_3), .val (.ref w_2), .val (.ref w_4), .val (.int (4 : Int32)), .unset, .unset] [(.int (0 : Int32))])) _
    refine XS.istore X224.here hx rfl (hb hby d2_8) rfl (l' := #[.val (.ref w_3), .val (.ref w_2), .val (.ref w_4), .val (.int (4 : Int32)), .val (.int (0 : Int32)), .unset]) rfl ?_
    show Steps p.tables e below (T224.setTop (mkF m 10 #[.val (.ref w_3), .val (.ref w_2), .val (.ref w_4), .val (.int (4 : Int32)), .val (.int (0 : Int32)), .unset] [])) _
    refine XS.iload X224.here hx rfl (hb hby d2_10) rfl ?_
    show Steps p.tables e below (T224.setTop (mkF m 12 #[.val (.ref w_3), .val (.ref w_2), .val (.ref w_4), .val (.int (4 : Int32)), .val (.int (0 : Int32)), .unset] [(.int (0 : Int32))])) _
    refine XS.iloadN X224.here hx rfl (hb hby d2_12) rfl ?_
    show Steps p.tables e below (T224.setTop (mkF m 13 #[.val (.ref w_3), .val (.ref w_2), .val (.ref w_4), .val (.int (4 : Int32)), .val (.int (0 : Int32)), .unset] [(.int (4 : Int32)), (.int (0 : Int32))])) _
    refine XS.icmpNo X224.here hx rfl (hb hby d2_13) rfl (tlt (by decide : ((0 : Int32) < (4 : Int32)))).2.1 ?_
    show Steps p.tables e below (T224.setTop (mkF m 16 #[.val (.ref w_3), .val (.ref w_2), .val (.ref w_4), .val (.int (4 : Int32)), .val (.int (0 : Int32)), .unset] [])) _
    refine XS.aloadN X224.here hx rfl (hb hby d2_16) rfl rfl ?_
    show Steps p.tables e below (T224.setTop (mkF m 17 #[.val (.ref w_3), .val (.ref w_2), .val (.ref w_4), .val (.int (4 : Int32)), .val (.int (0 : Int32)), .unset] [(.ref w_4)])) _
    refine XS.iload X224.here hx rfl (hb hby d2_17) rfl ?_
    show Steps p.tables e below (T224.setTop (mkF m 19 #[.val (.ref w_3), .val (.ref w_2), .val (.ref w_4), .val (.int (4 : Int32)), .val (.int (0 : Int32)), .unset] [(.int (0 : Int32)), (.ref w_4)])) _
    refine X224.aaload hx (j := (0 : Int32)) (v := (.ref w_1)) (by rw [e224]; exact Ar226.1) (State.isArrayOf_alike hZ.alike Ar226.2.1) rfl Ar226.2.2 hin226 hat226 (g := (mkF m 19 #[.val (.ref w_3), .val (.ref w_2), .val (.ref w_4), .val (.int (4 : Int32)), .val (.int (0 : Int32)), .unset] [(.int (0 : Int32)), (.ref w_4)])) rfl rfl (hb hby d2_19) _ ?_
    show Steps p.tables e below (T224.setTop (mkF m 20 #[.val (.ref w_3), .val (.ref w_2), .val (.ref w_4), .val (.int (4 : Int32)), .val (.int (0 : Int32)), .unset] [(.ref w_1)])) _
    refine XS.astore X224.here hx rfl (hb hby d2_20) rfl rfl (l' := #[.val (.ref w_3), .val (.ref w_2), .val (.ref w_4), .val (.int (4 : Int32)), .val (.int (0 : Int32)), .val (.ref w_1)]) rfl ?_
    show Steps p.tables e below (T224.setTop (mkF m 22 #[.val (.ref w_3), .val (.ref w_2), .val (.ref w_4), .val (.int (4 : Int32)), .val (.int (0 : Int32)), .val (.ref w_1)] [])) _
    refine XS.aloadN X224.here hx rfl (hb hby d2_22) rfl rfl ?_
    show Steps p.tables e below (T224.setTop (mkF m 23 #[.val (.ref w_3), .val (.ref w_2), .val (.ref w_4), .val (.int (4 : Int32)), .val (.int (0 : Int32)), .val (.ref w_1)] [(.ref w_2)])) _
    refine XS.aload X224.here hx rfl (hb hby d2_23) rfl rfl ?_
    show Steps p.tables e below (T224.setTop (mkF m 25 #[.val (.ref w_3), .val (.ref w_2), .val (.ref w_4), .val (.int (4 : Int32)), .val (.int (0 : Int32)), .val (.ref w_1)] [(.ref w_1), (.ref w_2)])) _
    refine st227.trans ?_
    show Steps p.tables e below (T227.setTop (mkF m 28 #[.val (.ref w_3), .val (.ref w_2), .val (.ref w_4), .val (.int (4 : Int32)), .val (.int (0 : Int32)), .val (.ref w_1)] [(.int (1 : Int32))])) _
    refine XS.ifNo X227.here hx rfl (hb hby d2_28) rfl ((if0 _ _).trans (feq (by decide : ¬ ((1 : Int32) = (0 : Int32)))).1) ?_
    show Steps p.tables e below (T227.setTop (mkF m 31 #[.val (.ref w_3), .val (.ref w_2), .val (.ref w_4), .val (.int (4 : Int32)), .val (.int (0 : Int32)), .val (.ref w_1)] [])) _
    refine XS.aloadN X227.here hx rfl (hb hby d2_31) rfl rfl ?_
    show Steps p.tables e below (T227.setTop (mkF m 32 #[.val (.ref w_3), .val (.ref w_2), .val (.ref w_4), .val (.int (4 : Int32)), .val (.int (0 : Int32)), .val (.ref w_1)] [(.ref w_3)])) _
    refine XS.aload X227.here hx rfl (hb hby d2_32) rfl rfl ?_
    show Steps p.tables e below (T227.setTop (mkF m 34 #[.val (.ref w_3), .val (.ref w_2), .val (.ref w_4), .val (.int (4 : Int32)), .val (.int (0 : Int32)), .val (.ref w_1)] [(.ref w_1), (.ref w_3)])) _
    refine st228.trans ?_
    show Steps p.tables e below (T228.setTop (mkF m 37 #[.val (.ref w_3), .val (.ref w_2), .val (.ref w_4), .val (.int (4 : Int32)), .val (.int (0 : Int32)), .val (.ref w_1)] [(.int (1 : Int32))])) _
    refine XS.ifYes X228.here hx rfl (pc0 := 37) (pc' := 42) rfl (hb hby d2_37) rfl ((if0 _ _).trans (feq (by decide : ¬ ((1 : Int32) = (0 : Int32)))).2) (by decide) (by decide) ?_
    show Steps p.tables e below (T228.setTop (mkF m 42 #[.val (.ref w_3), .val (.ref w_2), .val (.ref w_4), .val (.int (4 : Int32)), .val (.int (0 : Int32)), .val (.ref w_1)] [])) _
    refine XS.iinc X228.here hx rfl (hb hby d2_42) rfl (l' := #[.val (.ref w_3), .val (.ref w_2), .val (.ref w_4), .val (.int (4 : Int32)), .val (.int ((0 : Int32) + (1 : Int32))), .val (.ref w_1)]) rfl ?_
    show Steps p.tables e below (T228.setTop (mkF m 45 #[.val (.ref w_3), .val (.ref w_2), .val (.ref w_4), .val (.int (4 : Int32)), .val (.int ((0 : Int32) + (1 : Int32))), .val (.ref w_1)] [])) _
    refine XS.goto X228.here hx rfl (pc0 := 45) (pc' := 10) rfl (hb hby d2_45) (by decide) (by decide) ?_
    show Steps p.tables e below (T228.setTop (mkF m 10 #[.val (.ref w_3), .val (.ref w_2), .val (.ref w_4), .val (.int (4 : Int32)), .val (.int ((0 : Int32) + (1 : Int32))), .val (.ref w_1)] [])) _
    refine XS.iload X228.here hx rfl (hb hby d2_10) rfl ?_
    show Steps p.tables e below (T228.setTop (mkF m 12 #[.val (.ref w_3), .val (.ref w_2), .val (.ref w_4), .val (.int (4 : Int32)), .val (.int ((0 : Int32) + (1 : Int32))), .val (.ref w_1)] [(.int ((0 : Int32) + (1 : Int32)))])) _
    refine XS.iloadN X228.here hx rfl (hb hby d2_12) rfl ?_
    show Steps p.tables e below (T228.setTop (mkF m 13 #[.val (.ref w_3), .val (.ref w_2), .val (.ref w_4), .val (.int (4 : Int32)), .val (.int ((0 : Int32) + (1 : Int32))), .val (.ref w_1)] [(.int (4 : Int32)), (.int ((0 : Int32) + (1 : Int32)))])) _
    refine XS.icmpNo X228.here hx rfl (hb hby d2_13) rfl (tlt (by decide : (((0 : Int32) + (1 : Int32)) < (4 : Int32)))).2.1 ?_
    show Steps p.tables e below (T228.setTop (mkF m 16 #[.val (.ref w_3), .val (.ref w_2), .val (.ref w_4), .val (.int (4 : Int32)), .val (.int ((0 : Int32) + (1 : Int32))), .val (.ref w_1)] [])) _
    refine XS.aloadN X228.here hx rfl (hb hby d2_16) rfl rfl ?_
    show Steps p.tables e below (T228.setTop (mkF m 17 #[.val (.ref w_3), .val (.ref w_2), .val (.ref w_4), .val (.int (4 : Int32)), .val (.int ((0 : Int32) + (1 : Int32))), .val (.ref w_1)] [(.ref w_4)])) _
    refine XS.iload X228.here hx rfl (hb hby d2_17) rfl ?_
    show Steps p.tables e below (T228.setTop (mkF m 19 #[.val (.ref w_3), .val (.ref w_2), .val (.ref w_4), .val (.int (4 : Int32)), .val (.int ((0 : Int32) + (1 : Int32))), .val (.ref w_1)] [(.int ((0 : Int32) + (1 : Int32))), (.ref w_4)])) _
    refine X228.aaload hx (j := ((0 : Int32) + (1 : Int32))) (v := (.ref w_5)) (by rw [e228]; exact Ar229.1) (State.isArrayOf_alike hZ.alike Ar229.2.1) rfl Ar229.2.2 hin229 hat229 (g := (mkF m 19 #[.val (.ref w_3), .val (.ref w_2), .val (.ref w_4), .val (.int (4 : Int32)), .val (.int ((0 : Int32) + (1 : Int32))), .val (.ref w_1)] [(.int ((0 : Int32) + (1 : Int32))), (.ref w_4)])) rfl rfl (hb hby d2_19) _ ?_
    show Steps p.tables e below (T228.setTop (mkF m 20 #[.val (.ref w_3), .val (.ref w_2), .val (.ref w_4), .val (.int (4 : Int32)), .val (.int ((0 : Int32) + (1 : Int32))), .val (.ref w_1)] [(.ref w_5)])) _
    refine XS.astore X228.here hx rfl (hb hby d2_20) rfl rfl (l' := #[.val (.ref w_3), .val (.ref w_2), .val (.ref w_4), .val (.int (4 : Int32)), .val (.int ((0 : Int32) + (1 : Int32))), .val (.ref w_5)]) rfl ?_
    show Steps p.tables e below (T228.setTop (mkF m 22 #[.val (.ref w_3), .val (.ref w_2), .val (.ref w_4), .val (.int (4 : Int32)), .val (.int ((0 : Int32) + (1 : Int32))), .val (.ref w_5)] [])) _
    refine XS.aloadN X228.here hx rfl (hb hby d2_22) rfl rfl ?_
    show Steps p.tables e below (T228.setTop (mkF m 23 #[.val (.ref w_3), .val (.ref w_2), .val (.ref w_4), .val (.int (4 : Int32)), .val (.int ((0 : Int32) + (1 : Int32))), .val (.ref w_5)] [(.ref w_2)])) _
    refine XS.aload X228.here hx rfl (hb hby d2_23) rfl rfl ?_
    show Steps p.tables e below (T228.setTop (mkF m 25 #[.val (.ref w_3), .val (.ref w_2), .val (.ref w_4), .val (.int (4 : Int32)), .val (.int ((0 : Int32) + (1 : Int32))), .val (.ref w_5)] [(.ref w_5), (.ref w_2)])) _
    refine st230.trans ?_
    show Steps p.tables e below (T230.setTop (mkF m 28 #[.val (.ref w_3), .val (.ref w_2), .val (.ref w_4), .val (.int (4 : Int32)), .val (.int ((0 : Int32) + (1 : Int32))), .val (.ref w_5)] [(.int (1 : Int32))])) _
    refine XS.ifNo X230.here hx rfl (hb hby d2_28) rfl ((if0 _ _).trans (feq (by decide : ¬ ((1 : Int32) = (0 : Int32)))).1) ?_
    show Steps p.tables e below (T230.setTop (mkF m 31 #[.val (.ref w_3), .val (.ref w_2), .val (.ref w_4), .val (.int (4 : Int32)), .val (.int ((0 : Int32) + (1 : Int32))), .val (.ref w_5)] [])) _
    refine XS.aloadN X230.here hx rfl (hb hby d2_31) rfl rfl ?_
    show Steps p.tables e below (T230.setTop (mkF m 32 #[.val (.ref w_3), .val (.ref w_2), .val (.ref w_4), .val (.int (4 : Int32)), .val (.int ((0 : Int32) + (1 : Int32))), .val (.ref w_5)] [(.ref w_3)])) _
    refine XS.aload X230.here hx rfl (hb hby d2_32) rfl rfl ?_
    show Steps p.tables e below (T230.setTop (mkF m 34 #[.val (.ref w_3), .val (.ref w_2), .val (.ref w_4), .val (.int (4 : Int32)), .val (.int ((0 : Int32) + (1 : Int32))), .val (.ref w_5)] [(.ref w_5), (.ref w_3)])) _
    refine st231.trans ?_
    show Steps p.tables e below (T231.setTop (mkF m 37 #[.val (.ref w_3), .val (.ref w_2), .val (.ref w_4), .val (.int (4 : Int32)), .val (.int ((0 : Int32) + (1 : Int32))), .val (.ref w_5)] [(.int (1 : Int32))])) _
    refine XS.ifYes X231.here hx rfl (pc0 := 37) (pc' := 42) rfl (hb hby d2_37) rfl ((if0 _ _).trans (feq (by decide : ¬ ((1 : Int32) = (0 : Int32)))).2) (by decide) (by decide) ?_
    show Steps p.tables e below (T231.setTop (mkF m 42 #[.val (.ref w_3), .val (.ref w_2), .val (.ref w_4), .val (.int (4 : Int32)), .val (.int ((0 : Int32) + (1 : Int32))), .val (.ref w_5)] [])) _
    refine XS.iinc X231.here hx rfl (hb hby d2_42) rfl (l' := #[.val (.ref w_3), .val (.ref w_2), .val (.ref w_4), .val (.int (4 : Int32)), .val (.int (((0 : Int32) + (1 : Int32)) + (1 : Int32))), .val (.ref w_5)]) rfl ?_
    show Steps p.tables e below (T231.setTop (mkF m 45 #[.val (.ref w_3), .val (.ref w_2), .val (.ref w_4), .val (.int (4 : Int32)), .val (.int (((0 : Int32) + (1 : Int32)) + (1 : Int32))), .val (.ref w_5)] [])) _
    refine XS.goto X231.here hx rfl (pc0 := 45) (pc' := 10) rfl (hb hby d2_45) (by decide) (by decide) ?_
    show Steps p.tables e below (T231.setTop (mkF m 10 #[.val (.ref w_3), .val (.ref w_2), .val (.ref w_4), .val (.int (4 : Int32)), .val (.int (((0 : Int32) + (1 : Int32)) + (1 : Int32))), .val (.ref w_5)] [])) _
    refine XS.iload X231.here hx rfl (hb hby d2_10) rfl ?_
    show Steps p.tables e below (T231.setTop (mkF m 12 #[.val (.ref w_3), .val (.ref w_2), .val (.ref w_4), .val (.int (4 : Int32)), .val (.int (((0 : Int32) + (1 : Int32)) + (1 : Int32))), .val (.ref w_5)] [(.int (((0 : Int32) + (1 : Int32)) + (1 : Int32)))])) _
    refine XS.iloadN X231.here hx rfl (hb hby d2_12) rfl ?_
    show Steps p.tables e below (T231.setTop (mkF m 13 #[.val (.ref w_3), .val (.ref w_2), .val (.ref w_4), .val (.int (4 : Int32)), .val (.int (((0 : Int32) + (1 : Int32)) + (1 : Int32))), .val (.ref w_5)] [(.int (4 : Int32)), (.int (((0 : Int32) + (1 : Int32)) + (1 : Int32)))])) _
    refine XS.icmpNo X231.here hx rfl (hb hby d2_13) rfl (tlt (by decide : ((((0 : Int32) + (1 : Int32)) + (1 : Int32)) < (4 : Int32)))).2.1 ?_
    show Steps p.tables e below (T231.setTop (mkF m 16 #[.val (.ref w_3), .val (.ref w_2), .val (.ref w_4), .val (.int (4 : Int32)), .val (.int (((0 : Int32) + (1 : Int32)) + (1 : Int32))), .val (.ref w_5)] [])) _
    refine XS.aloadN X231.here hx rfl (hb hby d2_16) rfl rfl ?_
    show Steps p.tables e below (T231.setTop (mkF m 17 #[.val (.ref w_3), .val (.ref w_2), .val (.ref w_4), .val (.int (4 : Int32)), .val (.int (((0 : Int32) + (1 : Int32)) + (1 : Int32))), .val (.ref w_5)] [(.ref w_4)])) _
    refine XS.iload X231.here hx rfl (hb hby d2_17) rfl ?_
    show Steps p.tables e below (T231.setTop (mkF m 19 #[.val (.ref w_3), .val (.ref w_2), .val (.ref w_4), .val (.int (4 : Int32)), .val (.int (((0 : Int32) + (1 : Int32)) + (1 : Int32))), .val (.ref w_5)] [(.int (((0 : Int32) + (1 : Int32)) + (1 : Int32))), (.ref w_4)])) _
    refine X231.aaload hx (j := (((0 : Int32) + (1 : Int32)) + (1 : Int32))) (v := (.ref w_3)) (by rw [e231]; exact Ar232.1) (State.isArrayOf_alike hZ.alike Ar232.2.1) rfl Ar232.2.2 hin232 hat232 (g := (mkF m 19 #[.val (.ref w_3), .val (.ref w_2), .val (.ref w_4), .val (.int (4 : Int32)), .val (.int (((0 : Int32) + (1 : Int32)) + (1 : Int32))), .val (.ref w_5)] [(.int (((0 : Int32) + (1 : Int32)) + (1 : Int32))), (.ref w_4)])) rfl rfl (hb hby d2_19) _ ?_
    show Steps p.tables e below (T231.setTop (mkF m 20 #[.val (.ref w_3), .val (.ref w_2), .val (.ref w_4), .val (.int (4 : Int32)), .val (.int (((0 : Int32) + (1 : Int32)) + (1 : Int32))), .val (.ref w_5)] [(.ref w_3)])) _
    refine XS.astore X231.here hx rfl (hb hby d2_20) rfl rfl (l' := #[.val (.ref w_3), .val (.ref w_2), .val (.ref w_4), .val (.int (4 : Int32)), .val (.int (((0 : Int32) + (1 : Int32)) + (1 : Int32))), .val (.ref w_3)]) rfl ?_
    show Steps p.tables e below (T231.setTop (mkF m 22 #[.val (.ref w_3), .val (.ref w_2), .val (.ref w_4), .val (.int (4 : Int32)), .val (.int (((0 : Int32) + (1 : Int32)) + (1 : Int32))), .val (.ref w_3)] [])) _
    refine XS.aloadN X231.here hx rfl (hb hby d2_22) rfl rfl ?_
    show Steps p.tables e below (T231.setTop (mkF m 23 #[.val (.ref w_3), .val (.ref w_2), .val (.ref w_4), .val (.int (4 : Int32)), .val (.int (((0 : Int32) + (1 : Int32)) + (1 : Int32))), .val (.ref w_3)] [(.ref w_2)])) _
    refine XS.aload X231.here hx rfl (hb hby d2_23) rfl rfl ?_
    show Steps p.tables e below (T231.setTop (mkF m 25 #[.val (.ref w_3), .val (.ref w_2), .val (.ref w_4), .val (.int (4 : Int32)), .val (.int (((0 : Int32) + (1 : Int32)) + (1 : Int32))), .val (.ref w_3)] [(.ref w_3), (.ref w_2)])) _
    refine st233.trans ?_
    show Steps p.tables e below (T233.setTop (mkF m 28 #[.val (.ref w_3), .val (.ref w_2), .val (.ref w_4), .val (.int (4 : Int32)), .val (.int (((0 : Int32) + (1 : Int32)) + (1 : Int32))), .val (.ref w_3)] [(.int (1 : Int32))])) _
    refine XS.ifNo X233.here hx rfl (hb hby d2_28) rfl ((if0 _ _).trans (feq (by decide : ¬ ((1 : Int32) = (0 : Int32)))).1) ?_
    show Steps p.tables e below (T233.setTop (mkF m 31 #[.val (.ref w_3), .val (.ref w_2), .val (.ref w_4), .val (.int (4 : Int32)), .val (.int (((0 : Int32) + (1 : Int32)) + (1 : Int32))), .val (.ref w_3)] [])) _
    refine XS.aloadN X233.here hx rfl (hb hby d2_31) rfl rfl ?_
    show Steps p.tables e below (T233.setTop (mkF m 32 #[.val (.ref w_3), .val (.ref w_2), .val (.ref w_4), .val (.int (4 : Int32)), .val (.int (((0 : Int32) + (1 : Int32)) + (1 : Int32))), .val (.ref w_3)] [(.ref w_3)])) _
    refine XS.aload X233.here hx rfl (hb hby d2_32) rfl rfl ?_
    show Steps p.tables e below (T233.setTop (mkF m 34 #[.val (.ref w_3), .val (.ref w_2), .val (.ref w_4), .val (.int (4 : Int32)), .val (.int (((0 : Int32) + (1 : Int32)) + (1 : Int32))), .val (.ref w_3)] [(.ref w_3), (.ref w_3)])) _
    refine st234.trans ?_
    show Steps p.tables e below (T234.setTop (mkF m 37 #[.val (.ref w_3), .val (.ref w_2), .val (.ref w_4), .val (.int (4 : Int32)), .val (.int (((0 : Int32) + (1 : Int32)) + (1 : Int32))), .val (.ref w_3)] [(.int (1 : Int32))])) _
    refine XS.ifYes X234.here hx rfl (pc0 := 37) (pc' := 42) rfl (hb hby d2_37) rfl ((if0 _ _).trans (feq (by decide : ¬ ((1 : Int32) = (0 : Int32)))).2) (by decide) (by decide) ?_
    show Steps p.tables e below (T234.setTop (mkF m 42 #[.val (.ref w_3), .val (.ref w_2), .val (.ref w_4), .val (.int (4 : Int32)), .val (.int (((0 : Int32) + (1 : Int32)) + (1 : Int32))), .val (.ref w_3)] [])) _
    refine XS.iinc X234.here hx rfl (hb hby d2_42) rfl (l' := #[.val (.ref w_3), .val (.ref w_2), .val (.ref w_4), .val (.int (4 : Int32)), .val (.int ((((0 : Int32) + (1 : Int32)) + (1 : Int32)) + (1 : Int32))), .val (.ref w_3)]) rfl ?_
    show Steps p.tables e below (T234.setTop (mkF m 45 #[.val (.ref w_3), .val (.ref w_2), .val (.ref w_4), .val (.int (4 : Int32)), .val (.int ((((0 : Int32) + (1 : Int32)) + (1 : Int32)) + (1 : Int32))), .val (.ref w_3)] [])) _
    refine XS.goto X234.here hx rfl (pc0 := 45) (pc' := 10) rfl (hb hby d2_45) (by decide) (by decide) ?_
    show Steps p.tables e below (T234.setTop (mkF m 10 #[.val (.ref w_3), .val (.ref w_2), .val (.ref w_4), .val (.int (4 : Int32)), .val (.int ((((0 : Int32) + (1 : Int32)) + (1 : Int32)) + (1 : Int32))), .val (.ref w_3)] [])) _
    refine XS.iload X234.here hx rfl (hb hby d2_10) rfl ?_
    show Steps p.tables e below (T234.setTop (mkF m 12 #[.val (.ref w_3), .val (.ref w_2), .val (.ref w_4), .val (.int (4 : Int32)), .val (.int ((((0 : Int32) + (1 : Int32)) + (1 : Int32)) + (1 : Int32))), .val (.ref w_3)] [(.int ((((0 : Int32) + (1 : Int32)) + (1 : Int32)) + (1 : Int32)))])) _
    refine XS.iloadN X234.here hx rfl (hb hby d2_12) rfl ?_
    show Steps p.tables e below (T234.setTop (mkF m 13 #[.val (.ref w_3), .val (.ref w_2), .val (.ref w_4), .val (.int (4 : Int32)), .val (.int ((((0 : Int32) + (1 : Int32)) + (1 : Int32)) + (1 : Int32))), .val (.ref w_3)] [(.int (4 : Int32)), (.int ((((0 : Int32) + (1 : Int32)) + (1 : Int32)) + (1 : Int32)))])) _
    refine XS.icmpNo X234.here hx rfl (hb hby d2_13) rfl (tlt (by decide : (((((0 : Int32) + (1 : Int32)) + (1 : Int32)) + (1 : Int32)) < (4 : Int32)))).2.1 ?_
    show Steps p.tables e below (T234.setTop (mkF m 16 #[.val (.ref w_3), .val (.ref w_2), .val (.ref w_4), .val (.int (4 : Int32)), .val (.int ((((0 : Int32) + (1 : Int32)) + (1 : Int32)) + (1 : Int32))), .val (.ref w_3)] [])) _
    refine XS.aloadN X234.here hx rfl (hb hby d2_16) rfl rfl ?_
    show Steps p.tables e below (T234.setTop (mkF m 17 #[.val (.ref w_3), .val (.ref w_2), .val (.ref w_4), .val (.int (4 : Int32)), .val (.int ((((0 : Int32) + (1 : Int32)) + (1 : Int32)) + (1 : Int32))), .val (.ref w_3)] [(.ref w_4)])) _
    refine XS.iload X234.here hx rfl (hb hby d2_17) rfl ?_
    show Steps p.tables e below (T234.setTop (mkF m 19 #[.val (.ref w_3), .val (.ref w_2), .val (.ref w_4), .val (.int (4 : Int32)), .val (.int ((((0 : Int32) + (1 : Int32)) + (1 : Int32)) + (1 : Int32))), .val (.ref w_3)] [(.int ((((0 : Int32) + (1 : Int32)) + (1 : Int32)) + (1 : Int32))), (.ref w_4)])) _
    refine X234.aaload hx (j := ((((0 : Int32) + (1 : Int32)) + (1 : Int32)) + (1 : Int32))) (v := (.ref w_2)) (by rw [e234]; exact Ar235.1) (State.isArrayOf_alike hZ.alike Ar235.2.1) rfl Ar235.2.2 hin235 hat235 (g := (mkF m 19 #[.val (.ref w_3), .val (.ref w_2), .val (.ref w_4), .val (.int (4 : Int32)), .val (.int ((((0 : Int32) + (1 : Int32)) + (1 : Int32)) + (1 : Int32))), .val (.ref w_3)] [(.int ((((0 : Int32) + (1 : Int32)) + (1 : Int32)) + (1 : Int32))), (.ref w_4)])) rfl rfl (hb hby d2_19) _ ?_
    show Steps p.tables e below (T234.setTop (mkF m 20 #[.val (.ref w_3), .val (.ref w_2), .val (.ref w_4), .val (.int (4 : Int32)), .val (.int ((((0 : Int32) + (1 : Int32)) + (1 : Int32)) + (1 : Int32))), .val (.ref w_3)] [(.ref w_2)])) _
    refine XS.astore X234.here hx rfl (hb hby d2_20) rfl rfl (l' := #[.val (.ref w_3), .val (.ref w_2), .val (.ref w_4), .val (.int (4 : Int32)), .val (.int ((((0 : Int32) + (1 : Int32)) + (1 : Int32)) + (1 : Int32))), .val (.ref w_2)]) rfl ?_
    show Steps p.tables e below (T234.setTop (mkF m 22 #[.val (.ref w_3), .val (.ref w_2), .val (.ref w_4), .val (.int (4 : Int32)), .val (.int ((((0 : Int32) + (1 : Int32)) + (1 : Int32)) + (1 : Int32))), .val (.ref w_2)] [])) _
    refine XS.aloadN X234.here hx rfl (hb hby d2_22) rfl rfl ?_
    show Steps p.tables e below (T234.setTop (mkF m 23 #[.val (.ref w_3), .val (.ref w_2), .val (.ref w_4), .val (.int (4 : Int32)), .val (.int ((((0 : Int32) + (1 : Int32)) + (1 : Int32)) + (1 : Int32))), .val (.ref w_2)] [(.ref w_2)])) _
    refine XS.aload X234.here hx rfl (hb hby d2_23) rfl rfl ?_
    show Steps p.tables e below (T234.setTop (mkF m 25 #[.val (.ref w_3), .val (.ref w_2), .val (.ref w_4), .val (.int (4 : Int32)), .val (.int ((((0 : Int32) + (1 : Int32)) + (1 : Int32)) + (1 : Int32))), .val (.ref w_2)] [(.ref w_2), (.ref w_2)])) _
    refine st236.trans ?_
    show Steps p.tables e below (T236.setTop (mkF m 28 #[.val (.ref w_3), .val (.ref w_2), .val (.ref w_4), .val (.int (4 : Int32)), .val (.int ((((0 : Int32) + (1 : Int32)) + (1 : Int32)) + (1 : Int32))), .val (.ref w_2)] [(.int (1 : Int32))])) _
    refine XS.ifNo X236.here hx rfl (hb hby d2_28) rfl ((if0 _ _).trans (feq (by decide : ¬ ((1 : Int32) = (0 : Int32)))).1) ?_
    show Steps p.tables e below (T236.setTop (mkF m 31 #[.val (.ref w_3), .val (.ref w_2), .val (.ref w_4), .val (.int (4 : Int32)), .val (.int ((((0 : Int32) + (1 : Int32)) + (1 : Int32)) + (1 : Int32))), .val (.ref w_2)] [])) _
    refine XS.aloadN X236.here hx rfl (hb hby d2_31) rfl rfl ?_
    show Steps p.tables e below (T236.setTop (mkF m 32 #[.val (.ref w_3), .val (.ref w_2), .val (.ref w_4), .val (.int (4 : Int32)), .val (.int ((((0 : Int32) + (1 : Int32)) + (1 : Int32)) + (1 : Int32))), .val (.ref w_2)] [(.ref w_3)])) _
    refine XS.aload X236.here hx rfl (hb hby d2_32) rfl rfl ?_
    show Steps p.tables e below (T236.setTop (mkF m 34 #[.val (.ref w_3), .val (.ref w_2), .val (.ref w_4), .val (.int (4 : Int32)), .val (.int ((((0 : Int32) + (1 : Int32)) + (1 : Int32)) + (1 : Int32))), .val (.ref w_2)] [(.ref w_2), (.ref w_3)])) _
    refine st237.trans ?_
    show Steps p.tables e below (T237.setTop (mkF m 37 #[.val (.ref w_3), .val (.ref w_2), .val (.ref w_4), .val (.int (4 : Int32)), .val (.int ((((0 : Int32) + (1 : Int32)) + (1 : Int32)) + (1 : Int32))), .val (.ref w_2)] [(.int (1 : Int32))])) _
    refine XS.ifYes X237.here hx rfl (pc0 := 37) (pc' := 42) rfl (hb hby d2_37) rfl ((if0 _ _).trans (feq (by decide : ¬ ((1 : Int32) = (0 : Int32)))).2) (by decide) (by decide) ?_
    show Steps p.tables e below (T237.setTop (mkF m 42 #[.val (.ref w_3), .val (.ref w_2), .val (.ref w_4), .val (.int (4 : Int32)), .val (.int ((((0 : Int32) + (1 : Int32)) + (1 : Int32)) + (1 : Int32))), .val (.ref w_2)] [])) _
    refine XS.iinc X237.here hx rfl (hb hby d2_42) rfl (l' := #[.val (.ref w_3), .val (.ref w_2), .val (.ref w_4), .val (.int (4 : Int32)), .val (.int (((((0 : Int32) + (1 : Int32)) + (1 : Int32)) + (1 : Int32)) + (1 : Int32))), .val (.ref w_2)]) rfl ?_
    show Steps p.tables e below (T237.setTop (mkF m 45 #[.val (.ref w_3), .val (.ref w_2), .val (.ref w_4), .val (.int (4 : Int32)), .val (.int (((((0 : Int32) + (1 : Int32)) + (1 : Int32)) + (1 : Int32)) + (1 : Int32))), .val (.ref w_2)] [])) _
    refine XS.goto X237.here hx rfl (pc0 := 45) (pc' := 10) rfl (hb hby d2_45) (by decide) (by decide) ?_
    show Steps p.tables e below (T237.setTop (mkF m 10 #[.val (.ref w_3), .val (.ref w_2), .val (.ref w_4), .val (.int (4 : Int32)), .val (.int (((((0 : Int32) + (1 : Int32)) + (1 : Int32)) + (1 : Int32)) + (1 : Int32))), .val (.ref w_2)] [])) _
    refine XS.iload X237.here hx rfl (hb hby d2_10) rfl ?_
    show Steps p.tables e below (T237.setTop (mkF m 12 #[.val (.ref w_3), .val (.ref w_2), .val (.ref w_4), .val (.int (4 : Int32)), .val (.int (((((0 : Int32) + (1 : Int32)) + (1 : Int32)) + (1 : Int32)) + (1 : Int32))), .val (.ref w_2)] [(.int (((((0 : Int32) + (1 : Int32)) + (1 : Int32)) + (1 : Int32)) + (1 : Int32)))])) _
    refine XS.iloadN X237.here hx rfl (hb hby d2_12) rfl ?_
    show Steps p.tables e below (T237.setTop (mkF m 13 #[.val (.ref w_3), .val (.ref w_2), .val (.ref w_4), .val (.int (4 : Int32)), .val (.int (((((0 : Int32) + (1 : Int32)) + (1 : Int32)) + (1 : Int32)) + (1 : Int32))), .val (.ref w_2)] [(.int (4 : Int32)), (.int (((((0 : Int32) + (1 : Int32)) + (1 : Int32)) + (1 : Int32)) + (1 : Int32)))])) _
    refine XS.icmpYes X237.here hx rfl (pc0 := 13) (pc' := 48) rfl (hb hby d2_13) rfl (flt (by decide : ¬ ((((((0 : Int32) + (1 : Int32)) + (1 : Int32)) + (1 : Int32)) + (1 : Int32)) < (4 : Int32)))).2.1 (by decide) (by decide) ?_
    show Steps p.tables e below (T237.setTop (mkF m 48 #[.val (.ref w_3), .val (.ref w_2), .val (.ref w_4), .val (.int (4 : Int32)), .val (.int (((((0 : Int32) + (1 : Int32)) + (1 : Int32)) + (1 : Int32)) + (1 : Int32))), .val (.ref w_2)] [])) _
    refine XS.iconst X237.here hx rfl (hb hby d2_48) ?_
    show Steps p.tables e below (T237.setTop (mkF m 49 #[.val (.ref w_3), .val (.ref w_2), .val (.ref w_4), .val (.int (4 : Int32)), .val (.int (((((0 : Int32) + (1 : Int32)) + (1 : Int32)) + (1 : Int32)) + (1 : Int32))), .val (.ref w_2)] [(.int (1 : Int32))])) _
    exact retN X237 hx (t := .boolean) Bd.returns (by simp) (hb hby d2_49) hr
  · show Q2x12 Z w_1 w_2 w_3 w_4 w_5 k_4 h0 n0 _ T237.heap _
    rw [e237]
    exact ⟨by unfold sp2x12; rfl, N237, rfl⟩
theorem pn_2x13 : plainName "com/example/lucid_locks/lucidlocks/locks/LockMode" = true := by first | (simp [plainName, overriddenIn]; done) | decide +kernel
theorem ef_2x13 (m : MethodId) (w_2 : Addr) (w_1 : Addr) : entryFrame m #[(.ref w_2), (.ref w_1)] 6 = mkF m 0 #[.val (.ref w_2), .val (.ref w_1), .unset, .unset, .unset, .unset] [] := by first | (simp [entryFrame, mkF, argsToLocals, Value.category]; done) | rfl
def sp2x13  : Int32 := (1 : Int32)
def Q2x13 (Z : State) (w_1 : Addr) (w_2 : Addr) (w_3 : Addr) (w_4 : Addr) (w_5 : Addr) (k_4 : ClassId) (h0 : Heap) (n0 : Nat) (v : Option Value) (h : Heap) (L : List Loc) : Prop := v = some (.int (sp2x13)) ∧ Fr n0 L ∧ h = h0
set_option maxRecDepth 65536 in
set_option maxHeartbeats 40000000 in
theorem rm2x13 (l : Launch) (Z : State) (a0 : Array Value) (hw : ∀ d ∈ tables_1, d.before a0 Z = true) (ws : List Jvm.Cond) (w_1 : Addr) (w_2 : Addr) (w_3 : Addr) (w_4 : Addr) (w_5 : Addr) (k_4 : ClassId) (hS : StF Z w_1 w_2 w_3 w_4 w_5 k_4) (h0 : Heap) (n0 : Nat) (O0 : Old Z n0 h0) :
    MetFree l Y2 (head1 (Jvm.Cond.code Y2 prog_17_method_7_code 6 (some .boolean) :: ws) ({ frames := 1, cells := 0, slots := 0, locals := 13 } : Room)) (fun a U => a = #[(.ref w_2), (.ref w_1)] ∧ Z.Warmed39 U.vm ∧ U.heap = h0) (fun _ _ _ _ _ => True) (fun _ U o U' => ∃ v L, o = .returned v ∧ Q2x13 Z w_1 w_2 w_3 w_4 w_5 k_4 h0 n0 v U'.heap L ∧ FrameEnd U o U' L ({ frames := 1, cells := 0, slots := 0, locals := 13 } : Room).cells ({ frames := 1, cells := 0, slots := 0, locals := 13 } : Room).slots) := by
  refine MetFree.of_bodySF (plainFor_of_name pn_2x13) hisR ?_
  intro p e s m args below meth c s₁ Bd hml0 hP hK
  obtain ⟨rfl, hZ, hh⟩ := hP
  have hx := Bd.exec
  have hby := Bd.bytes
  have hml : c.maxLocals = 6 := hml0
  have hown : s.vm.findClass "com/example/lucid_locks/lucidlocks/locks/LockMode" = some m.cls := findClass_of_methodNamed Bd.named
  have hnm := (name_of_methodNamed Bd.named Bd.method).1
  have X0 : Stand p l e ({ frames := 1, cells := 0, slots := 0, locals := 13 } : Room) s m #[(.ref w_2), (.ref w_1)] below meth c s₁ [] 0 0 := Stand.of_body Bd
  have e0 : s₁.heap = h0 := by rw [← hh, Bd.state]; rfl
  have N0 := Fr.nil n0
  have hS0 := hS
  obtain ⟨S_1, E_1, S_2, E_2, S_3, E_3, S_4, S_5, E_5, F_1_ordinal, F_3_ordinal, F_2_ordinal, F_1_sharedWithItself, F_5_ordinal, F_5_sharedWithItself, F_3_sharedWithItself, F_2_sharedWithItself, V_4⟩ := hS
  have pre0 : ∀ t, Steps p.tables e below (s₁.setTop (mkF m 0 #[.val (.ref w_2), .val (.ref w_1), .unset, .unset, .unset, .unset] [])) t → Steps p.tables e below (s₁.setTop (entryFrame m #[(.ref w_2), (.ref w_1)] 6)) t := fun t k => castTop (ef_2x13 m w_2 w_1) k
  obtain ⟨T245, X245, e245, st245⟩ := getS2 X0 hx hZ hown (host := "") (Or.inl (hw _ (tk 16 rfl))) Via.refl e0 (S_4.ext O0.2) (g := (mkF m 0 #[.val (.ref w_2), .val (.ref w_1), .unset, .unset, .unset, .unset] [])) rfl (hb hby d2_0)
  obtain ⟨cl246, Ar246, qa246, Sa246, Ma246, Ha246, Ga246⟩ := id (V_4.ext O0.2)
  obtain ⟨cl247, Ar247, qa247, Sa247, Ma247, Ha247, Ga247⟩ := id (V_4.ext O0.2)
  have hin247 : ¬ ((0 : Int32) < 0 ∨ cl247.slots.size ≤ ((0 : Int32)).toNatClampNeg) := by  exact inb_of Sa247 ⟨by decide, by decide⟩
  have hat247 : cl247.slots[((0 : Int32)).toNatClampNeg]? = some (.ref w_1) := Has.at Ha247 hin247 (by rfl)
  obtain ⟨cq248, kq248, q248a, q248b, q248c⟩ := isOf hZ e245 (E_1.ext O0.2)
  obtain ⟨_, _, ⟨T248, L248, k248, n248⟩, -, X248, ⟨Lc248, hQ248, l248, y248, z248⟩, st248⟩ := X245.virtualBack hx (y := Y1) (z := Y1) hown (mvT hZ (hw _ (tk 18 rfl))) (mvT hZ (hw _ (tk 19 rfl))) (notFace_of_selects (args := #[]) (mvT hZ (hw _ (tk 21 rfl)))) (mvT hZ (hw _ (tk 21 rfl))) (mvT hZ (hw _ (tk 20 rfl))) (by decide) (backOf (W := 0) (rm3 l Z a0 hw [] w_1 w_2 w_3 w_4 w_5 k_4 hS0 w_1 w_1 (1 : Int32) h0 n0 O0 (F_1_sharedWithItself.ext O0.2)) hZ (hw _ (tk 22 rfl)) (hw _ (tk 5 rfl)) (by decide) (by decide)) q248a q248c (g := (mkF m 25 #[.val (.ref w_2), .val (.ref w_1), .val (.ref w_4), .val (.int (4 : Int32)), .val (.int (0 : Int32)), .val (.ref w_1)] [(.ref w_1), (.ref w_1)])) rfl (by rw [hml]; rfl) (Steps.refl _) (argsL := [(.ref w_1)]) (rest := []) (lenOf pd_1 rfl) rfl (by show 2 * 0 + _ ≤ _; exact Nat.le_of_eq rfl) (hb hby d2_25) (fun _ _ => ⟨rfl, e245, (by decide : 0 + 0 ≤ _), (by decide : 0 + 0 ≤ _)⟩)
  dsimp only [Pt.U, Pt.locs, Pt.cells, Pt.slots] at X248 l248 y248 z248 st248 hQ248
  subst l248 y248 z248
  obtain ⟨rv248, N248q, e248⟩ := hQ248
  rw [show sp3 w_1 w_1 (1 : Int32) = (0 : Int32) from by unfold sp3; rw [if_pos rfl, if_neg (by decide : ¬ ((1 : Int32) = (0 : Int32)))]] at rv248
  subst rv248
  have N248 := Fr.app N0 N248q
  obtain ⟨cl249, Ar249, qa249, Sa249, Ma249, Ha249, Ga249⟩ := id (V_4.ext O0.2)
  have hin249 : ¬ (((0 : Int32) + (1 : Int32)) < 0 ∨ cl249.slots.size ≤ (((0 : Int32) + (1 : Int32))).toNatClampNeg) := by  exact inb_of Sa249 ⟨by decide, by decide⟩
  have hat249 : cl249.slots[(((0 : Int32) + (1 : Int32))).toNatClampNeg]? = some (.ref w_5) := Has.at Ha249 hin249 (by rfl)
  obtain ⟨cq250, kq250, q250a, q250b, q250c⟩ := isOf hZ e248 (E_1.ext O0.2)
  obtain ⟨_, _, ⟨T250, L250, k250, n250⟩, -, X250, ⟨Lc250, hQ250, l250, y250, z250⟩, st250⟩ := X248.virtualBack hx (y := Y1) (z := Y1) hown (mvT hZ (hw _ (tk 18 rfl))) (mvT hZ (hw _ (tk 19 rfl))) (notFace_of_selects (args := #[]) (mvT hZ (hw _ (tk 21 rfl)))) (mvT hZ (hw _ (tk 21 rfl))) (mvT hZ (hw _ (tk 20 rfl))) (by decide) (backOf (W := 0) (rm3 l Z a0 hw [] w_1 w_2 w_3 w_4 w_5 k_4 hS0 w_1 w_5 (1 : Int32) h0 n0 O0 (F_1_sharedWithItself.ext O0.2)) hZ (hw _ (tk 22 rfl)) (hw _ (tk 5 rfl)) (by decide) (by decide)) q250a q250c (g := (mkF m 25 #[.val (.ref w_2), .val (.ref w_1), .val (.ref w_4), .val (.int (4 : Int32)), .val (.int ((0 : Int32) + (1 : Int32))), .val (.ref w_5)] [(.ref w_5), (.ref w_1)])) rfl (by rw [hml]; rfl) (Steps.refl _) (argsL := [(.ref w_5)]) (rest := []) (lenOf pd_1 rfl) rfl (by show 2 * 0 + _ ≤ _; exact Nat.le_of_eq rfl) (hb hby d2_25) (fun _ _ => ⟨rfl, e248, (by decide : 0 + 0 ≤ _), (by decide : 0 + 0 ≤ _)⟩)
  dsimp only [Pt.U, Pt.locs, Pt.cells, Pt.slots] at X250 l250 y250 z250 st250 hQ250
  subst l250 y250 z250
  obtain ⟨rv250, N250q, e250⟩ := hQ250
  rw [show sp3 w_1 w_5 (1 : Int32) = (1 : Int32) from by unfold sp3; rw [if_neg (Fld.ne F_1_ordinal F_5_ordinal (by decide))]] at rv250
  subst rv250
  have N250 := Fr.app N248 N250q
  obtain ⟨cq251, kq251, q251a, q251b, q251c⟩ := isOf hZ e250 (E_2.ext O0.2)
  obtain ⟨_, _, ⟨T251, L251, k251, n251⟩, -, X251, ⟨Lc251, hQ251, l251, y251, z251⟩, st251⟩ := X250.virtualBack hx (y := Y1) (z := Y1) hown (mvT hZ (hw _ (tk 18 rfl))) (mvT hZ (hw _ (tk 19 rfl))) (notFace_of_selects (args := #[]) (mvT hZ (hw _ (tk 21 rfl)))) (mvT hZ (hw _ (tk 21 rfl))) (mvT hZ (hw _ (tk 20 rfl))) (by decide) (backOf (W := 0) (rm3 l Z a0 hw [] w_1 w_2 w_3 w_4 w_5 k_4 hS0 w_2 w_5 (0 : Int32) h0 n0 O0 (F_2_sharedWithItself.ext O0.2)) hZ (hw _ (tk 22 rfl)) (hw _ (tk 5 rfl)) (by decide) (by decide)) q251a q251c (g := (mkF m 34 #[.val (.ref w_2), .val (.ref w_1), .val (.ref w_4), .val (.int (4 : Int32)), .val (.int ((0 : Int32) + (1 : Int32))), .val (.ref w_5)] [(.ref w_5), (.ref w_2)])) rfl (by rw [hml]; rfl) (Steps.refl _) (argsL := [(.ref w_5)]) (rest := []) (lenOf pd_1 rfl) rfl (by show 2 * 0 + _ ≤ _; exact Nat.le_of_eq rfl) (hb hby d2_34) (fun _ _ => ⟨rfl, e250, (by decide : 0 + 0 ≤ _), (by decide : 0 + 0 ≤ _)⟩)
  dsimp only [Pt.U, Pt.locs, Pt.cells, Pt.slots] at X251 l251 y251 z251 st251 hQ251
  subst l251 y251 z251
  obtain ⟨rv251, N251q, e251⟩ := hQ251
  rw [show sp3 w_2 w_5 (0 : Int32) = (1 : Int32) from by unfold sp3; rw [if_neg (Fld.ne F_2_ordinal F_5_ordinal (by decide))]] at rv251
  subst rv251
  have N251 := Fr.app N250 N251q
  obtain ⟨cl252, Ar252, qa252, Sa252, Ma252, Ha252, Ga252⟩ := id (V_4.ext O0.2)
  have hin252 : ¬ ((((0 : Int32) + (1 : Int32)) + (1 : Int32)) < 0 ∨ cl252.slots.size ≤ ((((0 : Int32) + (1 : Int32)) + (1 : Int32))).toNatClampNeg) := by  exact inb_of Sa252 ⟨by decide, by decide⟩
  have hat252 : cl252.slots[((((0 : Int32) + (1 : Int32)) + (1 : Int32))).toNatClampNeg]? = some (.ref w_3) := Has.at Ha252 hin252 (by rfl)
  obtain ⟨cq253, kq253, q253a, q253b, q253c⟩ := isOf hZ e251 (E_1.ext O0.2)
  obtain ⟨_, _, ⟨T253, L253, k253, n253⟩, -, X253, ⟨Lc253, hQ253, l253, y253, z253⟩, st253⟩ := X251.virtualBack hx (y := Y1) (z := Y1) hown (mvT hZ (hw _ (tk 18 rfl))) (mvT hZ (hw _ (tk 19 rfl))) (notFace_of_selects (args := #[]) (mvT hZ (hw _ (tk 21 rfl)))) (mvT hZ (hw _ (tk 21 rfl))) (mvT hZ (hw _ (tk 20 rfl))) (by decide) (backOf (W := 0) (rm3 l Z a0 hw [] w_1 w_2 w_3 w_4 w_5 k_4 hS0 w_1 w_3 (1 : Int32) h0 n0 O0 (F_1_sharedWithItself.ext O0.2)) hZ (hw _ (tk 22 rfl)) (hw _ (tk 5 rfl)) (by decide) (by decide)) q253a q253c (g := (mkF m 25 #[.val (.ref w_2), .val (.ref w_1), .val (.ref w_4), .val (.int (4 : Int32)), .val (.int (((0 : Int32) + (1 : Int32)) + (1 : Int32))), .val (.ref w_3)] [(.ref w_3), (.ref w_1)])) rfl (by rw [hml]; rfl) (Steps.refl _) (argsL := [(.ref w_3)]) (rest := []) (lenOf pd_1 rfl) rfl (by show 2 * 0 + _ ≤ _; exact Nat.le_of_eq rfl) (hb hby d2_25) (fun _ _ => ⟨rfl, e251, (by decide : 0 + 0 ≤ _), (by decide : 0 + 0 ≤ _)⟩)
  dsimp only [Pt.U, Pt.locs, Pt.cells, Pt.slots] at X253 l253 y253 z253 st253 hQ253
  subst l253 y253 z253
  obtain ⟨rv253, N253q, e253⟩ := hQ253
  rw [show sp3 w_1 w_3 (1 : Int32) = (1 : Int32) from by unfold sp3; rw [if_neg (Fld.ne F_1_ordinal F_3_ordinal (by decide))]] at rv253
  subst rv253
  have N253 := Fr.app N251 N253q
  obtain ⟨cq254, kq254, q254a, q254b, q254c⟩ := isOf hZ e253 (E_2.ext O0.2)
  obtain ⟨_, _, ⟨T254, L254, k254, n254⟩, -, X254, ⟨Lc254, hQ254, l254, y254, z254⟩, st254⟩ := X253.virtualBack hx (y := Y1) (z := Y1) hown (mvT hZ (hw _ (tk 18 rfl))) (mvT hZ (hw _ (tk 19 rfl))) (notFace_of_selects (args := #[]) (mvT hZ (hw _ (tk 21 rfl)))) (mvT hZ (hw _ (tk 21 rfl))) (mvT hZ (hw _ (tk 20 rfl))) (by decide) (backOf (W := 0) (rm3 l Z a0 hw [] w_1 w_2 w_3 w_4 w_5 k_4 hS0 w_2 w_3 (0 : Int32) h0 n0 O0 (F_2_sharedWithItself.ext O0.2)) hZ (hw _ (tk 22 rfl)) (hw _ (tk 5 rfl)) (by decide) (by decide)) q254a q254c (g := (mkF m 34 #[.val (.ref w_2), .val (.ref w_1), .val (.ref w_4), .val (.int (4 : Int32)), .val (.int (((0 : Int32) + (1 : Int32)) + (1 : Int32))), .val (.ref w_3)] [(.ref w_3), (.ref w_2)])) rfl (by rw [hml]; rfl) (Steps.refl _) (argsL := [(.ref w_3)]) (rest := []) (lenOf pd_1 rfl) rfl (by show 2 * 0 + _ ≤ _; exact Nat.le_of_eq rfl) (hb hby d2_34) (fun _ _ => ⟨rfl, e253, (by decide : 0 + 0 ≤ _), (by decide : 0 + 0 ≤ _)⟩)
  dsimp only [Pt.U, Pt.locs, Pt.cells, Pt.slots] at X254 l254 y254 z254 st254 hQ254
  subst l254 y254 z254
  obtain ⟨rv254, N254q, e254⟩ := hQ254
  rw [show sp3 w_2 w_3 (0 : Int32) = (1 : Int32) from by unfold sp3; rw [if_neg (Fld.ne F_2_ordinal F_3_ordinal (by decide))]] at rv254
  subst rv254
  have N254 := Fr.app N253 N254q
  obtain ⟨cl255, Ar255, qa255, Sa255, Ma255, Ha255, Ga255⟩ := id (V_4.ext O0.2)
  have hin255 : ¬ (((((0 : Int32) + (1 : Int32)) + (1 : Int32)) + (1 : Int32)) < 0 ∨ cl255.slots.size ≤ (((((0 : Int32) + (1 : Int32)) + (1 : Int32)) + (1 : Int32))).toNatClampNeg) := by  exact inb_of Sa255 ⟨by decide, by decide⟩
  have hat255 : cl255.slots[(((((0 : Int32) + (1 : Int32)) + (1 : Int32)) + (1 : Int32))).toNatClampNeg]? = some (.ref w_2) := Has.at Ha255 hin255 (by rfl)
  obtain ⟨cq256, kq256, q256a, q256b, q256c⟩ := isOf hZ e254 (E_1.ext O0.2)
  obtain ⟨_, _, ⟨T256, L256, k256, n256⟩, -, X256, ⟨Lc256, hQ256, l256, y256, z256⟩, st256⟩ := X254.virtualBack hx (y := Y1) (z := Y1) hown (mvT hZ (hw _ (tk 18 rfl))) (mvT hZ (hw _ (tk 19 rfl))) (notFace_of_selects (args := #[]) (mvT hZ (hw _ (tk 21 rfl)))) (mvT hZ (hw _ (tk 21 rfl))) (mvT hZ (hw _ (tk 20 rfl))) (by decide) (backOf (W := 0) (rm3 l Z a0 hw [] w_1 w_2 w_3 w_4 w_5 k_4 hS0 w_1 w_2 (1 : Int32) h0 n0 O0 (F_1_sharedWithItself.ext O0.2)) hZ (hw _ (tk 22 rfl)) (hw _ (tk 5 rfl)) (by decide) (by decide)) q256a q256c (g := (mkF m 25 #[.val (.ref w_2), .val (.ref w_1), .val (.ref w_4), .val (.int (4 : Int32)), .val (.int ((((0 : Int32) + (1 : Int32)) + (1 : Int32)) + (1 : Int32))), .val (.ref w_2)] [(.ref w_2), (.ref w_1)])) rfl (by rw [hml]; rfl) (Steps.refl _) (argsL := [(.ref w_2)]) (rest := []) (lenOf pd_1 rfl) rfl (by show 2 * 0 + _ ≤ _; exact Nat.le_of_eq rfl) (hb hby d2_25) (fun _ _ => ⟨rfl, e254, (by decide : 0 + 0 ≤ _), (by decide : 0 + 0 ≤ _)⟩)
  dsimp only [Pt.U, Pt.locs, Pt.cells, Pt.slots] at X256 l256 y256 z256 st256 hQ256
  subst l256 y256 z256
  obtain ⟨rv256, N256q, e256⟩ := hQ256
  rw [show sp3 w_1 w_2 (1 : Int32) = (1 : Int32) from by unfold sp3; rw [if_neg (Fld.ne F_1_ordinal F_2_ordinal (by decide))]] at rv256
  subst rv256
  have N256 := Fr.app N254 N256q
  obtain ⟨cq257, kq257, q257a, q257b, q257c⟩ := isOf hZ e256 (E_2.ext O0.2)
  obtain ⟨_, _, ⟨T257, L257, k257, n257⟩, -, X257, ⟨Lc257, hQ257, l257, y257, z257⟩, st257⟩ := X256.virtualBack hx (y := Y1) (z := Y1) hown (mvT hZ (hw _ (tk 18 rfl))) (mvT hZ (hw _ (tk 19 rfl))) (notFace_of_selects (args := #[]) (mvT hZ (hw _ (tk 21 rfl)))) (mvT hZ (hw _ (tk 21 rfl))) (mvT hZ (hw _ (tk 20 rfl))) (by decide) (backOf (W := 0) (rm3 l Z a0 hw [] w_1 w_2 w_3 w_4 w_5 k_4 hS0 w_2 w_2 (0 : Int32) h0 n0 O0 (F_2_sharedWithItself.ext O0.2)) hZ (hw _ (tk 22 rfl)) (hw _ (tk 5 rfl)) (by decide) (by decide)) q257a q257c (g := (mkF m 34 #[.val (.ref w_2), .val (.ref w_1), .val (.ref w_4), .val (.int (4 : Int32)), .val (.int ((((0 : Int32) + (1 : Int32)) + (1 : Int32)) + (1 : Int32))), .val (.ref w_2)] [(.ref w_2), (.ref w_2)])) rfl (by rw [hml]; rfl) (Steps.refl _) (argsL := [(.ref w_2)]) (rest := []) (lenOf pd_1 rfl) rfl (by show 2 * 0 + _ ≤ _; exact Nat.le_of_eq rfl) (hb hby d2_34) (fun _ _ => ⟨rfl, e256, (by decide : 0 + 0 ≤ _), (by decide : 0 + 0 ≤ _)⟩)
  dsimp only [Pt.U, Pt.locs, Pt.cells, Pt.slots] at X257 l257 y257 z257 st257 hQ257
  subst l257 y257 z257
  obtain ⟨rv257, N257q, e257⟩ := hQ257
  rw [show sp3 w_2 w_2 (0 : Int32) = (1 : Int32) from by unfold sp3; rw [if_pos rfl, if_pos (by decide : ((0 : Int32) = (0 : Int32)))]] at rv257
  subst rv257
  have N257 := Fr.app N256 N257q
  obtain ⟨fs, hr, hrun, hended, hW, hsame⟩ := X257.leave (v := some (.int (1 : Int32))) (fun h => by rw [Bd.returns] at h; cases h)
  refine ⟨_, _, pre0 _ ?_, hrun, hended, _, _, rfl, ?_, ⟨_, rfl⟩, hW, hsame.mono (by decide) (by decide)⟩
  · show Steps p.tables e below (s₁.setTop (mkF m 0 #[.val (.ref w_2), .val (.ref w_1), .unset, .unset, .unset, .unset] [])) _
    refine st245 _ ?_
    show Steps p.tables e below (T245.setTop (mkF m 3 #[.val (.ref w_2), .val (.ref w_1), .unset, .unset, .unset, .unset] [(.ref w_4)])) _
    refine XS.astoreN X245.here hx rfl (hb hby d2_3) rfl rfl (l' := #[.val (.ref w_2), .val (.ref w_1), .val (.ref w_4), .unset, .unset, .unset]) rfl ?_
    show Steps p.tables e below (T245.setTop (mkF m 4 #[.val (.ref w_2), .val (.ref w_1), .val (.ref w_4), .unset, .unset, .unset] [])) _
    refine XS.aloadN X245.here hx rfl (hb hby d2_4) rfl rfl ?_
    show Steps p.tables e below (T245.setTop (mkF m 5 #[.val (.ref w_2), .val (.ref w_1), .val (.ref w_4), .unset, .unset, .unset] [(.ref w_4)])) _
    refine X245.arraylength hx (by rw [e245]; exact Ar246.1) (State.isArrayOf_alike hZ.alike Ar246.2.1) (g := (mkF m 5 #[.val (.ref w_2), .val (.ref w_1), .val (.ref w_4), .unset, .unset, .unset] [(.ref w_4)])) rfl rfl (hb hby d2_5) _ ?_
    rw [len_of Sa246 Ma246]
    show Steps p.tables e below (T245.setTop (mkF m 6 #[.val (.ref w_2), .val (.ref w_1), .val (.ref w_4), .unset, .unset, .unset] [(.int (4 : Int32))])) _
    refine XS.istoreN X245.here hx rfl (hb hby d2_6) rfl (l' := #[.val (.ref w_2), .val (.ref w_1), .val (.ref w_4), .val (.int (4 : Int32)), .unset, .unset]) rfl ?_
    show Steps p.tables e below (T245.setTop (mkF m 7 #[.val (.ref w_2), .val (.ref w_1), .val (.ref w_4), .val (.int (4 : Int32)), .unset, .unset] [])) _
    refine XS.iconst X245.here hx rfl (hb hby d2_7) ?_
    show Steps p.tables e below (T245.setTop (mkF m 8 #[.val (.ref w_2), .val (.ref w_1), .val (.ref w_4), .val (.int (4 : Int32)), .unset, .unset] [(.int (0 : Int32))])) _
    refine XS.istore X245.here hx rfl (hb hby d2_8) rfl (l' := #[.val (.ref w_2), .val (.ref w_1), .val (.ref w_4), .val (.int (4 : Int32)), .val (.int (0 : Int32)), .unset]) rfl ?_
    show Steps p.tables e below (T245.setTop (mkF m 10 #[.val (.ref w_2), .val (.ref w_1), .val (.ref w_4), .val (.int (4 : Int32)), .val (.int (0 : Int32)), .unset] [])) _
    refine XS.iload X245.here hx rfl (hb hby d2_10) rfl ?_
    show Steps p.tables e below (T245.setTop (mkF m 12 #[.val (.ref w_2), .val (.ref w_1), .val (.ref w_4), .val (.int (4 : Int32)), .val (.int (0 : Int32)), .unset] [(.int (0 : Int32))])) _
    refine XS.iloadN X245.here hx rfl (hb hby d2_12) rfl ?_
    show Steps p.tables e below (T245.setTop (mkF m 13 #[.val (.ref w_2), .val (.ref w_1), .val (.ref w_4), .val (.int (4 : Int32)), .val (.int (0 : Int32)), .unset] [(.int (4 : Int32)), (.int (0 : Int32))])) _
    refine XS.icmpNo X245.here hx rfl (hb hby d2_13) rfl (tlt (by decide : ((0 : Int32) < (4 : Int32)))).2.1 ?_
    show Steps p.tables e below (T245.setTop (mkF m 16 #[.val (.ref w_2), .val (.ref w_1), .val (.ref w_4), .val (.int (4 : Int32)), .val (.int (0 : Int32)), .unset] [])) _
    refine XS.aloadN X245.here hx rfl (hb hby d2_16) rfl rfl ?_
    show Steps p.tables e below (T245.setTop (mkF m 17 #[.val (.ref w_2), .val (.ref w_1), .val (.ref w_4), .val (.int (4 : Int32)), .val (.int (0 : Int32)), .unset] [(.ref w_4)])) _
    refine XS.iload X245.here hx rfl (hb hby d2_17) rfl ?_
    show Steps p.tables e below (T245.setTop (mkF m 19 #[.val (.ref w_2), .val (.ref w_1), .val (.ref w_4), .val (.int (4 : Int32)), .val (.int (0 : Int32)), .unset] [(.int (0 : Int32)), (.ref w_4)])) _
    refine X245.aaload hx (j := (0 : Int32)) (v := (.ref w_1)) (by rw [e245]; exact Ar247.1) (State.isArrayOf_alike hZ.alike Ar247.2.1) rfl Ar247.2.2 hin247 hat247 (g := (mkF m 19 #[.val (.ref w_2), .val (.ref w_1), .val (.ref w_4), .val (.int (4 : Int32)), .val (.int (0 : Int32)), .unset] [(.int (0 : Int32)), (.ref w_4)])) rfl rfl (hb hby d2_19) _ ?_
    show Steps p.tables e below (T245.setTop (mkF m 20 #[.val (.ref w_2), .val (.ref w_1), .val (.ref w_4), .val (.int (4 : Int32)), .val (.int (0 : Int32)), .unset] [(.ref w_1)])) _
    refine XS.astore X245.here hx rfl (hb hby d2_20) rfl rfl (l' := #[.val (.ref w_2), .val (.ref w_1), .val (.ref w_4), .val (.int (4 : Int32)), .val (.int (0 : Int32)), .val (.ref w_1)]) rfl ?_
    show Steps p.tables e below (T245.setTop (mkF m 22 #[.val (.ref w_2), .val (.ref w_1), .val (.ref w_4), .val (.int (4 : Int32)), .val (.int (0 : Int32)), .val (.ref w_1)] [])) _
    refine XS.aloadN X245.here hx rfl (hb hby d2_22) rfl rfl ?_
    show Steps p.tables e below (T245.setTop (mkF m 23 #[.val (.ref w_2), .val (.ref w_1), .val (.ref w_4), .val (.int (4 : Int32)), .val (.int (0 : Int32)), .val (.ref w_1)] [(.ref w_1)])) _
    refine XS.aload X245.here hx rfl (hb hby d2_23) rfl rfl ?_
    show Steps p.tables e below (T245.setTop (mkF m 25 #[.val (.ref w_2), .val (.ref w_1), .val (.ref w_4), .val (.int (4 : Int32)), .val (.int (0 : Int32)), .val (.ref w_1)] [(.ref w_1), (.ref w_1)])) _
    refine st248.trans ?_
    show Steps p.tables e below (T248.setTop (mkF m 28 #[.val (.ref w_2), .val (.ref w_1), .val (.ref w_4), .val (.int (4 : Int32)), .val (.int (0 : Int32)), .val (.ref w_1)] [(.int (0 : Int32))])) _
    refine XS.ifYes X248.here hx rfl (pc0 := 28) (pc' := 42) rfl (hb hby d2_28) rfl ((if0 _ _).trans (teq (by decide : ((0 : Int32) = (0 : Int32)))).1) (by decide) (by decide) ?_
    show Steps p.tables e below (T248.setTop (mkF m 42 #[.val (.ref w_2), .val (.ref w_1), .val (.ref w_4), .val (.int (4 : Int32)), .val (.int (0 : Int32)), .val (.ref w_1)] [])) _
    refine XS.iinc X248.here hx rfl (hb hby d2_42) rfl (l' := #[.val (.ref w_2), .val (.ref w_1), .val (.ref w_4), .val (.int (4 : Int32)), .val (.int ((0 : Int32) + (1 : Int32))), .val (.ref w_1)]) rfl ?_
    show Steps p.tables e below (T248.setTop (mkF m 45 #[.val (.ref w_2), .val (.ref w_1), .val (.ref w_4), .val (.int (4 : Int32)), .val (.int ((0 : Int32) + (1 : Int32))), .val (.ref w_1)] [])) _
    refine XS.goto X248.here hx rfl (pc0 := 45) (pc' := 10) rfl (hb hby d2_45) (by decide) (by decide) ?_
    show Steps p.tables e below (T248.setTop (mkF m 10 #[.val (.ref w_2), .val (.ref w_1), .val (.ref w_4), .val (.int (4 : Int32)), .val (.int ((0 : Int32) + (1 : Int32))), .val (.ref w_1)] [])) _
    refine XS.iload X248.here hx rfl (hb hby d2_10) rfl ?_
    show Steps p.tables e below (T248.setTop (mkF m 12 #[.val (.ref w_2), .val (.ref w_1), .val (.ref w_4), .val (.int (4 : Int32)), .val (.int ((0 : Int32) + (1 : Int32))), .val (.ref w_1)] [(.int ((0 : Int32) + (1 : Int32)))])) _
    refine XS.iloadN X248.here hx rfl (hb hby d2_12) rfl ?_
    show Steps p.tables e below (T248.setTop (mkF m 13 #[.val (.ref w_2), .val (.ref w_1), .val (.ref w_4), .val (.int (4 : Int32)), .val (.int ((0 : Int32) + (1 : Int32))), .val (.ref w_1)] [(.int (4 : Int32)), (.int ((0 : Int32) + (1 : Int32)))])) _
    refine XS.icmpNo X248.here hx rfl (hb hby d2_13) rfl (tlt (by decide : (((0 : Int32) + (1 : Int32)) < (4 : Int32)))).2.1 ?_
    show Steps p.tables e below (T248.setTop (mkF m 16 #[.val (.ref w_2), .val (.ref w_1), .val (.ref w_4), .val (.int (4 : Int32)), .val (.int ((0 : Int32) + (1 : Int32))), .val (.ref w_1)] [])) _
    refine XS.aloadN X248.here hx rfl (hb hby d2_16) rfl rfl ?_
    show Steps p.tables e below (T248.setTop (mkF m 17 #[.val (.ref w_2), .val (.ref w_1), .val (.ref w_4), .val (.int (4 : Int32)), .val (.int ((0 : Int32) + (1 : Int32))), .val (.ref w_1)] [(.ref w_4)])) _
    refine XS.iload X248.here hx rfl (hb hby d2_17) rfl ?_
    show Steps p.tables e below (T248.setTop (mkF m 19 #[.val (.ref w_2), .val (.ref w_1), .val (.ref w_4), .val (.int (4 : Int32)), .val (.int ((0 : Int32) + (1 : Int32))), .val (.ref w_1)] [(.int ((0 : Int32) + (1 : Int32))), (.ref w_4)])) _
    refine X248.aaload hx (j := ((0 : Int32) + (1 : Int32))) (v := (.ref w_5)) (by rw [e248]; exact Ar249.1) (State.isArrayOf_alike hZ.alike Ar249.2.1) rfl Ar249.2.2 hin249 hat249 (g := (mkF m 19 #[.val (.ref w_2), .val (.ref w_1), .val (.ref w_4), .val (.int (4 : Int32)), .val (.int ((0 : Int32) + (1 : Int32))), .val (.ref w_1)] [(.int ((0 : Int32) + (1 : Int32))), (.ref w_4)])) rfl rfl (hb hby d2_19) _ ?_
    show Steps p.tables e below (T248.setTop (mkF m 20 #[.val (.ref w_2), .val (.ref w_1), .val (.ref w_4), .val (.int (4 : Int32)), .val (.int ((0 : Int32) + (1 : Int32))), .val (.ref w_1)] [(.ref w_5)])) _
    refine XS.astore X248.here hx rfl (hb hby d2_20) rfl rfl (l' := #[.val (.ref w_2), .val (.ref w_1), .val (.ref w_4), .val (.int (4 : Int32)), .val (.int ((0 : Int32) + (1 : Int32))), .val (.ref w_5)]) rfl ?_
    show Steps p.tables e below (T248.setTop (mkF m 22 #[.val (.ref w_2), .val (.ref w_1), .val (.ref w_4), .val (.int (4 : Int32)), .val (.int ((0 : Int32) + (1 : Int32))), .val (.ref w_5)] [])) _
    refine XS.aloadN X248.here hx rfl (hb hby d2_22) rfl rfl ?_
    show Steps p.tables e below (T248.setTop (mkF m 23 #[.val (.ref w_2), .val (.ref w_1), .val (.ref w_4), .val (.int (4 : Int32)), .val (.int ((0 : Int32) + (1 : Int32))), .val (.ref w_5)] [(.ref w_1)])) _
    refine XS.aload X248.here hx rfl (hb hby d2_23) rfl rfl ?_
    show Steps p.tables e below (T248.setTop (mkF m 25 #[.val (.ref w_2), .val (.ref w_1), .val (.ref w_4), .val (.int (4 : Int32)), .val (.int ((0 : Int32) + (1 : Int32))), .val (.ref w_5)] [(.ref w_5), (.ref w_1)])) _
    refine st250.trans ?_
    show Steps p.tables e below (T250.setTop (mkF m 28 #[.val (.ref w_2), .val (.ref w_1), .val (.ref w_4), .val (.int (4 : Int32)), .val (.int ((0 : Int32) + (1 : Int32))), .val (.ref w_5)] [(.int (1 : Int32))])) _
    refine XS.ifNo X250.here hx rfl (hb hby d2_28) rfl ((if0 _ _).trans (feq (by decide : ¬ ((1 : Int32) = (0 : Int32)))).1) ?_
    show Steps p.tables e below (T250.setTop (mkF m 31 #[.val (.ref w_2), .val (.ref w_1), .val (.ref w_4), .val (.int (4 : Int32)), .val (.int ((0 : Int32) + (1 : Int32))), .val (.ref w_5)] [])) _
    refine XS.aloadN X250.here hx rfl (hb hby d2_31) rfl rfl ?_
    show Steps p.tables e below (T250.setTop (mkF m 32 #[.val (.ref w_2), .val (.ref w_1), .val (.ref w_4), .val (.int (4 : Int32)), .val (.int ((0 : Int32) + (1 : Int32))), .val (.ref w_5)] [(.ref w_2)])) _
    refine XS.aload X250.here hx rfl (hb hby d2_32) rfl rfl ?_
    show Steps p.tables e below (T250.setTop (mkF m 34 #[.val (.ref w_2), .val (.ref w_1), .val (.ref w_4), .val (.int (4 : Int32)), .val (.int ((0 : Int32) + (1 : Int32))), .val (.ref w_5)] [(.ref w_5), (.ref w_2)])) _
    refine st251.trans ?_
    show Steps p.tables e below (T251.setTop (mkF m 37 #[.val (.ref w_2), .val (.ref w_1), .val (.ref w_4), .val (.int (4 : Int32)), .val (.int ((0 : Int32) + (1 : Int32))), .val (.ref w_5)] [(.int (1 : Int32))])) _
    refine XS.ifYes X251.here hx rfl (pc0 := 37) (pc' := 42) rfl (hb hby d2_37) rfl ((if0 _ _).trans (feq (by decide : ¬ ((1 : Int32) = (0 : Int32)))).2) (by decide) (by decide) ?_
    show Steps p.tables e below (T251.setTop (mkF m 42 #[.val (.ref w_2), .val (.ref w_1), .val (.ref w_4), .val (.int (4 : Int32)), .val (.int ((0 : Int32) + (1 : Int32))), .val (.ref w_5)] [])) _
    refine XS.iinc X251.here hx rfl (hb hby d2_42) rfl (l' := #[.val (.ref w_2), .val (.ref w_1), .val (.ref w_4), .val (.int (4 : Int32)), .val (.int (((0 : Int32) + (1 : Int32)) + (1 : Int32))), .val (.ref w_5)]) rfl ?_
    show Steps p.tables e below (T251.setTop (mkF m 45 #[.val (.ref w_2), .val (.ref w_1), .val (.ref w_4), .val (.int (4 : Int32)), .val (.int (((0 : Int32) + (1 : Int32)) + (1 : Int32))), .val (.ref w_5)] [])) _
    refine XS.goto X251.here hx rfl (pc0 := 45) (pc' := 10) rfl (hb hby d2_45) (by decide) (by decide) ?_
    show Steps p.tables e below (T251.setTop (mkF m 10 #[.val (.ref w_2), .val (.ref w_1), .val (.ref w_4), .val (.int (4 : Int32)), .val (.int (((0 : Int32) + (1 : Int32)) + (1 : Int32))), .val (.ref w_5)] [])) _
    refine XS.iload X251.here hx rfl (hb hby d2_10) rfl ?_
    show Steps p.tables e below (T251.setTop (mkF m 12 #[.val (.ref w_2), .val (.ref w_1), .val (.ref w_4), .val (.int (4 : Int32)), .val (.int (((0 : Int32) + (1 : Int32)) + (1 : Int32))), .val (.ref w_5)] [(.int (((0 : Int32) + (1 : Int32)) + (1 : Int32)))])) _
    refine XS.iloadN X251.here hx rfl (hb hby d2_12) rfl ?_
    show Steps p.tables e below (T251.setTop (mkF m 13 #[.val (.ref w_2), .val (.ref w_1), .val (.ref w_4), .val (.int (4 : Int32)), .val (.int (((0 : Int32) + (1 : Int32)) + (1 : Int32))), .val (.ref w_5)] [(.int (4 : Int32)), (.int (((0 : Int32) + (1 : Int32)) + (1 : Int32)))])) _
    refine XS.icmpNo X251.here hx rfl (hb hby d2_13) rfl (tlt (by decide : ((((0 : Int32) + (1 : Int32)) + (1 : Int32)) < (4 : Int32)))).2.1 ?_
    show Steps p.tables e below (T251.setTop (mkF m 16 #[.val (.ref w_2), .val (.ref w_1), .val (.ref w_4), .val (.int (4 : Int32)), .val (.int (((0 : Int32) + (1 : Int32)) + (1 : Int32))), .val (.ref w_5)] [])) _
    refine XS.aloadN X251.here hx rfl (hb hby d2_16) rfl rfl ?_
    show Steps p.tables e below (T251.setTop (mkF m 17 #[.val (.ref w_2), .val (.ref w_1), .val (.ref w_4), .val (.int (4 : Int32)), .val (.int (((0 : Int32) + (1 : Int32)) + (1 : Int32))), .val (.ref w_5)] [(.ref w_4)])) _
    refine XS.iload X251.here hx rfl (hb hby d2_17) rfl ?_
    show Steps p.tables e below (T251.setTop (mkF m 19 #[.val (.ref w_2), .val (.ref w_1), .val (.ref w_4), .val (.int (4 : Int32)), .val (.int (((0 : Int32) + (1 : Int32)) + (1 : Int32))), .val (.ref w_5)] [(.int (((0 : Int32) + (1 : Int32)) + (1 : Int32))), (.ref w_4)])) _
    refine X251.aaload hx (j := (((0 : Int32) + (1 : Int32)) + (1 : Int32))) (v := (.ref w_3)) (by rw [e251]; exact Ar252.1) (State.isArrayOf_alike hZ.alike Ar252.2.1) rfl Ar252.2.2 hin252 hat252 (g := (mkF m 19 #[.val (.ref w_2), .val (.ref w_1), .val (.ref w_4), .val (.int (4 : Int32)), .val (.int (((0 : Int32) + (1 : Int32)) + (1 : Int32))), .val (.ref w_5)] [(.int (((0 : Int32) + (1 : Int32)) + (1 : Int32))), (.ref w_4)])) rfl rfl (hb hby d2_19) _ ?_
    show Steps p.tables e below (T251.setTop (mkF m 20 #[.val (.ref w_2), .val (.ref w_1), .val (.ref w_4), .val (.int (4 : Int32)), .val (.int (((0 : Int32) + (1 : Int32)) + (1 : Int32))), .val (.ref w_5)] [(.ref w_3)])) _
    refine XS.astore X251.here hx rfl (hb hby d2_20) rfl rfl (l' := #[.val (.ref w_2), .val (.ref w_1), .val (.ref w_4), .val (.int (4 : Int32)), .val (.int (((0 : Int32) + (1 : Int32)) + (1 : Int32))), .val (.ref w_3)]) rfl ?_
    show Steps p.tables e below (T251.setTop (mkF m 22 #[.val (.ref w_2), .val (.ref w_1), .val (.ref w_4), .val (.int (4 : Int32)), .val (.int (((0 : Int32) + (1 : Int32)) + (1 : Int32))), .val (.ref w_3)] [])) _
    refine XS.aloadN X251.here hx rfl (hb hby d2_22) rfl rfl ?_
    show Steps p.tables e below (T251.setTop (mkF m 23 #[.val (.ref w_2), .val (.ref w_1), .val (.ref w_4), .val (.int (4 : Int32)), .val (.int (((0 : Int32) + (1 : Int32)) + (1 : Int32))), .val (.ref w_3)] [(.ref w_1)])) _
    refine XS.aload X251.here hx rfl (hb hby d2_23) rfl rfl ?_
    show Steps p.tables e below (T251.setTop (mkF m 25 #[.val (.ref w_2), .val (.ref w_1), .val (.ref w_4), .val (.int (4 : Int32)), .val (.int (((0 : Int32) + (1 : Int32)) + (1 : Int32))), .val (.ref w_3)] [(.ref w_3), (.ref w_1)])) _
    refine st253.trans ?_
    show Steps p.tables e below (T253.setTop (mkF m 28 #[.val (.ref w_2), .val (.ref w_1), .val (.ref w_4), .val (.int (4 : Int32)), .val (.int (((0 : Int32) + (1 : Int32)) + (1 : Int32))), .val (.ref w_3)] [(.int (1 : Int32))])) _
    refine XS.ifNo X253.here hx rfl (hb hby d2_28) rfl ((if0 _ _).trans (feq (by decide : ¬ ((1 : Int32) = (0 : Int32)))).1) ?_
    show Steps p.tables e below (T253.setTop (mkF m 31 #[.val (.ref w_2), .val (.ref w_1), .val (.ref w_4), .val (.int (4 : Int32)), .val (.int (((0 : Int32) + (1 : Int32)) + (1 : Int32))), .val (.ref w_3)] [])) _
    refine XS.aloadN X253.here hx rfl (hb hby d2_31) rfl rfl ?_
    show Steps p.tables e below (T253.setTop (mkF m 32 #[.val (.ref w_2), .val (.ref w_1), .val (.ref w_4), .val (.int (4 : Int32)), .val (.int (((0 : Int32) + (1 : Int32)) + (1 : Int32))), .val (.ref w_3)] [(.ref w_2)])) _
    refine XS.aload X253.here hx rfl (hb hby d2_32) rfl rfl ?_
    show Steps p.tables e below (T253.setTop (mkF m 34 #[.val (.ref w_2), .val (.ref w_1), .val (.ref w_4), .val (.int (4 : Int32)), .val (.int (((0 : Int32) + (1 : Int32)) + (1 : Int32))), .val (.ref w_3)] [(.ref w_3), (.ref w_2)])) _
    refine st254.trans ?_
    show Steps p.tables e below (T254.setTop (mkF m 37 #[.val (.ref w_2), .val (.ref w_1), .val (.ref w_4), .val (.int (4 : Int32)), .val (.int (((0 : Int32) + (1 : Int32)) + (1 : Int32))), .val (.ref w_3)] [(.int (1 : Int32))])) _
    refine XS.ifYes X254.here hx rfl (pc0 := 37) (pc' := 42) rfl (hb hby d2_37) rfl ((if0 _ _).trans (feq (by decide : ¬ ((1 : Int32) = (0 : Int32)))).2) (by decide) (by decide) ?_
    show Steps p.tables e below (T254.setTop (mkF m 42 #[.val (.ref w_2), .val (.ref w_1), .val (.ref w_4), .val (.int (4 : Int32)), .val (.int (((0 : Int32) + (1 : Int32)) + (1 : Int32))), .val (.ref w_3)] [])) _
    refine XS.iinc X254.here hx rfl (hb hby d2_42) rfl (l' := #[.val (.ref w_2), .val (.ref w_1), .val (.ref w_4), .val (.int (4 : Int32)), .val (.int ((((0 : Int32) + (1 : Int32)) + (1 : Int32)) + (1 : Int32))), .val (.ref w_3)]) rfl ?_
    show Steps p.tables e below (T254.setTop (mkF m 45 #[.val (.ref w_2), .val (.ref w_1), .val (.ref w_4), .val (.int (4 : Int32)), .val (.int ((((0 : Int32) + (1 : Int32)) + (1 : Int32)) + (1 : Int32))), .val (.ref w_3)] [])) _
    refine XS.goto X254.here hx rfl (pc0 := 45) (pc' := 10) rfl (hb hby d2_45) (by decide) (by decide) ?_
    show Steps p.tables e below (T254.setTop (mkF m 10 #[.val (.ref w_2), .val (.ref w_1), .val (.ref w_4), .val (.int (4 : Int32)), .val (.int ((((0 : Int32) + (1 : Int32)) + (1 : Int32)) + (1 : Int32))), .val (.ref w_3)] [])) _
    refine XS.iload X254.here hx rfl (hb hby d2_10) rfl ?_
    show Steps p.tables e below (T254.setTop (mkF m 12 #[.val (.ref w_2), .val (.ref w_1), .val (.ref w_4), .val (.int (4 : Int32)), .val (.int ((((0 : Int32) + (1 : Int32)) + (1 : Int32)) + (1 : Int32))), .val (.ref w_3)] [(.int ((((0 : Int32) + (1 : Int32)) + (1 : Int32)) + (1 : Int32)))])) _
    refine XS.iloadN X254.here hx rfl (hb hby d2_12) rfl ?_
    show Steps p.tables e below (T254.setTop (mkF m 13 #[.val (.ref w_2), .val (.ref w_1), .val (.ref w_4), .val (.int (4 : Int32)), .val (.int ((((0 : Int32) + (1 : Int32)) + (1 : Int32)) + (1 : Int32))), .val (.ref w_3)] [(.int (4 : Int32)), (.int ((((0 : Int32) + (1 : Int32)) + (1 : Int32)) + (1 : Int32)))])) _
    refine XS.icmpNo X254.here hx rfl (hb hby d2_13) rfl (tlt (by decide : (((((0 : Int32) + (1 : Int32)) + (1 : Int32)) + (1 : Int32)) < (4 : Int32)))).2.1 ?_
    show Steps p.tables e below (T254.setTop (mkF m 16 #[.val (.ref w_2), .val (.ref w_1), .val (.ref w_4), .val (.int (4 : Int32)), .val (.int ((((0 : Int32) + (1 : Int32)) + (1 : Int32)) + (1 : Int32))), .val (.ref w_3)] [])) _
    refine XS.aloadN X254.here hx rfl (hb hby d2_16) rfl rfl ?_
    show Steps p.tables e below (T254.setTop (mkF m 17 #[.val (.ref w_2), .val (.ref w_1), .val (.ref w_4), .val (.int (4 : Int32)), .val (.int ((((0 : Int32) + (1 : Int32)) + (1 : Int32)) + (1 : Int32))), .val (.ref w_3)] [(.ref w_4)])) _
    refine XS.iload X254.here hx rfl (hb hby d2_17) rfl ?_
    show Steps p.tables e below (T254.setTop (mkF m 19 #[.val (.ref w_2), .val (.ref w_1), .val (.ref w_4), .val (.int (4 : Int32)), .val (.int ((((0 : Int32) + (1 : Int32)) + (1 : Int32)) + (1 : Int32))), .val (.ref w_3)] [(.int ((((0 : Int32) + (1 : Int32)) + (1 : Int32)) + (1 : Int32))), (.ref w_4)])) _
    refine X254.aaload hx (j := ((((0 : Int32) + (1 : Int32)) + (1 : Int32)) + (1 : Int32))) (v := (.ref w_2)) (by rw [e254]; exact Ar255.1) (State.isArrayOf_alike hZ.alike Ar255.2.1) rfl Ar255.2.2 hin255 hat255 (g := (mkF m 19 #[.val (.ref w_2), .val (.ref w_1), .val (.ref w_4), .val (.int (4 : Int32)), .val (.int ((((0 : Int32) + (1 : Int32)) + (1 : Int32)) + (1 : Int32))), .val (.ref w_3)] [(.int ((((0 : Int32) + (1 : Int32)) + (1 : Int32)) + (1 : Int32))), (.ref w_4)])) rfl rfl (hb hby d2_19) _ ?_
    show Steps p.tables e below (T254.setTop (mkF m 20 #[.val (.ref w_2), .val (.ref w_1), .val (.ref w_4), .val (.int (4 : Int32)), .val (.int ((((0 : Int32) + (1 : Int32)) + (1 : Int32)) + (1 : Int32))), .val (.ref w_3)] [(.ref w_2)])) _
    refine XS.astore X254.here hx rfl (hb hby d2_20) rfl rfl (l' := #[.val (.ref w_2), .val (.ref w_1), .val (.ref w_4), .val (.int (4 : Int32)), .val (.int ((((0 : Int32) + (1 : Int32)) + (1 : Int32)) + (1 : Int32))), .val (.ref w_2)]) rfl ?_
    show Steps p.tables e below (T254.setTop (mkF m 22 #[.val (.ref w_2), .val (.ref w_1), .val (.ref w_4), .val (.int (4 : Int32)), .val (.int ((((0 : Int32) + (1 : Int32)) + (1 : Int32)) + (1 : Int32))), .val (.ref w_2)] [])) _
    refine XS.aloadN X254.here hx rfl (hb hby d2_22) rfl rfl ?_
    show Steps p.tables e below (T254.setTop (mkF m 23 #[.val (.ref w_2), .val (.ref w_1), .val (.ref w_4), .val (.int (4 : Int32)), .val (.int ((((0 : Int32) + (1 : Int32)) + (1 : Int32)) + (1 : Int32))), .val (.ref w_2)] [(.ref w_1)])) _
    refine XS.aload X254.here hx rfl (hb hby d2_23) rfl rfl ?_
    show Steps p.tables e below (T254.setTop (mkF m 25 #[.val (.ref w_2), .val (.ref w_1), .val (.ref w_4), .val (.int (4 : Int32)), .val (.int ((((0 : Int32) + (1 : Int32)) + (1 : Int32)) + (1 : Int32))), .val (.ref w_2)] [(.ref w_2), (.ref w_1)])) _
    refine st256.trans ?_
    show Steps p.tables e below (T256.setTop (mkF m 28 #[.val (.ref w_2), .val (.ref w_1), .val (.ref w_4), .val (.int (4 : Int32)), .val (.int ((((0 : Int32) + (1 : Int32)) + (1 : Int32)) + (1 : Int32))), .val (.ref w_2)] [(.int (1 : Int32))])) _
    refine XS.ifNo X256.here hx rfl (hb hby d2_28) rfl ((if0 _ _).trans (feq (by decide : ¬ ((1 : Int32) = (0 : Int32)))).1) ?_
    show Steps p.tables e below (T256.setTop (mkF m 31 #[.val (.ref w_2), .val (.ref w_1), .val (.ref w_4), .val (.int (4 : Int32)), .val (.int ((((0 : Int32) + (1 : Int32)) + (1 : Int32)) + (1 : Int32))), .val (.ref w_2)] [])) _
    refine XS.aloadN X256.here hx rfl (hb hby d2_31) rfl rfl ?_
    show Steps p.tables e below (T256.setTop (mkF m 32 #[.val (.ref w_2), .val (.ref w_1), .val (.ref w_4), .val (.int (4 : Int32)), .val (.int ((((0 : Int32) + (1 : Int32)) + (1 : Int32)) + (1 : Int32))), .val (.ref w_2)] [(.ref w_2)])) _
    refine XS.aload X256.here hx rfl (hb hby d2_32) rfl rfl ?_
    show Steps p.tables e below (T256.setTop (mkF m 34 #[.val (.ref w_2), .val (.ref w_1), .val (.ref w_4), .val (.int (4 : Int32)), .val (.int ((((0 : Int32) + (1 : Int32)) + (1 : Int32)) + (1 : Int32))), .val (.ref w_2)] [(.ref w_2), (.ref w_2)])) _
    refine st257.trans ?_
    show Steps p.tables e below (T257.setTop (mkF m 37 #[.val (.ref w_2), .val (.ref w_1), .val (.ref w_4), .val (.int (4 : Int32)), .val (.int ((((0 : Int32) + (1 : Int32)) + (1 : Int32)) + (1 : Int32))), .val (.ref w_2)] [(.int (1 : Int32))])) _
    refine XS.ifYes X257.here hx rfl (pc0 := 37) (pc' := 42) rfl (hb hby d2_37) rfl ((if0 _ _).trans (feq (by decide : ¬ ((1 : Int32) = (0 : Int32)))).2) (by decide) (by decide) ?_
    show Steps p.tables e below (T257.setTop (mkF m 42 #[.val (.ref w_2), .val (.ref w_1), .val (.ref w_4), .val (.int (4 : Int32)), .val (.int ((((0 : Int32) + (1 : Int32)) + (1 : Int32)) + (1 : Int32))), .val (.ref w_2)] [])) _
    refine XS.iinc X257.here hx rfl (hb hby d2_42) rfl (l' := #[.val (.ref w_2), .val (.ref w_1), .val (.ref w_4), .val (.int (4 : Int32)), .val (.int (((((0 : Int32) + (1 : Int32)) + (1 : Int32)) + (1 : Int32)) + (1 : Int32))), .val (.ref w_2)]) rfl ?_
    show Steps p.tables e below (T257.setTop (mkF m 45 #[.val (.ref w_2), .val (.ref w_1), .val (.ref w_4), .val (.int (4 : Int32)), .val (.int (((((0 : Int32) + (1 : Int32)) + (1 : Int32)) + (1 : Int32)) + (1 : Int32))), .val (.ref w_2)] [])) _
    refine XS.goto X257.here hx rfl (pc0 := 45) (pc' := 10) rfl (hb hby d2_45) (by decide) (by decide) ?_
    show Steps p.tables e below (T257.setTop (mkF m 10 #[.val (.ref w_2), .val (.ref w_1), .val (.ref w_4), .val (.int (4 : Int32)), .val (.int (((((0 : Int32) + (1 : Int32)) + (1 : Int32)) + (1 : Int32)) + (1 : Int32))), .val (.ref w_2)] [])) _
    refine XS.iload X257.here hx rfl (hb hby d2_10) rfl ?_
    show Steps p.tables e below (T257.setTop (mkF m 12 #[.val (.ref w_2), .val (.ref w_1), .val (.ref w_4), .val (.int (4 : Int32)), .val (.int (((((0 : Int32) + (1 : Int32)) + (1 : Int32)) + (1 : Int32)) + (1 : Int32))), .val (.ref w_2)] [(.int (((((0 : Int32) + (1 : Int32)) + (1 : Int32)) + (1 : Int32)) + (1 : Int32)))])) _
    refine XS.iloadN X257.here hx rfl (hb hby d2_12) rfl ?_
    show Steps p.tables e below (T257.setTop (mkF m 13 #[.val (.ref w_2), .val (.ref w_1), .val (.ref w_4), .val (.int (4 : Int32)), .val (.int (((((0 : Int32) + (1 : Int32)) + (1 : Int32)) + (1 : Int32)) + (1 : Int32))), .val (.ref w_2)] [(.int (4 : Int32)), (.int (((((0 : Int32) + (1 : Int32)) + (1 : Int32)) + (1 : Int32)) + (1 : Int32)))])) _
    refine XS.icmpYes X257.here hx rfl (pc0 := 13) (pc' := 48) rfl (hb hby d2_13) rfl (flt (by decide : ¬ ((((((0 : Int32) + (1 : Int32)) + (1 : Int32)) + (1 : Int32)) + (1 : Int32)) < (4 : Int32)))).2.1 (by decide) (by decide) ?_
    show Steps p.tables e below (T257.setTop (mkF m 48 #[.val (.ref w_2), .val (.ref w_1), .val (.ref w_4), .val (.int (4 : Int32)), .val (.int (((((0 : Int32) + (1 : Int32)) + (1 : Int32)) + (1 : Int32)) + (1 : Int32))), .val (.ref w_2)] [])) _
    refine XS.iconst X257.here hx rfl (hb hby d2_48) ?_
    show Steps p.tables e below (T257.setTop (mkF m 49 #[.val (.ref w_2), .val (.ref w_1), .val (.ref w_4), .val (.int (4 : Int32)), .val (.int (((((0 : Int32) + (1 : Int32)) + (1 : Int32)) + (1 : Int32)) + (1 : Int32))), .val (.ref w_2)] [(.int (1 : Int32))])) _
    exact retN X257 hx (t := .boolean) Bd.returns (by simp) (hb hby d2_49) hr
  · show Q2x13 Z w_1 w_2 w_3 w_4 w_5 k_4 h0 n0 _ T257.heap _
    rw [e257]
    exact ⟨by unfold sp2x13; rfl, N257, rfl⟩
theorem pn_2x14 : plainName "com/example/lucid_locks/lucidlocks/locks/LockMode" = true := by first | (simp [plainName, overriddenIn]; done) | decide +kernel
theorem ef_2x14 (m : MethodId) (w_2 : Addr) (w_5 : Addr) : entryFrame m #[(.ref w_2), (.ref w_5)] 6 = mkF m 0 #[.val (.ref w_2), .val (.ref w_5), .unset, .unset, .unset, .unset] [] := by first | (simp [entryFrame, mkF, argsToLocals, Value.category]; done) | rfl
def sp2x14  : Int32 := (1 : Int32)
def Q2x14 (Z : State) (w_1 : Addr) (w_2 : Addr) (w_3 : Addr) (w_4 : Addr) (w_5 : Addr) (k_4 : ClassId) (h0 : Heap) (n0 : Nat) (v : Option Value) (h : Heap) (L : List Loc) : Prop := v = some (.int (sp2x14)) ∧ Fr n0 L ∧ h = h0
set_option maxRecDepth 65536 in
set_option maxHeartbeats 40000000 in
theorem rm2x14 (l : Launch) (Z : State) (a0 : Array Value) (hw : ∀ d ∈ tables_1, d.before a0 Z = true) (ws : List Jvm.Cond) (w_1 : Addr) (w_2 : Addr) (w_3 : Addr) (w_4 : Addr) (w_5 : Addr) (k_4 : ClassId) (hS : StF Z w_1 w_2 w_3 w_4 w_5 k_4) (h0 : Heap) (n0 : Nat) (O0 : Old Z n0 h0) :
    MetFree l Y2 (head1 (Jvm.Cond.code Y2 prog_17_method_7_code 6 (some .boolean) :: ws) ({ frames := 1, cells := 0, slots := 0, locals := 13 } : Room)) (fun a U => a = #[(.ref w_2), (.ref w_5)] ∧ Z.Warmed39 U.vm ∧ U.heap = h0) (fun _ _ _ _ _ => True) (fun _ U o U' => ∃ v L, o = .returned v ∧ Q2x14 Z w_1 w_2 w_3 w_4 w_5 k_4 h0 n0 v U'.heap L ∧ FrameEnd U o U' L ({ frames := 1, cells := 0, slots := 0, locals := 13 } : Room).cells ({ frames := 1, cells := 0, slots := 0, locals := 13 } : Room).slots) := by
  refine MetFree.of_bodySF (plainFor_of_name pn_2x14) hisR ?_
  intro p e s m args below meth c s₁ Bd hml0 hP hK
  obtain ⟨rfl, hZ, hh⟩ := hP
  have hx := Bd.exec
  have hby := Bd.bytes
  have hml : c.maxLocals = 6 := hml0
  have hown : s.vm.findClass "com/example/lucid_locks/lucidlocks/locks/LockMode" = some m.cls := findClass_of_methodNamed Bd.named
  have hnm := (name_of_methodNamed Bd.named Bd.method).1
  have X0 : Stand p l e ({ frames := 1, cells := 0, slots := 0, locals := 13 } : Room) s m #[(.ref w_2), (.ref w_5)] below meth c s₁ [] 0 0 := Stand.of_body Bd
  have e0 : s₁.heap = h0 := by rw [← hh, Bd.state]; rfl
  have N0 := Fr.nil n0
  have hS0 := hS
  obtain ⟨S_1, E_1, S_2, E_2, S_3, E_3, S_4, S_5, E_5, F_1_ordinal, F_3_ordinal, F_2_ordinal, F_1_sharedWithItself, F_5_ordinal, F_5_sharedWithItself, F_3_sharedWithItself, F_2_sharedWithItself, V_4⟩ := hS
  have pre0 : ∀ t, Steps p.tables e below (s₁.setTop (mkF m 0 #[.val (.ref w_2), .val (.ref w_5), .unset, .unset, .unset, .unset] [])) t → Steps p.tables e below (s₁.setTop (entryFrame m #[(.ref w_2), (.ref w_5)] 6)) t := fun t k => castTop (ef_2x14 m w_2 w_5) k
  obtain ⟨T264, X264, e264, st264⟩ := getS2 X0 hx hZ hown (host := "") (Or.inl (hw _ (tk 16 rfl))) Via.refl e0 (S_4.ext O0.2) (g := (mkF m 0 #[.val (.ref w_2), .val (.ref w_5), .unset, .unset, .unset, .unset] [])) rfl (hb hby d2_0)
  obtain ⟨cl265, Ar265, qa265, Sa265, Ma265, Ha265, Ga265⟩ := id (V_4.ext O0.2)
  obtain ⟨cl266, Ar266, qa266, Sa266, Ma266, Ha266, Ga266⟩ := id (V_4.ext O0.2)
  have hin266 : ¬ ((0 : Int32) < 0 ∨ cl266.slots.size ≤ ((0 : Int32)).toNatClampNeg) := by  exact inb_of Sa266 ⟨by decide, by decide⟩
  have hat266 : cl266.slots[((0 : Int32)).toNatClampNeg]? = some (.ref w_1) := Has.at Ha266 hin266 (by rfl)
  obtain ⟨cq267, kq267, q267a, q267b, q267c⟩ := isOf hZ e264 (E_5.ext O0.2)
  obtain ⟨_, _, ⟨T267, L267, k267, n267⟩, -, X267, ⟨Lc267, hQ267, l267, y267, z267⟩, st267⟩ := X264.virtualBack hx (y := Y1) (z := Y1) hown (mvT hZ (hw _ (tk 18 rfl))) (mvT hZ (hw _ (tk 19 rfl))) (notFace_of_selects (args := #[]) (mvT hZ (hw _ (tk 21 rfl)))) (mvT hZ (hw _ (tk 21 rfl))) (mvT hZ (hw _ (tk 20 rfl))) (by decide) (backOf (W := 0) (rm3 l Z a0 hw [] w_1 w_2 w_3 w_4 w_5 k_4 hS0 w_5 w_1 (1 : Int32) h0 n0 O0 (F_5_sharedWithItself.ext O0.2)) hZ (hw _ (tk 22 rfl)) (hw _ (tk 5 rfl)) (by decide) (by decide)) q267a q267c (g := (mkF m 25 #[.val (.ref w_2), .val (.ref w_5), .val (.ref w_4), .val (.int (4 : Int32)), .val (.int (0 : Int32)), .val (.ref w_1)] [(.ref w_1), (.ref w_5)])) rfl (by rw [hml]; rfl) (Steps.refl _) (argsL := [(.ref w_1)]) (rest := []) (lenOf pd_1 rfl) rfl (by show 2 * 0 + _ ≤ _; exact Nat.le_of_eq rfl) (hb hby d2_25) (fun _ _ => ⟨rfl, e264, (by decide : 0 + 0 ≤ _), (by decide : 0 + 0 ≤ _)⟩)
  dsimp only [Pt.U, Pt.locs, Pt.cells, Pt.slots] at X267 l267 y267 z267 st267 hQ267
  subst l267 y267 z267
  obtain ⟨rv267, N267q, e267⟩ := hQ267
  rw [show sp3 w_5 w_1 (1 : Int32) = (1 : Int32) from by unfold sp3; rw [if_neg (Fld.ne F_5_ordinal F_1_ordinal (by decide))]] at rv267
  subst rv267
  have N267 := Fr.app N0 N267q
  obtain ⟨cq268, kq268, q268a, q268b, q268c⟩ := isOf hZ e267 (E_2.ext O0.2)
  obtain ⟨_, _, ⟨T268, L268, k268, n268⟩, -, X268, ⟨Lc268, hQ268, l268, y268, z268⟩, st268⟩ := X267.virtualBack hx (y := Y1) (z := Y1) hown (mvT hZ (hw _ (tk 18 rfl))) (mvT hZ (hw _ (tk 19 rfl))) (notFace_of_selects (args := #[]) (mvT hZ (hw _ (tk 21 rfl)))) (mvT hZ (hw _ (tk 21 rfl))) (mvT hZ (hw _ (tk 20 rfl))) (by decide) (backOf (W := 0) (rm3 l Z a0 hw [] w_1 w_2 w_3 w_4 w_5 k_4 hS0 w_2 w_1 (0 : Int32) h0 n0 O0 (F_2_sharedWithItself.ext O0.2)) hZ (hw _ (tk 22 rfl)) (hw _ (tk 5 rfl)) (by decide) (by decide)) q268a q268c (g := (mkF m 34 #[.val (.ref w_2), .val (.ref w_5), .val (.ref w_4), .val (.int (4 : Int32)), .val (.int (0 : Int32)), .val (.ref w_1)] [(.ref w_1), (.ref w_2)])) rfl (by rw [hml]; rfl) (Steps.refl _) (argsL := [(.ref w_1)]) (rest := []) (lenOf pd_1 rfl) rfl (by show 2 * 0 + _ ≤ _; exact Nat.le_of_eq rfl) (hb hby d2_34) (fun _ _ => ⟨rfl, e267, (by decide : 0 + 0 ≤ _), (by decide : 0 + 0 ≤ _)⟩)
  dsimp only [Pt.U, Pt.locs, Pt.cells, Pt.slots] at X268 l268 y268 z268 st268 hQ268
  subst l268 y268 z268
  obtain ⟨rv268, N268q, e268⟩ := hQ268
  rw [show sp3 w_2 w_1 (0 : Int32) = (1 : Int32) from by unfold sp3; rw [if_neg (Fld.ne F_2_ordinal F_1_ordinal (by decide))]] at rv268
  subst rv268
  have N268 := Fr.app N267 N268q
  obtain ⟨cl269, Ar269, qa269, Sa269, Ma269, Ha269, Ga269⟩ := id (V_4.ext O0.2)
  have hin269 : ¬ (((0 : Int32) + (1 : Int32)) < 0 ∨ cl269.slots.size ≤ (((0 : Int32) + (1 : Int32))).toNatClampNeg) := by  exact inb_of Sa269 ⟨by decide, by decide⟩
  have hat269 : cl269.slots[(((0 : Int32) + (1 : Int32))).toNatClampNeg]? = some (.ref w_5) := Has.at Ha269 hin269 (by rfl)
  obtain ⟨cq270, kq270, q270a, q270b, q270c⟩ := isOf hZ e268 (E_5.ext O0.2)
  obtain ⟨_, _, ⟨T270, L270, k270, n270⟩, -, X270, ⟨Lc270, hQ270, l270, y270, z270⟩, st270⟩ := X268.virtualBack hx (y := Y1) (z := Y1) hown (mvT hZ (hw _ (tk 18 rfl))) (mvT hZ (hw _ (tk 19 rfl))) (notFace_of_selects (args := #[]) (mvT hZ (hw _ (tk 21 rfl)))) (mvT hZ (hw _ (tk 21 rfl))) (mvT hZ (hw _ (tk 20 rfl))) (by decide) (backOf (W := 0) (rm3 l Z a0 hw [] w_1 w_2 w_3 w_4 w_5 k_4 hS0 w_5 w_5 (1 : Int32) h0 n0 O0 (F_5_sharedWithItself.ext O0.2)) hZ (hw _ (tk 22 rfl)) (hw _ (tk 5 rfl)) (by decide) (by decide)) q270a q270c (g := (mkF m 25 #[.val (.ref w_2), .val (.ref w_5), .val (.ref w_4), .val (.int (4 : Int32)), .val (.int ((0 : Int32) + (1 : Int32))), .val (.ref w_5)] [(.ref w_5), (.ref w_5)])) rfl (by rw [hml]; rfl) (Steps.refl _) (argsL := [(.ref w_5)]) (rest := []) (lenOf pd_1 rfl) rfl (by show 2 * 0 + _ ≤ _; exact Nat.le_of_eq rfl) (hb hby d2_25) (fun _ _ => ⟨rfl, e268, (by decide : 0 + 0 ≤ _), (by decide : 0 + 0 ≤ _)⟩)
  dsimp only [Pt.U, Pt.locs, Pt.cells, Pt.slots] at X270 l270 y270 z270 st270 hQ270
  subst l270 y270 z270
  obtain ⟨rv270, N270q, e270⟩ := hQ270
  rw [show sp3 w_5 w_5 (1 : Int32) = (0 : Int32) from by unfold sp3; rw [if_pos rfl, if_neg (by decide : ¬ ((1 : Int32) = (0 : Int32)))]] at rv270
  subst rv270
  have N270 := Fr.app N268 N270q
  obtain ⟨cl271, Ar271, qa271, Sa271, Ma271, Ha271, Ga271⟩ := id (V_4.ext O0.2)
  have hin271 : ¬ ((((0 : Int32) + (1 : Int32)) + (1 : Int32)) < 0 ∨ cl271.slots.size ≤ ((((0 : Int32) + (1 : Int32)) + (1 : Int32))).toNatClampNeg) := by  exact inb_of Sa271 ⟨by decide, by decide⟩
  have hat271 : cl271.slots[((((0 : Int32) + (1 : Int32)) + (1 : Int32))).toNatClampNeg]? = some (.ref w_3) := Has.at Ha271 hin271 (by rfl)
  obtain ⟨cq272, kq272, q272a, q272b, q272c⟩ := isOf hZ e270 (E_5.ext O0.2)
  obtain ⟨_, _, ⟨T272, L272, k272, n272⟩, -, X272, ⟨Lc272, hQ272, l272, y272, z272⟩, st272⟩ := X270.virtualBack hx (y := Y1) (z := Y1) hown (mvT hZ (hw _ (tk 18 rfl))) (mvT hZ (hw _ (tk 19 rfl))) (notFace_of_selects (args := #[]) (mvT hZ (hw _ (tk 21 rfl)))) (mvT hZ (hw _ (tk 21 rfl))) (mvT hZ (hw _ (tk 20 rfl))) (by decide) (backOf (W := 0) (rm3 l Z a0 hw [] w_1 w_2 w_3 w_4 w_5 k_4 hS0 w_5 w_3 (1 : Int32) h0 n0 O0 (F_5_sharedWithItself.ext O0.2)) hZ (hw _ (tk 22 rfl)) (hw _ (tk 5 rfl)) (by decide) (by decide)) q272a q272c (g := (mkF m 25 #[.val (.ref w_2), .val (.ref w_5), .val (.ref w_4), .val (.int (4 : Int32)), .val (.int (((0 : Int32) + (1 : Int32)) + (1 : Int32))), .val (.ref w_3)] [(.ref w_3), (.ref w_5)])) rfl (by rw [hml]; rfl) (Steps.refl _) (argsL := [(.ref w_3)]) (rest := []) (lenOf pd_1 rfl) rfl (by show 2 * 0 + _ ≤ _; exact Nat.le_of_eq rfl) (hb hby d2_25) (fun _ _ => ⟨rfl, e270, (by decide : 0 + 0 ≤ _), (by decide : 0 + 0 ≤ _)⟩)
  dsimp only [Pt.U, Pt.locs, Pt.cells, Pt.slots] at X272 l272 y272 z272 st272 hQ272
  subst l272 y272 z272
  obtain ⟨rv272, N272q, e272⟩ := hQ272
  rw [show sp3 w_5 w_3 (1 : Int32) = (1 : Int32) from by unfold sp3; rw [if_neg (Fld.ne F_5_ordinal F_3_ordinal (by decide))]] at rv272
  subst rv272
  have N272 := Fr.app N270 N272q
  obtain ⟨cq273, kq273, q273a, q273b, q273c⟩ := isOf hZ e272 (E_2.ext O0.2)
  obtain ⟨_, _, ⟨T273, L273, k273, n273⟩, -, X273, ⟨Lc273, hQ273, l273, y273, z273⟩, st273⟩ := X272.virtualBack hx (y := Y1) (z := Y1) hown (mvT hZ (hw _ (tk 18 rfl))) (mvT hZ (hw _ (tk 19 rfl))) (notFace_of_selects (args := #[]) (mvT hZ (hw _ (tk 21 rfl)))) (mvT hZ (hw _ (tk 21 rfl))) (mvT hZ (hw _ (tk 20 rfl))) (by decide) (backOf (W := 0) (rm3 l Z a0 hw [] w_1 w_2 w_3 w_4 w_5 k_4 hS0 w_2 w_3 (0 : Int32) h0 n0 O0 (F_2_sharedWithItself.ext O0.2)) hZ (hw _ (tk 22 rfl)) (hw _ (tk 5 rfl)) (by decide) (by decide)) q273a q273c (g := (mkF m 34 #[.val (.ref w_2), .val (.ref w_5), .val (.ref w_4), .val (.int (4 : Int32)), .val (.int (((0 : Int32) + (1 : Int32)) + (1 : Int32))), .val (.ref w_3)] [(.ref w_3), (.ref w_2)])) rfl (by rw [hml]; rfl) (Steps.refl _) (argsL := [(.ref w_3)]) (rest := []) (lenOf pd_1 rfl) rfl (by show 2 * 0 + _ ≤ _; exact Nat.le_of_eq rfl) (hb hby d2_34) (fun _ _ => ⟨rfl, e272, (by decide : 0 + 0 ≤ _), (by decide : 0 + 0 ≤ _)⟩)
  dsimp only [Pt.U, Pt.locs, Pt.cells, Pt.slots] at X273 l273 y273 z273 st273 hQ273
  subst l273 y273 z273
  obtain ⟨rv273, N273q, e273⟩ := hQ273
  rw [show sp3 w_2 w_3 (0 : Int32) = (1 : Int32) from by unfold sp3; rw [if_neg (Fld.ne F_2_ordinal F_3_ordinal (by decide))]] at rv273
  subst rv273
  have N273 := Fr.app N272 N273q
  obtain ⟨cl274, Ar274, qa274, Sa274, Ma274, Ha274, Ga274⟩ := id (V_4.ext O0.2)
  have hin274 : ¬ (((((0 : Int32) + (1 : Int32)) + (1 : Int32)) + (1 : Int32)) < 0 ∨ cl274.slots.size ≤ (((((0 : Int32) + (1 : Int32)) + (1 : Int32)) + (1 : Int32))).toNatClampNeg) := by  exact inb_of Sa274 ⟨by decide, by decide⟩
  have hat274 : cl274.slots[(((((0 : Int32) + (1 : Int32)) + (1 : Int32)) + (1 : Int32))).toNatClampNeg]? = some (.ref w_2) := Has.at Ha274 hin274 (by rfl)
  obtain ⟨cq275, kq275, q275a, q275b, q275c⟩ := isOf hZ e273 (E_5.ext O0.2)
  obtain ⟨_, _, ⟨T275, L275, k275, n275⟩, -, X275, ⟨Lc275, hQ275, l275, y275, z275⟩, st275⟩ := X273.virtualBack hx (y := Y1) (z := Y1) hown (mvT hZ (hw _ (tk 18 rfl))) (mvT hZ (hw _ (tk 19 rfl))) (notFace_of_selects (args := #[]) (mvT hZ (hw _ (tk 21 rfl)))) (mvT hZ (hw _ (tk 21 rfl))) (mvT hZ (hw _ (tk 20 rfl))) (by decide) (backOf (W := 0) (rm3 l Z a0 hw [] w_1 w_2 w_3 w_4 w_5 k_4 hS0 w_5 w_2 (1 : Int32) h0 n0 O0 (F_5_sharedWithItself.ext O0.2)) hZ (hw _ (tk 22 rfl)) (hw _ (tk 5 rfl)) (by decide) (by decide)) q275a q275c (g := (mkF m 25 #[.val (.ref w_2), .val (.ref w_5), .val (.ref w_4), .val (.int (4 : Int32)), .val (.int ((((0 : Int32) + (1 : Int32)) + (1 : Int32)) + (1 : Int32))), .val (.ref w_2)] [(.ref w_2), (.ref w_5)])) rfl (by rw [hml]; rfl) (Steps.refl _) (argsL := [(.ref w_2)]) (rest := []) (lenOf pd_1 rfl) rfl (by show 2 * 0 + _ ≤ _; exact Nat.le_of_eq rfl) (hb hby d2_25) (fun _ _ => ⟨rfl, e273, (by decide : 0 + 0 ≤ _), (by decide : 0 + 0 ≤ _)⟩)
  dsimp only [Pt.U, Pt.locs, Pt.cells, Pt.slots] at X275 l275 y275 z275 st275 hQ275
  subst l275 y275 z275
  obtain ⟨rv275, N275q, e275⟩ := hQ275
  rw [show sp3 w_5 w_2 (1 : Int32) = (1 : Int32) from by unfold sp3; rw [if_neg (Fld.ne F_5_ordinal F_2_ordinal (by decide))]] at rv275
  subst rv275
  have N275 := Fr.app N273 N275q
  obtain ⟨cq276, kq276, q276a, q276b, q276c⟩ := isOf hZ e275 (E_2.ext O0.2)
  obtain ⟨_, _, ⟨T276, L276, k276, n276⟩, -, X276, ⟨Lc276, hQ276, l276, y276, z276⟩, st276⟩ := X275.virtualBack hx (y := Y1) (z := Y1) hown (mvT hZ (hw _ (tk 18 rfl))) (mvT hZ (hw _ (tk 19 rfl))) (notFace_of_selects (args := #[]) (mvT hZ (hw _ (tk 21 rfl)))) (mvT hZ (hw _ (tk 21 rfl))) (mvT hZ (hw _ (tk 20 rfl))) (by decide) (backOf (W := 0) (rm3 l Z a0 hw [] w_1 w_2 w_3 w_4 w_5 k_4 hS0 w_2 w_2 (0 : Int32) h0 n0 O0 (F_2_sharedWithItself.ext O0.2)) hZ (hw _ (tk 22 rfl)) (hw _ (tk 5 rfl)) (by decide) (by decide)) q276a q276c (g := (mkF m 34 #[.val (.ref w_2), .val (.ref w_5), .val (.ref w_4), .val (.int (4 : Int32)), .val (.int ((((0 : Int32) + (1 : Int32)) + (1 : Int32)) + (1 : Int32))), .val (.ref w_2)] [(.ref w_2), (.ref w_2)])) rfl (by rw [hml]; rfl) (Steps.refl _) (argsL := [(.ref w_2)]) (rest := []) (lenOf pd_1 rfl) rfl (by show 2 * 0 + _ ≤ _; exact Nat.le_of_eq rfl) (hb hby d2_34) (fun _ _ => ⟨rfl, e275, (by decide : 0 + 0 ≤ _), (by decide : 0 + 0 ≤ _)⟩)
  dsimp only [Pt.U, Pt.locs, Pt.cells, Pt.slots] at X276 l276 y276 z276 st276 hQ276
  subst l276 y276 z276
  obtain ⟨rv276, N276q, e276⟩ := hQ276
  rw [show sp3 w_2 w_2 (0 : Int32) = (1 : Int32) from by unfold sp3; rw [if_pos rfl, if_pos (by decide : ((0 : Int32) = (0 : Int32)))]] at rv276
  subst rv276
  have N276 := Fr.app N275 N276q
  obtain ⟨fs, hr, hrun, hended, hW, hsame⟩ := X276.leave (v := some (.int (1 : Int32))) (fun h => by rw [Bd.returns] at h; cases h)
  refine ⟨_, _, pre0 _ ?_, hrun, hended, _, _, rfl, ?_, ⟨_, rfl⟩, hW, hsame.mono (by decide) (by decide)⟩
  · show Steps p.tables e below (s₁.setTop (mkF m 0 #[.val (.ref w_2), .val (.ref w_5), .unset, .unset, .unset, .unset] [])) _
    refine st264 _ ?_
    show Steps p.tables e below (T264.setTop (mkF m 3 #[.val (.ref w_2), .val (.ref w_5), .unset, .unset, .unset, .unset] [(.ref w_4)])) _
    refine XS.astoreN X264.here hx rfl (hb hby d2_3) rfl rfl (l' := #[.val (.ref w_2), .val (.ref w_5), .val (.ref w_4), .unset, .unset, .unset]) rfl ?_
    show Steps p.tables e below (T264.setTop (mkF m 4 #[.val (.ref w_2), .val (.ref w_5), .val (.ref w_4), .unset, .unset, .unset] [])) _
    refine XS.aloadN X264.here hx rfl (hb hby d2_4) rfl rfl ?_
    show Steps p.tables e below (T264.setTop (mkF m 5 #[.val (.ref w_2), .val (.ref w_5), .val (.ref w_4), .unset, .unset, .unset] [(.ref w_4)])) _
    refine X264.arraylength hx (by rw [e264]; exact Ar265.1) (State.isArrayOf_alike hZ.alike Ar265.2.1) (g := (mkF m 5 #[.val (.ref w_2), .val (.ref w_5), .val (.ref w_4), .unset, .unset, .unset] [(.ref w_4)])) rfl rfl (hb hby d2_5) _ ?_
    rw [len_of Sa265 Ma265]
    show Steps p.tables e below (T264.setTop (mkF m 6 #[.val (.ref w_2), .val (.ref w_5), .val (.ref w_4), .unset, .unset, .unset] [(.int (4 : Int32))])) _
    refine XS.istoreN X264.here hx rfl (hb hby d2_6) rfl (l' := #[.val (.ref w_2), .val (.ref w_5), .val (.ref w_4), .val (.int (4 : Int32)), .unset, .unset]) rfl ?_
    show Steps p.tables e below (T264.setTop (mkF m 7 #[.val (.ref w_2), .val (.ref w_5), .val (.ref w_4), .val (.int (4 : Int32)), .unset, .unset] [])) _
    refine XS.iconst X264.here hx rfl (hb hby d2_7) ?_
    show Steps p.tables e below (T264.setTop (mkF m 8 #[.val (.ref w_2), .val (.ref w_5), .val (.ref w_4), .val (.int (4 : Int32)), .unset, .unset] [(.int (0 : Int32))])) _
    refine XS.istore X264.here hx rfl (hb hby d2_8) rfl (l' := #[.val (.ref w_2), .val (.ref w_5), .val (.ref w_4), .val (.int (4 : Int32)), .val (.int (0 : Int32)), .unset]) rfl ?_
    show Steps p.tables e below (T264.setTop (mkF m 10 #[.val (.ref w_2), .val (.ref w_5), .val (.ref w_4), .val (.int (4 : Int32)), .val (.int (0 : Int32)), .unset] [])) _
    refine XS.iload X264.here hx rfl (hb hby d2_10) rfl ?_
    show Steps p.tables e below (T264.setTop (mkF m 12 #[.val (.ref w_2), .val (.ref w_5), .val (.ref w_4), .val (.int (4 : Int32)), .val (.int (0 : Int32)), .unset] [(.int (0 : Int32))])) _
    refine XS.iloadN X264.here hx rfl (hb hby d2_12) rfl ?_
    show Steps p.tables e below (T264.setTop (mkF m 13 #[.val (.ref w_2), .val (.ref w_5), .val (.ref w_4), .val (.int (4 : Int32)), .val (.int (0 : Int32)), .unset] [(.int (4 : Int32)), (.int (0 : Int32))])) _
    refine XS.icmpNo X264.here hx rfl (hb hby d2_13) rfl (tlt (by decide : ((0 : Int32) < (4 : Int32)))).2.1 ?_
    show Steps p.tables e below (T264.setTop (mkF m 16 #[.val (.ref w_2), .val (.ref w_5), .val (.ref w_4), .val (.int (4 : Int32)), .val (.int (0 : Int32)), .unset] [])) _
    refine XS.aloadN X264.here hx rfl (hb hby d2_16) rfl rfl ?_
    show Steps p.tables e below (T264.setTop (mkF m 17 #[.val (.ref w_2), .val (.ref w_5), .val (.ref w_4), .val (.int (4 : Int32)), .val (.int (0 : Int32)), .unset] [(.ref w_4)])) _
    refine XS.iload X264.here hx rfl (hb hby d2_17) rfl ?_
    show Steps p.tables e below (T264.setTop (mkF m 19 #[.val (.ref w_2), .val (.ref w_5), .val (.ref w_4), .val (.int (4 : Int32)), .val (.int (0 : Int32)), .unset] [(.int (0 : Int32)), (.ref w_4)])) _
    refine X264.aaload hx (j := (0 : Int32)) (v := (.ref w_1)) (by rw [e264]; exact Ar266.1) (State.isArrayOf_alike hZ.alike Ar266.2.1) rfl Ar266.2.2 hin266 hat266 (g := (mkF m 19 #[.val (.ref w_2), .val (.ref w_5), .val (.ref w_4), .val (.int (4 : Int32)), .val (.int (0 : Int32)), .unset] [(.int (0 : Int32)), (.ref w_4)])) rfl rfl (hb hby d2_19) _ ?_
    show Steps p.tables e below (T264.setTop (mkF m 20 #[.val (.ref w_2), .val (.ref w_5), .val (.ref w_4), .val (.int (4 : Int32)), .val (.int (0 : Int32)), .unset] [(.ref w_1)])) _
    refine XS.astore X264.here hx rfl (hb hby d2_20) rfl rfl (l' := #[.val (.ref w_2), .val (.ref w_5), .val (.ref w_4), .val (.int (4 : Int32)), .val (.int (0 : Int32)), .val (.ref w_1)]) rfl ?_
    show Steps p.tables e below (T264.setTop (mkF m 22 #[.val (.ref w_2), .val (.ref w_5), .val (.ref w_4), .val (.int (4 : Int32)), .val (.int (0 : Int32)), .val (.ref w_1)] [])) _
    refine XS.aloadN X264.here hx rfl (hb hby d2_22) rfl rfl ?_
    show Steps p.tables e below (T264.setTop (mkF m 23 #[.val (.ref w_2), .val (.ref w_5), .val (.ref w_4), .val (.int (4 : Int32)), .val (.int (0 : Int32)), .val (.ref w_1)] [(.ref w_5)])) _
    refine XS.aload X264.here hx rfl (hb hby d2_23) rfl rfl ?_
    show Steps p.tables e below (T264.setTop (mkF m 25 #[.val (.ref w_2), .val (.ref w_5), .val (.ref w_4), .val (.int (4 : Int32)), .val (.int (0 : Int32)), .val (.ref w_1)] [(.ref w_1), (.ref w_5)])) _
    refine st267.trans ?_
    show Steps p.tables e below (T267.setTop (mkF m 28 #[.val (.ref w_2), .val (.ref w_5), .val (.ref w_4), .val (.int (4 : Int32)), .val (.int (0 : Int32)), .val (.ref w_1)] [(.int (1 : Int32))])) _
    refine XS.ifNo X267.here hx rfl (hb hby d2_28) rfl ((if0 _ _).trans (feq (by decide : ¬ ((1 : Int32) = (0 : Int32)))).1) ?_
    show Steps p.tables e below (T267.setTop (mkF m 31 #[.val (.ref w_2), .val (.ref w_5), .val (.ref w_4), .val (.int (4 : Int32)), .val (.int (0 : Int32)), .val (.ref w_1)] [])) _
    refine XS.aloadN X267.here hx rfl (hb hby d2_31) rfl rfl ?_
    show Steps p.tables e below (T267.setTop (mkF m 32 #[.val (.ref w_2), .val (.ref w_5), .val (.ref w_4), .val (.int (4 : Int32)), .val (.int (0 : Int32)), .val (.ref w_1)] [(.ref w_2)])) _
    refine XS.aload X267.here hx rfl (hb hby d2_32) rfl rfl ?_
    show Steps p.tables e below (T267.setTop (mkF m 34 #[.val (.ref w_2), .val (.ref w_5), .val (.ref w_4), .val (.int (4 : Int32)), .val (.int (0 : Int32)), .val (.ref w_1)] [(.ref w_1), (.ref w_2)])) _
    refine st268.trans ?_
    show Steps p.tables e below (T268.setTop (mkF m 37 #[.val (.ref w_2), .val (.ref w_5), .val (.ref w_4), .val (.int (4 : Int32)), .val (.int (0 : Int32)), .val (.ref w_1)] [(.int (1 : Int32))])) _
    refine XS.ifYes X268.here hx rfl (pc0 := 37) (pc' := 42) rfl (hb hby d2_37) rfl ((if0 _ _).trans (feq (by decide : ¬ ((1 : Int32) = (0 : Int32)))).2) (by decide) (by decide) ?_
    show Steps p.tables e below (T268.setTop (mkF m 42 #[.val (.ref w_2), .val (.ref w_5), .val (.ref w_4), .val (.int (4 : Int32)), .val (.int (0 : Int32)), .val (.ref w_1)] [])) _
    refine XS.iinc X268.here hx rfl (hb hby d2_42) rfl (l' := #[.val (.ref w_2), .val (.ref w_5), .val (.ref w_4), .val (.int (4 : Int32)), .val (.int ((0 : Int32) + (1 : Int32))), .val (.ref w_1)]) rfl ?_
    show Steps p.tables e below (T268.setTop (mkF m 45 #[.val (.ref w_2), .val (.ref w_5), .val (.ref w_4), .val (.int (4 : Int32)), .val (.int ((0 : Int32) + (1 : Int32))), .val (.ref w_1)] [])) _
    refine XS.goto X268.here hx rfl (pc0 := 45) (pc' := 10) rfl (hb hby d2_45) (by decide) (by decide) ?_
    show Steps p.tables e below (T268.setTop (mkF m 10 #[.val (.ref w_2), .val (.ref w_5), .val (.ref w_4), .val (.int (4 : Int32)), .val (.int ((0 : Int32) + (1 : Int32))), .val (.ref w_1)] [])) _
    refine XS.iload X268.here hx rfl (hb hby d2_10) rfl ?_
    show Steps p.tables e below (T268.setTop (mkF m 12 #[.val (.ref w_2), .val (.ref w_5), .val (.ref w_4), .val (.int (4 : Int32)), .val (.int ((0 : Int32) + (1 : Int32))), .val (.ref w_1)] [(.int ((0 : Int32) + (1 : Int32)))])) _
    refine XS.iloadN X268.here hx rfl (hb hby d2_12) rfl ?_
    show Steps p.tables e below (T268.setTop (mkF m 13 #[.val (.ref w_2), .val (.ref w_5), .val (.ref w_4), .val (.int (4 : Int32)), .val (.int ((0 : Int32) + (1 : Int32))), .val (.ref w_1)] [(.int (4 : Int32)), (.int ((0 : Int32) + (1 : Int32)))])) _
    refine XS.icmpNo X268.here hx rfl (hb hby d2_13) rfl (tlt (by decide : (((0 : Int32) + (1 : Int32)) < (4 : Int32)))).2.1 ?_
    show Steps p.tables e below (T268.setTop (mkF m 16 #[.val (.ref w_2), .val (.ref w_5), .val (.ref w_4), .val (.int (4 : Int32)), .val (.int ((0 : Int32) + (1 : Int32))), .val (.ref w_1)] [])) _
    refine XS.aloadN X268.here hx rfl (hb hby d2_16) rfl rfl ?_
    show Steps p.tables e below (T268.setTop (mkF m 17 #[.val (.ref w_2), .val (.ref w_5), .val (.ref w_4), .val (.int (4 : Int32)), .val (.int ((0 : Int32) + (1 : Int32))), .val (.ref w_1)] [(.ref w_4)])) _
    refine XS.iload X268.here hx rfl (hb hby d2_17) rfl ?_
    show Steps p.tables e below (T268.setTop (mkF m 19 #[.val (.ref w_2), .val (.ref w_5), .val (.ref w_4), .val (.int (4 : Int32)), .val (.int ((0 : Int32) + (1 : Int32))), .val (.ref w_1)] [(.int ((0 : Int32) + (1 : Int32))), (.ref w_4)])) _
    refine X268.aaload hx (j := ((0 : Int32) + (1 : Int32))) (v := (.ref w_5)) (by rw [e268]; exact Ar269.1) (State.isArrayOf_alike hZ.alike Ar269.2.1) rfl Ar269.2.2 hin269 hat269 (g := (mkF m 19 #[.val (.ref w_2), .val (.ref w_5), .val (.ref w_4), .val (.int (4 : Int32)), .val (.int ((0 : Int32) + (1 : Int32))), .val (.ref w_1)] [(.int ((0 : Int32) + (1 : Int32))), (.ref w_4)])) rfl rfl (hb hby d2_19) _ ?_
    show Steps p.tables e below (T268.setTop (mkF m 20 #[.val (.ref w_2), .val (.ref w_5), .val (.ref w_4), .val (.int (4 : Int32)), .val (.int ((0 : Int32) + (1 : Int32))), .val (.ref w_1)] [(.ref w_5)])) _
    refine XS.astore X268.here hx rfl (hb hby d2_20) rfl rfl (l' := #[.val (.ref w_2), .val (.ref w_5), .val (.ref w_4), .val (.int (4 : Int32)), .val (.int ((0 : Int32) + (1 : Int32))), .val (.ref w_5)]) rfl ?_
    show Steps p.tables e below (T268.setTop (mkF m 22 #[.val (.ref w_2), .val (.ref w_5), .val (.ref w_4), .val (.int (4 : Int32)), .val (.int ((0 : Int32) + (1 : Int32))), .val (.ref w_5)] [])) _
    refine XS.aloadN X268.here hx rfl (hb hby d2_22) rfl rfl ?_
    show Steps p.tables e below (T268.setTop (mkF m 23 #[.val (.ref w_2), .val (.ref w_5), .val (.ref w_4), .val (.int (4 : Int32)), .val (.int ((0 : Int32) + (1 : Int32))), .val (.ref w_5)] [(.ref w_5)])) _
    refine XS.aload X268.here hx rfl (hb hby d2_23) rfl rfl ?_
    show Steps p.tables e below (T268.setTop (mkF m 25 #[.val (.ref w_2), .val (.ref w_5), .val (.ref w_4), .val (.int (4 : Int32)), .val (.int ((0 : Int32) + (1 : Int32))), .val (.ref w_5)] [(.ref w_5), (.ref w_5)])) _
    refine st270.trans ?_
    show Steps p.tables e below (T270.setTop (mkF m 28 #[.val (.ref w_2), .val (.ref w_5), .val (.ref w_4), .val (.int (4 : Int32)), .val (.int ((0 : Int32) + (1 : Int32))), .val (.ref w_5)] [(.int (0 : Int32))])) _
    refine XS.ifYes X270.here hx rfl (pc0 := 28) (pc' := 42) rfl (hb hby d2_28) rfl ((if0 _ _).trans (teq (by decide : ((0 : Int32) = (0 : Int32)))).1) (by decide) (by decide) ?_
    show Steps p.tables e below (T270.setTop (mkF m 42 #[.val (.ref w_2), .val (.ref w_5), .val (.ref w_4), .val (.int (4 : Int32)), .val (.int ((0 : Int32) + (1 : Int32))), .val (.ref w_5)] [])) _
    refine XS.iinc X270.here hx rfl (hb hby d2_42) rfl (l' := #[.val (.ref w_2), .val (.ref w_5), .val (.ref w_4), .val (.int (4 : Int32)), .val (.int (((0 : Int32) + (1 : Int32)) + (1 : Int32))), .val (.ref w_5)]) rfl ?_
    show Steps p.tables e below (T270.setTop (mkF m 45 #[.val (.ref w_2), .val (.ref w_5), .val (.ref w_4), .val (.int (4 : Int32)), .val (.int (((0 : Int32) + (1 : Int32)) + (1 : Int32))), .val (.ref w_5)] [])) _
    refine XS.goto X270.here hx rfl (pc0 := 45) (pc' := 10) rfl (hb hby d2_45) (by decide) (by decide) ?_
    show Steps p.tables e below (T270.setTop (mkF m 10 #[.val (.ref w_2), .val (.ref w_5), .val (.ref w_4), .val (.int (4 : Int32)), .val (.int (((0 : Int32) + (1 : Int32)) + (1 : Int32))), .val (.ref w_5)] [])) _
    refine XS.iload X270.here hx rfl (hb hby d2_10) rfl ?_
    show Steps p.tables e below (T270.setTop (mkF m 12 #[.val (.ref w_2), .val (.ref w_5), .val (.ref w_4), .val (.int (4 : Int32)), .val (.int (((0 : Int32) + (1 : Int32)) + (1 : Int32))), .val (.ref w_5)] [(.int (((0 : Int32) + (1 : Int32)) + (1 : Int32)))])) _
    refine XS.iloadN X270.here hx rfl (hb hby d2_12) rfl ?_
    show Steps p.tables e below (T270.setTop (mkF m 13 #[.val (.ref w_2), .val (.ref w_5), .val (.ref w_4), .val (.int (4 : Int32)), .val (.int (((0 : Int32) + (1 : Int32)) + (1 : Int32))), .val (.ref w_5)] [(.int (4 : Int32)), (.int (((0 : Int32) + (1 : Int32)) + (1 : Int32)))])) _
    refine XS.icmpNo X270.here hx rfl (hb hby d2_13) rfl (tlt (by decide : ((((0 : Int32) + (1 : Int32)) + (1 : Int32)) < (4 : Int32)))).2.1 ?_
    show Steps p.tables e below (T270.setTop (mkF m 16 #[.val (.ref w_2), .val (.ref w_5), .val (.ref w_4), .val (.int (4 : Int32)), .val (.int (((0 : Int32) + (1 : Int32)) + (1 : Int32))), .val (.ref w_5)] [])) _
    refine XS.aloadN X270.here hx rfl (hb hby d2_16) rfl rfl ?_
    show Steps p.tables e below (T270.setTop (mkF m 17 #[.val (.ref w_2), .val (.ref w_5), .val (.ref w_4), .val (.int (4 : Int32)), .val (.int (((0 : Int32) + (1 : Int32)) + (1 : Int32))), .val (.ref w_5)] [(.ref w_4)])) _
    refine XS.iload X270.here hx rfl (hb hby d2_17) rfl ?_
    show Steps p.tables e below (T270.setTop (mkF m 19 #[.val (.ref w_2), .val (.ref w_5), .val (.ref w_4), .val (.int (4 : Int32)), .val (.int (((0 : Int32) + (1 : Int32)) + (1 : Int32))), .val (.ref w_5)] [(.int (((0 : Int32) + (1 : Int32)) + (1 : Int32))), (.ref w_4)])) _
    refine X270.aaload hx (j := (((0 : Int32) + (1 : Int32)) + (1 : Int32))) (v := (.ref w_3)) (by rw [e270]; exact Ar271.1) (State.isArrayOf_alike hZ.alike Ar271.2.1) rfl Ar271.2.2 hin271 hat271 (g := (mkF m 19 #[.val (.ref w_2), .val (.ref w_5), .val (.ref w_4), .val (.int (4 : Int32)), .val (.int (((0 : Int32) + (1 : Int32)) + (1 : Int32))), .val (.ref w_5)] [(.int (((0 : Int32) + (1 : Int32)) + (1 : Int32))), (.ref w_4)])) rfl rfl (hb hby d2_19) _ ?_
    show Steps p.tables e below (T270.setTop (mkF m 20 #[.val (.ref w_2), .val (.ref w_5), .val (.ref w_4), .val (.int (4 : Int32)), .val (.int (((0 : Int32) + (1 : Int32)) + (1 : Int32))), .val (.ref w_5)] [(.ref w_3)])) _
    refine XS.astore X270.here hx rfl (hb hby d2_20) rfl rfl (l' := #[.val (.ref w_2), .val (.ref w_5), .val (.ref w_4), .val (.int (4 : Int32)), .val (.int (((0 : Int32) + (1 : Int32)) + (1 : Int32))), .val (.ref w_3)]) rfl ?_
    show Steps p.tables e below (T270.setTop (mkF m 22 #[.val (.ref w_2), .val (.ref w_5), .val (.ref w_4), .val (.int (4 : Int32)), .val (.int (((0 : Int32) + (1 : Int32)) + (1 : Int32))), .val (.ref w_3)] [])) _
    refine XS.aloadN X270.here hx rfl (hb hby d2_22) rfl rfl ?_
    show Steps p.tables e below (T270.setTop (mkF m 23 #[.val (.ref w_2), .val (.ref w_5), .val (.ref w_4), .val (.int (4 : Int32)), .val (.int (((0 : Int32) + (1 : Int32)) + (1 : Int32))), .val (.ref w_3)] [(.ref w_5)])) _
    refine XS.aload X270.here hx rfl (hb hby d2_23) rfl rfl ?_
    show Steps p.tables e below (T270.setTop (mkF m 25 #[.val (.ref w_2), .val (.ref w_5), .val (.ref w_4), .val (.int (4 : Int32)), .val (.int (((0 : Int32) + (1 : Int32)) + (1 : Int32))), .val (.ref w_3)] [(.ref w_3), (.ref w_5)])) _
    refine st272.trans ?_
    show Steps p.tables e below (T272.setTop (mkF m 28 #[.val (.ref w_2), .val (.ref w_5), .val (.ref w_4), .val (.int (4 : Int32)), .val (.int (((0 : Int32) + (1 : Int32)) + (1 : Int32))), .val (.ref w_3)] [(.int (1 : Int32))])) _
    refine XS.ifNo X272.here hx rfl (hb hby d2_28) rfl ((if0 _ _).trans (feq (by decide : ¬ ((1 : Int32) = (0 : Int32)))).1) ?_
    show Steps p.tables e below (T272.setTop (mkF m 31 #[.val (.ref w_2), .val (.ref w_5), .val (.ref w_4), .val (.int (4 : Int32)), .val (.int (((0 : Int32) + (1 : Int32)) + (1 : Int32))), .val (.ref w_3)] [])) _
    refine XS.aloadN X272.here hx rfl (hb hby d2_31) rfl rfl ?_
    show Steps p.tables e below (T272.setTop (mkF m 32 #[.val (.ref w_2), .val (.ref w_5), .val (.ref w_4), .val (.int (4 : Int32)), .val (.int (((0 : Int32) + (1 : Int32)) + (1 : Int32))), .val (.ref w_3)] [(.ref w_2)])) _
    refine XS.aload X272.here hx rfl (hb hby d2_32) rfl rfl ?_
    show Steps p.tables e below (T272.setTop (mkF m 34 #[.val (.ref w_2), .val (.ref w_5), .val (.ref w_4), .val (.int (4 : Int32)), .val (.int (((0 : Int32) + (1 : Int32)) + (1 : Int32))), .val (.ref w_3)] [(.ref w_3), (.ref w_2)])) _
    refine st273.trans ?_
    show Steps p.tables e below (T273.setTop (mkF m 37 #[.val (.ref w_2), .val (.ref w_5), .val (.ref w_4), .val (.int (4 : Int32)), .val (.int (((0 : Int32) + (1 : Int32)) + (1 : Int32))), .val (.ref w_3)] [(.int (1 : Int32))])) _
    refine XS.ifYes X273.here hx rfl (pc0 := 37) (pc' := 42) rfl (hb hby d2_37) rfl ((if0 _ _).trans (feq (by decide : ¬ ((1 : Int32) = (0 : Int32)))).2) (by decide) (by decide) ?_
    show Steps p.tables e below (T273.setTop (mkF m 42 #[.val (.ref w_2), .val (.ref w_5), .val (.ref w_4), .val (.int (4 : Int32)), .val (.int (((0 : Int32) + (1 : Int32)) + (1 : Int32))), .val (.ref w_3)] [])) _
    refine XS.iinc X273.here hx rfl (hb hby d2_42) rfl (l' := #[.val (.ref w_2), .val (.ref w_5), .val (.ref w_4), .val (.int (4 : Int32)), .val (.int ((((0 : Int32) + (1 : Int32)) + (1 : Int32)) + (1 : Int32))), .val (.ref w_3)]) rfl ?_
    show Steps p.tables e below (T273.setTop (mkF m 45 #[.val (.ref w_2), .val (.ref w_5), .val (.ref w_4), .val (.int (4 : Int32)), .val (.int ((((0 : Int32) + (1 : Int32)) + (1 : Int32)) + (1 : Int32))), .val (.ref w_3)] [])) _
    refine XS.goto X273.here hx rfl (pc0 := 45) (pc' := 10) rfl (hb hby d2_45) (by decide) (by decide) ?_
    show Steps p.tables e below (T273.setTop (mkF m 10 #[.val (.ref w_2), .val (.ref w_5), .val (.ref w_4), .val (.int (4 : Int32)), .val (.int ((((0 : Int32) + (1 : Int32)) + (1 : Int32)) + (1 : Int32))), .val (.ref w_3)] [])) _
    refine XS.iload X273.here hx rfl (hb hby d2_10) rfl ?_
    show Steps p.tables e below (T273.setTop (mkF m 12 #[.val (.ref w_2), .val (.ref w_5), .val (.ref w_4), .val (.int (4 : Int32)), .val (.int ((((0 : Int32) + (1 : Int32)) + (1 : Int32)) + (1 : Int32))), .val (.ref w_3)] [(.int ((((0 : Int32) + (1 : Int32)) + (1 : Int32)) + (1 : Int32)))])) _
    refine XS.iloadN X273.here hx rfl (hb hby d2_12) rfl ?_
    show Steps p.tables e below (T273.setTop (mkF m 13 #[.val (.ref w_2), .val (.ref w_5), .val (.ref w_4), .val (.int (4 : Int32)), .val (.int ((((0 : Int32) + (1 : Int32)) + (1 : Int32)) + (1 : Int32))), .val (.ref w_3)] [(.int (4 : Int32)), (.int ((((0 : Int32) + (1 : Int32)) + (1 : Int32)) + (1 : Int32)))])) _
    refine XS.icmpNo X273.here hx rfl (hb hby d2_13) rfl (tlt (by decide : (((((0 : Int32) + (1 : Int32)) + (1 : Int32)) + (1 : Int32)) < (4 : Int32)))).2.1 ?_
    show Steps p.tables e below (T273.setTop (mkF m 16 #[.val (.ref w_2), .val (.ref w_5), .val (.ref w_4), .val (.int (4 : Int32)), .val (.int ((((0 : Int32) + (1 : Int32)) + (1 : Int32)) + (1 : Int32))), .val (.ref w_3)] [])) _
    refine XS.aloadN X273.here hx rfl (hb hby d2_16) rfl rfl ?_
    show Steps p.tables e below (T273.setTop (mkF m 17 #[.val (.ref w_2), .val (.ref w_5), .val (.ref w_4), .val (.int (4 : Int32)), .val (.int ((((0 : Int32) + (1 : Int32)) + (1 : Int32)) + (1 : Int32))), .val (.ref w_3)] [(.ref w_4)])) _
    refine XS.iload X273.here hx rfl (hb hby d2_17) rfl ?_
    show Steps p.tables e below (T273.setTop (mkF m 19 #[.val (.ref w_2), .val (.ref w_5), .val (.ref w_4), .val (.int (4 : Int32)), .val (.int ((((0 : Int32) + (1 : Int32)) + (1 : Int32)) + (1 : Int32))), .val (.ref w_3)] [(.int ((((0 : Int32) + (1 : Int32)) + (1 : Int32)) + (1 : Int32))), (.ref w_4)])) _
    refine X273.aaload hx (j := ((((0 : Int32) + (1 : Int32)) + (1 : Int32)) + (1 : Int32))) (v := (.ref w_2)) (by rw [e273]; exact Ar274.1) (State.isArrayOf_alike hZ.alike Ar274.2.1) rfl Ar274.2.2 hin274 hat274 (g := (mkF m 19 #[.val (.ref w_2), .val (.ref w_5), .val (.ref w_4), .val (.int (4 : Int32)), .val (.int ((((0 : Int32) + (1 : Int32)) + (1 : Int32)) + (1 : Int32))), .val (.ref w_3)] [(.int ((((0 : Int32) + (1 : Int32)) + (1 : Int32)) + (1 : Int32))), (.ref w_4)])) rfl rfl (hb hby d2_19) _ ?_
    show Steps p.tables e below (T273.setTop (mkF m 20 #[.val (.ref w_2), .val (.ref w_5), .val (.ref w_4), .val (.int (4 : Int32)), .val (.int ((((0 : Int32) + (1 : Int32)) + (1 : Int32)) + (1 : Int32))), .val (.ref w_3)] [(.ref w_2)])) _
    refine XS.astore X273.here hx rfl (hb hby d2_20) rfl rfl (l' := #[.val (.ref w_2), .val (.ref w_5), .val (.ref w_4), .val (.int (4 : Int32)), .val (.int ((((0 : Int32) + (1 : Int32)) + (1 : Int32)) + (1 : Int32))), .val (.ref w_2)]) rfl ?_
    show Steps p.tables e below (T273.setTop (mkF m 22 #[.val (.ref w_2), .val (.ref w_5), .val (.ref w_4), .val (.int (4 : Int32)), .val (.int ((((0 : Int32) + (1 : Int32)) + (1 : Int32)) + (1 : Int32))), .val (.ref w_2)] [])) _
    refine XS.aloadN X273.here hx rfl (hb hby d2_22) rfl rfl ?_
    show Steps p.tables e below (T273.setTop (mkF m 23 #[.val (.ref w_2), .val (.ref w_5), .val (.ref w_4), .val (.int (4 : Int32)), .val (.int ((((0 : Int32) + (1 : Int32)) + (1 : Int32)) + (1 : Int32))), .val (.ref w_2)] [(.ref w_5)])) _
    refine XS.aload X273.here hx rfl (hb hby d2_23) rfl rfl ?_
    show Steps p.tables e below (T273.setTop (mkF m 25 #[.val (.ref w_2), .val (.ref w_5), .val (.ref w_4), .val (.int (4 : Int32)), .val (.int ((((0 : Int32) + (1 : Int32)) + (1 : Int32)) + (1 : Int32))), .val (.ref w_2)] [(.ref w_2), (.ref w_5)])) _
    refine st275.trans ?_
    show Steps p.tables e below (T275.setTop (mkF m 28 #[.val (.ref w_2), .val (.ref w_5), .val (.ref w_4), .val (.int (4 : Int32)), .val (.int ((((0 : Int32) + (1 : Int32)) + (1 : Int32)) + (1 : Int32))), .val (.ref w_2)] [(.int (1 : Int32))])) _
    refine XS.ifNo X275.here hx rfl (hb hby d2_28) rfl ((if0 _ _).trans (feq (by decide : ¬ ((1 : Int32) = (0 : Int32)))).1) ?_
    show Steps p.tables e below (T275.setTop (mkF m 31 #[.val (.ref w_2), .val (.ref w_5), .val (.ref w_4), .val (.int (4 : Int32)), .val (.int ((((0 : Int32) + (1 : Int32)) + (1 : Int32)) + (1 : Int32))), .val (.ref w_2)] [])) _
    refine XS.aloadN X275.here hx rfl (hb hby d2_31) rfl rfl ?_
    show Steps p.tables e below (T275.setTop (mkF m 32 #[.val (.ref w_2), .val (.ref w_5), .val (.ref w_4), .val (.int (4 : Int32)), .val (.int ((((0 : Int32) + (1 : Int32)) + (1 : Int32)) + (1 : Int32))), .val (.ref w_2)] [(.ref w_2)])) _
    refine XS.aload X275.here hx rfl (hb hby d2_32) rfl rfl ?_
    show Steps p.tables e below (T275.setTop (mkF m 34 #[.val (.ref w_2), .val (.ref w_5), .val (.ref w_4), .val (.int (4 : Int32)), .val (.int ((((0 : Int32) + (1 : Int32)) + (1 : Int32)) + (1 : Int32))), .val (.ref w_2)] [(.ref w_2), (.ref w_2)])) _
    refine st276.trans ?_
    show Steps p.tables e below (T276.setTop (mkF m 37 #[.val (.ref w_2), .val (.ref w_5), .val (.ref w_4), .val (.int (4 : Int32)), .val (.int ((((0 : Int32) + (1 : Int32)) + (1 : Int32)) + (1 : Int32))), .val (.ref w_2)] [(.int (1 : Int32))])) _
    refine XS.ifYes X276.here hx rfl (pc0 := 37) (pc' := 42) rfl (hb hby d2_37) rfl ((if0 _ _).trans (feq (by decide : ¬ ((1 : Int32) = (0 : Int32)))).2) (by decide) (by decide) ?_
    show Steps p.tables e below (T276.setTop (mkF m 42 #[.val (.ref w_2), .val (.ref w_5), .val (.ref w_4), .val (.int (4 : Int32)), .val (.int ((((0 : Int32) + (1 : Int32)) + (1 : Int32)) + (1 : Int32))), .val (.ref w_2)] [])) _
    refine XS.iinc X276.here hx rfl (hb hby d2_42) rfl (l' := #[.val (.ref w_2), .val (.ref w_5), .val (.ref w_4), .val (.int (4 : Int32)), .val (.int (((((0 : Int32) + (1 : Int32)) + (1 : Int32)) + (1 : Int32)) + (1 : Int32))), .val (.ref w_2)]) rfl ?_
    show Steps p.tables e below (T276.setTop (mkF m 45 #[.val (.ref w_2), .val (.ref w_5), .val (.ref w_4), .val (.int (4 : Int32)), .val (.int (((((0 : Int32) + (1 : Int32)) + (1 : Int32)) + (1 : Int32)) + (1 : Int32))), .val (.ref w_2)] [])) _
    refine XS.goto X276.here hx rfl (pc0 := 45) (pc' := 10) rfl (hb hby d2_45) (by decide) (by decide) ?_
    show Steps p.tables e below (T276.setTop (mkF m 10 #[.val (.ref w_2), .val (.ref w_5), .val (.ref w_4), .val (.int (4 : Int32)), .val (.int (((((0 : Int32) + (1 : Int32)) + (1 : Int32)) + (1 : Int32)) + (1 : Int32))), .val (.ref w_2)] [])) _
    refine XS.iload X276.here hx rfl (hb hby d2_10) rfl ?_
    show Steps p.tables e below (T276.setTop (mkF m 12 #[.val (.ref w_2), .val (.ref w_5), .val (.ref w_4), .val (.int (4 : Int32)), .val (.int (((((0 : Int32) + (1 : Int32)) + (1 : Int32)) + (1 : Int32)) + (1 : Int32))), .val (.ref w_2)] [(.int (((((0 : Int32) + (1 : Int32)) + (1 : Int32)) + (1 : Int32)) + (1 : Int32)))])) _
    refine XS.iloadN X276.here hx rfl (hb hby d2_12) rfl ?_
    show Steps p.tables e below (T276.setTop (mkF m 13 #[.val (.ref w_2), .val (.ref w_5), .val (.ref w_4), .val (.int (4 : Int32)), .val (.int (((((0 : Int32) + (1 : Int32)) + (1 : Int32)) + (1 : Int32)) + (1 : Int32))), .val (.ref w_2)] [(.int (4 : Int32)), (.int (((((0 : Int32) + (1 : Int32)) + (1 : Int32)) + (1 : Int32)) + (1 : Int32)))])) _
    refine XS.icmpYes X276.here hx rfl (pc0 := 13) (pc' := 48) rfl (hb hby d2_13) rfl (flt (by decide : ¬ ((((((0 : Int32) + (1 : Int32)) + (1 : Int32)) + (1 : Int32)) + (1 : Int32)) < (4 : Int32)))).2.1 (by decide) (by decide) ?_
    show Steps p.tables e below (T276.setTop (mkF m 48 #[.val (.ref w_2), .val (.ref w_5), .val (.ref w_4), .val (.int (4 : Int32)), .val (.int (((((0 : Int32) + (1 : Int32)) + (1 : Int32)) + (1 : Int32)) + (1 : Int32))), .val (.ref w_2)] [])) _
    refine XS.iconst X276.here hx rfl (hb hby d2_48) ?_
    show Steps p.tables e below (T276.setTop (mkF m 49 #[.val (.ref w_2), .val (.ref w_5), .val (.ref w_4), .val (.int (4 : Int32)), .val (.int (((((0 : Int32) + (1 : Int32)) + (1 : Int32)) + (1 : Int32)) + (1 : Int32))), .val (.ref w_2)] [(.int (1 : Int32))])) _
    exact retN X276 hx (t := .boolean) Bd.returns (by simp) (hb hby d2_49) hr
  · show Q2x14 Z w_1 w_2 w_3 w_4 w_5 k_4 h0 n0 _ T276.heap _
    rw [e276]
    exact ⟨by unfold sp2x14; rfl, N276, rfl⟩
theorem pn_2x15 : plainName "com/example/lucid_locks/lucidlocks/locks/LockMode" = true := by first | (simp [plainName, overriddenIn]; done) | decide +kernel
theorem ef_2x15 (m : MethodId) (w_2 : Addr) (w_3 : Addr) : entryFrame m #[(.ref w_2), (.ref w_3)] 6 = mkF m 0 #[.val (.ref w_2), .val (.ref w_3), .unset, .unset, .unset, .unset] [] := by first | (simp [entryFrame, mkF, argsToLocals, Value.category]; done) | rfl
def sp2x15  : Int32 := (1 : Int32)
def Q2x15 (Z : State) (w_1 : Addr) (w_2 : Addr) (w_3 : Addr) (w_4 : Addr) (w_5 : Addr) (k_4 : ClassId) (h0 : Heap) (n0 : Nat) (v : Option Value) (h : Heap) (L : List Loc) : Prop := v = some (.int (sp2x15)) ∧ Fr n0 L ∧ h = h0
set_option maxRecDepth 65536 in
set_option maxHeartbeats 40000000 in
theorem rm2x15 (l : Launch) (Z : State) (a0 : Array Value) (hw : ∀ d ∈ tables_1, d.before a0 Z = true) (ws : List Jvm.Cond) (w_1 : Addr) (w_2 : Addr) (w_3 : Addr) (w_4 : Addr) (w_5 : Addr) (k_4 : ClassId) (hS : StF Z w_1 w_2 w_3 w_4 w_5 k_4) (h0 : Heap) (n0 : Nat) (O0 : Old Z n0 h0) :
    MetFree l Y2 (head1 (Jvm.Cond.code Y2 prog_17_method_7_code 6 (some .boolean) :: ws) ({ frames := 1, cells := 0, slots := 0, locals := 13 } : Room)) (fun a U => a = #[(.ref w_2), (.ref w_3)] ∧ Z.Warmed39 U.vm ∧ U.heap = h0) (fun _ _ _ _ _ => True) (fun _ U o U' => ∃ v L, o = .returned v ∧ Q2x15 Z w_1 w_2 w_3 w_4 w_5 k_4 h0 n0 v U'.heap L ∧ FrameEnd U o U' L ({ frames := 1, cells := 0, slots := 0, locals := 13 } : Room).cells ({ frames := 1, cells := 0, slots := 0, locals := 13 } : Room).slots) := by
  refine MetFree.of_bodySF (plainFor_of_name pn_2x15) hisR ?_
  intro p e s m args below meth c s₁ Bd hml0 hP hK
  obtain ⟨rfl, hZ, hh⟩ := hP
  have hx := Bd.exec
  have hby := Bd.bytes
  have hml : c.maxLocals = 6 := hml0
  have hown : s.vm.findClass "com/example/lucid_locks/lucidlocks/locks/LockMode" = some m.cls := findClass_of_methodNamed Bd.named
  have hnm := (name_of_methodNamed Bd.named Bd.method).1
  have X0 : Stand p l e ({ frames := 1, cells := 0, slots := 0, locals := 13 } : Room) s m #[(.ref w_2), (.ref w_3)] below meth c s₁ [] 0 0 := Stand.of_body Bd
  have e0 : s₁.heap = h0 := by rw [← hh, Bd.state]; rfl
  have N0 := Fr.nil n0
  have hS0 := hS
  obtain ⟨S_1, E_1, S_2, E_2, S_3, E_3, S_4, S_5, E_5, F_1_ordinal, F_3_ordinal, F_2_ordinal, F_1_sharedWithItself, F_5_ordinal, F_5_sharedWithItself, F_3_sharedWithItself, F_2_sharedWithItself, V_4⟩ := hS
  have pre0 : ∀ t, Steps p.tables e below (s₁.setTop (mkF m 0 #[.val (.ref w_2), .val (.ref w_3), .unset, .unset, .unset, .unset] [])) t → Steps p.tables e below (s₁.setTop (entryFrame m #[(.ref w_2), (.ref w_3)] 6)) t := fun t k => castTop (ef_2x15 m w_2 w_3) k
  obtain ⟨T283, X283, e283, st283⟩ := getS2 X0 hx hZ hown (host := "") (Or.inl (hw _ (tk 16 rfl))) Via.refl e0 (S_4.ext O0.2) (g := (mkF m 0 #[.val (.ref w_2), .val (.ref w_3), .unset, .unset, .unset, .unset] [])) rfl (hb hby d2_0)
  obtain ⟨cl284, Ar284, qa284, Sa284, Ma284, Ha284, Ga284⟩ := id (V_4.ext O0.2)
  obtain ⟨cl285, Ar285, qa285, Sa285, Ma285, Ha285, Ga285⟩ := id (V_4.ext O0.2)
  have hin285 : ¬ ((0 : Int32) < 0 ∨ cl285.slots.size ≤ ((0 : Int32)).toNatClampNeg) := by  exact inb_of Sa285 ⟨by decide, by decide⟩
  have hat285 : cl285.slots[((0 : Int32)).toNatClampNeg]? = some (.ref w_1) := Has.at Ha285 hin285 (by rfl)
  obtain ⟨cq286, kq286, q286a, q286b, q286c⟩ := isOf hZ e283 (E_3.ext O0.2)
  obtain ⟨_, _, ⟨T286, L286, k286, n286⟩, -, X286, ⟨Lc286, hQ286, l286, y286, z286⟩, st286⟩ := X283.virtualBack hx (y := Y1) (z := Y1) hown (mvT hZ (hw _ (tk 18 rfl))) (mvT hZ (hw _ (tk 19 rfl))) (notFace_of_selects (args := #[]) (mvT hZ (hw _ (tk 21 rfl)))) (mvT hZ (hw _ (tk 21 rfl))) (mvT hZ (hw _ (tk 20 rfl))) (by decide) (backOf (W := 0) (rm3 l Z a0 hw [] w_1 w_2 w_3 w_4 w_5 k_4 hS0 w_3 w_1 (0 : Int32) h0 n0 O0 (F_3_sharedWithItself.ext O0.2)) hZ (hw _ (tk 22 rfl)) (hw _ (tk 5 rfl)) (by decide) (by decide)) q286a q286c (g := (mkF m 25 #[.val (.ref w_2), .val (.ref w_3), .val (.ref w_4), .val (.int (4 : Int32)), .val (.int (0 : Int32)), .val (.ref w_1)] [(.ref w_1), (.ref w_3)])) rfl (by rw [hml]; rfl) (Steps.refl _) (argsL := [(.ref w_1)]) (rest := []) (lenOf pd_1 rfl) rfl (by show 2 * 0 + _ ≤ _; exact Nat.le_of_eq rfl) (hb hby d2_25) (fun _ _ => ⟨rfl, e283, (by decide : 0 + 0 ≤ _), (by decide : 0 + 0 ≤ _)⟩)
  dsimp only [Pt.U, Pt.locs, Pt.cells, Pt.slots] at X286 l286 y286 z286 st286 hQ286
  subst l286 y286 z286
  obtain ⟨rv286, N286q, e286⟩ := hQ286
  rw [show sp3 w_3 w_1 (0 : Int32) = (1 : Int32) from by unfold sp3; rw [if_neg (Fld.ne F_3_ordinal F_1_ordinal (by decide))]] at rv286
  subst rv286
  have N286 := Fr.app N0 N286q
  obtain ⟨cq287, kq287, q287a, q287b, q287c⟩ := isOf hZ e286 (E_2.ext O0.2)
  obtain ⟨_, _, ⟨T287, L287, k287, n287⟩, -, X287, ⟨Lc287, hQ287, l287, y287, z287⟩, st287⟩ := X286.virtualBack hx (y := Y1) (z := Y1) hown (mvT hZ (hw _ (tk 18 rfl))) (mvT hZ (hw _ (tk 19 rfl))) (notFace_of_selects (args := #[]) (mvT hZ (hw _ (tk 21 rfl)))) (mvT hZ (hw _ (tk 21 rfl))) (mvT hZ (hw _ (tk 20 rfl))) (by decide) (backOf (W := 0) (rm3 l Z a0 hw [] w_1 w_2 w_3 w_4 w_5 k_4 hS0 w_2 w_1 (0 : Int32) h0 n0 O0 (F_2_sharedWithItself.ext O0.2)) hZ (hw _ (tk 22 rfl)) (hw _ (tk 5 rfl)) (by decide) (by decide)) q287a q287c (g := (mkF m 34 #[.val (.ref w_2), .val (.ref w_3), .val (.ref w_4), .val (.int (4 : Int32)), .val (.int (0 : Int32)), .val (.ref w_1)] [(.ref w_1), (.ref w_2)])) rfl (by rw [hml]; rfl) (Steps.refl _) (argsL := [(.ref w_1)]) (rest := []) (lenOf pd_1 rfl) rfl (by show 2 * 0 + _ ≤ _; exact Nat.le_of_eq rfl) (hb hby d2_34) (fun _ _ => ⟨rfl, e286, (by decide : 0 + 0 ≤ _), (by decide : 0 + 0 ≤ _)⟩)
  dsimp only [Pt.U, Pt.locs, Pt.cells, Pt.slots] at X287 l287 y287 z287 st287 hQ287
  subst l287 y287 z287
  obtain ⟨rv287, N287q, e287⟩ := hQ287
  rw [show sp3 w_2 w_1 (0 : Int32) = (1 : Int32) from by unfold sp3; rw [if_neg (Fld.ne F_2_ordinal F_1_ordinal (by decide))]] at rv287
  subst rv287
  have N287 := Fr.app N286 N287q
  obtain ⟨cl288, Ar288, qa288, Sa288, Ma288, Ha288, Ga288⟩ := id (V_4.ext O0.2)
  have hin288 : ¬ (((0 : Int32) + (1 : Int32)) < 0 ∨ cl288.slots.size ≤ (((0 : Int32) + (1 : Int32))).toNatClampNeg) := by  exact inb_of Sa288 ⟨by decide, by decide⟩
  have hat288 : cl288.slots[(((0 : Int32) + (1 : Int32))).toNatClampNeg]? = some (.ref w_5) := Has.at Ha288 hin288 (by rfl)
  obtain ⟨cq289, kq289, q289a, q289b, q289c⟩ := isOf hZ e287 (E_3.ext O0.2)
  obtain ⟨_, _, ⟨T289, L289, k289, n289⟩, -, X289, ⟨Lc289, hQ289, l289, y289, z289⟩, st289⟩ := X287.virtualBack hx (y := Y1) (z := Y1) hown (mvT hZ (hw _ (tk 18 rfl))) (mvT hZ (hw _ (tk 19 rfl))) (notFace_of_selects (args := #[]) (mvT hZ (hw _ (tk 21 rfl)))) (mvT hZ (hw _ (tk 21 rfl))) (mvT hZ (hw _ (tk 20 rfl))) (by decide) (backOf (W := 0) (rm3 l Z a0 hw [] w_1 w_2 w_3 w_4 w_5 k_4 hS0 w_3 w_5 (0 : Int32) h0 n0 O0 (F_3_sharedWithItself.ext O0.2)) hZ (hw _ (tk 22 rfl)) (hw _ (tk 5 rfl)) (by decide) (by decide)) q289a q289c (g := (mkF m 25 #[.val (.ref w_2), .val (.ref w_3), .val (.ref w_4), .val (.int (4 : Int32)), .val (.int ((0 : Int32) + (1 : Int32))), .val (.ref w_5)] [(.ref w_5), (.ref w_3)])) rfl (by rw [hml]; rfl) (Steps.refl _) (argsL := [(.ref w_5)]) (rest := []) (lenOf pd_1 rfl) rfl (by show 2 * 0 + _ ≤ _; exact Nat.le_of_eq rfl) (hb hby d2_25) (fun _ _ => ⟨rfl, e287, (by decide : 0 + 0 ≤ _), (by decide : 0 + 0 ≤ _)⟩)
  dsimp only [Pt.U, Pt.locs, Pt.cells, Pt.slots] at X289 l289 y289 z289 st289 hQ289
  subst l289 y289 z289
  obtain ⟨rv289, N289q, e289⟩ := hQ289
  rw [show sp3 w_3 w_5 (0 : Int32) = (1 : Int32) from by unfold sp3; rw [if_neg (Fld.ne F_3_ordinal F_5_ordinal (by decide))]] at rv289
  subst rv289
  have N289 := Fr.app N287 N289q
  obtain ⟨cq290, kq290, q290a, q290b, q290c⟩ := isOf hZ e289 (E_2.ext O0.2)
  obtain ⟨_, _, ⟨T290, L290, k290, n290⟩, -, X290, ⟨Lc290, hQ290, l290, y290, z290⟩, st290⟩ := X289.virtualBack hx (y := Y1) (z := Y1) hown (mvT hZ (hw _ (tk 18 rfl))) (mvT hZ (hw _ (tk 19 rfl))) (notFace_of_selects (args := #[]) (mvT hZ (hw _ (tk 21 rfl)))) (mvT hZ (hw _ (tk 21 rfl))) (mvT hZ (hw _ (tk 20 rfl))) (by decide) (backOf (W := 0) (rm3 l Z a0 hw [] w_1 w_2 w_3 w_4 w_5 k_4 hS0 w_2 w_5 (0 : Int32) h0 n0 O0 (F_2_sharedWithItself.ext O0.2)) hZ (hw _ (tk 22 rfl)) (hw _ (tk 5 rfl)) (by decide) (by decide)) q290a q290c (g := (mkF m 34 #[.val (.ref w_2), .val (.ref w_3), .val (.ref w_4), .val (.int (4 : Int32)), .val (.int ((0 : Int32) + (1 : Int32))), .val (.ref w_5)] [(.ref w_5), (.ref w_2)])) rfl (by rw [hml]; rfl) (Steps.refl _) (argsL := [(.ref w_5)]) (rest := []) (lenOf pd_1 rfl) rfl (by show 2 * 0 + _ ≤ _; exact Nat.le_of_eq rfl) (hb hby d2_34) (fun _ _ => ⟨rfl, e289, (by decide : 0 + 0 ≤ _), (by decide : 0 + 0 ≤ _)⟩)
  dsimp only [Pt.U, Pt.locs, Pt.cells, Pt.slots] at X290 l290 y290 z290 st290 hQ290
  subst l290 y290 z290
  obtain ⟨rv290, N290q, e290⟩ := hQ290
  rw [show sp3 w_2 w_5 (0 : Int32) = (1 : Int32) from by unfold sp3; rw [if_neg (Fld.ne F_2_ordinal F_5_ordinal (by decide))]] at rv290
  subst rv290
  have N290 := Fr.app N289 N290q
  obtain ⟨cl291, Ar291, qa291, Sa291, Ma291, Ha291, Ga291⟩ := id (V_4.ext O0.2)
  have hin291 : ¬ ((((0 : Int32) + (1 : Int32)) + (1 : Int32)) < 0 ∨ cl291.slots.size ≤ ((((0 : Int32) + (1 : Int32)) + (1 : Int32))).toNatClampNeg) := by  exact inb_of Sa291 ⟨by decide, by decide⟩
  have hat291 : cl291.slots[((((0 : Int32) + (1 : Int32)) + (1 : Int32))).toNatClampNeg]? = some (.ref w_3) := Has.at Ha291 hin291 (by rfl)
  obtain ⟨cq292, kq292, q292a, q292b, q292c⟩ := isOf hZ e290 (E_3.ext O0.2)
  obtain ⟨_, _, ⟨T292, L292, k292, n292⟩, -, X292, ⟨Lc292, hQ292, l292, y292, z292⟩, st292⟩ := X290.virtualBack hx (y := Y1) (z := Y1) hown (mvT hZ (hw _ (tk 18 rfl))) (mvT hZ (hw _ (tk 19 rfl))) (notFace_of_selects (args := #[]) (mvT hZ (hw _ (tk 21 rfl)))) (mvT hZ (hw _ (tk 21 rfl))) (mvT hZ (hw _ (tk 20 rfl))) (by decide) (backOf (W := 0) (rm3 l Z a0 hw [] w_1 w_2 w_3 w_4 w_5 k_4 hS0 w_3 w_3 (0 : Int32) h0 n0 O0 (F_3_sharedWithItself.ext O0.2)) hZ (hw _ (tk 22 rfl)) (hw _ (tk 5 rfl)) (by decide) (by decide)) q292a q292c (g := (mkF m 25 #[.val (.ref w_2), .val (.ref w_3), .val (.ref w_4), .val (.int (4 : Int32)), .val (.int (((0 : Int32) + (1 : Int32)) + (1 : Int32))), .val (.ref w_3)] [(.ref w_3), (.ref w_3)])) rfl (by rw [hml]; rfl) (Steps.refl _) (argsL := [(.ref w_3)]) (rest := []) (lenOf pd_1 rfl) rfl (by show 2 * 0 + _ ≤ _; exact Nat.le_of_eq rfl) (hb hby d2_25) (fun _ _ => ⟨rfl, e290, (by decide : 0 + 0 ≤ _), (by decide : 0 + 0 ≤ _)⟩)
  dsimp only [Pt.U, Pt.locs, Pt.cells, Pt.slots] at X292 l292 y292 z292 st292 hQ292
  subst l292 y292 z292
  obtain ⟨rv292, N292q, e292⟩ := hQ292
  rw [show sp3 w_3 w_3 (0 : Int32) = (1 : Int32) from by unfold sp3; rw [if_pos rfl, if_pos (by decide : ((0 : Int32) = (0 : Int32)))]] at rv292
  subst rv292
  have N292 := Fr.app N290 N292q
  obtain ⟨cq293, kq293, q293a, q293b, q293c⟩ := isOf hZ e292 (E_2.ext O0.2)
  obtain ⟨_, _, ⟨T293, L293, k293, n293⟩, -, X293, ⟨Lc293, hQ293, l293, y293, z293⟩, st293⟩ := X292.virtualBack hx (y := Y1) (z := Y1) hown (mvT hZ (hw _ (tk 18 rfl))) (mvT hZ (hw _ (tk 19 rfl))) (notFace_of_selects (args := #[]) (mvT hZ (hw _ (tk 21 rfl)))) (mvT hZ (hw _ (tk 21 rfl))) (mvT hZ (hw _ (tk 20 rfl))) (by decide) (backOf (W := 0) (rm3 l Z a0 hw [] w_1 w_2 w_3 w_4 w_5 k_4 hS0 w_2 w_3 (0 : Int32) h0 n0 O0 (F_2_sharedWithItself.ext O0.2)) hZ (hw _ (tk 22 rfl)) (hw _ (tk 5 rfl)) (by decide) (by decide)) q293a q293c (g := (mkF m 34 #[.val (.ref w_2), .val (.ref w_3), .val (.ref w_4), .val (.int (4 : Int32)), .val (.int (((0 : Int32) + (1 : Int32)) + (1 : Int32))), .val (.ref w_3)] [(.ref w_3), (.ref w_2)])) rfl (by rw [hml]; rfl) (Steps.refl _) (argsL := [(.ref w_3)]) (rest := []) (lenOf pd_1 rfl) rfl (by show 2 * 0 + _ ≤ _; exact Nat.le_of_eq rfl) (hb hby d2_34) (fun _ _ => ⟨rfl, e292, (by decide : 0 + 0 ≤ _), (by decide : 0 + 0 ≤ _)⟩)
  dsimp only [Pt.U, Pt.locs, Pt.cells, Pt.slots] at X293 l293 y293 z293 st293 hQ293
  subst l293 y293 z293
  obtain ⟨rv293, N293q, e293⟩ := hQ293
  rw [show sp3 w_2 w_3 (0 : Int32) = (1 : Int32) from by unfold sp3; rw [if_neg (Fld.ne F_2_ordinal F_3_ordinal (by decide))]] at rv293
  subst rv293
  have N293 := Fr.app N292 N293q
  obtain ⟨cl294, Ar294, qa294, Sa294, Ma294, Ha294, Ga294⟩ := id (V_4.ext O0.2)
  have hin294 : ¬ (((((0 : Int32) + (1 : Int32)) + (1 : Int32)) + (1 : Int32)) < 0 ∨ cl294.slots.size ≤ (((((0 : Int32) + (1 : Int32)) + (1 : Int32)) + (1 : Int32))).toNatClampNeg) := by  exact inb_of Sa294 ⟨by decide, by decide⟩
  have hat294 : cl294.slots[(((((0 : Int32) + (1 : Int32)) + (1 : Int32)) + (1 : Int32))).toNatClampNeg]? = some (.ref w_2) := Has.at Ha294 hin294 (by rfl)
  obtain ⟨cq295, kq295, q295a, q295b, q295c⟩ := isOf hZ e293 (E_3.ext O0.2)
  obtain ⟨_, _, ⟨T295, L295, k295, n295⟩, -, X295, ⟨Lc295, hQ295, l295, y295, z295⟩, st295⟩ := X293.virtualBack hx (y := Y1) (z := Y1) hown (mvT hZ (hw _ (tk 18 rfl))) (mvT hZ (hw _ (tk 19 rfl))) (notFace_of_selects (args := #[]) (mvT hZ (hw _ (tk 21 rfl)))) (mvT hZ (hw _ (tk 21 rfl))) (mvT hZ (hw _ (tk 20 rfl))) (by decide) (backOf (W := 0) (rm3 l Z a0 hw [] w_1 w_2 w_3 w_4 w_5 k_4 hS0 w_3 w_2 (0 : Int32) h0 n0 O0 (F_3_sharedWithItself.ext O0.2)) hZ (hw _ (tk 22 rfl)) (hw _ (tk 5 rfl)) (by decide) (by decide)) q295a q295c (g := (mkF m 25 #[.val (.ref w_2), .val (.ref w_3), .val (.ref w_4), .val (.int (4 : Int32)), .val (.int ((((0 : Int32) + (1 : Int32)) + (1 : Int32)) + (1 : Int32))), .val (.ref w_2)] [(.ref w_2), (.ref w_3)])) rfl (by rw [hml]; rfl) (Steps.refl _) (argsL := [(.ref w_2)]) (rest := []) (lenOf pd_1 rfl) rfl (by show 2 * 0 + _ ≤ _; exact Nat.le_of_eq rfl) (hb hby d2_25) (fun _ _ => ⟨rfl, e293, (by decide : 0 + 0 ≤ _), (by decide : 0 + 0 ≤ _)⟩)
  dsimp only [Pt.U, Pt.locs, Pt.cells, Pt.slots] at X295 l295 y295 z295 st295 hQ295
  subst l295 y295 z295
  obtain ⟨rv295, N295q, e295⟩ := hQ295
  rw [show sp3 w_3 w_2 (0 : Int32) = (1 : Int32) from by unfold sp3; rw [if_neg (Fld.ne F_3_ordinal F_2_ordinal (by decide))]] at rv295
  subst rv295
  have N295 := Fr.app N293 N295q
  obtain ⟨cq296, kq296, q296a, q296b, q296c⟩ := isOf hZ e295 (E_2.ext O0.2)
  obtain ⟨_, _, ⟨T296, L296, k296, n296⟩, -, X296, ⟨Lc296, hQ296, l296, y296, z296⟩, st296⟩ := X295.virtualBack hx (y := Y1) (z := Y1) hown (mvT hZ (hw _ (tk 18 rfl))) (mvT hZ (hw _ (tk 19 rfl))) (notFace_of_selects (args := #[]) (mvT hZ (hw _ (tk 21 rfl)))) (mvT hZ (hw _ (tk 21 rfl))) (mvT hZ (hw _ (tk 20 rfl))) (by decide) (backOf (W := 0) (rm3 l Z a0 hw [] w_1 w_2 w_3 w_4 w_5 k_4 hS0 w_2 w_2 (0 : Int32) h0 n0 O0 (F_2_sharedWithItself.ext O0.2)) hZ (hw _ (tk 22 rfl)) (hw _ (tk 5 rfl)) (by decide) (by decide)) q296a q296c (g := (mkF m 34 #[.val (.ref w_2), .val (.ref w_3), .val (.ref w_4), .val (.int (4 : Int32)), .val (.int ((((0 : Int32) + (1 : Int32)) + (1 : Int32)) + (1 : Int32))), .val (.ref w_2)] [(.ref w_2), (.ref w_2)])) rfl (by rw [hml]; rfl) (Steps.refl _) (argsL := [(.ref w_2)]) (rest := []) (lenOf pd_1 rfl) rfl (by show 2 * 0 + _ ≤ _; exact Nat.le_of_eq rfl) (hb hby d2_34) (fun _ _ => ⟨rfl, e295, (by decide : 0 + 0 ≤ _), (by decide : 0 + 0 ≤ _)⟩)
  dsimp only [Pt.U, Pt.locs, Pt.cells, Pt.slots] at X296 l296 y296 z296 st296 hQ296
  subst l296 y296 z296
  obtain ⟨rv296, N296q, e296⟩ := hQ296
  rw [show sp3 w_2 w_2 (0 : Int32) = (1 : Int32) from by unfold sp3; rw [if_pos rfl, if_pos (by decide : ((0 : Int32) = (0 : Int32)))]] at rv296
  subst rv296
  have N296 := Fr.app N295 N296q
  obtain ⟨fs, hr, hrun, hended, hW, hsame⟩ := X296.leave (v := some (.int (1 : Int32))) (fun h => by rw [Bd.returns] at h; cases h)
  refine ⟨_, _, pre0 _ ?_, hrun, hended, _, _, rfl, ?_, ⟨_, rfl⟩, hW, hsame.mono (by decide) (by decide)⟩
  · show Steps p.tables e below (s₁.setTop (mkF m 0 #[.val (.ref w_2), .val (.ref w_3), .unset, .unset, .unset, .unset] [])) _
    refine st283 _ ?_
    show Steps p.tables e below (T283.setTop (mkF m 3 #[.val (.ref w_2), .val (.ref w_3), .unset, .unset, .unset, .unset] [(.ref w_4)])) _
    refine XS.astoreN X283.here hx rfl (hb hby d2_3) rfl rfl (l' := #[.val (.ref w_2), .val (.ref w_3), .val (.ref w_4), .unset, .unset, .unset]) rfl ?_
    show Steps p.tables e below (T283.setTop (mkF m 4 #[.val (.ref w_2), .val (.ref w_3), .val (.ref w_4), .unset, .unset, .unset] [])) _
    refine XS.aloadN X283.here hx rfl (hb hby d2_4) rfl rfl ?_
    show Steps p.tables e below (T283.setTop (mkF m 5 #[.val (.ref w_2), .val (.ref w_3), .val (.ref w_4), .unset, .unset, .unset] [(.ref w_4)])) _
    refine X283.arraylength hx (by rw [e283]; exact Ar284.1) (State.isArrayOf_alike hZ.alike Ar284.2.1) (g := (mkF m 5 #[.val (.ref w_2), .val (.ref w_3), .val (.ref w_4), .unset, .unset, .unset] [(.ref w_4)])) rfl rfl (hb hby d2_5) _ ?_
    rw [len_of Sa284 Ma284]
    show Steps p.tables e below (T283.setTop (mkF m 6 #[.val (.ref w_2), .val (.ref w_3), .val (.ref w_4), .unset, .unset, .unset] [(.int (4 : Int32))])) _
    refine XS.istoreN X283.here hx rfl (hb hby d2_6) rfl (l' := #[.val (.ref w_2), .val (.ref w_3), .val (.ref w_4), .val (.int (4 : Int32)), .unset, .unset]) rfl ?_
    show Steps p.tables e below (T283.setTop (mkF m 7 #[.val (.ref w_2), .val (.ref w_3), .val (.ref w_4), .val (.int (4 : Int32)), .unset, .unset] [])) _
    refine XS.iconst X283.here hx rfl (hb hby d2_7) ?_
    show Steps p.tables e below (T283.setTop (mkF m 8 #[.val (.ref w_2), .val (.ref w_3), .val (.ref w_4), .val (.int (4 : Int32)), .unset, .unset] [(.int (0 : Int32))])) _
    refine XS.istore X283.here hx rfl (hb hby d2_8) rfl (l' := #[.val (.ref w_2), .val (.ref w_3), .val (.ref w_4), .val (.int (4 : Int32)), .val (.int (0 : Int32)), .unset]) rfl ?_
    show Steps p.tables e below (T283.setTop (mkF m 10 #[.val (.ref w_2), .val (.ref w_3), .val (.ref w_4), .val (.int (4 : Int32)), .val (.int (0 : Int32)), .unset] [])) _
    refine XS.iload X283.here hx rfl (hb hby d2_10) rfl ?_
    show Steps p.tables e below (T283.setTop (mkF m 12 #[.val (.ref w_2), .val (.ref w_3), .val (.ref w_4), .val (.int (4 : Int32)), .val (.int (0 : Int32)), .unset] [(.int (0 : Int32))])) _
    refine XS.iloadN X283.here hx rfl (hb hby d2_12) rfl ?_
    show Steps p.tables e below (T283.setTop (mkF m 13 #[.val (.ref w_2), .val (.ref w_3), .val (.ref w_4), .val (.int (4 : Int32)), .val (.int (0 : Int32)), .unset] [(.int (4 : Int32)), (.int (0 : Int32))])) _
    refine XS.icmpNo X283.here hx rfl (hb hby d2_13) rfl (tlt (by decide : ((0 : Int32) < (4 : Int32)))).2.1 ?_
    show Steps p.tables e below (T283.setTop (mkF m 16 #[.val (.ref w_2), .val (.ref w_3), .val (.ref w_4), .val (.int (4 : Int32)), .val (.int (0 : Int32)), .unset] [])) _
    refine XS.aloadN X283.here hx rfl (hb hby d2_16) rfl rfl ?_
    show Steps p.tables e below (T283.setTop (mkF m 17 #[.val (.ref w_2), .val (.ref w_3), .val (.ref w_4), .val (.int (4 : Int32)), .val (.int (0 : Int32)), .unset] [(.ref w_4)])) _
    refine XS.iload X283.here hx rfl (hb hby d2_17) rfl ?_
    show Steps p.tables e below (T283.setTop (mkF m 19 #[.val (.ref w_2), .val (.ref w_3), .val (.ref w_4), .val (.int (4 : Int32)), .val (.int (0 : Int32)), .unset] [(.int (0 : Int32)), (.ref w_4)])) _
    refine X283.aaload hx (j := (0 : Int32)) (v := (.ref w_1)) (by rw [e283]; exact Ar285.1) (State.isArrayOf_alike hZ.alike Ar285.2.1) rfl Ar285.2.2 hin285 hat285 (g := (mkF m 19 #[.val (.ref w_2), .val (.ref w_3), .val (.ref w_4), .val (.int (4 : Int32)), .val (.int (0 : Int32)), .unset] [(.int (0 : Int32)), (.ref w_4)])) rfl rfl (hb hby d2_19) _ ?_
    show Steps p.tables e below (T283.setTop (mkF m 20 #[.val (.ref w_2), .val (.ref w_3), .val (.ref w_4), .val (.int (4 : Int32)), .val (.int (0 : Int32)), .unset] [(.ref w_1)])) _
    refine XS.astore X283.here hx rfl (hb hby d2_20) rfl rfl (l' := #[.val (.ref w_2), .val (.ref w_3), .val (.ref w_4), .val (.int (4 : Int32)), .val (.int (0 : Int32)), .val (.ref w_1)]) rfl ?_
    show Steps p.tables e below (T283.setTop (mkF m 22 #[.val (.ref w_2), .val (.ref w_3), .val (.ref w_4), .val (.int (4 : Int32)), .val (.int (0 : Int32)), .val (.ref w_1)] [])) _
    refine XS.aloadN X283.here hx rfl (hb hby d2_22) rfl rfl ?_
    show Steps p.tables e below (T283.setTop (mkF m 23 #[.val (.ref w_2), .val (.ref w_3), .val (.ref w_4), .val (.int (4 : Int32)), .val (.int (0 : Int32)), .val (.ref w_1)] [(.ref w_3)])) _
    refine XS.aload X283.here hx rfl (hb hby d2_23) rfl rfl ?_
    show Steps p.tables e below (T283.setTop (mkF m 25 #[.val (.ref w_2), .val (.ref w_3), .val (.ref w_4), .val (.int (4 : Int32)), .val (.int (0 : Int32)), .val (.ref w_1)] [(.ref w_1), (.ref w_3)])) _
    refine st286.trans ?_
    show Steps p.tables e below (T286.setTop (mkF m 28 #[.val (.ref w_2), .val (.ref w_3), .val (.ref w_4), .val (.int (4 : Int32)), .val (.int (0 : Int32)), .val (.ref w_1)] [(.int (1 : Int32))])) _
    refine XS.ifNo X286.here hx rfl (hb hby d2_28) rfl ((if0 _ _).trans (feq (by decide : ¬ ((1 : Int32) = (0 : Int32)))).1) ?_
    show Steps p.tables e below (T286.setTop (mkF m 31 #[.val (.ref w_2), .val (.ref w_3), .val (.ref w_4), .val (.int (4 : Int32)), .val (.int (0 : Int32)), .val (.ref w_1)] [])) _
    refine XS.aloadN X286.here hx rfl (hb hby d2_31) rfl rfl ?_
    show Steps p.tables e below (T286.setTop (mkF m 32 #[.val (.ref w_2), .val (.ref w_3), .val (.ref w_4), .val (.int (4 : Int32)), .val (.int (0 : Int32)), .val (.ref w_1)] [(.ref w_2)])) _
    refine XS.aload X286.here hx rfl (hb hby d2_32) rfl rfl ?_
    show Steps p.tables e below (T286.setTop (mkF m 34 #[.val (.ref w_2), .val (.ref w_3), .val (.ref w_4), .val (.int (4 : Int32)), .val (.int (0 : Int32)), .val (.ref w_1)] [(.ref w_1), (.ref w_2)])) _
    refine st287.trans ?_
    show Steps p.tables e below (T287.setTop (mkF m 37 #[.val (.ref w_2), .val (.ref w_3), .val (.ref w_4), .val (.int (4 : Int32)), .val (.int (0 : Int32)), .val (.ref w_1)] [(.int (1 : Int32))])) _
    refine XS.ifYes X287.here hx rfl (pc0 := 37) (pc' := 42) rfl (hb hby d2_37) rfl ((if0 _ _).trans (feq (by decide : ¬ ((1 : Int32) = (0 : Int32)))).2) (by decide) (by decide) ?_
    show Steps p.tables e below (T287.setTop (mkF m 42 #[.val (.ref w_2), .val (.ref w_3), .val (.ref w_4), .val (.int (4 : Int32)), .val (.int (0 : Int32)), .val (.ref w_1)] [])) _
    refine XS.iinc X287.here hx rfl (hb hby d2_42) rfl (l' := #[.val (.ref w_2), .val (.ref w_3), .val (.ref w_4), .val (.int (4 : Int32)), .val (.int ((0 : Int32) + (1 : Int32))), .val (.ref w_1)]) rfl ?_
    show Steps p.tables e below (T287.setTop (mkF m 45 #[.val (.ref w_2), .val (.ref w_3), .val (.ref w_4), .val (.int (4 : Int32)), .val (.int ((0 : Int32) + (1 : Int32))), .val (.ref w_1)] [])) _
    refine XS.goto X287.here hx rfl (pc0 := 45) (pc' := 10) rfl (hb hby d2_45) (by decide) (by decide) ?_
    show Steps p.tables e below (T287.setTop (mkF m 10 #[.val (.ref w_2), .val (.ref w_3), .val (.ref w_4), .val (.int (4 : Int32)), .val (.int ((0 : Int32) + (1 : Int32))), .val (.ref w_1)] [])) _
    refine XS.iload X287.here hx rfl (hb hby d2_10) rfl ?_
    show Steps p.tables e below (T287.setTop (mkF m 12 #[.val (.ref w_2), .val (.ref w_3), .val (.ref w_4), .val (.int (4 : Int32)), .val (.int ((0 : Int32) + (1 : Int32))), .val (.ref w_1)] [(.int ((0 : Int32) + (1 : Int32)))])) _
    refine XS.iloadN X287.here hx rfl (hb hby d2_12) rfl ?_
    show Steps p.tables e below (T287.setTop (mkF m 13 #[.val (.ref w_2), .val (.ref w_3), .val (.ref w_4), .val (.int (4 : Int32)), .val (.int ((0 : Int32) + (1 : Int32))), .val (.ref w_1)] [(.int (4 : Int32)), (.int ((0 : Int32) + (1 : Int32)))])) _
    refine XS.icmpNo X287.here hx rfl (hb hby d2_13) rfl (tlt (by decide : (((0 : Int32) + (1 : Int32)) < (4 : Int32)))).2.1 ?_
    show Steps p.tables e below (T287.setTop (mkF m 16 #[.val (.ref w_2), .val (.ref w_3), .val (.ref w_4), .val (.int (4 : Int32)), .val (.int ((0 : Int32) + (1 : Int32))), .val (.ref w_1)] [])) _
    refine XS.aloadN X287.here hx rfl (hb hby d2_16) rfl rfl ?_
    show Steps p.tables e below (T287.setTop (mkF m 17 #[.val (.ref w_2), .val (.ref w_3), .val (.ref w_4), .val (.int (4 : Int32)), .val (.int ((0 : Int32) + (1 : Int32))), .val (.ref w_1)] [(.ref w_4)])) _
    refine XS.iload X287.here hx rfl (hb hby d2_17) rfl ?_
    show Steps p.tables e below (T287.setTop (mkF m 19 #[.val (.ref w_2), .val (.ref w_3), .val (.ref w_4), .val (.int (4 : Int32)), .val (.int ((0 : Int32) + (1 : Int32))), .val (.ref w_1)] [(.int ((0 : Int32) + (1 : Int32))), (.ref w_4)])) _
    refine X287.aaload hx (j := ((0 : Int32) + (1 : Int32))) (v := (.ref w_5)) (by rw [e287]; exact Ar288.1) (State.isArrayOf_alike hZ.alike Ar288.2.1) rfl Ar288.2.2 hin288 hat288 (g := (mkF m 19 #[.val (.ref w_2), .val (.ref w_3), .val (.ref w_4), .val (.int (4 : Int32)), .val (.int ((0 : Int32) + (1 : Int32))), .val (.ref w_1)] [(.int ((0 : Int32) + (1 : Int32))), (.ref w_4)])) rfl rfl (hb hby d2_19) _ ?_
    show Steps p.tables e below (T287.setTop (mkF m 20 #[.val (.ref w_2), .val (.ref w_3), .val (.ref w_4), .val (.int (4 : Int32)), .val (.int ((0 : Int32) + (1 : Int32))), .val (.ref w_1)] [(.ref w_5)])) _
    refine XS.astore X287.here hx rfl (hb hby d2_20) rfl rfl (l' := #[.val (.ref w_2), .val (.ref w_3), .val (.ref w_4), .val (.int (4 : Int32)), .val (.int ((0 : Int32) + (1 : Int32))), .val (.ref w_5)]) rfl ?_
    show Steps p.tables e below (T287.setTop (mkF m 22 #[.val (.ref w_2), .val (.ref w_3), .val (.ref w_4), .val (.int (4 : Int32)), .val (.int ((0 : Int32) + (1 : Int32))), .val (.ref w_5)] [])) _
    refine XS.aloadN X287.here hx rfl (hb hby d2_22) rfl rfl ?_
    show Steps p.tables e below (T287.setTop (mkF m 23 #[.val (.ref w_2), .val (.ref w_3), .val (.ref w_4), .val (.int (4 : Int32)), .val (.int ((0 : Int32) + (1 : Int32))), .val (.ref w_5)] [(.ref w_3)])) _
    refine XS.aload X287.here hx rfl (hb hby d2_23) rfl rfl ?_
    show Steps p.tables e below (T287.setTop (mkF m 25 #[.val (.ref w_2), .val (.ref w_3), .val (.ref w_4), .val (.int (4 : Int32)), .val (.int ((0 : Int32) + (1 : Int32))), .val (.ref w_5)] [(.ref w_5), (.ref w_3)])) _
    refine st289.trans ?_
    show Steps p.tables e below (T289.setTop (mkF m 28 #[.val (.ref w_2), .val (.ref w_3), .val (.ref w_4), .val (.int (4 : Int32)), .val (.int ((0 : Int32) + (1 : Int32))), .val (.ref w_5)] [(.int (1 : Int32))])) _
    refine XS.ifNo X289.here hx rfl (hb hby d2_28) rfl ((if0 _ _).trans (feq (by decide : ¬ ((1 : Int32) = (0 : Int32)))).1) ?_
    show Steps p.tables e below (T289.setTop (mkF m 31 #[.val (.ref w_2), .val (.ref w_3), .val (.ref w_4), .val (.int (4 : Int32)), .val (.int ((0 : Int32) + (1 : Int32))), .val (.ref w_5)] [])) _
    refine XS.aloadN X289.here hx rfl (hb hby d2_31) rfl rfl ?_
    show Steps p.tables e below (T289.setTop (mkF m 32 #[.val (.ref w_2), .val (.ref w_3), .val (.ref w_4), .val (.int (4 : Int32)), .val (.int ((0 : Int32) + (1 : Int32))), .val (.ref w_5)] [(.ref w_2)])) _
    refine XS.aload X289.here hx rfl (hb hby d2_32) rfl rfl ?_
    show Steps p.tables e below (T289.setTop (mkF m 34 #[.val (.ref w_2), .val (.ref w_3), .val (.ref w_4), .val (.int (4 : Int32)), .val (.int ((0 : Int32) + (1 : Int32))), .val (.ref w_5)] [(.ref w_5), (.ref w_2)])) _
    refine st290.trans ?_
    show Steps p.tables e below (T290.setTop (mkF m 37 #[.val (.ref w_2), .val (.ref w_3), .val (.ref w_4), .val (.int (4 : Int32)), .val (.int ((0 : Int32) + (1 : Int32))), .val (.ref w_5)] [(.int (1 : Int32))])) _
    refine XS.ifYes X290.here hx rfl (pc0 := 37) (pc' := 42) rfl (hb hby d2_37) rfl ((if0 _ _).trans (feq (by decide : ¬ ((1 : Int32) = (0 : Int32)))).2) (by decide) (by decide) ?_
    show Steps p.tables e below (T290.setTop (mkF m 42 #[.val (.ref w_2), .val (.ref w_3), .val (.ref w_4), .val (.int (4 : Int32)), .val (.int ((0 : Int32) + (1 : Int32))), .val (.ref w_5)] [])) _
    refine XS.iinc X290.here hx rfl (hb hby d2_42) rfl (l' := #[.val (.ref w_2), .val (.ref w_3), .val (.ref w_4), .val (.int (4 : Int32)), .val (.int (((0 : Int32) + (1 : Int32)) + (1 : Int32))), .val (.ref w_5)]) rfl ?_
    show Steps p.tables e below (T290.setTop (mkF m 45 #[.val (.ref w_2), .val (.ref w_3), .val (.ref w_4), .val (.int (4 : Int32)), .val (.int (((0 : Int32) + (1 : Int32)) + (1 : Int32))), .val (.ref w_5)] [])) _
    refine XS.goto X290.here hx rfl (pc0 := 45) (pc' := 10) rfl (hb hby d2_45) (by decide) (by decide) ?_
    show Steps p.tables e below (T290.setTop (mkF m 10 #[.val (.ref w_2), .val (.ref w_3), .val (.ref w_4), .val (.int (4 : Int32)), .val (.int (((0 : Int32) + (1 : Int32)) + (1 : Int32))), .val (.ref w_5)] [])) _
    refine XS.iload X290.here hx rfl (hb hby d2_10) rfl ?_
    show Steps p.tables e below (T290.setTop (mkF m 12 #[.val (.ref w_2), .val (.ref w_3), .val (.ref w_4), .val (.int (4 : Int32)), .val (.int (((0 : Int32) + (1 : Int32)) + (1 : Int32))), .val (.ref w_5)] [(.int (((0 : Int32) + (1 : Int32)) + (1 : Int32)))])) _
    refine XS.iloadN X290.here hx rfl (hb hby d2_12) rfl ?_
    show Steps p.tables e below (T290.setTop (mkF m 13 #[.val (.ref w_2), .val (.ref w_3), .val (.ref w_4), .val (.int (4 : Int32)), .val (.int (((0 : Int32) + (1 : Int32)) + (1 : Int32))), .val (.ref w_5)] [(.int (4 : Int32)), (.int (((0 : Int32) + (1 : Int32)) + (1 : Int32)))])) _
    refine XS.icmpNo X290.here hx rfl (hb hby d2_13) rfl (tlt (by decide : ((((0 : Int32) + (1 : Int32)) + (1 : Int32)) < (4 : Int32)))).2.1 ?_
    show Steps p.tables e below (T290.setTop (mkF m 16 #[.val (.ref w_2), .val (.ref w_3), .val (.ref w_4), .val (.int (4 : Int32)), .val (.int (((0 : Int32) + (1 : Int32)) + (1 : Int32))), .val (.ref w_5)] [])) _
    refine XS.aloadN X290.here hx rfl (hb hby d2_16) rfl rfl ?_
    show Steps p.tables e below (T290.setTop (mkF m 17 #[.val (.ref w_2), .val (.ref w_3), .val (.ref w_4), .val (.int (4 : Int32)), .val (.int (((0 : Int32) + (1 : Int32)) + (1 : Int32))), .val (.ref w_5)] [(.ref w_4)])) _
    refine XS.iload X290.here hx rfl (hb hby d2_17) rfl ?_
    show Steps p.tables e below (T290.setTop (mkF m 19 #[.val (.ref w_2), .val (.ref w_3), .val (.ref w_4), .val (.int (4 : Int32)), .val (.int (((0 : Int32) + (1 : Int32)) + (1 : Int32))), .val (.ref w_5)] [(.int (((0 : Int32) + (1 : Int32)) + (1 : Int32))), (.ref w_4)])) _
    refine X290.aaload hx (j := (((0 : Int32) + (1 : Int32)) + (1 : Int32))) (v := (.ref w_3)) (by rw [e290]; exact Ar291.1) (State.isArrayOf_alike hZ.alike Ar291.2.1) rfl Ar291.2.2 hin291 hat291 (g := (mkF m 19 #[.val (.ref w_2), .val (.ref w_3), .val (.ref w_4), .val (.int (4 : Int32)), .val (.int (((0 : Int32) + (1 : Int32)) + (1 : Int32))), .val (.ref w_5)] [(.int (((0 : Int32) + (1 : Int32)) + (1 : Int32))), (.ref w_4)])) rfl rfl (hb hby d2_19) _ ?_
    show Steps p.tables e below (T290.setTop (mkF m 20 #[.val (.ref w_2), .val (.ref w_3), .val (.ref w_4), .val (.int (4 : Int32)), .val (.int (((0 : Int32) + (1 : Int32)) + (1 : Int32))), .val (.ref w_5)] [(.ref w_3)])) _
    refine XS.astore X290.here hx rfl (hb hby d2_20) rfl rfl (l' := #[.val (.ref w_2), .val (.ref w_3), .val (.ref w_4), .val (.int (4 : Int32)), .val (.int (((0 : Int32) + (1 : Int32)) + (1 : Int32))), .val (.ref w_3)]) rfl ?_
    show Steps p.tables e below (T290.setTop (mkF m 22 #[.val (.ref w_2), .val (.ref w_3), .val (.ref w_4), .val (.int (4 : Int32)), .val (.int (((0 : Int32) + (1 : Int32)) + (1 : Int32))), .val (.ref w_3)] [])) _
    refine XS.aloadN X290.here hx rfl (hb hby d2_22) rfl rfl ?_
    show Steps p.tables e below (T290.setTop (mkF m 23 #[.val (.ref w_2), .val (.ref w_3), .val (.ref w_4), .val (.int (4 : Int32)), .val (.int (((0 : Int32) + (1 : Int32)) + (1 : Int32))), .val (.ref w_3)] [(.ref w_3)])) _
    refine XS.aload X290.here hx rfl (hb hby d2_23) rfl rfl ?_
    show Steps p.tables e below (T290.setTop (mkF m 25 #[.val (.ref w_2), .val (.ref w_3), .val (.ref w_4), .val (.int (4 : Int32)), .val (.int (((0 : Int32) + (1 : Int32)) + (1 : Int32))), .val (.ref w_3)] [(.ref w_3), (.ref w_3)])) _
    refine st292.trans ?_
    show Steps p.tables e below (T292.setTop (mkF m 28 #[.val (.ref w_2), .val (.ref w_3), .val (.ref w_4), .val (.int (4 : Int32)), .val (.int (((0 : Int32) + (1 : Int32)) + (1 : Int32))), .val (.ref w_3)] [(.int (1 : Int32))])) _
    refine XS.ifNo X292.here hx rfl (hb hby d2_28) rfl ((if0 _ _).trans (feq (by decide : ¬ ((1 : Int32) = (0 : Int32)))).1) ?_
    show Steps p.tables e below (T292.setTop (mkF m 31 #[.val (.ref w_2), .val (.ref w_3), .val (.ref w_4), .val (.int (4 : Int32)), .val (.int (((0 : Int32) + (1 : Int32)) + (1 : Int32))), .val (.ref w_3)] [])) _
    refine XS.aloadN X292.here hx rfl (hb hby d2_31) rfl rfl ?_
    show Steps p.tables e below (T292.setTop (mkF m 32 #[.val (.ref w_2), .val (.ref w_3), .val (.ref w_4), .val (.int (4 : Int32)), .val (.int (((0 : Int32) + (1 : Int32)) + (1 : Int32))), .val (.ref w_3)] [(.ref w_2)])) _
    refine XS.aload X292.here hx rfl (hb hby d2_32) rfl rfl ?_
    show Steps p.tables e below (T292.setTop (mkF m 34 #[.val (.ref w_2), .val (.ref w_3), .val (.ref w_4), .val (.int (4 : Int32)), .val (.int (((0 : Int32) + (1 : Int32)) + (1 : Int32))), .val (.ref w_3)] [(.ref w_3), (.ref w_2)])) _
    refine st293.trans ?_
    show Steps p.tables e below (T293.setTop (mkF m 37 #[.val (.ref w_2), .val (.ref w_3), .val (.ref w_4), .val (.int (4 : Int32)), .val (.int (((0 : Int32) + (1 : Int32)) + (1 : Int32))), .val (.ref w_3)] [(.int (1 : Int32))])) _
    refine XS.ifYes X293.here hx rfl (pc0 := 37) (pc' := 42) rfl (hb hby d2_37) rfl ((if0 _ _).trans (feq (by decide : ¬ ((1 : Int32) = (0 : Int32)))).2) (by decide) (by decide) ?_
    show Steps p.tables e below (T293.setTop (mkF m 42 #[.val (.ref w_2), .val (.ref w_3), .val (.ref w_4), .val (.int (4 : Int32)), .val (.int (((0 : Int32) + (1 : Int32)) + (1 : Int32))), .val (.ref w_3)] [])) _
    refine XS.iinc X293.here hx rfl (hb hby d2_42) rfl (l' := #[.val (.ref w_2), .val (.ref w_3), .val (.ref w_4), .val (.int (4 : Int32)), .val (.int ((((0 : Int32) + (1 : Int32)) + (1 : Int32)) + (1 : Int32))), .val (.ref w_3)]) rfl ?_
    show Steps p.tables e below (T293.setTop (mkF m 45 #[.val (.ref w_2), .val (.ref w_3), .val (.ref w_4), .val (.int (4 : Int32)), .val (.int ((((0 : Int32) + (1 : Int32)) + (1 : Int32)) + (1 : Int32))), .val (.ref w_3)] [])) _
    refine XS.goto X293.here hx rfl (pc0 := 45) (pc' := 10) rfl (hb hby d2_45) (by decide) (by decide) ?_
    show Steps p.tables e below (T293.setTop (mkF m 10 #[.val (.ref w_2), .val (.ref w_3), .val (.ref w_4), .val (.int (4 : Int32)), .val (.int ((((0 : Int32) + (1 : Int32)) + (1 : Int32)) + (1 : Int32))), .val (.ref w_3)] [])) _
    refine XS.iload X293.here hx rfl (hb hby d2_10) rfl ?_
    show Steps p.tables e below (T293.setTop (mkF m 12 #[.val (.ref w_2), .val (.ref w_3), .val (.ref w_4), .val (.int (4 : Int32)), .val (.int ((((0 : Int32) + (1 : Int32)) + (1 : Int32)) + (1 : Int32))), .val (.ref w_3)] [(.int ((((0 : Int32) + (1 : Int32)) + (1 : Int32)) + (1 : Int32)))])) _
    refine XS.iloadN X293.here hx rfl (hb hby d2_12) rfl ?_
    show Steps p.tables e below (T293.setTop (mkF m 13 #[.val (.ref w_2), .val (.ref w_3), .val (.ref w_4), .val (.int (4 : Int32)), .val (.int ((((0 : Int32) + (1 : Int32)) + (1 : Int32)) + (1 : Int32))), .val (.ref w_3)] [(.int (4 : Int32)), (.int ((((0 : Int32) + (1 : Int32)) + (1 : Int32)) + (1 : Int32)))])) _
    refine XS.icmpNo X293.here hx rfl (hb hby d2_13) rfl (tlt (by decide : (((((0 : Int32) + (1 : Int32)) + (1 : Int32)) + (1 : Int32)) < (4 : Int32)))).2.1 ?_
    show Steps p.tables e below (T293.setTop (mkF m 16 #[.val (.ref w_2), .val (.ref w_3), .val (.ref w_4), .val (.int (4 : Int32)), .val (.int ((((0 : Int32) + (1 : Int32)) + (1 : Int32)) + (1 : Int32))), .val (.ref w_3)] [])) _
    refine XS.aloadN X293.here hx rfl (hb hby d2_16) rfl rfl ?_
    show Steps p.tables e below (T293.setTop (mkF m 17 #[.val (.ref w_2), .val (.ref w_3), .val (.ref w_4), .val (.int (4 : Int32)), .val (.int ((((0 : Int32) + (1 : Int32)) + (1 : Int32)) + (1 : Int32))), .val (.ref w_3)] [(.ref w_4)])) _
    refine XS.iload X293.here hx rfl (hb hby d2_17) rfl ?_
    show Steps p.tables e below (T293.setTop (mkF m 19 #[.val (.ref w_2), .val (.ref w_3), .val (.ref w_4), .val (.int (4 : Int32)), .val (.int ((((0 : Int32) + (1 : Int32)) + (1 : Int32)) + (1 : Int32))), .val (.ref w_3)] [(.int ((((0 : Int32) + (1 : Int32)) + (1 : Int32)) + (1 : Int32))), (.ref w_4)])) _
    refine X293.aaload hx (j := ((((0 : Int32) + (1 : Int32)) + (1 : Int32)) + (1 : Int32))) (v := (.ref w_2)) (by rw [e293]; exact Ar294.1) (State.isArrayOf_alike hZ.alike Ar294.2.1) rfl Ar294.2.2 hin294 hat294 (g := (mkF m 19 #[.val (.ref w_2), .val (.ref w_3), .val (.ref w_4), .val (.int (4 : Int32)), .val (.int ((((0 : Int32) + (1 : Int32)) + (1 : Int32)) + (1 : Int32))), .val (.ref w_3)] [(.int ((((0 : Int32) + (1 : Int32)) + (1 : Int32)) + (1 : Int32))), (.ref w_4)])) rfl rfl (hb hby d2_19) _ ?_
    show Steps p.tables e below (T293.setTop (mkF m 20 #[.val (.ref w_2), .val (.ref w_3), .val (.ref w_4), .val (.int (4 : Int32)), .val (.int ((((0 : Int32) + (1 : Int32)) + (1 : Int32)) + (1 : Int32))), .val (.ref w_3)] [(.ref w_2)])) _
    refine XS.astore X293.here hx rfl (hb hby d2_20) rfl rfl (l' := #[.val (.ref w_2), .val (.ref w_3), .val (.ref w_4), .val (.int (4 : Int32)), .val (.int ((((0 : Int32) + (1 : Int32)) + (1 : Int32)) + (1 : Int32))), .val (.ref w_2)]) rfl ?_
    show Steps p.tables e below (T293.setTop (mkF m 22 #[.val (.ref w_2), .val (.ref w_3), .val (.ref w_4), .val (.int (4 : Int32)), .val (.int ((((0 : Int32) + (1 : Int32)) + (1 : Int32)) + (1 : Int32))), .val (.ref w_2)] [])) _
    refine XS.aloadN X293.here hx rfl (hb hby d2_22) rfl rfl ?_
    show Steps p.tables e below (T293.setTop (mkF m 23 #[.val (.ref w_2), .val (.ref w_3), .val (.ref w_4), .val (.int (4 : Int32)), .val (.int ((((0 : Int32) + (1 : Int32)) + (1 : Int32)) + (1 : Int32))), .val (.ref w_2)] [(.ref w_3)])) _
    refine XS.aload X293.here hx rfl (hb hby d2_23) rfl rfl ?_
    show Steps p.tables e below (T293.setTop (mkF m 25 #[.val (.ref w_2), .val (.ref w_3), .val (.ref w_4), .val (.int (4 : Int32)), .val (.int ((((0 : Int32) + (1 : Int32)) + (1 : Int32)) + (1 : Int32))), .val (.ref w_2)] [(.ref w_2), (.ref w_3)])) _
    refine st295.trans ?_
    show Steps p.tables e below (T295.setTop (mkF m 28 #[.val (.ref w_2), .val (.ref w_3), .val (.ref w_4), .val (.int (4 : Int32)), .val (.int ((((0 : Int32) + (1 : Int32)) + (1 : Int32)) + (1 : Int32))), .val (.ref w_2)] [(.int (1 : Int32))])) _
    refine XS.ifNo X295.here hx rfl (hb hby d2_28) rfl ((if0 _ _).trans (feq (by decide : ¬ ((1 : Int32) = (0 : Int32)))).1) ?_
    show Steps p.tables e below (T295.setTop (mkF m 31 #[.val (.ref w_2), .val (.ref w_3), .val (.ref w_4), .val (.int (4 : Int32)), .val (.int ((((0 : Int32) + (1 : Int32)) + (1 : Int32)) + (1 : Int32))), .val (.ref w_2)] [])) _
    refine XS.aloadN X295.here hx rfl (hb hby d2_31) rfl rfl ?_
    show Steps p.tables e below (T295.setTop (mkF m 32 #[.val (.ref w_2), .val (.ref w_3), .val (.ref w_4), .val (.int (4 : Int32)), .val (.int ((((0 : Int32) + (1 : Int32)) + (1 : Int32)) + (1 : Int32))), .val (.ref w_2)] [(.ref w_2)])) _
    refine XS.aload X295.here hx rfl (hb hby d2_32) rfl rfl ?_
    show Steps p.tables e below (T295.setTop (mkF m 34 #[.val (.ref w_2), .val (.ref w_3), .val (.ref w_4), .val (.int (4 : Int32)), .val (.int ((((0 : Int32) + (1 : Int32)) + (1 : Int32)) + (1 : Int32))), .val (.ref w_2)] [(.ref w_2), (.ref w_2)])) _
    refine st296.trans ?_
    show Steps p.tables e below (T296.setTop (mkF m 37 #[.val (.ref w_2), .val (.ref w_3), .val (.ref w_4), .val (.int (4 : Int32)), .val (.int ((((0 : Int32) + (1 : Int32)) + (1 : Int32)) + (1 : Int32))), .val (.ref w_2)] [(.int (1 : Int32))])) _
    refine XS.ifYes X296.here hx rfl (pc0 := 37) (pc' := 42) rfl (hb hby d2_37) rfl ((if0 _ _).trans (feq (by decide : ¬ ((1 : Int32) = (0 : Int32)))).2) (by decide) (by decide) ?_
    show Steps p.tables e below (T296.setTop (mkF m 42 #[.val (.ref w_2), .val (.ref w_3), .val (.ref w_4), .val (.int (4 : Int32)), .val (.int ((((0 : Int32) + (1 : Int32)) + (1 : Int32)) + (1 : Int32))), .val (.ref w_2)] [])) _
    refine XS.iinc X296.here hx rfl (hb hby d2_42) rfl (l' := #[.val (.ref w_2), .val (.ref w_3), .val (.ref w_4), .val (.int (4 : Int32)), .val (.int (((((0 : Int32) + (1 : Int32)) + (1 : Int32)) + (1 : Int32)) + (1 : Int32))), .val (.ref w_2)]) rfl ?_
    show Steps p.tables e below (T296.setTop (mkF m 45 #[.val (.ref w_2), .val (.ref w_3), .val (.ref w_4), .val (.int (4 : Int32)), .val (.int (((((0 : Int32) + (1 : Int32)) + (1 : Int32)) + (1 : Int32)) + (1 : Int32))), .val (.ref w_2)] [])) _
    refine XS.goto X296.here hx rfl (pc0 := 45) (pc' := 10) rfl (hb hby d2_45) (by decide) (by decide) ?_
    show Steps p.tables e below (T296.setTop (mkF m 10 #[.val (.ref w_2), .val (.ref w_3), .val (.ref w_4), .val (.int (4 : Int32)), .val (.int (((((0 : Int32) + (1 : Int32)) + (1 : Int32)) + (1 : Int32)) + (1 : Int32))), .val (.ref w_2)] [])) _
    refine XS.iload X296.here hx rfl (hb hby d2_10) rfl ?_
    show Steps p.tables e below (T296.setTop (mkF m 12 #[.val (.ref w_2), .val (.ref w_3), .val (.ref w_4), .val (.int (4 : Int32)), .val (.int (((((0 : Int32) + (1 : Int32)) + (1 : Int32)) + (1 : Int32)) + (1 : Int32))), .val (.ref w_2)] [(.int (((((0 : Int32) + (1 : Int32)) + (1 : Int32)) + (1 : Int32)) + (1 : Int32)))])) _
    refine XS.iloadN X296.here hx rfl (hb hby d2_12) rfl ?_
    show Steps p.tables e below (T296.setTop (mkF m 13 #[.val (.ref w_2), .val (.ref w_3), .val (.ref w_4), .val (.int (4 : Int32)), .val (.int (((((0 : Int32) + (1 : Int32)) + (1 : Int32)) + (1 : Int32)) + (1 : Int32))), .val (.ref w_2)] [(.int (4 : Int32)), (.int (((((0 : Int32) + (1 : Int32)) + (1 : Int32)) + (1 : Int32)) + (1 : Int32)))])) _
    refine XS.icmpYes X296.here hx rfl (pc0 := 13) (pc' := 48) rfl (hb hby d2_13) rfl (flt (by decide : ¬ ((((((0 : Int32) + (1 : Int32)) + (1 : Int32)) + (1 : Int32)) + (1 : Int32)) < (4 : Int32)))).2.1 (by decide) (by decide) ?_
    show Steps p.tables e below (T296.setTop (mkF m 48 #[.val (.ref w_2), .val (.ref w_3), .val (.ref w_4), .val (.int (4 : Int32)), .val (.int (((((0 : Int32) + (1 : Int32)) + (1 : Int32)) + (1 : Int32)) + (1 : Int32))), .val (.ref w_2)] [])) _
    refine XS.iconst X296.here hx rfl (hb hby d2_48) ?_
    show Steps p.tables e below (T296.setTop (mkF m 49 #[.val (.ref w_2), .val (.ref w_3), .val (.ref w_4), .val (.int (4 : Int32)), .val (.int (((((0 : Int32) + (1 : Int32)) + (1 : Int32)) + (1 : Int32)) + (1 : Int32))), .val (.ref w_2)] [(.int (1 : Int32))])) _
    exact retN X296 hx (t := .boolean) Bd.returns (by simp) (hb hby d2_49) hr
  · show Q2x15 Z w_1 w_2 w_3 w_4 w_5 k_4 h0 n0 _ T296.heap _
    rw [e296]
    exact ⟨by unfold sp2x15; rfl, N296, rfl⟩
theorem pn_2x16 : plainName "com/example/lucid_locks/lucidlocks/locks/LockMode" = true := by first | (simp [plainName, overriddenIn]; done) | decide +kernel
theorem ef_2x16 (m : MethodId) (w_2 : Addr) : entryFrame m #[(.ref w_2), (.ref w_2)] 6 = mkF m 0 #[.val (.ref w_2), .val (.ref w_2), .unset, .unset, .unset, .unset] [] := by first | (simp [entryFrame, mkF, argsToLocals, Value.category]; done) | rfl
def sp2x16  : Int32 := (1 : Int32)
def Q2x16 (Z : State) (w_1 : Addr) (w_2 : Addr) (w_3 : Addr) (w_4 : Addr) (w_5 : Addr) (k_4 : ClassId) (h0 : Heap) (n0 : Nat) (v : Option Value) (h : Heap) (L : List Loc) : Prop := v = some (.int (sp2x16)) ∧ Fr n0 L ∧ h = h0
set_option maxRecDepth 65536 in
set_option maxHeartbeats 40000000 in
theorem rm2x16 (l : Launch) (Z : State) (a0 : Array Value) (hw : ∀ d ∈ tables_1, d.before a0 Z = true) (ws : List Jvm.Cond) (w_1 : Addr) (w_2 : Addr) (w_3 : Addr) (w_4 : Addr) (w_5 : Addr) (k_4 : ClassId) (hS : StF Z w_1 w_2 w_3 w_4 w_5 k_4) (h0 : Heap) (n0 : Nat) (O0 : Old Z n0 h0) :
    MetFree l Y2 (head1 (Jvm.Cond.code Y2 prog_17_method_7_code 6 (some .boolean) :: ws) ({ frames := 1, cells := 0, slots := 0, locals := 13 } : Room)) (fun a U => a = #[(.ref w_2), (.ref w_2)] ∧ Z.Warmed39 U.vm ∧ U.heap = h0) (fun _ _ _ _ _ => True) (fun _ U o U' => ∃ v L, o = .returned v ∧ Q2x16 Z w_1 w_2 w_3 w_4 w_5 k_4 h0 n0 v U'.heap L ∧ FrameEnd U o U' L ({ frames := 1, cells := 0, slots := 0, locals := 13 } : Room).cells ({ frames := 1, cells := 0, slots := 0, locals := 13 } : Room).slots) := by
  refine MetFree.of_bodySF (plainFor_of_name pn_2x16) hisR ?_
  intro p e s m args below meth c s₁ Bd hml0 hP hK
  obtain ⟨rfl, hZ, hh⟩ := hP
  have hx := Bd.exec
  have hby := Bd.bytes
  have hml : c.maxLocals = 6 := hml0
  have hown : s.vm.findClass "com/example/lucid_locks/lucidlocks/locks/LockMode" = some m.cls := findClass_of_methodNamed Bd.named
  have hnm := (name_of_methodNamed Bd.named Bd.method).1
  have X0 : Stand p l e ({ frames := 1, cells := 0, slots := 0, locals := 13 } : Room) s m #[(.ref w_2), (.ref w_2)] below meth c s₁ [] 0 0 := Stand.of_body Bd
  have e0 : s₁.heap = h0 := by rw [← hh, Bd.state]; rfl
  have N0 := Fr.nil n0
  have hS0 := hS
  obtain ⟨S_1, E_1, S_2, E_2, S_3, E_3, S_4, S_5, E_5, F_1_ordinal, F_3_ordinal, F_2_ordinal, F_1_sharedWithItself, F_5_ordinal, F_5_sharedWithItself, F_3_sharedWithItself, F_2_sharedWithItself, V_4⟩ := hS
  have pre0 : ∀ t, Steps p.tables e below (s₁.setTop (mkF m 0 #[.val (.ref w_2), .val (.ref w_2), .unset, .unset, .unset, .unset] [])) t → Steps p.tables e below (s₁.setTop (entryFrame m #[(.ref w_2), (.ref w_2)] 6)) t := fun t k => castTop (ef_2x16 m w_2) k
  obtain ⟨T303, X303, e303, st303⟩ := getS2 X0 hx hZ hown (host := "") (Or.inl (hw _ (tk 16 rfl))) Via.refl e0 (S_4.ext O0.2) (g := (mkF m 0 #[.val (.ref w_2), .val (.ref w_2), .unset, .unset, .unset, .unset] [])) rfl (hb hby d2_0)
  obtain ⟨cl304, Ar304, qa304, Sa304, Ma304, Ha304, Ga304⟩ := id (V_4.ext O0.2)
  obtain ⟨cl305, Ar305, qa305, Sa305, Ma305, Ha305, Ga305⟩ := id (V_4.ext O0.2)
  have hin305 : ¬ ((0 : Int32) < 0 ∨ cl305.slots.size ≤ ((0 : Int32)).toNatClampNeg) := by  exact inb_of Sa305 ⟨by decide, by decide⟩
  have hat305 : cl305.slots[((0 : Int32)).toNatClampNeg]? = some (.ref w_1) := Has.at Ha305 hin305 (by rfl)
  obtain ⟨cq306, kq306, q306a, q306b, q306c⟩ := isOf hZ e303 (E_2.ext O0.2)
  obtain ⟨_, _, ⟨T306, L306, k306, n306⟩, -, X306, ⟨Lc306, hQ306, l306, y306, z306⟩, st306⟩ := X303.virtualBack hx (y := Y1) (z := Y1) hown (mvT hZ (hw _ (tk 18 rfl))) (mvT hZ (hw _ (tk 19 rfl))) (notFace_of_selects (args := #[]) (mvT hZ (hw _ (tk 21 rfl)))) (mvT hZ (hw _ (tk 21 rfl))) (mvT hZ (hw _ (tk 20 rfl))) (by decide) (backOf (W := 0) (rm3 l Z a0 hw [] w_1 w_2 w_3 w_4 w_5 k_4 hS0 w_2 w_1 (0 : Int32) h0 n0 O0 (F_2_sharedWithItself.ext O0.2)) hZ (hw _ (tk 22 rfl)) (hw _ (tk 5 rfl)) (by decide) (by decide)) q306a q306c (g := (mkF m 25 #[.val (.ref w_2), .val (.ref w_2), .val (.ref w_4), .val (.int (4 : Int32)), .val (.int (0 : Int32)), .val (.ref w_1)] [(.ref w_1), (.ref w_2)])) rfl (by rw [hml]; rfl) (Steps.refl _) (argsL := [(.ref w_1)]) (rest := []) (lenOf pd_1 rfl) rfl (by show 2 * 0 + _ ≤ _; exact Nat.le_of_eq rfl) (hb hby d2_25) (fun _ _ => ⟨rfl, e303, (by decide : 0 + 0 ≤ _), (by decide : 0 + 0 ≤ _)⟩)
  dsimp only [Pt.U, Pt.locs, Pt.cells, Pt.slots] at X306 l306 y306 z306 st306 hQ306
  subst l306 y306 z306
  obtain ⟨rv306, N306q, e306⟩ := hQ306
  rw [show sp3 w_2 w_1 (0 : Int32) = (1 : Int32) from by unfold sp3; rw [if_neg (Fld.ne F_2_ordinal F_1_ordinal (by decide))]] at rv306
  subst rv306
  have N306 := Fr.app N0 N306q
  obtain ⟨cq307, kq307, q307a, q307b, q307c⟩ := isOf hZ e306 (E_2.ext O0.2)
  obtain ⟨_, _, ⟨T307, L307, k307, n307⟩, -, X307, ⟨Lc307, hQ307, l307, y307, z307⟩, st307⟩ := X306.virtualBack hx (y := Y1) (z := Y1) hown (mvT hZ (hw _ (tk 18 rfl))) (mvT hZ (hw _ (tk 19 rfl))) (notFace_of_selects (args := #[]) (mvT hZ (hw _ (tk 21 rfl)))) (mvT hZ (hw _ (tk 21 rfl))) (mvT hZ (hw _ (tk 20 rfl))) (by decide) (backOf (W := 0) (rm3 l Z a0 hw [] w_1 w_2 w_3 w_4 w_5 k_4 hS0 w_2 w_1 (0 : Int32) h0 n0 O0 (F_2_sharedWithItself.ext O0.2)) hZ (hw _ (tk 22 rfl)) (hw _ (tk 5 rfl)) (by decide) (by decide)) q307a q307c (g := (mkF m 34 #[.val (.ref w_2), .val (.ref w_2), .val (.ref w_4), .val (.int (4 : Int32)), .val (.int (0 : Int32)), .val (.ref w_1)] [(.ref w_1), (.ref w_2)])) rfl (by rw [hml]; rfl) (Steps.refl _) (argsL := [(.ref w_1)]) (rest := []) (lenOf pd_1 rfl) rfl (by show 2 * 0 + _ ≤ _; exact Nat.le_of_eq rfl) (hb hby d2_34) (fun _ _ => ⟨rfl, e306, (by decide : 0 + 0 ≤ _), (by decide : 0 + 0 ≤ _)⟩)
  dsimp only [Pt.U, Pt.locs, Pt.cells, Pt.slots] at X307 l307 y307 z307 st307 hQ307
  subst l307 y307 z307
  obtain ⟨rv307, N307q, e307⟩ := hQ307
  rw [show sp3 w_2 w_1 (0 : Int32) = (1 : Int32) from by unfold sp3; rw [if_neg (Fld.ne F_2_ordinal F_1_ordinal (by decide))]] at rv307
  subst rv307
  have N307 := Fr.app N306 N307q
  obtain ⟨cl308, Ar308, qa308, Sa308, Ma308, Ha308, Ga308⟩ := id (V_4.ext O0.2)
  have hin308 : ¬ (((0 : Int32) + (1 : Int32)) < 0 ∨ cl308.slots.size ≤ (((0 : Int32) + (1 : Int32))).toNatClampNeg) := by  exact inb_of Sa308 ⟨by decide, by decide⟩
  have hat308 : cl308.slots[(((0 : Int32) + (1 : Int32))).toNatClampNeg]? = some (.ref w_5) := Has.at Ha308 hin308 (by rfl)
  obtain ⟨cq309, kq309, q309a, q309b, q309c⟩ := isOf hZ e307 (E_2.ext O0.2)
  obtain ⟨_, _, ⟨T309, L309, k309, n309⟩, -, X309, ⟨Lc309, hQ309, l309, y309, z309⟩, st309⟩ := X307.virtualBack hx (y := Y1) (z := Y1) hown (mvT hZ (hw _ (tk 18 rfl))) (mvT hZ (hw _ (tk 19 rfl))) (notFace_of_selects (args := #[]) (mvT hZ (hw _ (tk 21 rfl)))) (mvT hZ (hw _ (tk 21 rfl))) (mvT hZ (hw _ (tk 20 rfl))) (by decide) (backOf (W := 0) (rm3 l Z a0 hw [] w_1 w_2 w_3 w_4 w_5 k_4 hS0 w_2 w_5 (0 : Int32) h0 n0 O0 (F_2_sharedWithItself.ext O0.2)) hZ (hw _ (tk 22 rfl)) (hw _ (tk 5 rfl)) (by decide) (by decide)) q309a q309c (g := (mkF m 25 #[.val (.ref w_2), .val (.ref w_2), .val (.ref w_4), .val (.int (4 : Int32)), .val (.int ((0 : Int32) + (1 : Int32))), .val (.ref w_5)] [(.ref w_5), (.ref w_2)])) rfl (by rw [hml]; rfl) (Steps.refl _) (argsL := [(.ref w_5)]) (rest := []) (lenOf pd_1 rfl) rfl (by show 2 * 0 + _ ≤ _; exact Nat.le_of_eq rfl) (hb hby d2_25) (fun _ _ => ⟨rfl, e307, (by decide : 0 + 0 ≤ _), (by decide : 0 + 0 ≤ _)⟩)
  dsimp only [Pt.U, Pt.locs, Pt.cells, Pt.slots] at X309 l309 y309 z309 st309 hQ309
  subst l309 y309 z309
  obtain ⟨rv309, N309q, e309⟩ := hQ309
  rw [show sp3 w_2 w_5 (0 : Int32) = (1 : Int32) from by unfold sp3; rw [if_neg (Fld.ne F_2_ordinal F_5_ordinal (by decide))]] at rv309
  subst rv309
  have N309 := Fr.app N307 N309q
  obtain ⟨cq310, kq310, q310a, q310b, q310c⟩ := isOf hZ e309 (E_2.ext O0.2)
  obtain ⟨_, _, ⟨T310, L310, k310, n310⟩, -, X310, ⟨Lc310, hQ310, l310, y310, z310⟩, st310⟩ := X309.virtualBack hx (y := Y1) (z := Y1) hown (mvT hZ (hw _ (tk 18 rfl))) (mvT hZ (hw _ (tk 19 rfl))) (notFace_of_selects (args := #[]) (mvT hZ (hw _ (tk 21 rfl)))) (mvT hZ (hw _ (tk 21 rfl))) (mvT hZ (hw _ (tk 20 rfl))) (by decide) (backOf (W := 0) (rm3 l Z a0 hw [] w_1 w_2 w_3 w_4 w_5 k_4 hS0 w_2 w_5 (0 : Int32) h0 n0 O0 (F_2_sharedWithItself.ext O0.2)) hZ (hw _ (tk 22 rfl)) (hw _ (tk 5 rfl)) (by decide) (by decide)) q310a q310c (g := (mkF m 34 #[.val (.ref w_2), .val (.ref w_2), .val (.ref w_4), .val (.int (4 : Int32)), .val (.int ((0 : Int32) + (1 : Int32))), .val (.ref w_5)] [(.ref w_5), (.ref w_2)])) rfl (by rw [hml]; rfl) (Steps.refl _) (argsL := [(.ref w_5)]) (rest := []) (lenOf pd_1 rfl) rfl (by show 2 * 0 + _ ≤ _; exact Nat.le_of_eq rfl) (hb hby d2_34) (fun _ _ => ⟨rfl, e309, (by decide : 0 + 0 ≤ _), (by decide : 0 + 0 ≤ _)⟩)
  dsimp only [Pt.U, Pt.locs, Pt.cells, Pt.slots] at X310 l310 y310 z310 st310 hQ310
  subst l310 y310 z310
  obtain ⟨rv310, N310q, e310⟩ := hQ310
  rw [show sp3 w_2 w_5 (0 : Int32) = (1 : Int32) from by unfold sp3; rw [if_neg (Fld.ne F_2_ordinal F_5_ordinal (by decide))]] at rv310
  subst rv310
  have N310 := Fr.app N309 N310q
  obtain ⟨cl311, Ar311, qa311, Sa311, Ma311, Ha311, Ga311⟩ := id (V_4.ext O0.2)
  have hin311 : ¬ ((((0 : Int32) + (1 : Int32)) + (1 : Int32)) < 0 ∨ cl311.slots.size ≤ ((((0 : Int32) + (1 : Int32)) + (1 : Int32))).toNatClampNeg) := by  exact inb_of Sa311 ⟨by decide, by decide⟩
  have hat311 : cl311.slots[((((0 : Int32) + (1 : Int32)) + (1 : Int32))).toNatClampNeg]? = some (.ref w_3) := Has.at Ha311 hin311 (by rfl)
  obtain ⟨cq312, kq312, q312a, q312b, q312c⟩ := isOf hZ e310 (E_2.ext O0.2)
  obtain ⟨_, _, ⟨T312, L312, k312, n312⟩, -, X312, ⟨Lc312, hQ312, l312, y312, z312⟩, st312⟩ := X310.virtualBack hx (y := Y1) (z := Y1) hown (mvT hZ (hw _ (tk 18 rfl))) (mvT hZ (hw _ (tk 19 rfl))) (notFace_of_selects (args := #[]) (mvT hZ (hw _ (tk 21 rfl)))) (mvT hZ (hw _ (tk 21 rfl))) (mvT hZ (hw _ (tk 20 rfl))) (by decide) (backOf (W := 0) (rm3 l Z a0 hw [] w_1 w_2 w_3 w_4 w_5 k_4 hS0 w_2 w_3 (0 : Int32) h0 n0 O0 (F_2_sharedWithItself.ext O0.2)) hZ (hw _ (tk 22 rfl)) (hw _ (tk 5 rfl)) (by decide) (by decide)) q312a q312c (g := (mkF m 25 #[.val (.ref w_2), .val (.ref w_2), .val (.ref w_4), .val (.int (4 : Int32)), .val (.int (((0 : Int32) + (1 : Int32)) + (1 : Int32))), .val (.ref w_3)] [(.ref w_3), (.ref w_2)])) rfl (by rw [hml]; rfl) (Steps.refl _) (argsL := [(.ref w_3)]) (rest := []) (lenOf pd_1 rfl) rfl (by show 2 * 0 + _ ≤ _; exact Nat.le_of_eq rfl) (hb hby d2_25) (fun _ _ => ⟨rfl, e310, (by decide : 0 + 0 ≤ _), (by decide : 0 + 0 ≤ _)⟩)
  dsimp only [Pt.U, Pt.locs, Pt.cells, Pt.slots] at X312 l312 y312 z312 st312 hQ312
  subst l312 y312 z312
  obtain ⟨rv312, N312q, e312⟩ := hQ312
  rw [show sp3 w_2 w_3 (0 : Int32) = (1 : Int32) from by unfold sp3; rw [if_neg (Fld.ne F_2_ordinal F_3_ordinal (by decide))]] at rv312
  subst rv312
  have N312 := Fr.app N310 N312q
  obtain ⟨cq313, kq313, q313a, q313b, q313c⟩ := isOf hZ e312 (E_2.ext O0.2)
  obtain ⟨_, _, ⟨T313, L313, k313, n313⟩, -, X313, ⟨Lc313, hQ313, l313, y313, z313⟩, st313⟩ := X312.virtualBack hx (y := Y1) (z := Y1) hown (mvT hZ (hw _ (tk 18 rfl))) (mvT hZ (hw _ (tk 19 rfl))) (notFace_of_selects (args := #[]) (mvT hZ (hw _ (tk 21 rfl)))) (mvT hZ (hw _ (tk 21 rfl))) (mvT hZ (hw _ (tk 20 rfl))) (by decide) (backOf (W := 0) (rm3 l Z a0 hw [] w_1 w_2 w_3 w_4 w_5 k_4 hS0 w_2 w_3 (0 : Int32) h0 n0 O0 (F_2_sharedWithItself.ext O0.2)) hZ (hw _ (tk 22 rfl)) (hw _ (tk 5 rfl)) (by decide) (by decide)) q313a q313c (g := (mkF m 34 #[.val (.ref w_2), .val (.ref w_2), .val (.ref w_4), .val (.int (4 : Int32)), .val (.int (((0 : Int32) + (1 : Int32)) + (1 : Int32))), .val (.ref w_3)] [(.ref w_3), (.ref w_2)])) rfl (by rw [hml]; rfl) (Steps.refl _) (argsL := [(.ref w_3)]) (rest := []) (lenOf pd_1 rfl) rfl (by show 2 * 0 + _ ≤ _; exact Nat.le_of_eq rfl) (hb hby d2_34) (fun _ _ => ⟨rfl, e312, (by decide : 0 + 0 ≤ _), (by decide : 0 + 0 ≤ _)⟩)
  dsimp only [Pt.U, Pt.locs, Pt.cells, Pt.slots] at X313 l313 y313 z313 st313 hQ313
  subst l313 y313 z313
  obtain ⟨rv313, N313q, e313⟩ := hQ313
  rw [show sp3 w_2 w_3 (0 : Int32) = (1 : Int32) from by unfold sp3; rw [if_neg (Fld.ne F_2_ordinal F_3_ordinal (by decide))]] at rv313
  subst rv313
  have N313 := Fr.app N312 N313q
  obtain ⟨cl314, Ar314, qa314, Sa314, Ma314, Ha314, Ga314⟩ := id (V_4.ext O0.2)
  have hin314 : ¬ (((((0 : Int32) + (1 : Int32)) + (1 : Int32)) + (1 : Int32)) < 0 ∨ cl314.slots.size ≤ (((((0 : Int32) + (1 : Int32)) + (1 : Int32)) + (1 : Int32))).toNatClampNeg) := by  exact inb_of Sa314 ⟨by decide, by decide⟩
  have hat314 : cl314.slots[(((((0 : Int32) + (1 : Int32)) + (1 : Int32)) + (1 : Int32))).toNatClampNeg]? = some (.ref w_2) := Has.at Ha314 hin314 (by rfl)
  obtain ⟨cq315, kq315, q315a, q315b, q315c⟩ := isOf hZ e313 (E_2.ext O0.2)
  obtain ⟨_, _, ⟨T315, L315, k315, n315⟩, -, X315, ⟨Lc315, hQ315, l315, y315, z315⟩, st315⟩ := X313.virtualBack hx (y := Y1) (z := Y1) hown (mvT hZ (hw _ (tk 18 rfl))) (mvT hZ (hw _ (tk 19 rfl))) (notFace_of_selects (args := #[]) (mvT hZ (hw _ (tk 21 rfl)))) (mvT hZ (hw _ (tk 21 rfl))) (mvT hZ (hw _ (tk 20 rfl))) (by decide) (backOf (W := 0) (rm3 l Z a0 hw [] w_1 w_2 w_3 w_4 w_5 k_4 hS0 w_2 w_2 (0 : Int32) h0 n0 O0 (F_2_sharedWithItself.ext O0.2)) hZ (hw _ (tk 22 rfl)) (hw _ (tk 5 rfl)) (by decide) (by decide)) q315a q315c (g := (mkF m 25 #[.val (.ref w_2), .val (.ref w_2), .val (.ref w_4), .val (.int (4 : Int32)), .val (.int ((((0 : Int32) + (1 : Int32)) + (1 : Int32)) + (1 : Int32))), .val (.ref w_2)] [(.ref w_2), (.ref w_2)])) rfl (by rw [hml]; rfl) (Steps.refl _) (argsL := [(.ref w_2)]) (rest := []) (lenOf pd_1 rfl) rfl (by show 2 * 0 + _ ≤ _; exact Nat.le_of_eq rfl) (hb hby d2_25) (fun _ _ => ⟨rfl, e313, (by decide : 0 + 0 ≤ _), (by decide : 0 + 0 ≤ _)⟩)
  dsimp only [Pt.U, Pt.locs, Pt.cells, Pt.slots] at X315 l315 y315 z315 st315 hQ315
  subst l315 y315 z315
  obtain ⟨rv315, N315q, e315⟩ := hQ315
  rw [show sp3 w_2 w_2 (0 : Int32) = (1 : Int32) from by unfold sp3; rw [if_pos rfl, if_pos (by decide : ((0 : Int32) = (0 : Int32)))]] at rv315
  subst rv315
  have N315 := Fr.app N313 N315q
  obtain ⟨cq316, kq316, q316a, q316b, q316c⟩ := isOf hZ e315 (E_2.ext O0.2)
  obtain ⟨_, _, ⟨T316, L316, k316, n316⟩, -, X316, ⟨Lc316, hQ316, l316, y316, z316⟩, st316⟩ := X315.virtualBack hx (y := Y1) (z := Y1) hown (mvT hZ (hw _ (tk 18 rfl))) (mvT hZ (hw _ (tk 19 rfl))) (notFace_of_selects (args := #[]) (mvT hZ (hw _ (tk 21 rfl)))) (mvT hZ (hw _ (tk 21 rfl))) (mvT hZ (hw _ (tk 20 rfl))) (by decide) (backOf (W := 0) (rm3 l Z a0 hw [] w_1 w_2 w_3 w_4 w_5 k_4 hS0 w_2 w_2 (0 : Int32) h0 n0 O0 (F_2_sharedWithItself.ext O0.2)) hZ (hw _ (tk 22 rfl)) (hw _ (tk 5 rfl)) (by decide) (by decide)) q316a q316c (g := (mkF m 34 #[.val (.ref w_2), .val (.ref w_2), .val (.ref w_4), .val (.int (4 : Int32)), .val (.int ((((0 : Int32) + (1 : Int32)) + (1 : Int32)) + (1 : Int32))), .val (.ref w_2)] [(.ref w_2), (.ref w_2)])) rfl (by rw [hml]; rfl) (Steps.refl _) (argsL := [(.ref w_2)]) (rest := []) (lenOf pd_1 rfl) rfl (by show 2 * 0 + _ ≤ _; exact Nat.le_of_eq rfl) (hb hby d2_34) (fun _ _ => ⟨rfl, e315, (by decide : 0 + 0 ≤ _), (by decide : 0 + 0 ≤ _)⟩)
  dsimp only [Pt.U, Pt.locs, Pt.cells, Pt.slots] at X316 l316 y316 z316 st316 hQ316
  subst l316 y316 z316
  obtain ⟨rv316, N316q, e316⟩ := hQ316
  rw [show sp3 w_2 w_2 (0 : Int32) = (1 : Int32) from by unfold sp3; rw [if_pos rfl, if_pos (by decide : ((0 : Int32) = (0 : Int32)))]] at rv316
  subst rv316
  have N316 := Fr.app N315 N316q
  obtain ⟨fs, hr, hrun, hended, hW, hsame⟩ := X316.leave (v := some (.int (1 : Int32))) (fun h => by rw [Bd.returns] at h; cases h)
  refine ⟨_, _, pre0 _ ?_, hrun, hended, _, _, rfl, ?_, ⟨_, rfl⟩, hW, hsame.mono (by decide) (by decide)⟩
  · show Steps p.tables e below (s₁.setTop (mkF m 0 #[.val (.ref w_2), .val (.ref w_2), .unset, .unset, .unset, .unset] [])) _
    refine st303 _ ?_
    show Steps p.tables e below (T303.setTop (mkF m 3 #[.val (.ref w_2), .val (.ref w_2), .unset, .unset, .unset, .unset] [(.ref w_4)])) _
    refine XS.astoreN X303.here hx rfl (hb hby d2_3) rfl rfl (l' := #[.val (.ref w_2), .val (.ref w_2), .val (.ref w_4), .unset, .unset, .unset]) rfl ?_
    show Steps p.tables e below (T303.setTop (mkF m 4 #[.val (.ref w_2), .val (.ref w_2), .val (.ref w_4), .unset, .unset, .unset] [])) _
    refine XS.aloadN X303.here hx rfl (hb hby d2_4) rfl rfl ?_
    show Steps p.tables e below (T303.setTop (mkF m 5 #[.val (.ref w_2), .val (.ref w_2), .val (.ref w_4), .unset, .unset, .unset] [(.ref w_4)])) _
    refine X303.arraylength hx (by rw [e303]; exact Ar304.1) (State.isArrayOf_alike hZ.alike Ar304.2.1) (g := (mkF m 5 #[.val (.ref w_2), .val (.ref w_2), .val (.ref w_4), .unset, .unset, .unset] [(.ref w_4)])) rfl rfl (hb hby d2_5) _ ?_
    rw [len_of Sa304 Ma304]
    show Steps p.tables e below (T303.setTop (mkF m 6 #[.val (.ref w_2), .val (.ref w_2), .val (.ref w_4), .unset, .unset, .unset] [(.int (4 : Int32))])) _
    refine XS.istoreN X303.here hx rfl (hb hby d2_6) rfl (l' := #[.val (.ref w_2), .val (.ref w_2), .val (.ref w_4), .val (.int (4 : Int32)), .unset, .unset]) rfl ?_
    show Steps p.tables e below (T303.setTop (mkF m 7 #[.val (.ref w_2), .val (.ref w_2), .val (.ref w_4), .val (.int (4 : Int32)), .unset, .unset] [])) _
    refine XS.iconst X303.here hx rfl (hb hby d2_7) ?_
    show Steps p.tables e below (T303.setTop (mkF m 8 #[.val (.ref w_2), .val (.ref w_2), .val (.ref w_4), .val (.int (4 : Int32)), .unset, .unset] [(.int (0 : Int32))])) _
    refine XS.istore X303.here hx rfl (hb hby d2_8) rfl (l' := #[.val (.ref w_2), .val (.ref w_2), .val (.ref w_4), .val (.int (4 : Int32)), .val (.int (0 : Int32)), .unset]) rfl ?_
    show Steps p.tables e below (T303.setTop (mkF m 10 #[.val (.ref w_2), .val (.ref w_2), .val (.ref w_4), .val (.int (4 : Int32)), .val (.int (0 : Int32)), .unset] [])) _
    refine XS.iload X303.here hx rfl (hb hby d2_10) rfl ?_
    show Steps p.tables e below (T303.setTop (mkF m 12 #[.val (.ref w_2), .val (.ref w_2), .val (.ref w_4), .val (.int (4 : Int32)), .val (.int (0 : Int32)), .unset] [(.int (0 : Int32))])) _
    refine XS.iloadN X303.here hx rfl (hb hby d2_12) rfl ?_
    show Steps p.tables e below (T303.setTop (mkF m 13 #[.val (.ref w_2), .val (.ref w_2), .val (.ref w_4), .val (.int (4 : Int32)), .val (.int (0 : Int32)), .unset] [(.int (4 : Int32)), (.int (0 : Int32))])) _
    refine XS.icmpNo X303.here hx rfl (hb hby d2_13) rfl (tlt (by decide : ((0 : Int32) < (4 : Int32)))).2.1 ?_
    show Steps p.tables e below (T303.setTop (mkF m 16 #[.val (.ref w_2), .val (.ref w_2), .val (.ref w_4), .val (.int (4 : Int32)), .val (.int (0 : Int32)), .unset] [])) _
    refine XS.aloadN X303.here hx rfl (hb hby d2_16) rfl rfl ?_
    show Steps p.tables e below (T303.setTop (mkF m 17 #[.val (.ref w_2), .val (.ref w_2), .val (.ref w_4), .val (.int (4 : Int32)), .val (.int (0 : Int32)), .unset] [(.ref w_4)])) _
    refine XS.iload X303.here hx rfl (hb hby d2_17) rfl ?_
    show Steps p.tables e below (T303.setTop (mkF m 19 #[.val (.ref w_2), .val (.ref w_2), .val (.ref w_4), .val (.int (4 : Int32)), .val (.int (0 : Int32)), .unset] [(.int (0 : Int32)), (.ref w_4)])) _
    refine X303.aaload hx (j := (0 : Int32)) (v := (.ref w_1)) (by rw [e303]; exact Ar305.1) (State.isArrayOf_alike hZ.alike Ar305.2.1) rfl Ar305.2.2 hin305 hat305 (g := (mkF m 19 #[.val (.ref w_2), .val (.ref w_2), .val (.ref w_4), .val (.int (4 : Int32)), .val (.int (0 : Int32)), .unset] [(.int (0 : Int32)), (.ref w_4)])) rfl rfl (hb hby d2_19) _ ?_
    show Steps p.tables e below (T303.setTop (mkF m 20 #[.val (.ref w_2), .val (.ref w_2), .val (.ref w_4), .val (.int (4 : Int32)), .val (.int (0 : Int32)), .unset] [(.ref w_1)])) _
    refine XS.astore X303.here hx rfl (hb hby d2_20) rfl rfl (l' := #[.val (.ref w_2), .val (.ref w_2), .val (.ref w_4), .val (.int (4 : Int32)), .val (.int (0 : Int32)), .val (.ref w_1)]) rfl ?_
    show Steps p.tables e below (T303.setTop (mkF m 22 #[.val (.ref w_2), .val (.ref w_2), .val (.ref w_4), .val (.int (4 : Int32)), .val (.int (0 : Int32)), .val (.ref w_1)] [])) _
    refine XS.aloadN X303.here hx rfl (hb hby d2_22) rfl rfl ?_
    show Steps p.tables e below (T303.setTop (mkF m 23 #[.val (.ref w_2), .val (.ref w_2), .val (.ref w_4), .val (.int (4 : Int32)), .val (.int (0 : Int32)), .val (.ref w_1)] [(.ref w_2)])) _
    refine XS.aload X303.here hx rfl (hb hby d2_23) rfl rfl ?_
    show Steps p.tables e below (T303.setTop (mkF m 25 #[.val (.ref w_2), .val (.ref w_2), .val (.ref w_4), .val (.int (4 : Int32)), .val (.int (0 : Int32)), .val (.ref w_1)] [(.ref w_1), (.ref w_2)])) _
    refine st306.trans ?_
    show Steps p.tables e below (T306.setTop (mkF m 28 #[.val (.ref w_2), .val (.ref w_2), .val (.ref w_4), .val (.int (4 : Int32)), .val (.int (0 : Int32)), .val (.ref w_1)] [(.int (1 : Int32))])) _
    refine XS.ifNo X306.here hx rfl (hb hby d2_28) rfl ((if0 _ _).trans (feq (by decide : ¬ ((1 : Int32) = (0 : Int32)))).1) ?_
    show Steps p.tables e below (T306.setTop (mkF m 31 #[.val (.ref w_2), .val (.ref w_2), .val (.ref w_4), .val (.int (4 : Int32)), .val (.int (0 : Int32)), .val (.ref w_1)] [])) _
    refine XS.aloadN X306.here hx rfl (hb hby d2_31) rfl rfl ?_
    show Steps p.tables e below (T306.setTop (mkF m 32 #[.val (.ref w_2), .val (.ref w_2), .val (.ref w_4), .val (.int (4 : Int32)), .val (.int (0 : Int32)), .val (.ref w_1)] [(.ref w_2)])) _
    refine XS.aload X306.here hx rfl (hb hby d2_32) rfl rfl ?_
    show Steps p.tables e below (T306.setTop (mkF m 34 #[.val (.ref w_2), .val (.ref w_2), .val (.ref w_4), .val (.int (4 : Int32)), .val (.int (0 : Int32)), .val (.ref w_1)] [(.ref w_1), (.ref w_2)])) _
    refine st307.trans ?_
    show Steps p.tables e below (T307.setTop (mkF m 37 #[.val (.ref w_2), .val (.ref w_2), .val (.ref w_4), .val (.int (4 : Int32)), .val (.int (0 : Int32)), .val (.ref w_1)] [(.int (1 : Int32))])) _
    refine XS.ifYes X307.here hx rfl (pc0 := 37) (pc' := 42) rfl (hb hby d2_37) rfl ((if0 _ _).trans (feq (by decide : ¬ ((1 : Int32) = (0 : Int32)))).2) (by decide) (by decide) ?_
    show Steps p.tables e below (T307.setTop (mkF m 42 #[.val (.ref w_2), .val (.ref w_2), .val (.ref w_4), .val (.int (4 : Int32)), .val (.int (0 : Int32)), .val (.ref w_1)] [])) _
    refine XS.iinc X307.here hx rfl (hb hby d2_42) rfl (l' := #[.val (.ref w_2), .val (.ref w_2), .val (.ref w_4), .val (.int (4 : Int32)), .val (.int ((0 : Int32) + (1 : Int32))), .val (.ref w_1)]) rfl ?_
    show Steps p.tables e below (T307.setTop (mkF m 45 #[.val (.ref w_2), .val (.ref w_2), .val (.ref w_4), .val (.int (4 : Int32)), .val (.int ((0 : Int32) + (1 : Int32))), .val (.ref w_1)] [])) _
    refine XS.goto X307.here hx rfl (pc0 := 45) (pc' := 10) rfl (hb hby d2_45) (by decide) (by decide) ?_
    show Steps p.tables e below (T307.setTop (mkF m 10 #[.val (.ref w_2), .val (.ref w_2), .val (.ref w_4), .val (.int (4 : Int32)), .val (.int ((0 : Int32) + (1 : Int32))), .val (.ref w_1)] [])) _
    refine XS.iload X307.here hx rfl (hb hby d2_10) rfl ?_
    show Steps p.tables e below (T307.setTop (mkF m 12 #[.val (.ref w_2), .val (.ref w_2), .val (.ref w_4), .val (.int (4 : Int32)), .val (.int ((0 : Int32) + (1 : Int32))), .val (.ref w_1)] [(.int ((0 : Int32) + (1 : Int32)))])) _
    refine XS.iloadN X307.here hx rfl (hb hby d2_12) rfl ?_
    show Steps p.tables e below (T307.setTop (mkF m 13 #[.val (.ref w_2), .val (.ref w_2), .val (.ref w_4), .val (.int (4 : Int32)), .val (.int ((0 : Int32) + (1 : Int32))), .val (.ref w_1)] [(.int (4 : Int32)), (.int ((0 : Int32) + (1 : Int32)))])) _
    refine XS.icmpNo X307.here hx rfl (hb hby d2_13) rfl (tlt (by decide : (((0 : Int32) + (1 : Int32)) < (4 : Int32)))).2.1 ?_
    show Steps p.tables e below (T307.setTop (mkF m 16 #[.val (.ref w_2), .val (.ref w_2), .val (.ref w_4), .val (.int (4 : Int32)), .val (.int ((0 : Int32) + (1 : Int32))), .val (.ref w_1)] [])) _
    refine XS.aloadN X307.here hx rfl (hb hby d2_16) rfl rfl ?_
    show Steps p.tables e below (T307.setTop (mkF m 17 #[.val (.ref w_2), .val (.ref w_2), .val (.ref w_4), .val (.int (4 : Int32)), .val (.int ((0 : Int32) + (1 : Int32))), .val (.ref w_1)] [(.ref w_4)])) _
    refine XS.iload X307.here hx rfl (hb hby d2_17) rfl ?_
    show Steps p.tables e below (T307.setTop (mkF m 19 #[.val (.ref w_2), .val (.ref w_2), .val (.ref w_4), .val (.int (4 : Int32)), .val (.int ((0 : Int32) + (1 : Int32))), .val (.ref w_1)] [(.int ((0 : Int32) + (1 : Int32))), (.ref w_4)])) _
    refine X307.aaload hx (j := ((0 : Int32) + (1 : Int32))) (v := (.ref w_5)) (by rw [e307]; exact Ar308.1) (State.isArrayOf_alike hZ.alike Ar308.2.1) rfl Ar308.2.2 hin308 hat308 (g := (mkF m 19 #[.val (.ref w_2), .val (.ref w_2), .val (.ref w_4), .val (.int (4 : Int32)), .val (.int ((0 : Int32) + (1 : Int32))), .val (.ref w_1)] [(.int ((0 : Int32) + (1 : Int32))), (.ref w_4)])) rfl rfl (hb hby d2_19) _ ?_
    show Steps p.tables e below (T307.setTop (mkF m 20 #[.val (.ref w_2), .val (.ref w_2), .val (.ref w_4), .val (.int (4 : Int32)), .val (.int ((0 : Int32) + (1 : Int32))), .val (.ref w_1)] [(.ref w_5)])) _
    refine XS.astore X307.here hx rfl (hb hby d2_20) rfl rfl (l' := #[.val (.ref w_2), .val (.ref w_2), .val (.ref w_4), .val (.int (4 : Int32)), .val (.int ((0 : Int32) + (1 : Int32))), .val (.ref w_5)]) rfl ?_
    show Steps p.tables e below (T307.setTop (mkF m 22 #[.val (.ref w_2), .val (.ref w_2), .val (.ref w_4), .val (.int (4 : Int32)), .val (.int ((0 : Int32) + (1 : Int32))), .val (.ref w_5)] [])) _
    refine XS.aloadN X307.here hx rfl (hb hby d2_22) rfl rfl ?_
    show Steps p.tables e below (T307.setTop (mkF m 23 #[.val (.ref w_2), .val (.ref w_2), .val (.ref w_4), .val (.int (4 : Int32)), .val (.int ((0 : Int32) + (1 : Int32))), .val (.ref w_5)] [(.ref w_2)])) _
    refine XS.aload X307.here hx rfl (hb hby d2_23) rfl rfl ?_
    show Steps p.tables e below (T307.setTop (mkF m 25 #[.val (.ref w_2), .val (.ref w_2), .val (.ref w_4), .val (.int (4 : Int32)), .val (.int ((0 : Int32) + (1 : Int32))), .val (.ref w_5)] [(.ref w_5), (.ref w_2)])) _
    refine st309.trans ?_
    show Steps p.tables e below (T309.setTop (mkF m 28 #[.val (.ref w_2), .val (.ref w_2), .val (.ref w_4), .val (.int (4 : Int32)), .val (.int ((0 : Int32) + (1 : Int32))), .val (.ref w_5)] [(.int (1 : Int32))])) _
    refine XS.ifNo X309.here hx rfl (hb hby d2_28) rfl ((if0 _ _).trans (feq (by decide : ¬ ((1 : Int32) = (0 : Int32)))).1) ?_
    show Steps p.tables e below (T309.setTop (mkF m 31 #[.val (.ref w_2), .val (.ref w_2), .val (.ref w_4), .val (.int (4 : Int32)), .val (.int ((0 : Int32) + (1 : Int32))), .val (.ref w_5)] [])) _
    refine XS.aloadN X309.here hx rfl (hb hby d2_31) rfl rfl ?_
    show Steps p.tables e below (T309.setTop (mkF m 32 #[.val (.ref w_2), .val (.ref w_2), .val (.ref w_4), .val (.int (4 : Int32)), .val (.int ((0 : Int32) + (1 : Int32))), .val (.ref w_5)] [(.ref w_2)])) _
    refine XS.aload X309.here hx rfl (hb hby d2_32) rfl rfl ?_
    show Steps p.tables e below (T309.setTop (mkF m 34 #[.val (.ref w_2), .val (.ref w_2), .val (.ref w_4), .val (.int (4 : Int32)), .val (.int ((0 : Int32) + (1 : Int32))), .val (.ref w_5)] [(.ref w_5), (.ref w_2)])) _
    refine st310.trans ?_
    show Steps p.tables e below (T310.setTop (mkF m 37 #[.val (.ref w_2), .val (.ref w_2), .val (.ref w_4), .val (.int (4 : Int32)), .val (.int ((0 : Int32) + (1 : Int32))), .val (.ref w_5)] [(.int (1 : Int32))])) _
    refine XS.ifYes X310.here hx rfl (pc0 := 37) (pc' := 42) rfl (hb hby d2_37) rfl ((if0 _ _).trans (feq (by decide : ¬ ((1 : Int32) = (0 : Int32)))).2) (by decide) (by decide) ?_
    show Steps p.tables e below (T310.setTop (mkF m 42 #[.val (.ref w_2), .val (.ref w_2), .val (.ref w_4), .val (.int (4 : Int32)), .val (.int ((0 : Int32) + (1 : Int32))), .val (.ref w_5)] [])) _
    refine XS.iinc X310.here hx rfl (hb hby d2_42) rfl (l' := #[.val (.ref w_2), .val (.ref w_2), .val (.ref w_4), .val (.int (4 : Int32)), .val (.int (((0 : Int32) + (1 : Int32)) + (1 : Int32))), .val (.ref w_5)]) rfl ?_
    show Steps p.tables e below (T310.setTop (mkF m 45 #[.val (.ref w_2), .val (.ref w_2), .val (.ref w_4), .val (.int (4 : Int32)), .val (.int (((0 : Int32) + (1 : Int32)) + (1 : Int32))), .val (.ref w_5)] [])) _
    refine XS.goto X310.here hx rfl (pc0 := 45) (pc' := 10) rfl (hb hby d2_45) (by decide) (by decide) ?_
    show Steps p.tables e below (T310.setTop (mkF m 10 #[.val (.ref w_2), .val (.ref w_2), .val (.ref w_4), .val (.int (4 : Int32)), .val (.int (((0 : Int32) + (1 : Int32)) + (1 : Int32))), .val (.ref w_5)] [])) _
    refine XS.iload X310.here hx rfl (hb hby d2_10) rfl ?_
    show Steps p.tables e below (T310.setTop (mkF m 12 #[.val (.ref w_2), .val (.ref w_2), .val (.ref w_4), .val (.int (4 : Int32)), .val (.int (((0 : Int32) + (1 : Int32)) + (1 : Int32))), .val (.ref w_5)] [(.int (((0 : Int32) + (1 : Int32)) + (1 : Int32)))])) _
    refine XS.iloadN X310.here hx rfl (hb hby d2_12) rfl ?_
    show Steps p.tables e below (T310.setTop (mkF m 13 #[.val (.ref w_2), .val (.ref w_2), .val (.ref w_4), .val (.int (4 : Int32)), .val (.int (((0 : Int32) + (1 : Int32)) + (1 : Int32))), .val (.ref w_5)] [(.int (4 : Int32)), (.int (((0 : Int32) + (1 : Int32)) + (1 : Int32)))])) _
    refine XS.icmpNo X310.here hx rfl (hb hby d2_13) rfl (tlt (by decide : ((((0 : Int32) + (1 : Int32)) + (1 : Int32)) < (4 : Int32)))).2.1 ?_
    show Steps p.tables e below (T310.setTop (mkF m 16 #[.val (.ref w_2), .val (.ref w_2), .val (.ref w_4), .val (.int (4 : Int32)), .val (.int (((0 : Int32) + (1 : Int32)) + (1 : Int32))), .val (.ref w_5)] [])) _
    refine XS.aloadN X310.here hx rfl (hb hby d2_16) rfl rfl ?_
    show Steps p.tables e below (T310.setTop (mkF m 17 #[.val (.ref w_2), .val (.ref w_2), .val (.ref w_4), .val (.int (4 : Int32)), .val (.int (((0 : Int32) + (1 : Int32)) + (1 : Int32))), .val (.ref w_5)] [(.ref w_4)])) _
    refine XS.iload X310.here hx rfl (hb hby d2_17) rfl ?_
    show Steps p.tables e below (T310.setTop (mkF m 19 #[.val (.ref w_2), .val (.ref w_2), .val (.ref w_4), .val (.int (4 : Int32)), .val (.int (((0 : Int32) + (1 : Int32)) + (1 : Int32))), .val (.ref w_5)] [(.int (((0 : Int32) + (1 : Int32)) + (1 : Int32))), (.ref w_4)])) _
    refine X310.aaload hx (j := (((0 : Int32) + (1 : Int32)) + (1 : Int32))) (v := (.ref w_3)) (by rw [e310]; exact Ar311.1) (State.isArrayOf_alike hZ.alike Ar311.2.1) rfl Ar311.2.2 hin311 hat311 (g := (mkF m 19 #[.val (.ref w_2), .val (.ref w_2), .val (.ref w_4), .val (.int (4 : Int32)), .val (.int (((0 : Int32) + (1 : Int32)) + (1 : Int32))), .val (.ref w_5)] [(.int (((0 : Int32) + (1 : Int32)) + (1 : Int32))), (.ref w_4)])) rfl rfl (hb hby d2_19) _ ?_
    show Steps p.tables e below (T310.setTop (mkF m 20 #[.val (.ref w_2), .val (.ref w_2), .val (.ref w_4), .val (.int (4 : Int32)), .val (.int (((0 : Int32) + (1 : Int32)) + (1 : Int32))), .val (.ref w_5)] [(.ref w_3)])) _
    refine XS.astore X310.here hx rfl (hb hby d2_20) rfl rfl (l' := #[.val (.ref w_2), .val (.ref w_2), .val (.ref w_4), .val (.int (4 : Int32)), .val (.int (((0 : Int32) + (1 : Int32)) + (1 : Int32))), .val (.ref w_3)]) rfl ?_
    show Steps p.tables e below (T310.setTop (mkF m 22 #[.val (.ref w_2), .val (.ref w_2), .val (.ref w_4), .val (.int (4 : Int32)), .val (.int (((0 : Int32) + (1 : Int32)) + (1 : Int32))), .val (.ref w_3)] [])) _
    refine XS.aloadN X310.here hx rfl (hb hby d2_22) rfl rfl ?_
    show Steps p.tables e below (T310.setTop (mkF m 23 #[.val (.ref w_2), .val (.ref w_2), .val (.ref w_4), .val (.int (4 : Int32)), .val (.int (((0 : Int32) + (1 : Int32)) + (1 : Int32))), .val (.ref w_3)] [(.ref w_2)])) _
    refine XS.aload X310.here hx rfl (hb hby d2_23) rfl rfl ?_
    show Steps p.tables e below (T310.setTop (mkF m 25 #[.val (.ref w_2), .val (.ref w_2), .val (.ref w_4), .val (.int (4 : Int32)), .val (.int (((0 : Int32) + (1 : Int32)) + (1 : Int32))), .val (.ref w_3)] [(.ref w_3), (.ref w_2)])) _
    refine st312.trans ?_
    show Steps p.tables e below (T312.setTop (mkF m 28 #[.val (.ref w_2), .val (.ref w_2), .val (.ref w_4), .val (.int (4 : Int32)), .val (.int (((0 : Int32) + (1 : Int32)) + (1 : Int32))), .val (.ref w_3)] [(.int (1 : Int32))])) _
    refine XS.ifNo X312.here hx rfl (hb hby d2_28) rfl ((if0 _ _).trans (feq (by decide : ¬ ((1 : Int32) = (0 : Int32)))).1) ?_
    show Steps p.tables e below (T312.setTop (mkF m 31 #[.val (.ref w_2), .val (.ref w_2), .val (.ref w_4), .val (.int (4 : Int32)), .val (.int (((0 : Int32) + (1 : Int32)) + (1 : Int32))), .val (.ref w_3)] [])) _
    refine XS.aloadN X312.here hx rfl (hb hby d2_31) rfl rfl ?_
    show Steps p.tables e below (T312.setTop (mkF m 32 #[.val (.ref w_2), .val (.ref w_2), .val (.ref w_4), .val (.int (4 : Int32)), .val (.int (((0 : Int32) + (1 : Int32)) + (1 : Int32))), .val (.ref w_3)] [(.ref w_2)])) _
    refine XS.aload X312.here hx rfl (hb hby d2_32) rfl rfl ?_
    show Steps p.tables e below (T312.setTop (mkF m 34 #[.val (.ref w_2), .val (.ref w_2), .val (.ref w_4), .val (.int (4 : Int32)), .val (.int (((0 : Int32) + (1 : Int32)) + (1 : Int32))), .val (.ref w_3)] [(.ref w_3), (.ref w_2)])) _
    refine st313.trans ?_
    show Steps p.tables e below (T313.setTop (mkF m 37 #[.val (.ref w_2), .val (.ref w_2), .val (.ref w_4), .val (.int (4 : Int32)), .val (.int (((0 : Int32) + (1 : Int32)) + (1 : Int32))), .val (.ref w_3)] [(.int (1 : Int32))])) _
    refine XS.ifYes X313.here hx rfl (pc0 := 37) (pc' := 42) rfl (hb hby d2_37) rfl ((if0 _ _).trans (feq (by decide : ¬ ((1 : Int32) = (0 : Int32)))).2) (by decide) (by decide) ?_
    show Steps p.tables e below (T313.setTop (mkF m 42 #[.val (.ref w_2), .val (.ref w_2), .val (.ref w_4), .val (.int (4 : Int32)), .val (.int (((0 : Int32) + (1 : Int32)) + (1 : Int32))), .val (.ref w_3)] [])) _
    refine XS.iinc X313.here hx rfl (hb hby d2_42) rfl (l' := #[.val (.ref w_2), .val (.ref w_2), .val (.ref w_4), .val (.int (4 : Int32)), .val (.int ((((0 : Int32) + (1 : Int32)) + (1 : Int32)) + (1 : Int32))), .val (.ref w_3)]) rfl ?_
    show Steps p.tables e below (T313.setTop (mkF m 45 #[.val (.ref w_2), .val (.ref w_2), .val (.ref w_4), .val (.int (4 : Int32)), .val (.int ((((0 : Int32) + (1 : Int32)) + (1 : Int32)) + (1 : Int32))), .val (.ref w_3)] [])) _
    refine XS.goto X313.here hx rfl (pc0 := 45) (pc' := 10) rfl (hb hby d2_45) (by decide) (by decide) ?_
    show Steps p.tables e below (T313.setTop (mkF m 10 #[.val (.ref w_2), .val (.ref w_2), .val (.ref w_4), .val (.int (4 : Int32)), .val (.int ((((0 : Int32) + (1 : Int32)) + (1 : Int32)) + (1 : Int32))), .val (.ref w_3)] [])) _
    refine XS.iload X313.here hx rfl (hb hby d2_10) rfl ?_
    show Steps p.tables e below (T313.setTop (mkF m 12 #[.val (.ref w_2), .val (.ref w_2), .val (.ref w_4), .val (.int (4 : Int32)), .val (.int ((((0 : Int32) + (1 : Int32)) + (1 : Int32)) + (1 : Int32))), .val (.ref w_3)] [(.int ((((0 : Int32) + (1 : Int32)) + (1 : Int32)) + (1 : Int32)))])) _
    refine XS.iloadN X313.here hx rfl (hb hby d2_12) rfl ?_
    show Steps p.tables e below (T313.setTop (mkF m 13 #[.val (.ref w_2), .val (.ref w_2), .val (.ref w_4), .val (.int (4 : Int32)), .val (.int ((((0 : Int32) + (1 : Int32)) + (1 : Int32)) + (1 : Int32))), .val (.ref w_3)] [(.int (4 : Int32)), (.int ((((0 : Int32) + (1 : Int32)) + (1 : Int32)) + (1 : Int32)))])) _
    refine XS.icmpNo X313.here hx rfl (hb hby d2_13) rfl (tlt (by decide : (((((0 : Int32) + (1 : Int32)) + (1 : Int32)) + (1 : Int32)) < (4 : Int32)))).2.1 ?_
    show Steps p.tables e below (T313.setTop (mkF m 16 #[.val (.ref w_2), .val (.ref w_2), .val (.ref w_4), .val (.int (4 : Int32)), .val (.int ((((0 : Int32) + (1 : Int32)) + (1 : Int32)) + (1 : Int32))), .val (.ref w_3)] [])) _
    refine XS.aloadN X313.here hx rfl (hb hby d2_16) rfl rfl ?_
    show Steps p.tables e below (T313.setTop (mkF m 17 #[.val (.ref w_2), .val (.ref w_2), .val (.ref w_4), .val (.int (4 : Int32)), .val (.int ((((0 : Int32) + (1 : Int32)) + (1 : Int32)) + (1 : Int32))), .val (.ref w_3)] [(.ref w_4)])) _
    refine XS.iload X313.here hx rfl (hb hby d2_17) rfl ?_
    show Steps p.tables e below (T313.setTop (mkF m 19 #[.val (.ref w_2), .val (.ref w_2), .val (.ref w_4), .val (.int (4 : Int32)), .val (.int ((((0 : Int32) + (1 : Int32)) + (1 : Int32)) + (1 : Int32))), .val (.ref w_3)] [(.int ((((0 : Int32) + (1 : Int32)) + (1 : Int32)) + (1 : Int32))), (.ref w_4)])) _
    refine X313.aaload hx (j := ((((0 : Int32) + (1 : Int32)) + (1 : Int32)) + (1 : Int32))) (v := (.ref w_2)) (by rw [e313]; exact Ar314.1) (State.isArrayOf_alike hZ.alike Ar314.2.1) rfl Ar314.2.2 hin314 hat314 (g := (mkF m 19 #[.val (.ref w_2), .val (.ref w_2), .val (.ref w_4), .val (.int (4 : Int32)), .val (.int ((((0 : Int32) + (1 : Int32)) + (1 : Int32)) + (1 : Int32))), .val (.ref w_3)] [(.int ((((0 : Int32) + (1 : Int32)) + (1 : Int32)) + (1 : Int32))), (.ref w_4)])) rfl rfl (hb hby d2_19) _ ?_
    show Steps p.tables e below (T313.setTop (mkF m 20 #[.val (.ref w_2), .val (.ref w_2), .val (.ref w_4), .val (.int (4 : Int32)), .val (.int ((((0 : Int32) + (1 : Int32)) + (1 : Int32)) + (1 : Int32))), .val (.ref w_3)] [(.ref w_2)])) _
    refine XS.astore X313.here hx rfl (hb hby d2_20) rfl rfl (l' := #[.val (.ref w_2), .val (.ref w_2), .val (.ref w_4), .val (.int (4 : Int32)), .val (.int ((((0 : Int32) + (1 : Int32)) + (1 : Int32)) + (1 : Int32))), .val (.ref w_2)]) rfl ?_
    show Steps p.tables e below (T313.setTop (mkF m 22 #[.val (.ref w_2), .val (.ref w_2), .val (.ref w_4), .val (.int (4 : Int32)), .val (.int ((((0 : Int32) + (1 : Int32)) + (1 : Int32)) + (1 : Int32))), .val (.ref w_2)] [])) _
    refine XS.aloadN X313.here hx rfl (hb hby d2_22) rfl rfl ?_
    show Steps p.tables e below (T313.setTop (mkF m 23 #[.val (.ref w_2), .val (.ref w_2), .val (.ref w_4), .val (.int (4 : Int32)), .val (.int ((((0 : Int32) + (1 : Int32)) + (1 : Int32)) + (1 : Int32))), .val (.ref w_2)] [(.ref w_2)])) _
    refine XS.aload X313.here hx rfl (hb hby d2_23) rfl rfl ?_
    show Steps p.tables e below (T313.setTop (mkF m 25 #[.val (.ref w_2), .val (.ref w_2), .val (.ref w_4), .val (.int (4 : Int32)), .val (.int ((((0 : Int32) + (1 : Int32)) + (1 : Int32)) + (1 : Int32))), .val (.ref w_2)] [(.ref w_2), (.ref w_2)])) _
    refine st315.trans ?_
    show Steps p.tables e below (T315.setTop (mkF m 28 #[.val (.ref w_2), .val (.ref w_2), .val (.ref w_4), .val (.int (4 : Int32)), .val (.int ((((0 : Int32) + (1 : Int32)) + (1 : Int32)) + (1 : Int32))), .val (.ref w_2)] [(.int (1 : Int32))])) _
    refine XS.ifNo X315.here hx rfl (hb hby d2_28) rfl ((if0 _ _).trans (feq (by decide : ¬ ((1 : Int32) = (0 : Int32)))).1) ?_
    show Steps p.tables e below (T315.setTop (mkF m 31 #[.val (.ref w_2), .val (.ref w_2), .val (.ref w_4), .val (.int (4 : Int32)), .val (.int ((((0 : Int32) + (1 : Int32)) + (1 : Int32)) + (1 : Int32))), .val (.ref w_2)] [])) _
    refine XS.aloadN X315.here hx rfl (hb hby d2_31) rfl rfl ?_
    show Steps p.tables e below (T315.setTop (mkF m 32 #[.val (.ref w_2), .val (.ref w_2), .val (.ref w_4), .val (.int (4 : Int32)), .val (.int ((((0 : Int32) + (1 : Int32)) + (1 : Int32)) + (1 : Int32))), .val (.ref w_2)] [(.ref w_2)])) _
    refine XS.aload X315.here hx rfl (hb hby d2_32) rfl rfl ?_
    show Steps p.tables e below (T315.setTop (mkF m 34 #[.val (.ref w_2), .val (.ref w_2), .val (.ref w_4), .val (.int (4 : Int32)), .val (.int ((((0 : Int32) + (1 : Int32)) + (1 : Int32)) + (1 : Int32))), .val (.ref w_2)] [(.ref w_2), (.ref w_2)])) _
    refine st316.trans ?_
    show Steps p.tables e below (T316.setTop (mkF m 37 #[.val (.ref w_2), .val (.ref w_2), .val (.ref w_4), .val (.int (4 : Int32)), .val (.int ((((0 : Int32) + (1 : Int32)) + (1 : Int32)) + (1 : Int32))), .val (.ref w_2)] [(.int (1 : Int32))])) _
    refine XS.ifYes X316.here hx rfl (pc0 := 37) (pc' := 42) rfl (hb hby d2_37) rfl ((if0 _ _).trans (feq (by decide : ¬ ((1 : Int32) = (0 : Int32)))).2) (by decide) (by decide) ?_
    show Steps p.tables e below (T316.setTop (mkF m 42 #[.val (.ref w_2), .val (.ref w_2), .val (.ref w_4), .val (.int (4 : Int32)), .val (.int ((((0 : Int32) + (1 : Int32)) + (1 : Int32)) + (1 : Int32))), .val (.ref w_2)] [])) _
    refine XS.iinc X316.here hx rfl (hb hby d2_42) rfl (l' := #[.val (.ref w_2), .val (.ref w_2), .val (.ref w_4), .val (.int (4 : Int32)), .val (.int (((((0 : Int32) + (1 : Int32)) + (1 : Int32)) + (1 : Int32)) + (1 : Int32))), .val (.ref w_2)]) rfl ?_
    show Steps p.tables e below (T316.setTop (mkF m 45 #[.val (.ref w_2), .val (.ref w_2), .val (.ref w_4), .val (.int (4 : Int32)), .val (.int (((((0 : Int32) + (1 : Int32)) + (1 : Int32)) + (1 : Int32)) + (1 : Int32))), .val (.ref w_2)] [])) _
    refine XS.goto X316.here hx rfl (pc0 := 45) (pc' := 10) rfl (hb hby d2_45) (by decide) (by decide) ?_
    show Steps p.tables e below (T316.setTop (mkF m 10 #[.val (.ref w_2), .val (.ref w_2), .val (.ref w_4), .val (.int (4 : Int32)), .val (.int (((((0 : Int32) + (1 : Int32)) + (1 : Int32)) + (1 : Int32)) + (1 : Int32))), .val (.ref w_2)] [])) _
    refine XS.iload X316.here hx rfl (hb hby d2_10) rfl ?_
    show Steps p.tables e below (T316.setTop (mkF m 12 #[.val (.ref w_2), .val (.ref w_2), .val (.ref w_4), .val (.int (4 : Int32)), .val (.int (((((0 : Int32) + (1 : Int32)) + (1 : Int32)) + (1 : Int32)) + (1 : Int32))), .val (.ref w_2)] [(.int (((((0 : Int32) + (1 : Int32)) + (1 : Int32)) + (1 : Int32)) + (1 : Int32)))])) _
    refine XS.iloadN X316.here hx rfl (hb hby d2_12) rfl ?_
    show Steps p.tables e below (T316.setTop (mkF m 13 #[.val (.ref w_2), .val (.ref w_2), .val (.ref w_4), .val (.int (4 : Int32)), .val (.int (((((0 : Int32) + (1 : Int32)) + (1 : Int32)) + (1 : Int32)) + (1 : Int32))), .val (.ref w_2)] [(.int (4 : Int32)), (.int (((((0 : Int32) + (1 : Int32)) + (1 : Int32)) + (1 : Int32)) + (1 : Int32)))])) _
    refine XS.icmpYes X316.here hx rfl (pc0 := 13) (pc' := 48) rfl (hb hby d2_13) rfl (flt (by decide : ¬ ((((((0 : Int32) + (1 : Int32)) + (1 : Int32)) + (1 : Int32)) + (1 : Int32)) < (4 : Int32)))).2.1 (by decide) (by decide) ?_
    show Steps p.tables e below (T316.setTop (mkF m 48 #[.val (.ref w_2), .val (.ref w_2), .val (.ref w_4), .val (.int (4 : Int32)), .val (.int (((((0 : Int32) + (1 : Int32)) + (1 : Int32)) + (1 : Int32)) + (1 : Int32))), .val (.ref w_2)] [])) _
    refine XS.iconst X316.here hx rfl (hb hby d2_48) ?_
    show Steps p.tables e below (T316.setTop (mkF m 49 #[.val (.ref w_2), .val (.ref w_2), .val (.ref w_4), .val (.int (4 : Int32)), .val (.int (((((0 : Int32) + (1 : Int32)) + (1 : Int32)) + (1 : Int32)) + (1 : Int32))), .val (.ref w_2)] [(.int (1 : Int32))])) _
    exact retN X316 hx (t := .boolean) Bd.returns (by simp) (hb hby d2_49) hr
  · show Q2x16 Z w_1 w_2 w_3 w_4 w_5 k_4 h0 n0 _ T316.heap _
    rw [e316]
    exact ⟨by unfold sp2x16; rfl, N316, rfl⟩
theorem pn_0 : plainName "com/example/lucid_locks/lucidlocks/locks/LockModeCoversPinLaw" = true := by first | (simp [plainName, overriddenIn]; done) | decide +kernel
theorem ef_0 (m : MethodId) (p0 : Int32) (p1 : Int32) : entryFrame m #[(.int p0), (.int p1)] maxLocals = mkF m 0 #[.val (.int p0), .val (.int p1), .unset, .unset, .unset, .unset] [] := by first | (simp [entryFrame, mkF, argsToLocals, Value.category, maxLocals]; done) | rfl
def sp0 (p0 : Int32) (p1 : Int32) : Int32 := (if (p0 &&& (3 : Int32)) = (0 : Int32) then (if (p1 &&& (3 : Int32)) = (0 : Int32) then (1 : Int32) else (if (p1 &&& (3 : Int32)) = (1 : Int32) then (1 : Int32) else (if (p1 &&& (3 : Int32)) = (2 : Int32) then (1 : Int32) else (1 : Int32)))) else (if (p0 &&& (3 : Int32)) = (1 : Int32) then (if (p1 &&& (3 : Int32)) = (0 : Int32) then (1 : Int32) else (if (p1 &&& (3 : Int32)) = (1 : Int32) then (1 : Int32) else (if (p1 &&& (3 : Int32)) = (2 : Int32) then (1 : Int32) else (1 : Int32)))) else (if (p0 &&& (3 : Int32)) = (2 : Int32) then (if (p1 &&& (3 : Int32)) = (0 : Int32) then (1 : Int32) else (if (p1 &&& (3 : Int32)) = (1 : Int32) then (1 : Int32) else (if (p1 &&& (3 : Int32)) = (2 : Int32) then (1 : Int32) else (1 : Int32)))) else (if (p1 &&& (3 : Int32)) = (0 : Int32) then (1 : Int32) else (if (p1 &&& (3 : Int32)) = (1 : Int32) then (1 : Int32) else (if (p1 &&& (3 : Int32)) = (2 : Int32) then (1 : Int32) else (1 : Int32)))))))
def Q0 (Z : State) (w_1 : Addr) (w_2 : Addr) (w_3 : Addr) (w_4 : Addr) (w_5 : Addr) (k_4 : ClassId) (p0 : Int32) (p1 : Int32) (h0 : Heap) (n0 : Nat) (v : Option Value) (h : Heap) (L : List Loc) : Prop := v = some (.int (sp0 p0 p1)) ∧ Fr n0 L ∧ h = h0
set_option maxRecDepth 65536 in
set_option maxHeartbeats 40000000 in
theorem rm0 (l : Launch) (Z : State) (a0 : Array Value) (hw : ∀ d ∈ tables_1, d.before a0 Z = true) (ws : List Jvm.Cond) (w_1 : Addr) (w_2 : Addr) (w_3 : Addr) (w_4 : Addr) (w_5 : Addr) (k_4 : ClassId) (hS : StF Z w_1 w_2 w_3 w_4 w_5 k_4) (p0 : Int32) (p1 : Int32) (h0 : Heap) (n0 : Nat) (O0 : Old Z n0 h0) :
    MetFree l x (head1 (Jvm.Cond.code x code maxLocals ret :: ws) room_1) (fun a U => a = #[(.int p0), (.int p1)] ∧ Z.Warmed39 U.vm ∧ U.heap = h0) (fun _ _ _ _ _ => True) (fun _ U o U' => ∃ v L, o = .returned v ∧ Q0 Z w_1 w_2 w_3 w_4 w_5 k_4 p0 p1 h0 n0 v U'.heap L ∧ FrameEnd U o U' L room_1.cells room_1.slots) := by
  refine MetFree.of_bodySF (plainFor_of_name pn_0) hisR ?_
  intro p e s m args below meth c s₁ Bd hml0 hP hK
  obtain ⟨rfl, hZ, hh⟩ := hP
  have hx := Bd.exec
  have hby := Bd.bytes
  have hml : c.maxLocals = 6 := hml0
  have hown : s.vm.findClass "com/example/lucid_locks/lucidlocks/locks/LockModeCoversPinLaw" = some m.cls := findClass_of_methodNamed Bd.named
  have hnm := (name_of_methodNamed Bd.named Bd.method).1
  have X0 : Stand p l e room_1 s m #[(.int p0), (.int p1)] below meth c s₁ [] 0 0 := Stand.of_body Bd
  have e0 : s₁.heap = h0 := by rw [← hh, Bd.state]; rfl
  have N0 := Fr.nil n0
  have hS0 := hS
  obtain ⟨S_1, E_1, S_2, E_2, S_3, E_3, S_4, S_5, E_5, F_1_ordinal, F_3_ordinal, F_2_ordinal, F_1_sharedWithItself, F_5_ordinal, F_5_sharedWithItself, F_3_sharedWithItself, F_2_sharedWithItself, V_4⟩ := hS
  have pre0 : ∀ t, Steps p.tables e below (s₁.setTop (mkF m 0 #[.val (.int p0), .val (.int p1), .unset, .unset, .unset, .unset] [])) t → Steps p.tables e below (s₁.setTop (entryFrame m #[(.int p0), (.int p1)] maxLocals)) t := fun t k => castTop (ef_0 m p0 p1) k
  by_cases hc35 : (p0 &&& (3 : Int32)) = (0 : Int32)
  · by_cases hc36 : (p1 &&& (3 : Int32)) = (0 : Int32)
    · obtain ⟨_, _, ⟨T47, L47, k47, n47⟩, -, X47, ⟨Lc47, hQ47, l47, y47, z47⟩, st47⟩ := Jvm.LawKit.callS X0 hx (y := Y0) hown (mvT hZ (hw _ (tk 0 rfl))) (mvT hZ (hw _ (tk 1 rfl))) (mvT hZ (hw _ (tk 2 rfl))) (mvT hZ (hw _ (tk 3 rfl))) (by decide) (backOf (W := 0) (rm1 l Z a0 hw [] w_1 w_2 w_3 w_4 w_5 k_4 hS0 p0 h0 n0 O0) hZ (hw _ (tk 3 rfl)) (hw _ (tk 2 rfl)) (by decide) (by decide)) (g := (mkF m 1 #[.val (.int p0), .val (.int p1), .unset, .unset, .unset, .unset] [(.int p0)])) rfl (by rw [hml]; rfl) (argsL := [(.int p0)]) (rest := []) (lenOf pd_0 rfl) rfl (by show 2 * 0 + _ ≤ _; exact Nat.le_of_eq rfl) (hb hby at_1) (fun _ _ => ⟨rfl, e0, (by decide : 0 + 0 ≤ _), (by decide : 0 + 0 ≤ _)⟩)
      dsimp only [Pt.U, Pt.locs, Pt.cells, Pt.slots] at X47 l47 y47 z47 st47 hQ47
      subst l47 y47 z47
      obtain ⟨rv47, N47q, e47⟩ := hQ47
      rw [show sp1 w_1 w_2 w_3 w_5 p0 = (.ref w_1) from by unfold sp1; rw [if_pos hc35]] at rv47
      subst rv47
      have N47 := Fr.app N0 N47q
      obtain ⟨_, _, ⟨T48, L48, k48, n48⟩, -, X48, ⟨Lc48, hQ48, l48, y48, z48⟩, st48⟩ := Jvm.LawKit.callS X47 hx (y := Y0) hown (mvT hZ (hw _ (tk 0 rfl))) (mvT hZ (hw _ (tk 1 rfl))) (mvT hZ (hw _ (tk 2 rfl))) (mvT hZ (hw _ (tk 3 rfl))) (by decide) (backOf (W := 0) (rm1 l Z a0 hw [] w_1 w_2 w_3 w_4 w_5 k_4 hS0 p1 h0 n0 O0) hZ (hw _ (tk 3 rfl)) (hw _ (tk 2 rfl)) (by decide) (by decide)) (g := (mkF m 6 #[.val (.int p0), .val (.int p1), .val (.ref w_1), .unset, .unset, .unset] [(.int p1)])) rfl (by rw [hml]; rfl) (argsL := [(.int p1)]) (rest := []) (lenOf pd_0 rfl) rfl (by show 2 * 0 + _ ≤ _; exact Nat.le_of_eq rfl) (hb hby at_6) (fun _ _ => ⟨rfl, e47, (by decide : 0 + 0 ≤ _), (by decide : 0 + 0 ≤ _)⟩)
      dsimp only [Pt.U, Pt.locs, Pt.cells, Pt.slots] at X48 l48 y48 z48 st48 hQ48
      subst l48 y48 z48
      obtain ⟨rv48, N48q, e48⟩ := hQ48
      rw [show sp1 w_1 w_2 w_3 w_5 p1 = (.ref w_1) from by unfold sp1; rw [if_pos hc36]] at rv48
      subst rv48
      have N48 := Fr.app N47 N48q
      obtain ⟨T49, X49, e49, st49⟩ := getS2 X48 hx hZ hown (host := "") (Or.inl (hw _ (tk 9 rfl))) Via.refl e48 (S_3.ext O0.2) (g := (mkF m 11 #[.val (.int p0), .val (.int p1), .val (.ref w_1), .val (.ref w_1), .unset, .unset] [(.ref w_1)])) rfl (hb hby at_11)
      obtain ⟨T50, X50, e50, st50⟩ := getS2 X49 hx hZ hown (host := "") (Or.inl (hw _ (tk 7 rfl))) Via.refl e49 (S_2.ext O0.2) (g := (mkF m 18 #[.val (.int p0), .val (.int p1), .val (.ref w_1), .val (.ref w_1), .unset, .unset] [(.ref w_1)])) rfl (hb hby at_18)
      obtain ⟨cq69, kq69, q69a, q69b, q69c⟩ := isOf hZ e50 (E_1.ext O0.2)
      obtain ⟨_, _, ⟨T69, L69, k69, n69⟩, -, X69, ⟨Lc69, hQ69, l69, y69, z69⟩, st69⟩ := X50.virtualBack hx (y := Y2) (z := Y2) hown (mvT hZ (hw _ (tk 11 rfl))) (mvT hZ (hw _ (tk 12 rfl))) (notFace_of_selects (args := #[]) (mvT hZ (hw _ (tk 14 rfl)))) (mvT hZ (hw _ (tk 14 rfl))) (mvT hZ (hw _ (tk 13 rfl))) (by decide) (backOf (W := 0) (rm2x1 l Z a0 hw [] w_1 w_2 w_3 w_4 w_5 k_4 hS0 h0 n0 O0) hZ (hw _ (tk 15 rfl)) (hw _ (tk 5 rfl)) (by decide) (by decide)) q69a q69c (g := (mkF m 50 #[.val (.int p0), .val (.int p1), .val (.ref w_1), .val (.ref w_1), .val (.int (0 : Int32)), .val (.int (1 : Int32))] [(.ref w_1), (.ref w_1)])) rfl (by rw [hml]; rfl) (Steps.refl _) (argsL := [(.ref w_1)]) (rest := []) (lenOf pd_1 rfl) rfl (by show 2 * 0 + _ ≤ _; exact Nat.le_of_eq rfl) (hb hby at_50) (fun _ _ => ⟨rfl, e50, (by decide : 0 + 0 ≤ _), (by decide : 0 + 0 ≤ _)⟩)
      dsimp only [Pt.U, Pt.locs, Pt.cells, Pt.slots] at X69 l69 y69 z69 st69 hQ69
      subst l69 y69 z69
      obtain ⟨rv69, N69q, e69⟩ := hQ69
      rw [show sp2x1 = (1 : Int32) from by unfold sp2x1; rfl] at rv69
      subst rv69
      have N69 := Fr.app N48 N69q
      obtain ⟨fs, hr, hrun, hended, hW, hsame⟩ := X69.leave (v := some (.int (1 : Int32))) (fun h => by rw [Bd.returns] at h; cases h)
      refine ⟨_, _, pre0 _ ?_, hrun, hended, _, _, rfl, ?_, ⟨_, rfl⟩, hW, hsame.mono (by decide) (by decide)⟩
      · show Steps p.tables e below (s₁.setTop (mkF m 0 #[.val (.int p0), .val (.int p1), .unset, .unset, .unset, .unset] [])) _
        refine XS.iloadN X0.here hx rfl (hb hby at_0) rfl ?_
        show Steps p.tables e below (s₁.setTop (mkF m 1 #[.val (.int p0), .val (.int p1), .unset, .unset, .unset, .unset] [(.int p0)])) _
        refine st47 _ ?_
        show Steps p.tables e below (T47.setTop (mkF m 4 #[.val (.int p0), .val (.int p1), .unset, .unset, .unset, .unset] [(.ref w_1)])) _
        refine XS.astoreN X47.here hx rfl (hb hby at_4) rfl rfl (l' := #[.val (.int p0), .val (.int p1), .val (.ref w_1), .unset, .unset, .unset]) rfl ?_
        show Steps p.tables e below (T47.setTop (mkF m 5 #[.val (.int p0), .val (.int p1), .val (.ref w_1), .unset, .unset, .unset] [])) _
        refine XS.iloadN X47.here hx rfl (hb hby at_5) rfl ?_
        show Steps p.tables e below (T47.setTop (mkF m 6 #[.val (.int p0), .val (.int p1), .val (.ref w_1), .unset, .unset, .unset] [(.int p1)])) _
        refine st48 _ ?_
        show Steps p.tables e below (T48.setTop (mkF m 9 #[.val (.int p0), .val (.int p1), .val (.ref w_1), .unset, .unset, .unset] [(.ref w_1)])) _
        refine XS.astoreN X48.here hx rfl (hb hby at_9) rfl rfl (l' := #[.val (.int p0), .val (.int p1), .val (.ref w_1), .val (.ref w_1), .unset, .unset]) rfl ?_
        show Steps p.tables e below (T48.setTop (mkF m 10 #[.val (.int p0), .val (.int p1), .val (.ref w_1), .val (.ref w_1), .unset, .unset] [])) _
        refine XS.aloadN X48.here hx rfl (hb hby at_10) rfl rfl ?_
        show Steps p.tables e below (T48.setTop (mkF m 11 #[.val (.int p0), .val (.int p1), .val (.ref w_1), .val (.ref w_1), .unset, .unset] [(.ref w_1)])) _
        refine st49 _ ?_
        show Steps p.tables e below (T49.setTop (mkF m 14 #[.val (.int p0), .val (.int p1), .val (.ref w_1), .val (.ref w_1), .unset, .unset] [(.ref w_3), (.ref w_1)])) _
        refine Jvm.RoadKit.acmp (g := (mkF m 14 #[.val (.int p0), .val (.int p1), .val (.ref w_1), .val (.ref w_1), .unset, .unset] [(.ref w_3), (.ref w_1)])) X49 hx rfl rfl rfl (pc0 := 14) (pc' := 17) (same := false) rfl (hb hby at_14) rfl (decide_eq_false fun q => (Fld.ne F_1_ordinal F_3_ordinal (by decide)) (Value.ref.inj q)) (by decide) (by decide) ?_
        show Steps p.tables e below (T49.setTop (mkF m 17 #[.val (.int p0), .val (.int p1), .val (.ref w_1), .val (.ref w_1), .unset, .unset] [])) _
        refine XS.aloadN X49.here hx rfl (hb hby at_17) rfl rfl ?_
        show Steps p.tables e below (T49.setTop (mkF m 18 #[.val (.int p0), .val (.int p1), .val (.ref w_1), .val (.ref w_1), .unset, .unset] [(.ref w_1)])) _
        refine st50 _ ?_
        show Steps p.tables e below (T50.setTop (mkF m 21 #[.val (.int p0), .val (.int p1), .val (.ref w_1), .val (.ref w_1), .unset, .unset] [(.ref w_2), (.ref w_1)])) _
        refine Jvm.RoadKit.acmp (g := (mkF m 21 #[.val (.int p0), .val (.int p1), .val (.ref w_1), .val (.ref w_1), .unset, .unset] [(.ref w_2), (.ref w_1)])) X50 hx rfl rfl rfl (pc0 := 21) (pc' := 28) (same := false) rfl (hb hby at_21) rfl (decide_eq_false fun q => (Fld.ne F_1_ordinal F_2_ordinal (by decide)) (Value.ref.inj q)) (by decide) (by decide) ?_
        show Steps p.tables e below (T50.setTop (mkF m 28 #[.val (.int p0), .val (.int p1), .val (.ref w_1), .val (.ref w_1), .unset, .unset] [])) _
        refine XS.iconst X50.here hx rfl (hb hby at_28) ?_
        show Steps p.tables e below (T50.setTop (mkF m 29 #[.val (.int p0), .val (.int p1), .val (.ref w_1), .val (.ref w_1), .unset, .unset] [(.int (0 : Int32))])) _
        refine XS.istore X50.here hx rfl (hb hby at_29) rfl (l' := #[.val (.int p0), .val (.int p1), .val (.ref w_1), .val (.ref w_1), .val (.int (0 : Int32)), .unset]) rfl ?_
        show Steps p.tables e below (T50.setTop (mkF m 31 #[.val (.int p0), .val (.int p1), .val (.ref w_1), .val (.ref w_1), .val (.int (0 : Int32)), .unset] [])) _
        refine XS.iload X50.here hx rfl (hb hby at_31) rfl ?_
        show Steps p.tables e below (T50.setTop (mkF m 33 #[.val (.int p0), .val (.int p1), .val (.ref w_1), .val (.ref w_1), .val (.int (0 : Int32)), .unset] [(.int (0 : Int32))])) _
        refine XS.ifNo X50.here hx rfl (hb hby at_33) rfl ((if0 _ _).trans (teq (by decide : ((0 : Int32) = (0 : Int32)))).2) ?_
        show Steps p.tables e below (T50.setTop (mkF m 36 #[.val (.int p0), .val (.int p1), .val (.ref w_1), .val (.ref w_1), .val (.int (0 : Int32)), .unset] [])) _
        refine XS.aloadN X50.here hx rfl (hb hby at_36) rfl rfl ?_
        show Steps p.tables e below (T50.setTop (mkF m 37 #[.val (.int p0), .val (.int p1), .val (.ref w_1), .val (.ref w_1), .val (.int (0 : Int32)), .unset] [(.ref w_1)])) _
        refine XS.aloadN X50.here hx rfl (hb hby at_37) rfl rfl ?_
        show Steps p.tables e below (T50.setTop (mkF m 38 #[.val (.int p0), .val (.int p1), .val (.ref w_1), .val (.ref w_1), .val (.int (0 : Int32)), .unset] [(.ref w_1), (.ref w_1)])) _
        refine Jvm.RoadKit.acmp (g := (mkF m 38 #[.val (.int p0), .val (.int p1), .val (.ref w_1), .val (.ref w_1), .val (.int (0 : Int32)), .unset] [(.ref w_1), (.ref w_1)])) X50 hx rfl rfl rfl (pc0 := 38) (pc' := 41) (same := true) rfl (hb hby at_38) rfl (decide_eq_true (congrArg Value.ref rfl)) (by decide) (by decide) ?_
        show Steps p.tables e below (T50.setTop (mkF m 41 #[.val (.int p0), .val (.int p1), .val (.ref w_1), .val (.ref w_1), .val (.int (0 : Int32)), .unset] [])) _
        refine XS.iconst X50.here hx rfl (hb hby at_41) ?_
        show Steps p.tables e below (T50.setTop (mkF m 42 #[.val (.int p0), .val (.int p1), .val (.ref w_1), .val (.ref w_1), .val (.int (0 : Int32)), .unset] [(.int (1 : Int32))])) _
        refine XS.goto X50.here hx rfl (pc0 := 42) (pc' := 46) rfl (hb hby at_42) (by decide) (by decide) ?_
        show Steps p.tables e below (T50.setTop (mkF m 46 #[.val (.int p0), .val (.int p1), .val (.ref w_1), .val (.ref w_1), .val (.int (0 : Int32)), .unset] [(.int (1 : Int32))])) _
        refine XS.istore X50.here hx rfl (hb hby at_46) rfl (l' := #[.val (.int p0), .val (.int p1), .val (.ref w_1), .val (.ref w_1), .val (.int (0 : Int32)), .val (.int (1 : Int32))]) rfl ?_
        show Steps p.tables e below (T50.setTop (mkF m 48 #[.val (.int p0), .val (.int p1), .val (.ref w_1), .val (.ref w_1), .val (.int (0 : Int32)), .val (.int (1 : Int32))] [])) _
        refine XS.aloadN X50.here hx rfl (hb hby at_48) rfl rfl ?_
        show Steps p.tables e below (T50.setTop (mkF m 49 #[.val (.int p0), .val (.int p1), .val (.ref w_1), .val (.ref w_1), .val (.int (0 : Int32)), .val (.int (1 : Int32))] [(.ref w_1)])) _
        refine XS.aloadN X50.here hx rfl (hb hby at_49) rfl rfl ?_
        show Steps p.tables e below (T50.setTop (mkF m 50 #[.val (.int p0), .val (.int p1), .val (.ref w_1), .val (.ref w_1), .val (.int (0 : Int32)), .val (.int (1 : Int32))] [(.ref w_1), (.ref w_1)])) _
        refine st69.trans ?_
        show Steps p.tables e below (T69.setTop (mkF m 53 #[.val (.int p0), .val (.int p1), .val (.ref w_1), .val (.ref w_1), .val (.int (0 : Int32)), .val (.int (1 : Int32))] [(.int (1 : Int32))])) _
        refine XS.iload X69.here hx rfl (hb hby at_53) rfl ?_
        show Steps p.tables e below (T69.setTop (mkF m 55 #[.val (.int p0), .val (.int p1), .val (.ref w_1), .val (.ref w_1), .val (.int (0 : Int32)), .val (.int (1 : Int32))] [(.int (1 : Int32)), (.int (1 : Int32))])) _
        refine XS.icmpNo X69.here hx rfl (hb hby at_55) rfl (teq (by decide : ((1 : Int32) = (1 : Int32)))).2 ?_
        show Steps p.tables e below (T69.setTop (mkF m 58 #[.val (.int p0), .val (.int p1), .val (.ref w_1), .val (.ref w_1), .val (.int (0 : Int32)), .val (.int (1 : Int32))] [])) _
        refine XS.iconst X69.here hx rfl (hb hby at_58) ?_
        show Steps p.tables e below (T69.setTop (mkF m 59 #[.val (.int p0), .val (.int p1), .val (.ref w_1), .val (.ref w_1), .val (.int (0 : Int32)), .val (.int (1 : Int32))] [(.int (1 : Int32))])) _
        refine XS.goto X69.here hx rfl (pc0 := 59) (pc' := 63) rfl (hb hby at_59) (by decide) (by decide) ?_
        show Steps p.tables e below (T69.setTop (mkF m 63 #[.val (.int p0), .val (.int p1), .val (.ref w_1), .val (.ref w_1), .val (.int (0 : Int32)), .val (.int (1 : Int32))] [(.int (1 : Int32))])) _
        exact retN X69 hx (t := .boolean) Bd.returns (by simp) (hb hby at_63) hr
      · show Q0 Z w_1 w_2 w_3 w_4 w_5 k_4 p0 p1 h0 n0 _ T69.heap _
        rw [e69]
        exact ⟨by unfold sp0; rw [if_pos hc35, if_pos hc36], N69, rfl⟩
    · by_cases hc70 : (p1 &&& (3 : Int32)) = (1 : Int32)
      · obtain ⟨_, _, ⟨T71, L71, k71, n71⟩, -, X71, ⟨Lc71, hQ71, l71, y71, z71⟩, st71⟩ := Jvm.LawKit.callS X0 hx (y := Y0) hown (mvT hZ (hw _ (tk 0 rfl))) (mvT hZ (hw _ (tk 1 rfl))) (mvT hZ (hw _ (tk 2 rfl))) (mvT hZ (hw _ (tk 3 rfl))) (by decide) (backOf (W := 0) (rm1 l Z a0 hw [] w_1 w_2 w_3 w_4 w_5 k_4 hS0 p0 h0 n0 O0) hZ (hw _ (tk 3 rfl)) (hw _ (tk 2 rfl)) (by decide) (by decide)) (g := (mkF m 1 #[.val (.int p0), .val (.int p1), .unset, .unset, .unset, .unset] [(.int p0)])) rfl (by rw [hml]; rfl) (argsL := [(.int p0)]) (rest := []) (lenOf pd_0 rfl) rfl (by show 2 * 0 + _ ≤ _; exact Nat.le_of_eq rfl) (hb hby at_1) (fun _ _ => ⟨rfl, e0, (by decide : 0 + 0 ≤ _), (by decide : 0 + 0 ≤ _)⟩)
        dsimp only [Pt.U, Pt.locs, Pt.cells, Pt.slots] at X71 l71 y71 z71 st71 hQ71
        subst l71 y71 z71
        obtain ⟨rv71, N71q, e71⟩ := hQ71
        rw [show sp1 w_1 w_2 w_3 w_5 p0 = (.ref w_1) from by unfold sp1; rw [if_pos hc35]] at rv71
        subst rv71
        have N71 := Fr.app N0 N71q
        obtain ⟨_, _, ⟨T72, L72, k72, n72⟩, -, X72, ⟨Lc72, hQ72, l72, y72, z72⟩, st72⟩ := Jvm.LawKit.callS X71 hx (y := Y0) hown (mvT hZ (hw _ (tk 0 rfl))) (mvT hZ (hw _ (tk 1 rfl))) (mvT hZ (hw _ (tk 2 rfl))) (mvT hZ (hw _ (tk 3 rfl))) (by decide) (backOf (W := 0) (rm1 l Z a0 hw [] w_1 w_2 w_3 w_4 w_5 k_4 hS0 p1 h0 n0 O0) hZ (hw _ (tk 3 rfl)) (hw _ (tk 2 rfl)) (by decide) (by decide)) (g := (mkF m 6 #[.val (.int p0), .val (.int p1), .val (.ref w_1), .unset, .unset, .unset] [(.int p1)])) rfl (by rw [hml]; rfl) (argsL := [(.int p1)]) (rest := []) (lenOf pd_0 rfl) rfl (by show 2 * 0 + _ ≤ _; exact Nat.le_of_eq rfl) (hb hby at_6) (fun _ _ => ⟨rfl, e71, (by decide : 0 + 0 ≤ _), (by decide : 0 + 0 ≤ _)⟩)
        dsimp only [Pt.U, Pt.locs, Pt.cells, Pt.slots] at X72 l72 y72 z72 st72 hQ72
        subst l72 y72 z72
        obtain ⟨rv72, N72q, e72⟩ := hQ72
        rw [show sp1 w_1 w_2 w_3 w_5 p1 = (.ref w_5) from by unfold sp1; rw [if_neg hc36, if_pos hc70]] at rv72
        subst rv72
        have N72 := Fr.app N71 N72q
        obtain ⟨T73, X73, e73, st73⟩ := getS2 X72 hx hZ hown (host := "") (Or.inl (hw _ (tk 9 rfl))) Via.refl e72 (S_3.ext O0.2) (g := (mkF m 11 #[.val (.int p0), .val (.int p1), .val (.ref w_1), .val (.ref w_5), .unset, .unset] [(.ref w_1)])) rfl (hb hby at_11)
        obtain ⟨T74, X74, e74, st74⟩ := getS2 X73 hx hZ hown (host := "") (Or.inl (hw _ (tk 7 rfl))) Via.refl e73 (S_2.ext O0.2) (g := (mkF m 18 #[.val (.int p0), .val (.int p1), .val (.ref w_1), .val (.ref w_5), .unset, .unset] [(.ref w_1)])) rfl (hb hby at_18)
        obtain ⟨cq80, kq80, q80a, q80b, q80c⟩ := isOf hZ e74 (E_1.ext O0.2)
        obtain ⟨_, _, ⟨T80, L80, k80, n80⟩, -, X80, ⟨Lc80, hQ80, l80, y80, z80⟩, st80⟩ := X74.virtualBack hx (y := Y2) (z := Y2) hown (mvT hZ (hw _ (tk 11 rfl))) (mvT hZ (hw _ (tk 12 rfl))) (notFace_of_selects (args := #[]) (mvT hZ (hw _ (tk 14 rfl)))) (mvT hZ (hw _ (tk 14 rfl))) (mvT hZ (hw _ (tk 13 rfl))) (by decide) (backOf (W := 0) (rm2x2 l Z a0 hw [] w_1 w_2 w_3 w_4 w_5 k_4 hS0 h0 n0 O0) hZ (hw _ (tk 15 rfl)) (hw _ (tk 5 rfl)) (by decide) (by decide)) q80a q80c (g := (mkF m 50 #[.val (.int p0), .val (.int p1), .val (.ref w_1), .val (.ref w_5), .val (.int (0 : Int32)), .val (.int (0 : Int32))] [(.ref w_5), (.ref w_1)])) rfl (by rw [hml]; rfl) (Steps.refl _) (argsL := [(.ref w_5)]) (rest := []) (lenOf pd_1 rfl) rfl (by show 2 * 0 + _ ≤ _; exact Nat.le_of_eq rfl) (hb hby at_50) (fun _ _ => ⟨rfl, e74, (by decide : 0 + 0 ≤ _), (by decide : 0 + 0 ≤ _)⟩)
        dsimp only [Pt.U, Pt.locs, Pt.cells, Pt.slots] at X80 l80 y80 z80 st80 hQ80
        subst l80 y80 z80
        obtain ⟨rv80, N80q, e80⟩ := hQ80
        rw [show sp2x2 = (0 : Int32) from by unfold sp2x2; rfl] at rv80
        subst rv80
        have N80 := Fr.app N72 N80q
        obtain ⟨fs, hr, hrun, hended, hW, hsame⟩ := X80.leave (v := some (.int (1 : Int32))) (fun h => by rw [Bd.returns] at h; cases h)
        refine ⟨_, _, pre0 _ ?_, hrun, hended, _, _, rfl, ?_, ⟨_, rfl⟩, hW, hsame.mono (by decide) (by decide)⟩
        · show Steps p.tables e below (s₁.setTop (mkF m 0 #[.val (.int p0), .val (.int p1), .unset, .unset, .unset, .unset] [])) _
          refine XS.iloadN X0.here hx rfl (hb hby at_0) rfl ?_
          show Steps p.tables e below (s₁.setTop (mkF m 1 #[.val (.int p0), .val (.int p1), .unset, .unset, .unset, .unset] [(.int p0)])) _
          refine st71 _ ?_
          show Steps p.tables e below (T71.setTop (mkF m 4 #[.val (.int p0), .val (.int p1), .unset, .unset, .unset, .unset] [(.ref w_1)])) _
          refine XS.astoreN X71.here hx rfl (hb hby at_4) rfl rfl (l' := #[.val (.int p0), .val (.int p1), .val (.ref w_1), .unset, .unset, .unset]) rfl ?_
          show Steps p.tables e below (T71.setTop (mkF m 5 #[.val (.int p0), .val (.int p1), .val (.ref w_1), .unset, .unset, .unset] [])) _
          refine XS.iloadN X71.here hx rfl (hb hby at_5) rfl ?_
          show Steps p.tables e below (T71.setTop (mkF m 6 #[.val (.int p0), .val (.int p1), .val (.ref w_1), .unset, .unset, .unset] [(.int p1)])) _
          refine st72 _ ?_
          show Steps p.tables e below (T72.setTop (mkF m 9 #[.val (.int p0), .val (.int p1), .val (.ref w_1), .unset, .unset, .unset] [(.ref w_5)])) _
          refine XS.astoreN X72.here hx rfl (hb hby at_9) rfl rfl (l' := #[.val (.int p0), .val (.int p1), .val (.ref w_1), .val (.ref w_5), .unset, .unset]) rfl ?_
          show Steps p.tables e below (T72.setTop (mkF m 10 #[.val (.int p0), .val (.int p1), .val (.ref w_1), .val (.ref w_5), .unset, .unset] [])) _
          refine XS.aloadN X72.here hx rfl (hb hby at_10) rfl rfl ?_
          show Steps p.tables e below (T72.setTop (mkF m 11 #[.val (.int p0), .val (.int p1), .val (.ref w_1), .val (.ref w_5), .unset, .unset] [(.ref w_1)])) _
          refine st73 _ ?_
          show Steps p.tables e below (T73.setTop (mkF m 14 #[.val (.int p0), .val (.int p1), .val (.ref w_1), .val (.ref w_5), .unset, .unset] [(.ref w_3), (.ref w_1)])) _
          refine Jvm.RoadKit.acmp (g := (mkF m 14 #[.val (.int p0), .val (.int p1), .val (.ref w_1), .val (.ref w_5), .unset, .unset] [(.ref w_3), (.ref w_1)])) X73 hx rfl rfl rfl (pc0 := 14) (pc' := 17) (same := false) rfl (hb hby at_14) rfl (decide_eq_false fun q => (Fld.ne F_1_ordinal F_3_ordinal (by decide)) (Value.ref.inj q)) (by decide) (by decide) ?_
          show Steps p.tables e below (T73.setTop (mkF m 17 #[.val (.int p0), .val (.int p1), .val (.ref w_1), .val (.ref w_5), .unset, .unset] [])) _
          refine XS.aloadN X73.here hx rfl (hb hby at_17) rfl rfl ?_
          show Steps p.tables e below (T73.setTop (mkF m 18 #[.val (.int p0), .val (.int p1), .val (.ref w_1), .val (.ref w_5), .unset, .unset] [(.ref w_1)])) _
          refine st74 _ ?_
          show Steps p.tables e below (T74.setTop (mkF m 21 #[.val (.int p0), .val (.int p1), .val (.ref w_1), .val (.ref w_5), .unset, .unset] [(.ref w_2), (.ref w_1)])) _
          refine Jvm.RoadKit.acmp (g := (mkF m 21 #[.val (.int p0), .val (.int p1), .val (.ref w_1), .val (.ref w_5), .unset, .unset] [(.ref w_2), (.ref w_1)])) X74 hx rfl rfl rfl (pc0 := 21) (pc' := 28) (same := false) rfl (hb hby at_21) rfl (decide_eq_false fun q => (Fld.ne F_1_ordinal F_2_ordinal (by decide)) (Value.ref.inj q)) (by decide) (by decide) ?_
          show Steps p.tables e below (T74.setTop (mkF m 28 #[.val (.int p0), .val (.int p1), .val (.ref w_1), .val (.ref w_5), .unset, .unset] [])) _
          refine XS.iconst X74.here hx rfl (hb hby at_28) ?_
          show Steps p.tables e below (T74.setTop (mkF m 29 #[.val (.int p0), .val (.int p1), .val (.ref w_1), .val (.ref w_5), .unset, .unset] [(.int (0 : Int32))])) _
          refine XS.istore X74.here hx rfl (hb hby at_29) rfl (l' := #[.val (.int p0), .val (.int p1), .val (.ref w_1), .val (.ref w_5), .val (.int (0 : Int32)), .unset]) rfl ?_
          show Steps p.tables e below (T74.setTop (mkF m 31 #[.val (.int p0), .val (.int p1), .val (.ref w_1), .val (.ref w_5), .val (.int (0 : Int32)), .unset] [])) _
          refine XS.iload X74.here hx rfl (hb hby at_31) rfl ?_
          show Steps p.tables e below (T74.setTop (mkF m 33 #[.val (.int p0), .val (.int p1), .val (.ref w_1), .val (.ref w_5), .val (.int (0 : Int32)), .unset] [(.int (0 : Int32))])) _
          refine XS.ifNo X74.here hx rfl (hb hby at_33) rfl ((if0 _ _).trans (teq (by decide : ((0 : Int32) = (0 : Int32)))).2) ?_
          show Steps p.tables e below (T74.setTop (mkF m 36 #[.val (.int p0), .val (.int p1), .val (.ref w_1), .val (.ref w_5), .val (.int (0 : Int32)), .unset] [])) _
          refine XS.aloadN X74.here hx rfl (hb hby at_36) rfl rfl ?_
          show Steps p.tables e below (T74.setTop (mkF m 37 #[.val (.int p0), .val (.int p1), .val (.ref w_1), .val (.ref w_5), .val (.int (0 : Int32)), .unset] [(.ref w_1)])) _
          refine XS.aloadN X74.here hx rfl (hb hby at_37) rfl rfl ?_
          show Steps p.tables e below (T74.setTop (mkF m 38 #[.val (.int p0), .val (.int p1), .val (.ref w_1), .val (.ref w_5), .val (.int (0 : Int32)), .unset] [(.ref w_5), (.ref w_1)])) _
          refine Jvm.RoadKit.acmp (g := (mkF m 38 #[.val (.int p0), .val (.int p1), .val (.ref w_1), .val (.ref w_5), .val (.int (0 : Int32)), .unset] [(.ref w_5), (.ref w_1)])) X74 hx rfl rfl rfl (pc0 := 38) (pc' := 45) (same := false) rfl (hb hby at_38) rfl (decide_eq_false fun q => (Fld.ne F_1_ordinal F_5_ordinal (by decide)) (Value.ref.inj q)) (by decide) (by decide) ?_
          show Steps p.tables e below (T74.setTop (mkF m 45 #[.val (.int p0), .val (.int p1), .val (.ref w_1), .val (.ref w_5), .val (.int (0 : Int32)), .unset] [])) _
          refine XS.iconst X74.here hx rfl (hb hby at_45) ?_
          show Steps p.tables e below (T74.setTop (mkF m 46 #[.val (.int p0), .val (.int p1), .val (.ref w_1), .val (.ref w_5), .val (.int (0 : Int32)), .unset] [(.int (0 : Int32))])) _
          refine XS.istore X74.here hx rfl (hb hby at_46) rfl (l' := #[.val (.int p0), .val (.int p1), .val (.ref w_1), .val (.ref w_5), .val (.int (0 : Int32)), .val (.int (0 : Int32))]) rfl ?_
          show Steps p.tables e below (T74.setTop (mkF m 48 #[.val (.int p0), .val (.int p1), .val (.ref w_1), .val (.ref w_5), .val (.int (0 : Int32)), .val (.int (0 : Int32))] [])) _
          refine XS.aloadN X74.here hx rfl (hb hby at_48) rfl rfl ?_
          show Steps p.tables e below (T74.setTop (mkF m 49 #[.val (.int p0), .val (.int p1), .val (.ref w_1), .val (.ref w_5), .val (.int (0 : Int32)), .val (.int (0 : Int32))] [(.ref w_1)])) _
          refine XS.aloadN X74.here hx rfl (hb hby at_49) rfl rfl ?_
          show Steps p.tables e below (T74.setTop (mkF m 50 #[.val (.int p0), .val (.int p1), .val (.ref w_1), .val (.ref w_5), .val (.int (0 : Int32)), .val (.int (0 : Int32))] [(.ref w_5), (.ref w_1)])) _
          refine st80.trans ?_
          show Steps p.tables e below (T80.setTop (mkF m 53 #[.val (.int p0), .val (.int p1), .val (.ref w_1), .val (.ref w_5), .val (.int (0 : Int32)), .val (.int (0 : Int32))] [(.int (0 : Int32))])) _
          refine XS.iload X80.here hx rfl (hb hby at_53) rfl ?_
          show Steps p.tables e below (T80.setTop (mkF m 55 #[.val (.int p0), .val (.int p1), .val (.ref w_1), .val (.ref w_5), .val (.int (0 : Int32)), .val (.int (0 : Int32))] [(.int (0 : Int32)), (.int (0 : Int32))])) _
          refine XS.icmpNo X80.here hx rfl (hb hby at_55) rfl (teq (by decide : ((0 : Int32) = (0 : Int32)))).2 ?_
          show Steps p.tables e below (T80.setTop (mkF m 58 #[.val (.int p0), .val (.int p1), .val (.ref w_1), .val (.ref w_5), .val (.int (0 : Int32)), .val (.int (0 : Int32))] [])) _
          refine XS.iconst X80.here hx rfl (hb hby at_58) ?_
          show Steps p.tables e below (T80.setTop (mkF m 59 #[.val (.int p0), .val (.int p1), .val (.ref w_1), .val (.ref w_5), .val (.int (0 : Int32)), .val (.int (0 : Int32))] [(.int (1 : Int32))])) _
          refine XS.goto X80.here hx rfl (pc0 := 59) (pc' := 63) rfl (hb hby at_59) (by decide) (by decide) ?_
          show Steps p.tables e below (T80.setTop (mkF m 63 #[.val (.int p0), .val (.int p1), .val (.ref w_1), .val (.ref w_5), .val (.int (0 : Int32)), .val (.int (0 : Int32))] [(.int (1 : Int32))])) _
          exact retN X80 hx (t := .boolean) Bd.returns (by simp) (hb hby at_63) hr
        · show Q0 Z w_1 w_2 w_3 w_4 w_5 k_4 p0 p1 h0 n0 _ T80.heap _
          rw [e80]
          exact ⟨by unfold sp0; rw [if_pos hc35, if_neg hc36, if_pos hc70], N80, rfl⟩
      · by_cases hc81 : (p1 &&& (3 : Int32)) = (2 : Int32)
        · obtain ⟨_, _, ⟨T82, L82, k82, n82⟩, -, X82, ⟨Lc82, hQ82, l82, y82, z82⟩, st82⟩ := Jvm.LawKit.callS X0 hx (y := Y0) hown (mvT hZ (hw _ (tk 0 rfl))) (mvT hZ (hw _ (tk 1 rfl))) (mvT hZ (hw _ (tk 2 rfl))) (mvT hZ (hw _ (tk 3 rfl))) (by decide) (backOf (W := 0) (rm1 l Z a0 hw [] w_1 w_2 w_3 w_4 w_5 k_4 hS0 p0 h0 n0 O0) hZ (hw _ (tk 3 rfl)) (hw _ (tk 2 rfl)) (by decide) (by decide)) (g := (mkF m 1 #[.val (.int p0), .val (.int p1), .unset, .unset, .unset, .unset] [(.int p0)])) rfl (by rw [hml]; rfl) (argsL := [(.int p0)]) (rest := []) (lenOf pd_0 rfl) rfl (by show 2 * 0 + _ ≤ _; exact Nat.le_of_eq rfl) (hb hby at_1) (fun _ _ => ⟨rfl, e0, (by decide : 0 + 0 ≤ _), (by decide : 0 + 0 ≤ _)⟩)
          dsimp only [Pt.U, Pt.locs, Pt.cells, Pt.slots] at X82 l82 y82 z82 st82 hQ82
          subst l82 y82 z82
          obtain ⟨rv82, N82q, e82⟩ := hQ82
          rw [show sp1 w_1 w_2 w_3 w_5 p0 = (.ref w_1) from by unfold sp1; rw [if_pos hc35]] at rv82
          subst rv82
          have N82 := Fr.app N0 N82q
          obtain ⟨_, _, ⟨T83, L83, k83, n83⟩, -, X83, ⟨Lc83, hQ83, l83, y83, z83⟩, st83⟩ := Jvm.LawKit.callS X82 hx (y := Y0) hown (mvT hZ (hw _ (tk 0 rfl))) (mvT hZ (hw _ (tk 1 rfl))) (mvT hZ (hw _ (tk 2 rfl))) (mvT hZ (hw _ (tk 3 rfl))) (by decide) (backOf (W := 0) (rm1 l Z a0 hw [] w_1 w_2 w_3 w_4 w_5 k_4 hS0 p1 h0 n0 O0) hZ (hw _ (tk 3 rfl)) (hw _ (tk 2 rfl)) (by decide) (by decide)) (g := (mkF m 6 #[.val (.int p0), .val (.int p1), .val (.ref w_1), .unset, .unset, .unset] [(.int p1)])) rfl (by rw [hml]; rfl) (argsL := [(.int p1)]) (rest := []) (lenOf pd_0 rfl) rfl (by show 2 * 0 + _ ≤ _; exact Nat.le_of_eq rfl) (hb hby at_6) (fun _ _ => ⟨rfl, e82, (by decide : 0 + 0 ≤ _), (by decide : 0 + 0 ≤ _)⟩)
          dsimp only [Pt.U, Pt.locs, Pt.cells, Pt.slots] at X83 l83 y83 z83 st83 hQ83
          subst l83 y83 z83
          obtain ⟨rv83, N83q, e83⟩ := hQ83
          rw [show sp1 w_1 w_2 w_3 w_5 p1 = (.ref w_3) from by unfold sp1; rw [if_neg hc36, if_neg hc70, if_pos hc81]] at rv83
          subst rv83
          have N83 := Fr.app N82 N83q
          obtain ⟨T84, X84, e84, st84⟩ := getS2 X83 hx hZ hown (host := "") (Or.inl (hw _ (tk 9 rfl))) Via.refl e83 (S_3.ext O0.2) (g := (mkF m 11 #[.val (.int p0), .val (.int p1), .val (.ref w_1), .val (.ref w_3), .unset, .unset] [(.ref w_1)])) rfl (hb hby at_11)
          obtain ⟨T85, X85, e85, st85⟩ := getS2 X84 hx hZ hown (host := "") (Or.inl (hw _ (tk 7 rfl))) Via.refl e84 (S_2.ext O0.2) (g := (mkF m 18 #[.val (.int p0), .val (.int p1), .val (.ref w_1), .val (.ref w_3), .unset, .unset] [(.ref w_1)])) rfl (hb hby at_18)
          obtain ⟨cq91, kq91, q91a, q91b, q91c⟩ := isOf hZ e85 (E_1.ext O0.2)
          obtain ⟨_, _, ⟨T91, L91, k91, n91⟩, -, X91, ⟨Lc91, hQ91, l91, y91, z91⟩, st91⟩ := X85.virtualBack hx (y := Y2) (z := Y2) hown (mvT hZ (hw _ (tk 11 rfl))) (mvT hZ (hw _ (tk 12 rfl))) (notFace_of_selects (args := #[]) (mvT hZ (hw _ (tk 14 rfl)))) (mvT hZ (hw _ (tk 14 rfl))) (mvT hZ (hw _ (tk 13 rfl))) (by decide) (backOf (W := 0) (rm2x3 l Z a0 hw [] w_1 w_2 w_3 w_4 w_5 k_4 hS0 h0 n0 O0) hZ (hw _ (tk 15 rfl)) (hw _ (tk 5 rfl)) (by decide) (by decide)) q91a q91c (g := (mkF m 50 #[.val (.int p0), .val (.int p1), .val (.ref w_1), .val (.ref w_3), .val (.int (0 : Int32)), .val (.int (0 : Int32))] [(.ref w_3), (.ref w_1)])) rfl (by rw [hml]; rfl) (Steps.refl _) (argsL := [(.ref w_3)]) (rest := []) (lenOf pd_1 rfl) rfl (by show 2 * 0 + _ ≤ _; exact Nat.le_of_eq rfl) (hb hby at_50) (fun _ _ => ⟨rfl, e85, (by decide : 0 + 0 ≤ _), (by decide : 0 + 0 ≤ _)⟩)
          dsimp only [Pt.U, Pt.locs, Pt.cells, Pt.slots] at X91 l91 y91 z91 st91 hQ91
          subst l91 y91 z91
          obtain ⟨rv91, N91q, e91⟩ := hQ91
          rw [show sp2x3 = (0 : Int32) from by unfold sp2x3; rfl] at rv91
          subst rv91
          have N91 := Fr.app N83 N91q
          obtain ⟨fs, hr, hrun, hended, hW, hsame⟩ := X91.leave (v := some (.int (1 : Int32))) (fun h => by rw [Bd.returns] at h; cases h)
          refine ⟨_, _, pre0 _ ?_, hrun, hended, _, _, rfl, ?_, ⟨_, rfl⟩, hW, hsame.mono (by decide) (by decide)⟩
          · show Steps p.tables e below (s₁.setTop (mkF m 0 #[.val (.int p0), .val (.int p1), .unset, .unset, .unset, .unset] [])) _
            refine XS.iloadN X0.here hx rfl (hb hby at_0) rfl ?_
            show Steps p.tables e below (s₁.setTop (mkF m 1 #[.val (.int p0), .val (.int p1), .unset, .unset, .unset, .unset] [(.int p0)])) _
            refine st82 _ ?_
            show Steps p.tables e below (T82.setTop (mkF m 4 #[.val (.int p0), .val (.int p1), .unset, .unset, .unset, .unset] [(.ref w_1)])) _
            refine XS.astoreN X82.here hx rfl (hb hby at_4) rfl rfl (l' := #[.val (.int p0), .val (.int p1), .val (.ref w_1), .unset, .unset, .unset]) rfl ?_
            show Steps p.tables e below (T82.setTop (mkF m 5 #[.val (.int p0), .val (.int p1), .val (.ref w_1), .unset, .unset, .unset] [])) _
            refine XS.iloadN X82.here hx rfl (hb hby at_5) rfl ?_
            show Steps p.tables e below (T82.setTop (mkF m 6 #[.val (.int p0), .val (.int p1), .val (.ref w_1), .unset, .unset, .unset] [(.int p1)])) _
            refine st83 _ ?_
            show Steps p.tables e below (T83.setTop (mkF m 9 #[.val (.int p0), .val (.int p1), .val (.ref w_1), .unset, .unset, .unset] [(.ref w_3)])) _
            refine XS.astoreN X83.here hx rfl (hb hby at_9) rfl rfl (l' := #[.val (.int p0), .val (.int p1), .val (.ref w_1), .val (.ref w_3), .unset, .unset]) rfl ?_
            show Steps p.tables e below (T83.setTop (mkF m 10 #[.val (.int p0), .val (.int p1), .val (.ref w_1), .val (.ref w_3), .unset, .unset] [])) _
            refine XS.aloadN X83.here hx rfl (hb hby at_10) rfl rfl ?_
            show Steps p.tables e below (T83.setTop (mkF m 11 #[.val (.int p0), .val (.int p1), .val (.ref w_1), .val (.ref w_3), .unset, .unset] [(.ref w_1)])) _
            refine st84 _ ?_
            show Steps p.tables e below (T84.setTop (mkF m 14 #[.val (.int p0), .val (.int p1), .val (.ref w_1), .val (.ref w_3), .unset, .unset] [(.ref w_3), (.ref w_1)])) _
            refine Jvm.RoadKit.acmp (g := (mkF m 14 #[.val (.int p0), .val (.int p1), .val (.ref w_1), .val (.ref w_3), .unset, .unset] [(.ref w_3), (.ref w_1)])) X84 hx rfl rfl rfl (pc0 := 14) (pc' := 17) (same := false) rfl (hb hby at_14) rfl (decide_eq_false fun q => (Fld.ne F_1_ordinal F_3_ordinal (by decide)) (Value.ref.inj q)) (by decide) (by decide) ?_
            show Steps p.tables e below (T84.setTop (mkF m 17 #[.val (.int p0), .val (.int p1), .val (.ref w_1), .val (.ref w_3), .unset, .unset] [])) _
            refine XS.aloadN X84.here hx rfl (hb hby at_17) rfl rfl ?_
            show Steps p.tables e below (T84.setTop (mkF m 18 #[.val (.int p0), .val (.int p1), .val (.ref w_1), .val (.ref w_3), .unset, .unset] [(.ref w_1)])) _
            refine st85 _ ?_
            show Steps p.tables e below (T85.setTop (mkF m 21 #[.val (.int p0), .val (.int p1), .val (.ref w_1), .val (.ref w_3), .unset, .unset] [(.ref w_2), (.ref w_1)])) _
            refine Jvm.RoadKit.acmp (g := (mkF m 21 #[.val (.int p0), .val (.int p1), .val (.ref w_1), .val (.ref w_3), .unset, .unset] [(.ref w_2), (.ref w_1)])) X85 hx rfl rfl rfl (pc0 := 21) (pc' := 28) (same := false) rfl (hb hby at_21) rfl (decide_eq_false fun q => (Fld.ne F_1_ordinal F_2_ordinal (by decide)) (Value.ref.inj q)) (by decide) (by decide) ?_
            show Steps p.tables e below (T85.setTop (mkF m 28 #[.val (.int p0), .val (.int p1), .val (.ref w_1), .val (.ref w_3), .unset, .unset] [])) _
            refine XS.iconst X85.here hx rfl (hb hby at_28) ?_
            show Steps p.tables e below (T85.setTop (mkF m 29 #[.val (.int p0), .val (.int p1), .val (.ref w_1), .val (.ref w_3), .unset, .unset] [(.int (0 : Int32))])) _
            refine XS.istore X85.here hx rfl (hb hby at_29) rfl (l' := #[.val (.int p0), .val (.int p1), .val (.ref w_1), .val (.ref w_3), .val (.int (0 : Int32)), .unset]) rfl ?_
            show Steps p.tables e below (T85.setTop (mkF m 31 #[.val (.int p0), .val (.int p1), .val (.ref w_1), .val (.ref w_3), .val (.int (0 : Int32)), .unset] [])) _
            refine XS.iload X85.here hx rfl (hb hby at_31) rfl ?_
            show Steps p.tables e below (T85.setTop (mkF m 33 #[.val (.int p0), .val (.int p1), .val (.ref w_1), .val (.ref w_3), .val (.int (0 : Int32)), .unset] [(.int (0 : Int32))])) _
            refine XS.ifNo X85.here hx rfl (hb hby at_33) rfl ((if0 _ _).trans (teq (by decide : ((0 : Int32) = (0 : Int32)))).2) ?_
            show Steps p.tables e below (T85.setTop (mkF m 36 #[.val (.int p0), .val (.int p1), .val (.ref w_1), .val (.ref w_3), .val (.int (0 : Int32)), .unset] [])) _
            refine XS.aloadN X85.here hx rfl (hb hby at_36) rfl rfl ?_
            show Steps p.tables e below (T85.setTop (mkF m 37 #[.val (.int p0), .val (.int p1), .val (.ref w_1), .val (.ref w_3), .val (.int (0 : Int32)), .unset] [(.ref w_1)])) _
            refine XS.aloadN X85.here hx rfl (hb hby at_37) rfl rfl ?_
            show Steps p.tables e below (T85.setTop (mkF m 38 #[.val (.int p0), .val (.int p1), .val (.ref w_1), .val (.ref w_3), .val (.int (0 : Int32)), .unset] [(.ref w_3), (.ref w_1)])) _
            refine Jvm.RoadKit.acmp (g := (mkF m 38 #[.val (.int p0), .val (.int p1), .val (.ref w_1), .val (.ref w_3), .val (.int (0 : Int32)), .unset] [(.ref w_3), (.ref w_1)])) X85 hx rfl rfl rfl (pc0 := 38) (pc' := 45) (same := false) rfl (hb hby at_38) rfl (decide_eq_false fun q => (Fld.ne F_1_ordinal F_3_ordinal (by decide)) (Value.ref.inj q)) (by decide) (by decide) ?_
            show Steps p.tables e below (T85.setTop (mkF m 45 #[.val (.int p0), .val (.int p1), .val (.ref w_1), .val (.ref w_3), .val (.int (0 : Int32)), .unset] [])) _
            refine XS.iconst X85.here hx rfl (hb hby at_45) ?_
            show Steps p.tables e below (T85.setTop (mkF m 46 #[.val (.int p0), .val (.int p1), .val (.ref w_1), .val (.ref w_3), .val (.int (0 : Int32)), .unset] [(.int (0 : Int32))])) _
            refine XS.istore X85.here hx rfl (hb hby at_46) rfl (l' := #[.val (.int p0), .val (.int p1), .val (.ref w_1), .val (.ref w_3), .val (.int (0 : Int32)), .val (.int (0 : Int32))]) rfl ?_
            show Steps p.tables e below (T85.setTop (mkF m 48 #[.val (.int p0), .val (.int p1), .val (.ref w_1), .val (.ref w_3), .val (.int (0 : Int32)), .val (.int (0 : Int32))] [])) _
            refine XS.aloadN X85.here hx rfl (hb hby at_48) rfl rfl ?_
            show Steps p.tables e below (T85.setTop (mkF m 49 #[.val (.int p0), .val (.int p1), .val (.ref w_1), .val (.ref w_3), .val (.int (0 : Int32)), .val (.int (0 : Int32))] [(.ref w_1)])) _
            refine XS.aloadN X85.here hx rfl (hb hby at_49) rfl rfl ?_
            show Steps p.tables e below (T85.setTop (mkF m 50 #[.val (.int p0), .val (.int p1), .val (.ref w_1), .val (.ref w_3), .val (.int (0 : Int32)), .val (.int (0 : Int32))] [(.ref w_3), (.ref w_1)])) _
            refine st91.trans ?_
            show Steps p.tables e below (T91.setTop (mkF m 53 #[.val (.int p0), .val (.int p1), .val (.ref w_1), .val (.ref w_3), .val (.int (0 : Int32)), .val (.int (0 : Int32))] [(.int (0 : Int32))])) _
            refine XS.iload X91.here hx rfl (hb hby at_53) rfl ?_
            show Steps p.tables e below (T91.setTop (mkF m 55 #[.val (.int p0), .val (.int p1), .val (.ref w_1), .val (.ref w_3), .val (.int (0 : Int32)), .val (.int (0 : Int32))] [(.int (0 : Int32)), (.int (0 : Int32))])) _
            refine XS.icmpNo X91.here hx rfl (hb hby at_55) rfl (teq (by decide : ((0 : Int32) = (0 : Int32)))).2 ?_
            show Steps p.tables e below (T91.setTop (mkF m 58 #[.val (.int p0), .val (.int p1), .val (.ref w_1), .val (.ref w_3), .val (.int (0 : Int32)), .val (.int (0 : Int32))] [])) _
            refine XS.iconst X91.here hx rfl (hb hby at_58) ?_
            show Steps p.tables e below (T91.setTop (mkF m 59 #[.val (.int p0), .val (.int p1), .val (.ref w_1), .val (.ref w_3), .val (.int (0 : Int32)), .val (.int (0 : Int32))] [(.int (1 : Int32))])) _
            refine XS.goto X91.here hx rfl (pc0 := 59) (pc' := 63) rfl (hb hby at_59) (by decide) (by decide) ?_
            show Steps p.tables e below (T91.setTop (mkF m 63 #[.val (.int p0), .val (.int p1), .val (.ref w_1), .val (.ref w_3), .val (.int (0 : Int32)), .val (.int (0 : Int32))] [(.int (1 : Int32))])) _
            exact retN X91 hx (t := .boolean) Bd.returns (by simp) (hb hby at_63) hr
          · show Q0 Z w_1 w_2 w_3 w_4 w_5 k_4 p0 p1 h0 n0 _ T91.heap _
            rw [e91]
            exact ⟨by unfold sp0; rw [if_pos hc35, if_neg hc36, if_neg hc70, if_pos hc81], N91, rfl⟩
        · have hL92 : (p1 &&& (3 : Int32)) = (3 : Int32) := by
            have r : 0 ≤ ((p1 &&& (3 : Int32))).toInt ∧ ((p1 &&& (3 : Int32))).toInt < 4 := (own_rand p1 (3 : Int32) 4 (by decide) (by decide))
            have q0 := own_ne hc36 (n := 0) (by decide)
            have q1 := own_ne hc70 (n := 1) (by decide)
            have q2 := own_ne hc81 (n := 2) (by decide)
            exact own_eq (n := 3) (by decide) (by omega)
          obtain ⟨_, _, ⟨T93, L93, k93, n93⟩, -, X93, ⟨Lc93, hQ93, l93, y93, z93⟩, st93⟩ := Jvm.LawKit.callS X0 hx (y := Y0) hown (mvT hZ (hw _ (tk 0 rfl))) (mvT hZ (hw _ (tk 1 rfl))) (mvT hZ (hw _ (tk 2 rfl))) (mvT hZ (hw _ (tk 3 rfl))) (by decide) (backOf (W := 0) (rm1 l Z a0 hw [] w_1 w_2 w_3 w_4 w_5 k_4 hS0 p0 h0 n0 O0) hZ (hw _ (tk 3 rfl)) (hw _ (tk 2 rfl)) (by decide) (by decide)) (g := (mkF m 1 #[.val (.int p0), .val (.int p1), .unset, .unset, .unset, .unset] [(.int p0)])) rfl (by rw [hml]; rfl) (argsL := [(.int p0)]) (rest := []) (lenOf pd_0 rfl) rfl (by show 2 * 0 + _ ≤ _; exact Nat.le_of_eq rfl) (hb hby at_1) (fun _ _ => ⟨rfl, e0, (by decide : 0 + 0 ≤ _), (by decide : 0 + 0 ≤ _)⟩)
          dsimp only [Pt.U, Pt.locs, Pt.cells, Pt.slots] at X93 l93 y93 z93 st93 hQ93
          subst l93 y93 z93
          obtain ⟨rv93, N93q, e93⟩ := hQ93
          rw [show sp1 w_1 w_2 w_3 w_5 p0 = (.ref w_1) from by unfold sp1; rw [if_pos hc35]] at rv93
          subst rv93
          have N93 := Fr.app N0 N93q
          obtain ⟨_, _, ⟨T94, L94, k94, n94⟩, -, X94, ⟨Lc94, hQ94, l94, y94, z94⟩, st94⟩ := Jvm.LawKit.callS X93 hx (y := Y0) hown (mvT hZ (hw _ (tk 0 rfl))) (mvT hZ (hw _ (tk 1 rfl))) (mvT hZ (hw _ (tk 2 rfl))) (mvT hZ (hw _ (tk 3 rfl))) (by decide) (backOf (W := 0) (rm1 l Z a0 hw [] w_1 w_2 w_3 w_4 w_5 k_4 hS0 p1 h0 n0 O0) hZ (hw _ (tk 3 rfl)) (hw _ (tk 2 rfl)) (by decide) (by decide)) (g := (mkF m 6 #[.val (.int p0), .val (.int p1), .val (.ref w_1), .unset, .unset, .unset] [(.int p1)])) rfl (by rw [hml]; rfl) (argsL := [(.int p1)]) (rest := []) (lenOf pd_0 rfl) rfl (by show 2 * 0 + _ ≤ _; exact Nat.le_of_eq rfl) (hb hby at_6) (fun _ _ => ⟨rfl, e93, (by decide : 0 + 0 ≤ _), (by decide : 0 + 0 ≤ _)⟩)
          dsimp only [Pt.U, Pt.locs, Pt.cells, Pt.slots] at X94 l94 y94 z94 st94 hQ94
          subst l94 y94 z94
          obtain ⟨rv94, N94q, e94⟩ := hQ94
          rw [show sp1 w_1 w_2 w_3 w_5 p1 = (.ref w_2) from by unfold sp1; rw [if_neg hc36, if_neg hc70, if_neg hc81]] at rv94
          subst rv94
          have N94 := Fr.app N93 N94q
          obtain ⟨T95, X95, e95, st95⟩ := getS2 X94 hx hZ hown (host := "") (Or.inl (hw _ (tk 9 rfl))) Via.refl e94 (S_3.ext O0.2) (g := (mkF m 11 #[.val (.int p0), .val (.int p1), .val (.ref w_1), .val (.ref w_2), .unset, .unset] [(.ref w_1)])) rfl (hb hby at_11)
          obtain ⟨T96, X96, e96, st96⟩ := getS2 X95 hx hZ hown (host := "") (Or.inl (hw _ (tk 7 rfl))) Via.refl e95 (S_2.ext O0.2) (g := (mkF m 18 #[.val (.int p0), .val (.int p1), .val (.ref w_1), .val (.ref w_2), .unset, .unset] [(.ref w_1)])) rfl (hb hby at_18)
          obtain ⟨cq102, kq102, q102a, q102b, q102c⟩ := isOf hZ e96 (E_1.ext O0.2)
          obtain ⟨_, _, ⟨T102, L102, k102, n102⟩, -, X102, ⟨Lc102, hQ102, l102, y102, z102⟩, st102⟩ := X96.virtualBack hx (y := Y2) (z := Y2) hown (mvT hZ (hw _ (tk 11 rfl))) (mvT hZ (hw _ (tk 12 rfl))) (notFace_of_selects (args := #[]) (mvT hZ (hw _ (tk 14 rfl)))) (mvT hZ (hw _ (tk 14 rfl))) (mvT hZ (hw _ (tk 13 rfl))) (by decide) (backOf (W := 0) (rm2x4 l Z a0 hw [] w_1 w_2 w_3 w_4 w_5 k_4 hS0 h0 n0 O0) hZ (hw _ (tk 15 rfl)) (hw _ (tk 5 rfl)) (by decide) (by decide)) q102a q102c (g := (mkF m 50 #[.val (.int p0), .val (.int p1), .val (.ref w_1), .val (.ref w_2), .val (.int (0 : Int32)), .val (.int (0 : Int32))] [(.ref w_2), (.ref w_1)])) rfl (by rw [hml]; rfl) (Steps.refl _) (argsL := [(.ref w_2)]) (rest := []) (lenOf pd_1 rfl) rfl (by show 2 * 0 + _ ≤ _; exact Nat.le_of_eq rfl) (hb hby at_50) (fun _ _ => ⟨rfl, e96, (by decide : 0 + 0 ≤ _), (by decide : 0 + 0 ≤ _)⟩)
          dsimp only [Pt.U, Pt.locs, Pt.cells, Pt.slots] at X102 l102 y102 z102 st102 hQ102
          subst l102 y102 z102
          obtain ⟨rv102, N102q, e102⟩ := hQ102
          rw [show sp2x4 = (0 : Int32) from by unfold sp2x4; rfl] at rv102
          subst rv102
          have N102 := Fr.app N94 N102q
          obtain ⟨fs, hr, hrun, hended, hW, hsame⟩ := X102.leave (v := some (.int (1 : Int32))) (fun h => by rw [Bd.returns] at h; cases h)
          refine ⟨_, _, pre0 _ ?_, hrun, hended, _, _, rfl, ?_, ⟨_, rfl⟩, hW, hsame.mono (by decide) (by decide)⟩
          · show Steps p.tables e below (s₁.setTop (mkF m 0 #[.val (.int p0), .val (.int p1), .unset, .unset, .unset, .unset] [])) _
            refine XS.iloadN X0.here hx rfl (hb hby at_0) rfl ?_
            show Steps p.tables e below (s₁.setTop (mkF m 1 #[.val (.int p0), .val (.int p1), .unset, .unset, .unset, .unset] [(.int p0)])) _
            refine st93 _ ?_
            show Steps p.tables e below (T93.setTop (mkF m 4 #[.val (.int p0), .val (.int p1), .unset, .unset, .unset, .unset] [(.ref w_1)])) _
            refine XS.astoreN X93.here hx rfl (hb hby at_4) rfl rfl (l' := #[.val (.int p0), .val (.int p1), .val (.ref w_1), .unset, .unset, .unset]) rfl ?_
            show Steps p.tables e below (T93.setTop (mkF m 5 #[.val (.int p0), .val (.int p1), .val (.ref w_1), .unset, .unset, .unset] [])) _
            refine XS.iloadN X93.here hx rfl (hb hby at_5) rfl ?_
            show Steps p.tables e below (T93.setTop (mkF m 6 #[.val (.int p0), .val (.int p1), .val (.ref w_1), .unset, .unset, .unset] [(.int p1)])) _
            refine st94 _ ?_
            show Steps p.tables e below (T94.setTop (mkF m 9 #[.val (.int p0), .val (.int p1), .val (.ref w_1), .unset, .unset, .unset] [(.ref w_2)])) _
            refine XS.astoreN X94.here hx rfl (hb hby at_9) rfl rfl (l' := #[.val (.int p0), .val (.int p1), .val (.ref w_1), .val (.ref w_2), .unset, .unset]) rfl ?_
            show Steps p.tables e below (T94.setTop (mkF m 10 #[.val (.int p0), .val (.int p1), .val (.ref w_1), .val (.ref w_2), .unset, .unset] [])) _
            refine XS.aloadN X94.here hx rfl (hb hby at_10) rfl rfl ?_
            show Steps p.tables e below (T94.setTop (mkF m 11 #[.val (.int p0), .val (.int p1), .val (.ref w_1), .val (.ref w_2), .unset, .unset] [(.ref w_1)])) _
            refine st95 _ ?_
            show Steps p.tables e below (T95.setTop (mkF m 14 #[.val (.int p0), .val (.int p1), .val (.ref w_1), .val (.ref w_2), .unset, .unset] [(.ref w_3), (.ref w_1)])) _
            refine Jvm.RoadKit.acmp (g := (mkF m 14 #[.val (.int p0), .val (.int p1), .val (.ref w_1), .val (.ref w_2), .unset, .unset] [(.ref w_3), (.ref w_1)])) X95 hx rfl rfl rfl (pc0 := 14) (pc' := 17) (same := false) rfl (hb hby at_14) rfl (decide_eq_false fun q => (Fld.ne F_1_ordinal F_3_ordinal (by decide)) (Value.ref.inj q)) (by decide) (by decide) ?_
            show Steps p.tables e below (T95.setTop (mkF m 17 #[.val (.int p0), .val (.int p1), .val (.ref w_1), .val (.ref w_2), .unset, .unset] [])) _
            refine XS.aloadN X95.here hx rfl (hb hby at_17) rfl rfl ?_
            show Steps p.tables e below (T95.setTop (mkF m 18 #[.val (.int p0), .val (.int p1), .val (.ref w_1), .val (.ref w_2), .unset, .unset] [(.ref w_1)])) _
            refine st96 _ ?_
            show Steps p.tables e below (T96.setTop (mkF m 21 #[.val (.int p0), .val (.int p1), .val (.ref w_1), .val (.ref w_2), .unset, .unset] [(.ref w_2), (.ref w_1)])) _
            refine Jvm.RoadKit.acmp (g := (mkF m 21 #[.val (.int p0), .val (.int p1), .val (.ref w_1), .val (.ref w_2), .unset, .unset] [(.ref w_2), (.ref w_1)])) X96 hx rfl rfl rfl (pc0 := 21) (pc' := 28) (same := false) rfl (hb hby at_21) rfl (decide_eq_false fun q => (Fld.ne F_1_ordinal F_2_ordinal (by decide)) (Value.ref.inj q)) (by decide) (by decide) ?_
            show Steps p.tables e below (T96.setTop (mkF m 28 #[.val (.int p0), .val (.int p1), .val (.ref w_1), .val (.ref w_2), .unset, .unset] [])) _
            refine XS.iconst X96.here hx rfl (hb hby at_28) ?_
            show Steps p.tables e below (T96.setTop (mkF m 29 #[.val (.int p0), .val (.int p1), .val (.ref w_1), .val (.ref w_2), .unset, .unset] [(.int (0 : Int32))])) _
            refine XS.istore X96.here hx rfl (hb hby at_29) rfl (l' := #[.val (.int p0), .val (.int p1), .val (.ref w_1), .val (.ref w_2), .val (.int (0 : Int32)), .unset]) rfl ?_
            show Steps p.tables e below (T96.setTop (mkF m 31 #[.val (.int p0), .val (.int p1), .val (.ref w_1), .val (.ref w_2), .val (.int (0 : Int32)), .unset] [])) _
            refine XS.iload X96.here hx rfl (hb hby at_31) rfl ?_
            show Steps p.tables e below (T96.setTop (mkF m 33 #[.val (.int p0), .val (.int p1), .val (.ref w_1), .val (.ref w_2), .val (.int (0 : Int32)), .unset] [(.int (0 : Int32))])) _
            refine XS.ifNo X96.here hx rfl (hb hby at_33) rfl ((if0 _ _).trans (teq (by decide : ((0 : Int32) = (0 : Int32)))).2) ?_
            show Steps p.tables e below (T96.setTop (mkF m 36 #[.val (.int p0), .val (.int p1), .val (.ref w_1), .val (.ref w_2), .val (.int (0 : Int32)), .unset] [])) _
            refine XS.aloadN X96.here hx rfl (hb hby at_36) rfl rfl ?_
            show Steps p.tables e below (T96.setTop (mkF m 37 #[.val (.int p0), .val (.int p1), .val (.ref w_1), .val (.ref w_2), .val (.int (0 : Int32)), .unset] [(.ref w_1)])) _
            refine XS.aloadN X96.here hx rfl (hb hby at_37) rfl rfl ?_
            show Steps p.tables e below (T96.setTop (mkF m 38 #[.val (.int p0), .val (.int p1), .val (.ref w_1), .val (.ref w_2), .val (.int (0 : Int32)), .unset] [(.ref w_2), (.ref w_1)])) _
            refine Jvm.RoadKit.acmp (g := (mkF m 38 #[.val (.int p0), .val (.int p1), .val (.ref w_1), .val (.ref w_2), .val (.int (0 : Int32)), .unset] [(.ref w_2), (.ref w_1)])) X96 hx rfl rfl rfl (pc0 := 38) (pc' := 45) (same := false) rfl (hb hby at_38) rfl (decide_eq_false fun q => (Fld.ne F_1_ordinal F_2_ordinal (by decide)) (Value.ref.inj q)) (by decide) (by decide) ?_
            show Steps p.tables e below (T96.setTop (mkF m 45 #[.val (.int p0), .val (.int p1), .val (.ref w_1), .val (.ref w_2), .val (.int (0 : Int32)), .unset] [])) _
            refine XS.iconst X96.here hx rfl (hb hby at_45) ?_
            show Steps p.tables e below (T96.setTop (mkF m 46 #[.val (.int p0), .val (.int p1), .val (.ref w_1), .val (.ref w_2), .val (.int (0 : Int32)), .unset] [(.int (0 : Int32))])) _
            refine XS.istore X96.here hx rfl (hb hby at_46) rfl (l' := #[.val (.int p0), .val (.int p1), .val (.ref w_1), .val (.ref w_2), .val (.int (0 : Int32)), .val (.int (0 : Int32))]) rfl ?_
            show Steps p.tables e below (T96.setTop (mkF m 48 #[.val (.int p0), .val (.int p1), .val (.ref w_1), .val (.ref w_2), .val (.int (0 : Int32)), .val (.int (0 : Int32))] [])) _
            refine XS.aloadN X96.here hx rfl (hb hby at_48) rfl rfl ?_
            show Steps p.tables e below (T96.setTop (mkF m 49 #[.val (.int p0), .val (.int p1), .val (.ref w_1), .val (.ref w_2), .val (.int (0 : Int32)), .val (.int (0 : Int32))] [(.ref w_1)])) _
            refine XS.aloadN X96.here hx rfl (hb hby at_49) rfl rfl ?_
            show Steps p.tables e below (T96.setTop (mkF m 50 #[.val (.int p0), .val (.int p1), .val (.ref w_1), .val (.ref w_2), .val (.int (0 : Int32)), .val (.int (0 : Int32))] [(.ref w_2), (.ref w_1)])) _
            refine st102.trans ?_
            show Steps p.tables e below (T102.setTop (mkF m 53 #[.val (.int p0), .val (.int p1), .val (.ref w_1), .val (.ref w_2), .val (.int (0 : Int32)), .val (.int (0 : Int32))] [(.int (0 : Int32))])) _
            refine XS.iload X102.here hx rfl (hb hby at_53) rfl ?_
            show Steps p.tables e below (T102.setTop (mkF m 55 #[.val (.int p0), .val (.int p1), .val (.ref w_1), .val (.ref w_2), .val (.int (0 : Int32)), .val (.int (0 : Int32))] [(.int (0 : Int32)), (.int (0 : Int32))])) _
            refine XS.icmpNo X102.here hx rfl (hb hby at_55) rfl (teq (by decide : ((0 : Int32) = (0 : Int32)))).2 ?_
            show Steps p.tables e below (T102.setTop (mkF m 58 #[.val (.int p0), .val (.int p1), .val (.ref w_1), .val (.ref w_2), .val (.int (0 : Int32)), .val (.int (0 : Int32))] [])) _
            refine XS.iconst X102.here hx rfl (hb hby at_58) ?_
            show Steps p.tables e below (T102.setTop (mkF m 59 #[.val (.int p0), .val (.int p1), .val (.ref w_1), .val (.ref w_2), .val (.int (0 : Int32)), .val (.int (0 : Int32))] [(.int (1 : Int32))])) _
            refine XS.goto X102.here hx rfl (pc0 := 59) (pc' := 63) rfl (hb hby at_59) (by decide) (by decide) ?_
            show Steps p.tables e below (T102.setTop (mkF m 63 #[.val (.int p0), .val (.int p1), .val (.ref w_1), .val (.ref w_2), .val (.int (0 : Int32)), .val (.int (0 : Int32))] [(.int (1 : Int32))])) _
            exact retN X102 hx (t := .boolean) Bd.returns (by simp) (hb hby at_63) hr
          · show Q0 Z w_1 w_2 w_3 w_4 w_5 k_4 p0 p1 h0 n0 _ T102.heap _
            rw [e102]
            exact ⟨by unfold sp0; rw [if_pos hc35, if_neg hc36, if_neg hc70, if_neg hc81], N102, rfl⟩
  · by_cases hc103 : (p0 &&& (3 : Int32)) = (1 : Int32)
    · by_cases hc104 : (p1 &&& (3 : Int32)) = (0 : Int32)
      · obtain ⟨_, _, ⟨T105, L105, k105, n105⟩, -, X105, ⟨Lc105, hQ105, l105, y105, z105⟩, st105⟩ := Jvm.LawKit.callS X0 hx (y := Y0) hown (mvT hZ (hw _ (tk 0 rfl))) (mvT hZ (hw _ (tk 1 rfl))) (mvT hZ (hw _ (tk 2 rfl))) (mvT hZ (hw _ (tk 3 rfl))) (by decide) (backOf (W := 0) (rm1 l Z a0 hw [] w_1 w_2 w_3 w_4 w_5 k_4 hS0 p0 h0 n0 O0) hZ (hw _ (tk 3 rfl)) (hw _ (tk 2 rfl)) (by decide) (by decide)) (g := (mkF m 1 #[.val (.int p0), .val (.int p1), .unset, .unset, .unset, .unset] [(.int p0)])) rfl (by rw [hml]; rfl) (argsL := [(.int p0)]) (rest := []) (lenOf pd_0 rfl) rfl (by show 2 * 0 + _ ≤ _; exact Nat.le_of_eq rfl) (hb hby at_1) (fun _ _ => ⟨rfl, e0, (by decide : 0 + 0 ≤ _), (by decide : 0 + 0 ≤ _)⟩)
        dsimp only [Pt.U, Pt.locs, Pt.cells, Pt.slots] at X105 l105 y105 z105 st105 hQ105
        subst l105 y105 z105
        obtain ⟨rv105, N105q, e105⟩ := hQ105
        rw [show sp1 w_1 w_2 w_3 w_5 p0 = (.ref w_5) from by unfold sp1; rw [if_neg hc35, if_pos hc103]] at rv105
        subst rv105
        have N105 := Fr.app N0 N105q
        obtain ⟨_, _, ⟨T106, L106, k106, n106⟩, -, X106, ⟨Lc106, hQ106, l106, y106, z106⟩, st106⟩ := Jvm.LawKit.callS X105 hx (y := Y0) hown (mvT hZ (hw _ (tk 0 rfl))) (mvT hZ (hw _ (tk 1 rfl))) (mvT hZ (hw _ (tk 2 rfl))) (mvT hZ (hw _ (tk 3 rfl))) (by decide) (backOf (W := 0) (rm1 l Z a0 hw [] w_1 w_2 w_3 w_4 w_5 k_4 hS0 p1 h0 n0 O0) hZ (hw _ (tk 3 rfl)) (hw _ (tk 2 rfl)) (by decide) (by decide)) (g := (mkF m 6 #[.val (.int p0), .val (.int p1), .val (.ref w_5), .unset, .unset, .unset] [(.int p1)])) rfl (by rw [hml]; rfl) (argsL := [(.int p1)]) (rest := []) (lenOf pd_0 rfl) rfl (by show 2 * 0 + _ ≤ _; exact Nat.le_of_eq rfl) (hb hby at_6) (fun _ _ => ⟨rfl, e105, (by decide : 0 + 0 ≤ _), (by decide : 0 + 0 ≤ _)⟩)
        dsimp only [Pt.U, Pt.locs, Pt.cells, Pt.slots] at X106 l106 y106 z106 st106 hQ106
        subst l106 y106 z106
        obtain ⟨rv106, N106q, e106⟩ := hQ106
        rw [show sp1 w_1 w_2 w_3 w_5 p1 = (.ref w_1) from by unfold sp1; rw [if_pos hc104]] at rv106
        subst rv106
        have N106 := Fr.app N105 N106q
        obtain ⟨T107, X107, e107, st107⟩ := getS2 X106 hx hZ hown (host := "") (Or.inl (hw _ (tk 9 rfl))) Via.refl e106 (S_3.ext O0.2) (g := (mkF m 11 #[.val (.int p0), .val (.int p1), .val (.ref w_5), .val (.ref w_1), .unset, .unset] [(.ref w_5)])) rfl (hb hby at_11)
        obtain ⟨T108, X108, e108, st108⟩ := getS2 X107 hx hZ hown (host := "") (Or.inl (hw _ (tk 7 rfl))) Via.refl e107 (S_2.ext O0.2) (g := (mkF m 18 #[.val (.int p0), .val (.int p1), .val (.ref w_5), .val (.ref w_1), .unset, .unset] [(.ref w_5)])) rfl (hb hby at_18)
        obtain ⟨cq116, kq116, q116a, q116b, q116c⟩ := isOf hZ e108 (E_5.ext O0.2)
        obtain ⟨_, _, ⟨T116, L116, k116, n116⟩, -, X116, ⟨Lc116, hQ116, l116, y116, z116⟩, st116⟩ := X108.virtualBack hx (y := Y2) (z := Y2) hown (mvT hZ (hw _ (tk 11 rfl))) (mvT hZ (hw _ (tk 12 rfl))) (notFace_of_selects (args := #[]) (mvT hZ (hw _ (tk 14 rfl)))) (mvT hZ (hw _ (tk 14 rfl))) (mvT hZ (hw _ (tk 13 rfl))) (by decide) (backOf (W := 0) (rm2x5 l Z a0 hw [] w_1 w_2 w_3 w_4 w_5 k_4 hS0 h0 n0 O0) hZ (hw _ (tk 15 rfl)) (hw _ (tk 5 rfl)) (by decide) (by decide)) q116a q116c (g := (mkF m 50 #[.val (.int p0), .val (.int p1), .val (.ref w_5), .val (.ref w_1), .val (.int (0 : Int32)), .val (.int (0 : Int32))] [(.ref w_1), (.ref w_5)])) rfl (by rw [hml]; rfl) (Steps.refl _) (argsL := [(.ref w_1)]) (rest := []) (lenOf pd_1 rfl) rfl (by show 2 * 0 + _ ≤ _; exact Nat.le_of_eq rfl) (hb hby at_50) (fun _ _ => ⟨rfl, e108, (by decide : 0 + 0 ≤ _), (by decide : 0 + 0 ≤ _)⟩)
        dsimp only [Pt.U, Pt.locs, Pt.cells, Pt.slots] at X116 l116 y116 z116 st116 hQ116
        subst l116 y116 z116
        obtain ⟨rv116, N116q, e116⟩ := hQ116
        rw [show sp2x5 = (0 : Int32) from by unfold sp2x5; rfl] at rv116
        subst rv116
        have N116 := Fr.app N106 N116q
        obtain ⟨fs, hr, hrun, hended, hW, hsame⟩ := X116.leave (v := some (.int (1 : Int32))) (fun h => by rw [Bd.returns] at h; cases h)
        refine ⟨_, _, pre0 _ ?_, hrun, hended, _, _, rfl, ?_, ⟨_, rfl⟩, hW, hsame.mono (by decide) (by decide)⟩
        · show Steps p.tables e below (s₁.setTop (mkF m 0 #[.val (.int p0), .val (.int p1), .unset, .unset, .unset, .unset] [])) _
          refine XS.iloadN X0.here hx rfl (hb hby at_0) rfl ?_
          show Steps p.tables e below (s₁.setTop (mkF m 1 #[.val (.int p0), .val (.int p1), .unset, .unset, .unset, .unset] [(.int p0)])) _
          refine st105 _ ?_
          show Steps p.tables e below (T105.setTop (mkF m 4 #[.val (.int p0), .val (.int p1), .unset, .unset, .unset, .unset] [(.ref w_5)])) _
          refine XS.astoreN X105.here hx rfl (hb hby at_4) rfl rfl (l' := #[.val (.int p0), .val (.int p1), .val (.ref w_5), .unset, .unset, .unset]) rfl ?_
          show Steps p.tables e below (T105.setTop (mkF m 5 #[.val (.int p0), .val (.int p1), .val (.ref w_5), .unset, .unset, .unset] [])) _
          refine XS.iloadN X105.here hx rfl (hb hby at_5) rfl ?_
          show Steps p.tables e below (T105.setTop (mkF m 6 #[.val (.int p0), .val (.int p1), .val (.ref w_5), .unset, .unset, .unset] [(.int p1)])) _
          refine st106 _ ?_
          show Steps p.tables e below (T106.setTop (mkF m 9 #[.val (.int p0), .val (.int p1), .val (.ref w_5), .unset, .unset, .unset] [(.ref w_1)])) _
          refine XS.astoreN X106.here hx rfl (hb hby at_9) rfl rfl (l' := #[.val (.int p0), .val (.int p1), .val (.ref w_5), .val (.ref w_1), .unset, .unset]) rfl ?_
          show Steps p.tables e below (T106.setTop (mkF m 10 #[.val (.int p0), .val (.int p1), .val (.ref w_5), .val (.ref w_1), .unset, .unset] [])) _
          refine XS.aloadN X106.here hx rfl (hb hby at_10) rfl rfl ?_
          show Steps p.tables e below (T106.setTop (mkF m 11 #[.val (.int p0), .val (.int p1), .val (.ref w_5), .val (.ref w_1), .unset, .unset] [(.ref w_5)])) _
          refine st107 _ ?_
          show Steps p.tables e below (T107.setTop (mkF m 14 #[.val (.int p0), .val (.int p1), .val (.ref w_5), .val (.ref w_1), .unset, .unset] [(.ref w_3), (.ref w_5)])) _
          refine Jvm.RoadKit.acmp (g := (mkF m 14 #[.val (.int p0), .val (.int p1), .val (.ref w_5), .val (.ref w_1), .unset, .unset] [(.ref w_3), (.ref w_5)])) X107 hx rfl rfl rfl (pc0 := 14) (pc' := 17) (same := false) rfl (hb hby at_14) rfl (decide_eq_false fun q => (Fld.ne F_5_ordinal F_3_ordinal (by decide)) (Value.ref.inj q)) (by decide) (by decide) ?_
          show Steps p.tables e below (T107.setTop (mkF m 17 #[.val (.int p0), .val (.int p1), .val (.ref w_5), .val (.ref w_1), .unset, .unset] [])) _
          refine XS.aloadN X107.here hx rfl (hb hby at_17) rfl rfl ?_
          show Steps p.tables e below (T107.setTop (mkF m 18 #[.val (.int p0), .val (.int p1), .val (.ref w_5), .val (.ref w_1), .unset, .unset] [(.ref w_5)])) _
          refine st108 _ ?_
          show Steps p.tables e below (T108.setTop (mkF m 21 #[.val (.int p0), .val (.int p1), .val (.ref w_5), .val (.ref w_1), .unset, .unset] [(.ref w_2), (.ref w_5)])) _
          refine Jvm.RoadKit.acmp (g := (mkF m 21 #[.val (.int p0), .val (.int p1), .val (.ref w_5), .val (.ref w_1), .unset, .unset] [(.ref w_2), (.ref w_5)])) X108 hx rfl rfl rfl (pc0 := 21) (pc' := 28) (same := false) rfl (hb hby at_21) rfl (decide_eq_false fun q => (Fld.ne F_5_ordinal F_2_ordinal (by decide)) (Value.ref.inj q)) (by decide) (by decide) ?_
          show Steps p.tables e below (T108.setTop (mkF m 28 #[.val (.int p0), .val (.int p1), .val (.ref w_5), .val (.ref w_1), .unset, .unset] [])) _
          refine XS.iconst X108.here hx rfl (hb hby at_28) ?_
          show Steps p.tables e below (T108.setTop (mkF m 29 #[.val (.int p0), .val (.int p1), .val (.ref w_5), .val (.ref w_1), .unset, .unset] [(.int (0 : Int32))])) _
          refine XS.istore X108.here hx rfl (hb hby at_29) rfl (l' := #[.val (.int p0), .val (.int p1), .val (.ref w_5), .val (.ref w_1), .val (.int (0 : Int32)), .unset]) rfl ?_
          show Steps p.tables e below (T108.setTop (mkF m 31 #[.val (.int p0), .val (.int p1), .val (.ref w_5), .val (.ref w_1), .val (.int (0 : Int32)), .unset] [])) _
          refine XS.iload X108.here hx rfl (hb hby at_31) rfl ?_
          show Steps p.tables e below (T108.setTop (mkF m 33 #[.val (.int p0), .val (.int p1), .val (.ref w_5), .val (.ref w_1), .val (.int (0 : Int32)), .unset] [(.int (0 : Int32))])) _
          refine XS.ifNo X108.here hx rfl (hb hby at_33) rfl ((if0 _ _).trans (teq (by decide : ((0 : Int32) = (0 : Int32)))).2) ?_
          show Steps p.tables e below (T108.setTop (mkF m 36 #[.val (.int p0), .val (.int p1), .val (.ref w_5), .val (.ref w_1), .val (.int (0 : Int32)), .unset] [])) _
          refine XS.aloadN X108.here hx rfl (hb hby at_36) rfl rfl ?_
          show Steps p.tables e below (T108.setTop (mkF m 37 #[.val (.int p0), .val (.int p1), .val (.ref w_5), .val (.ref w_1), .val (.int (0 : Int32)), .unset] [(.ref w_5)])) _
          refine XS.aloadN X108.here hx rfl (hb hby at_37) rfl rfl ?_
          show Steps p.tables e below (T108.setTop (mkF m 38 #[.val (.int p0), .val (.int p1), .val (.ref w_5), .val (.ref w_1), .val (.int (0 : Int32)), .unset] [(.ref w_1), (.ref w_5)])) _
          refine Jvm.RoadKit.acmp (g := (mkF m 38 #[.val (.int p0), .val (.int p1), .val (.ref w_5), .val (.ref w_1), .val (.int (0 : Int32)), .unset] [(.ref w_1), (.ref w_5)])) X108 hx rfl rfl rfl (pc0 := 38) (pc' := 45) (same := false) rfl (hb hby at_38) rfl (decide_eq_false fun q => (Fld.ne F_5_ordinal F_1_ordinal (by decide)) (Value.ref.inj q)) (by decide) (by decide) ?_
          show Steps p.tables e below (T108.setTop (mkF m 45 #[.val (.int p0), .val (.int p1), .val (.ref w_5), .val (.ref w_1), .val (.int (0 : Int32)), .unset] [])) _
          refine XS.iconst X108.here hx rfl (hb hby at_45) ?_
          show Steps p.tables e below (T108.setTop (mkF m 46 #[.val (.int p0), .val (.int p1), .val (.ref w_5), .val (.ref w_1), .val (.int (0 : Int32)), .unset] [(.int (0 : Int32))])) _
          refine XS.istore X108.here hx rfl (hb hby at_46) rfl (l' := #[.val (.int p0), .val (.int p1), .val (.ref w_5), .val (.ref w_1), .val (.int (0 : Int32)), .val (.int (0 : Int32))]) rfl ?_
          show Steps p.tables e below (T108.setTop (mkF m 48 #[.val (.int p0), .val (.int p1), .val (.ref w_5), .val (.ref w_1), .val (.int (0 : Int32)), .val (.int (0 : Int32))] [])) _
          refine XS.aloadN X108.here hx rfl (hb hby at_48) rfl rfl ?_
          show Steps p.tables e below (T108.setTop (mkF m 49 #[.val (.int p0), .val (.int p1), .val (.ref w_5), .val (.ref w_1), .val (.int (0 : Int32)), .val (.int (0 : Int32))] [(.ref w_5)])) _
          refine XS.aloadN X108.here hx rfl (hb hby at_49) rfl rfl ?_
          show Steps p.tables e below (T108.setTop (mkF m 50 #[.val (.int p0), .val (.int p1), .val (.ref w_5), .val (.ref w_1), .val (.int (0 : Int32)), .val (.int (0 : Int32))] [(.ref w_1), (.ref w_5)])) _
          refine st116.trans ?_
          show Steps p.tables e below (T116.setTop (mkF m 53 #[.val (.int p0), .val (.int p1), .val (.ref w_5), .val (.ref w_1), .val (.int (0 : Int32)), .val (.int (0 : Int32))] [(.int (0 : Int32))])) _
          refine XS.iload X116.here hx rfl (hb hby at_53) rfl ?_
          show Steps p.tables e below (T116.setTop (mkF m 55 #[.val (.int p0), .val (.int p1), .val (.ref w_5), .val (.ref w_1), .val (.int (0 : Int32)), .val (.int (0 : Int32))] [(.int (0 : Int32)), (.int (0 : Int32))])) _
          refine XS.icmpNo X116.here hx rfl (hb hby at_55) rfl (teq (by decide : ((0 : Int32) = (0 : Int32)))).2 ?_
          show Steps p.tables e below (T116.setTop (mkF m 58 #[.val (.int p0), .val (.int p1), .val (.ref w_5), .val (.ref w_1), .val (.int (0 : Int32)), .val (.int (0 : Int32))] [])) _
          refine XS.iconst X116.here hx rfl (hb hby at_58) ?_
          show Steps p.tables e below (T116.setTop (mkF m 59 #[.val (.int p0), .val (.int p1), .val (.ref w_5), .val (.ref w_1), .val (.int (0 : Int32)), .val (.int (0 : Int32))] [(.int (1 : Int32))])) _
          refine XS.goto X116.here hx rfl (pc0 := 59) (pc' := 63) rfl (hb hby at_59) (by decide) (by decide) ?_
          show Steps p.tables e below (T116.setTop (mkF m 63 #[.val (.int p0), .val (.int p1), .val (.ref w_5), .val (.ref w_1), .val (.int (0 : Int32)), .val (.int (0 : Int32))] [(.int (1 : Int32))])) _
          exact retN X116 hx (t := .boolean) Bd.returns (by simp) (hb hby at_63) hr
        · show Q0 Z w_1 w_2 w_3 w_4 w_5 k_4 p0 p1 h0 n0 _ T116.heap _
          rw [e116]
          exact ⟨by unfold sp0; rw [if_neg hc35, if_pos hc103, if_pos hc104], N116, rfl⟩
      · by_cases hc117 : (p1 &&& (3 : Int32)) = (1 : Int32)
        · obtain ⟨_, _, ⟨T118, L118, k118, n118⟩, -, X118, ⟨Lc118, hQ118, l118, y118, z118⟩, st118⟩ := Jvm.LawKit.callS X0 hx (y := Y0) hown (mvT hZ (hw _ (tk 0 rfl))) (mvT hZ (hw _ (tk 1 rfl))) (mvT hZ (hw _ (tk 2 rfl))) (mvT hZ (hw _ (tk 3 rfl))) (by decide) (backOf (W := 0) (rm1 l Z a0 hw [] w_1 w_2 w_3 w_4 w_5 k_4 hS0 p0 h0 n0 O0) hZ (hw _ (tk 3 rfl)) (hw _ (tk 2 rfl)) (by decide) (by decide)) (g := (mkF m 1 #[.val (.int p0), .val (.int p1), .unset, .unset, .unset, .unset] [(.int p0)])) rfl (by rw [hml]; rfl) (argsL := [(.int p0)]) (rest := []) (lenOf pd_0 rfl) rfl (by show 2 * 0 + _ ≤ _; exact Nat.le_of_eq rfl) (hb hby at_1) (fun _ _ => ⟨rfl, e0, (by decide : 0 + 0 ≤ _), (by decide : 0 + 0 ≤ _)⟩)
          dsimp only [Pt.U, Pt.locs, Pt.cells, Pt.slots] at X118 l118 y118 z118 st118 hQ118
          subst l118 y118 z118
          obtain ⟨rv118, N118q, e118⟩ := hQ118
          rw [show sp1 w_1 w_2 w_3 w_5 p0 = (.ref w_5) from by unfold sp1; rw [if_neg hc35, if_pos hc103]] at rv118
          subst rv118
          have N118 := Fr.app N0 N118q
          obtain ⟨_, _, ⟨T119, L119, k119, n119⟩, -, X119, ⟨Lc119, hQ119, l119, y119, z119⟩, st119⟩ := Jvm.LawKit.callS X118 hx (y := Y0) hown (mvT hZ (hw _ (tk 0 rfl))) (mvT hZ (hw _ (tk 1 rfl))) (mvT hZ (hw _ (tk 2 rfl))) (mvT hZ (hw _ (tk 3 rfl))) (by decide) (backOf (W := 0) (rm1 l Z a0 hw [] w_1 w_2 w_3 w_4 w_5 k_4 hS0 p1 h0 n0 O0) hZ (hw _ (tk 3 rfl)) (hw _ (tk 2 rfl)) (by decide) (by decide)) (g := (mkF m 6 #[.val (.int p0), .val (.int p1), .val (.ref w_5), .unset, .unset, .unset] [(.int p1)])) rfl (by rw [hml]; rfl) (argsL := [(.int p1)]) (rest := []) (lenOf pd_0 rfl) rfl (by show 2 * 0 + _ ≤ _; exact Nat.le_of_eq rfl) (hb hby at_6) (fun _ _ => ⟨rfl, e118, (by decide : 0 + 0 ≤ _), (by decide : 0 + 0 ≤ _)⟩)
          dsimp only [Pt.U, Pt.locs, Pt.cells, Pt.slots] at X119 l119 y119 z119 st119 hQ119
          subst l119 y119 z119
          obtain ⟨rv119, N119q, e119⟩ := hQ119
          rw [show sp1 w_1 w_2 w_3 w_5 p1 = (.ref w_5) from by unfold sp1; rw [if_neg hc104, if_pos hc117]] at rv119
          subst rv119
          have N119 := Fr.app N118 N119q
          obtain ⟨T120, X120, e120, st120⟩ := getS2 X119 hx hZ hown (host := "") (Or.inl (hw _ (tk 9 rfl))) Via.refl e119 (S_3.ext O0.2) (g := (mkF m 11 #[.val (.int p0), .val (.int p1), .val (.ref w_5), .val (.ref w_5), .unset, .unset] [(.ref w_5)])) rfl (hb hby at_11)
          obtain ⟨T121, X121, e121, st121⟩ := getS2 X120 hx hZ hown (host := "") (Or.inl (hw _ (tk 7 rfl))) Via.refl e120 (S_2.ext O0.2) (g := (mkF m 18 #[.val (.int p0), .val (.int p1), .val (.ref w_5), .val (.ref w_5), .unset, .unset] [(.ref w_5)])) rfl (hb hby at_18)
          obtain ⟨cq135, kq135, q135a, q135b, q135c⟩ := isOf hZ e121 (E_5.ext O0.2)
          obtain ⟨_, _, ⟨T135, L135, k135, n135⟩, -, X135, ⟨Lc135, hQ135, l135, y135, z135⟩, st135⟩ := X121.virtualBack hx (y := Y2) (z := Y2) hown (mvT hZ (hw _ (tk 11 rfl))) (mvT hZ (hw _ (tk 12 rfl))) (notFace_of_selects (args := #[]) (mvT hZ (hw _ (tk 14 rfl)))) (mvT hZ (hw _ (tk 14 rfl))) (mvT hZ (hw _ (tk 13 rfl))) (by decide) (backOf (W := 0) (rm2x6 l Z a0 hw [] w_1 w_2 w_3 w_4 w_5 k_4 hS0 h0 n0 O0) hZ (hw _ (tk 15 rfl)) (hw _ (tk 5 rfl)) (by decide) (by decide)) q135a q135c (g := (mkF m 50 #[.val (.int p0), .val (.int p1), .val (.ref w_5), .val (.ref w_5), .val (.int (0 : Int32)), .val (.int (1 : Int32))] [(.ref w_5), (.ref w_5)])) rfl (by rw [hml]; rfl) (Steps.refl _) (argsL := [(.ref w_5)]) (rest := []) (lenOf pd_1 rfl) rfl (by show 2 * 0 + _ ≤ _; exact Nat.le_of_eq rfl) (hb hby at_50) (fun _ _ => ⟨rfl, e121, (by decide : 0 + 0 ≤ _), (by decide : 0 + 0 ≤ _)⟩)
          dsimp only [Pt.U, Pt.locs, Pt.cells, Pt.slots] at X135 l135 y135 z135 st135 hQ135
          subst l135 y135 z135
          obtain ⟨rv135, N135q, e135⟩ := hQ135
          rw [show sp2x6 = (1 : Int32) from by unfold sp2x6; rfl] at rv135
          subst rv135
          have N135 := Fr.app N119 N135q
          obtain ⟨fs, hr, hrun, hended, hW, hsame⟩ := X135.leave (v := some (.int (1 : Int32))) (fun h => by rw [Bd.returns] at h; cases h)
          refine ⟨_, _, pre0 _ ?_, hrun, hended, _, _, rfl, ?_, ⟨_, rfl⟩, hW, hsame.mono (by decide) (by decide)⟩
          · show Steps p.tables e below (s₁.setTop (mkF m 0 #[.val (.int p0), .val (.int p1), .unset, .unset, .unset, .unset] [])) _
            refine XS.iloadN X0.here hx rfl (hb hby at_0) rfl ?_
            show Steps p.tables e below (s₁.setTop (mkF m 1 #[.val (.int p0), .val (.int p1), .unset, .unset, .unset, .unset] [(.int p0)])) _
            refine st118 _ ?_
            show Steps p.tables e below (T118.setTop (mkF m 4 #[.val (.int p0), .val (.int p1), .unset, .unset, .unset, .unset] [(.ref w_5)])) _
            refine XS.astoreN X118.here hx rfl (hb hby at_4) rfl rfl (l' := #[.val (.int p0), .val (.int p1), .val (.ref w_5), .unset, .unset, .unset]) rfl ?_
            show Steps p.tables e below (T118.setTop (mkF m 5 #[.val (.int p0), .val (.int p1), .val (.ref w_5), .unset, .unset, .unset] [])) _
            refine XS.iloadN X118.here hx rfl (hb hby at_5) rfl ?_
            show Steps p.tables e below (T118.setTop (mkF m 6 #[.val (.int p0), .val (.int p1), .val (.ref w_5), .unset, .unset, .unset] [(.int p1)])) _
            refine st119 _ ?_
            show Steps p.tables e below (T119.setTop (mkF m 9 #[.val (.int p0), .val (.int p1), .val (.ref w_5), .unset, .unset, .unset] [(.ref w_5)])) _
            refine XS.astoreN X119.here hx rfl (hb hby at_9) rfl rfl (l' := #[.val (.int p0), .val (.int p1), .val (.ref w_5), .val (.ref w_5), .unset, .unset]) rfl ?_
            show Steps p.tables e below (T119.setTop (mkF m 10 #[.val (.int p0), .val (.int p1), .val (.ref w_5), .val (.ref w_5), .unset, .unset] [])) _
            refine XS.aloadN X119.here hx rfl (hb hby at_10) rfl rfl ?_
            show Steps p.tables e below (T119.setTop (mkF m 11 #[.val (.int p0), .val (.int p1), .val (.ref w_5), .val (.ref w_5), .unset, .unset] [(.ref w_5)])) _
            refine st120 _ ?_
            show Steps p.tables e below (T120.setTop (mkF m 14 #[.val (.int p0), .val (.int p1), .val (.ref w_5), .val (.ref w_5), .unset, .unset] [(.ref w_3), (.ref w_5)])) _
            refine Jvm.RoadKit.acmp (g := (mkF m 14 #[.val (.int p0), .val (.int p1), .val (.ref w_5), .val (.ref w_5), .unset, .unset] [(.ref w_3), (.ref w_5)])) X120 hx rfl rfl rfl (pc0 := 14) (pc' := 17) (same := false) rfl (hb hby at_14) rfl (decide_eq_false fun q => (Fld.ne F_5_ordinal F_3_ordinal (by decide)) (Value.ref.inj q)) (by decide) (by decide) ?_
            show Steps p.tables e below (T120.setTop (mkF m 17 #[.val (.int p0), .val (.int p1), .val (.ref w_5), .val (.ref w_5), .unset, .unset] [])) _
            refine XS.aloadN X120.here hx rfl (hb hby at_17) rfl rfl ?_
            show Steps p.tables e below (T120.setTop (mkF m 18 #[.val (.int p0), .val (.int p1), .val (.ref w_5), .val (.ref w_5), .unset, .unset] [(.ref w_5)])) _
            refine st121 _ ?_
            show Steps p.tables e below (T121.setTop (mkF m 21 #[.val (.int p0), .val (.int p1), .val (.ref w_5), .val (.ref w_5), .unset, .unset] [(.ref w_2), (.ref w_5)])) _
            refine Jvm.RoadKit.acmp (g := (mkF m 21 #[.val (.int p0), .val (.int p1), .val (.ref w_5), .val (.ref w_5), .unset, .unset] [(.ref w_2), (.ref w_5)])) X121 hx rfl rfl rfl (pc0 := 21) (pc' := 28) (same := false) rfl (hb hby at_21) rfl (decide_eq_false fun q => (Fld.ne F_5_ordinal F_2_ordinal (by decide)) (Value.ref.inj q)) (by decide) (by decide) ?_
            show Steps p.tables e below (T121.setTop (mkF m 28 #[.val (.int p0), .val (.int p1), .val (.ref w_5), .val (.ref w_5), .unset, .unset] [])) _
            refine XS.iconst X121.here hx rfl (hb hby at_28) ?_
            show Steps p.tables e below (T121.setTop (mkF m 29 #[.val (.int p0), .val (.int p1), .val (.ref w_5), .val (.ref w_5), .unset, .unset] [(.int (0 : Int32))])) _
            refine XS.istore X121.here hx rfl (hb hby at_29) rfl (l' := #[.val (.int p0), .val (.int p1), .val (.ref w_5), .val (.ref w_5), .val (.int (0 : Int32)), .unset]) rfl ?_
            show Steps p.tables e below (T121.setTop (mkF m 31 #[.val (.int p0), .val (.int p1), .val (.ref w_5), .val (.ref w_5), .val (.int (0 : Int32)), .unset] [])) _
            refine XS.iload X121.here hx rfl (hb hby at_31) rfl ?_
            show Steps p.tables e below (T121.setTop (mkF m 33 #[.val (.int p0), .val (.int p1), .val (.ref w_5), .val (.ref w_5), .val (.int (0 : Int32)), .unset] [(.int (0 : Int32))])) _
            refine XS.ifNo X121.here hx rfl (hb hby at_33) rfl ((if0 _ _).trans (teq (by decide : ((0 : Int32) = (0 : Int32)))).2) ?_
            show Steps p.tables e below (T121.setTop (mkF m 36 #[.val (.int p0), .val (.int p1), .val (.ref w_5), .val (.ref w_5), .val (.int (0 : Int32)), .unset] [])) _
            refine XS.aloadN X121.here hx rfl (hb hby at_36) rfl rfl ?_
            show Steps p.tables e below (T121.setTop (mkF m 37 #[.val (.int p0), .val (.int p1), .val (.ref w_5), .val (.ref w_5), .val (.int (0 : Int32)), .unset] [(.ref w_5)])) _
            refine XS.aloadN X121.here hx rfl (hb hby at_37) rfl rfl ?_
            show Steps p.tables e below (T121.setTop (mkF m 38 #[.val (.int p0), .val (.int p1), .val (.ref w_5), .val (.ref w_5), .val (.int (0 : Int32)), .unset] [(.ref w_5), (.ref w_5)])) _
            refine Jvm.RoadKit.acmp (g := (mkF m 38 #[.val (.int p0), .val (.int p1), .val (.ref w_5), .val (.ref w_5), .val (.int (0 : Int32)), .unset] [(.ref w_5), (.ref w_5)])) X121 hx rfl rfl rfl (pc0 := 38) (pc' := 41) (same := true) rfl (hb hby at_38) rfl (decide_eq_true (congrArg Value.ref rfl)) (by decide) (by decide) ?_
            show Steps p.tables e below (T121.setTop (mkF m 41 #[.val (.int p0), .val (.int p1), .val (.ref w_5), .val (.ref w_5), .val (.int (0 : Int32)), .unset] [])) _
            refine XS.iconst X121.here hx rfl (hb hby at_41) ?_
            show Steps p.tables e below (T121.setTop (mkF m 42 #[.val (.int p0), .val (.int p1), .val (.ref w_5), .val (.ref w_5), .val (.int (0 : Int32)), .unset] [(.int (1 : Int32))])) _
            refine XS.goto X121.here hx rfl (pc0 := 42) (pc' := 46) rfl (hb hby at_42) (by decide) (by decide) ?_
            show Steps p.tables e below (T121.setTop (mkF m 46 #[.val (.int p0), .val (.int p1), .val (.ref w_5), .val (.ref w_5), .val (.int (0 : Int32)), .unset] [(.int (1 : Int32))])) _
            refine XS.istore X121.here hx rfl (hb hby at_46) rfl (l' := #[.val (.int p0), .val (.int p1), .val (.ref w_5), .val (.ref w_5), .val (.int (0 : Int32)), .val (.int (1 : Int32))]) rfl ?_
            show Steps p.tables e below (T121.setTop (mkF m 48 #[.val (.int p0), .val (.int p1), .val (.ref w_5), .val (.ref w_5), .val (.int (0 : Int32)), .val (.int (1 : Int32))] [])) _
            refine XS.aloadN X121.here hx rfl (hb hby at_48) rfl rfl ?_
            show Steps p.tables e below (T121.setTop (mkF m 49 #[.val (.int p0), .val (.int p1), .val (.ref w_5), .val (.ref w_5), .val (.int (0 : Int32)), .val (.int (1 : Int32))] [(.ref w_5)])) _
            refine XS.aloadN X121.here hx rfl (hb hby at_49) rfl rfl ?_
            show Steps p.tables e below (T121.setTop (mkF m 50 #[.val (.int p0), .val (.int p1), .val (.ref w_5), .val (.ref w_5), .val (.int (0 : Int32)), .val (.int (1 : Int32))] [(.ref w_5), (.ref w_5)])) _
            refine st135.trans ?_
            show Steps p.tables e below (T135.setTop (mkF m 53 #[.val (.int p0), .val (.int p1), .val (.ref w_5), .val (.ref w_5), .val (.int (0 : Int32)), .val (.int (1 : Int32))] [(.int (1 : Int32))])) _
            refine XS.iload X135.here hx rfl (hb hby at_53) rfl ?_
            show Steps p.tables e below (T135.setTop (mkF m 55 #[.val (.int p0), .val (.int p1), .val (.ref w_5), .val (.ref w_5), .val (.int (0 : Int32)), .val (.int (1 : Int32))] [(.int (1 : Int32)), (.int (1 : Int32))])) _
            refine XS.icmpNo X135.here hx rfl (hb hby at_55) rfl (teq (by decide : ((1 : Int32) = (1 : Int32)))).2 ?_
            show Steps p.tables e below (T135.setTop (mkF m 58 #[.val (.int p0), .val (.int p1), .val (.ref w_5), .val (.ref w_5), .val (.int (0 : Int32)), .val (.int (1 : Int32))] [])) _
            refine XS.iconst X135.here hx rfl (hb hby at_58) ?_
            show Steps p.tables e below (T135.setTop (mkF m 59 #[.val (.int p0), .val (.int p1), .val (.ref w_5), .val (.ref w_5), .val (.int (0 : Int32)), .val (.int (1 : Int32))] [(.int (1 : Int32))])) _
            refine XS.goto X135.here hx rfl (pc0 := 59) (pc' := 63) rfl (hb hby at_59) (by decide) (by decide) ?_
            show Steps p.tables e below (T135.setTop (mkF m 63 #[.val (.int p0), .val (.int p1), .val (.ref w_5), .val (.ref w_5), .val (.int (0 : Int32)), .val (.int (1 : Int32))] [(.int (1 : Int32))])) _
            exact retN X135 hx (t := .boolean) Bd.returns (by simp) (hb hby at_63) hr
          · show Q0 Z w_1 w_2 w_3 w_4 w_5 k_4 p0 p1 h0 n0 _ T135.heap _
            rw [e135]
            exact ⟨by unfold sp0; rw [if_neg hc35, if_pos hc103, if_neg hc104, if_pos hc117], N135, rfl⟩
        · by_cases hc136 : (p1 &&& (3 : Int32)) = (2 : Int32)
          · obtain ⟨_, _, ⟨T137, L137, k137, n137⟩, -, X137, ⟨Lc137, hQ137, l137, y137, z137⟩, st137⟩ := Jvm.LawKit.callS X0 hx (y := Y0) hown (mvT hZ (hw _ (tk 0 rfl))) (mvT hZ (hw _ (tk 1 rfl))) (mvT hZ (hw _ (tk 2 rfl))) (mvT hZ (hw _ (tk 3 rfl))) (by decide) (backOf (W := 0) (rm1 l Z a0 hw [] w_1 w_2 w_3 w_4 w_5 k_4 hS0 p0 h0 n0 O0) hZ (hw _ (tk 3 rfl)) (hw _ (tk 2 rfl)) (by decide) (by decide)) (g := (mkF m 1 #[.val (.int p0), .val (.int p1), .unset, .unset, .unset, .unset] [(.int p0)])) rfl (by rw [hml]; rfl) (argsL := [(.int p0)]) (rest := []) (lenOf pd_0 rfl) rfl (by show 2 * 0 + _ ≤ _; exact Nat.le_of_eq rfl) (hb hby at_1) (fun _ _ => ⟨rfl, e0, (by decide : 0 + 0 ≤ _), (by decide : 0 + 0 ≤ _)⟩)
            dsimp only [Pt.U, Pt.locs, Pt.cells, Pt.slots] at X137 l137 y137 z137 st137 hQ137
            subst l137 y137 z137
            obtain ⟨rv137, N137q, e137⟩ := hQ137
            rw [show sp1 w_1 w_2 w_3 w_5 p0 = (.ref w_5) from by unfold sp1; rw [if_neg hc35, if_pos hc103]] at rv137
            subst rv137
            have N137 := Fr.app N0 N137q
            obtain ⟨_, _, ⟨T138, L138, k138, n138⟩, -, X138, ⟨Lc138, hQ138, l138, y138, z138⟩, st138⟩ := Jvm.LawKit.callS X137 hx (y := Y0) hown (mvT hZ (hw _ (tk 0 rfl))) (mvT hZ (hw _ (tk 1 rfl))) (mvT hZ (hw _ (tk 2 rfl))) (mvT hZ (hw _ (tk 3 rfl))) (by decide) (backOf (W := 0) (rm1 l Z a0 hw [] w_1 w_2 w_3 w_4 w_5 k_4 hS0 p1 h0 n0 O0) hZ (hw _ (tk 3 rfl)) (hw _ (tk 2 rfl)) (by decide) (by decide)) (g := (mkF m 6 #[.val (.int p0), .val (.int p1), .val (.ref w_5), .unset, .unset, .unset] [(.int p1)])) rfl (by rw [hml]; rfl) (argsL := [(.int p1)]) (rest := []) (lenOf pd_0 rfl) rfl (by show 2 * 0 + _ ≤ _; exact Nat.le_of_eq rfl) (hb hby at_6) (fun _ _ => ⟨rfl, e137, (by decide : 0 + 0 ≤ _), (by decide : 0 + 0 ≤ _)⟩)
            dsimp only [Pt.U, Pt.locs, Pt.cells, Pt.slots] at X138 l138 y138 z138 st138 hQ138
            subst l138 y138 z138
            obtain ⟨rv138, N138q, e138⟩ := hQ138
            rw [show sp1 w_1 w_2 w_3 w_5 p1 = (.ref w_3) from by unfold sp1; rw [if_neg hc104, if_neg hc117, if_pos hc136]] at rv138
            subst rv138
            have N138 := Fr.app N137 N138q
            obtain ⟨T139, X139, e139, st139⟩ := getS2 X138 hx hZ hown (host := "") (Or.inl (hw _ (tk 9 rfl))) Via.refl e138 (S_3.ext O0.2) (g := (mkF m 11 #[.val (.int p0), .val (.int p1), .val (.ref w_5), .val (.ref w_3), .unset, .unset] [(.ref w_5)])) rfl (hb hby at_11)
            obtain ⟨T140, X140, e140, st140⟩ := getS2 X139 hx hZ hown (host := "") (Or.inl (hw _ (tk 7 rfl))) Via.refl e139 (S_2.ext O0.2) (g := (mkF m 18 #[.val (.int p0), .val (.int p1), .val (.ref w_5), .val (.ref w_3), .unset, .unset] [(.ref w_5)])) rfl (hb hby at_18)
            obtain ⟨cq149, kq149, q149a, q149b, q149c⟩ := isOf hZ e140 (E_5.ext O0.2)
            obtain ⟨_, _, ⟨T149, L149, k149, n149⟩, -, X149, ⟨Lc149, hQ149, l149, y149, z149⟩, st149⟩ := X140.virtualBack hx (y := Y2) (z := Y2) hown (mvT hZ (hw _ (tk 11 rfl))) (mvT hZ (hw _ (tk 12 rfl))) (notFace_of_selects (args := #[]) (mvT hZ (hw _ (tk 14 rfl)))) (mvT hZ (hw _ (tk 14 rfl))) (mvT hZ (hw _ (tk 13 rfl))) (by decide) (backOf (W := 0) (rm2x7 l Z a0 hw [] w_1 w_2 w_3 w_4 w_5 k_4 hS0 h0 n0 O0) hZ (hw _ (tk 15 rfl)) (hw _ (tk 5 rfl)) (by decide) (by decide)) q149a q149c (g := (mkF m 50 #[.val (.int p0), .val (.int p1), .val (.ref w_5), .val (.ref w_3), .val (.int (0 : Int32)), .val (.int (0 : Int32))] [(.ref w_3), (.ref w_5)])) rfl (by rw [hml]; rfl) (Steps.refl _) (argsL := [(.ref w_3)]) (rest := []) (lenOf pd_1 rfl) rfl (by show 2 * 0 + _ ≤ _; exact Nat.le_of_eq rfl) (hb hby at_50) (fun _ _ => ⟨rfl, e140, (by decide : 0 + 0 ≤ _), (by decide : 0 + 0 ≤ _)⟩)
            dsimp only [Pt.U, Pt.locs, Pt.cells, Pt.slots] at X149 l149 y149 z149 st149 hQ149
            subst l149 y149 z149
            obtain ⟨rv149, N149q, e149⟩ := hQ149
            rw [show sp2x7 = (0 : Int32) from by unfold sp2x7; rfl] at rv149
            subst rv149
            have N149 := Fr.app N138 N149q
            obtain ⟨fs, hr, hrun, hended, hW, hsame⟩ := X149.leave (v := some (.int (1 : Int32))) (fun h => by rw [Bd.returns] at h; cases h)
            refine ⟨_, _, pre0 _ ?_, hrun, hended, _, _, rfl, ?_, ⟨_, rfl⟩, hW, hsame.mono (by decide) (by decide)⟩
            · show Steps p.tables e below (s₁.setTop (mkF m 0 #[.val (.int p0), .val (.int p1), .unset, .unset, .unset, .unset] [])) _
              refine XS.iloadN X0.here hx rfl (hb hby at_0) rfl ?_
              show Steps p.tables e below (s₁.setTop (mkF m 1 #[.val (.int p0), .val (.int p1), .unset, .unset, .unset, .unset] [(.int p0)])) _
              refine st137 _ ?_
              show Steps p.tables e below (T137.setTop (mkF m 4 #[.val (.int p0), .val (.int p1), .unset, .unset, .unset, .unset] [(.ref w_5)])) _
              refine XS.astoreN X137.here hx rfl (hb hby at_4) rfl rfl (l' := #[.val (.int p0), .val (.int p1), .val (.ref w_5), .unset, .unset, .unset]) rfl ?_
              show Steps p.tables e below (T137.setTop (mkF m 5 #[.val (.int p0), .val (.int p1), .val (.ref w_5), .unset, .unset, .unset] [])) _
              refine XS.iloadN X137.here hx rfl (hb hby at_5) rfl ?_
              show Steps p.tables e below (T137.setTop (mkF m 6 #[.val (.int p0), .val (.int p1), .val (.ref w_5), .unset, .unset, .unset] [(.int p1)])) _
              refine st138 _ ?_
              show Steps p.tables e below (T138.setTop (mkF m 9 #[.val (.int p0), .val (.int p1), .val (.ref w_5), .unset, .unset, .unset] [(.ref w_3)])) _
              refine XS.astoreN X138.here hx rfl (hb hby at_9) rfl rfl (l' := #[.val (.int p0), .val (.int p1), .val (.ref w_5), .val (.ref w_3), .unset, .unset]) rfl ?_
              show Steps p.tables e below (T138.setTop (mkF m 10 #[.val (.int p0), .val (.int p1), .val (.ref w_5), .val (.ref w_3), .unset, .unset] [])) _
              refine XS.aloadN X138.here hx rfl (hb hby at_10) rfl rfl ?_
              show Steps p.tables e below (T138.setTop (mkF m 11 #[.val (.int p0), .val (.int p1), .val (.ref w_5), .val (.ref w_3), .unset, .unset] [(.ref w_5)])) _
              refine st139 _ ?_
              show Steps p.tables e below (T139.setTop (mkF m 14 #[.val (.int p0), .val (.int p1), .val (.ref w_5), .val (.ref w_3), .unset, .unset] [(.ref w_3), (.ref w_5)])) _
              refine Jvm.RoadKit.acmp (g := (mkF m 14 #[.val (.int p0), .val (.int p1), .val (.ref w_5), .val (.ref w_3), .unset, .unset] [(.ref w_3), (.ref w_5)])) X139 hx rfl rfl rfl (pc0 := 14) (pc' := 17) (same := false) rfl (hb hby at_14) rfl (decide_eq_false fun q => (Fld.ne F_5_ordinal F_3_ordinal (by decide)) (Value.ref.inj q)) (by decide) (by decide) ?_
              show Steps p.tables e below (T139.setTop (mkF m 17 #[.val (.int p0), .val (.int p1), .val (.ref w_5), .val (.ref w_3), .unset, .unset] [])) _
              refine XS.aloadN X139.here hx rfl (hb hby at_17) rfl rfl ?_
              show Steps p.tables e below (T139.setTop (mkF m 18 #[.val (.int p0), .val (.int p1), .val (.ref w_5), .val (.ref w_3), .unset, .unset] [(.ref w_5)])) _
              refine st140 _ ?_
              show Steps p.tables e below (T140.setTop (mkF m 21 #[.val (.int p0), .val (.int p1), .val (.ref w_5), .val (.ref w_3), .unset, .unset] [(.ref w_2), (.ref w_5)])) _
              refine Jvm.RoadKit.acmp (g := (mkF m 21 #[.val (.int p0), .val (.int p1), .val (.ref w_5), .val (.ref w_3), .unset, .unset] [(.ref w_2), (.ref w_5)])) X140 hx rfl rfl rfl (pc0 := 21) (pc' := 28) (same := false) rfl (hb hby at_21) rfl (decide_eq_false fun q => (Fld.ne F_5_ordinal F_2_ordinal (by decide)) (Value.ref.inj q)) (by decide) (by decide) ?_
              show Steps p.tables e below (T140.setTop (mkF m 28 #[.val (.int p0), .val (.int p1), .val (.ref w_5), .val (.ref w_3), .unset, .unset] [])) _
              refine XS.iconst X140.here hx rfl (hb hby at_28) ?_
              show Steps p.tables e below (T140.setTop (mkF m 29 #[.val (.int p0), .val (.int p1), .val (.ref w_5), .val (.ref w_3), .unset, .unset] [(.int (0 : Int32))])) _
              refine XS.istore X140.here hx rfl (hb hby at_29) rfl (l' := #[.val (.int p0), .val (.int p1), .val (.ref w_5), .val (.ref w_3), .val (.int (0 : Int32)), .unset]) rfl ?_
              show Steps p.tables e below (T140.setTop (mkF m 31 #[.val (.int p0), .val (.int p1), .val (.ref w_5), .val (.ref w_3), .val (.int (0 : Int32)), .unset] [])) _
              refine XS.iload X140.here hx rfl (hb hby at_31) rfl ?_
              show Steps p.tables e below (T140.setTop (mkF m 33 #[.val (.int p0), .val (.int p1), .val (.ref w_5), .val (.ref w_3), .val (.int (0 : Int32)), .unset] [(.int (0 : Int32))])) _
              refine XS.ifNo X140.here hx rfl (hb hby at_33) rfl ((if0 _ _).trans (teq (by decide : ((0 : Int32) = (0 : Int32)))).2) ?_
              show Steps p.tables e below (T140.setTop (mkF m 36 #[.val (.int p0), .val (.int p1), .val (.ref w_5), .val (.ref w_3), .val (.int (0 : Int32)), .unset] [])) _
              refine XS.aloadN X140.here hx rfl (hb hby at_36) rfl rfl ?_
              show Steps p.tables e below (T140.setTop (mkF m 37 #[.val (.int p0), .val (.int p1), .val (.ref w_5), .val (.ref w_3), .val (.int (0 : Int32)), .unset] [(.ref w_5)])) _
              refine XS.aloadN X140.here hx rfl (hb hby at_37) rfl rfl ?_
              show Steps p.tables e below (T140.setTop (mkF m 38 #[.val (.int p0), .val (.int p1), .val (.ref w_5), .val (.ref w_3), .val (.int (0 : Int32)), .unset] [(.ref w_3), (.ref w_5)])) _
              refine Jvm.RoadKit.acmp (g := (mkF m 38 #[.val (.int p0), .val (.int p1), .val (.ref w_5), .val (.ref w_3), .val (.int (0 : Int32)), .unset] [(.ref w_3), (.ref w_5)])) X140 hx rfl rfl rfl (pc0 := 38) (pc' := 45) (same := false) rfl (hb hby at_38) rfl (decide_eq_false fun q => (Fld.ne F_5_ordinal F_3_ordinal (by decide)) (Value.ref.inj q)) (by decide) (by decide) ?_
              show Steps p.tables e below (T140.setTop (mkF m 45 #[.val (.int p0), .val (.int p1), .val (.ref w_5), .val (.ref w_3), .val (.int (0 : Int32)), .unset] [])) _
              refine XS.iconst X140.here hx rfl (hb hby at_45) ?_
              show Steps p.tables e below (T140.setTop (mkF m 46 #[.val (.int p0), .val (.int p1), .val (.ref w_5), .val (.ref w_3), .val (.int (0 : Int32)), .unset] [(.int (0 : Int32))])) _
              refine XS.istore X140.here hx rfl (hb hby at_46) rfl (l' := #[.val (.int p0), .val (.int p1), .val (.ref w_5), .val (.ref w_3), .val (.int (0 : Int32)), .val (.int (0 : Int32))]) rfl ?_
              show Steps p.tables e below (T140.setTop (mkF m 48 #[.val (.int p0), .val (.int p1), .val (.ref w_5), .val (.ref w_3), .val (.int (0 : Int32)), .val (.int (0 : Int32))] [])) _
              refine XS.aloadN X140.here hx rfl (hb hby at_48) rfl rfl ?_
              show Steps p.tables e below (T140.setTop (mkF m 49 #[.val (.int p0), .val (.int p1), .val (.ref w_5), .val (.ref w_3), .val (.int (0 : Int32)), .val (.int (0 : Int32))] [(.ref w_5)])) _
              refine XS.aloadN X140.here hx rfl (hb hby at_49) rfl rfl ?_
              show Steps p.tables e below (T140.setTop (mkF m 50 #[.val (.int p0), .val (.int p1), .val (.ref w_5), .val (.ref w_3), .val (.int (0 : Int32)), .val (.int (0 : Int32))] [(.ref w_3), (.ref w_5)])) _
              refine st149.trans ?_
              show Steps p.tables e below (T149.setTop (mkF m 53 #[.val (.int p0), .val (.int p1), .val (.ref w_5), .val (.ref w_3), .val (.int (0 : Int32)), .val (.int (0 : Int32))] [(.int (0 : Int32))])) _
              refine XS.iload X149.here hx rfl (hb hby at_53) rfl ?_
              show Steps p.tables e below (T149.setTop (mkF m 55 #[.val (.int p0), .val (.int p1), .val (.ref w_5), .val (.ref w_3), .val (.int (0 : Int32)), .val (.int (0 : Int32))] [(.int (0 : Int32)), (.int (0 : Int32))])) _
              refine XS.icmpNo X149.here hx rfl (hb hby at_55) rfl (teq (by decide : ((0 : Int32) = (0 : Int32)))).2 ?_
              show Steps p.tables e below (T149.setTop (mkF m 58 #[.val (.int p0), .val (.int p1), .val (.ref w_5), .val (.ref w_3), .val (.int (0 : Int32)), .val (.int (0 : Int32))] [])) _
              refine XS.iconst X149.here hx rfl (hb hby at_58) ?_
              show Steps p.tables e below (T149.setTop (mkF m 59 #[.val (.int p0), .val (.int p1), .val (.ref w_5), .val (.ref w_3), .val (.int (0 : Int32)), .val (.int (0 : Int32))] [(.int (1 : Int32))])) _
              refine XS.goto X149.here hx rfl (pc0 := 59) (pc' := 63) rfl (hb hby at_59) (by decide) (by decide) ?_
              show Steps p.tables e below (T149.setTop (mkF m 63 #[.val (.int p0), .val (.int p1), .val (.ref w_5), .val (.ref w_3), .val (.int (0 : Int32)), .val (.int (0 : Int32))] [(.int (1 : Int32))])) _
              exact retN X149 hx (t := .boolean) Bd.returns (by simp) (hb hby at_63) hr
            · show Q0 Z w_1 w_2 w_3 w_4 w_5 k_4 p0 p1 h0 n0 _ T149.heap _
              rw [e149]
              exact ⟨by unfold sp0; rw [if_neg hc35, if_pos hc103, if_neg hc104, if_neg hc117, if_pos hc136], N149, rfl⟩
          · have hL150 : (p1 &&& (3 : Int32)) = (3 : Int32) := by
              have r : 0 ≤ ((p1 &&& (3 : Int32))).toInt ∧ ((p1 &&& (3 : Int32))).toInt < 4 := (own_rand p1 (3 : Int32) 4 (by decide) (by decide))
              have q0 := own_ne hc104 (n := 0) (by decide)
              have q1 := own_ne hc117 (n := 1) (by decide)
              have q2 := own_ne hc136 (n := 2) (by decide)
              exact own_eq (n := 3) (by decide) (by omega)
            obtain ⟨_, _, ⟨T151, L151, k151, n151⟩, -, X151, ⟨Lc151, hQ151, l151, y151, z151⟩, st151⟩ := Jvm.LawKit.callS X0 hx (y := Y0) hown (mvT hZ (hw _ (tk 0 rfl))) (mvT hZ (hw _ (tk 1 rfl))) (mvT hZ (hw _ (tk 2 rfl))) (mvT hZ (hw _ (tk 3 rfl))) (by decide) (backOf (W := 0) (rm1 l Z a0 hw [] w_1 w_2 w_3 w_4 w_5 k_4 hS0 p0 h0 n0 O0) hZ (hw _ (tk 3 rfl)) (hw _ (tk 2 rfl)) (by decide) (by decide)) (g := (mkF m 1 #[.val (.int p0), .val (.int p1), .unset, .unset, .unset, .unset] [(.int p0)])) rfl (by rw [hml]; rfl) (argsL := [(.int p0)]) (rest := []) (lenOf pd_0 rfl) rfl (by show 2 * 0 + _ ≤ _; exact Nat.le_of_eq rfl) (hb hby at_1) (fun _ _ => ⟨rfl, e0, (by decide : 0 + 0 ≤ _), (by decide : 0 + 0 ≤ _)⟩)
            dsimp only [Pt.U, Pt.locs, Pt.cells, Pt.slots] at X151 l151 y151 z151 st151 hQ151
            subst l151 y151 z151
            obtain ⟨rv151, N151q, e151⟩ := hQ151
            rw [show sp1 w_1 w_2 w_3 w_5 p0 = (.ref w_5) from by unfold sp1; rw [if_neg hc35, if_pos hc103]] at rv151
            subst rv151
            have N151 := Fr.app N0 N151q
            obtain ⟨_, _, ⟨T152, L152, k152, n152⟩, -, X152, ⟨Lc152, hQ152, l152, y152, z152⟩, st152⟩ := Jvm.LawKit.callS X151 hx (y := Y0) hown (mvT hZ (hw _ (tk 0 rfl))) (mvT hZ (hw _ (tk 1 rfl))) (mvT hZ (hw _ (tk 2 rfl))) (mvT hZ (hw _ (tk 3 rfl))) (by decide) (backOf (W := 0) (rm1 l Z a0 hw [] w_1 w_2 w_3 w_4 w_5 k_4 hS0 p1 h0 n0 O0) hZ (hw _ (tk 3 rfl)) (hw _ (tk 2 rfl)) (by decide) (by decide)) (g := (mkF m 6 #[.val (.int p0), .val (.int p1), .val (.ref w_5), .unset, .unset, .unset] [(.int p1)])) rfl (by rw [hml]; rfl) (argsL := [(.int p1)]) (rest := []) (lenOf pd_0 rfl) rfl (by show 2 * 0 + _ ≤ _; exact Nat.le_of_eq rfl) (hb hby at_6) (fun _ _ => ⟨rfl, e151, (by decide : 0 + 0 ≤ _), (by decide : 0 + 0 ≤ _)⟩)
            dsimp only [Pt.U, Pt.locs, Pt.cells, Pt.slots] at X152 l152 y152 z152 st152 hQ152
            subst l152 y152 z152
            obtain ⟨rv152, N152q, e152⟩ := hQ152
            rw [show sp1 w_1 w_2 w_3 w_5 p1 = (.ref w_2) from by unfold sp1; rw [if_neg hc104, if_neg hc117, if_neg hc136]] at rv152
            subst rv152
            have N152 := Fr.app N151 N152q
            obtain ⟨T153, X153, e153, st153⟩ := getS2 X152 hx hZ hown (host := "") (Or.inl (hw _ (tk 9 rfl))) Via.refl e152 (S_3.ext O0.2) (g := (mkF m 11 #[.val (.int p0), .val (.int p1), .val (.ref w_5), .val (.ref w_2), .unset, .unset] [(.ref w_5)])) rfl (hb hby at_11)
            obtain ⟨T154, X154, e154, st154⟩ := getS2 X153 hx hZ hown (host := "") (Or.inl (hw _ (tk 7 rfl))) Via.refl e153 (S_2.ext O0.2) (g := (mkF m 18 #[.val (.int p0), .val (.int p1), .val (.ref w_5), .val (.ref w_2), .unset, .unset] [(.ref w_5)])) rfl (hb hby at_18)
            obtain ⟨cq163, kq163, q163a, q163b, q163c⟩ := isOf hZ e154 (E_5.ext O0.2)
            obtain ⟨_, _, ⟨T163, L163, k163, n163⟩, -, X163, ⟨Lc163, hQ163, l163, y163, z163⟩, st163⟩ := X154.virtualBack hx (y := Y2) (z := Y2) hown (mvT hZ (hw _ (tk 11 rfl))) (mvT hZ (hw _ (tk 12 rfl))) (notFace_of_selects (args := #[]) (mvT hZ (hw _ (tk 14 rfl)))) (mvT hZ (hw _ (tk 14 rfl))) (mvT hZ (hw _ (tk 13 rfl))) (by decide) (backOf (W := 0) (rm2x8 l Z a0 hw [] w_1 w_2 w_3 w_4 w_5 k_4 hS0 h0 n0 O0) hZ (hw _ (tk 15 rfl)) (hw _ (tk 5 rfl)) (by decide) (by decide)) q163a q163c (g := (mkF m 50 #[.val (.int p0), .val (.int p1), .val (.ref w_5), .val (.ref w_2), .val (.int (0 : Int32)), .val (.int (0 : Int32))] [(.ref w_2), (.ref w_5)])) rfl (by rw [hml]; rfl) (Steps.refl _) (argsL := [(.ref w_2)]) (rest := []) (lenOf pd_1 rfl) rfl (by show 2 * 0 + _ ≤ _; exact Nat.le_of_eq rfl) (hb hby at_50) (fun _ _ => ⟨rfl, e154, (by decide : 0 + 0 ≤ _), (by decide : 0 + 0 ≤ _)⟩)
            dsimp only [Pt.U, Pt.locs, Pt.cells, Pt.slots] at X163 l163 y163 z163 st163 hQ163
            subst l163 y163 z163
            obtain ⟨rv163, N163q, e163⟩ := hQ163
            rw [show sp2x8 = (0 : Int32) from by unfold sp2x8; rfl] at rv163
            subst rv163
            have N163 := Fr.app N152 N163q
            obtain ⟨fs, hr, hrun, hended, hW, hsame⟩ := X163.leave (v := some (.int (1 : Int32))) (fun h => by rw [Bd.returns] at h; cases h)
            refine ⟨_, _, pre0 _ ?_, hrun, hended, _, _, rfl, ?_, ⟨_, rfl⟩, hW, hsame.mono (by decide) (by decide)⟩
            · show Steps p.tables e below (s₁.setTop (mkF m 0 #[.val (.int p0), .val (.int p1), .unset, .unset, .unset, .unset] [])) _
              refine XS.iloadN X0.here hx rfl (hb hby at_0) rfl ?_
              show Steps p.tables e below (s₁.setTop (mkF m 1 #[.val (.int p0), .val (.int p1), .unset, .unset, .unset, .unset] [(.int p0)])) _
              refine st151 _ ?_
              show Steps p.tables e below (T151.setTop (mkF m 4 #[.val (.int p0), .val (.int p1), .unset, .unset, .unset, .unset] [(.ref w_5)])) _
              refine XS.astoreN X151.here hx rfl (hb hby at_4) rfl rfl (l' := #[.val (.int p0), .val (.int p1), .val (.ref w_5), .unset, .unset, .unset]) rfl ?_
              show Steps p.tables e below (T151.setTop (mkF m 5 #[.val (.int p0), .val (.int p1), .val (.ref w_5), .unset, .unset, .unset] [])) _
              refine XS.iloadN X151.here hx rfl (hb hby at_5) rfl ?_
              show Steps p.tables e below (T151.setTop (mkF m 6 #[.val (.int p0), .val (.int p1), .val (.ref w_5), .unset, .unset, .unset] [(.int p1)])) _
              refine st152 _ ?_
              show Steps p.tables e below (T152.setTop (mkF m 9 #[.val (.int p0), .val (.int p1), .val (.ref w_5), .unset, .unset, .unset] [(.ref w_2)])) _
              refine XS.astoreN X152.here hx rfl (hb hby at_9) rfl rfl (l' := #[.val (.int p0), .val (.int p1), .val (.ref w_5), .val (.ref w_2), .unset, .unset]) rfl ?_
              show Steps p.tables e below (T152.setTop (mkF m 10 #[.val (.int p0), .val (.int p1), .val (.ref w_5), .val (.ref w_2), .unset, .unset] [])) _
              refine XS.aloadN X152.here hx rfl (hb hby at_10) rfl rfl ?_
              show Steps p.tables e below (T152.setTop (mkF m 11 #[.val (.int p0), .val (.int p1), .val (.ref w_5), .val (.ref w_2), .unset, .unset] [(.ref w_5)])) _
              refine st153 _ ?_
              show Steps p.tables e below (T153.setTop (mkF m 14 #[.val (.int p0), .val (.int p1), .val (.ref w_5), .val (.ref w_2), .unset, .unset] [(.ref w_3), (.ref w_5)])) _
              refine Jvm.RoadKit.acmp (g := (mkF m 14 #[.val (.int p0), .val (.int p1), .val (.ref w_5), .val (.ref w_2), .unset, .unset] [(.ref w_3), (.ref w_5)])) X153 hx rfl rfl rfl (pc0 := 14) (pc' := 17) (same := false) rfl (hb hby at_14) rfl (decide_eq_false fun q => (Fld.ne F_5_ordinal F_3_ordinal (by decide)) (Value.ref.inj q)) (by decide) (by decide) ?_
              show Steps p.tables e below (T153.setTop (mkF m 17 #[.val (.int p0), .val (.int p1), .val (.ref w_5), .val (.ref w_2), .unset, .unset] [])) _
              refine XS.aloadN X153.here hx rfl (hb hby at_17) rfl rfl ?_
              show Steps p.tables e below (T153.setTop (mkF m 18 #[.val (.int p0), .val (.int p1), .val (.ref w_5), .val (.ref w_2), .unset, .unset] [(.ref w_5)])) _
              refine st154 _ ?_
              show Steps p.tables e below (T154.setTop (mkF m 21 #[.val (.int p0), .val (.int p1), .val (.ref w_5), .val (.ref w_2), .unset, .unset] [(.ref w_2), (.ref w_5)])) _
              refine Jvm.RoadKit.acmp (g := (mkF m 21 #[.val (.int p0), .val (.int p1), .val (.ref w_5), .val (.ref w_2), .unset, .unset] [(.ref w_2), (.ref w_5)])) X154 hx rfl rfl rfl (pc0 := 21) (pc' := 28) (same := false) rfl (hb hby at_21) rfl (decide_eq_false fun q => (Fld.ne F_5_ordinal F_2_ordinal (by decide)) (Value.ref.inj q)) (by decide) (by decide) ?_
              show Steps p.tables e below (T154.setTop (mkF m 28 #[.val (.int p0), .val (.int p1), .val (.ref w_5), .val (.ref w_2), .unset, .unset] [])) _
              refine XS.iconst X154.here hx rfl (hb hby at_28) ?_
              show Steps p.tables e below (T154.setTop (mkF m 29 #[.val (.int p0), .val (.int p1), .val (.ref w_5), .val (.ref w_2), .unset, .unset] [(.int (0 : Int32))])) _
              refine XS.istore X154.here hx rfl (hb hby at_29) rfl (l' := #[.val (.int p0), .val (.int p1), .val (.ref w_5), .val (.ref w_2), .val (.int (0 : Int32)), .unset]) rfl ?_
              show Steps p.tables e below (T154.setTop (mkF m 31 #[.val (.int p0), .val (.int p1), .val (.ref w_5), .val (.ref w_2), .val (.int (0 : Int32)), .unset] [])) _
              refine XS.iload X154.here hx rfl (hb hby at_31) rfl ?_
              show Steps p.tables e below (T154.setTop (mkF m 33 #[.val (.int p0), .val (.int p1), .val (.ref w_5), .val (.ref w_2), .val (.int (0 : Int32)), .unset] [(.int (0 : Int32))])) _
              refine XS.ifNo X154.here hx rfl (hb hby at_33) rfl ((if0 _ _).trans (teq (by decide : ((0 : Int32) = (0 : Int32)))).2) ?_
              show Steps p.tables e below (T154.setTop (mkF m 36 #[.val (.int p0), .val (.int p1), .val (.ref w_5), .val (.ref w_2), .val (.int (0 : Int32)), .unset] [])) _
              refine XS.aloadN X154.here hx rfl (hb hby at_36) rfl rfl ?_
              show Steps p.tables e below (T154.setTop (mkF m 37 #[.val (.int p0), .val (.int p1), .val (.ref w_5), .val (.ref w_2), .val (.int (0 : Int32)), .unset] [(.ref w_5)])) _
              refine XS.aloadN X154.here hx rfl (hb hby at_37) rfl rfl ?_
              show Steps p.tables e below (T154.setTop (mkF m 38 #[.val (.int p0), .val (.int p1), .val (.ref w_5), .val (.ref w_2), .val (.int (0 : Int32)), .unset] [(.ref w_2), (.ref w_5)])) _
              refine Jvm.RoadKit.acmp (g := (mkF m 38 #[.val (.int p0), .val (.int p1), .val (.ref w_5), .val (.ref w_2), .val (.int (0 : Int32)), .unset] [(.ref w_2), (.ref w_5)])) X154 hx rfl rfl rfl (pc0 := 38) (pc' := 45) (same := false) rfl (hb hby at_38) rfl (decide_eq_false fun q => (Fld.ne F_5_ordinal F_2_ordinal (by decide)) (Value.ref.inj q)) (by decide) (by decide) ?_
              show Steps p.tables e below (T154.setTop (mkF m 45 #[.val (.int p0), .val (.int p1), .val (.ref w_5), .val (.ref w_2), .val (.int (0 : Int32)), .unset] [])) _
              refine XS.iconst X154.here hx rfl (hb hby at_45) ?_
              show Steps p.tables e below (T154.setTop (mkF m 46 #[.val (.int p0), .val (.int p1), .val (.ref w_5), .val (.ref w_2), .val (.int (0 : Int32)), .unset] [(.int (0 : Int32))])) _
              refine XS.istore X154.here hx rfl (hb hby at_46) rfl (l' := #[.val (.int p0), .val (.int p1), .val (.ref w_5), .val (.ref w_2), .val (.int (0 : Int32)), .val (.int (0 : Int32))]) rfl ?_
              show Steps p.tables e below (T154.setTop (mkF m 48 #[.val (.int p0), .val (.int p1), .val (.ref w_5), .val (.ref w_2), .val (.int (0 : Int32)), .val (.int (0 : Int32))] [])) _
              refine XS.aloadN X154.here hx rfl (hb hby at_48) rfl rfl ?_
              show Steps p.tables e below (T154.setTop (mkF m 49 #[.val (.int p0), .val (.int p1), .val (.ref w_5), .val (.ref w_2), .val (.int (0 : Int32)), .val (.int (0 : Int32))] [(.ref w_5)])) _
              refine XS.aloadN X154.here hx rfl (hb hby at_49) rfl rfl ?_
              show Steps p.tables e below (T154.setTop (mkF m 50 #[.val (.int p0), .val (.int p1), .val (.ref w_5), .val (.ref w_2), .val (.int (0 : Int32)), .val (.int (0 : Int32))] [(.ref w_2), (.ref w_5)])) _
              refine st163.trans ?_
              show Steps p.tables e below (T163.setTop (mkF m 53 #[.val (.int p0), .val (.int p1), .val (.ref w_5), .val (.ref w_2), .val (.int (0 : Int32)), .val (.int (0 : Int32))] [(.int (0 : Int32))])) _
              refine XS.iload X163.here hx rfl (hb hby at_53) rfl ?_
              show Steps p.tables e below (T163.setTop (mkF m 55 #[.val (.int p0), .val (.int p1), .val (.ref w_5), .val (.ref w_2), .val (.int (0 : Int32)), .val (.int (0 : Int32))] [(.int (0 : Int32)), (.int (0 : Int32))])) _
              refine XS.icmpNo X163.here hx rfl (hb hby at_55) rfl (teq (by decide : ((0 : Int32) = (0 : Int32)))).2 ?_
              show Steps p.tables e below (T163.setTop (mkF m 58 #[.val (.int p0), .val (.int p1), .val (.ref w_5), .val (.ref w_2), .val (.int (0 : Int32)), .val (.int (0 : Int32))] [])) _
              refine XS.iconst X163.here hx rfl (hb hby at_58) ?_
              show Steps p.tables e below (T163.setTop (mkF m 59 #[.val (.int p0), .val (.int p1), .val (.ref w_5), .val (.ref w_2), .val (.int (0 : Int32)), .val (.int (0 : Int32))] [(.int (1 : Int32))])) _
              refine XS.goto X163.here hx rfl (pc0 := 59) (pc' := 63) rfl (hb hby at_59) (by decide) (by decide) ?_
              show Steps p.tables e below (T163.setTop (mkF m 63 #[.val (.int p0), .val (.int p1), .val (.ref w_5), .val (.ref w_2), .val (.int (0 : Int32)), .val (.int (0 : Int32))] [(.int (1 : Int32))])) _
              exact retN X163 hx (t := .boolean) Bd.returns (by simp) (hb hby at_63) hr
            · show Q0 Z w_1 w_2 w_3 w_4 w_5 k_4 p0 p1 h0 n0 _ T163.heap _
              rw [e163]
              exact ⟨by unfold sp0; rw [if_neg hc35, if_pos hc103, if_neg hc104, if_neg hc117, if_neg hc136], N163, rfl⟩
    · by_cases hc164 : (p0 &&& (3 : Int32)) = (2 : Int32)
      · by_cases hc165 : (p1 &&& (3 : Int32)) = (0 : Int32)
        · obtain ⟨_, _, ⟨T166, L166, k166, n166⟩, -, X166, ⟨Lc166, hQ166, l166, y166, z166⟩, st166⟩ := Jvm.LawKit.callS X0 hx (y := Y0) hown (mvT hZ (hw _ (tk 0 rfl))) (mvT hZ (hw _ (tk 1 rfl))) (mvT hZ (hw _ (tk 2 rfl))) (mvT hZ (hw _ (tk 3 rfl))) (by decide) (backOf (W := 0) (rm1 l Z a0 hw [] w_1 w_2 w_3 w_4 w_5 k_4 hS0 p0 h0 n0 O0) hZ (hw _ (tk 3 rfl)) (hw _ (tk 2 rfl)) (by decide) (by decide)) (g := (mkF m 1 #[.val (.int p0), .val (.int p1), .unset, .unset, .unset, .unset] [(.int p0)])) rfl (by rw [hml]; rfl) (argsL := [(.int p0)]) (rest := []) (lenOf pd_0 rfl) rfl (by show 2 * 0 + _ ≤ _; exact Nat.le_of_eq rfl) (hb hby at_1) (fun _ _ => ⟨rfl, e0, (by decide : 0 + 0 ≤ _), (by decide : 0 + 0 ≤ _)⟩)
          dsimp only [Pt.U, Pt.locs, Pt.cells, Pt.slots] at X166 l166 y166 z166 st166 hQ166
          subst l166 y166 z166
          obtain ⟨rv166, N166q, e166⟩ := hQ166
          rw [show sp1 w_1 w_2 w_3 w_5 p0 = (.ref w_3) from by unfold sp1; rw [if_neg hc35, if_neg hc103, if_pos hc164]] at rv166
          subst rv166
          have N166 := Fr.app N0 N166q
          obtain ⟨_, _, ⟨T167, L167, k167, n167⟩, -, X167, ⟨Lc167, hQ167, l167, y167, z167⟩, st167⟩ := Jvm.LawKit.callS X166 hx (y := Y0) hown (mvT hZ (hw _ (tk 0 rfl))) (mvT hZ (hw _ (tk 1 rfl))) (mvT hZ (hw _ (tk 2 rfl))) (mvT hZ (hw _ (tk 3 rfl))) (by decide) (backOf (W := 0) (rm1 l Z a0 hw [] w_1 w_2 w_3 w_4 w_5 k_4 hS0 p1 h0 n0 O0) hZ (hw _ (tk 3 rfl)) (hw _ (tk 2 rfl)) (by decide) (by decide)) (g := (mkF m 6 #[.val (.int p0), .val (.int p1), .val (.ref w_3), .unset, .unset, .unset] [(.int p1)])) rfl (by rw [hml]; rfl) (argsL := [(.int p1)]) (rest := []) (lenOf pd_0 rfl) rfl (by show 2 * 0 + _ ≤ _; exact Nat.le_of_eq rfl) (hb hby at_6) (fun _ _ => ⟨rfl, e166, (by decide : 0 + 0 ≤ _), (by decide : 0 + 0 ≤ _)⟩)
          dsimp only [Pt.U, Pt.locs, Pt.cells, Pt.slots] at X167 l167 y167 z167 st167 hQ167
          subst l167 y167 z167
          obtain ⟨rv167, N167q, e167⟩ := hQ167
          rw [show sp1 w_1 w_2 w_3 w_5 p1 = (.ref w_1) from by unfold sp1; rw [if_pos hc165]] at rv167
          subst rv167
          have N167 := Fr.app N166 N167q
          obtain ⟨T168, X168, e168, st168⟩ := getS2 X167 hx hZ hown (host := "") (Or.inl (hw _ (tk 9 rfl))) Via.refl e167 (S_3.ext O0.2) (g := (mkF m 11 #[.val (.int p0), .val (.int p1), .val (.ref w_3), .val (.ref w_1), .unset, .unset] [(.ref w_3)])) rfl (hb hby at_11)
          obtain ⟨cq182, kq182, q182a, q182b, q182c⟩ := isOf hZ e168 (E_3.ext O0.2)
          obtain ⟨_, _, ⟨T182, L182, k182, n182⟩, -, X182, ⟨Lc182, hQ182, l182, y182, z182⟩, st182⟩ := X168.virtualBack hx (y := Y2) (z := Y2) hown (mvT hZ (hw _ (tk 11 rfl))) (mvT hZ (hw _ (tk 12 rfl))) (notFace_of_selects (args := #[]) (mvT hZ (hw _ (tk 14 rfl)))) (mvT hZ (hw _ (tk 14 rfl))) (mvT hZ (hw _ (tk 13 rfl))) (by decide) (backOf (W := 0) (rm2x9 l Z a0 hw [] w_1 w_2 w_3 w_4 w_5 k_4 hS0 h0 n0 O0) hZ (hw _ (tk 15 rfl)) (hw _ (tk 5 rfl)) (by decide) (by decide)) q182a q182c (g := (mkF m 50 #[.val (.int p0), .val (.int p1), .val (.ref w_3), .val (.ref w_1), .val (.int (1 : Int32)), .val (.int (1 : Int32))] [(.ref w_1), (.ref w_3)])) rfl (by rw [hml]; rfl) (Steps.refl _) (argsL := [(.ref w_1)]) (rest := []) (lenOf pd_1 rfl) rfl (by show 2 * 0 + _ ≤ _; exact Nat.le_of_eq rfl) (hb hby at_50) (fun _ _ => ⟨rfl, e168, (by decide : 0 + 0 ≤ _), (by decide : 0 + 0 ≤ _)⟩)
          dsimp only [Pt.U, Pt.locs, Pt.cells, Pt.slots] at X182 l182 y182 z182 st182 hQ182
          subst l182 y182 z182
          obtain ⟨rv182, N182q, e182⟩ := hQ182
          rw [show sp2x9 = (1 : Int32) from by unfold sp2x9; rfl] at rv182
          subst rv182
          have N182 := Fr.app N167 N182q
          obtain ⟨fs, hr, hrun, hended, hW, hsame⟩ := X182.leave (v := some (.int (1 : Int32))) (fun h => by rw [Bd.returns] at h; cases h)
          refine ⟨_, _, pre0 _ ?_, hrun, hended, _, _, rfl, ?_, ⟨_, rfl⟩, hW, hsame.mono (by decide) (by decide)⟩
          · show Steps p.tables e below (s₁.setTop (mkF m 0 #[.val (.int p0), .val (.int p1), .unset, .unset, .unset, .unset] [])) _
            refine XS.iloadN X0.here hx rfl (hb hby at_0) rfl ?_
            show Steps p.tables e below (s₁.setTop (mkF m 1 #[.val (.int p0), .val (.int p1), .unset, .unset, .unset, .unset] [(.int p0)])) _
            refine st166 _ ?_
            show Steps p.tables e below (T166.setTop (mkF m 4 #[.val (.int p0), .val (.int p1), .unset, .unset, .unset, .unset] [(.ref w_3)])) _
            refine XS.astoreN X166.here hx rfl (hb hby at_4) rfl rfl (l' := #[.val (.int p0), .val (.int p1), .val (.ref w_3), .unset, .unset, .unset]) rfl ?_
            show Steps p.tables e below (T166.setTop (mkF m 5 #[.val (.int p0), .val (.int p1), .val (.ref w_3), .unset, .unset, .unset] [])) _
            refine XS.iloadN X166.here hx rfl (hb hby at_5) rfl ?_
            show Steps p.tables e below (T166.setTop (mkF m 6 #[.val (.int p0), .val (.int p1), .val (.ref w_3), .unset, .unset, .unset] [(.int p1)])) _
            refine st167 _ ?_
            show Steps p.tables e below (T167.setTop (mkF m 9 #[.val (.int p0), .val (.int p1), .val (.ref w_3), .unset, .unset, .unset] [(.ref w_1)])) _
            refine XS.astoreN X167.here hx rfl (hb hby at_9) rfl rfl (l' := #[.val (.int p0), .val (.int p1), .val (.ref w_3), .val (.ref w_1), .unset, .unset]) rfl ?_
            show Steps p.tables e below (T167.setTop (mkF m 10 #[.val (.int p0), .val (.int p1), .val (.ref w_3), .val (.ref w_1), .unset, .unset] [])) _
            refine XS.aloadN X167.here hx rfl (hb hby at_10) rfl rfl ?_
            show Steps p.tables e below (T167.setTop (mkF m 11 #[.val (.int p0), .val (.int p1), .val (.ref w_3), .val (.ref w_1), .unset, .unset] [(.ref w_3)])) _
            refine st168 _ ?_
            show Steps p.tables e below (T168.setTop (mkF m 14 #[.val (.int p0), .val (.int p1), .val (.ref w_3), .val (.ref w_1), .unset, .unset] [(.ref w_3), (.ref w_3)])) _
            refine Jvm.RoadKit.acmp (g := (mkF m 14 #[.val (.int p0), .val (.int p1), .val (.ref w_3), .val (.ref w_1), .unset, .unset] [(.ref w_3), (.ref w_3)])) X168 hx rfl rfl rfl (pc0 := 14) (pc' := 24) (same := true) rfl (hb hby at_14) rfl (decide_eq_true (congrArg Value.ref rfl)) (by decide) (by decide) ?_
            show Steps p.tables e below (T168.setTop (mkF m 24 #[.val (.int p0), .val (.int p1), .val (.ref w_3), .val (.ref w_1), .unset, .unset] [])) _
            refine XS.iconst X168.here hx rfl (hb hby at_24) ?_
            show Steps p.tables e below (T168.setTop (mkF m 25 #[.val (.int p0), .val (.int p1), .val (.ref w_3), .val (.ref w_1), .unset, .unset] [(.int (1 : Int32))])) _
            refine XS.goto X168.here hx rfl (pc0 := 25) (pc' := 29) rfl (hb hby at_25) (by decide) (by decide) ?_
            show Steps p.tables e below (T168.setTop (mkF m 29 #[.val (.int p0), .val (.int p1), .val (.ref w_3), .val (.ref w_1), .unset, .unset] [(.int (1 : Int32))])) _
            refine XS.istore X168.here hx rfl (hb hby at_29) rfl (l' := #[.val (.int p0), .val (.int p1), .val (.ref w_3), .val (.ref w_1), .val (.int (1 : Int32)), .unset]) rfl ?_
            show Steps p.tables e below (T168.setTop (mkF m 31 #[.val (.int p0), .val (.int p1), .val (.ref w_3), .val (.ref w_1), .val (.int (1 : Int32)), .unset] [])) _
            refine XS.iload X168.here hx rfl (hb hby at_31) rfl ?_
            show Steps p.tables e below (T168.setTop (mkF m 33 #[.val (.int p0), .val (.int p1), .val (.ref w_3), .val (.ref w_1), .val (.int (1 : Int32)), .unset] [(.int (1 : Int32))])) _
            refine XS.ifYes X168.here hx rfl (pc0 := 33) (pc' := 41) rfl (hb hby at_33) rfl ((if0 _ _).trans (feq (by decide : ¬ ((1 : Int32) = (0 : Int32)))).2) (by decide) (by decide) ?_
            show Steps p.tables e below (T168.setTop (mkF m 41 #[.val (.int p0), .val (.int p1), .val (.ref w_3), .val (.ref w_1), .val (.int (1 : Int32)), .unset] [])) _
            refine XS.iconst X168.here hx rfl (hb hby at_41) ?_
            show Steps p.tables e below (T168.setTop (mkF m 42 #[.val (.int p0), .val (.int p1), .val (.ref w_3), .val (.ref w_1), .val (.int (1 : Int32)), .unset] [(.int (1 : Int32))])) _
            refine XS.goto X168.here hx rfl (pc0 := 42) (pc' := 46) rfl (hb hby at_42) (by decide) (by decide) ?_
            show Steps p.tables e below (T168.setTop (mkF m 46 #[.val (.int p0), .val (.int p1), .val (.ref w_3), .val (.ref w_1), .val (.int (1 : Int32)), .unset] [(.int (1 : Int32))])) _
            refine XS.istore X168.here hx rfl (hb hby at_46) rfl (l' := #[.val (.int p0), .val (.int p1), .val (.ref w_3), .val (.ref w_1), .val (.int (1 : Int32)), .val (.int (1 : Int32))]) rfl ?_
            show Steps p.tables e below (T168.setTop (mkF m 48 #[.val (.int p0), .val (.int p1), .val (.ref w_3), .val (.ref w_1), .val (.int (1 : Int32)), .val (.int (1 : Int32))] [])) _
            refine XS.aloadN X168.here hx rfl (hb hby at_48) rfl rfl ?_
            show Steps p.tables e below (T168.setTop (mkF m 49 #[.val (.int p0), .val (.int p1), .val (.ref w_3), .val (.ref w_1), .val (.int (1 : Int32)), .val (.int (1 : Int32))] [(.ref w_3)])) _
            refine XS.aloadN X168.here hx rfl (hb hby at_49) rfl rfl ?_
            show Steps p.tables e below (T168.setTop (mkF m 50 #[.val (.int p0), .val (.int p1), .val (.ref w_3), .val (.ref w_1), .val (.int (1 : Int32)), .val (.int (1 : Int32))] [(.ref w_1), (.ref w_3)])) _
            refine st182.trans ?_
            show Steps p.tables e below (T182.setTop (mkF m 53 #[.val (.int p0), .val (.int p1), .val (.ref w_3), .val (.ref w_1), .val (.int (1 : Int32)), .val (.int (1 : Int32))] [(.int (1 : Int32))])) _
            refine XS.iload X182.here hx rfl (hb hby at_53) rfl ?_
            show Steps p.tables e below (T182.setTop (mkF m 55 #[.val (.int p0), .val (.int p1), .val (.ref w_3), .val (.ref w_1), .val (.int (1 : Int32)), .val (.int (1 : Int32))] [(.int (1 : Int32)), (.int (1 : Int32))])) _
            refine XS.icmpNo X182.here hx rfl (hb hby at_55) rfl (teq (by decide : ((1 : Int32) = (1 : Int32)))).2 ?_
            show Steps p.tables e below (T182.setTop (mkF m 58 #[.val (.int p0), .val (.int p1), .val (.ref w_3), .val (.ref w_1), .val (.int (1 : Int32)), .val (.int (1 : Int32))] [])) _
            refine XS.iconst X182.here hx rfl (hb hby at_58) ?_
            show Steps p.tables e below (T182.setTop (mkF m 59 #[.val (.int p0), .val (.int p1), .val (.ref w_3), .val (.ref w_1), .val (.int (1 : Int32)), .val (.int (1 : Int32))] [(.int (1 : Int32))])) _
            refine XS.goto X182.here hx rfl (pc0 := 59) (pc' := 63) rfl (hb hby at_59) (by decide) (by decide) ?_
            show Steps p.tables e below (T182.setTop (mkF m 63 #[.val (.int p0), .val (.int p1), .val (.ref w_3), .val (.ref w_1), .val (.int (1 : Int32)), .val (.int (1 : Int32))] [(.int (1 : Int32))])) _
            exact retN X182 hx (t := .boolean) Bd.returns (by simp) (hb hby at_63) hr
          · show Q0 Z w_1 w_2 w_3 w_4 w_5 k_4 p0 p1 h0 n0 _ T182.heap _
            rw [e182]
            exact ⟨by unfold sp0; rw [if_neg hc35, if_neg hc103, if_pos hc164, if_pos hc165], N182, rfl⟩
        · by_cases hc183 : (p1 &&& (3 : Int32)) = (1 : Int32)
          · obtain ⟨_, _, ⟨T184, L184, k184, n184⟩, -, X184, ⟨Lc184, hQ184, l184, y184, z184⟩, st184⟩ := Jvm.LawKit.callS X0 hx (y := Y0) hown (mvT hZ (hw _ (tk 0 rfl))) (mvT hZ (hw _ (tk 1 rfl))) (mvT hZ (hw _ (tk 2 rfl))) (mvT hZ (hw _ (tk 3 rfl))) (by decide) (backOf (W := 0) (rm1 l Z a0 hw [] w_1 w_2 w_3 w_4 w_5 k_4 hS0 p0 h0 n0 O0) hZ (hw _ (tk 3 rfl)) (hw _ (tk 2 rfl)) (by decide) (by decide)) (g := (mkF m 1 #[.val (.int p0), .val (.int p1), .unset, .unset, .unset, .unset] [(.int p0)])) rfl (by rw [hml]; rfl) (argsL := [(.int p0)]) (rest := []) (lenOf pd_0 rfl) rfl (by show 2 * 0 + _ ≤ _; exact Nat.le_of_eq rfl) (hb hby at_1) (fun _ _ => ⟨rfl, e0, (by decide : 0 + 0 ≤ _), (by decide : 0 + 0 ≤ _)⟩)
            dsimp only [Pt.U, Pt.locs, Pt.cells, Pt.slots] at X184 l184 y184 z184 st184 hQ184
            subst l184 y184 z184
            obtain ⟨rv184, N184q, e184⟩ := hQ184
            rw [show sp1 w_1 w_2 w_3 w_5 p0 = (.ref w_3) from by unfold sp1; rw [if_neg hc35, if_neg hc103, if_pos hc164]] at rv184
            subst rv184
            have N184 := Fr.app N0 N184q
            obtain ⟨_, _, ⟨T185, L185, k185, n185⟩, -, X185, ⟨Lc185, hQ185, l185, y185, z185⟩, st185⟩ := Jvm.LawKit.callS X184 hx (y := Y0) hown (mvT hZ (hw _ (tk 0 rfl))) (mvT hZ (hw _ (tk 1 rfl))) (mvT hZ (hw _ (tk 2 rfl))) (mvT hZ (hw _ (tk 3 rfl))) (by decide) (backOf (W := 0) (rm1 l Z a0 hw [] w_1 w_2 w_3 w_4 w_5 k_4 hS0 p1 h0 n0 O0) hZ (hw _ (tk 3 rfl)) (hw _ (tk 2 rfl)) (by decide) (by decide)) (g := (mkF m 6 #[.val (.int p0), .val (.int p1), .val (.ref w_3), .unset, .unset, .unset] [(.int p1)])) rfl (by rw [hml]; rfl) (argsL := [(.int p1)]) (rest := []) (lenOf pd_0 rfl) rfl (by show 2 * 0 + _ ≤ _; exact Nat.le_of_eq rfl) (hb hby at_6) (fun _ _ => ⟨rfl, e184, (by decide : 0 + 0 ≤ _), (by decide : 0 + 0 ≤ _)⟩)
            dsimp only [Pt.U, Pt.locs, Pt.cells, Pt.slots] at X185 l185 y185 z185 st185 hQ185
            subst l185 y185 z185
            obtain ⟨rv185, N185q, e185⟩ := hQ185
            rw [show sp1 w_1 w_2 w_3 w_5 p1 = (.ref w_5) from by unfold sp1; rw [if_neg hc165, if_pos hc183]] at rv185
            subst rv185
            have N185 := Fr.app N184 N185q
            obtain ⟨T186, X186, e186, st186⟩ := getS2 X185 hx hZ hown (host := "") (Or.inl (hw _ (tk 9 rfl))) Via.refl e185 (S_3.ext O0.2) (g := (mkF m 11 #[.val (.int p0), .val (.int p1), .val (.ref w_3), .val (.ref w_5), .unset, .unset] [(.ref w_3)])) rfl (hb hby at_11)
            obtain ⟨cq200, kq200, q200a, q200b, q200c⟩ := isOf hZ e186 (E_3.ext O0.2)
            obtain ⟨_, _, ⟨T200, L200, k200, n200⟩, -, X200, ⟨Lc200, hQ200, l200, y200, z200⟩, st200⟩ := X186.virtualBack hx (y := Y2) (z := Y2) hown (mvT hZ (hw _ (tk 11 rfl))) (mvT hZ (hw _ (tk 12 rfl))) (notFace_of_selects (args := #[]) (mvT hZ (hw _ (tk 14 rfl)))) (mvT hZ (hw _ (tk 14 rfl))) (mvT hZ (hw _ (tk 13 rfl))) (by decide) (backOf (W := 0) (rm2x10 l Z a0 hw [] w_1 w_2 w_3 w_4 w_5 k_4 hS0 h0 n0 O0) hZ (hw _ (tk 15 rfl)) (hw _ (tk 5 rfl)) (by decide) (by decide)) q200a q200c (g := (mkF m 50 #[.val (.int p0), .val (.int p1), .val (.ref w_3), .val (.ref w_5), .val (.int (1 : Int32)), .val (.int (1 : Int32))] [(.ref w_5), (.ref w_3)])) rfl (by rw [hml]; rfl) (Steps.refl _) (argsL := [(.ref w_5)]) (rest := []) (lenOf pd_1 rfl) rfl (by show 2 * 0 + _ ≤ _; exact Nat.le_of_eq rfl) (hb hby at_50) (fun _ _ => ⟨rfl, e186, (by decide : 0 + 0 ≤ _), (by decide : 0 + 0 ≤ _)⟩)
            dsimp only [Pt.U, Pt.locs, Pt.cells, Pt.slots] at X200 l200 y200 z200 st200 hQ200
            subst l200 y200 z200
            obtain ⟨rv200, N200q, e200⟩ := hQ200
            rw [show sp2x10 = (1 : Int32) from by unfold sp2x10; rfl] at rv200
            subst rv200
            have N200 := Fr.app N185 N200q
            obtain ⟨fs, hr, hrun, hended, hW, hsame⟩ := X200.leave (v := some (.int (1 : Int32))) (fun h => by rw [Bd.returns] at h; cases h)
            refine ⟨_, _, pre0 _ ?_, hrun, hended, _, _, rfl, ?_, ⟨_, rfl⟩, hW, hsame.mono (by decide) (by decide)⟩
            · show Steps p.tables e below (s₁.setTop (mkF m 0 #[.val (.int p0), .val (.int p1), .unset, .unset, .unset, .unset] [])) _
              refine XS.iloadN X0.here hx rfl (hb hby at_0) rfl ?_
              show Steps p.tables e below (s₁.setTop (mkF m 1 #[.val (.int p0), .val (.int p1), .unset, .unset, .unset, .unset] [(.int p0)])) _
              refine st184 _ ?_
              show Steps p.tables e below (T184.setTop (mkF m 4 #[.val (.int p0), .val (.int p1), .unset, .unset, .unset, .unset] [(.ref w_3)])) _
              refine XS.astoreN X184.here hx rfl (hb hby at_4) rfl rfl (l' := #[.val (.int p0), .val (.int p1), .val (.ref w_3), .unset, .unset, .unset]) rfl ?_
              show Steps p.tables e below (T184.setTop (mkF m 5 #[.val (.int p0), .val (.int p1), .val (.ref w_3), .unset, .unset, .unset] [])) _
              refine XS.iloadN X184.here hx rfl (hb hby at_5) rfl ?_
              show Steps p.tables e below (T184.setTop (mkF m 6 #[.val (.int p0), .val (.int p1), .val (.ref w_3), .unset, .unset, .unset] [(.int p1)])) _
              refine st185 _ ?_
              show Steps p.tables e below (T185.setTop (mkF m 9 #[.val (.int p0), .val (.int p1), .val (.ref w_3), .unset, .unset, .unset] [(.ref w_5)])) _
              refine XS.astoreN X185.here hx rfl (hb hby at_9) rfl rfl (l' := #[.val (.int p0), .val (.int p1), .val (.ref w_3), .val (.ref w_5), .unset, .unset]) rfl ?_
              show Steps p.tables e below (T185.setTop (mkF m 10 #[.val (.int p0), .val (.int p1), .val (.ref w_3), .val (.ref w_5), .unset, .unset] [])) _
              refine XS.aloadN X185.here hx rfl (hb hby at_10) rfl rfl ?_
              show Steps p.tables e below (T185.setTop (mkF m 11 #[.val (.int p0), .val (.int p1), .val (.ref w_3), .val (.ref w_5), .unset, .unset] [(.ref w_3)])) _
              refine st186 _ ?_
              show Steps p.tables e below (T186.setTop (mkF m 14 #[.val (.int p0), .val (.int p1), .val (.ref w_3), .val (.ref w_5), .unset, .unset] [(.ref w_3), (.ref w_3)])) _
              refine Jvm.RoadKit.acmp (g := (mkF m 14 #[.val (.int p0), .val (.int p1), .val (.ref w_3), .val (.ref w_5), .unset, .unset] [(.ref w_3), (.ref w_3)])) X186 hx rfl rfl rfl (pc0 := 14) (pc' := 24) (same := true) rfl (hb hby at_14) rfl (decide_eq_true (congrArg Value.ref rfl)) (by decide) (by decide) ?_
              show Steps p.tables e below (T186.setTop (mkF m 24 #[.val (.int p0), .val (.int p1), .val (.ref w_3), .val (.ref w_5), .unset, .unset] [])) _
              refine XS.iconst X186.here hx rfl (hb hby at_24) ?_
              show Steps p.tables e below (T186.setTop (mkF m 25 #[.val (.int p0), .val (.int p1), .val (.ref w_3), .val (.ref w_5), .unset, .unset] [(.int (1 : Int32))])) _
              refine XS.goto X186.here hx rfl (pc0 := 25) (pc' := 29) rfl (hb hby at_25) (by decide) (by decide) ?_
              show Steps p.tables e below (T186.setTop (mkF m 29 #[.val (.int p0), .val (.int p1), .val (.ref w_3), .val (.ref w_5), .unset, .unset] [(.int (1 : Int32))])) _
              refine XS.istore X186.here hx rfl (hb hby at_29) rfl (l' := #[.val (.int p0), .val (.int p1), .val (.ref w_3), .val (.ref w_5), .val (.int (1 : Int32)), .unset]) rfl ?_
              show Steps p.tables e below (T186.setTop (mkF m 31 #[.val (.int p0), .val (.int p1), .val (.ref w_3), .val (.ref w_5), .val (.int (1 : Int32)), .unset] [])) _
              refine XS.iload X186.here hx rfl (hb hby at_31) rfl ?_
              show Steps p.tables e below (T186.setTop (mkF m 33 #[.val (.int p0), .val (.int p1), .val (.ref w_3), .val (.ref w_5), .val (.int (1 : Int32)), .unset] [(.int (1 : Int32))])) _
              refine XS.ifYes X186.here hx rfl (pc0 := 33) (pc' := 41) rfl (hb hby at_33) rfl ((if0 _ _).trans (feq (by decide : ¬ ((1 : Int32) = (0 : Int32)))).2) (by decide) (by decide) ?_
              show Steps p.tables e below (T186.setTop (mkF m 41 #[.val (.int p0), .val (.int p1), .val (.ref w_3), .val (.ref w_5), .val (.int (1 : Int32)), .unset] [])) _
              refine XS.iconst X186.here hx rfl (hb hby at_41) ?_
              show Steps p.tables e below (T186.setTop (mkF m 42 #[.val (.int p0), .val (.int p1), .val (.ref w_3), .val (.ref w_5), .val (.int (1 : Int32)), .unset] [(.int (1 : Int32))])) _
              refine XS.goto X186.here hx rfl (pc0 := 42) (pc' := 46) rfl (hb hby at_42) (by decide) (by decide) ?_
              show Steps p.tables e below (T186.setTop (mkF m 46 #[.val (.int p0), .val (.int p1), .val (.ref w_3), .val (.ref w_5), .val (.int (1 : Int32)), .unset] [(.int (1 : Int32))])) _
              refine XS.istore X186.here hx rfl (hb hby at_46) rfl (l' := #[.val (.int p0), .val (.int p1), .val (.ref w_3), .val (.ref w_5), .val (.int (1 : Int32)), .val (.int (1 : Int32))]) rfl ?_
              show Steps p.tables e below (T186.setTop (mkF m 48 #[.val (.int p0), .val (.int p1), .val (.ref w_3), .val (.ref w_5), .val (.int (1 : Int32)), .val (.int (1 : Int32))] [])) _
              refine XS.aloadN X186.here hx rfl (hb hby at_48) rfl rfl ?_
              show Steps p.tables e below (T186.setTop (mkF m 49 #[.val (.int p0), .val (.int p1), .val (.ref w_3), .val (.ref w_5), .val (.int (1 : Int32)), .val (.int (1 : Int32))] [(.ref w_3)])) _
              refine XS.aloadN X186.here hx rfl (hb hby at_49) rfl rfl ?_
              show Steps p.tables e below (T186.setTop (mkF m 50 #[.val (.int p0), .val (.int p1), .val (.ref w_3), .val (.ref w_5), .val (.int (1 : Int32)), .val (.int (1 : Int32))] [(.ref w_5), (.ref w_3)])) _
              refine st200.trans ?_
              show Steps p.tables e below (T200.setTop (mkF m 53 #[.val (.int p0), .val (.int p1), .val (.ref w_3), .val (.ref w_5), .val (.int (1 : Int32)), .val (.int (1 : Int32))] [(.int (1 : Int32))])) _
              refine XS.iload X200.here hx rfl (hb hby at_53) rfl ?_
              show Steps p.tables e below (T200.setTop (mkF m 55 #[.val (.int p0), .val (.int p1), .val (.ref w_3), .val (.ref w_5), .val (.int (1 : Int32)), .val (.int (1 : Int32))] [(.int (1 : Int32)), (.int (1 : Int32))])) _
              refine XS.icmpNo X200.here hx rfl (hb hby at_55) rfl (teq (by decide : ((1 : Int32) = (1 : Int32)))).2 ?_
              show Steps p.tables e below (T200.setTop (mkF m 58 #[.val (.int p0), .val (.int p1), .val (.ref w_3), .val (.ref w_5), .val (.int (1 : Int32)), .val (.int (1 : Int32))] [])) _
              refine XS.iconst X200.here hx rfl (hb hby at_58) ?_
              show Steps p.tables e below (T200.setTop (mkF m 59 #[.val (.int p0), .val (.int p1), .val (.ref w_3), .val (.ref w_5), .val (.int (1 : Int32)), .val (.int (1 : Int32))] [(.int (1 : Int32))])) _
              refine XS.goto X200.here hx rfl (pc0 := 59) (pc' := 63) rfl (hb hby at_59) (by decide) (by decide) ?_
              show Steps p.tables e below (T200.setTop (mkF m 63 #[.val (.int p0), .val (.int p1), .val (.ref w_3), .val (.ref w_5), .val (.int (1 : Int32)), .val (.int (1 : Int32))] [(.int (1 : Int32))])) _
              exact retN X200 hx (t := .boolean) Bd.returns (by simp) (hb hby at_63) hr
            · show Q0 Z w_1 w_2 w_3 w_4 w_5 k_4 p0 p1 h0 n0 _ T200.heap _
              rw [e200]
              exact ⟨by unfold sp0; rw [if_neg hc35, if_neg hc103, if_pos hc164, if_neg hc165, if_pos hc183], N200, rfl⟩
          · by_cases hc201 : (p1 &&& (3 : Int32)) = (2 : Int32)
            · obtain ⟨_, _, ⟨T202, L202, k202, n202⟩, -, X202, ⟨Lc202, hQ202, l202, y202, z202⟩, st202⟩ := Jvm.LawKit.callS X0 hx (y := Y0) hown (mvT hZ (hw _ (tk 0 rfl))) (mvT hZ (hw _ (tk 1 rfl))) (mvT hZ (hw _ (tk 2 rfl))) (mvT hZ (hw _ (tk 3 rfl))) (by decide) (backOf (W := 0) (rm1 l Z a0 hw [] w_1 w_2 w_3 w_4 w_5 k_4 hS0 p0 h0 n0 O0) hZ (hw _ (tk 3 rfl)) (hw _ (tk 2 rfl)) (by decide) (by decide)) (g := (mkF m 1 #[.val (.int p0), .val (.int p1), .unset, .unset, .unset, .unset] [(.int p0)])) rfl (by rw [hml]; rfl) (argsL := [(.int p0)]) (rest := []) (lenOf pd_0 rfl) rfl (by show 2 * 0 + _ ≤ _; exact Nat.le_of_eq rfl) (hb hby at_1) (fun _ _ => ⟨rfl, e0, (by decide : 0 + 0 ≤ _), (by decide : 0 + 0 ≤ _)⟩)
              dsimp only [Pt.U, Pt.locs, Pt.cells, Pt.slots] at X202 l202 y202 z202 st202 hQ202
              subst l202 y202 z202
              obtain ⟨rv202, N202q, e202⟩ := hQ202
              rw [show sp1 w_1 w_2 w_3 w_5 p0 = (.ref w_3) from by unfold sp1; rw [if_neg hc35, if_neg hc103, if_pos hc164]] at rv202
              subst rv202
              have N202 := Fr.app N0 N202q
              obtain ⟨_, _, ⟨T203, L203, k203, n203⟩, -, X203, ⟨Lc203, hQ203, l203, y203, z203⟩, st203⟩ := Jvm.LawKit.callS X202 hx (y := Y0) hown (mvT hZ (hw _ (tk 0 rfl))) (mvT hZ (hw _ (tk 1 rfl))) (mvT hZ (hw _ (tk 2 rfl))) (mvT hZ (hw _ (tk 3 rfl))) (by decide) (backOf (W := 0) (rm1 l Z a0 hw [] w_1 w_2 w_3 w_4 w_5 k_4 hS0 p1 h0 n0 O0) hZ (hw _ (tk 3 rfl)) (hw _ (tk 2 rfl)) (by decide) (by decide)) (g := (mkF m 6 #[.val (.int p0), .val (.int p1), .val (.ref w_3), .unset, .unset, .unset] [(.int p1)])) rfl (by rw [hml]; rfl) (argsL := [(.int p1)]) (rest := []) (lenOf pd_0 rfl) rfl (by show 2 * 0 + _ ≤ _; exact Nat.le_of_eq rfl) (hb hby at_6) (fun _ _ => ⟨rfl, e202, (by decide : 0 + 0 ≤ _), (by decide : 0 + 0 ≤ _)⟩)
              dsimp only [Pt.U, Pt.locs, Pt.cells, Pt.slots] at X203 l203 y203 z203 st203 hQ203
              subst l203 y203 z203
              obtain ⟨rv203, N203q, e203⟩ := hQ203
              rw [show sp1 w_1 w_2 w_3 w_5 p1 = (.ref w_3) from by unfold sp1; rw [if_neg hc165, if_neg hc183, if_pos hc201]] at rv203
              subst rv203
              have N203 := Fr.app N202 N203q
              obtain ⟨T204, X204, e204, st204⟩ := getS2 X203 hx hZ hown (host := "") (Or.inl (hw _ (tk 9 rfl))) Via.refl e203 (S_3.ext O0.2) (g := (mkF m 11 #[.val (.int p0), .val (.int p1), .val (.ref w_3), .val (.ref w_3), .unset, .unset] [(.ref w_3)])) rfl (hb hby at_11)
              obtain ⟨cq219, kq219, q219a, q219b, q219c⟩ := isOf hZ e204 (E_3.ext O0.2)
              obtain ⟨_, _, ⟨T219, L219, k219, n219⟩, -, X219, ⟨Lc219, hQ219, l219, y219, z219⟩, st219⟩ := X204.virtualBack hx (y := Y2) (z := Y2) hown (mvT hZ (hw _ (tk 11 rfl))) (mvT hZ (hw _ (tk 12 rfl))) (notFace_of_selects (args := #[]) (mvT hZ (hw _ (tk 14 rfl)))) (mvT hZ (hw _ (tk 14 rfl))) (mvT hZ (hw _ (tk 13 rfl))) (by decide) (backOf (W := 0) (rm2x11 l Z a0 hw [] w_1 w_2 w_3 w_4 w_5 k_4 hS0 h0 n0 O0) hZ (hw _ (tk 15 rfl)) (hw _ (tk 5 rfl)) (by decide) (by decide)) q219a q219c (g := (mkF m 50 #[.val (.int p0), .val (.int p1), .val (.ref w_3), .val (.ref w_3), .val (.int (1 : Int32)), .val (.int (1 : Int32))] [(.ref w_3), (.ref w_3)])) rfl (by rw [hml]; rfl) (Steps.refl _) (argsL := [(.ref w_3)]) (rest := []) (lenOf pd_1 rfl) rfl (by show 2 * 0 + _ ≤ _; exact Nat.le_of_eq rfl) (hb hby at_50) (fun _ _ => ⟨rfl, e204, (by decide : 0 + 0 ≤ _), (by decide : 0 + 0 ≤ _)⟩)
              dsimp only [Pt.U, Pt.locs, Pt.cells, Pt.slots] at X219 l219 y219 z219 st219 hQ219
              subst l219 y219 z219
              obtain ⟨rv219, N219q, e219⟩ := hQ219
              rw [show sp2x11 = (1 : Int32) from by unfold sp2x11; rfl] at rv219
              subst rv219
              have N219 := Fr.app N203 N219q
              obtain ⟨fs, hr, hrun, hended, hW, hsame⟩ := X219.leave (v := some (.int (1 : Int32))) (fun h => by rw [Bd.returns] at h; cases h)
              refine ⟨_, _, pre0 _ ?_, hrun, hended, _, _, rfl, ?_, ⟨_, rfl⟩, hW, hsame.mono (by decide) (by decide)⟩
              · show Steps p.tables e below (s₁.setTop (mkF m 0 #[.val (.int p0), .val (.int p1), .unset, .unset, .unset, .unset] [])) _
                refine XS.iloadN X0.here hx rfl (hb hby at_0) rfl ?_
                show Steps p.tables e below (s₁.setTop (mkF m 1 #[.val (.int p0), .val (.int p1), .unset, .unset, .unset, .unset] [(.int p0)])) _
                refine st202 _ ?_
                show Steps p.tables e below (T202.setTop (mkF m 4 #[.val (.int p0), .val (.int p1), .unset, .unset, .unset, .unset] [(.ref w_3)])) _
                refine XS.astoreN X202.here hx rfl (hb hby at_4) rfl rfl (l' := #[.val (.int p0), .val (.int p1), .val (.ref w_3), .unset, .unset, .unset]) rfl ?_
                show Steps p.tables e below (T202.setTop (mkF m 5 #[.val (.int p0), .val (.int p1), .val (.ref w_3), .unset, .unset, .unset] [])) _
                refine XS.iloadN X202.here hx rfl (hb hby at_5) rfl ?_
                show Steps p.tables e below (T202.setTop (mkF m 6 #[.val (.int p0), .val (.int p1), .val (.ref w_3), .unset, .unset, .unset] [(.int p1)])) _
                refine st203 _ ?_
                show Steps p.tables e below (T203.setTop (mkF m 9 #[.val (.int p0), .val (.int p1), .val (.ref w_3), .unset, .unset, .unset] [(.ref w_3)])) _
                refine XS.astoreN X203.here hx rfl (hb hby at_9) rfl rfl (l' := #[.val (.int p0), .val (.int p1), .val (.ref w_3), .val (.ref w_3), .unset, .unset]) rfl ?_
                show Steps p.tables e below (T203.setTop (mkF m 10 #[.val (.int p0), .val (.int p1), .val (.ref w_3), .val (.ref w_3), .unset, .unset] [])) _
                refine XS.aloadN X203.here hx rfl (hb hby at_10) rfl rfl ?_
                show Steps p.tables e below (T203.setTop (mkF m 11 #[.val (.int p0), .val (.int p1), .val (.ref w_3), .val (.ref w_3), .unset, .unset] [(.ref w_3)])) _
                refine st204 _ ?_
                show Steps p.tables e below (T204.setTop (mkF m 14 #[.val (.int p0), .val (.int p1), .val (.ref w_3), .val (.ref w_3), .unset, .unset] [(.ref w_3), (.ref w_3)])) _
                refine Jvm.RoadKit.acmp (g := (mkF m 14 #[.val (.int p0), .val (.int p1), .val (.ref w_3), .val (.ref w_3), .unset, .unset] [(.ref w_3), (.ref w_3)])) X204 hx rfl rfl rfl (pc0 := 14) (pc' := 24) (same := true) rfl (hb hby at_14) rfl (decide_eq_true (congrArg Value.ref rfl)) (by decide) (by decide) ?_
                show Steps p.tables e below (T204.setTop (mkF m 24 #[.val (.int p0), .val (.int p1), .val (.ref w_3), .val (.ref w_3), .unset, .unset] [])) _
                refine XS.iconst X204.here hx rfl (hb hby at_24) ?_
                show Steps p.tables e below (T204.setTop (mkF m 25 #[.val (.int p0), .val (.int p1), .val (.ref w_3), .val (.ref w_3), .unset, .unset] [(.int (1 : Int32))])) _
                refine XS.goto X204.here hx rfl (pc0 := 25) (pc' := 29) rfl (hb hby at_25) (by decide) (by decide) ?_
                show Steps p.tables e below (T204.setTop (mkF m 29 #[.val (.int p0), .val (.int p1), .val (.ref w_3), .val (.ref w_3), .unset, .unset] [(.int (1 : Int32))])) _
                refine XS.istore X204.here hx rfl (hb hby at_29) rfl (l' := #[.val (.int p0), .val (.int p1), .val (.ref w_3), .val (.ref w_3), .val (.int (1 : Int32)), .unset]) rfl ?_
                show Steps p.tables e below (T204.setTop (mkF m 31 #[.val (.int p0), .val (.int p1), .val (.ref w_3), .val (.ref w_3), .val (.int (1 : Int32)), .unset] [])) _
                refine XS.iload X204.here hx rfl (hb hby at_31) rfl ?_
                show Steps p.tables e below (T204.setTop (mkF m 33 #[.val (.int p0), .val (.int p1), .val (.ref w_3), .val (.ref w_3), .val (.int (1 : Int32)), .unset] [(.int (1 : Int32))])) _
                refine XS.ifYes X204.here hx rfl (pc0 := 33) (pc' := 41) rfl (hb hby at_33) rfl ((if0 _ _).trans (feq (by decide : ¬ ((1 : Int32) = (0 : Int32)))).2) (by decide) (by decide) ?_
                show Steps p.tables e below (T204.setTop (mkF m 41 #[.val (.int p0), .val (.int p1), .val (.ref w_3), .val (.ref w_3), .val (.int (1 : Int32)), .unset] [])) _
                refine XS.iconst X204.here hx rfl (hb hby at_41) ?_
                show Steps p.tables e below (T204.setTop (mkF m 42 #[.val (.int p0), .val (.int p1), .val (.ref w_3), .val (.ref w_3), .val (.int (1 : Int32)), .unset] [(.int (1 : Int32))])) _
                refine XS.goto X204.here hx rfl (pc0 := 42) (pc' := 46) rfl (hb hby at_42) (by decide) (by decide) ?_
                show Steps p.tables e below (T204.setTop (mkF m 46 #[.val (.int p0), .val (.int p1), .val (.ref w_3), .val (.ref w_3), .val (.int (1 : Int32)), .unset] [(.int (1 : Int32))])) _
                refine XS.istore X204.here hx rfl (hb hby at_46) rfl (l' := #[.val (.int p0), .val (.int p1), .val (.ref w_3), .val (.ref w_3), .val (.int (1 : Int32)), .val (.int (1 : Int32))]) rfl ?_
                show Steps p.tables e below (T204.setTop (mkF m 48 #[.val (.int p0), .val (.int p1), .val (.ref w_3), .val (.ref w_3), .val (.int (1 : Int32)), .val (.int (1 : Int32))] [])) _
                refine XS.aloadN X204.here hx rfl (hb hby at_48) rfl rfl ?_
                show Steps p.tables e below (T204.setTop (mkF m 49 #[.val (.int p0), .val (.int p1), .val (.ref w_3), .val (.ref w_3), .val (.int (1 : Int32)), .val (.int (1 : Int32))] [(.ref w_3)])) _
                refine XS.aloadN X204.here hx rfl (hb hby at_49) rfl rfl ?_
                show Steps p.tables e below (T204.setTop (mkF m 50 #[.val (.int p0), .val (.int p1), .val (.ref w_3), .val (.ref w_3), .val (.int (1 : Int32)), .val (.int (1 : Int32))] [(.ref w_3), (.ref w_3)])) _
                refine st219.trans ?_
                show Steps p.tables e below (T219.setTop (mkF m 53 #[.val (.int p0), .val (.int p1), .val (.ref w_3), .val (.ref w_3), .val (.int (1 : Int32)), .val (.int (1 : Int32))] [(.int (1 : Int32))])) _
                refine XS.iload X219.here hx rfl (hb hby at_53) rfl ?_
                show Steps p.tables e below (T219.setTop (mkF m 55 #[.val (.int p0), .val (.int p1), .val (.ref w_3), .val (.ref w_3), .val (.int (1 : Int32)), .val (.int (1 : Int32))] [(.int (1 : Int32)), (.int (1 : Int32))])) _
                refine XS.icmpNo X219.here hx rfl (hb hby at_55) rfl (teq (by decide : ((1 : Int32) = (1 : Int32)))).2 ?_
                show Steps p.tables e below (T219.setTop (mkF m 58 #[.val (.int p0), .val (.int p1), .val (.ref w_3), .val (.ref w_3), .val (.int (1 : Int32)), .val (.int (1 : Int32))] [])) _
                refine XS.iconst X219.here hx rfl (hb hby at_58) ?_
                show Steps p.tables e below (T219.setTop (mkF m 59 #[.val (.int p0), .val (.int p1), .val (.ref w_3), .val (.ref w_3), .val (.int (1 : Int32)), .val (.int (1 : Int32))] [(.int (1 : Int32))])) _
                refine XS.goto X219.here hx rfl (pc0 := 59) (pc' := 63) rfl (hb hby at_59) (by decide) (by decide) ?_
                show Steps p.tables e below (T219.setTop (mkF m 63 #[.val (.int p0), .val (.int p1), .val (.ref w_3), .val (.ref w_3), .val (.int (1 : Int32)), .val (.int (1 : Int32))] [(.int (1 : Int32))])) _
                exact retN X219 hx (t := .boolean) Bd.returns (by simp) (hb hby at_63) hr
              · show Q0 Z w_1 w_2 w_3 w_4 w_5 k_4 p0 p1 h0 n0 _ T219.heap _
                rw [e219]
                exact ⟨by unfold sp0; rw [if_neg hc35, if_neg hc103, if_pos hc164, if_neg hc165, if_neg hc183, if_pos hc201], N219, rfl⟩
            · have hL220 : (p1 &&& (3 : Int32)) = (3 : Int32) := by
                have r : 0 ≤ ((p1 &&& (3 : Int32))).toInt ∧ ((p1 &&& (3 : Int32))).toInt < 4 := (own_rand p1 (3 : Int32) 4 (by decide) (by decide))
                have q0 := own_ne hc165 (n := 0) (by decide)
                have q1 := own_ne hc183 (n := 1) (by decide)
                have q2 := own_ne hc201 (n := 2) (by decide)
                exact own_eq (n := 3) (by decide) (by omega)
              obtain ⟨_, _, ⟨T221, L221, k221, n221⟩, -, X221, ⟨Lc221, hQ221, l221, y221, z221⟩, st221⟩ := Jvm.LawKit.callS X0 hx (y := Y0) hown (mvT hZ (hw _ (tk 0 rfl))) (mvT hZ (hw _ (tk 1 rfl))) (mvT hZ (hw _ (tk 2 rfl))) (mvT hZ (hw _ (tk 3 rfl))) (by decide) (backOf (W := 0) (rm1 l Z a0 hw [] w_1 w_2 w_3 w_4 w_5 k_4 hS0 p0 h0 n0 O0) hZ (hw _ (tk 3 rfl)) (hw _ (tk 2 rfl)) (by decide) (by decide)) (g := (mkF m 1 #[.val (.int p0), .val (.int p1), .unset, .unset, .unset, .unset] [(.int p0)])) rfl (by rw [hml]; rfl) (argsL := [(.int p0)]) (rest := []) (lenOf pd_0 rfl) rfl (by show 2 * 0 + _ ≤ _; exact Nat.le_of_eq rfl) (hb hby at_1) (fun _ _ => ⟨rfl, e0, (by decide : 0 + 0 ≤ _), (by decide : 0 + 0 ≤ _)⟩)
              dsimp only [Pt.U, Pt.locs, Pt.cells, Pt.slots] at X221 l221 y221 z221 st221 hQ221
              subst l221 y221 z221
              obtain ⟨rv221, N221q, e221⟩ := hQ221
              rw [show sp1 w_1 w_2 w_3 w_5 p0 = (.ref w_3) from by unfold sp1; rw [if_neg hc35, if_neg hc103, if_pos hc164]] at rv221
              subst rv221
              have N221 := Fr.app N0 N221q
              obtain ⟨_, _, ⟨T222, L222, k222, n222⟩, -, X222, ⟨Lc222, hQ222, l222, y222, z222⟩, st222⟩ := Jvm.LawKit.callS X221 hx (y := Y0) hown (mvT hZ (hw _ (tk 0 rfl))) (mvT hZ (hw _ (tk 1 rfl))) (mvT hZ (hw _ (tk 2 rfl))) (mvT hZ (hw _ (tk 3 rfl))) (by decide) (backOf (W := 0) (rm1 l Z a0 hw [] w_1 w_2 w_3 w_4 w_5 k_4 hS0 p1 h0 n0 O0) hZ (hw _ (tk 3 rfl)) (hw _ (tk 2 rfl)) (by decide) (by decide)) (g := (mkF m 6 #[.val (.int p0), .val (.int p1), .val (.ref w_3), .unset, .unset, .unset] [(.int p1)])) rfl (by rw [hml]; rfl) (argsL := [(.int p1)]) (rest := []) (lenOf pd_0 rfl) rfl (by show 2 * 0 + _ ≤ _; exact Nat.le_of_eq rfl) (hb hby at_6) (fun _ _ => ⟨rfl, e221, (by decide : 0 + 0 ≤ _), (by decide : 0 + 0 ≤ _)⟩)
              dsimp only [Pt.U, Pt.locs, Pt.cells, Pt.slots] at X222 l222 y222 z222 st222 hQ222
              subst l222 y222 z222
              obtain ⟨rv222, N222q, e222⟩ := hQ222
              rw [show sp1 w_1 w_2 w_3 w_5 p1 = (.ref w_2) from by unfold sp1; rw [if_neg hc165, if_neg hc183, if_neg hc201]] at rv222
              subst rv222
              have N222 := Fr.app N221 N222q
              obtain ⟨T223, X223, e223, st223⟩ := getS2 X222 hx hZ hown (host := "") (Or.inl (hw _ (tk 9 rfl))) Via.refl e222 (S_3.ext O0.2) (g := (mkF m 11 #[.val (.int p0), .val (.int p1), .val (.ref w_3), .val (.ref w_2), .unset, .unset] [(.ref w_3)])) rfl (hb hby at_11)
              obtain ⟨cq238, kq238, q238a, q238b, q238c⟩ := isOf hZ e223 (E_3.ext O0.2)
              obtain ⟨_, _, ⟨T238, L238, k238, n238⟩, -, X238, ⟨Lc238, hQ238, l238, y238, z238⟩, st238⟩ := X223.virtualBack hx (y := Y2) (z := Y2) hown (mvT hZ (hw _ (tk 11 rfl))) (mvT hZ (hw _ (tk 12 rfl))) (notFace_of_selects (args := #[]) (mvT hZ (hw _ (tk 14 rfl)))) (mvT hZ (hw _ (tk 14 rfl))) (mvT hZ (hw _ (tk 13 rfl))) (by decide) (backOf (W := 0) (rm2x12 l Z a0 hw [] w_1 w_2 w_3 w_4 w_5 k_4 hS0 h0 n0 O0) hZ (hw _ (tk 15 rfl)) (hw _ (tk 5 rfl)) (by decide) (by decide)) q238a q238c (g := (mkF m 50 #[.val (.int p0), .val (.int p1), .val (.ref w_3), .val (.ref w_2), .val (.int (1 : Int32)), .val (.int (1 : Int32))] [(.ref w_2), (.ref w_3)])) rfl (by rw [hml]; rfl) (Steps.refl _) (argsL := [(.ref w_2)]) (rest := []) (lenOf pd_1 rfl) rfl (by show 2 * 0 + _ ≤ _; exact Nat.le_of_eq rfl) (hb hby at_50) (fun _ _ => ⟨rfl, e223, (by decide : 0 + 0 ≤ _), (by decide : 0 + 0 ≤ _)⟩)
              dsimp only [Pt.U, Pt.locs, Pt.cells, Pt.slots] at X238 l238 y238 z238 st238 hQ238
              subst l238 y238 z238
              obtain ⟨rv238, N238q, e238⟩ := hQ238
              rw [show sp2x12 = (1 : Int32) from by unfold sp2x12; rfl] at rv238
              subst rv238
              have N238 := Fr.app N222 N238q
              obtain ⟨fs, hr, hrun, hended, hW, hsame⟩ := X238.leave (v := some (.int (1 : Int32))) (fun h => by rw [Bd.returns] at h; cases h)
              refine ⟨_, _, pre0 _ ?_, hrun, hended, _, _, rfl, ?_, ⟨_, rfl⟩, hW, hsame.mono (by decide) (by decide)⟩
              · show Steps p.tables e below (s₁.setTop (mkF m 0 #[.val (.int p0), .val (.int p1), .unset, .unset, .unset, .unset] [])) _
                refine XS.iloadN X0.here hx rfl (hb hby at_0) rfl ?_
                show Steps p.tables e below (s₁.setTop (mkF m 1 #[.val (.int p0), .val (.int p1), .unset, .unset, .unset, .unset] [(.int p0)])) _
                refine st221 _ ?_
                show Steps p.tables e below (T221.setTop (mkF m 4 #[.val (.int p0), .val (.int p1), .unset, .unset, .unset, .unset] [(.ref w_3)])) _
                refine XS.astoreN X221.here hx rfl (hb hby at_4) rfl rfl (l' := #[.val (.int p0), .val (.int p1), .val (.ref w_3), .unset, .unset, .unset]) rfl ?_
                show Steps p.tables e below (T221.setTop (mkF m 5 #[.val (.int p0), .val (.int p1), .val (.ref w_3), .unset, .unset, .unset] [])) _
                refine XS.iloadN X221.here hx rfl (hb hby at_5) rfl ?_
                show Steps p.tables e below (T221.setTop (mkF m 6 #[.val (.int p0), .val (.int p1), .val (.ref w_3), .unset, .unset, .unset] [(.int p1)])) _
                refine st222 _ ?_
                show Steps p.tables e below (T222.setTop (mkF m 9 #[.val (.int p0), .val (.int p1), .val (.ref w_3), .unset, .unset, .unset] [(.ref w_2)])) _
                refine XS.astoreN X222.here hx rfl (hb hby at_9) rfl rfl (l' := #[.val (.int p0), .val (.int p1), .val (.ref w_3), .val (.ref w_2), .unset, .unset]) rfl ?_
                show Steps p.tables e below (T222.setTop (mkF m 10 #[.val (.int p0), .val (.int p1), .val (.ref w_3), .val (.ref w_2), .unset, .unset] [])) _
                refine XS.aloadN X222.here hx rfl (hb hby at_10) rfl rfl ?_
                show Steps p.tables e below (T222.setTop (mkF m 11 #[.val (.int p0), .val (.int p1), .val (.ref w_3), .val (.ref w_2), .unset, .unset] [(.ref w_3)])) _
                refine st223 _ ?_
                show Steps p.tables e below (T223.setTop (mkF m 14 #[.val (.int p0), .val (.int p1), .val (.ref w_3), .val (.ref w_2), .unset, .unset] [(.ref w_3), (.ref w_3)])) _
                refine Jvm.RoadKit.acmp (g := (mkF m 14 #[.val (.int p0), .val (.int p1), .val (.ref w_3), .val (.ref w_2), .unset, .unset] [(.ref w_3), (.ref w_3)])) X223 hx rfl rfl rfl (pc0 := 14) (pc' := 24) (same := true) rfl (hb hby at_14) rfl (decide_eq_true (congrArg Value.ref rfl)) (by decide) (by decide) ?_
                show Steps p.tables e below (T223.setTop (mkF m 24 #[.val (.int p0), .val (.int p1), .val (.ref w_3), .val (.ref w_2), .unset, .unset] [])) _
                refine XS.iconst X223.here hx rfl (hb hby at_24) ?_
                show Steps p.tables e below (T223.setTop (mkF m 25 #[.val (.int p0), .val (.int p1), .val (.ref w_3), .val (.ref w_2), .unset, .unset] [(.int (1 : Int32))])) _
                refine XS.goto X223.here hx rfl (pc0 := 25) (pc' := 29) rfl (hb hby at_25) (by decide) (by decide) ?_
                show Steps p.tables e below (T223.setTop (mkF m 29 #[.val (.int p0), .val (.int p1), .val (.ref w_3), .val (.ref w_2), .unset, .unset] [(.int (1 : Int32))])) _
                refine XS.istore X223.here hx rfl (hb hby at_29) rfl (l' := #[.val (.int p0), .val (.int p1), .val (.ref w_3), .val (.ref w_2), .val (.int (1 : Int32)), .unset]) rfl ?_
                show Steps p.tables e below (T223.setTop (mkF m 31 #[.val (.int p0), .val (.int p1), .val (.ref w_3), .val (.ref w_2), .val (.int (1 : Int32)), .unset] [])) _
                refine XS.iload X223.here hx rfl (hb hby at_31) rfl ?_
                show Steps p.tables e below (T223.setTop (mkF m 33 #[.val (.int p0), .val (.int p1), .val (.ref w_3), .val (.ref w_2), .val (.int (1 : Int32)), .unset] [(.int (1 : Int32))])) _
                refine XS.ifYes X223.here hx rfl (pc0 := 33) (pc' := 41) rfl (hb hby at_33) rfl ((if0 _ _).trans (feq (by decide : ¬ ((1 : Int32) = (0 : Int32)))).2) (by decide) (by decide) ?_
                show Steps p.tables e below (T223.setTop (mkF m 41 #[.val (.int p0), .val (.int p1), .val (.ref w_3), .val (.ref w_2), .val (.int (1 : Int32)), .unset] [])) _
                refine XS.iconst X223.here hx rfl (hb hby at_41) ?_
                show Steps p.tables e below (T223.setTop (mkF m 42 #[.val (.int p0), .val (.int p1), .val (.ref w_3), .val (.ref w_2), .val (.int (1 : Int32)), .unset] [(.int (1 : Int32))])) _
                refine XS.goto X223.here hx rfl (pc0 := 42) (pc' := 46) rfl (hb hby at_42) (by decide) (by decide) ?_
                show Steps p.tables e below (T223.setTop (mkF m 46 #[.val (.int p0), .val (.int p1), .val (.ref w_3), .val (.ref w_2), .val (.int (1 : Int32)), .unset] [(.int (1 : Int32))])) _
                refine XS.istore X223.here hx rfl (hb hby at_46) rfl (l' := #[.val (.int p0), .val (.int p1), .val (.ref w_3), .val (.ref w_2), .val (.int (1 : Int32)), .val (.int (1 : Int32))]) rfl ?_
                show Steps p.tables e below (T223.setTop (mkF m 48 #[.val (.int p0), .val (.int p1), .val (.ref w_3), .val (.ref w_2), .val (.int (1 : Int32)), .val (.int (1 : Int32))] [])) _
                refine XS.aloadN X223.here hx rfl (hb hby at_48) rfl rfl ?_
                show Steps p.tables e below (T223.setTop (mkF m 49 #[.val (.int p0), .val (.int p1), .val (.ref w_3), .val (.ref w_2), .val (.int (1 : Int32)), .val (.int (1 : Int32))] [(.ref w_3)])) _
                refine XS.aloadN X223.here hx rfl (hb hby at_49) rfl rfl ?_
                show Steps p.tables e below (T223.setTop (mkF m 50 #[.val (.int p0), .val (.int p1), .val (.ref w_3), .val (.ref w_2), .val (.int (1 : Int32)), .val (.int (1 : Int32))] [(.ref w_2), (.ref w_3)])) _
                refine st238.trans ?_
                show Steps p.tables e below (T238.setTop (mkF m 53 #[.val (.int p0), .val (.int p1), .val (.ref w_3), .val (.ref w_2), .val (.int (1 : Int32)), .val (.int (1 : Int32))] [(.int (1 : Int32))])) _
                refine XS.iload X238.here hx rfl (hb hby at_53) rfl ?_
                show Steps p.tables e below (T238.setTop (mkF m 55 #[.val (.int p0), .val (.int p1), .val (.ref w_3), .val (.ref w_2), .val (.int (1 : Int32)), .val (.int (1 : Int32))] [(.int (1 : Int32)), (.int (1 : Int32))])) _
                refine XS.icmpNo X238.here hx rfl (hb hby at_55) rfl (teq (by decide : ((1 : Int32) = (1 : Int32)))).2 ?_
                show Steps p.tables e below (T238.setTop (mkF m 58 #[.val (.int p0), .val (.int p1), .val (.ref w_3), .val (.ref w_2), .val (.int (1 : Int32)), .val (.int (1 : Int32))] [])) _
                refine XS.iconst X238.here hx rfl (hb hby at_58) ?_
                show Steps p.tables e below (T238.setTop (mkF m 59 #[.val (.int p0), .val (.int p1), .val (.ref w_3), .val (.ref w_2), .val (.int (1 : Int32)), .val (.int (1 : Int32))] [(.int (1 : Int32))])) _
                refine XS.goto X238.here hx rfl (pc0 := 59) (pc' := 63) rfl (hb hby at_59) (by decide) (by decide) ?_
                show Steps p.tables e below (T238.setTop (mkF m 63 #[.val (.int p0), .val (.int p1), .val (.ref w_3), .val (.ref w_2), .val (.int (1 : Int32)), .val (.int (1 : Int32))] [(.int (1 : Int32))])) _
                exact retN X238 hx (t := .boolean) Bd.returns (by simp) (hb hby at_63) hr
              · show Q0 Z w_1 w_2 w_3 w_4 w_5 k_4 p0 p1 h0 n0 _ T238.heap _
                rw [e238]
                exact ⟨by unfold sp0; rw [if_neg hc35, if_neg hc103, if_pos hc164, if_neg hc165, if_neg hc183, if_neg hc201], N238, rfl⟩
      · have hL239 : (p0 &&& (3 : Int32)) = (3 : Int32) := by
          have r : 0 ≤ ((p0 &&& (3 : Int32))).toInt ∧ ((p0 &&& (3 : Int32))).toInt < 4 := (own_rand p0 (3 : Int32) 4 (by decide) (by decide))
          have q0 := own_ne hc35 (n := 0) (by decide)
          have q1 := own_ne hc103 (n := 1) (by decide)
          have q2 := own_ne hc164 (n := 2) (by decide)
          exact own_eq (n := 3) (by decide) (by omega)
        by_cases hc240 : (p1 &&& (3 : Int32)) = (0 : Int32)
        · obtain ⟨_, _, ⟨T241, L241, k241, n241⟩, -, X241, ⟨Lc241, hQ241, l241, y241, z241⟩, st241⟩ := Jvm.LawKit.callS X0 hx (y := Y0) hown (mvT hZ (hw _ (tk 0 rfl))) (mvT hZ (hw _ (tk 1 rfl))) (mvT hZ (hw _ (tk 2 rfl))) (mvT hZ (hw _ (tk 3 rfl))) (by decide) (backOf (W := 0) (rm1 l Z a0 hw [] w_1 w_2 w_3 w_4 w_5 k_4 hS0 p0 h0 n0 O0) hZ (hw _ (tk 3 rfl)) (hw _ (tk 2 rfl)) (by decide) (by decide)) (g := (mkF m 1 #[.val (.int p0), .val (.int p1), .unset, .unset, .unset, .unset] [(.int p0)])) rfl (by rw [hml]; rfl) (argsL := [(.int p0)]) (rest := []) (lenOf pd_0 rfl) rfl (by show 2 * 0 + _ ≤ _; exact Nat.le_of_eq rfl) (hb hby at_1) (fun _ _ => ⟨rfl, e0, (by decide : 0 + 0 ≤ _), (by decide : 0 + 0 ≤ _)⟩)
          dsimp only [Pt.U, Pt.locs, Pt.cells, Pt.slots] at X241 l241 y241 z241 st241 hQ241
          subst l241 y241 z241
          obtain ⟨rv241, N241q, e241⟩ := hQ241
          rw [show sp1 w_1 w_2 w_3 w_5 p0 = (.ref w_2) from by unfold sp1; rw [if_neg hc35, if_neg hc103, if_neg hc164]] at rv241
          subst rv241
          have N241 := Fr.app N0 N241q
          obtain ⟨_, _, ⟨T242, L242, k242, n242⟩, -, X242, ⟨Lc242, hQ242, l242, y242, z242⟩, st242⟩ := Jvm.LawKit.callS X241 hx (y := Y0) hown (mvT hZ (hw _ (tk 0 rfl))) (mvT hZ (hw _ (tk 1 rfl))) (mvT hZ (hw _ (tk 2 rfl))) (mvT hZ (hw _ (tk 3 rfl))) (by decide) (backOf (W := 0) (rm1 l Z a0 hw [] w_1 w_2 w_3 w_4 w_5 k_4 hS0 p1 h0 n0 O0) hZ (hw _ (tk 3 rfl)) (hw _ (tk 2 rfl)) (by decide) (by decide)) (g := (mkF m 6 #[.val (.int p0), .val (.int p1), .val (.ref w_2), .unset, .unset, .unset] [(.int p1)])) rfl (by rw [hml]; rfl) (argsL := [(.int p1)]) (rest := []) (lenOf pd_0 rfl) rfl (by show 2 * 0 + _ ≤ _; exact Nat.le_of_eq rfl) (hb hby at_6) (fun _ _ => ⟨rfl, e241, (by decide : 0 + 0 ≤ _), (by decide : 0 + 0 ≤ _)⟩)
          dsimp only [Pt.U, Pt.locs, Pt.cells, Pt.slots] at X242 l242 y242 z242 st242 hQ242
          subst l242 y242 z242
          obtain ⟨rv242, N242q, e242⟩ := hQ242
          rw [show sp1 w_1 w_2 w_3 w_5 p1 = (.ref w_1) from by unfold sp1; rw [if_pos hc240]] at rv242
          subst rv242
          have N242 := Fr.app N241 N242q
          obtain ⟨T243, X243, e243, st243⟩ := getS2 X242 hx hZ hown (host := "") (Or.inl (hw _ (tk 9 rfl))) Via.refl e242 (S_3.ext O0.2) (g := (mkF m 11 #[.val (.int p0), .val (.int p1), .val (.ref w_2), .val (.ref w_1), .unset, .unset] [(.ref w_2)])) rfl (hb hby at_11)
          obtain ⟨T244, X244, e244, st244⟩ := getS2 X243 hx hZ hown (host := "") (Or.inl (hw _ (tk 7 rfl))) Via.refl e243 (S_2.ext O0.2) (g := (mkF m 18 #[.val (.int p0), .val (.int p1), .val (.ref w_2), .val (.ref w_1), .unset, .unset] [(.ref w_2)])) rfl (hb hby at_18)
          obtain ⟨cq258, kq258, q258a, q258b, q258c⟩ := isOf hZ e244 (E_2.ext O0.2)
          obtain ⟨_, _, ⟨T258, L258, k258, n258⟩, -, X258, ⟨Lc258, hQ258, l258, y258, z258⟩, st258⟩ := X244.virtualBack hx (y := Y2) (z := Y2) hown (mvT hZ (hw _ (tk 11 rfl))) (mvT hZ (hw _ (tk 12 rfl))) (notFace_of_selects (args := #[]) (mvT hZ (hw _ (tk 14 rfl)))) (mvT hZ (hw _ (tk 14 rfl))) (mvT hZ (hw _ (tk 13 rfl))) (by decide) (backOf (W := 0) (rm2x13 l Z a0 hw [] w_1 w_2 w_3 w_4 w_5 k_4 hS0 h0 n0 O0) hZ (hw _ (tk 15 rfl)) (hw _ (tk 5 rfl)) (by decide) (by decide)) q258a q258c (g := (mkF m 50 #[.val (.int p0), .val (.int p1), .val (.ref w_2), .val (.ref w_1), .val (.int (1 : Int32)), .val (.int (1 : Int32))] [(.ref w_1), (.ref w_2)])) rfl (by rw [hml]; rfl) (Steps.refl _) (argsL := [(.ref w_1)]) (rest := []) (lenOf pd_1 rfl) rfl (by show 2 * 0 + _ ≤ _; exact Nat.le_of_eq rfl) (hb hby at_50) (fun _ _ => ⟨rfl, e244, (by decide : 0 + 0 ≤ _), (by decide : 0 + 0 ≤ _)⟩)
          dsimp only [Pt.U, Pt.locs, Pt.cells, Pt.slots] at X258 l258 y258 z258 st258 hQ258
          subst l258 y258 z258
          obtain ⟨rv258, N258q, e258⟩ := hQ258
          rw [show sp2x13 = (1 : Int32) from by unfold sp2x13; rfl] at rv258
          subst rv258
          have N258 := Fr.app N242 N258q
          obtain ⟨fs, hr, hrun, hended, hW, hsame⟩ := X258.leave (v := some (.int (1 : Int32))) (fun h => by rw [Bd.returns] at h; cases h)
          refine ⟨_, _, pre0 _ ?_, hrun, hended, _, _, rfl, ?_, ⟨_, rfl⟩, hW, hsame.mono (by decide) (by decide)⟩
          · show Steps p.tables e below (s₁.setTop (mkF m 0 #[.val (.int p0), .val (.int p1), .unset, .unset, .unset, .unset] [])) _
            refine XS.iloadN X0.here hx rfl (hb hby at_0) rfl ?_
            show Steps p.tables e below (s₁.setTop (mkF m 1 #[.val (.int p0), .val (.int p1), .unset, .unset, .unset, .unset] [(.int p0)])) _
            refine st241 _ ?_
            show Steps p.tables e below (T241.setTop (mkF m 4 #[.val (.int p0), .val (.int p1), .unset, .unset, .unset, .unset] [(.ref w_2)])) _
            refine XS.astoreN X241.here hx rfl (hb hby at_4) rfl rfl (l' := #[.val (.int p0), .val (.int p1), .val (.ref w_2), .unset, .unset, .unset]) rfl ?_
            show Steps p.tables e below (T241.setTop (mkF m 5 #[.val (.int p0), .val (.int p1), .val (.ref w_2), .unset, .unset, .unset] [])) _
            refine XS.iloadN X241.here hx rfl (hb hby at_5) rfl ?_
            show Steps p.tables e below (T241.setTop (mkF m 6 #[.val (.int p0), .val (.int p1), .val (.ref w_2), .unset, .unset, .unset] [(.int p1)])) _
            refine st242 _ ?_
            show Steps p.tables e below (T242.setTop (mkF m 9 #[.val (.int p0), .val (.int p1), .val (.ref w_2), .unset, .unset, .unset] [(.ref w_1)])) _
            refine XS.astoreN X242.here hx rfl (hb hby at_9) rfl rfl (l' := #[.val (.int p0), .val (.int p1), .val (.ref w_2), .val (.ref w_1), .unset, .unset]) rfl ?_
            show Steps p.tables e below (T242.setTop (mkF m 10 #[.val (.int p0), .val (.int p1), .val (.ref w_2), .val (.ref w_1), .unset, .unset] [])) _
            refine XS.aloadN X242.here hx rfl (hb hby at_10) rfl rfl ?_
            show Steps p.tables e below (T242.setTop (mkF m 11 #[.val (.int p0), .val (.int p1), .val (.ref w_2), .val (.ref w_1), .unset, .unset] [(.ref w_2)])) _
            refine st243 _ ?_
            show Steps p.tables e below (T243.setTop (mkF m 14 #[.val (.int p0), .val (.int p1), .val (.ref w_2), .val (.ref w_1), .unset, .unset] [(.ref w_3), (.ref w_2)])) _
            refine Jvm.RoadKit.acmp (g := (mkF m 14 #[.val (.int p0), .val (.int p1), .val (.ref w_2), .val (.ref w_1), .unset, .unset] [(.ref w_3), (.ref w_2)])) X243 hx rfl rfl rfl (pc0 := 14) (pc' := 17) (same := false) rfl (hb hby at_14) rfl (decide_eq_false fun q => (Fld.ne F_2_ordinal F_3_ordinal (by decide)) (Value.ref.inj q)) (by decide) (by decide) ?_
            show Steps p.tables e below (T243.setTop (mkF m 17 #[.val (.int p0), .val (.int p1), .val (.ref w_2), .val (.ref w_1), .unset, .unset] [])) _
            refine XS.aloadN X243.here hx rfl (hb hby at_17) rfl rfl ?_
            show Steps p.tables e below (T243.setTop (mkF m 18 #[.val (.int p0), .val (.int p1), .val (.ref w_2), .val (.ref w_1), .unset, .unset] [(.ref w_2)])) _
            refine st244 _ ?_
            show Steps p.tables e below (T244.setTop (mkF m 21 #[.val (.int p0), .val (.int p1), .val (.ref w_2), .val (.ref w_1), .unset, .unset] [(.ref w_2), (.ref w_2)])) _
            refine Jvm.RoadKit.acmp (g := (mkF m 21 #[.val (.int p0), .val (.int p1), .val (.ref w_2), .val (.ref w_1), .unset, .unset] [(.ref w_2), (.ref w_2)])) X244 hx rfl rfl rfl (pc0 := 21) (pc' := 24) (same := true) rfl (hb hby at_21) rfl (decide_eq_true (congrArg Value.ref rfl)) (by decide) (by decide) ?_
            show Steps p.tables e below (T244.setTop (mkF m 24 #[.val (.int p0), .val (.int p1), .val (.ref w_2), .val (.ref w_1), .unset, .unset] [])) _
            refine XS.iconst X244.here hx rfl (hb hby at_24) ?_
            show Steps p.tables e below (T244.setTop (mkF m 25 #[.val (.int p0), .val (.int p1), .val (.ref w_2), .val (.ref w_1), .unset, .unset] [(.int (1 : Int32))])) _
            refine XS.goto X244.here hx rfl (pc0 := 25) (pc' := 29) rfl (hb hby at_25) (by decide) (by decide) ?_
            show Steps p.tables e below (T244.setTop (mkF m 29 #[.val (.int p0), .val (.int p1), .val (.ref w_2), .val (.ref w_1), .unset, .unset] [(.int (1 : Int32))])) _
            refine XS.istore X244.here hx rfl (hb hby at_29) rfl (l' := #[.val (.int p0), .val (.int p1), .val (.ref w_2), .val (.ref w_1), .val (.int (1 : Int32)), .unset]) rfl ?_
            show Steps p.tables e below (T244.setTop (mkF m 31 #[.val (.int p0), .val (.int p1), .val (.ref w_2), .val (.ref w_1), .val (.int (1 : Int32)), .unset] [])) _
            refine XS.iload X244.here hx rfl (hb hby at_31) rfl ?_
            show Steps p.tables e below (T244.setTop (mkF m 33 #[.val (.int p0), .val (.int p1), .val (.ref w_2), .val (.ref w_1), .val (.int (1 : Int32)), .unset] [(.int (1 : Int32))])) _
            refine XS.ifYes X244.here hx rfl (pc0 := 33) (pc' := 41) rfl (hb hby at_33) rfl ((if0 _ _).trans (feq (by decide : ¬ ((1 : Int32) = (0 : Int32)))).2) (by decide) (by decide) ?_
            show Steps p.tables e below (T244.setTop (mkF m 41 #[.val (.int p0), .val (.int p1), .val (.ref w_2), .val (.ref w_1), .val (.int (1 : Int32)), .unset] [])) _
            refine XS.iconst X244.here hx rfl (hb hby at_41) ?_
            show Steps p.tables e below (T244.setTop (mkF m 42 #[.val (.int p0), .val (.int p1), .val (.ref w_2), .val (.ref w_1), .val (.int (1 : Int32)), .unset] [(.int (1 : Int32))])) _
            refine XS.goto X244.here hx rfl (pc0 := 42) (pc' := 46) rfl (hb hby at_42) (by decide) (by decide) ?_
            show Steps p.tables e below (T244.setTop (mkF m 46 #[.val (.int p0), .val (.int p1), .val (.ref w_2), .val (.ref w_1), .val (.int (1 : Int32)), .unset] [(.int (1 : Int32))])) _
            refine XS.istore X244.here hx rfl (hb hby at_46) rfl (l' := #[.val (.int p0), .val (.int p1), .val (.ref w_2), .val (.ref w_1), .val (.int (1 : Int32)), .val (.int (1 : Int32))]) rfl ?_
            show Steps p.tables e below (T244.setTop (mkF m 48 #[.val (.int p0), .val (.int p1), .val (.ref w_2), .val (.ref w_1), .val (.int (1 : Int32)), .val (.int (1 : Int32))] [])) _
            refine XS.aloadN X244.here hx rfl (hb hby at_48) rfl rfl ?_
            show Steps p.tables e below (T244.setTop (mkF m 49 #[.val (.int p0), .val (.int p1), .val (.ref w_2), .val (.ref w_1), .val (.int (1 : Int32)), .val (.int (1 : Int32))] [(.ref w_2)])) _
            refine XS.aloadN X244.here hx rfl (hb hby at_49) rfl rfl ?_
            show Steps p.tables e below (T244.setTop (mkF m 50 #[.val (.int p0), .val (.int p1), .val (.ref w_2), .val (.ref w_1), .val (.int (1 : Int32)), .val (.int (1 : Int32))] [(.ref w_1), (.ref w_2)])) _
            refine st258.trans ?_
            show Steps p.tables e below (T258.setTop (mkF m 53 #[.val (.int p0), .val (.int p1), .val (.ref w_2), .val (.ref w_1), .val (.int (1 : Int32)), .val (.int (1 : Int32))] [(.int (1 : Int32))])) _
            refine XS.iload X258.here hx rfl (hb hby at_53) rfl ?_
            show Steps p.tables e below (T258.setTop (mkF m 55 #[.val (.int p0), .val (.int p1), .val (.ref w_2), .val (.ref w_1), .val (.int (1 : Int32)), .val (.int (1 : Int32))] [(.int (1 : Int32)), (.int (1 : Int32))])) _
            refine XS.icmpNo X258.here hx rfl (hb hby at_55) rfl (teq (by decide : ((1 : Int32) = (1 : Int32)))).2 ?_
            show Steps p.tables e below (T258.setTop (mkF m 58 #[.val (.int p0), .val (.int p1), .val (.ref w_2), .val (.ref w_1), .val (.int (1 : Int32)), .val (.int (1 : Int32))] [])) _
            refine XS.iconst X258.here hx rfl (hb hby at_58) ?_
            show Steps p.tables e below (T258.setTop (mkF m 59 #[.val (.int p0), .val (.int p1), .val (.ref w_2), .val (.ref w_1), .val (.int (1 : Int32)), .val (.int (1 : Int32))] [(.int (1 : Int32))])) _
            refine XS.goto X258.here hx rfl (pc0 := 59) (pc' := 63) rfl (hb hby at_59) (by decide) (by decide) ?_
            show Steps p.tables e below (T258.setTop (mkF m 63 #[.val (.int p0), .val (.int p1), .val (.ref w_2), .val (.ref w_1), .val (.int (1 : Int32)), .val (.int (1 : Int32))] [(.int (1 : Int32))])) _
            exact retN X258 hx (t := .boolean) Bd.returns (by simp) (hb hby at_63) hr
          · show Q0 Z w_1 w_2 w_3 w_4 w_5 k_4 p0 p1 h0 n0 _ T258.heap _
            rw [e258]
            exact ⟨by unfold sp0; rw [if_neg hc35, if_neg hc103, if_neg hc164, if_pos hc240], N258, rfl⟩
        · by_cases hc259 : (p1 &&& (3 : Int32)) = (1 : Int32)
          · obtain ⟨_, _, ⟨T260, L260, k260, n260⟩, -, X260, ⟨Lc260, hQ260, l260, y260, z260⟩, st260⟩ := Jvm.LawKit.callS X0 hx (y := Y0) hown (mvT hZ (hw _ (tk 0 rfl))) (mvT hZ (hw _ (tk 1 rfl))) (mvT hZ (hw _ (tk 2 rfl))) (mvT hZ (hw _ (tk 3 rfl))) (by decide) (backOf (W := 0) (rm1 l Z a0 hw [] w_1 w_2 w_3 w_4 w_5 k_4 hS0 p0 h0 n0 O0) hZ (hw _ (tk 3 rfl)) (hw _ (tk 2 rfl)) (by decide) (by decide)) (g := (mkF m 1 #[.val (.int p0), .val (.int p1), .unset, .unset, .unset, .unset] [(.int p0)])) rfl (by rw [hml]; rfl) (argsL := [(.int p0)]) (rest := []) (lenOf pd_0 rfl) rfl (by show 2 * 0 + _ ≤ _; exact Nat.le_of_eq rfl) (hb hby at_1) (fun _ _ => ⟨rfl, e0, (by decide : 0 + 0 ≤ _), (by decide : 0 + 0 ≤ _)⟩)
            dsimp only [Pt.U, Pt.locs, Pt.cells, Pt.slots] at X260 l260 y260 z260 st260 hQ260
            subst l260 y260 z260
            obtain ⟨rv260, N260q, e260⟩ := hQ260
            rw [show sp1 w_1 w_2 w_3 w_5 p0 = (.ref w_2) from by unfold sp1; rw [if_neg hc35, if_neg hc103, if_neg hc164]] at rv260
            subst rv260
            have N260 := Fr.app N0 N260q
            obtain ⟨_, _, ⟨T261, L261, k261, n261⟩, -, X261, ⟨Lc261, hQ261, l261, y261, z261⟩, st261⟩ := Jvm.LawKit.callS X260 hx (y := Y0) hown (mvT hZ (hw _ (tk 0 rfl))) (mvT hZ (hw _ (tk 1 rfl))) (mvT hZ (hw _ (tk 2 rfl))) (mvT hZ (hw _ (tk 3 rfl))) (by decide) (backOf (W := 0) (rm1 l Z a0 hw [] w_1 w_2 w_3 w_4 w_5 k_4 hS0 p1 h0 n0 O0) hZ (hw _ (tk 3 rfl)) (hw _ (tk 2 rfl)) (by decide) (by decide)) (g := (mkF m 6 #[.val (.int p0), .val (.int p1), .val (.ref w_2), .unset, .unset, .unset] [(.int p1)])) rfl (by rw [hml]; rfl) (argsL := [(.int p1)]) (rest := []) (lenOf pd_0 rfl) rfl (by show 2 * 0 + _ ≤ _; exact Nat.le_of_eq rfl) (hb hby at_6) (fun _ _ => ⟨rfl, e260, (by decide : 0 + 0 ≤ _), (by decide : 0 + 0 ≤ _)⟩)
            dsimp only [Pt.U, Pt.locs, Pt.cells, Pt.slots] at X261 l261 y261 z261 st261 hQ261
            subst l261 y261 z261
            obtain ⟨rv261, N261q, e261⟩ := hQ261
            rw [show sp1 w_1 w_2 w_3 w_5 p1 = (.ref w_5) from by unfold sp1; rw [if_neg hc240, if_pos hc259]] at rv261
            subst rv261
            have N261 := Fr.app N260 N261q
            obtain ⟨T262, X262, e262, st262⟩ := getS2 X261 hx hZ hown (host := "") (Or.inl (hw _ (tk 9 rfl))) Via.refl e261 (S_3.ext O0.2) (g := (mkF m 11 #[.val (.int p0), .val (.int p1), .val (.ref w_2), .val (.ref w_5), .unset, .unset] [(.ref w_2)])) rfl (hb hby at_11)
            obtain ⟨T263, X263, e263, st263⟩ := getS2 X262 hx hZ hown (host := "") (Or.inl (hw _ (tk 7 rfl))) Via.refl e262 (S_2.ext O0.2) (g := (mkF m 18 #[.val (.int p0), .val (.int p1), .val (.ref w_2), .val (.ref w_5), .unset, .unset] [(.ref w_2)])) rfl (hb hby at_18)
            obtain ⟨cq277, kq277, q277a, q277b, q277c⟩ := isOf hZ e263 (E_2.ext O0.2)
            obtain ⟨_, _, ⟨T277, L277, k277, n277⟩, -, X277, ⟨Lc277, hQ277, l277, y277, z277⟩, st277⟩ := X263.virtualBack hx (y := Y2) (z := Y2) hown (mvT hZ (hw _ (tk 11 rfl))) (mvT hZ (hw _ (tk 12 rfl))) (notFace_of_selects (args := #[]) (mvT hZ (hw _ (tk 14 rfl)))) (mvT hZ (hw _ (tk 14 rfl))) (mvT hZ (hw _ (tk 13 rfl))) (by decide) (backOf (W := 0) (rm2x14 l Z a0 hw [] w_1 w_2 w_3 w_4 w_5 k_4 hS0 h0 n0 O0) hZ (hw _ (tk 15 rfl)) (hw _ (tk 5 rfl)) (by decide) (by decide)) q277a q277c (g := (mkF m 50 #[.val (.int p0), .val (.int p1), .val (.ref w_2), .val (.ref w_5), .val (.int (1 : Int32)), .val (.int (1 : Int32))] [(.ref w_5), (.ref w_2)])) rfl (by rw [hml]; rfl) (Steps.refl _) (argsL := [(.ref w_5)]) (rest := []) (lenOf pd_1 rfl) rfl (by show 2 * 0 + _ ≤ _; exact Nat.le_of_eq rfl) (hb hby at_50) (fun _ _ => ⟨rfl, e263, (by decide : 0 + 0 ≤ _), (by decide : 0 + 0 ≤ _)⟩)
            dsimp only [Pt.U, Pt.locs, Pt.cells, Pt.slots] at X277 l277 y277 z277 st277 hQ277
            subst l277 y277 z277
            obtain ⟨rv277, N277q, e277⟩ := hQ277
            rw [show sp2x14 = (1 : Int32) from by unfold sp2x14; rfl] at rv277
            subst rv277
            have N277 := Fr.app N261 N277q
            obtain ⟨fs, hr, hrun, hended, hW, hsame⟩ := X277.leave (v := some (.int (1 : Int32))) (fun h => by rw [Bd.returns] at h; cases h)
            refine ⟨_, _, pre0 _ ?_, hrun, hended, _, _, rfl, ?_, ⟨_, rfl⟩, hW, hsame.mono (by decide) (by decide)⟩
            · show Steps p.tables e below (s₁.setTop (mkF m 0 #[.val (.int p0), .val (.int p1), .unset, .unset, .unset, .unset] [])) _
              refine XS.iloadN X0.here hx rfl (hb hby at_0) rfl ?_
              show Steps p.tables e below (s₁.setTop (mkF m 1 #[.val (.int p0), .val (.int p1), .unset, .unset, .unset, .unset] [(.int p0)])) _
              refine st260 _ ?_
              show Steps p.tables e below (T260.setTop (mkF m 4 #[.val (.int p0), .val (.int p1), .unset, .unset, .unset, .unset] [(.ref w_2)])) _
              refine XS.astoreN X260.here hx rfl (hb hby at_4) rfl rfl (l' := #[.val (.int p0), .val (.int p1), .val (.ref w_2), .unset, .unset, .unset]) rfl ?_
              show Steps p.tables e below (T260.setTop (mkF m 5 #[.val (.int p0), .val (.int p1), .val (.ref w_2), .unset, .unset, .unset] [])) _
              refine XS.iloadN X260.here hx rfl (hb hby at_5) rfl ?_
              show Steps p.tables e below (T260.setTop (mkF m 6 #[.val (.int p0), .val (.int p1), .val (.ref w_2), .unset, .unset, .unset] [(.int p1)])) _
              refine st261 _ ?_
              show Steps p.tables e below (T261.setTop (mkF m 9 #[.val (.int p0), .val (.int p1), .val (.ref w_2), .unset, .unset, .unset] [(.ref w_5)])) _
              refine XS.astoreN X261.here hx rfl (hb hby at_9) rfl rfl (l' := #[.val (.int p0), .val (.int p1), .val (.ref w_2), .val (.ref w_5), .unset, .unset]) rfl ?_
              show Steps p.tables e below (T261.setTop (mkF m 10 #[.val (.int p0), .val (.int p1), .val (.ref w_2), .val (.ref w_5), .unset, .unset] [])) _
              refine XS.aloadN X261.here hx rfl (hb hby at_10) rfl rfl ?_
              show Steps p.tables e below (T261.setTop (mkF m 11 #[.val (.int p0), .val (.int p1), .val (.ref w_2), .val (.ref w_5), .unset, .unset] [(.ref w_2)])) _
              refine st262 _ ?_
              show Steps p.tables e below (T262.setTop (mkF m 14 #[.val (.int p0), .val (.int p1), .val (.ref w_2), .val (.ref w_5), .unset, .unset] [(.ref w_3), (.ref w_2)])) _
              refine Jvm.RoadKit.acmp (g := (mkF m 14 #[.val (.int p0), .val (.int p1), .val (.ref w_2), .val (.ref w_5), .unset, .unset] [(.ref w_3), (.ref w_2)])) X262 hx rfl rfl rfl (pc0 := 14) (pc' := 17) (same := false) rfl (hb hby at_14) rfl (decide_eq_false fun q => (Fld.ne F_2_ordinal F_3_ordinal (by decide)) (Value.ref.inj q)) (by decide) (by decide) ?_
              show Steps p.tables e below (T262.setTop (mkF m 17 #[.val (.int p0), .val (.int p1), .val (.ref w_2), .val (.ref w_5), .unset, .unset] [])) _
              refine XS.aloadN X262.here hx rfl (hb hby at_17) rfl rfl ?_
              show Steps p.tables e below (T262.setTop (mkF m 18 #[.val (.int p0), .val (.int p1), .val (.ref w_2), .val (.ref w_5), .unset, .unset] [(.ref w_2)])) _
              refine st263 _ ?_
              show Steps p.tables e below (T263.setTop (mkF m 21 #[.val (.int p0), .val (.int p1), .val (.ref w_2), .val (.ref w_5), .unset, .unset] [(.ref w_2), (.ref w_2)])) _
              refine Jvm.RoadKit.acmp (g := (mkF m 21 #[.val (.int p0), .val (.int p1), .val (.ref w_2), .val (.ref w_5), .unset, .unset] [(.ref w_2), (.ref w_2)])) X263 hx rfl rfl rfl (pc0 := 21) (pc' := 24) (same := true) rfl (hb hby at_21) rfl (decide_eq_true (congrArg Value.ref rfl)) (by decide) (by decide) ?_
              show Steps p.tables e below (T263.setTop (mkF m 24 #[.val (.int p0), .val (.int p1), .val (.ref w_2), .val (.ref w_5), .unset, .unset] [])) _
              refine XS.iconst X263.here hx rfl (hb hby at_24) ?_
              show Steps p.tables e below (T263.setTop (mkF m 25 #[.val (.int p0), .val (.int p1), .val (.ref w_2), .val (.ref w_5), .unset, .unset] [(.int (1 : Int32))])) _
              refine XS.goto X263.here hx rfl (pc0 := 25) (pc' := 29) rfl (hb hby at_25) (by decide) (by decide) ?_
              show Steps p.tables e below (T263.setTop (mkF m 29 #[.val (.int p0), .val (.int p1), .val (.ref w_2), .val (.ref w_5), .unset, .unset] [(.int (1 : Int32))])) _
              refine XS.istore X263.here hx rfl (hb hby at_29) rfl (l' := #[.val (.int p0), .val (.int p1), .val (.ref w_2), .val (.ref w_5), .val (.int (1 : Int32)), .unset]) rfl ?_
              show Steps p.tables e below (T263.setTop (mkF m 31 #[.val (.int p0), .val (.int p1), .val (.ref w_2), .val (.ref w_5), .val (.int (1 : Int32)), .unset] [])) _
              refine XS.iload X263.here hx rfl (hb hby at_31) rfl ?_
              show Steps p.tables e below (T263.setTop (mkF m 33 #[.val (.int p0), .val (.int p1), .val (.ref w_2), .val (.ref w_5), .val (.int (1 : Int32)), .unset] [(.int (1 : Int32))])) _
              refine XS.ifYes X263.here hx rfl (pc0 := 33) (pc' := 41) rfl (hb hby at_33) rfl ((if0 _ _).trans (feq (by decide : ¬ ((1 : Int32) = (0 : Int32)))).2) (by decide) (by decide) ?_
              show Steps p.tables e below (T263.setTop (mkF m 41 #[.val (.int p0), .val (.int p1), .val (.ref w_2), .val (.ref w_5), .val (.int (1 : Int32)), .unset] [])) _
              refine XS.iconst X263.here hx rfl (hb hby at_41) ?_
              show Steps p.tables e below (T263.setTop (mkF m 42 #[.val (.int p0), .val (.int p1), .val (.ref w_2), .val (.ref w_5), .val (.int (1 : Int32)), .unset] [(.int (1 : Int32))])) _
              refine XS.goto X263.here hx rfl (pc0 := 42) (pc' := 46) rfl (hb hby at_42) (by decide) (by decide) ?_
              show Steps p.tables e below (T263.setTop (mkF m 46 #[.val (.int p0), .val (.int p1), .val (.ref w_2), .val (.ref w_5), .val (.int (1 : Int32)), .unset] [(.int (1 : Int32))])) _
              refine XS.istore X263.here hx rfl (hb hby at_46) rfl (l' := #[.val (.int p0), .val (.int p1), .val (.ref w_2), .val (.ref w_5), .val (.int (1 : Int32)), .val (.int (1 : Int32))]) rfl ?_
              show Steps p.tables e below (T263.setTop (mkF m 48 #[.val (.int p0), .val (.int p1), .val (.ref w_2), .val (.ref w_5), .val (.int (1 : Int32)), .val (.int (1 : Int32))] [])) _
              refine XS.aloadN X263.here hx rfl (hb hby at_48) rfl rfl ?_
              show Steps p.tables e below (T263.setTop (mkF m 49 #[.val (.int p0), .val (.int p1), .val (.ref w_2), .val (.ref w_5), .val (.int (1 : Int32)), .val (.int (1 : Int32))] [(.ref w_2)])) _
              refine XS.aloadN X263.here hx rfl (hb hby at_49) rfl rfl ?_
              show Steps p.tables e below (T263.setTop (mkF m 50 #[.val (.int p0), .val (.int p1), .val (.ref w_2), .val (.ref w_5), .val (.int (1 : Int32)), .val (.int (1 : Int32))] [(.ref w_5), (.ref w_2)])) _
              refine st277.trans ?_
              show Steps p.tables e below (T277.setTop (mkF m 53 #[.val (.int p0), .val (.int p1), .val (.ref w_2), .val (.ref w_5), .val (.int (1 : Int32)), .val (.int (1 : Int32))] [(.int (1 : Int32))])) _
              refine XS.iload X277.here hx rfl (hb hby at_53) rfl ?_
              show Steps p.tables e below (T277.setTop (mkF m 55 #[.val (.int p0), .val (.int p1), .val (.ref w_2), .val (.ref w_5), .val (.int (1 : Int32)), .val (.int (1 : Int32))] [(.int (1 : Int32)), (.int (1 : Int32))])) _
              refine XS.icmpNo X277.here hx rfl (hb hby at_55) rfl (teq (by decide : ((1 : Int32) = (1 : Int32)))).2 ?_
              show Steps p.tables e below (T277.setTop (mkF m 58 #[.val (.int p0), .val (.int p1), .val (.ref w_2), .val (.ref w_5), .val (.int (1 : Int32)), .val (.int (1 : Int32))] [])) _
              refine XS.iconst X277.here hx rfl (hb hby at_58) ?_
              show Steps p.tables e below (T277.setTop (mkF m 59 #[.val (.int p0), .val (.int p1), .val (.ref w_2), .val (.ref w_5), .val (.int (1 : Int32)), .val (.int (1 : Int32))] [(.int (1 : Int32))])) _
              refine XS.goto X277.here hx rfl (pc0 := 59) (pc' := 63) rfl (hb hby at_59) (by decide) (by decide) ?_
              show Steps p.tables e below (T277.setTop (mkF m 63 #[.val (.int p0), .val (.int p1), .val (.ref w_2), .val (.ref w_5), .val (.int (1 : Int32)), .val (.int (1 : Int32))] [(.int (1 : Int32))])) _
              exact retN X277 hx (t := .boolean) Bd.returns (by simp) (hb hby at_63) hr
            · show Q0 Z w_1 w_2 w_3 w_4 w_5 k_4 p0 p1 h0 n0 _ T277.heap _
              rw [e277]
              exact ⟨by unfold sp0; rw [if_neg hc35, if_neg hc103, if_neg hc164, if_neg hc240, if_pos hc259], N277, rfl⟩
          · by_cases hc278 : (p1 &&& (3 : Int32)) = (2 : Int32)
            · obtain ⟨_, _, ⟨T279, L279, k279, n279⟩, -, X279, ⟨Lc279, hQ279, l279, y279, z279⟩, st279⟩ := Jvm.LawKit.callS X0 hx (y := Y0) hown (mvT hZ (hw _ (tk 0 rfl))) (mvT hZ (hw _ (tk 1 rfl))) (mvT hZ (hw _ (tk 2 rfl))) (mvT hZ (hw _ (tk 3 rfl))) (by decide) (backOf (W := 0) (rm1 l Z a0 hw [] w_1 w_2 w_3 w_4 w_5 k_4 hS0 p0 h0 n0 O0) hZ (hw _ (tk 3 rfl)) (hw _ (tk 2 rfl)) (by decide) (by decide)) (g := (mkF m 1 #[.val (.int p0), .val (.int p1), .unset, .unset, .unset, .unset] [(.int p0)])) rfl (by rw [hml]; rfl) (argsL := [(.int p0)]) (rest := []) (lenOf pd_0 rfl) rfl (by show 2 * 0 + _ ≤ _; exact Nat.le_of_eq rfl) (hb hby at_1) (fun _ _ => ⟨rfl, e0, (by decide : 0 + 0 ≤ _), (by decide : 0 + 0 ≤ _)⟩)
              dsimp only [Pt.U, Pt.locs, Pt.cells, Pt.slots] at X279 l279 y279 z279 st279 hQ279
              subst l279 y279 z279
              obtain ⟨rv279, N279q, e279⟩ := hQ279
              rw [show sp1 w_1 w_2 w_3 w_5 p0 = (.ref w_2) from by unfold sp1; rw [if_neg hc35, if_neg hc103, if_neg hc164]] at rv279
              subst rv279
              have N279 := Fr.app N0 N279q
              obtain ⟨_, _, ⟨T280, L280, k280, n280⟩, -, X280, ⟨Lc280, hQ280, l280, y280, z280⟩, st280⟩ := Jvm.LawKit.callS X279 hx (y := Y0) hown (mvT hZ (hw _ (tk 0 rfl))) (mvT hZ (hw _ (tk 1 rfl))) (mvT hZ (hw _ (tk 2 rfl))) (mvT hZ (hw _ (tk 3 rfl))) (by decide) (backOf (W := 0) (rm1 l Z a0 hw [] w_1 w_2 w_3 w_4 w_5 k_4 hS0 p1 h0 n0 O0) hZ (hw _ (tk 3 rfl)) (hw _ (tk 2 rfl)) (by decide) (by decide)) (g := (mkF m 6 #[.val (.int p0), .val (.int p1), .val (.ref w_2), .unset, .unset, .unset] [(.int p1)])) rfl (by rw [hml]; rfl) (argsL := [(.int p1)]) (rest := []) (lenOf pd_0 rfl) rfl (by show 2 * 0 + _ ≤ _; exact Nat.le_of_eq rfl) (hb hby at_6) (fun _ _ => ⟨rfl, e279, (by decide : 0 + 0 ≤ _), (by decide : 0 + 0 ≤ _)⟩)
              dsimp only [Pt.U, Pt.locs, Pt.cells, Pt.slots] at X280 l280 y280 z280 st280 hQ280
              subst l280 y280 z280
              obtain ⟨rv280, N280q, e280⟩ := hQ280
              rw [show sp1 w_1 w_2 w_3 w_5 p1 = (.ref w_3) from by unfold sp1; rw [if_neg hc240, if_neg hc259, if_pos hc278]] at rv280
              subst rv280
              have N280 := Fr.app N279 N280q
              obtain ⟨T281, X281, e281, st281⟩ := getS2 X280 hx hZ hown (host := "") (Or.inl (hw _ (tk 9 rfl))) Via.refl e280 (S_3.ext O0.2) (g := (mkF m 11 #[.val (.int p0), .val (.int p1), .val (.ref w_2), .val (.ref w_3), .unset, .unset] [(.ref w_2)])) rfl (hb hby at_11)
              obtain ⟨T282, X282, e282, st282⟩ := getS2 X281 hx hZ hown (host := "") (Or.inl (hw _ (tk 7 rfl))) Via.refl e281 (S_2.ext O0.2) (g := (mkF m 18 #[.val (.int p0), .val (.int p1), .val (.ref w_2), .val (.ref w_3), .unset, .unset] [(.ref w_2)])) rfl (hb hby at_18)
              obtain ⟨cq297, kq297, q297a, q297b, q297c⟩ := isOf hZ e282 (E_2.ext O0.2)
              obtain ⟨_, _, ⟨T297, L297, k297, n297⟩, -, X297, ⟨Lc297, hQ297, l297, y297, z297⟩, st297⟩ := X282.virtualBack hx (y := Y2) (z := Y2) hown (mvT hZ (hw _ (tk 11 rfl))) (mvT hZ (hw _ (tk 12 rfl))) (notFace_of_selects (args := #[]) (mvT hZ (hw _ (tk 14 rfl)))) (mvT hZ (hw _ (tk 14 rfl))) (mvT hZ (hw _ (tk 13 rfl))) (by decide) (backOf (W := 0) (rm2x15 l Z a0 hw [] w_1 w_2 w_3 w_4 w_5 k_4 hS0 h0 n0 O0) hZ (hw _ (tk 15 rfl)) (hw _ (tk 5 rfl)) (by decide) (by decide)) q297a q297c (g := (mkF m 50 #[.val (.int p0), .val (.int p1), .val (.ref w_2), .val (.ref w_3), .val (.int (1 : Int32)), .val (.int (1 : Int32))] [(.ref w_3), (.ref w_2)])) rfl (by rw [hml]; rfl) (Steps.refl _) (argsL := [(.ref w_3)]) (rest := []) (lenOf pd_1 rfl) rfl (by show 2 * 0 + _ ≤ _; exact Nat.le_of_eq rfl) (hb hby at_50) (fun _ _ => ⟨rfl, e282, (by decide : 0 + 0 ≤ _), (by decide : 0 + 0 ≤ _)⟩)
              dsimp only [Pt.U, Pt.locs, Pt.cells, Pt.slots] at X297 l297 y297 z297 st297 hQ297
              subst l297 y297 z297
              obtain ⟨rv297, N297q, e297⟩ := hQ297
              rw [show sp2x15 = (1 : Int32) from by unfold sp2x15; rfl] at rv297
              subst rv297
              have N297 := Fr.app N280 N297q
              obtain ⟨fs, hr, hrun, hended, hW, hsame⟩ := X297.leave (v := some (.int (1 : Int32))) (fun h => by rw [Bd.returns] at h; cases h)
              refine ⟨_, _, pre0 _ ?_, hrun, hended, _, _, rfl, ?_, ⟨_, rfl⟩, hW, hsame.mono (by decide) (by decide)⟩
              · show Steps p.tables e below (s₁.setTop (mkF m 0 #[.val (.int p0), .val (.int p1), .unset, .unset, .unset, .unset] [])) _
                refine XS.iloadN X0.here hx rfl (hb hby at_0) rfl ?_
                show Steps p.tables e below (s₁.setTop (mkF m 1 #[.val (.int p0), .val (.int p1), .unset, .unset, .unset, .unset] [(.int p0)])) _
                refine st279 _ ?_
                show Steps p.tables e below (T279.setTop (mkF m 4 #[.val (.int p0), .val (.int p1), .unset, .unset, .unset, .unset] [(.ref w_2)])) _
                refine XS.astoreN X279.here hx rfl (hb hby at_4) rfl rfl (l' := #[.val (.int p0), .val (.int p1), .val (.ref w_2), .unset, .unset, .unset]) rfl ?_
                show Steps p.tables e below (T279.setTop (mkF m 5 #[.val (.int p0), .val (.int p1), .val (.ref w_2), .unset, .unset, .unset] [])) _
                refine XS.iloadN X279.here hx rfl (hb hby at_5) rfl ?_
                show Steps p.tables e below (T279.setTop (mkF m 6 #[.val (.int p0), .val (.int p1), .val (.ref w_2), .unset, .unset, .unset] [(.int p1)])) _
                refine st280 _ ?_
                show Steps p.tables e below (T280.setTop (mkF m 9 #[.val (.int p0), .val (.int p1), .val (.ref w_2), .unset, .unset, .unset] [(.ref w_3)])) _
                refine XS.astoreN X280.here hx rfl (hb hby at_9) rfl rfl (l' := #[.val (.int p0), .val (.int p1), .val (.ref w_2), .val (.ref w_3), .unset, .unset]) rfl ?_
                show Steps p.tables e below (T280.setTop (mkF m 10 #[.val (.int p0), .val (.int p1), .val (.ref w_2), .val (.ref w_3), .unset, .unset] [])) _
                refine XS.aloadN X280.here hx rfl (hb hby at_10) rfl rfl ?_
                show Steps p.tables e below (T280.setTop (mkF m 11 #[.val (.int p0), .val (.int p1), .val (.ref w_2), .val (.ref w_3), .unset, .unset] [(.ref w_2)])) _
                refine st281 _ ?_
                show Steps p.tables e below (T281.setTop (mkF m 14 #[.val (.int p0), .val (.int p1), .val (.ref w_2), .val (.ref w_3), .unset, .unset] [(.ref w_3), (.ref w_2)])) _
                refine Jvm.RoadKit.acmp (g := (mkF m 14 #[.val (.int p0), .val (.int p1), .val (.ref w_2), .val (.ref w_3), .unset, .unset] [(.ref w_3), (.ref w_2)])) X281 hx rfl rfl rfl (pc0 := 14) (pc' := 17) (same := false) rfl (hb hby at_14) rfl (decide_eq_false fun q => (Fld.ne F_2_ordinal F_3_ordinal (by decide)) (Value.ref.inj q)) (by decide) (by decide) ?_
                show Steps p.tables e below (T281.setTop (mkF m 17 #[.val (.int p0), .val (.int p1), .val (.ref w_2), .val (.ref w_3), .unset, .unset] [])) _
                refine XS.aloadN X281.here hx rfl (hb hby at_17) rfl rfl ?_
                show Steps p.tables e below (T281.setTop (mkF m 18 #[.val (.int p0), .val (.int p1), .val (.ref w_2), .val (.ref w_3), .unset, .unset] [(.ref w_2)])) _
                refine st282 _ ?_
                show Steps p.tables e below (T282.setTop (mkF m 21 #[.val (.int p0), .val (.int p1), .val (.ref w_2), .val (.ref w_3), .unset, .unset] [(.ref w_2), (.ref w_2)])) _
                refine Jvm.RoadKit.acmp (g := (mkF m 21 #[.val (.int p0), .val (.int p1), .val (.ref w_2), .val (.ref w_3), .unset, .unset] [(.ref w_2), (.ref w_2)])) X282 hx rfl rfl rfl (pc0 := 21) (pc' := 24) (same := true) rfl (hb hby at_21) rfl (decide_eq_true (congrArg Value.ref rfl)) (by decide) (by decide) ?_
                show Steps p.tables e below (T282.setTop (mkF m 24 #[.val (.int p0), .val (.int p1), .val (.ref w_2), .val (.ref w_3), .unset, .unset] [])) _
                refine XS.iconst X282.here hx rfl (hb hby at_24) ?_
                show Steps p.tables e below (T282.setTop (mkF m 25 #[.val (.int p0), .val (.int p1), .val (.ref w_2), .val (.ref w_3), .unset, .unset] [(.int (1 : Int32))])) _
                refine XS.goto X282.here hx rfl (pc0 := 25) (pc' := 29) rfl (hb hby at_25) (by decide) (by decide) ?_
                show Steps p.tables e below (T282.setTop (mkF m 29 #[.val (.int p0), .val (.int p1), .val (.ref w_2), .val (.ref w_3), .unset, .unset] [(.int (1 : Int32))])) _
                refine XS.istore X282.here hx rfl (hb hby at_29) rfl (l' := #[.val (.int p0), .val (.int p1), .val (.ref w_2), .val (.ref w_3), .val (.int (1 : Int32)), .unset]) rfl ?_
                show Steps p.tables e below (T282.setTop (mkF m 31 #[.val (.int p0), .val (.int p1), .val (.ref w_2), .val (.ref w_3), .val (.int (1 : Int32)), .unset] [])) _
                refine XS.iload X282.here hx rfl (hb hby at_31) rfl ?_
                show Steps p.tables e below (T282.setTop (mkF m 33 #[.val (.int p0), .val (.int p1), .val (.ref w_2), .val (.ref w_3), .val (.int (1 : Int32)), .unset] [(.int (1 : Int32))])) _
                refine XS.ifYes X282.here hx rfl (pc0 := 33) (pc' := 41) rfl (hb hby at_33) rfl ((if0 _ _).trans (feq (by decide : ¬ ((1 : Int32) = (0 : Int32)))).2) (by decide) (by decide) ?_
                show Steps p.tables e below (T282.setTop (mkF m 41 #[.val (.int p0), .val (.int p1), .val (.ref w_2), .val (.ref w_3), .val (.int (1 : Int32)), .unset] [])) _
                refine XS.iconst X282.here hx rfl (hb hby at_41) ?_
                show Steps p.tables e below (T282.setTop (mkF m 42 #[.val (.int p0), .val (.int p1), .val (.ref w_2), .val (.ref w_3), .val (.int (1 : Int32)), .unset] [(.int (1 : Int32))])) _
                refine XS.goto X282.here hx rfl (pc0 := 42) (pc' := 46) rfl (hb hby at_42) (by decide) (by decide) ?_
                show Steps p.tables e below (T282.setTop (mkF m 46 #[.val (.int p0), .val (.int p1), .val (.ref w_2), .val (.ref w_3), .val (.int (1 : Int32)), .unset] [(.int (1 : Int32))])) _
                refine XS.istore X282.here hx rfl (hb hby at_46) rfl (l' := #[.val (.int p0), .val (.int p1), .val (.ref w_2), .val (.ref w_3), .val (.int (1 : Int32)), .val (.int (1 : Int32))]) rfl ?_
                show Steps p.tables e below (T282.setTop (mkF m 48 #[.val (.int p0), .val (.int p1), .val (.ref w_2), .val (.ref w_3), .val (.int (1 : Int32)), .val (.int (1 : Int32))] [])) _
                refine XS.aloadN X282.here hx rfl (hb hby at_48) rfl rfl ?_
                show Steps p.tables e below (T282.setTop (mkF m 49 #[.val (.int p0), .val (.int p1), .val (.ref w_2), .val (.ref w_3), .val (.int (1 : Int32)), .val (.int (1 : Int32))] [(.ref w_2)])) _
                refine XS.aloadN X282.here hx rfl (hb hby at_49) rfl rfl ?_
                show Steps p.tables e below (T282.setTop (mkF m 50 #[.val (.int p0), .val (.int p1), .val (.ref w_2), .val (.ref w_3), .val (.int (1 : Int32)), .val (.int (1 : Int32))] [(.ref w_3), (.ref w_2)])) _
                refine st297.trans ?_
                show Steps p.tables e below (T297.setTop (mkF m 53 #[.val (.int p0), .val (.int p1), .val (.ref w_2), .val (.ref w_3), .val (.int (1 : Int32)), .val (.int (1 : Int32))] [(.int (1 : Int32))])) _
                refine XS.iload X297.here hx rfl (hb hby at_53) rfl ?_
                show Steps p.tables e below (T297.setTop (mkF m 55 #[.val (.int p0), .val (.int p1), .val (.ref w_2), .val (.ref w_3), .val (.int (1 : Int32)), .val (.int (1 : Int32))] [(.int (1 : Int32)), (.int (1 : Int32))])) _
                refine XS.icmpNo X297.here hx rfl (hb hby at_55) rfl (teq (by decide : ((1 : Int32) = (1 : Int32)))).2 ?_
                show Steps p.tables e below (T297.setTop (mkF m 58 #[.val (.int p0), .val (.int p1), .val (.ref w_2), .val (.ref w_3), .val (.int (1 : Int32)), .val (.int (1 : Int32))] [])) _
                refine XS.iconst X297.here hx rfl (hb hby at_58) ?_
                show Steps p.tables e below (T297.setTop (mkF m 59 #[.val (.int p0), .val (.int p1), .val (.ref w_2), .val (.ref w_3), .val (.int (1 : Int32)), .val (.int (1 : Int32))] [(.int (1 : Int32))])) _
                refine XS.goto X297.here hx rfl (pc0 := 59) (pc' := 63) rfl (hb hby at_59) (by decide) (by decide) ?_
                show Steps p.tables e below (T297.setTop (mkF m 63 #[.val (.int p0), .val (.int p1), .val (.ref w_2), .val (.ref w_3), .val (.int (1 : Int32)), .val (.int (1 : Int32))] [(.int (1 : Int32))])) _
                exact retN X297 hx (t := .boolean) Bd.returns (by simp) (hb hby at_63) hr
              · show Q0 Z w_1 w_2 w_3 w_4 w_5 k_4 p0 p1 h0 n0 _ T297.heap _
                rw [e297]
                exact ⟨by unfold sp0; rw [if_neg hc35, if_neg hc103, if_neg hc164, if_neg hc240, if_neg hc259, if_pos hc278], N297, rfl⟩
            · have hL298 : (p1 &&& (3 : Int32)) = (3 : Int32) := by
                have r : 0 ≤ ((p1 &&& (3 : Int32))).toInt ∧ ((p1 &&& (3 : Int32))).toInt < 4 := (own_rand p1 (3 : Int32) 4 (by decide) (by decide))
                have q0 := own_ne hc240 (n := 0) (by decide)
                have q1 := own_ne hc259 (n := 1) (by decide)
                have q2 := own_ne hc278 (n := 2) (by decide)
                exact own_eq (n := 3) (by decide) (by omega)
              obtain ⟨_, _, ⟨T299, L299, k299, n299⟩, -, X299, ⟨Lc299, hQ299, l299, y299, z299⟩, st299⟩ := Jvm.LawKit.callS X0 hx (y := Y0) hown (mvT hZ (hw _ (tk 0 rfl))) (mvT hZ (hw _ (tk 1 rfl))) (mvT hZ (hw _ (tk 2 rfl))) (mvT hZ (hw _ (tk 3 rfl))) (by decide) (backOf (W := 0) (rm1 l Z a0 hw [] w_1 w_2 w_3 w_4 w_5 k_4 hS0 p0 h0 n0 O0) hZ (hw _ (tk 3 rfl)) (hw _ (tk 2 rfl)) (by decide) (by decide)) (g := (mkF m 1 #[.val (.int p0), .val (.int p1), .unset, .unset, .unset, .unset] [(.int p0)])) rfl (by rw [hml]; rfl) (argsL := [(.int p0)]) (rest := []) (lenOf pd_0 rfl) rfl (by show 2 * 0 + _ ≤ _; exact Nat.le_of_eq rfl) (hb hby at_1) (fun _ _ => ⟨rfl, e0, (by decide : 0 + 0 ≤ _), (by decide : 0 + 0 ≤ _)⟩)
              dsimp only [Pt.U, Pt.locs, Pt.cells, Pt.slots] at X299 l299 y299 z299 st299 hQ299
              subst l299 y299 z299
              obtain ⟨rv299, N299q, e299⟩ := hQ299
              rw [show sp1 w_1 w_2 w_3 w_5 p0 = (.ref w_2) from by unfold sp1; rw [if_neg hc35, if_neg hc103, if_neg hc164]] at rv299
              subst rv299
              have N299 := Fr.app N0 N299q
              obtain ⟨_, _, ⟨T300, L300, k300, n300⟩, -, X300, ⟨Lc300, hQ300, l300, y300, z300⟩, st300⟩ := Jvm.LawKit.callS X299 hx (y := Y0) hown (mvT hZ (hw _ (tk 0 rfl))) (mvT hZ (hw _ (tk 1 rfl))) (mvT hZ (hw _ (tk 2 rfl))) (mvT hZ (hw _ (tk 3 rfl))) (by decide) (backOf (W := 0) (rm1 l Z a0 hw [] w_1 w_2 w_3 w_4 w_5 k_4 hS0 p1 h0 n0 O0) hZ (hw _ (tk 3 rfl)) (hw _ (tk 2 rfl)) (by decide) (by decide)) (g := (mkF m 6 #[.val (.int p0), .val (.int p1), .val (.ref w_2), .unset, .unset, .unset] [(.int p1)])) rfl (by rw [hml]; rfl) (argsL := [(.int p1)]) (rest := []) (lenOf pd_0 rfl) rfl (by show 2 * 0 + _ ≤ _; exact Nat.le_of_eq rfl) (hb hby at_6) (fun _ _ => ⟨rfl, e299, (by decide : 0 + 0 ≤ _), (by decide : 0 + 0 ≤ _)⟩)
              dsimp only [Pt.U, Pt.locs, Pt.cells, Pt.slots] at X300 l300 y300 z300 st300 hQ300
              subst l300 y300 z300
              obtain ⟨rv300, N300q, e300⟩ := hQ300
              rw [show sp1 w_1 w_2 w_3 w_5 p1 = (.ref w_2) from by unfold sp1; rw [if_neg hc240, if_neg hc259, if_neg hc278]] at rv300
              subst rv300
              have N300 := Fr.app N299 N300q
              obtain ⟨T301, X301, e301, st301⟩ := getS2 X300 hx hZ hown (host := "") (Or.inl (hw _ (tk 9 rfl))) Via.refl e300 (S_3.ext O0.2) (g := (mkF m 11 #[.val (.int p0), .val (.int p1), .val (.ref w_2), .val (.ref w_2), .unset, .unset] [(.ref w_2)])) rfl (hb hby at_11)
              obtain ⟨T302, X302, e302, st302⟩ := getS2 X301 hx hZ hown (host := "") (Or.inl (hw _ (tk 7 rfl))) Via.refl e301 (S_2.ext O0.2) (g := (mkF m 18 #[.val (.int p0), .val (.int p1), .val (.ref w_2), .val (.ref w_2), .unset, .unset] [(.ref w_2)])) rfl (hb hby at_18)
              obtain ⟨cq317, kq317, q317a, q317b, q317c⟩ := isOf hZ e302 (E_2.ext O0.2)
              obtain ⟨_, _, ⟨T317, L317, k317, n317⟩, -, X317, ⟨Lc317, hQ317, l317, y317, z317⟩, st317⟩ := X302.virtualBack hx (y := Y2) (z := Y2) hown (mvT hZ (hw _ (tk 11 rfl))) (mvT hZ (hw _ (tk 12 rfl))) (notFace_of_selects (args := #[]) (mvT hZ (hw _ (tk 14 rfl)))) (mvT hZ (hw _ (tk 14 rfl))) (mvT hZ (hw _ (tk 13 rfl))) (by decide) (backOf (W := 0) (rm2x16 l Z a0 hw [] w_1 w_2 w_3 w_4 w_5 k_4 hS0 h0 n0 O0) hZ (hw _ (tk 15 rfl)) (hw _ (tk 5 rfl)) (by decide) (by decide)) q317a q317c (g := (mkF m 50 #[.val (.int p0), .val (.int p1), .val (.ref w_2), .val (.ref w_2), .val (.int (1 : Int32)), .val (.int (1 : Int32))] [(.ref w_2), (.ref w_2)])) rfl (by rw [hml]; rfl) (Steps.refl _) (argsL := [(.ref w_2)]) (rest := []) (lenOf pd_1 rfl) rfl (by show 2 * 0 + _ ≤ _; exact Nat.le_of_eq rfl) (hb hby at_50) (fun _ _ => ⟨rfl, e302, (by decide : 0 + 0 ≤ _), (by decide : 0 + 0 ≤ _)⟩)
              dsimp only [Pt.U, Pt.locs, Pt.cells, Pt.slots] at X317 l317 y317 z317 st317 hQ317
              subst l317 y317 z317
              obtain ⟨rv317, N317q, e317⟩ := hQ317
              rw [show sp2x16 = (1 : Int32) from by unfold sp2x16; rfl] at rv317
              subst rv317
              have N317 := Fr.app N300 N317q
              obtain ⟨fs, hr, hrun, hended, hW, hsame⟩ := X317.leave (v := some (.int (1 : Int32))) (fun h => by rw [Bd.returns] at h; cases h)
              refine ⟨_, _, pre0 _ ?_, hrun, hended, _, _, rfl, ?_, ⟨_, rfl⟩, hW, hsame.mono (by decide) (by decide)⟩
              · show Steps p.tables e below (s₁.setTop (mkF m 0 #[.val (.int p0), .val (.int p1), .unset, .unset, .unset, .unset] [])) _
                refine XS.iloadN X0.here hx rfl (hb hby at_0) rfl ?_
                show Steps p.tables e below (s₁.setTop (mkF m 1 #[.val (.int p0), .val (.int p1), .unset, .unset, .unset, .unset] [(.int p0)])) _
                refine st299 _ ?_
                show Steps p.tables e below (T299.setTop (mkF m 4 #[.val (.int p0), .val (.int p1), .unset, .unset, .unset, .unset] [(.ref w_2)])) _
                refine XS.astoreN X299.here hx rfl (hb hby at_4) rfl rfl (l' := #[.val (.int p0), .val (.int p1), .val (.ref w_2), .unset, .unset, .unset]) rfl ?_
                show Steps p.tables e below (T299.setTop (mkF m 5 #[.val (.int p0), .val (.int p1), .val (.ref w_2), .unset, .unset, .unset] [])) _
                refine XS.iloadN X299.here hx rfl (hb hby at_5) rfl ?_
                show Steps p.tables e below (T299.setTop (mkF m 6 #[.val (.int p0), .val (.int p1), .val (.ref w_2), .unset, .unset, .unset] [(.int p1)])) _
                refine st300 _ ?_
                show Steps p.tables e below (T300.setTop (mkF m 9 #[.val (.int p0), .val (.int p1), .val (.ref w_2), .unset, .unset, .unset] [(.ref w_2)])) _
                refine XS.astoreN X300.here hx rfl (hb hby at_9) rfl rfl (l' := #[.val (.int p0), .val (.int p1), .val (.ref w_2), .val (.ref w_2), .unset, .unset]) rfl ?_
                show Steps p.tables e below (T300.setTop (mkF m 10 #[.val (.int p0), .val (.int p1), .val (.ref w_2), .val (.ref w_2), .unset, .unset] [])) _
                refine XS.aloadN X300.here hx rfl (hb hby at_10) rfl rfl ?_
                show Steps p.tables e below (T300.setTop (mkF m 11 #[.val (.int p0), .val (.int p1), .val (.ref w_2), .val (.ref w_2), .unset, .unset] [(.ref w_2)])) _
                refine st301 _ ?_
                show Steps p.tables e below (T301.setTop (mkF m 14 #[.val (.int p0), .val (.int p1), .val (.ref w_2), .val (.ref w_2), .unset, .unset] [(.ref w_3), (.ref w_2)])) _
                refine Jvm.RoadKit.acmp (g := (mkF m 14 #[.val (.int p0), .val (.int p1), .val (.ref w_2), .val (.ref w_2), .unset, .unset] [(.ref w_3), (.ref w_2)])) X301 hx rfl rfl rfl (pc0 := 14) (pc' := 17) (same := false) rfl (hb hby at_14) rfl (decide_eq_false fun q => (Fld.ne F_2_ordinal F_3_ordinal (by decide)) (Value.ref.inj q)) (by decide) (by decide) ?_
                show Steps p.tables e below (T301.setTop (mkF m 17 #[.val (.int p0), .val (.int p1), .val (.ref w_2), .val (.ref w_2), .unset, .unset] [])) _
                refine XS.aloadN X301.here hx rfl (hb hby at_17) rfl rfl ?_
                show Steps p.tables e below (T301.setTop (mkF m 18 #[.val (.int p0), .val (.int p1), .val (.ref w_2), .val (.ref w_2), .unset, .unset] [(.ref w_2)])) _
                refine st302 _ ?_
                show Steps p.tables e below (T302.setTop (mkF m 21 #[.val (.int p0), .val (.int p1), .val (.ref w_2), .val (.ref w_2), .unset, .unset] [(.ref w_2), (.ref w_2)])) _
                refine Jvm.RoadKit.acmp (g := (mkF m 21 #[.val (.int p0), .val (.int p1), .val (.ref w_2), .val (.ref w_2), .unset, .unset] [(.ref w_2), (.ref w_2)])) X302 hx rfl rfl rfl (pc0 := 21) (pc' := 24) (same := true) rfl (hb hby at_21) rfl (decide_eq_true (congrArg Value.ref rfl)) (by decide) (by decide) ?_
                show Steps p.tables e below (T302.setTop (mkF m 24 #[.val (.int p0), .val (.int p1), .val (.ref w_2), .val (.ref w_2), .unset, .unset] [])) _
                refine XS.iconst X302.here hx rfl (hb hby at_24) ?_
                show Steps p.tables e below (T302.setTop (mkF m 25 #[.val (.int p0), .val (.int p1), .val (.ref w_2), .val (.ref w_2), .unset, .unset] [(.int (1 : Int32))])) _
                refine XS.goto X302.here hx rfl (pc0 := 25) (pc' := 29) rfl (hb hby at_25) (by decide) (by decide) ?_
                show Steps p.tables e below (T302.setTop (mkF m 29 #[.val (.int p0), .val (.int p1), .val (.ref w_2), .val (.ref w_2), .unset, .unset] [(.int (1 : Int32))])) _
                refine XS.istore X302.here hx rfl (hb hby at_29) rfl (l' := #[.val (.int p0), .val (.int p1), .val (.ref w_2), .val (.ref w_2), .val (.int (1 : Int32)), .unset]) rfl ?_
                show Steps p.tables e below (T302.setTop (mkF m 31 #[.val (.int p0), .val (.int p1), .val (.ref w_2), .val (.ref w_2), .val (.int (1 : Int32)), .unset] [])) _
                refine XS.iload X302.here hx rfl (hb hby at_31) rfl ?_
                show Steps p.tables e below (T302.setTop (mkF m 33 #[.val (.int p0), .val (.int p1), .val (.ref w_2), .val (.ref w_2), .val (.int (1 : Int32)), .unset] [(.int (1 : Int32))])) _
                refine XS.ifYes X302.here hx rfl (pc0 := 33) (pc' := 41) rfl (hb hby at_33) rfl ((if0 _ _).trans (feq (by decide : ¬ ((1 : Int32) = (0 : Int32)))).2) (by decide) (by decide) ?_
                show Steps p.tables e below (T302.setTop (mkF m 41 #[.val (.int p0), .val (.int p1), .val (.ref w_2), .val (.ref w_2), .val (.int (1 : Int32)), .unset] [])) _
                refine XS.iconst X302.here hx rfl (hb hby at_41) ?_
                show Steps p.tables e below (T302.setTop (mkF m 42 #[.val (.int p0), .val (.int p1), .val (.ref w_2), .val (.ref w_2), .val (.int (1 : Int32)), .unset] [(.int (1 : Int32))])) _
                refine XS.goto X302.here hx rfl (pc0 := 42) (pc' := 46) rfl (hb hby at_42) (by decide) (by decide) ?_
                show Steps p.tables e below (T302.setTop (mkF m 46 #[.val (.int p0), .val (.int p1), .val (.ref w_2), .val (.ref w_2), .val (.int (1 : Int32)), .unset] [(.int (1 : Int32))])) _
                refine XS.istore X302.here hx rfl (hb hby at_46) rfl (l' := #[.val (.int p0), .val (.int p1), .val (.ref w_2), .val (.ref w_2), .val (.int (1 : Int32)), .val (.int (1 : Int32))]) rfl ?_
                show Steps p.tables e below (T302.setTop (mkF m 48 #[.val (.int p0), .val (.int p1), .val (.ref w_2), .val (.ref w_2), .val (.int (1 : Int32)), .val (.int (1 : Int32))] [])) _
                refine XS.aloadN X302.here hx rfl (hb hby at_48) rfl rfl ?_
                show Steps p.tables e below (T302.setTop (mkF m 49 #[.val (.int p0), .val (.int p1), .val (.ref w_2), .val (.ref w_2), .val (.int (1 : Int32)), .val (.int (1 : Int32))] [(.ref w_2)])) _
                refine XS.aloadN X302.here hx rfl (hb hby at_49) rfl rfl ?_
                show Steps p.tables e below (T302.setTop (mkF m 50 #[.val (.int p0), .val (.int p1), .val (.ref w_2), .val (.ref w_2), .val (.int (1 : Int32)), .val (.int (1 : Int32))] [(.ref w_2), (.ref w_2)])) _
                refine st317.trans ?_
                show Steps p.tables e below (T317.setTop (mkF m 53 #[.val (.int p0), .val (.int p1), .val (.ref w_2), .val (.ref w_2), .val (.int (1 : Int32)), .val (.int (1 : Int32))] [(.int (1 : Int32))])) _
                refine XS.iload X317.here hx rfl (hb hby at_53) rfl ?_
                show Steps p.tables e below (T317.setTop (mkF m 55 #[.val (.int p0), .val (.int p1), .val (.ref w_2), .val (.ref w_2), .val (.int (1 : Int32)), .val (.int (1 : Int32))] [(.int (1 : Int32)), (.int (1 : Int32))])) _
                refine XS.icmpNo X317.here hx rfl (hb hby at_55) rfl (teq (by decide : ((1 : Int32) = (1 : Int32)))).2 ?_
                show Steps p.tables e below (T317.setTop (mkF m 58 #[.val (.int p0), .val (.int p1), .val (.ref w_2), .val (.ref w_2), .val (.int (1 : Int32)), .val (.int (1 : Int32))] [])) _
                refine XS.iconst X317.here hx rfl (hb hby at_58) ?_
                show Steps p.tables e below (T317.setTop (mkF m 59 #[.val (.int p0), .val (.int p1), .val (.ref w_2), .val (.ref w_2), .val (.int (1 : Int32)), .val (.int (1 : Int32))] [(.int (1 : Int32))])) _
                refine XS.goto X317.here hx rfl (pc0 := 59) (pc' := 63) rfl (hb hby at_59) (by decide) (by decide) ?_
                show Steps p.tables e below (T317.setTop (mkF m 63 #[.val (.int p0), .val (.int p1), .val (.ref w_2), .val (.ref w_2), .val (.int (1 : Int32)), .val (.int (1 : Int32))] [(.int (1 : Int32))])) _
                exact retN X317 hx (t := .boolean) Bd.returns (by simp) (hb hby at_63) hr
              · show Q0 Z w_1 w_2 w_3 w_4 w_5 k_4 p0 p1 h0 n0 _ T317.heap _
                rw [e317]
                exact ⟨by unfold sp0; rw [if_neg hc35, if_neg hc103, if_neg hc164, if_neg hc240, if_neg hc259, if_neg hc278], N317, rfl⟩

theorem own_plain (p0 : Int32) (p1 : Int32) : sp0 p0 p1 = (1 : Int32) := by
  unfold sp0
  simp only [ite_self]
set_option maxRecDepth 65536 in
set_option maxHeartbeats 40000000 in
theorem comes_1 {Post : Tables → Env → Array Value → State → Outcome → State → Prop} (hpost : ∀ tb e args s v u, (limb_1_1.after args s (.returned v) u = true ∧ limb_1_2.after args s (.returned v) u = true ∧ True) → FrameEnd s (.returned v) u (Jvm.fieldLocs frame_1_writes args s ++ Jvm.arrayLocs frame_1_arrays args s ++ Jvm.staticLocs frame_1_statics s) 0 0 → Post tb e args s (.returned v) u) :
    ArmFor flags0 classFile x code maxLocals ret World_1 tables_1 room_1 Calls_1 rest_1 Pre_1 Post := by
  intro l hfl _ _ p e ha hc hk s m args below hf hA hF happ hP
  obtain ⟨hcalls, hrest, hpre⟩ := hP
  obtain ⟨-, -, -, hnamed, -, -, -, hat⟩ := (Spec.applies_iff hf).mp happ
  obtain ⟨hg, hn⟩ := and_e (Cond.before_iff.mp (show (Jvm.Cond.and given_1 narrow_1).before args s = true from hpre))
  obtain ⟨g318, g319⟩ := and_e hg
  obtain ⟨g320, g321⟩ := and_e g319
  obtain ⟨w0, w1, rfl⟩ : ∃ w0 w1 : Value, args = #[w0, w1] := by
    have hs : args.size = 2 := by simpa [Cond.value, given_1] using g318
    obtain ⟨L⟩ := args
    match L, hs with
    | [w0, w1], _ => exact ⟨w0, w1, rfl⟩
  have hw := fun d (hd : d ∈ tables_1) => atoms_spec (ws := Jvm.Cond.code x code maxLocals ret :: tables_1) hat d (List.mem_cons_of_mem _ hd)
  have hfit : Fit s := fun {y c} hc i hi => by
    obtain ⟨ha, rfl⟩ := Array.getElem?_eq_some_iff.mp hc
    have q := List.all_eq_true.mp ((Array.all_eq_true_iff_forall_mem.mp hF) _ (Array.getElem_mem ha)) i (List.mem_range.mpr hi)
    simpa [Array.getElem?_eq_getElem hi] using q
  obtain ⟨i0, ei0⟩ := is_v g320
  obtain rfl : w0 = (.int i0) := Option.some.inj ei0
  obtain ⟨i1, ei1⟩ := is_v g321
  obtain rfl : w1 = (.int i1) := Option.some.inj ei1
  obtain ⟨n1, n2⟩ := and_e hn
  obtain ⟨n3, n4⟩ := and_e n2
  obtain ⟨n5, n6⟩ := and_e n4
  obtain ⟨n7, n8⟩ := and_e n6
  obtain ⟨n9, n10⟩ := and_e n8
  obtain ⟨n11, n12⟩ := and_e n10
  obtain ⟨n13, n14⟩ := and_e n12
  obtain ⟨n15, n16⟩ := and_e n14
  obtain ⟨n17, n18⟩ := and_e n16
  obtain ⟨n19, n20⟩ := and_e n18
  obtain ⟨n21, n22⟩ := and_e n20
  obtain ⟨n23, n24⟩ := and_e n22
  obtain ⟨n25, n26⟩ := and_e n24
  obtain ⟨n27, n28⟩ := and_e n26
  obtain ⟨n29, n30⟩ := and_e n28
  obtain ⟨n31, n32⟩ := and_e n30
  obtain ⟨n33, n34⟩ := and_e n32
  obtain ⟨w_1, ew_1⟩ := exa_v n1
  have S_1 : Sta s s.heap "com/example/lucid_locks/lucidlocks/locks/LockMode" "READER_SHARED" "Lcom/example/lucid_locks/lucidlocks/locks/LockMode;" (.ref w_1) := Sta.start ew_1 (Or.inr ⟨(hw _ (tk 5 rfl)), (hw _ (tk 6 rfl))⟩)
  have E_1 : Exa s s.heap w_1 "com/example/lucid_locks/lucidlocks/locks/LockMode" := Exa.start ew_1 n1
  obtain ⟨w_2, ew_2⟩ := exa_v n3
  have S_2 : Sta s s.heap "com/example/lucid_locks/lucidlocks/locks/LockMode" "WRITER_SHARED_TIMESTAMP" "Lcom/example/lucid_locks/lucidlocks/locks/LockMode;" (.ref w_2) := Sta.start ew_2 (Or.inr ⟨(hw _ (tk 5 rfl)), (hw _ (tk 8 rfl))⟩)
  have E_2 : Exa s s.heap w_2 "com/example/lucid_locks/lucidlocks/locks/LockMode" := Exa.start ew_2 n3
  obtain ⟨w_3, ew_3⟩ := exa_v n5
  have S_3 : Sta s s.heap "com/example/lucid_locks/lucidlocks/locks/LockMode" "EXCLUSIVE" "Lcom/example/lucid_locks/lucidlocks/locks/LockMode;" (.ref w_3) := Sta.start ew_3 (Or.inr ⟨(hw _ (tk 5 rfl)), (hw _ (tk 10 rfl))⟩)
  have E_3 : Exa s s.heap w_3 "com/example/lucid_locks/lucidlocks/locks/LockMode" := Exa.start ew_3 n5
  obtain ⟨w_4, ew_4⟩ := arr_v n13
  have S_4 : Sta s s.heap "com/example/lucid_locks/lucidlocks/locks/LockMode" "MODES" "[Lcom/example/lucid_locks/lucidlocks/locks/LockMode;" (.ref w_4) := Sta.start ew_4 (Or.inr ⟨(hw _ (tk 5 rfl)), (hw _ (tk 17 rfl))⟩)
  obtain ⟨w_5, ew_5⟩ := exa_v n21
  have S_5 : Sta s s.heap "com/example/lucid_locks/lucidlocks/locks/LockMode" "WRITER_SHARED" "Lcom/example/lucid_locks/lucidlocks/locks/LockMode;" (.ref w_5) := Sta.start ew_5 (Or.inr ⟨(hw _ (tk 5 rfl)), (hw _ (tk 26 rfl))⟩)
  have E_5 : Exa s s.heap w_5 "com/example/lucid_locks/lucidlocks/locks/LockMode" := Exa.start ew_5 n21
  have F_1_ordinal : Fld s s.heap w_1 "java/lang/Enum" "ordinal" "I" (.int (0 : Int32)) := own_fld ew_1 n7
  have F_3_ordinal : Fld s s.heap w_3 "java/lang/Enum" "ordinal" "I" (.int (2 : Int32)) := own_fld ew_3 n9
  have F_2_ordinal : Fld s s.heap w_2 "java/lang/Enum" "ordinal" "I" (.int (3 : Int32)) := own_fld ew_2 n11
  have F_1_sharedWithItself : Fld s s.heap w_1 "com/example/lucid_locks/lucidlocks/locks/LockMode" "sharedWithItself" "Z" (.int (1 : Int32)) := own_fld ew_1 n19
  have F_5_ordinal : Fld s s.heap w_5 "java/lang/Enum" "ordinal" "I" (.int (1 : Int32)) := own_fld ew_5 n23
  have F_5_sharedWithItself : Fld s s.heap w_5 "com/example/lucid_locks/lucidlocks/locks/LockMode" "sharedWithItself" "Z" (.int (1 : Int32)) := own_fld ew_5 n27
  have F_3_sharedWithItself : Fld s s.heap w_3 "com/example/lucid_locks/lucidlocks/locks/LockMode" "sharedWithItself" "Z" (.int (0 : Int32)) := own_fld ew_3 n31
  have F_2_sharedWithItself : Fld s s.heap w_2 "com/example/lucid_locks/lucidlocks/locks/LockMode" "sharedWithItself" "Z" (.int (0 : Int32)) := own_fld ew_2 n34
  obtain ⟨cl_4, A_4⟩ := Arr.start ew_4 n13
  have L_4 := own_len ew_4 A_4 n15
  have V_4 : Arv s s.heap w_4 cl_4.cls (.object "com/example/lucid_locks/lucidlocks/locks/LockMode") (4 : Int32) [(.ref w_1), (.ref w_5), (.ref w_3), (.ref w_2)] .null := Arv.start hfit A_4 L_4.1 L_4.2 (by decide) rfl ⟨own_elem ew_4 A_4.1 ew_1 n17, own_elem ew_4 A_4.1 ew_5 n25, own_elem ew_4 A_4.1 ew_3 n29, own_elem ew_4 A_4.1 ew_2 n33, trivial⟩
  obtain ⟨k_4, hk_4⟩ : ∃ z, z = cl_4.cls := ⟨_, rfl⟩
  rw [← hk_4] at V_4
  have hS : StF s w_1 w_2 w_3 w_4 w_5 k_4 := ⟨S_1, E_1, S_2, E_2, S_3, E_3, S_4, S_5, E_5, F_1_ordinal, F_3_ordinal, F_2_ordinal, F_1_sharedWithItself, F_5_ordinal, F_5_sharedWithItself, F_3_sharedWithItself, F_2_sharedWithItself, V_4⟩
  obtain ⟨n, o, h1, h2, h3, _, L, rfl, ⟨hv, N, -⟩, hq⟩ := rm0 l s _ hw tables_1 w_1 w_2 w_3 w_4 w_5 k_4 hS i0 i1 s.heap s.heap.size (Old.start s) p e ha hc hk s m _ below hf ((Spec.applies_iff_loose hf).mp happ).1 ⟨rfl, State.Warmed39.refl s, rfl⟩ trivial
  rw [own_plain i0 i1] at hv
  subst hv
  refine ⟨n, _, h1, h2, h3, hpost _ _ _ _ _ _ ⟨Cond.after_iff.mpr rfl, Cond.after_iff.mpr (eq_i res_at (Term.int_eval (1)) rfl), trivial⟩ ⟨hq.1, hq.2.1, (hq.2.2.sift fun y hy => Or.inr (N y hy)).mono (by decide) (by decide)⟩⟩
theorem main_1_1 : Claimed_1_1 := comes_1 fun _ _ _ _ _ _ h hF => ⟨h.1, hF⟩
theorem main_1_2 : Claimed_1_2 := comes_1 fun _ _ _ _ _ _ h hF => ⟨h.2.1, hF⟩
end Jvm.Pilot.@@N@@
namespace Jvm.Pilot.@@N@@
open Jvm Jvm.ClassFile Sem Op Lib Jvm.Free Jvm.Stand Jvm.Pilot.@@N@@.Jvm.D
/-! MADE BY PROGRAM (witnessworld.py) out of the Statement's table words and the real class files: 13 classes; the members and pool entries that the words name. The judged class is class 1, her method 2. -/
namespace start1
open Jvm.ClassFile
def u (s : String) : CpInfo := .utf8 (stringToUtf16 s)
/-- a pool by its gaps: so many unusable entries, then the entry; so many at the end -/
def gap : Nat → List CpInfo → List CpInfo
  | 0, r => r
  | n + 1, r => .unusable :: gap n r
def poolList (es : List (Nat × CpInfo)) (last : Nat) : List CpInfo := es.foldr (fun e r => gap e.1 (e.2 :: r)) (gap last [])
def pool (es : List (Nat × CpInfo)) (last : Nat) : Array CpInfo := ⟨poolList es last⟩
def fileOf (pool : Array CpInfo) (this : Nat) (attrs : Array Attribute := #[]) (ms : Array MethodInfo := #[]) (fl : Nat := 33) (sup : Nat := 0) (ifs : Array Nat := #[]) (fds : Array FieldInfo := #[]) : ClassFile where
  minorVersion := 0
  majorVersion := 65
  constantPool := pool
  accessFlags := fl
  thisClass := this
  superClass := sup
  interfaces := ifs
  fields := fds
  methods := ms
  attributes := attrs
def plain (name : String) (sup : Option ClassId) : Class where
  name := name
  kind := .ordinary
  loader := none
  accessFlags := 33
  super := sup
  interfaces := #[]
  cf := none
  fields := #[]
  methods := #[]
  instanceTypes := #[]
  staticTypes := #[]
  resolved := #[]
  callSites := []
  init := .initialized
  statics := none
  mirror := none

def pool0 : Array CpInfo := pool [(5, u "<init>"), (0, u "()V"), (1, .class_ 10), (1, u "java/lang/Object")] 113

def k0m0 : Method := { name := "<init>", desc := "()V", sig := { parameters := [], returnType := none }, accessFlags := 1, code := none }
/-- java/lang/Object -/
def k0 : Class := { plain "java/lang/Object" none with
  accessFlags := 33
  interfaces := #[]
  cf := some (fileOf pool0 8 #[] #[{ accessFlags := 1, nameIndex := 5, descriptorIndex := 6, attributes := #[] }] 33 0 #[] #[])
  fields := #[]
  methods := #[k0m0]
  instanceTypes := #[]
  staticTypes := #[]
  resolved := Array.replicate 124 none
  statics := none }

def pool1 : Array CpInfo := pool [(2, .class_ 4), (1, u "java/lang/Object"), (0, u "<init>"), (0, u "()V"), (0, .fieldref 8 9), (0, .class_ 10), (0, .nameAndType 11 12), (0, u "com/example/lucid_locks/lucidlocks/locks/LockMode"), (0, u "READER_SHARED"), (0, u "Lcom/example/lucid_locks/lucidlocks/locks/LockMode;"), (0, .fieldref 8 14), (0, .nameAndType 15 12), (0, u "WRITER_SHARED"), (0, .fieldref 8 17), (0, .nameAndType 18 12), (0, u "EXCLUSIVE"), (0, .fieldref 8 20), (0, .nameAndType 21 12), (0, u "WRITER_SHARED_TIMESTAMP"), (0, .methodref 23 24), (0, .class_ 25), (0, .nameAndType 26 27), (0, u "com/example/lucid_locks/lucidlocks/locks/LockModeCoversPinLaw"), (0, u "pick"), (0, u "(I)Lcom/example/lucid_locks/lucidlocks/locks/LockMode;"), (0, .methodref 8 29), (0, .nameAndType 30 31), (0, u "covers"), (0, u "(Lcom/example/lucid_locks/lucidlocks/locks/LockMode;)Z"), (3, u "law"), (0, u "(II)Z")] 2

def k1m0 : Method := { name := "<init>", desc := "()V", sig := { parameters := [], returnType := none }, accessFlags := 1, code := none }
def k1c1 : Code := { maxStack := 2, maxLocals := 2, code := method_2_code, exceptionTable := #[], attributes := #[] }
def k1m1 : Method := { name := "pick", desc := "(I)Lcom/example/lucid_locks/lucidlocks/locks/LockMode;", sig := { parameters := [.int], returnType := some (.object "com/example/lucid_locks/lucidlocks/locks/LockMode") }, accessFlags := 10, code := some k1c1 }
def k1c2 : Code := { maxStack := 2, maxLocals := 6, code := code, exceptionTable := #[], attributes := #[] }
def k1m2 : Method := { name := "law", desc := "(II)Z", sig := { parameters := [.int, .int], returnType := some .boolean }, accessFlags := 9, code := some k1c2 }
/-- com/example/lucid_locks/lucidlocks/locks/LockModeCoversPinLaw -/
def k1 : Class := { plain "com/example/lucid_locks/lucidlocks/locks/LockModeCoversPinLaw" (some 0) with
  accessFlags := 49
  interfaces := #[]
  cf := some (fileOf pool1 23 #[] #[{ accessFlags := 1, nameIndex := 5, descriptorIndex := 6, attributes := #[] }, { accessFlags := 10, nameIndex := 26, descriptorIndex := 27, attributes := #[] }, { accessFlags := 9, nameIndex := 35, descriptorIndex := 36, attributes := #[] }] 49 2 #[] #[])
  fields := #[]
  methods := #[k1m0, k1m1, k1m2]
  instanceTypes := #[]
  staticTypes := #[]
  resolved := Array.replicate 39 none
  statics := none }

def pool2 : Array CpInfo := pool [(1, .class_ 2), (0, u "java/lang/constant/Constable"), (0, .class_ 4), (0, u "java/lang/Object")] 6

/-- java/lang/constant/Constable -/
def k2 : Class := { plain "java/lang/constant/Constable" (some 0) with
  accessFlags := 1537
  interfaces := #[]
  cf := some (fileOf pool2 1 #[] #[] 1537 3 #[] #[])
  fields := #[]
  methods := #[]
  instanceTypes := #[]
  staticTypes := #[]
  resolved := Array.replicate 11 none
  statics := none }

def pool3 : Array CpInfo := pool [(1, .class_ 2), (0, u "java/lang/Comparable"), (0, .class_ 4), (0, u "java/lang/Object")] 7

/-- java/lang/Comparable -/
def k3 : Class := { plain "java/lang/Comparable" (some 0) with
  accessFlags := 1537
  interfaces := #[]
  cf := some (fileOf pool3 1 #[] #[] 1537 3 #[] #[])
  fields := #[]
  methods := #[]
  instanceTypes := #[]
  staticTypes := #[]
  resolved := Array.replicate 12 none
  statics := none }

def pool4 : Array CpInfo := pool [(1, .class_ 2), (0, u "java/io/Serializable"), (0, .class_ 4), (0, u "java/lang/Object")] 2

/-- java/io/Serializable -/
def k4 : Class := { plain "java/io/Serializable" (some 0) with
  accessFlags := 1537
  interfaces := #[]
  cf := some (fileOf pool4 1 #[] #[] 1537 3 #[] #[])
  fields := #[]
  methods := #[]
  instanceTypes := #[]
  staticTypes := #[]
  resolved := Array.replicate 7 none
  statics := none }

def pool5 : Array CpInfo := pool [(2, .class_ 4), (1, u "java/lang/Enum"), (0, u "name"), (0, u "Ljava/lang/String;"), (2, u "ordinal"), (0, u "I"), (1, .class_ 14), (1, u "java/lang/Object"), (4, u "hash"), (86, .class_ 108), (1, u "java/lang/Enum$EnumDesc"), (2, .class_ 112), (0, u "java/lang/constant/Constable"), (0, .class_ 114), (0, u "java/lang/Comparable"), (0, .class_ 116), (0, u "java/io/Serializable")] 87

/-- java/lang/Enum -/
def k5 : Class := { plain "java/lang/Enum" (some 0) with
  accessFlags := 1057
  interfaces := #[2, 3, 4]
  cf := some (fileOf pool5 2 #[.nestMembers #[106]] #[] 1057 12 #[111, 113, 115] #[{ accessFlags := 18, nameIndex := 5, descriptorIndex := 6, attributes := #[] }, { accessFlags := 18, nameIndex := 9, descriptorIndex := 10, attributes := #[] }, { accessFlags := 2, nameIndex := 19, descriptorIndex := 10, attributes := #[] }])
  fields := #[{ name := "name", type := (.object "java/lang/String"), accessFlags := 18, slot := 0, constantValue := 0 }, { name := "ordinal", type := .int, accessFlags := 18, slot := 1, constantValue := 0 }, { name := "hash", type := .int, accessFlags := 2, slot := 2, constantValue := 0 }]
  methods := #[]
  instanceTypes := #[(.object "java/lang/String"), .int, .int]
  staticTypes := #[]
  resolved := Array.replicate 204 none
  statics := none }

def pool6 : Array CpInfo := pool [(1, .class_ 2), (0, u "com/example/lucid_locks/lucidlocks/locks/LockMode"), (2, u "READER_SHARED"), (0, u "Lcom/example/lucid_locks/lucidlocks/locks/LockMode;"), (2, u "WRITER_SHARED"), (2, u "EXCLUSIVE"), (2, u "WRITER_SHARED_TIMESTAMP"), (2, u "$VALUES"), (0, u "[Lcom/example/lucid_locks/lucidlocks/locks/LockMode;"), (6, .class_ 28), (1, u "java/lang/Enum"), (8, u "displayName"), (0, u "Ljava/lang/String;"), (0, .fieldref 1 40), (0, .nameAndType 41 42), (0, u "sharedWithItself"), (0, u "Z"), (2, u "covers"), (0, u "(Lcom/example/lucid_locks/lucidlocks/locks/LockMode;)Z"), (0, .fieldref 1 48), (0, .nameAndType 49 19), (0, u "MODES"), (0, .methodref 1 51), (0, .nameAndType 52 46), (0, u "conflictsWith")] 37

def k6c0 : Code := { maxStack := 2, maxLocals := 2, code := prog_17_method_5_code, exceptionTable := #[], attributes := #[] }
def k6m0 : Method := { name := "conflictsWith", desc := "(Lcom/example/lucid_locks/lucidlocks/locks/LockMode;)Z", sig := { parameters := [(.object "com/example/lucid_locks/lucidlocks/locks/LockMode")], returnType := some .boolean }, accessFlags := 1, code := some k6c0 }
def k6c1 : Code := { maxStack := 2, maxLocals := 6, code := prog_17_method_7_code, exceptionTable := #[], attributes := #[] }
def k6m1 : Method := { name := "covers", desc := "(Lcom/example/lucid_locks/lucidlocks/locks/LockMode;)Z", sig := { parameters := [(.object "com/example/lucid_locks/lucidlocks/locks/LockMode")], returnType := some .boolean }, accessFlags := 1, code := some k6c1 }
/-- com/example/lucid_locks/lucidlocks/locks/LockMode -/
def k6 : Class := { plain "com/example/lucid_locks/lucidlocks/locks/LockMode" (some 5) with
  accessFlags := 16433
  interfaces := #[]
  cf := some (fileOf pool6 1 #[] #[{ accessFlags := 1, nameIndex := 52, descriptorIndex := 46, attributes := #[] }, { accessFlags := 1, nameIndex := 45, descriptorIndex := 46, attributes := #[] }] 16433 26 #[] #[{ accessFlags := 16409, nameIndex := 5, descriptorIndex := 6, attributes := #[] }, { accessFlags := 16409, nameIndex := 9, descriptorIndex := 6, attributes := #[] }, { accessFlags := 16409, nameIndex := 12, descriptorIndex := 6, attributes := #[] }, { accessFlags := 16409, nameIndex := 15, descriptorIndex := 6, attributes := #[] }, { accessFlags := 26, nameIndex := 49, descriptorIndex := 19, attributes := #[] }, { accessFlags := 18, nameIndex := 37, descriptorIndex := 38, attributes := #[] }, { accessFlags := 18, nameIndex := 41, descriptorIndex := 42, attributes := #[] }, { accessFlags := 4122, nameIndex := 18, descriptorIndex := 19, attributes := #[] }])
  fields := #[{ name := "READER_SHARED", type := (.object "com/example/lucid_locks/lucidlocks/locks/LockMode"), accessFlags := 16409, slot := 0, constantValue := 0 }, { name := "WRITER_SHARED", type := (.object "com/example/lucid_locks/lucidlocks/locks/LockMode"), accessFlags := 16409, slot := 1, constantValue := 0 }, { name := "EXCLUSIVE", type := (.object "com/example/lucid_locks/lucidlocks/locks/LockMode"), accessFlags := 16409, slot := 2, constantValue := 0 }, { name := "WRITER_SHARED_TIMESTAMP", type := (.object "com/example/lucid_locks/lucidlocks/locks/LockMode"), accessFlags := 16409, slot := 3, constantValue := 0 }, { name := "MODES", type := (.array (.object "com/example/lucid_locks/lucidlocks/locks/LockMode")), accessFlags := 26, slot := 4, constantValue := 0 }, { name := "displayName", type := (.object "java/lang/String"), accessFlags := 18, slot := 3, constantValue := 0 }, { name := "sharedWithItself", type := .boolean, accessFlags := 18, slot := 4, constantValue := 0 }, { name := "$VALUES", type := (.array (.object "com/example/lucid_locks/lucidlocks/locks/LockMode")), accessFlags := 4122, slot := 5, constantValue := 0 }]
  methods := #[k6m0, k6m1]
  instanceTypes := #[(.object "java/lang/String"), .int, .int, (.object "java/lang/String"), .boolean]
  staticTypes := #[(.object "com/example/lucid_locks/lucidlocks/locks/LockMode"), (.object "com/example/lucid_locks/lucidlocks/locks/LockMode"), (.object "com/example/lucid_locks/lucidlocks/locks/LockMode"), (.object "com/example/lucid_locks/lucidlocks/locks/LockMode"), (.array (.object "com/example/lucid_locks/lucidlocks/locks/LockMode")), (.array (.object "com/example/lucid_locks/lucidlocks/locks/LockMode"))]
  resolved := Array.replicate 90 none
  statics := some 0 }

def pool7 : Array CpInfo := pool [(1, u "java/lang/Cloneable"), (0, .class_ 1), (0, u "java/lang/Object"), (0, .class_ 3)] 3

/-- java/lang/Cloneable -/
def k7 : Class := { plain "java/lang/Cloneable" (some 0) with
  accessFlags := 1537
  interfaces := #[]
  cf := some (fileOf pool7 2 #[] #[] 1537 4 #[] #[])
  fields := #[]
  methods := #[]
  instanceTypes := #[]
  staticTypes := #[]
  resolved := Array.replicate 8 none
  statics := none }

/-- the primitive byte -/
def k8 : Class := { plain "byte" none with kind := .primitive 'B', accessFlags := 0x411 }
/-- [B -/
def k9 : Class := { plain "[B" (some 0) with kind := .array 8 .byte, interfaces := #[7, 4], accessFlags := 1041 }

/-- the primitive int -/
def k10 : Class := { plain "int" none with kind := .primitive 'I', accessFlags := 0x411 }
/-- [I -/
def k11 : Class := { plain "[I" (some 0) with kind := .array 10 .int, interfaces := #[7, 4], accessFlags := 1041 }

/-- [Lcom/example/lucid_locks/lucidlocks/locks/LockMode; -/
def k12 : Class := { plain "[Lcom/example/lucid_locks/lucidlocks/locks/LockMode;" (some 0) with kind := .array 6 (.object "com/example/lucid_locks/lucidlocks/locks/LockMode"), interfaces := #[7, 4], accessFlags := 1041 }

def heap : Heap := #[{ cls := 6, slots := #[.ref 2, .ref 5, .ref 4, .ref 3, .ref 1, .null], vm := .statics 6 },
  { cls := 12, slots := #[.ref 2, .ref 5, .ref 4, .ref 3], vm := .none },
  { cls := 6, slots := #[.null, .int 0, .int 0, .null, .int 1], vm := .none },
  { cls := 6, slots := #[.null, .int 3, .int 0, .null, .int 0], vm := .none },
  { cls := 6, slots := #[.null, .int 2, .int 0, .null, .int 0], vm := .none },
  { cls := 6, slots := #[.null, .int 1, .int 0, .null, .int 1], vm := .none }]
def classes : Array Class := #[k0, k1, k2, k3, k4, k5, k6, k7, k8, k9, k10, k11, k12]
def interned : List (Array UInt16 × Addr) := []
def slotsUsed : Nat := 30
def theMethod : MethodId := ⟨1, 2⟩
def args0 : Array Value := #[.int 5, .int 7]
def aboutOver (below : List Frame) : State where
  vm := { classes := classes, interned := interned.toArray }
  heap := heap
  slotsUsed := slotsUsed
  threads := #[{ frames := .invoking theMethod args0 :: below }]
def below0 : List Frame := [.native { method := ⟨0, 0⟩, args := #[] }]
def about1 : State := aboutOver below0
def p0 : Program := .bare "" "" ""
def e0 : Env := launch0.env 0 0 0
theorem w_frames : about1.frames = Frame.invoking theMethod args0 :: below0 := rfl
set_option maxRecDepth 65536 in
theorem w_args : argsFit about1.vm theMethod args0 = true := by decide +kernel
set_option maxRecDepth 65536 in
theorem w_heap : heapFits about1 = true := by decide +kernel
set_option maxRecDepth 65536 in
theorem w_runnable : about1.curStatus? = some .runnable := by decide +kernel
set_option maxRecDepth 65536 in
theorem w_alone : about1.alone = true := by decide +kernel
set_option maxRecDepth 65536 in
theorem w_named : about1.methodNamed? x = some theMethod := by decide +kernel
set_option maxRecDepth 65536 in
theorem w_hears : about1.hears theMethod below0 = true := by decide +kernel
set_option maxRecDepth 65536 in
theorem w_ripe : about1.ripe theMethod args0 below0 = true := by decide +kernel
theorem w_running : about1.status = .running := rfl
set_option maxRecDepth 65536 in
theorem w_room : about1.hasRoom e0.platform room_1 = true :=
  launch0.hasRoom_least _ room_1 (by decide +kernel) (by decide +kernel) (by decide +kernel) (by decide +kernel) (by decide +kernel) (by decide +kernel)
theorem allAtoms_all (ts : List Jvm.Cond) (a : Array Jvm.Value) (st : Jvm.State) : (allAtoms ts).before a st = ts.all (fun c => c.before a st) := by
  induction ts with
  | nil => rfl
  | cons c t ih =>
    show (Jvm.Cond.and c (allAtoms t)).before a st = _
    rw [Jvm.Cond.before_and, ih, List.all_cons]
def words1 : List Jvm.Cond := Jvm.Cond.code x code maxLocals ret :: tables_1
/-- a 'code' word, met by the world's own term for the bytes: nothing is compared byte by byte -/
theorem code_word {y : MethodName} {bytes : ByteArray} {mx : Nat} {rt : Option FieldType} {a : Array Value} {s : State} {m : MethodId} {meth : Method} {c : Code} (h1 : s.methodNamed? y = some m) (h2 : s.vm.method? m = some meth) (h3 : meth.code = some c) (h4 : c.code = bytes)
    (h5 : (c.maxLocals == mx && c.exceptionTable.isEmpty && decide (c.maxStack ≤ mostOperands) && decide (meth.sig.returnType = rt) && !meth.locks && decide (parseMethodDescriptor y.desc = some meth.sig)) = true) : (Jvm.Cond.code y bytes mx rt).before a s = true := by
  simp only [Bool.and_eq_true, beq_iff_eq, Bool.not_eq_true', decide_eq_true_eq] at h5
  obtain ⟨⟨⟨⟨⟨g1, g2⟩, g3⟩, g4⟩, g5⟩, g6⟩ := h5
  simp [Cond.before, Cond.holds, Cond.value, h1, h2, h3, h4, g1, g2, g3, g4, g5, g6]
def isCode : Jvm.Cond → Bool
  | .code _ _ _ _ => true
  | _ => false
theorem all_split {L : List Jvm.Cond} {P : Jvm.Cond → Bool} (h1 : L.all (fun c => isCode c || P c) = true) (h2 : ∀ c ∈ L.filter isCode, P c = true) : L.all P = true := by
  refine List.all_eq_true.mpr fun c hc => ?_
  have h := List.all_eq_true.mp h1 c hc
  rcases Bool.eq_false_or_eq_true (isCode c) with hi | hi
  · exact h2 c (List.mem_filter.mpr ⟨hc, hi⟩)
  · simpa [hi] using h
set_option maxRecDepth 65536 in
theorem w_c0 : (Jvm.Cond.code x code maxLocals ret).before args0 about1 = true := code_word (m := ⟨1, 2⟩) (meth := k1m2) (c := k1c2) (by decide +kernel) rfl rfl rfl (by decide +kernel)
set_option maxRecDepth 65536 in
theorem w_c1 : (Jvm.Cond.code ({ cls := "com/example/lucid_locks/lucidlocks/locks/LockModeCoversPinLaw", name := "pick", desc := "(I)Lcom/example/lucid_locks/lucidlocks/locks/LockMode;" } : Jvm.MethodName) method_2_code (2 : Nat) (Option.some (Jvm.ClassFile.FieldType.object "com/example/lucid_locks/lucidlocks/locks/LockMode"))).before args0 about1 = true := code_word (m := ⟨1, 1⟩) (meth := k1m1) (c := k1c1) (by decide +kernel) rfl rfl rfl (by decide +kernel)
set_option maxRecDepth 65536 in
theorem w_c2 : (Jvm.Cond.code ({ cls := "com/example/lucid_locks/lucidlocks/locks/LockMode", name := "covers", desc := "(Lcom/example/lucid_locks/lucidlocks/locks/LockMode;)Z" } : Jvm.MethodName) prog_17_method_7_code (6 : Nat) (Option.some Jvm.ClassFile.FieldType.boolean)).before args0 about1 = true := code_word (m := ⟨6, 1⟩) (meth := k6m1) (c := k6c1) (by decide +kernel) rfl rfl rfl (by decide +kernel)
set_option maxRecDepth 65536 in
theorem w_c3 : (Jvm.Cond.code ({ cls := "com/example/lucid_locks/lucidlocks/locks/LockMode", name := "conflictsWith", desc := "(Lcom/example/lucid_locks/lucidlocks/locks/LockMode;)Z" } : Jvm.MethodName) prog_17_method_5_code (2 : Nat) (Option.some Jvm.ClassFile.FieldType.boolean)).before args0 about1 = true := code_word (m := ⟨6, 0⟩) (meth := k6m0) (c := k6c0) (by decide +kernel) rfl rfl rfl (by decide +kernel)
def codes1 : List Jvm.Cond := [Jvm.Cond.code x code maxLocals ret, Jvm.Cond.code ({ cls := "com/example/lucid_locks/lucidlocks/locks/LockModeCoversPinLaw", name := "pick", desc := "(I)Lcom/example/lucid_locks/lucidlocks/locks/LockMode;" } : Jvm.MethodName) method_2_code (2 : Nat) (Option.some (Jvm.ClassFile.FieldType.object "com/example/lucid_locks/lucidlocks/locks/LockMode")), Jvm.Cond.code ({ cls := "com/example/lucid_locks/lucidlocks/locks/LockMode", name := "covers", desc := "(Lcom/example/lucid_locks/lucidlocks/locks/LockMode;)Z" } : Jvm.MethodName) prog_17_method_7_code (6 : Nat) (Option.some Jvm.ClassFile.FieldType.boolean), Jvm.Cond.code ({ cls := "com/example/lucid_locks/lucidlocks/locks/LockMode", name := "conflictsWith", desc := "(Lcom/example/lucid_locks/lucidlocks/locks/LockMode;)Z" } : Jvm.MethodName) prog_17_method_5_code (2 : Nat) (Option.some Jvm.ClassFile.FieldType.boolean)]
set_option maxRecDepth 65536 in
theorem codes_eq : words1.filter isCode = codes1 := rfl
theorem w_codes : ∀ c ∈ words1.filter isCode, c.before args0 about1 = true := by
  rw [codes_eq]
  intro c hc
  simp only [codes1, List.mem_cons, List.not_mem_nil, or_false] at hc
  rcases hc with rfl | rfl | rfl | rfl
  · exact w_c0
  · exact w_c1
  · exact w_c2
  · exact w_c3
set_option maxRecDepth 65536 in
theorem w_t1 : (words1.take 24).all (fun c => isCode c || c.before args0 about1) = true := by decide +kernel
set_option maxRecDepth 65536 in
theorem w_t2 : (words1.drop 24).all (fun c => isCode c || c.before args0 about1) = true := by decide +kernel
theorem w_tables : (allAtoms (Jvm.Cond.code x code maxLocals ret :: tables_1)).before args0 about1 = true := by
  rw [allAtoms_all]
  show words1.all (fun c => c.before args0 about1) = true
  refine all_split ?_ w_codes
  rw [← List.take_append_drop 24 words1, List.all_append, w_t1, w_t2]
  rfl
set_option maxRecDepth 65536 in
theorem w_case : (Jvm.Cond.and given_1 narrow_1).before args0 about1 = true := by decide +kernel
theorem w_applies : (headSpec (Jvm.Cond.code x code maxLocals ret :: tables_1) room_1).applies x e0.platform about1 = true :=
  (Spec.applies_iff w_frames).mpr ⟨w_running, w_runnable, w_alone, w_named, w_hears, w_ripe, w_room, w_tables⟩
theorem atStart : AtStart classFile x code maxLocals ret World_1 tables_1 room_1 Calls_1 rest_1 Pre_1 launch0 p0 e0 about1 theMethod args0 below0 :=
  ⟨lists_1, trivial, launch0.admits_env _ _ _, launch0.least_env, fairChoices_fair.cas, fairChoices_fair.clock, w_frames, w_args, w_heap, w_applies, trivial, trivial, w_case⟩
end start1
theorem witness_1 : WitnessClaimed_1 := ⟨start1.p0, start1.e0, start1.about1, start1.theMethod, start1.args0, start1.below0, start1.atStart⟩
end Jvm.Pilot.@@N@@
