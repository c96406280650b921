import JvmDerived
import JvmDerived.Pilot.@@N@@Statement
import JvmDerived.Pilot.@@N@@Code
set_option linter.unusedVariables false
set_option linter.unusedSimpArgs false
namespace Jvm.RoadKit
open Sem ClassFile Op Lib Jvm.Stand Jvm.Free Jvm.LawKit
section New
variable {p : Program} {l : Launch} {e : Env} {R : Room} {s : State} {m : MethodId} {args : Array Value} {below : List Frame} {meth : Method} {c : Code} {T : State} {locs : List Loc} {cells slots : Nat}
theorem retI (X : Stand p l e R s m args below meth c T locs cells slots) (hx : p.tables.exec = Jvm.exec) {pc : Nat} {Ls : Array Slot} {z : Int32} {rest : List Value} (hret : meth.sig.returnType = some .int) (hd : decode c.code pc = .ok (.ireturn, 1)) {fs : List Frame}
    (hl : ∀ (f : JFrame) (acts : List Action), f.method = m → f.locked = none → f.entered = [] → (doReturn e (T.setTop f) acts (some (.int z))).1 = T.setFrames fs) : Steps p.tables e below (T.setTop (mkF m pc Ls (.int z :: rest))) (T.setFrames fs) := by
  have hm' : T.vm.method? m = some meth := X.method'
  have hn : narrow .int (.int z) = .int z := rfl
  show Steps p.tables e below (T.setTop { method := m, pc := pc, locals := Ls, stack := _ :: rest, locked := none }) _
  jvm_step X.here [X.here.top, hx, hd, hm', hret, hn]
  first | (intro acts; rw [hl _ acts rfl rfl rfl]) | rw [hl _ _ rfl rfl rfl]
  exact Steps.refl _
end New
end Jvm.RoadKit
namespace Jvm.Pilot.@@N@@
open Jvm Jvm.ClassFile Sem Op Lib Jvm.Free Jvm.Stand Jvm.LawKit Jvm.RoadKit Bundle Jvm.Pilot.@@N@@.Jvm.D
theorem tk {L : List Jvm.Cond} {d : Jvm.Cond} (i : Nat) (h : L[i]? = some d) : d ∈ L := List.mem_of_getElem? h
/-! own small facts: what the case says of a pinned static's field -/
theorem own_fld {args : Array Value} {s : State} {t : Term} {C n d : String} {w : Addr} {k : Int32} (ht : t.eval args s none [] s = some (.ref w)) (h : (Cond.eq (.field t C n d) (.int k)).value args s none s [] = some true) : Fld s s.heap w C n d (.int k) := by
  obtain ⟨x, y, hx, hy, -, kin⟩ := cmp_v (Or.inl h)
  obtain rfl : Value.int k = y := Option.some.inj hy
  obtain ⟨z, rfl⟩ := kin
  have e : z = k := by simpa [Cond.value, hx, hy] using h
  subst e
  exact Fld.start ((fld_at ht).symm.trans hx)
theorem own_fldN {args : Array Value} {s : State} {t : Term} {C n d : String} {w : Addr} (ht : t.eval args s none [] s = some (.ref w)) (h : (Cond.eq (.field t C n d) .null).value args s none s [] = some true) : Fld s s.heap w C n d .null :=
  Fld.start ((fld_at ht).symm.trans (null_v h))
theorem own_nsroot {Z : State} {a0 : Array Value} {O K : String} {n : Nat} (w : (Cond.noSuperclass O).before a0 Z = true) (wk : (Cond.instantiable K n).before a0 Z = true) (hn : O ≠ K) : NS Z O K := by
  obtain ⟨c, k, h1, h2, h3, -, -⟩ := Cond.noSuperclass_spec w
  obtain ⟨t, -, g1, -⟩ := Cond.instantiable_spec wk
  have ne := ids_ne h1 g1 hn
  refine ⟨c, t, h1, g1, fun fuel => ?_⟩
  cases fuel with
  | zero => rfl
  | succ f => simp [Vm.isSubclassAux, ne, h2, h3]
theorem own_nsno {Z : State} {a0 : Array Value} {C S K : String} {n : Nat} (w : (Cond.superclass C S).before a0 Z = true) (wk : (Cond.instantiable K n).before a0 Z = true) (ns : NS Z C K) (hn : C ≠ K) : ∃ c t, Z.vm.findClass C = some c ∧ Z.vm.findClass K = some t ∧ Z.vm.assignable c t = false := by
  obtain ⟨c, t, h0, g0, n3⟩ := ns
  obtain ⟨p, k, kp, h1, h2, h3, h4, h5, -, h7⟩ := Cond.superclass_spec h0 w
  obtain ⟨t', k', g1, g2, g3, g4, -⟩ := Cond.instantiable_spec wk
  cases g0.symm.trans g1
  have ne := ids_ne h0 g0 hn
  have g5 : k'.isInterface = false := (Bool.or_eq_false_iff.mp g4).1
  refine ⟨c, t, h0, g0, ?_⟩
  show Z.vm.assignableAux (255 + 1) c t = false
  simp [Vm.assignableAux, ne, h2, g2, h5, g3, g5, Vm.isSubclass, n3]
theorem own_nar {v : Value} {C : String} (h : v.isRef = true) : narrow (.object C) v = v := by rcases ref_cases h with rfl | ⟨a, rfl⟩ <;> rfl
theorem own_fit {v : Value} {C : String} (h : v.isRef = true) : fits (.object C) v = true := by rcases ref_cases h with rfl | ⟨a, rfl⟩ <;> rfl
theorem own_refof {v : Value} (h : v.isRef = true) (n : ¬ v = .null) : ∃ a, v = .ref a := (ref_cases h).elim (fun q => absurd q n) id
theorem own_sint {args : Array Value} {s : State} {t : Term} {k : Int32} (h : (Cond.eq t (.int k)).value args s none s [] = some true) : t.eval args s none [] s = some (.int k) := by
  obtain ⟨x, y, hx, hy, -, kin⟩ := cmp_v (Or.inl h)
  obtain rfl : Value.int k = y := Option.some.inj hy
  obtain ⟨z, rfl⟩ := kin
  have e : z = k := by simpa [Cond.value, hx, hy] using h
  subst e; exact hx
theorem own_snot {args : Array Value} {s : State} {t : Term} {k z : Int32} (ht : t.eval args s none [] s = some (.int z)) (h : (Cond.not (Cond.eq t (.int k))).value args s none s [] = some true) : ¬ z = k := by
  have := not_v h
  intro e
  subst e
  simp [Cond.value, ht, Term.eval] at this
theorem own_seq {args : Array Value} {s : State} {t u : Term} {a b : Addr} (ht : t.eval args s none [] s = some (.ref a)) (hu : u.eval args s none [] s = some (.ref b)) (h : (Cond.eq t u).value args s none s [] = some true) : b = a := by
  have e : a = b := by simpa [Cond.value, ht, hu] using h
  exact e.symm
theorem own_len {args : Array Value} {s : State} {t : Term} {a : Addr} {c : Cell} {ty : FieldType} {n : Int32} (ht : t.eval args s none [] s = some (.ref a)) (A : Arr s s.heap a c ty) (h : (Cond.eq (.length t) (.int n)).value args s none s [] = some true) : c.slots.size < 2 ^ 31 ∧ c.slots.size.toInt32 = n := by
  have e0 := own_sint h
  have hfin := A.fin (Vm.Alike.refl _)
  by_cases hl : c.slots.size < 2 ^ 31
  · rw [len_f ht hfin hl] at e0
    exact ⟨hl, Value.int.inj (Option.some.inj e0)⟩
  · exfalso
    simp [Term.eval, ht, hfin, hl] at e0
theorem own_elem {args : Array Value} {s : State} {t u : Term} {a w : Addr} {c : Cell} {i : Int32} (ht : t.eval args s none [] s = some (.ref a)) (hc : s.heap[a]? = some c) (hu : u.eval args s none [] s = some (.ref w)) (h : (Cond.eq (.elem t (.int i)) u).value args s none s [] = some true) : c.slots[i.toNatClampNeg]? = some (.ref w) := by
  obtain ⟨x, y, hx, hy, k1, k2⟩ := cmp_v (Or.inl h)
  obtain rfl : Value.ref w = y := Option.some.inj (hu.symm.trans hy)
  have e := gotT (eq_R hx hu k2.2 rfl) h
  rw [e] at hx
  exact (elem_in hx ht (Term.int_eval i) hc).2
theorem own_ldcF {p : Program} {l : Launch} {e : Env} {R : Room} {s : State} {m : MethodId} {args : Array Value} {below : List Frame} {meth : Method} {c : Code} {T : State} {locs : List Loc} {cells slots : Nat}
    (X : Stand p l e R s m args below meth c T locs cells slots) (hx : p.tables.exec = Jvm.exec) {own : String} {index : Nat} {b : UInt32} (hown : s.vm.findClass own = some m.cls) (w : (Cond.constantFloat own index b).before args s = true) {g : JFrame} (hg : g.method = m) (hd : decode c.code g.pc = .ok (.ldc index, 2)) :
    ∀ target, Steps p.tables e below (T.setTop { g with pc := g.pc + 2, stack := .float b :: g.stack }) target → Steps p.tables e below (T.setTop g) target := by
  obtain ⟨k, cf, h1, h2, h3⟩ := Cond.constantFloat_spec hown w
  exact X.ldcFloat hx h1 h2 h3 hg hd
theorem own_old {Z : State} {n0 : Nat} {h : Heap} (O : Old Z n0 h) : n0 ≤ h.size := O.1 ▸ O.2.1
theorem own_rand (x m : Int32) (n : Int) (h0 : 0 ≤ m.toInt) (h1 : m.toInt < n) : 0 ≤ (x &&& m).toInt ∧ (x &&& m).toInt < n := by
  have := c_and x m h0; omega
theorem own_rrem (x y : Int32) (n : Int) (h0 : 0 ≤ x.toInt) (hy : y.toInt = n) (hn : 0 < n) : 0 ≤ (x % y).toInt ∧ (x % y).toInt < n := by
  rw [(c_irem x y n hy).1 h0]; exact ⟨Int.emod_nonneg _ (by omega), Int.emod_lt_of_pos _ hn⟩
theorem own_rshr (x q : Int32) (k : Nat) (m : Int) {n : Int} (r : 0 ≤ x.toInt ∧ x.toInt < n) (hk : q.toBitVec.toNat % 32 = k) (hm : (n - 1) / ((2 ^ k : Nat) : Int) < m) : 0 ≤ (x >>> (q &&& 31)).toInt ∧ (x >>> (q &&& 31)).toInt < m := by
  rw [c_ishr x q k hk]
  have hp : (0 : Int) < ((2 ^ k : Nat) : Int) := by exact_mod_cast Nat.two_pow_pos k
  exact ⟨Int.ediv_nonneg r.1 (Int.le_of_lt hp), Int.lt_of_le_of_lt (Int.ediv_le_ediv hp (by omega)) hm⟩
theorem own_off {e c : Int32} {n : Int} (r : 0 ≤ e.toInt ∧ e.toInt < n) (h : decide (n ≤ c.toInt ∨ c.toInt < 0) = true) : ¬ e = c := fun z => by
  subst z
  have := of_decide_eq_true h
  omega
theorem own_below {e c : Int32} {n : Int} (r : 0 ≤ e.toInt ∧ e.toInt < n) (h : n ≤ c.toInt) : e < c := by rw [Int32.lt_iff_toInt_lt]; omega
theorem own_notbelow {e c : Int32} {n : Int} (r : 0 ≤ e.toInt ∧ e.toInt < n) (h : c.toInt ≤ 0) : ¬ e < c := by rw [Int32.lt_iff_toInt_lt]; omega
theorem own_notabove {e c : Int32} {n : Int} (r : 0 ≤ e.toInt ∧ e.toInt < n) (h : n - 1 ≤ c.toInt) : ¬ c < e := by rw [Int32.lt_iff_toInt_lt]; omega
theorem own_above {e c : Int32} {n : Int} (r : 0 ≤ e.toInt ∧ e.toInt < n) (h : c.toInt < 0) : c < e := by rw [Int32.lt_iff_toInt_lt]; omega
theorem own_lt {a b : Int32} {n : Int} (h : a < b) (e : b.toInt = n) : a.toInt < n := by rw [← e]; exact Int32.lt_iff_toInt_lt.mp h
theorem own_ne {a b : Int32} {n : Int} (h : ¬ a = b) (e : b.toInt = n) : a.toInt ≠ n := fun z => h (Int32.toInt_inj.mp (z.trans e.symm))
theorem own_eq {a b : Int32} {n : Int} (e : b.toInt = n) (h : a.toInt = n) : a = b := Int32.toInt_inj.mp (h.trans e.symm)
theorem d1_0 : decode prog_17_method_6_code 0 = .ok (.aload_n 1, 1) := by decide +kernel
theorem d1_1 : decode prog_17_method_6_code 1 = .ok (.aload_n 0, 1) := by decide +kernel
theorem d1_2 : decode prog_17_method_6_code 2 = .ok (.invokevirtual 43, 3) := by decide +kernel
theorem d2_0 : decode prog_17_method_7_code 0 = .ok (.getstatic 47, 3) := by decide +kernel
theorem d2_3 : decode prog_17_method_7_code 3 = .ok (.astore_n 2, 1) := by decide +kernel
theorem d2_4 : decode prog_17_method_7_code 4 = .ok (.aload_n 2, 1) := by decide +kernel
theorem d2_5 : decode prog_17_method_7_code 5 = .ok (.arraylength, 1) := by decide +kernel
theorem d2_6 : decode prog_17_method_7_code 6 = .ok (.istore_n 3, 1) := by decide +kernel
theorem d2_7 : decode prog_17_method_7_code 7 = .ok (.iconst 0, 1) := by decide +kernel
theorem d2_8 : decode prog_17_method_7_code 8 = .ok (.istore 4, 2) := by decide +kernel
theorem d2_10 : decode prog_17_method_7_code 10 = .ok (.iload 4, 2) := by decide +kernel
theorem d2_12 : decode prog_17_method_7_code 12 = .ok (.iload_n 3, 1) := by decide +kernel
theorem d2_13 : decode prog_17_method_7_code 13 = .ok (.if_icmp .ge 35, 3) := by decide +kernel
theorem d2_16 : decode prog_17_method_7_code 16 = .ok (.aload_n 2, 1) := by decide +kernel
theorem d2_17 : decode prog_17_method_7_code 17 = .ok (.iload 4, 2) := by decide +kernel
theorem d2_19 : decode prog_17_method_7_code 19 = .ok (.aaload, 1) := by decide +kernel
theorem d2_20 : decode prog_17_method_7_code 20 = .ok (.astore 5, 2) := by decide +kernel
theorem d2_22 : decode prog_17_method_7_code 22 = .ok (.aload_n 1, 1) := by decide +kernel
theorem d2_23 : decode prog_17_method_7_code 23 = .ok (.aload 5, 2) := by decide +kernel
theorem d2_25 : decode prog_17_method_7_code 25 = .ok (.invokevirtual 50, 3) := by decide +kernel
theorem d3_0 : decode prog_17_method_5_code 0 = .ok (.aload_n 0, 1) := by decide +kernel
theorem d3_1 : decode prog_17_method_5_code 1 = .ok (.aload_n 1, 1) := by decide +kernel
theorem d3_2 : decode prog_17_method_5_code 2 = .ok (.if_acmp .ne 10, 3) := by decide +kernel
theorem d3_5 : decode prog_17_method_5_code 5 = .ok (.aload_n 0, 1) := by decide +kernel
theorem d3_6 : decode prog_17_method_5_code 6 = .ok (.getfield 39, 3) := by decide +kernel
theorem d3_9 : decode prog_17_method_5_code 9 = .ok (.ifCond .ne 7, 3) := by decide +kernel
theorem d3_12 : decode prog_17_method_5_code 12 = .ok (.iconst 1, 1) := by decide +kernel
theorem d3_13 : decode prog_17_method_5_code 13 = .ok (.goto 4, 3) := by decide +kernel
theorem d3_17 : decode prog_17_method_5_code 17 = .ok (.ireturn, 1) := by decide +kernel
theorem d3_16 : decode prog_17_method_5_code 16 = .ok (.iconst 0, 1) := by decide +kernel
abbrev Y0 : MethodName := (⟨"com/example/lucid_locks/lucidlocks/locks/LockMode", "conflictsWith", "(Lcom/example/lucid_locks/lucidlocks/locks/LockMode;)Z"⟩ : MethodName)
theorem pd_0 : parseMethodDescriptor "(Lcom/example/lucid_locks/lucidlocks/locks/LockMode;)Z" = some ⟨[(.object "com/example/lucid_locks/lucidlocks/locks/LockMode")], some .boolean⟩ := by decide +kernel
theorem d2_28 : decode prog_17_method_7_code 28 = .ok (.ifCond .eq 14, 3) := by decide +kernel
theorem d2_42 : decode prog_17_method_7_code 42 = .ok (.iinc 4 1, 3) := by decide +kernel
theorem d2_45 : decode prog_17_method_7_code 45 = .ok (.goto (-35), 3) := by decide +kernel
theorem d2_31 : decode prog_17_method_7_code 31 = .ok (.aload_n 0, 1) := by decide +kernel
theorem d2_32 : decode prog_17_method_7_code 32 = .ok (.aload 5, 2) := by decide +kernel
theorem d2_34 : decode prog_17_method_7_code 34 = .ok (.invokevirtual 50, 3) := by decide +kernel
theorem d2_37 : decode prog_17_method_7_code 37 = .ok (.ifCond .ne 5, 3) := by decide +kernel
theorem d2_48 : decode prog_17_method_7_code 48 = .ok (.iconst 1, 1) := by decide +kernel
theorem d2_49 : decode prog_17_method_7_code 49 = .ok (.ireturn, 1) := by decide +kernel
abbrev Y1 : MethodName := (⟨"com/example/lucid_locks/lucidlocks/locks/LockMode", "covers", "(Lcom/example/lucid_locks/lucidlocks/locks/LockMode;)Z"⟩ : MethodName)
theorem d1_5 : decode prog_17_method_6_code 5 = .ok (.ifCond .eq 7, 3) := by decide +kernel
theorem d1_8 : decode prog_17_method_6_code 8 = .ok (.aload_n 1, 1) := by decide +kernel
theorem d1_9 : decode prog_17_method_6_code 9 = .ok (.goto 6, 3) := by decide +kernel
theorem d1_15 : decode prog_17_method_6_code 15 = .ok (.areturn, 1) := by decide +kernel
abbrev Y2 : MethodName := (⟨"com/example/lucid_locks/lucidlocks/locks/LockMode", "combinedWith", "(Lcom/example/lucid_locks/lucidlocks/locks/LockMode;)Lcom/example/lucid_locks/lucidlocks/locks/LockMode;"⟩ : MethodName)
theorem pd_1 : parseMethodDescriptor "(Lcom/example/lucid_locks/lucidlocks/locks/LockMode;)Lcom/example/lucid_locks/lucidlocks/locks/LockMode;" = some ⟨[(.object "com/example/lucid_locks/lucidlocks/locks/LockMode")], some (.object "com/example/lucid_locks/lucidlocks/locks/LockMode")⟩ := by decide +kernel
theorem d2_40 : decode prog_17_method_7_code 40 = .ok (.iconst 0, 1) := by decide +kernel
theorem d2_41 : decode prog_17_method_7_code 41 = .ok (.ireturn, 1) := by decide +kernel
theorem d1_12 : decode prog_17_method_6_code 12 = .ok (.getstatic 10, 3) := by decide +kernel

def StF (Z : State) (w_1 : Addr) (w_2 : Addr) (w_3 : Addr) (w_4 : Addr) (w_5 : Addr) (k_5 : ClassId) : Prop :=
  Sta Z Z.heap "com/example/lucid_locks/lucidlocks/locks/LockMode" "READER_SHARED" "Lcom/example/lucid_locks/lucidlocks/locks/LockMode;" (.ref w_1) ∧
  Exa Z Z.heap w_1 "com/example/lucid_locks/lucidlocks/locks/LockMode" ∧
  Sta Z Z.heap "com/example/lucid_locks/lucidlocks/locks/LockMode" "WRITER_SHARED" "Lcom/example/lucid_locks/lucidlocks/locks/LockMode;" (.ref w_2) ∧
  Exa Z Z.heap w_2 "com/example/lucid_locks/lucidlocks/locks/LockMode" ∧
  Sta Z Z.heap "com/example/lucid_locks/lucidlocks/locks/LockMode" "EXCLUSIVE" "Lcom/example/lucid_locks/lucidlocks/locks/LockMode;" (.ref w_3) ∧
  Exa Z Z.heap w_3 "com/example/lucid_locks/lucidlocks/locks/LockMode" ∧
  Sta Z Z.heap "com/example/lucid_locks/lucidlocks/locks/LockMode" "WRITER_SHARED_TIMESTAMP" "Lcom/example/lucid_locks/lucidlocks/locks/LockMode;" (.ref w_4) ∧
  Exa Z Z.heap w_4 "com/example/lucid_locks/lucidlocks/locks/LockMode" ∧
  Sta Z Z.heap "com/example/lucid_locks/lucidlocks/locks/LockMode" "MODES" "[Lcom/example/lucid_locks/lucidlocks/locks/LockMode;" (.ref w_5) ∧
  Fld Z Z.heap w_1 "com/example/lucid_locks/lucidlocks/locks/LockMode" "sharedWithItself" "Z" (.int (1 : Int32)) ∧
  Fld Z Z.heap w_1 "java/lang/Enum" "ordinal" "I" (.int (0 : Int32)) ∧
  Fld Z Z.heap w_2 "java/lang/Enum" "ordinal" "I" (.int (1 : Int32)) ∧
  Fld Z Z.heap w_4 "java/lang/Enum" "ordinal" "I" (.int (3 : Int32)) ∧
  Fld Z Z.heap w_3 "java/lang/Enum" "ordinal" "I" (.int (2 : Int32)) ∧
  Fld Z Z.heap w_4 "com/example/lucid_locks/lucidlocks/locks/LockMode" "sharedWithItself" "Z" (.int (0 : Int32)) ∧
  Fld Z Z.heap w_2 "com/example/lucid_locks/lucidlocks/locks/LockMode" "sharedWithItself" "Z" (.int (1 : Int32)) ∧
  Fld Z Z.heap w_3 "com/example/lucid_locks/lucidlocks/locks/LockMode" "sharedWithItself" "Z" (.int (0 : Int32)) ∧
  Arv Z Z.heap w_5 k_5 (.object "com/example/lucid_locks/lucidlocks/locks/LockMode") (4 : Int32) [(.ref w_1), (.ref w_2), (.ref w_3), (.ref w_4)] .null
theorem pn_3 : plainName "com/example/lucid_locks/lucidlocks/locks/LockMode" = true := by first | (simp [plainName, overriddenIn]; done) | decide +kernel
theorem ef_3 (m : MethodId) (r0 : Addr) (r1 : Addr) : entryFrame m #[(.ref r0), (.ref r1)] 2 = mkF m 0 #[.val (.ref r0), .val (.ref r1)] [] := by first | (simp [entryFrame, mkF, argsToLocals, Value.category]; done) | rfl
def sp3 (r0 : Addr) (r1 : Addr) (f_sharedWithItself_r0 : Int32) : Int32 := (if r0 = r1 then (if f_sharedWithItself_r0 = (0 : Int32) then (1 : Int32) else (0 : Int32)) else (1 : Int32))
def Q3 (Z : State) (w_1 : Addr) (w_2 : Addr) (w_3 : Addr) (w_4 : Addr) (w_5 : Addr) (k_5 : ClassId) (r0 : Addr) (r1 : Addr) (f_sharedWithItself_r0 : Int32) (h0 : Heap) (n0 : Nat) (v : Option Value) (h : Heap) (L : List Loc) : Prop := v = some (.int (sp3 r0 r1 f_sharedWithItself_r0)) ∧ Fr n0 L ∧ h = h0
set_option maxRecDepth 65536 in
set_option maxHeartbeats 40000000 in
theorem rm3 (l : Launch) (Z : State) (a0 : Array Value) (hw : ∀ d ∈ tables_1, d.before a0 Z = true) (ws : List Jvm.Cond) (w_1 : Addr) (w_2 : Addr) (w_3 : Addr) (w_4 : Addr) (w_5 : Addr) (k_5 : ClassId) (hS : StF Z w_1 w_2 w_3 w_4 w_5 k_5) (r0 : Addr) (r1 : Addr) (f_sharedWithItself_r0 : Int32) (h0 : Heap) (n0 : Nat) (O0 : Old Z n0 h0) (F_sharedWithItself_r0 : Fld Z h0 r0 "com/example/lucid_locks/lucidlocks/locks/LockMode" "sharedWithItself" "Z" (.int f_sharedWithItself_r0)) :
    MetFree l Y0 (head1 (Jvm.Cond.code Y0 prog_17_method_5_code 2 (some .boolean) :: ws) ({ frames := 0, cells := 0, slots := 0, locals := 0 } : Room)) (fun a U => a = #[(.ref r0), (.ref r1)] ∧ Z.Warmed39 U.vm ∧ U.heap = h0) (fun _ _ _ _ _ => True) (fun _ U o U' => ∃ v L, o = .returned v ∧ Q3 Z w_1 w_2 w_3 w_4 w_5 k_5 r0 r1 f_sharedWithItself_r0 h0 n0 v U'.heap L ∧ FrameEnd U o U' L ({ frames := 0, cells := 0, slots := 0, locals := 0 } : Room).cells ({ frames := 0, cells := 0, slots := 0, locals := 0 } : Room).slots) := by
  refine MetFree.of_bodySF (plainFor_of_name pn_3) hisR ?_
  intro p e s m args below meth c s₁ Bd hml0 hP hK
  obtain ⟨rfl, hZ, hh⟩ := hP
  have hx := Bd.exec
  have hby := Bd.bytes
  have hml : c.maxLocals = 2 := hml0
  have hown : s.vm.findClass "com/example/lucid_locks/lucidlocks/locks/LockMode" = some m.cls := findClass_of_methodNamed Bd.named
  have hnm := (name_of_methodNamed Bd.named Bd.method).1
  have X0 : Stand p l e ({ frames := 0, cells := 0, slots := 0, locals := 0 } : Room) s m #[(.ref r0), (.ref r1)] below meth c s₁ [] 0 0 := Stand.of_body Bd
  have e0 : s₁.heap = h0 := by rw [← hh, Bd.state]; rfl
  have N0 := Fr.nil n0
  have hS0 := hS
  obtain ⟨S_1, E_1, S_2, E_2, S_3, E_3, S_4, E_4, S_5, F_1_sharedWithItself, F_1_ordinal, F_2_ordinal, F_4_ordinal, F_3_ordinal, F_4_sharedWithItself, F_2_sharedWithItself, F_3_sharedWithItself, V_5⟩ := hS
  have pre0 : ∀ t, Steps p.tables e below (s₁.setTop (mkF m 0 #[.val (.ref r0), .val (.ref r1)] [])) t → Steps p.tables e below (s₁.setTop (entryFrame m #[(.ref r0), (.ref r1)] 2)) t := fun t k => castTop (ef_3 m r0 r1) k
  have pre57 : ∀ t, Steps p.tables e below (s₁.setTop (mkF m 2 #[.val (.ref r0), .val (.ref r1)] [(.ref r1), (.ref r0)])) t → Steps p.tables e below (s₁.setTop (entryFrame m #[(.ref r0), (.ref r1)] 2)) t := fun t kt => by
    refine pre0 t ?_
    show Steps p.tables e below (s₁.setTop (mkF m 0 #[.val (.ref r0), .val (.ref r1)] [])) _
    refine XS.aloadN X0.here hx rfl (hb hby d3_0) rfl rfl ?_
    show Steps p.tables e below (s₁.setTop (mkF m 1 #[.val (.ref r0), .val (.ref r1)] [(.ref r0)])) _
    refine XS.aloadN X0.here hx rfl (hb hby d3_1) rfl rfl ?_
    show Steps p.tables e below (s₁.setTop (mkF m 2 #[.val (.ref r0), .val (.ref r1)] [(.ref r1), (.ref r0)])) _
    exact kt
  by_cases hc58 : r0 = r1
  · obtain ⟨T59, X59, e59, st59⟩ := getF X0 hx hZ hown (host := "") (Or.inl (hw _ (tk 29 rfl))) Via.refl e0 F_sharedWithItself_r0 (g := (mkF m 6 #[.val (.ref r0), .val (.ref r1)] [(.ref r0)])) rfl rfl (hb hby d3_6)
    have pre60 : ∀ t, Steps p.tables e below (T59.setTop (mkF m 9 #[.val (.ref r0), .val (.ref r1)] [(.int f_sharedWithItself_r0)])) t → Steps p.tables e below (s₁.setTop (entryFrame m #[(.ref r0), (.ref r1)] 2)) t := fun t kt => by
      refine pre57 t ?_
      show Steps p.tables e below (s₁.setTop (mkF m 2 #[.val (.ref r0), .val (.ref r1)] [(.ref r1), (.ref r0)])) _
      refine Jvm.RoadKit.acmp (g := (mkF m 2 #[.val (.ref r0), .val (.ref r1)] [(.ref r1), (.ref r0)])) X0 hx rfl rfl rfl (pc0 := 2) (pc' := 5) (same := true) rfl (hb hby d3_2) rfl (decide_eq_true (congrArg Value.ref hc58)) (by decide) (by decide) ?_
      show Steps p.tables e below (s₁.setTop (mkF m 5 #[.val (.ref r0), .val (.ref r1)] [])) _
      refine XS.aloadN X0.here hx rfl (hb hby d3_5) rfl rfl ?_
      show Steps p.tables e below (s₁.setTop (mkF m 6 #[.val (.ref r0), .val (.ref r1)] [(.ref r0)])) _
      refine st59 _ ?_
      show Steps p.tables e below (T59.setTop (mkF m 9 #[.val (.ref r0), .val (.ref r1)] [(.int f_sharedWithItself_r0)])) _
      exact kt
    by_cases hc61 : f_sharedWithItself_r0 = (0 : Int32)
    · obtain ⟨fs, hr, hrun, hended, hW, hsame⟩ := X59.leave (v := some (.int (1 : Int32))) (fun h => by rw [Bd.returns] at h; cases h)
      refine ⟨_, _, pre60 _ ?_, hrun, hended, _, _, rfl, ?_, ⟨_, rfl⟩, hW, hsame.mono (by decide) (by decide)⟩
      · show Steps p.tables e below (T59.setTop (mkF m 9 #[.val (.ref r0), .val (.ref r1)] [(.int f_sharedWithItself_r0)])) _
        refine XS.ifNo X59.here hx rfl (hb hby d3_9) rfl ((if0 _ _).trans (teq hc61).2) ?_
        show Steps p.tables e below (T59.setTop (mkF m 12 #[.val (.ref r0), .val (.ref r1)] [])) _
        refine XS.iconst X59.here hx rfl (hb hby d3_12) ?_
        show Steps p.tables e below (T59.setTop (mkF m 13 #[.val (.ref r0), .val (.ref r1)] [(.int (1 : Int32))])) _
        refine XS.goto X59.here hx rfl (pc0 := 13) (pc' := 17) rfl (hb hby d3_13) (by decide) (by decide) ?_
        show Steps p.tables e below (T59.setTop (mkF m 17 #[.val (.ref r0), .val (.ref r1)] [(.int (1 : Int32))])) _
        exact retN X59 hx (t := .boolean) Bd.returns (by simp) (hb hby d3_17) hr
      · show Q3 Z w_1 w_2 w_3 w_4 w_5 k_5 r0 r1 f_sharedWithItself_r0 h0 n0 _ T59.heap _
        rw [e59]
        exact ⟨by unfold sp3; rw [if_pos hc58, if_pos hc61], N0, rfl⟩
    · obtain ⟨fs, hr, hrun, hended, hW, hsame⟩ := X59.leave (v := some (.int (0 : Int32))) (fun h => by rw [Bd.returns] at h; cases h)
      refine ⟨_, _, pre60 _ ?_, hrun, hended, _, _, rfl, ?_, ⟨_, rfl⟩, hW, hsame.mono (by decide) (by decide)⟩
      · show Steps p.tables e below (T59.setTop (mkF m 9 #[.val (.ref r0), .val (.ref r1)] [(.int f_sharedWithItself_r0)])) _
        refine XS.ifYes X59.here hx rfl (pc0 := 9) (pc' := 16) rfl (hb hby d3_9) rfl ((if0 _ _).trans (feq hc61).2) (by decide) (by decide) ?_
        show Steps p.tables e below (T59.setTop (mkF m 16 #[.val (.ref r0), .val (.ref r1)] [])) _
        refine XS.iconst X59.here hx rfl (hb hby d3_16) ?_
        show Steps p.tables e below (T59.setTop (mkF m 17 #[.val (.ref r0), .val (.ref r1)] [(.int (0 : Int32))])) _
        exact retN X59 hx (t := .boolean) Bd.returns (by simp) (hb hby d3_17) hr
      · show Q3 Z w_1 w_2 w_3 w_4 w_5 k_5 r0 r1 f_sharedWithItself_r0 h0 n0 _ T59.heap _
        rw [e59]
        exact ⟨by unfold sp3; rw [if_pos hc58, if_neg hc61], N0, rfl⟩
  · obtain ⟨fs, hr, hrun, hended, hW, hsame⟩ := X0.leave (v := some (.int (1 : Int32))) (fun h => by rw [Bd.returns] at h; cases h)
    refine ⟨_, _, pre57 _ ?_, hrun, hended, _, _, rfl, ?_, ⟨_, rfl⟩, hW, hsame.mono (by decide) (by decide)⟩
    · show Steps p.tables e below (s₁.setTop (mkF m 2 #[.val (.ref r0), .val (.ref r1)] [(.ref r1), (.ref r0)])) _
      refine Jvm.RoadKit.acmp (g := (mkF m 2 #[.val (.ref r0), .val (.ref r1)] [(.ref r1), (.ref r0)])) X0 hx rfl rfl rfl (pc0 := 2) (pc' := 12) (same := false) rfl (hb hby d3_2) rfl (decide_eq_false fun q => hc58 (Value.ref.inj q)) (by decide) (by decide) ?_
      show Steps p.tables e below (s₁.setTop (mkF m 12 #[.val (.ref r0), .val (.ref r1)] [])) _
      refine XS.iconst X0.here hx rfl (hb hby d3_12) ?_
      show Steps p.tables e below (s₁.setTop (mkF m 13 #[.val (.ref r0), .val (.ref r1)] [(.int (1 : Int32))])) _
      refine XS.goto X0.here hx rfl (pc0 := 13) (pc' := 17) rfl (hb hby d3_13) (by decide) (by decide) ?_
      show Steps p.tables e below (s₁.setTop (mkF m 17 #[.val (.ref r0), .val (.ref r1)] [(.int (1 : Int32))])) _
      exact retN X0 hx (t := .boolean) Bd.returns (by simp) (hb hby d3_17) hr
    · show Q3 Z w_1 w_2 w_3 w_4 w_5 k_5 r0 r1 f_sharedWithItself_r0 h0 n0 _ s₁.heap _
      rw [e0]
      exact ⟨by unfold sp3; rw [if_neg hc58], N0, rfl⟩
theorem pn_2x1 : plainName "com/example/lucid_locks/lucidlocks/locks/LockMode" = true := by first | (simp [plainName, overriddenIn]; done) | decide +kernel
theorem ef_2x1 (m : MethodId) (w_1 : Addr) : entryFrame m #[(.ref w_1), (.ref w_1)] 6 = mkF m 0 #[.val (.ref w_1), .val (.ref w_1), .unset, .unset, .unset, .unset] [] := by first | (simp [entryFrame, mkF, argsToLocals, Value.category]; done) | rfl
def sp2x1  : Int32 := (1 : Int32)
def Q2x1 (Z : State) (w_1 : Addr) (w_2 : Addr) (w_3 : Addr) (w_4 : Addr) (w_5 : Addr) (k_5 : ClassId) (h0 : Heap) (n0 : Nat) (v : Option Value) (h : Heap) (L : List Loc) : Prop := v = some (.int (sp2x1)) ∧ Fr n0 L ∧ h = h0
set_option maxRecDepth 65536 in
set_option maxHeartbeats 40000000 in
theorem rm2x1 (l : Launch) (Z : State) (a0 : Array Value) (hw : ∀ d ∈ tables_1, d.before a0 Z = true) (ws : List Jvm.Cond) (w_1 : Addr) (w_2 : Addr) (w_3 : Addr) (w_4 : Addr) (w_5 : Addr) (k_5 : ClassId) (hS : StF Z w_1 w_2 w_3 w_4 w_5 k_5) (h0 : Heap) (n0 : Nat) (O0 : Old Z n0 h0) :
    MetFree l Y1 (head1 (Jvm.Cond.code Y1 prog_17_method_7_code 6 (some .boolean) :: ws) ({ frames := 1, cells := 0, slots := 0, locals := 13 } : Room)) (fun a U => a = #[(.ref w_1), (.ref w_1)] ∧ Z.Warmed39 U.vm ∧ U.heap = h0) (fun _ _ _ _ _ => True) (fun _ U o U' => ∃ v L, o = .returned v ∧ Q2x1 Z w_1 w_2 w_3 w_4 w_5 k_5 h0 n0 v U'.heap L ∧ FrameEnd U o U' L ({ frames := 1, cells := 0, slots := 0, locals := 13 } : Room).cells ({ frames := 1, cells := 0, slots := 0, locals := 13 } : Room).slots) := by
  refine MetFree.of_bodySF (plainFor_of_name pn_2x1) hisR ?_
  intro p e s m args below meth c s₁ Bd hml0 hP hK
  obtain ⟨rfl, hZ, hh⟩ := hP
  have hx := Bd.exec
  have hby := Bd.bytes
  have hml : c.maxLocals = 6 := hml0
  have hown : s.vm.findClass "com/example/lucid_locks/lucidlocks/locks/LockMode" = some m.cls := findClass_of_methodNamed Bd.named
  have hnm := (name_of_methodNamed Bd.named Bd.method).1
  have X0 : Stand p l e ({ frames := 1, cells := 0, slots := 0, locals := 13 } : Room) s m #[(.ref w_1), (.ref w_1)] below meth c s₁ [] 0 0 := Stand.of_body Bd
  have e0 : s₁.heap = h0 := by rw [← hh, Bd.state]; rfl
  have N0 := Fr.nil n0
  have hS0 := hS
  obtain ⟨S_1, E_1, S_2, E_2, S_3, E_3, S_4, E_4, S_5, F_1_sharedWithItself, F_1_ordinal, F_2_ordinal, F_4_ordinal, F_3_ordinal, F_4_sharedWithItself, F_2_sharedWithItself, F_3_sharedWithItself, V_5⟩ := hS
  have pre0 : ∀ t, Steps p.tables e below (s₁.setTop (mkF m 0 #[.val (.ref w_1), .val (.ref w_1), .unset, .unset, .unset, .unset] [])) t → Steps p.tables e below (s₁.setTop (entryFrame m #[(.ref w_1), (.ref w_1)] 6)) t := fun t k => castTop (ef_2x1 m w_1) k
  obtain ⟨T54, X54, e54, st54⟩ := getS2 X0 hx hZ hown (host := "") (Or.inl (hw _ (tk 22 rfl))) Via.refl e0 (S_5.ext O0.2) (g := (mkF m 0 #[.val (.ref w_1), .val (.ref w_1), .unset, .unset, .unset, .unset] [])) rfl (hb hby d2_0)
  obtain ⟨cl55, Ar55, qa55, Sa55, Ma55, Ha55, Ga55⟩ := id (V_5.ext O0.2)
  obtain ⟨cl56, Ar56, qa56, Sa56, Ma56, Ha56, Ga56⟩ := id (V_5.ext O0.2)
  have hin56 : ¬ ((0 : Int32) < 0 ∨ cl56.slots.size ≤ ((0 : Int32)).toNatClampNeg) := by  exact inb_of Sa56 ⟨by decide, by decide⟩
  have hat56 : cl56.slots[((0 : Int32)).toNatClampNeg]? = some (.ref w_1) := Has.at Ha56 hin56 (by rfl)
  obtain ⟨cq62, kq62, q62a, q62b, q62c⟩ := isOf hZ e54 (E_1.ext O0.2)
  obtain ⟨_, _, ⟨T62, L62, k62, n62⟩, -, X62, ⟨Lc62, hQ62, l62, y62, z62⟩, st62⟩ := X54.virtualBack hx (y := Y0) (z := Y0) hown (mvT hZ (hw _ (tk 24 rfl))) (mvT hZ (hw _ (tk 25 rfl))) (notFace_of_selects (args := #[]) (mvT hZ (hw _ (tk 27 rfl)))) (mvT hZ (hw _ (tk 27 rfl))) (mvT hZ (hw _ (tk 26 rfl))) (by decide) (backOf (W := 0) (rm3 l Z a0 hw [] w_1 w_2 w_3 w_4 w_5 k_5 hS0 w_1 w_1 (1 : Int32) h0 n0 O0 (F_1_sharedWithItself.ext O0.2)) hZ (hw _ (tk 28 rfl)) (hw _ (tk 3 rfl)) (by decide) (by decide)) q62a q62c (g := (mkF m 25 #[.val (.ref w_1), .val (.ref w_1), .val (.ref w_5), .val (.int (4 : Int32)), .val (.int (0 : Int32)), .val (.ref w_1)] [(.ref w_1), (.ref w_1)])) rfl (by rw [hml]; rfl) (Steps.refl _) (argsL := [(.ref w_1)]) (rest := []) (lenOf pd_0 rfl) rfl (by show 2 * 0 + _ ≤ _; exact Nat.le_of_eq rfl) (hb hby d2_25) (fun _ _ => ⟨rfl, e54, (by decide : 0 + 0 ≤ _), (by decide : 0 + 0 ≤ _)⟩)
  dsimp only [Pt.U, Pt.locs, Pt.cells, Pt.slots] at X62 l62 y62 z62 st62 hQ62
  subst l62 y62 z62
  obtain ⟨rv62, N62q, e62⟩ := hQ62
  rw [show sp3 w_1 w_1 (1 : Int32) = (0 : Int32) from by unfold sp3; rw [if_pos rfl, if_neg (by decide : ¬ ((1 : Int32) = (0 : Int32)))]] at rv62
  subst rv62
  have N62 := Fr.app N0 N62q
  obtain ⟨cl63, Ar63, qa63, Sa63, Ma63, Ha63, Ga63⟩ := id (V_5.ext O0.2)
  have hin63 : ¬ (((0 : Int32) + (1 : Int32)) < 0 ∨ cl63.slots.size ≤ (((0 : Int32) + (1 : Int32))).toNatClampNeg) := by  exact inb_of Sa63 ⟨by decide, by decide⟩
  have hat63 : cl63.slots[(((0 : Int32) + (1 : Int32))).toNatClampNeg]? = some (.ref w_2) := Has.at Ha63 hin63 (by rfl)
  obtain ⟨cq64, kq64, q64a, q64b, q64c⟩ := isOf hZ e62 (E_1.ext O0.2)
  obtain ⟨_, _, ⟨T64, L64, k64, n64⟩, -, X64, ⟨Lc64, hQ64, l64, y64, z64⟩, st64⟩ := X62.virtualBack hx (y := Y0) (z := Y0) hown (mvT hZ (hw _ (tk 24 rfl))) (mvT hZ (hw _ (tk 25 rfl))) (notFace_of_selects (args := #[]) (mvT hZ (hw _ (tk 27 rfl)))) (mvT hZ (hw _ (tk 27 rfl))) (mvT hZ (hw _ (tk 26 rfl))) (by decide) (backOf (W := 0) (rm3 l Z a0 hw [] w_1 w_2 w_3 w_4 w_5 k_5 hS0 w_1 w_2 (1 : Int32) h0 n0 O0 (F_1_sharedWithItself.ext O0.2)) hZ (hw _ (tk 28 rfl)) (hw _ (tk 3 rfl)) (by decide) (by decide)) q64a q64c (g := (mkF m 25 #[.val (.ref w_1), .val (.ref w_1), .val (.ref w_5), .val (.int (4 : Int32)), .val (.int ((0 : Int32) + (1 : Int32))), .val (.ref w_2)] [(.ref w_2), (.ref w_1)])) rfl (by rw [hml]; rfl) (Steps.refl _) (argsL := [(.ref w_2)]) (rest := []) (lenOf pd_0 rfl) rfl (by show 2 * 0 + _ ≤ _; exact Nat.le_of_eq rfl) (hb hby d2_25) (fun _ _ => ⟨rfl, e62, (by decide : 0 + 0 ≤ _), (by decide : 0 + 0 ≤ _)⟩)
  dsimp only [Pt.U, Pt.locs, Pt.cells, Pt.slots] at X64 l64 y64 z64 st64 hQ64
  subst l64 y64 z64
  obtain ⟨rv64, N64q, e64⟩ := hQ64
  rw [show sp3 w_1 w_2 (1 : Int32) = (1 : Int32) from by unfold sp3; rw [if_neg (Fld.ne F_1_ordinal F_2_ordinal (by decide))]] at rv64
  subst rv64
  have N64 := Fr.app N62 N64q
  obtain ⟨cq65, kq65, q65a, q65b, q65c⟩ := isOf hZ e64 (E_1.ext O0.2)
  obtain ⟨_, _, ⟨T65, L65, k65, n65⟩, -, X65, ⟨Lc65, hQ65, l65, y65, z65⟩, st65⟩ := X64.virtualBack hx (y := Y0) (z := Y0) hown (mvT hZ (hw _ (tk 24 rfl))) (mvT hZ (hw _ (tk 25 rfl))) (notFace_of_selects (args := #[]) (mvT hZ (hw _ (tk 27 rfl)))) (mvT hZ (hw _ (tk 27 rfl))) (mvT hZ (hw _ (tk 26 rfl))) (by decide) (backOf (W := 0) (rm3 l Z a0 hw [] w_1 w_2 w_3 w_4 w_5 k_5 hS0 w_1 w_2 (1 : Int32) h0 n0 O0 (F_1_sharedWithItself.ext O0.2)) hZ (hw _ (tk 28 rfl)) (hw _ (tk 3 rfl)) (by decide) (by decide)) q65a q65c (g := (mkF m 34 #[.val (.ref w_1), .val (.ref w_1), .val (.ref w_5), .val (.int (4 : Int32)), .val (.int ((0 : Int32) + (1 : Int32))), .val (.ref w_2)] [(.ref w_2), (.ref w_1)])) rfl (by rw [hml]; rfl) (Steps.refl _) (argsL := [(.ref w_2)]) (rest := []) (lenOf pd_0 rfl) rfl (by show 2 * 0 + _ ≤ _; exact Nat.le_of_eq rfl) (hb hby d2_34) (fun _ _ => ⟨rfl, e64, (by decide : 0 + 0 ≤ _), (by decide : 0 + 0 ≤ _)⟩)
  dsimp only [Pt.U, Pt.locs, Pt.cells, Pt.slots] at X65 l65 y65 z65 st65 hQ65
  subst l65 y65 z65
  obtain ⟨rv65, N65q, e65⟩ := hQ65
  rw [show sp3 w_1 w_2 (1 : Int32) = (1 : Int32) from by unfold sp3; rw [if_neg (Fld.ne F_1_ordinal F_2_ordinal (by decide))]] at rv65
  subst rv65
  have N65 := Fr.app N64 N65q
  obtain ⟨cl66, Ar66, qa66, Sa66, Ma66, Ha66, Ga66⟩ := id (V_5.ext O0.2)
  have hin66 : ¬ ((((0 : Int32) + (1 : Int32)) + (1 : Int32)) < 0 ∨ cl66.slots.size ≤ ((((0 : Int32) + (1 : Int32)) + (1 : Int32))).toNatClampNeg) := by  exact inb_of Sa66 ⟨by decide, by decide⟩
  have hat66 : cl66.slots[((((0 : Int32) + (1 : Int32)) + (1 : Int32))).toNatClampNeg]? = some (.ref w_3) := Has.at Ha66 hin66 (by rfl)
  obtain ⟨cq67, kq67, q67a, q67b, q67c⟩ := isOf hZ e65 (E_1.ext O0.2)
  obtain ⟨_, _, ⟨T67, L67, k67, n67⟩, -, X67, ⟨Lc67, hQ67, l67, y67, z67⟩, st67⟩ := X65.virtualBack hx (y := Y0) (z := Y0) hown (mvT hZ (hw _ (tk 24 rfl))) (mvT hZ (hw _ (tk 25 rfl))) (notFace_of_selects (args := #[]) (mvT hZ (hw _ (tk 27 rfl)))) (mvT hZ (hw _ (tk 27 rfl))) (mvT hZ (hw _ (tk 26 rfl))) (by decide) (backOf (W := 0) (rm3 l Z a0 hw [] w_1 w_2 w_3 w_4 w_5 k_5 hS0 w_1 w_3 (1 : Int32) h0 n0 O0 (F_1_sharedWithItself.ext O0.2)) hZ (hw _ (tk 28 rfl)) (hw _ (tk 3 rfl)) (by decide) (by decide)) q67a q67c (g := (mkF m 25 #[.val (.ref w_1), .val (.ref w_1), .val (.ref w_5), .val (.int (4 : Int32)), .val (.int (((0 : Int32) + (1 : Int32)) + (1 : Int32))), .val (.ref w_3)] [(.ref w_3), (.ref w_1)])) rfl (by rw [hml]; rfl) (Steps.refl _) (argsL := [(.ref w_3)]) (rest := []) (lenOf pd_0 rfl) rfl (by show 2 * 0 + _ ≤ _; exact Nat.le_of_eq rfl) (hb hby d2_25) (fun _ _ => ⟨rfl, e65, (by decide : 0 + 0 ≤ _), (by decide : 0 + 0 ≤ _)⟩)
  dsimp only [Pt.U, Pt.locs, Pt.cells, Pt.slots] at X67 l67 y67 z67 st67 hQ67
  subst l67 y67 z67
  obtain ⟨rv67, N67q, e67⟩ := hQ67
  rw [show sp3 w_1 w_3 (1 : Int32) = (1 : Int32) from by unfold sp3; rw [if_neg (Fld.ne F_1_sharedWithItself F_3_sharedWithItself (by decide))]] at rv67
  subst rv67
  have N67 := Fr.app N65 N67q
  obtain ⟨cq68, kq68, q68a, q68b, q68c⟩ := isOf hZ e67 (E_1.ext O0.2)
  obtain ⟨_, _, ⟨T68, L68, k68, n68⟩, -, X68, ⟨Lc68, hQ68, l68, y68, z68⟩, st68⟩ := X67.virtualBack hx (y := Y0) (z := Y0) hown (mvT hZ (hw _ (tk 24 rfl))) (mvT hZ (hw _ (tk 25 rfl))) (notFace_of_selects (args := #[]) (mvT hZ (hw _ (tk 27 rfl)))) (mvT hZ (hw _ (tk 27 rfl))) (mvT hZ (hw _ (tk 26 rfl))) (by decide) (backOf (W := 0) (rm3 l Z a0 hw [] w_1 w_2 w_3 w_4 w_5 k_5 hS0 w_1 w_3 (1 : Int32) h0 n0 O0 (F_1_sharedWithItself.ext O0.2)) hZ (hw _ (tk 28 rfl)) (hw _ (tk 3 rfl)) (by decide) (by decide)) q68a q68c (g := (mkF m 34 #[.val (.ref w_1), .val (.ref w_1), .val (.ref w_5), .val (.int (4 : Int32)), .val (.int (((0 : Int32) + (1 : Int32)) + (1 : Int32))), .val (.ref w_3)] [(.ref w_3), (.ref w_1)])) rfl (by rw [hml]; rfl) (Steps.refl _) (argsL := [(.ref w_3)]) (rest := []) (lenOf pd_0 rfl) rfl (by show 2 * 0 + _ ≤ _; exact Nat.le_of_eq rfl) (hb hby d2_34) (fun _ _ => ⟨rfl, e67, (by decide : 0 + 0 ≤ _), (by decide : 0 + 0 ≤ _)⟩)
  dsimp only [Pt.U, Pt.locs, Pt.cells, Pt.slots] at X68 l68 y68 z68 st68 hQ68
  subst l68 y68 z68
  obtain ⟨rv68, N68q, e68⟩ := hQ68
  rw [show sp3 w_1 w_3 (1 : Int32) = (1 : Int32) from by unfold sp3; rw [if_neg (Fld.ne F_1_sharedWithItself F_3_sharedWithItself (by decide))]] at rv68
  subst rv68
  have N68 := Fr.app N67 N68q
  obtain ⟨cl69, Ar69, qa69, Sa69, Ma69, Ha69, Ga69⟩ := id (V_5.ext O0.2)
  have hin69 : ¬ (((((0 : Int32) + (1 : Int32)) + (1 : Int32)) + (1 : Int32)) < 0 ∨ cl69.slots.size ≤ (((((0 : Int32) + (1 : Int32)) + (1 : Int32)) + (1 : Int32))).toNatClampNeg) := by  exact inb_of Sa69 ⟨by decide, by decide⟩
  have hat69 : cl69.slots[(((((0 : Int32) + (1 : Int32)) + (1 : Int32)) + (1 : Int32))).toNatClampNeg]? = some (.ref w_4) := Has.at Ha69 hin69 (by rfl)
  obtain ⟨cq70, kq70, q70a, q70b, q70c⟩ := isOf hZ e68 (E_1.ext O0.2)
  obtain ⟨_, _, ⟨T70, L70, k70, n70⟩, -, X70, ⟨Lc70, hQ70, l70, y70, z70⟩, st70⟩ := X68.virtualBack hx (y := Y0) (z := Y0) hown (mvT hZ (hw _ (tk 24 rfl))) (mvT hZ (hw _ (tk 25 rfl))) (notFace_of_selects (args := #[]) (mvT hZ (hw _ (tk 27 rfl)))) (mvT hZ (hw _ (tk 27 rfl))) (mvT hZ (hw _ (tk 26 rfl))) (by decide) (backOf (W := 0) (rm3 l Z a0 hw [] w_1 w_2 w_3 w_4 w_5 k_5 hS0 w_1 w_4 (1 : Int32) h0 n0 O0 (F_1_sharedWithItself.ext O0.2)) hZ (hw _ (tk 28 rfl)) (hw _ (tk 3 rfl)) (by decide) (by decide)) q70a q70c (g := (mkF m 25 #[.val (.ref w_1), .val (.ref w_1), .val (.ref w_5), .val (.int (4 : Int32)), .val (.int ((((0 : Int32) + (1 : Int32)) + (1 : Int32)) + (1 : Int32))), .val (.ref w_4)] [(.ref w_4), (.ref w_1)])) rfl (by rw [hml]; rfl) (Steps.refl _) (argsL := [(.ref w_4)]) (rest := []) (lenOf pd_0 rfl) rfl (by show 2 * 0 + _ ≤ _; exact Nat.le_of_eq rfl) (hb hby d2_25) (fun _ _ => ⟨rfl, e68, (by decide : 0 + 0 ≤ _), (by decide : 0 + 0 ≤ _)⟩)
  dsimp only [Pt.U, Pt.locs, Pt.cells, Pt.slots] at X70 l70 y70 z70 st70 hQ70
  subst l70 y70 z70
  obtain ⟨rv70, N70q, e70⟩ := hQ70
  rw [show sp3 w_1 w_4 (1 : Int32) = (1 : Int32) from by unfold sp3; rw [if_neg (Fld.ne F_1_sharedWithItself F_4_sharedWithItself (by decide))]] at rv70
  subst rv70
  have N70 := Fr.app N68 N70q
  obtain ⟨cq71, kq71, q71a, q71b, q71c⟩ := isOf hZ e70 (E_1.ext O0.2)
  obtain ⟨_, _, ⟨T71, L71, k71, n71⟩, -, X71, ⟨Lc71, hQ71, l71, y71, z71⟩, st71⟩ := X70.virtualBack hx (y := Y0) (z := Y0) hown (mvT hZ (hw _ (tk 24 rfl))) (mvT hZ (hw _ (tk 25 rfl))) (notFace_of_selects (args := #[]) (mvT hZ (hw _ (tk 27 rfl)))) (mvT hZ (hw _ (tk 27 rfl))) (mvT hZ (hw _ (tk 26 rfl))) (by decide) (backOf (W := 0) (rm3 l Z a0 hw [] w_1 w_2 w_3 w_4 w_5 k_5 hS0 w_1 w_4 (1 : Int32) h0 n0 O0 (F_1_sharedWithItself.ext O0.2)) hZ (hw _ (tk 28 rfl)) (hw _ (tk 3 rfl)) (by decide) (by decide)) q71a q71c (g := (mkF m 34 #[.val (.ref w_1), .val (.ref w_1), .val (.ref w_5), .val (.int (4 : Int32)), .val (.int ((((0 : Int32) + (1 : Int32)) + (1 : Int32)) + (1 : Int32))), .val (.ref w_4)] [(.ref w_4), (.ref w_1)])) rfl (by rw [hml]; rfl) (Steps.refl _) (argsL := [(.ref w_4)]) (rest := []) (lenOf pd_0 rfl) rfl (by show 2 * 0 + _ ≤ _; exact Nat.le_of_eq rfl) (hb hby d2_34) (fun _ _ => ⟨rfl, e70, (by decide : 0 + 0 ≤ _), (by decide : 0 + 0 ≤ _)⟩)
  dsimp only [Pt.U, Pt.locs, Pt.cells, Pt.slots] at X71 l71 y71 z71 st71 hQ71
  subst l71 y71 z71
  obtain ⟨rv71, N71q, e71⟩ := hQ71
  rw [show sp3 w_1 w_4 (1 : Int32) = (1 : Int32) from by unfold sp3; rw [if_neg (Fld.ne F_1_sharedWithItself F_4_sharedWithItself (by decide))]] at rv71
  subst rv71
  have N71 := Fr.app N70 N71q
  obtain ⟨fs, hr, hrun, hended, hW, hsame⟩ := X71.leave (v := some (.int (1 : Int32))) (fun h => by rw [Bd.returns] at h; cases h)
  refine ⟨_, _, pre0 _ ?_, hrun, hended, _, _, rfl, ?_, ⟨_, rfl⟩, hW, hsame.mono (by decide) (by decide)⟩
  · show Steps p.tables e below (s₁.setTop (mkF m 0 #[.val (.ref w_1), .val (.ref w_1), .unset, .unset, .unset, .unset] [])) _
    refine st54 _ ?_
    show Steps p.tables e below (T54.setTop (mkF m 3 #[.val (.ref w_1), .val (.ref w_1), .unset, .unset, .unset, .unset] [(.ref w_5)])) _
    refine XS.astoreN X54.here hx rfl (hb hby d2_3) rfl rfl (l' := #[.val (.ref w_1), .val (.ref w_1), .val (.ref w_5), .unset, .unset, .unset]) rfl ?_
    show Steps p.tables e below (T54.setTop (mkF m 4 #[.val (.ref w_1), .val (.ref w_1), .val (.ref w_5), .unset, .unset, .unset] [])) _
    refine XS.aloadN X54.here hx rfl (hb hby d2_4) rfl rfl ?_
    show Steps p.tables e below (T54.setTop (mkF m 5 #[.val (.ref w_1), .val (.ref w_1), .val (.ref w_5), .unset, .unset, .unset] [(.ref w_5)])) _
    refine X54.arraylength hx (by rw [e54]; exact Ar55.1) (State.isArrayOf_alike hZ.alike Ar55.2.1) (g := (mkF m 5 #[.val (.ref w_1), .val (.ref w_1), .val (.ref w_5), .unset, .unset, .unset] [(.ref w_5)])) rfl rfl (hb hby d2_5) _ ?_
    rw [len_of Sa55 Ma55]
    show Steps p.tables e below (T54.setTop (mkF m 6 #[.val (.ref w_1), .val (.ref w_1), .val (.ref w_5), .unset, .unset, .unset] [(.int (4 : Int32))])) _
    refine XS.istoreN X54.here hx rfl (hb hby d2_6) rfl (l' := #[.val (.ref w_1), .val (.ref w_1), .val (.ref w_5), .val (.int (4 : Int32)), .unset, .unset]) rfl ?_
    show Steps p.tables e below (T54.setTop (mkF m 7 #[.val (.ref w_1), .val (.ref w_1), .val (.ref w_5), .val (.int (4 : Int32)), .unset, .unset] [])) _
    refine XS.iconst X54.here hx rfl (hb hby d2_7) ?_
    show Steps p.tables e below (T54.setTop (mkF m 8 #[.val (.ref w_1), .val (.ref w_1), .val (.ref w_5), .val (.int (4 : Int32)), .unset, .unset] [(.int (0 : Int32))])) _
    refine XS.istore X54.here hx rfl (hb hby d2_8) rfl (l' := #[.val (.ref w_1), .val (.ref w_1), .val (.ref w_5), .val (.int (4 : Int32)), .val (.int (0 : Int32)), .unset]) rfl ?_
    show Steps p.tables e below (T54.setTop (mkF m 10 #[.val (.ref w_1), .val (.ref w_1), .val (.ref w_5), .val (.int (4 : Int32)), .val (.int (0 : Int32)), .unset] [])) _
    refine XS.iload X54.here hx rfl (hb hby d2_10) rfl ?_
    show Steps p.tables e below (T54.setTop (mkF m 12 #[.val (.ref w_1), .val (.ref w_1), .val (.ref w_5), .val (.int (4 : Int32)), .val (.int (0 : Int32)), .unset] [(.int (0 : Int32))])) _
    refine XS.iloadN X54.here hx rfl (hb hby d2_12) rfl ?_
    show Steps p.tables e below (T54.setTop (mkF m 13 #[.val (.ref w_1), .val (.ref w_1), .val (.ref w_5), .val (.int (4 : Int32)), .val (.int (0 : Int32)), .unset] [(.int (4 : Int32)), (.int (0 : Int32))])) _
    refine XS.icmpNo X54.here hx rfl (hb hby d2_13) rfl (tlt (by decide : ((0 : Int32) < (4 : Int32)))).2.1 ?_
    show Steps p.tables e below (T54.setTop (mkF m 16 #[.val (.ref w_1), .val (.ref w_1), .val (.ref w_5), .val (.int (4 : Int32)), .val (.int (0 : Int32)), .unset] [])) _
    refine XS.aloadN X54.here hx rfl (hb hby d2_16) rfl rfl ?_
    show Steps p.tables e below (T54.setTop (mkF m 17 #[.val (.ref w_1), .val (.ref w_1), .val (.ref w_5), .val (.int (4 : Int32)), .val (.int (0 : Int32)), .unset] [(.ref w_5)])) _
    refine XS.iload X54.here hx rfl (hb hby d2_17) rfl ?_
    show Steps p.tables e below (T54.setTop (mkF m 19 #[.val (.ref w_1), .val (.ref w_1), .val (.ref w_5), .val (.int (4 : Int32)), .val (.int (0 : Int32)), .unset] [(.int (0 : Int32)), (.ref w_5)])) _
    refine X54.aaload hx (j := (0 : Int32)) (v := (.ref w_1)) (by rw [e54]; exact Ar56.1) (State.isArrayOf_alike hZ.alike Ar56.2.1) rfl Ar56.2.2 hin56 hat56 (g := (mkF m 19 #[.val (.ref w_1), .val (.ref w_1), .val (.ref w_5), .val (.int (4 : Int32)), .val (.int (0 : Int32)), .unset] [(.int (0 : Int32)), (.ref w_5)])) rfl rfl (hb hby d2_19) _ ?_
    show Steps p.tables e below (T54.setTop (mkF m 20 #[.val (.ref w_1), .val (.ref w_1), .val (.ref w_5), .val (.int (4 : Int32)), .val (.int (0 : Int32)), .unset] [(.ref w_1)])) _
    refine XS.astore X54.here hx rfl (hb hby d2_20) rfl rfl (l' := #[.val (.ref w_1), .val (.ref w_1), .val (.ref w_5), .val (.int (4 : Int32)), .val (.int (0 : Int32)), .val (.ref w_1)]) rfl ?_
    show Steps p.tables e below (T54.setTop (mkF m 22 #[.val (.ref w_1), .val (.ref w_1), .val (.ref w_5), .val (.int (4 : Int32)), .val (.int (0 : Int32)), .val (.ref w_1)] [])) _
    refine XS.aloadN X54.here hx rfl (hb hby d2_22) rfl rfl ?_
    show Steps p.tables e below (T54.setTop (mkF m 23 #[.val (.ref w_1), .val (.ref w_1), .val (.ref w_5), .val (.int (4 : Int32)), .val (.int (0 : Int32)), .val (.ref w_1)] [(.ref w_1)])) _
    refine XS.aload X54.here hx rfl (hb hby d2_23) rfl rfl ?_
    show Steps p.tables e below (T54.setTop (mkF m 25 #[.val (.ref w_1), .val (.ref w_1), .val (.ref w_5), .val (.int (4 : Int32)), .val (.int (0 : Int32)), .val (.ref w_1)] [(.ref w_1), (.ref w_1)])) _
    refine st62.trans ?_
    show Steps p.tables e below (T62.setTop (mkF m 28 #[.val (.ref w_1), .val (.ref w_1), .val (.ref w_5), .val (.int (4 : Int32)), .val (.int (0 : Int32)), .val (.ref w_1)] [(.int (0 : Int32))])) _
    refine XS.ifYes X62.here hx rfl (pc0 := 28) (pc' := 42) rfl (hb hby d2_28) rfl ((if0 _ _).trans (teq (by decide : ((0 : Int32) = (0 : Int32)))).1) (by decide) (by decide) ?_
    show Steps p.tables e below (T62.setTop (mkF m 42 #[.val (.ref w_1), .val (.ref w_1), .val (.ref w_5), .val (.int (4 : Int32)), .val (.int (0 : Int32)), .val (.ref w_1)] [])) _
    refine XS.iinc X62.here hx rfl (hb hby d2_42) rfl (l' := #[.val (.ref w_1), .val (.ref w_1), .val (.ref w_5), .val (.int (4 : Int32)), .val (.int ((0 : Int32) + (1 : Int32))), .val (.ref w_1)]) rfl ?_
    show Steps p.tables e below (T62.setTop (mkF m 45 #[.val (.ref w_1), .val (.ref w_1), .val (.ref w_5), .val (.int (4 : Int32)), .val (.int ((0 : Int32) + (1 : Int32))), .val (.ref w_1)] [])) _
    refine XS.goto X62.here hx rfl (pc0 := 45) (pc' := 10) rfl (hb hby d2_45) (by decide) (by decide) ?_
    show Steps p.tables e below (T62.setTop (mkF m 10 #[.val (.ref w_1), .val (.ref w_1), .val (.ref w_5), .val (.int (4 : Int32)), .val (.int ((0 : Int32) + (1 : Int32))), .val (.ref w_1)] [])) _
    refine XS.iload X62.here hx rfl (hb hby d2_10) rfl ?_
    show Steps p.tables e below (T62.setTop (mkF m 12 #[.val (.ref w_1), .val (.ref w_1), .val (.ref w_5), .val (.int (4 : Int32)), .val (.int ((0 : Int32) + (1 : Int32))), .val (.ref w_1)] [(.int ((0 : Int32) + (1 : Int32)))])) _
    refine XS.iloadN X62.here hx rfl (hb hby d2_12) rfl ?_
    show Steps p.tables e below (T62.setTop (mkF m 13 #[.val (.ref w_1), .val (.ref w_1), .val (.ref w_5), .val (.int (4 : Int32)), .val (.int ((0 : Int32) + (1 : Int32))), .val (.ref w_1)] [(.int (4 : Int32)), (.int ((0 : Int32) + (1 : Int32)))])) _
    refine XS.icmpNo X62.here hx rfl (hb hby d2_13) rfl (tlt (by decide : (((0 : Int32) + (1 : Int32)) < (4 : Int32)))).2.1 ?_
    show Steps p.tables e below (T62.setTop (mkF m 16 #[.val (.ref w_1), .val (.ref w_1), .val (.ref w_5), .val (.int (4 : Int32)), .val (.int ((0 : Int32) + (1 : Int32))), .val (.ref w_1)] [])) _
    refine XS.aloadN X62.here hx rfl (hb hby d2_16) rfl rfl ?_
    show Steps p.tables e below (T62.setTop (mkF m 17 #[.val (.ref w_1), .val (.ref w_1), .val (.ref w_5), .val (.int (4 : Int32)), .val (.int ((0 : Int32) + (1 : Int32))), .val (.ref w_1)] [(.ref w_5)])) _
    refine XS.iload X62.here hx rfl (hb hby d2_17) rfl ?_
    show Steps p.tables e below (T62.setTop (mkF m 19 #[.val (.ref w_1), .val (.ref w_1), .val (.ref w_5), .val (.int (4 : Int32)), .val (.int ((0 : Int32) + (1 : Int32))), .val (.ref w_1)] [(.int ((0 : Int32) + (1 : Int32))), (.ref w_5)])) _
    refine X62.aaload hx (j := ((0 : Int32) + (1 : Int32))) (v := (.ref w_2)) (by rw [e62]; exact Ar63.1) (State.isArrayOf_alike hZ.alike Ar63.2.1) rfl Ar63.2.2 hin63 hat63 (g := (mkF m 19 #[.val (.ref w_1), .val (.ref w_1), .val (.ref w_5), .val (.int (4 : Int32)), .val (.int ((0 : Int32) + (1 : Int32))), .val (.ref w_1)] [(.int ((0 : Int32) + (1 : Int32))), (.ref w_5)])) rfl rfl (hb hby d2_19) _ ?_
    show Steps p.tables e below (T62.setTop (mkF m 20 #[.val (.ref w_1), .val (.ref w_1), .val (.ref w_5), .val (.int (4 : Int32)), .val (.int ((0 : Int32) + (1 : Int32))), .val (.ref w_1)] [(.ref w_2)])) _
    refine XS.astore X62.here hx rfl (hb hby d2_20) rfl rfl (l' := #[.val (.ref w_1), .val (.ref w_1), .val (.ref w_5), .val (.int (4 : Int32)), .val (.int ((0 : Int32) + (1 : Int32))), .val (.ref w_2)]) rfl ?_
    show Steps p.tables e below (T62.setTop (mkF m 22 #[.val (.ref w_1), .val (.ref w_1), .val (.ref w_5), .val (.int (4 : Int32)), .val (.int ((0 : Int32) + (1 : Int32))), .val (.ref w_2)] [])) _
    refine XS.aloadN X62.here hx rfl (hb hby d2_22) rfl rfl ?_
    show Steps p.tables e below (T62.setTop (mkF m 23 #[.val (.ref w_1), .val (.ref w_1), .val (.ref w_5), .val (.int (4 : Int32)), .val (.int ((0 : Int32) + (1 : Int32))), .val (.ref w_2)] [(.ref w_1)])) _
    refine XS.aload X62.here hx rfl (hb hby d2_23) rfl rfl ?_
    show Steps p.tables e below (T62.setTop (mkF m 25 #[.val (.ref w_1), .val (.ref w_1), .val (.ref w_5), .val (.int (4 : Int32)), .val (.int ((0 : Int32) + (1 : Int32))), .val (.ref w_2)] [(.ref w_2), (.ref w_1)])) _
    refine st64.trans ?_
    show Steps p.tables e below (T64.setTop (mkF m 28 #[.val (.ref w_1), .val (.ref w_1), .val (.ref w_5), .val (.int (4 : Int32)), .val (.int ((0 : Int32) + (1 : Int32))), .val (.ref w_2)] [(.int (1 : Int32))])) _
    refine XS.ifNo X64.here hx rfl (hb hby d2_28) rfl ((if0 _ _).trans (feq (by decide : ¬ ((1 : Int32) = (0 : Int32)))).1) ?_
    show Steps p.tables e below (T64.setTop (mkF m 31 #[.val (.ref w_1), .val (.ref w_1), .val (.ref w_5), .val (.int (4 : Int32)), .val (.int ((0 : Int32) + (1 : Int32))), .val (.ref w_2)] [])) _
    refine XS.aloadN X64.here hx rfl (hb hby d2_31) rfl rfl ?_
    show Steps p.tables e below (T64.setTop (mkF m 32 #[.val (.ref w_1), .val (.ref w_1), .val (.ref w_5), .val (.int (4 : Int32)), .val (.int ((0 : Int32) + (1 : Int32))), .val (.ref w_2)] [(.ref w_1)])) _
    refine XS.aload X64.here hx rfl (hb hby d2_32) rfl rfl ?_
    show Steps p.tables e below (T64.setTop (mkF m 34 #[.val (.ref w_1), .val (.ref w_1), .val (.ref w_5), .val (.int (4 : Int32)), .val (.int ((0 : Int32) + (1 : Int32))), .val (.ref w_2)] [(.ref w_2), (.ref w_1)])) _
    refine st65.trans ?_
    show Steps p.tables e below (T65.setTop (mkF m 37 #[.val (.ref w_1), .val (.ref w_1), .val (.ref w_5), .val (.int (4 : Int32)), .val (.int ((0 : Int32) + (1 : Int32))), .val (.ref w_2)] [(.int (1 : Int32))])) _
    refine XS.ifYes X65.here hx rfl (pc0 := 37) (pc' := 42) rfl (hb hby d2_37) rfl ((if0 _ _).trans (feq (by decide : ¬ ((1 : Int32) = (0 : Int32)))).2) (by decide) (by decide) ?_
    show Steps p.tables e below (T65.setTop (mkF m 42 #[.val (.ref w_1), .val (.ref w_1), .val (.ref w_5), .val (.int (4 : Int32)), .val (.int ((0 : Int32) + (1 : Int32))), .val (.ref w_2)] [])) _
    refine XS.iinc X65.here hx rfl (hb hby d2_42) rfl (l' := #[.val (.ref w_1), .val (.ref w_1), .val (.ref w_5), .val (.int (4 : Int32)), .val (.int (((0 : Int32) + (1 : Int32)) + (1 : Int32))), .val (.ref w_2)]) rfl ?_
    show Steps p.tables e below (T65.setTop (mkF m 45 #[.val (.ref w_1), .val (.ref w_1), .val (.ref w_5), .val (.int (4 : Int32)), .val (.int (((0 : Int32) + (1 : Int32)) + (1 : Int32))), .val (.ref w_2)] [])) _
    refine XS.goto X65.here hx rfl (pc0 := 45) (pc' := 10) rfl (hb hby d2_45) (by decide) (by decide) ?_
    show Steps p.tables e below (T65.setTop (mkF m 10 #[.val (.ref w_1), .val (.ref w_1), .val (.ref w_5), .val (.int (4 : Int32)), .val (.int (((0 : Int32) + (1 : Int32)) + (1 : Int32))), .val (.ref w_2)] [])) _
    refine XS.iload X65.here hx rfl (hb hby d2_10) rfl ?_
    show Steps p.tables e below (T65.setTop (mkF m 12 #[.val (.ref w_1), .val (.ref w_1), .val (.ref w_5), .val (.int (4 : Int32)), .val (.int (((0 : Int32) + (1 : Int32)) + (1 : Int32))), .val (.ref w_2)] [(.int (((0 : Int32) + (1 : Int32)) + (1 : Int32)))])) _
    refine XS.iloadN X65.here hx rfl (hb hby d2_12) rfl ?_
    show Steps p.tables e below (T65.setTop (mkF m 13 #[.val (.ref w_1), .val (.ref w_1), .val (.ref w_5), .val (.int (4 : Int32)), .val (.int (((0 : Int32) + (1 : Int32)) + (1 : Int32))), .val (.ref w_2)] [(.int (4 : Int32)), (.int (((0 : Int32) + (1 : Int32)) + (1 : Int32)))])) _
    refine XS.icmpNo X65.here hx rfl (hb hby d2_13) rfl (tlt (by decide : ((((0 : Int32) + (1 : Int32)) + (1 : Int32)) < (4 : Int32)))).2.1 ?_
    show Steps p.tables e below (T65.setTop (mkF m 16 #[.val (.ref w_1), .val (.ref w_1), .val (.ref w_5), .val (.int (4 : Int32)), .val (.int (((0 : Int32) + (1 : Int32)) + (1 : Int32))), .val (.ref w_2)] [])) _
    refine XS.aloadN X65.here hx rfl (hb hby d2_16) rfl rfl ?_
    show Steps p.tables e below (T65.setTop (mkF m 17 #[.val (.ref w_1), .val (.ref w_1), .val (.ref w_5), .val (.int (4 : Int32)), .val (.int (((0 : Int32) + (1 : Int32)) + (1 : Int32))), .val (.ref w_2)] [(.ref w_5)])) _
    refine XS.iload X65.here hx rfl (hb hby d2_17) rfl ?_
    show Steps p.tables e below (T65.setTop (mkF m 19 #[.val (.ref w_1), .val (.ref w_1), .val (.ref w_5), .val (.int (4 : Int32)), .val (.int (((0 : Int32) + (1 : Int32)) + (1 : Int32))), .val (.ref w_2)] [(.int (((0 : Int32) + (1 : Int32)) + (1 : Int32))), (.ref w_5)])) _
    refine X65.aaload hx (j := (((0 : Int32) + (1 : Int32)) + (1 : Int32))) (v := (.ref w_3)) (by rw [e65]; exact Ar66.1) (State.isArrayOf_alike hZ.alike Ar66.2.1) rfl Ar66.2.2 hin66 hat66 (g := (mkF m 19 #[.val (.ref w_1), .val (.ref w_1), .val (.ref w_5), .val (.int (4 : Int32)), .val (.int (((0 : Int32) + (1 : Int32)) + (1 : Int32))), .val (.ref w_2)] [(.int (((0 : Int32) + (1 : Int32)) + (1 : Int32))), (.ref w_5)])) rfl rfl (hb hby d2_19) _ ?_
    show Steps p.tables e below (T65.setTop (mkF m 20 #[.val (.ref w_1), .val (.ref w_1), .val (.ref w_5), .val (.int (4 : Int32)), .val (.int (((0 : Int32) + (1 : Int32)) + (1 : Int32))), .val (.ref w_2)] [(.ref w_3)])) _
    refine XS.astore X65.here hx rfl (hb hby d2_20) rfl rfl (l' := #[.val (.ref w_1), .val (.ref w_1), .val (.ref w_5), .val (.int (4 : Int32)), .val (.int (((0 : Int32) + (1 : Int32)) + (1 : Int32))), .val (.ref w_3)]) rfl ?_
    show Steps p.tables e below (T65.setTop (mkF m 22 #[.val (.ref w_1), .val (.ref w_1), .val (.ref w_5), .val (.int (4 : Int32)), .val (.int (((0 : Int32) + (1 : Int32)) + (1 : Int32))), .val (.ref w_3)] [])) _
    refine XS.aloadN X65.here hx rfl (hb hby d2_22) rfl rfl ?_
    show Steps p.tables e below (T65.setTop (mkF m 23 #[.val (.ref w_1), .val (.ref w_1), .val (.ref w_5), .val (.int (4 : Int32)), .val (.int (((0 : Int32) + (1 : Int32)) + (1 : Int32))), .val (.ref w_3)] [(.ref w_1)])) _
    refine XS.aload X65.here hx rfl (hb hby d2_23) rfl rfl ?_
    show Steps p.tables e below (T65.setTop (mkF m 25 #[.val (.ref w_1), .val (.ref w_1), .val (.ref w_5), .val (.int (4 : Int32)), .val (.int (((0 : Int32) + (1 : Int32)) + (1 : Int32))), .val (.ref w_3)] [(.ref w_3), (.ref w_1)])) _
    refine st67.trans ?_
    show Steps p.tables e below (T67.setTop (mkF m 28 #[.val (.ref w_1), .val (.ref w_1), .val (.ref w_5), .val (.int (4 : Int32)), .val (.int (((0 : Int32) + (1 : Int32)) + (1 : Int32))), .val (.ref w_3)] [(.int (1 : Int32))])) _
    refine XS.ifNo X67.here hx rfl (hb hby d2_28) rfl ((if0 _ _).trans (feq (by decide : ¬ ((1 : Int32) = (0 : Int32)))).1) ?_
    show Steps p.tables e below (T67.setTop (mkF m 31 #[.val (.ref w_1), .val (.ref w_1), .val (.ref w_5), .val (.int (4 : Int32)), .val (.int (((0 : Int32) + (1 : Int32)) + (1 : Int32))), .val (.ref w_3)] [])) _
    refine XS.aloadN X67.here hx rfl (hb hby d2_31) rfl rfl ?_
    show Steps p.tables e below (T67.setTop (mkF m 32 #[.val (.ref w_1), .val (.ref w_1), .val (.ref w_5), .val (.int (4 : Int32)), .val (.int (((0 : Int32) + (1 : Int32)) + (1 : Int32))), .val (.ref w_3)] [(.ref w_1)])) _
    refine XS.aload X67.here hx rfl (hb hby d2_32) rfl rfl ?_
    show Steps p.tables e below (T67.setTop (mkF m 34 #[.val (.ref w_1), .val (.ref w_1), .val (.ref w_5), .val (.int (4 : Int32)), .val (.int (((0 : Int32) + (1 : Int32)) + (1 : Int32))), .val (.ref w_3)] [(.ref w_3), (.ref w_1)])) _
    refine st68.trans ?_
    show Steps p.tables e below (T68.setTop (mkF m 37 #[.val (.ref w_1), .val (.ref w_1), .val (.ref w_5), .val (.int (4 : Int32)), .val (.int (((0 : Int32) + (1 : Int32)) + (1 : Int32))), .val (.ref w_3)] [(.int (1 : Int32))])) _
    refine XS.ifYes X68.here hx rfl (pc0 := 37) (pc' := 42) rfl (hb hby d2_37) rfl ((if0 _ _).trans (feq (by decide : ¬ ((1 : Int32) = (0 : Int32)))).2) (by decide) (by decide) ?_
    show Steps p.tables e below (T68.setTop (mkF m 42 #[.val (.ref w_1), .val (.ref w_1), .val (.ref w_5), .val (.int (4 : Int32)), .val (.int (((0 : Int32) + (1 : Int32)) + (1 : Int32))), .val (.ref w_3)] [])) _
    refine XS.iinc X68.here hx rfl (hb hby d2_42) rfl (l' := #[.val (.ref w_1), .val (.ref w_1), .val (.ref w_5), .val (.int (4 : Int32)), .val (.int ((((0 : Int32) + (1 : Int32)) + (1 : Int32)) + (1 : Int32))), .val (.ref w_3)]) rfl ?_
    show Steps p.tables e below (T68.setTop (mkF m 45 #[.val (.ref w_1), .val (.ref w_1), .val (.ref w_5), .val (.int (4 : Int32)), .val (.int ((((0 : Int32) + (1 : Int32)) + (1 : Int32)) + (1 : Int32))), .val (.ref w_3)] [])) _
    refine XS.goto X68.here hx rfl (pc0 := 45) (pc' := 10) rfl (hb hby d2_45) (by decide) (by decide) ?_
    show Steps p.tables e below (T68.setTop (mkF m 10 #[.val (.ref w_1), .val (.ref w_1), .val (.ref w_5), .val (.int (4 : Int32)), .val (.int ((((0 : Int32) + (1 : Int32)) + (1 : Int32)) + (1 : Int32))), .val (.ref w_3)] [])) _
    refine XS.iload X68.here hx rfl (hb hby d2_10) rfl ?_
    show Steps p.tables e below (T68.setTop (mkF m 12 #[.val (.ref w_1), .val (.ref w_1), .val (.ref w_5), .val (.int (4 : Int32)), .val (.int ((((0 : Int32) + (1 : Int32)) + (1 : Int32)) + (1 : Int32))), .val (.ref w_3)] [(.int ((((0 : Int32) + (1 : Int32)) + (1 : Int32)) + (1 : Int32)))])) _
    refine XS.iloadN X68.here hx rfl (hb hby d2_12) rfl ?_
    show Steps p.tables e below (T68.setTop (mkF m 13 #[.val (.ref w_1), .val (.ref w_1), .val (.ref w_5), .val (.int (4 : Int32)), .val (.int ((((0 : Int32) + (1 : Int32)) + (1 : Int32)) + (1 : Int32))), .val (.ref w_3)] [(.int (4 : Int32)), (.int ((((0 : Int32) + (1 : Int32)) + (1 : Int32)) + (1 : Int32)))])) _
    refine XS.icmpNo X68.here hx rfl (hb hby d2_13) rfl (tlt (by decide : (((((0 : Int32) + (1 : Int32)) + (1 : Int32)) + (1 : Int32)) < (4 : Int32)))).2.1 ?_
    show Steps p.tables e below (T68.setTop (mkF m 16 #[.val (.ref w_1), .val (.ref w_1), .val (.ref w_5), .val (.int (4 : Int32)), .val (.int ((((0 : Int32) + (1 : Int32)) + (1 : Int32)) + (1 : Int32))), .val (.ref w_3)] [])) _
    refine XS.aloadN X68.here hx rfl (hb hby d2_16) rfl rfl ?_
    show Steps p.tables e below (T68.setTop (mkF m 17 #[.val (.ref w_1), .val (.ref w_1), .val (.ref w_5), .val (.int (4 : Int32)), .val (.int ((((0 : Int32) + (1 : Int32)) + (1 : Int32)) + (1 : Int32))), .val (.ref w_3)] [(.ref w_5)])) _
    refine XS.iload X68.here hx rfl (hb hby d2_17) rfl ?_
    show Steps p.tables e below (T68.setTop (mkF m 19 #[.val (.ref w_1), .val (.ref w_1), .val (.ref w_5), .val (.int (4 : Int32)), .val (.int ((((0 : Int32) + (1 : Int32)) + (1 : Int32)) + (1 : Int32))), .val (.ref w_3)] [(.int ((((0 : Int32) + (1 : Int32)) + (1 : Int32)) + (1 : Int32))), (.ref w_5)])) _
    refine X68.aaload hx (j := ((((0 : Int32) + (1 : Int32)) + (1 : Int32)) + (1 : Int32))) (v := (.ref w_4)) (by rw [e68]; exact Ar69.1) (State.isArrayOf_alike hZ.alike Ar69.2.1) rfl Ar69.2.2 hin69 hat69 (g := (mkF m 19 #[.val (.ref w_1), .val (.ref w_1), .val (.ref w_5), .val (.int (4 : Int32)), .val (.int ((((0 : Int32) + (1 : Int32)) + (1 : Int32)) + (1 : Int32))), .val (.ref w_3)] [(.int ((((0 : Int32) + (1 : Int32)) + (1 : Int32)) + (1 : Int32))), (.ref w_5)])) rfl rfl (hb hby d2_19) _ ?_
    show Steps p.tables e below (T68.setTop (mkF m 20 #[.val (.ref w_1), .val (.ref w_1), .val (.ref w_5), .val (.int (4 : Int32)), .val (.int ((((0 : Int32) + (1 : Int32)) + (1 : Int32)) + (1 : Int32))), .val (.ref w_3)] [(.ref w_4)])) _
    refine XS.astore X68.here hx rfl (hb hby d2_20) rfl rfl (l' := #[.val (.ref w_1), .val (.ref w_1), .val (.ref w_5), .val (.int (4 : Int32)), .val (.int ((((0 : Int32) + (1 : Int32)) + (1 : Int32)) + (1 : Int32))), .val (.ref w_4)]) rfl ?_
    show Steps p.tables e below (T68.setTop (mkF m 22 #[.val (.ref w_1), .val (.ref w_1), .val (.ref w_5), .val (.int (4 : Int32)), .val (.int ((((0 : Int32) + (1 : Int32)) + (1 : Int32)) + (1 : Int32))), .val (.ref w_4)] [])) _
    refine XS.aloadN X68.here hx rfl (hb hby d2_22) rfl rfl ?_
    show Steps p.tables e below (T68.setTop (mkF m 23 #[.val (.ref w_1), .val (.ref w_1), .val (.ref w_5), .val (.int (4 : Int32)), .val (.int ((((0 : Int32) + (1 : Int32)) + (1 : Int32)) + (1 : Int32))), .val (.ref w_4)] [(.ref w_1)])) _
    refine XS.aload X68.here hx rfl (hb hby d2_23) rfl rfl ?_
    show Steps p.tables e below (T68.setTop (mkF m 25 #[.val (.ref w_1), .val (.ref w_1), .val (.ref w_5), .val (.int (4 : Int32)), .val (.int ((((0 : Int32) + (1 : Int32)) + (1 : Int32)) + (1 : Int32))), .val (.ref w_4)] [(.ref w_4), (.ref w_1)])) _
    refine st70.trans ?_
    show Steps p.tables e below (T70.setTop (mkF m 28 #[.val (.ref w_1), .val (.ref w_1), .val (.ref w_5), .val (.int (4 : Int32)), .val (.int ((((0 : Int32) + (1 : Int32)) + (1 : Int32)) + (1 : Int32))), .val (.ref w_4)] [(.int (1 : Int32))])) _
    refine XS.ifNo X70.here hx rfl (hb hby d2_28) rfl ((if0 _ _).trans (feq (by decide : ¬ ((1 : Int32) = (0 : Int32)))).1) ?_
    show Steps p.tables e below (T70.setTop (mkF m 31 #[.val (.ref w_1), .val (.ref w_1), .val (.ref w_5), .val (.int (4 : Int32)), .val (.int ((((0 : Int32) + (1 : Int32)) + (1 : Int32)) + (1 : Int32))), .val (.ref w_4)] [])) _
    refine XS.aloadN X70.here hx rfl (hb hby d2_31) rfl rfl ?_
    show Steps p.tables e below (T70.setTop (mkF m 32 #[.val (.ref w_1), .val (.ref w_1), .val (.ref w_5), .val (.int (4 : Int32)), .val (.int ((((0 : Int32) + (1 : Int32)) + (1 : Int32)) + (1 : Int32))), .val (.ref w_4)] [(.ref w_1)])) _
    refine XS.aload X70.here hx rfl (hb hby d2_32) rfl rfl ?_
    show Steps p.tables e below (T70.setTop (mkF m 34 #[.val (.ref w_1), .val (.ref w_1), .val (.ref w_5), .val (.int (4 : Int32)), .val (.int ((((0 : Int32) + (1 : Int32)) + (1 : Int32)) + (1 : Int32))), .val (.ref w_4)] [(.ref w_4), (.ref w_1)])) _
    refine st71.trans ?_
    show Steps p.tables e below (T71.setTop (mkF m 37 #[.val (.ref w_1), .val (.ref w_1), .val (.ref w_5), .val (.int (4 : Int32)), .val (.int ((((0 : Int32) + (1 : Int32)) + (1 : Int32)) + (1 : Int32))), .val (.ref w_4)] [(.int (1 : Int32))])) _
    refine XS.ifYes X71.here hx rfl (pc0 := 37) (pc' := 42) rfl (hb hby d2_37) rfl ((if0 _ _).trans (feq (by decide : ¬ ((1 : Int32) = (0 : Int32)))).2) (by decide) (by decide) ?_
    show Steps p.tables e below (T71.setTop (mkF m 42 #[.val (.ref w_1), .val (.ref w_1), .val (.ref w_5), .val (.int (4 : Int32)), .val (.int ((((0 : Int32) + (1 : Int32)) + (1 : Int32)) + (1 : Int32))), .val (.ref w_4)] [])) _
    refine XS.iinc X71.here hx rfl (hb hby d2_42) rfl (l' := #[.val (.ref w_1), .val (.ref w_1), .val (.ref w_5), .val (.int (4 : Int32)), .val (.int (((((0 : Int32) + (1 : Int32)) + (1 : Int32)) + (1 : Int32)) + (1 : Int32))), .val (.ref w_4)]) rfl ?_
    show Steps p.tables e below (T71.setTop (mkF m 45 #[.val (.ref w_1), .val (.ref w_1), .val (.ref w_5), .val (.int (4 : Int32)), .val (.int (((((0 : Int32) + (1 : Int32)) + (1 : Int32)) + (1 : Int32)) + (1 : Int32))), .val (.ref w_4)] [])) _
    refine XS.goto X71.here hx rfl (pc0 := 45) (pc' := 10) rfl (hb hby d2_45) (by decide) (by decide) ?_
    show Steps p.tables e below (T71.setTop (mkF m 10 #[.val (.ref w_1), .val (.ref w_1), .val (.ref w_5), .val (.int (4 : Int32)), .val (.int (((((0 : Int32) + (1 : Int32)) + (1 : Int32)) + (1 : Int32)) + (1 : Int32))), .val (.ref w_4)] [])) _
    refine XS.iload X71.here hx rfl (hb hby d2_10) rfl ?_
    show Steps p.tables e below (T71.setTop (mkF m 12 #[.val (.ref w_1), .val (.ref w_1), .val (.ref w_5), .val (.int (4 : Int32)), .val (.int (((((0 : Int32) + (1 : Int32)) + (1 : Int32)) + (1 : Int32)) + (1 : Int32))), .val (.ref w_4)] [(.int (((((0 : Int32) + (1 : Int32)) + (1 : Int32)) + (1 : Int32)) + (1 : Int32)))])) _
    refine XS.iloadN X71.here hx rfl (hb hby d2_12) rfl ?_
    show Steps p.tables e below (T71.setTop (mkF m 13 #[.val (.ref w_1), .val (.ref w_1), .val (.ref w_5), .val (.int (4 : Int32)), .val (.int (((((0 : Int32) + (1 : Int32)) + (1 : Int32)) + (1 : Int32)) + (1 : Int32))), .val (.ref w_4)] [(.int (4 : Int32)), (.int (((((0 : Int32) + (1 : Int32)) + (1 : Int32)) + (1 : Int32)) + (1 : Int32)))])) _
    refine XS.icmpYes X71.here hx rfl (pc0 := 13) (pc' := 48) rfl (hb hby d2_13) rfl (flt (by decide : ¬ ((((((0 : Int32) + (1 : Int32)) + (1 : Int32)) + (1 : Int32)) + (1 : Int32)) < (4 : Int32)))).2.1 (by decide) (by decide) ?_
    show Steps p.tables e below (T71.setTop (mkF m 48 #[.val (.ref w_1), .val (.ref w_1), .val (.ref w_5), .val (.int (4 : Int32)), .val (.int (((((0 : Int32) + (1 : Int32)) + (1 : Int32)) + (1 : Int32)) + (1 : Int32))), .val (.ref w_4)] [])) _
    refine XS.iconst X71.here hx rfl (hb hby d2_48) ?_
    show Steps p.tables e below (T71.setTop (mkF m 49 #[.val (.ref w_1), .val (.ref w_1), .val (.ref w_5), .val (.int (4 : Int32)), .val (.int (((((0 : Int32) + (1 : Int32)) + (1 : Int32)) + (1 : Int32)) + (1 : Int32))), .val (.ref w_4)] [(.int (1 : Int32))])) _
    exact retN X71 hx (t := .boolean) Bd.returns (by simp) (hb hby d2_49) hr
  · show Q2x1 Z w_1 w_2 w_3 w_4 w_5 k_5 h0 n0 _ T71.heap _
    rw [e71]
    exact ⟨by unfold sp2x1; rfl, N71, rfl⟩
theorem pn_1x1 : plainName "com/example/lucid_locks/lucidlocks/locks/LockMode" = true := by first | (simp [plainName, overriddenIn]; done) | decide +kernel
theorem ef_1x1 (m : MethodId) (w_1 : Addr) : entryFrame m #[(.ref w_1), (.ref w_1)] 2 = mkF m 0 #[.val (.ref w_1), .val (.ref w_1)] [] := by first | (simp [entryFrame, mkF, argsToLocals, Value.category]; done) | rfl
def sp1x1 (w_1 : Addr) : Value := (.ref w_1)
def Q1x1 (Z : State) (w_1 : Addr) (w_2 : Addr) (w_3 : Addr) (w_4 : Addr) (w_5 : Addr) (k_5 : ClassId) (h0 : Heap) (n0 : Nat) (v : Option Value) (h : Heap) (L : List Loc) : Prop := v = some (sp1x1 w_1) ∧ Fr n0 L ∧ h = h0
set_option maxRecDepth 65536 in
set_option maxHeartbeats 40000000 in
theorem rm1x1 (l : Launch) (Z : State) (a0 : Array Value) (hw : ∀ d ∈ tables_1, d.before a0 Z = true) (ws : List Jvm.Cond) (w_1 : Addr) (w_2 : Addr) (w_3 : Addr) (w_4 : Addr) (w_5 : Addr) (k_5 : ClassId) (hS : StF Z w_1 w_2 w_3 w_4 w_5 k_5) (h0 : Heap) (n0 : Nat) (O0 : Old Z n0 h0) :
    MetFree l Y2 (head1 (Jvm.Cond.code Y2 prog_17_method_6_code 2 (some (.object "com/example/lucid_locks/lucidlocks/locks/LockMode")) :: ws) ({ frames := 2, cells := 0, slots := 0, locals := 30 } : Room)) (fun a U => a = #[(.ref w_1), (.ref w_1)] ∧ Z.Warmed39 U.vm ∧ U.heap = h0) (fun _ _ _ _ _ => True) (fun _ U o U' => ∃ v L, o = .returned v ∧ Q1x1 Z w_1 w_2 w_3 w_4 w_5 k_5 h0 n0 v U'.heap L ∧ FrameEnd U o U' L ({ frames := 2, cells := 0, slots := 0, locals := 30 } : Room).cells ({ frames := 2, cells := 0, slots := 0, locals := 30 } : Room).slots) := by
  refine MetFree.of_bodySF (plainFor_of_name pn_1x1) hisR ?_
  intro p e s m args below meth c s₁ Bd hml0 hP hK
  obtain ⟨rfl, hZ, hh⟩ := hP
  have hx := Bd.exec
  have hby := Bd.bytes
  have hml : c.maxLocals = 2 := hml0
  have hown : s.vm.findClass "com/example/lucid_locks/lucidlocks/locks/LockMode" = some m.cls := findClass_of_methodNamed Bd.named
  have hnm := (name_of_methodNamed Bd.named Bd.method).1
  have X0 : Stand p l e ({ frames := 2, cells := 0, slots := 0, locals := 30 } : Room) s m #[(.ref w_1), (.ref w_1)] below meth c s₁ [] 0 0 := Stand.of_body Bd
  have e0 : s₁.heap = h0 := by rw [← hh, Bd.state]; rfl
  have N0 := Fr.nil n0
  have hS0 := hS
  obtain ⟨S_1, E_1, S_2, E_2, S_3, E_3, S_4, E_4, S_5, F_1_sharedWithItself, F_1_ordinal, F_2_ordinal, F_4_ordinal, F_3_ordinal, F_4_sharedWithItself, F_2_sharedWithItself, F_3_sharedWithItself, V_5⟩ := hS
  have pre0 : ∀ t, Steps p.tables e below (s₁.setTop (mkF m 0 #[.val (.ref w_1), .val (.ref w_1)] [])) t → Steps p.tables e below (s₁.setTop (entryFrame m #[(.ref w_1), (.ref w_1)] 2)) t := fun t k => castTop (ef_1x1 m w_1) k
  obtain ⟨cq72, kq72, q72a, q72b, q72c⟩ := isOf hZ e0 (E_1.ext O0.2)
  obtain ⟨_, _, ⟨T72, L72, k72, n72⟩, -, X72, ⟨Lc72, hQ72, l72, y72, z72⟩, st72⟩ := X0.virtualBack hx (y := Y1) (z := Y1) hown (mvT hZ (hw _ (tk 17 rfl))) (mvT hZ (hw _ (tk 18 rfl))) (notFace_of_selects (args := #[]) (mvT hZ (hw _ (tk 20 rfl)))) (mvT hZ (hw _ (tk 20 rfl))) (mvT hZ (hw _ (tk 19 rfl))) (by decide) (backOf (W := 0) (rm2x1 l Z a0 hw [] w_1 w_2 w_3 w_4 w_5 k_5 hS0 h0 n0 O0) hZ (hw _ (tk 21 rfl)) (hw _ (tk 3 rfl)) (by decide) (by decide)) q72a q72c (g := (mkF m 2 #[.val (.ref w_1), .val (.ref w_1)] [(.ref w_1), (.ref w_1)])) rfl (by rw [hml]; rfl) (Steps.refl _) (argsL := [(.ref w_1)]) (rest := []) (lenOf pd_0 rfl) rfl (by show 2 * 0 + _ ≤ _; exact Nat.le_of_eq rfl) (hb hby d1_2) (fun _ _ => ⟨rfl, e0, (by decide : 0 + 0 ≤ _), (by decide : 0 + 0 ≤ _)⟩)
  dsimp only [Pt.U, Pt.locs, Pt.cells, Pt.slots] at X72 l72 y72 z72 st72 hQ72
  subst l72 y72 z72
  obtain ⟨rv72, N72q, e72⟩ := hQ72
  rw [show sp2x1 = (1 : Int32) from by unfold sp2x1; rfl] at rv72
  subst rv72
  have N72 := Fr.app N0 N72q
  obtain ⟨fs, hr, hrun, hended, hW, hsame⟩ := X72.leave (v := some (.ref w_1)) (fun h => by rw [Bd.returns] at h; cases h)
  refine ⟨_, _, pre0 _ ?_, hrun, hended, _, _, rfl, ?_, ⟨_, rfl⟩, hW, hsame.mono (by decide) (by decide)⟩
  · show Steps p.tables e below (s₁.setTop (mkF m 0 #[.val (.ref w_1), .val (.ref w_1)] [])) _
    refine XS.aloadN X0.here hx rfl (hb hby d1_0) rfl rfl ?_
    show Steps p.tables e below (s₁.setTop (mkF m 1 #[.val (.ref w_1), .val (.ref w_1)] [(.ref w_1)])) _
    refine XS.aloadN X0.here hx rfl (hb hby d1_1) rfl rfl ?_
    show Steps p.tables e below (s₁.setTop (mkF m 2 #[.val (.ref w_1), .val (.ref w_1)] [(.ref w_1), (.ref w_1)])) _
    refine st72.trans ?_
    show Steps p.tables e below (T72.setTop (mkF m 5 #[.val (.ref w_1), .val (.ref w_1)] [(.int (1 : Int32))])) _
    refine XS.ifNo X72.here hx rfl (hb hby d1_5) rfl ((if0 _ _).trans (feq (by decide : ¬ ((1 : Int32) = (0 : Int32)))).1) ?_
    show Steps p.tables e below (T72.setTop (mkF m 8 #[.val (.ref w_1), .val (.ref w_1)] [])) _
    refine XS.aloadN X72.here hx rfl (hb hby d1_8) rfl rfl ?_
    show Steps p.tables e below (T72.setTop (mkF m 9 #[.val (.ref w_1), .val (.ref w_1)] [(.ref w_1)])) _
    refine XS.goto X72.here hx rfl (pc0 := 9) (pc' := 15) rfl (hb hby d1_9) (by decide) (by decide) ?_
    show Steps p.tables e below (T72.setTop (mkF m 15 #[.val (.ref w_1), .val (.ref w_1)] [(.ref w_1)])) _
    jvm_step X72.here [X72.here.top, hx, (hb hby d1_15), X72.method', Bd.returns, Value.isRef, FieldType.isReference]
    first | (intro acts; rw [hr _ acts rfl rfl rfl]) | rw [hr _ _ rfl rfl rfl]
    exact Steps.refl _
  · show Q1x1 Z w_1 w_2 w_3 w_4 w_5 k_5 h0 n0 _ T72.heap _
    rw [e72]
    exact ⟨by unfold sp1x1; rfl, N72, rfl⟩
theorem pn_2x2 : plainName "com/example/lucid_locks/lucidlocks/locks/LockMode" = true := by first | (simp [plainName, overriddenIn]; done) | decide +kernel
theorem ef_2x2 (m : MethodId) (w_2 : Addr) (w_1 : Addr) : entryFrame m #[(.ref w_2), (.ref w_1)] 6 = mkF m 0 #[.val (.ref w_2), .val (.ref w_1), .unset, .unset, .unset, .unset] [] := by first | (simp [entryFrame, mkF, argsToLocals, Value.category]; done) | rfl
def sp2x2  : Int32 := (0 : Int32)
def Q2x2 (Z : State) (w_1 : Addr) (w_2 : Addr) (w_3 : Addr) (w_4 : Addr) (w_5 : Addr) (k_5 : ClassId) (h0 : Heap) (n0 : Nat) (v : Option Value) (h : Heap) (L : List Loc) : Prop := v = some (.int (sp2x2)) ∧ Fr n0 L ∧ h = h0
set_option maxRecDepth 65536 in
set_option maxHeartbeats 40000000 in
theorem rm2x2 (l : Launch) (Z : State) (a0 : Array Value) (hw : ∀ d ∈ tables_1, d.before a0 Z = true) (ws : List Jvm.Cond) (w_1 : Addr) (w_2 : Addr) (w_3 : Addr) (w_4 : Addr) (w_5 : Addr) (k_5 : ClassId) (hS : StF Z w_1 w_2 w_3 w_4 w_5 k_5) (h0 : Heap) (n0 : Nat) (O0 : Old Z n0 h0) :
    MetFree l Y1 (head1 (Jvm.Cond.code Y1 prog_17_method_7_code 6 (some .boolean) :: ws) ({ frames := 1, cells := 0, slots := 0, locals := 13 } : Room)) (fun a U => a = #[(.ref w_2), (.ref w_1)] ∧ Z.Warmed39 U.vm ∧ U.heap = h0) (fun _ _ _ _ _ => True) (fun _ U o U' => ∃ v L, o = .returned v ∧ Q2x2 Z w_1 w_2 w_3 w_4 w_5 k_5 h0 n0 v U'.heap L ∧ FrameEnd U o U' L ({ frames := 1, cells := 0, slots := 0, locals := 13 } : Room).cells ({ frames := 1, cells := 0, slots := 0, locals := 13 } : Room).slots) := by
  refine MetFree.of_bodySF (plainFor_of_name pn_2x2) hisR ?_
  intro p e s m args below meth c s₁ Bd hml0 hP hK
  obtain ⟨rfl, hZ, hh⟩ := hP
  have hx := Bd.exec
  have hby := Bd.bytes
  have hml : c.maxLocals = 6 := hml0
  have hown : s.vm.findClass "com/example/lucid_locks/lucidlocks/locks/LockMode" = some m.cls := findClass_of_methodNamed Bd.named
  have hnm := (name_of_methodNamed Bd.named Bd.method).1
  have X0 : Stand p l e ({ frames := 1, cells := 0, slots := 0, locals := 13 } : Room) s m #[(.ref w_2), (.ref w_1)] below meth c s₁ [] 0 0 := Stand.of_body Bd
  have e0 : s₁.heap = h0 := by rw [← hh, Bd.state]; rfl
  have N0 := Fr.nil n0
  have hS0 := hS
  obtain ⟨S_1, E_1, S_2, E_2, S_3, E_3, S_4, E_4, S_5, F_1_sharedWithItself, F_1_ordinal, F_2_ordinal, F_4_ordinal, F_3_ordinal, F_4_sharedWithItself, F_2_sharedWithItself, F_3_sharedWithItself, V_5⟩ := hS
  have pre0 : ∀ t, Steps p.tables e below (s₁.setTop (mkF m 0 #[.val (.ref w_2), .val (.ref w_1), .unset, .unset, .unset, .unset] [])) t → Steps p.tables e below (s₁.setTop (entryFrame m #[(.ref w_2), (.ref w_1)] 6)) t := fun t k => castTop (ef_2x2 m w_2 w_1) k
  obtain ⟨T77, X77, e77, st77⟩ := getS2 X0 hx hZ hown (host := "") (Or.inl (hw _ (tk 22 rfl))) Via.refl e0 (S_5.ext O0.2) (g := (mkF m 0 #[.val (.ref w_2), .val (.ref w_1), .unset, .unset, .unset, .unset] [])) rfl (hb hby d2_0)
  obtain ⟨cl78, Ar78, qa78, Sa78, Ma78, Ha78, Ga78⟩ := id (V_5.ext O0.2)
  obtain ⟨cl79, Ar79, qa79, Sa79, Ma79, Ha79, Ga79⟩ := id (V_5.ext O0.2)
  have hin79 : ¬ ((0 : Int32) < 0 ∨ cl79.slots.size ≤ ((0 : Int32)).toNatClampNeg) := by  exact inb_of Sa79 ⟨by decide, by decide⟩
  have hat79 : cl79.slots[((0 : Int32)).toNatClampNeg]? = some (.ref w_1) := Has.at Ha79 hin79 (by rfl)
  obtain ⟨cq80, kq80, q80a, q80b, q80c⟩ := isOf hZ e77 (E_1.ext O0.2)
  obtain ⟨_, _, ⟨T80, L80, k80, n80⟩, -, X80, ⟨Lc80, hQ80, l80, y80, z80⟩, st80⟩ := X77.virtualBack hx (y := Y0) (z := Y0) hown (mvT hZ (hw _ (tk 24 rfl))) (mvT hZ (hw _ (tk 25 rfl))) (notFace_of_selects (args := #[]) (mvT hZ (hw _ (tk 27 rfl)))) (mvT hZ (hw _ (tk 27 rfl))) (mvT hZ (hw _ (tk 26 rfl))) (by decide) (backOf (W := 0) (rm3 l Z a0 hw [] w_1 w_2 w_3 w_4 w_5 k_5 hS0 w_1 w_1 (1 : Int32) h0 n0 O0 (F_1_sharedWithItself.ext O0.2)) hZ (hw _ (tk 28 rfl)) (hw _ (tk 3 rfl)) (by decide) (by decide)) q80a q80c (g := (mkF m 25 #[.val (.ref w_2), .val (.ref w_1), .val (.ref w_5), .val (.int (4 : Int32)), .val (.int (0 : Int32)), .val (.ref w_1)] [(.ref w_1), (.ref w_1)])) rfl (by rw [hml]; rfl) (Steps.refl _) (argsL := [(.ref w_1)]) (rest := []) (lenOf pd_0 rfl) rfl (by show 2 * 0 + _ ≤ _; exact Nat.le_of_eq rfl) (hb hby d2_25) (fun _ _ => ⟨rfl, e77, (by decide : 0 + 0 ≤ _), (by decide : 0 + 0 ≤ _)⟩)
  dsimp only [Pt.U, Pt.locs, Pt.cells, Pt.slots] at X80 l80 y80 z80 st80 hQ80
  subst l80 y80 z80
  obtain ⟨rv80, N80q, e80⟩ := hQ80
  rw [show sp3 w_1 w_1 (1 : Int32) = (0 : Int32) from by unfold sp3; rw [if_pos rfl, if_neg (by decide : ¬ ((1 : Int32) = (0 : Int32)))]] at rv80
  subst rv80
  have N80 := Fr.app N0 N80q
  obtain ⟨cl81, Ar81, qa81, Sa81, Ma81, Ha81, Ga81⟩ := id (V_5.ext O0.2)
  have hin81 : ¬ (((0 : Int32) + (1 : Int32)) < 0 ∨ cl81.slots.size ≤ (((0 : Int32) + (1 : Int32))).toNatClampNeg) := by  exact inb_of Sa81 ⟨by decide, by decide⟩
  have hat81 : cl81.slots[(((0 : Int32) + (1 : Int32))).toNatClampNeg]? = some (.ref w_2) := Has.at Ha81 hin81 (by rfl)
  obtain ⟨cq82, kq82, q82a, q82b, q82c⟩ := isOf hZ e80 (E_1.ext O0.2)
  obtain ⟨_, _, ⟨T82, L82, k82, n82⟩, -, X82, ⟨Lc82, hQ82, l82, y82, z82⟩, st82⟩ := X80.virtualBack hx (y := Y0) (z := Y0) hown (mvT hZ (hw _ (tk 24 rfl))) (mvT hZ (hw _ (tk 25 rfl))) (notFace_of_selects (args := #[]) (mvT hZ (hw _ (tk 27 rfl)))) (mvT hZ (hw _ (tk 27 rfl))) (mvT hZ (hw _ (tk 26 rfl))) (by decide) (backOf (W := 0) (rm3 l Z a0 hw [] w_1 w_2 w_3 w_4 w_5 k_5 hS0 w_1 w_2 (1 : Int32) h0 n0 O0 (F_1_sharedWithItself.ext O0.2)) hZ (hw _ (tk 28 rfl)) (hw _ (tk 3 rfl)) (by decide) (by decide)) q82a q82c (g := (mkF m 25 #[.val (.ref w_2), .val (.ref w_1), .val (.ref w_5), .val (.int (4 : Int32)), .val (.int ((0 : Int32) + (1 : Int32))), .val (.ref w_2)] [(.ref w_2), (.ref w_1)])) rfl (by rw [hml]; rfl) (Steps.refl _) (argsL := [(.ref w_2)]) (rest := []) (lenOf pd_0 rfl) rfl (by show 2 * 0 + _ ≤ _; exact Nat.le_of_eq rfl) (hb hby d2_25) (fun _ _ => ⟨rfl, e80, (by decide : 0 + 0 ≤ _), (by decide : 0 + 0 ≤ _)⟩)
  dsimp only [Pt.U, Pt.locs, Pt.cells, Pt.slots] at X82 l82 y82 z82 st82 hQ82
  subst l82 y82 z82
  obtain ⟨rv82, N82q, e82⟩ := hQ82
  rw [show sp3 w_1 w_2 (1 : Int32) = (1 : Int32) from by unfold sp3; rw [if_neg (Fld.ne F_1_ordinal F_2_ordinal (by decide))]] at rv82
  subst rv82
  have N82 := Fr.app N80 N82q
  obtain ⟨cq83, kq83, q83a, q83b, q83c⟩ := isOf hZ e82 (E_2.ext O0.2)
  obtain ⟨_, _, ⟨T83, L83, k83, n83⟩, -, X83, ⟨Lc83, hQ83, l83, y83, z83⟩, st83⟩ := X82.virtualBack hx (y := Y0) (z := Y0) hown (mvT hZ (hw _ (tk 24 rfl))) (mvT hZ (hw _ (tk 25 rfl))) (notFace_of_selects (args := #[]) (mvT hZ (hw _ (tk 27 rfl)))) (mvT hZ (hw _ (tk 27 rfl))) (mvT hZ (hw _ (tk 26 rfl))) (by decide) (backOf (W := 0) (rm3 l Z a0 hw [] w_1 w_2 w_3 w_4 w_5 k_5 hS0 w_2 w_2 (1 : Int32) h0 n0 O0 (F_2_sharedWithItself.ext O0.2)) hZ (hw _ (tk 28 rfl)) (hw _ (tk 3 rfl)) (by decide) (by decide)) q83a q83c (g := (mkF m 34 #[.val (.ref w_2), .val (.ref w_1), .val (.ref w_5), .val (.int (4 : Int32)), .val (.int ((0 : Int32) + (1 : Int32))), .val (.ref w_2)] [(.ref w_2), (.ref w_2)])) rfl (by rw [hml]; rfl) (Steps.refl _) (argsL := [(.ref w_2)]) (rest := []) (lenOf pd_0 rfl) rfl (by show 2 * 0 + _ ≤ _; exact Nat.le_of_eq rfl) (hb hby d2_34) (fun _ _ => ⟨rfl, e82, (by decide : 0 + 0 ≤ _), (by decide : 0 + 0 ≤ _)⟩)
  dsimp only [Pt.U, Pt.locs, Pt.cells, Pt.slots] at X83 l83 y83 z83 st83 hQ83
  subst l83 y83 z83
  obtain ⟨rv83, N83q, e83⟩ := hQ83
  rw [show sp3 w_2 w_2 (1 : Int32) = (0 : Int32) from by unfold sp3; rw [if_pos rfl, if_neg (by decide : ¬ ((1 : Int32) = (0 : Int32)))]] at rv83
  subst rv83
  have N83 := Fr.app N82 N83q
  obtain ⟨fs, hr, hrun, hended, hW, hsame⟩ := X83.leave (v := some (.int (0 : Int32))) (fun h => by rw [Bd.returns] at h; cases h)
  refine ⟨_, _, pre0 _ ?_, hrun, hended, _, _, rfl, ?_, ⟨_, rfl⟩, hW, hsame.mono (by decide) (by decide)⟩
  · show Steps p.tables e below (s₁.setTop (mkF m 0 #[.val (.ref w_2), .val (.ref w_1), .unset, .unset, .unset, .unset] [])) _
    refine st77 _ ?_
    show Steps p.tables e below (T77.setTop (mkF m 3 #[.val (.ref w_2), .val (.ref w_1), .unset, .unset, .unset, .unset] [(.ref w_5)])) _
    refine XS.astoreN X77.here hx rfl (hb hby d2_3) rfl rfl (l' := #[.val (.ref w_2), .val (.ref w_1), .val (.ref w_5), .unset, .unset, .unset]) rfl ?_
    show Steps p.tables e below (T77.setTop (mkF m 4 #[.val (.ref w_2), .val (.ref w_1), .val (.ref w_5), .unset, .unset, .unset] [])) _
    refine XS.aloadN X77.here hx rfl (hb hby d2_4) rfl rfl ?_
    show Steps p.tables e below (T77.setTop (mkF m 5 #[.val (.ref w_2), .val (.ref w_1), .val (.ref w_5), .unset, .unset, .unset] [(.ref w_5)])) _
    refine X77.arraylength hx (by rw [e77]; exact Ar78.1) (State.isArrayOf_alike hZ.alike Ar78.2.1) (g := (mkF m 5 #[.val (.ref w_2), .val (.ref w_1), .val (.ref w_5), .unset, .unset, .unset] [(.ref w_5)])) rfl rfl (hb hby d2_5) _ ?_
    rw [len_of Sa78 Ma78]
    show Steps p.tables e below (T77.setTop (mkF m 6 #[.val (.ref w_2), .val (.ref w_1), .val (.ref w_5), .unset, .unset, .unset] [(.int (4 : Int32))])) _
    refine XS.istoreN X77.here hx rfl (hb hby d2_6) rfl (l' := #[.val (.ref w_2), .val (.ref w_1), .val (.ref w_5), .val (.int (4 : Int32)), .unset, .unset]) rfl ?_
    show Steps p.tables e below (T77.setTop (mkF m 7 #[.val (.ref w_2), .val (.ref w_1), .val (.ref w_5), .val (.int (4 : Int32)), .unset, .unset] [])) _
    refine XS.iconst X77.here hx rfl (hb hby d2_7) ?_
    show Steps p.tables e below (T77.setTop (mkF m 8 #[.val (.ref w_2), .val (.ref w_1), .val (.ref w_5), .val (.int (4 : Int32)), .unset, .unset] [(.int (0 : Int32))])) _
    refine XS.istore X77.here hx rfl (hb hby d2_8) rfl (l' := #[.val (.ref w_2), .val (.ref w_1), .val (.ref w_5), .val (.int (4 : Int32)), .val (.int (0 : Int32)), .unset]) rfl ?_
    show Steps p.tables e below (T77.setTop (mkF m 10 #[.val (.ref w_2), .val (.ref w_1), .val (.ref w_5), .val (.int (4 : Int32)), .val (.int (0 : Int32)), .unset] [])) _
    refine XS.iload X77.here hx rfl (hb hby d2_10) rfl ?_
    show Steps p.tables e below (T77.setTop (mkF m 12 #[.val (.ref w_2), .val (.ref w_1), .val (.ref w_5), .val (.int (4 : Int32)), .val (.int (0 : Int32)), .unset] [(.int (0 : Int32))])) _
    refine XS.iloadN X77.here hx rfl (hb hby d2_12) rfl ?_
    show Steps p.tables e below (T77.setTop (mkF m 13 #[.val (.ref w_2), .val (.ref w_1), .val (.ref w_5), .val (.int (4 : Int32)), .val (.int (0 : Int32)), .unset] [(.int (4 : Int32)), (.int (0 : Int32))])) _
    refine XS.icmpNo X77.here hx rfl (hb hby d2_13) rfl (tlt (by decide : ((0 : Int32) < (4 : Int32)))).2.1 ?_
    show Steps p.tables e below (T77.setTop (mkF m 16 #[.val (.ref w_2), .val (.ref w_1), .val (.ref w_5), .val (.int (4 : Int32)), .val (.int (0 : Int32)), .unset] [])) _
    refine XS.aloadN X77.here hx rfl (hb hby d2_16) rfl rfl ?_
    show Steps p.tables e below (T77.setTop (mkF m 17 #[.val (.ref w_2), .val (.ref w_1), .val (.ref w_5), .val (.int (4 : Int32)), .val (.int (0 : Int32)), .unset] [(.ref w_5)])) _
    refine XS.iload X77.here hx rfl (hb hby d2_17) rfl ?_
    show Steps p.tables e below (T77.setTop (mkF m 19 #[.val (.ref w_2), .val (.ref w_1), .val (.ref w_5), .val (.int (4 : Int32)), .val (.int (0 : Int32)), .unset] [(.int (0 : Int32)), (.ref w_5)])) _
    refine X77.aaload hx (j := (0 : Int32)) (v := (.ref w_1)) (by rw [e77]; exact Ar79.1) (State.isArrayOf_alike hZ.alike Ar79.2.1) rfl Ar79.2.2 hin79 hat79 (g := (mkF m 19 #[.val (.ref w_2), .val (.ref w_1), .val (.ref w_5), .val (.int (4 : Int32)), .val (.int (0 : Int32)), .unset] [(.int (0 : Int32)), (.ref w_5)])) rfl rfl (hb hby d2_19) _ ?_
    show Steps p.tables e below (T77.setTop (mkF m 20 #[.val (.ref w_2), .val (.ref w_1), .val (.ref w_5), .val (.int (4 : Int32)), .val (.int (0 : Int32)), .unset] [(.ref w_1)])) _
    refine XS.astore X77.here hx rfl (hb hby d2_20) rfl rfl (l' := #[.val (.ref w_2), .val (.ref w_1), .val (.ref w_5), .val (.int (4 : Int32)), .val (.int (0 : Int32)), .val (.ref w_1)]) rfl ?_
    show Steps p.tables e below (T77.setTop (mkF m 22 #[.val (.ref w_2), .val (.ref w_1), .val (.ref w_5), .val (.int (4 : Int32)), .val (.int (0 : Int32)), .val (.ref w_1)] [])) _
    refine XS.aloadN X77.here hx rfl (hb hby d2_22) rfl rfl ?_
    show Steps p.tables e below (T77.setTop (mkF m 23 #[.val (.ref w_2), .val (.ref w_1), .val (.ref w_5), .val (.int (4 : Int32)), .val (.int (0 : Int32)), .val (.ref w_1)] [(.ref w_1)])) _
    refine XS.aload X77.here hx rfl (hb hby d2_23) rfl rfl ?_
    show Steps p.tables e below (T77.setTop (mkF m 25 #[.val (.ref w_2), .val (.ref w_1), .val (.ref w_5), .val (.int (4 : Int32)), .val (.int (0 : Int32)), .val (.ref w_1)] [(.ref w_1), (.ref w_1)])) _
    refine st80.trans ?_
    show Steps p.tables e below (T80.setTop (mkF m 28 #[.val (.ref w_2), .val (.ref w_1), .val (.ref w_5), .val (.int (4 : Int32)), .val (.int (0 : Int32)), .val (.ref w_1)] [(.int (0 : Int32))])) _
    refine XS.ifYes X80.here hx rfl (pc0 := 28) (pc' := 42) rfl (hb hby d2_28) rfl ((if0 _ _).trans (teq (by decide : ((0 : Int32) = (0 : Int32)))).1) (by decide) (by decide) ?_
    show Steps p.tables e below (T80.setTop (mkF m 42 #[.val (.ref w_2), .val (.ref w_1), .val (.ref w_5), .val (.int (4 : Int32)), .val (.int (0 : Int32)), .val (.ref w_1)] [])) _
    refine XS.iinc X80.here hx rfl (hb hby d2_42) rfl (l' := #[.val (.ref w_2), .val (.ref w_1), .val (.ref w_5), .val (.int (4 : Int32)), .val (.int ((0 : Int32) + (1 : Int32))), .val (.ref w_1)]) rfl ?_
    show Steps p.tables e below (T80.setTop (mkF m 45 #[.val (.ref w_2), .val (.ref w_1), .val (.ref w_5), .val (.int (4 : Int32)), .val (.int ((0 : Int32) + (1 : Int32))), .val (.ref w_1)] [])) _
    refine XS.goto X80.here hx rfl (pc0 := 45) (pc' := 10) rfl (hb hby d2_45) (by decide) (by decide) ?_
    show Steps p.tables e below (T80.setTop (mkF m 10 #[.val (.ref w_2), .val (.ref w_1), .val (.ref w_5), .val (.int (4 : Int32)), .val (.int ((0 : Int32) + (1 : Int32))), .val (.ref w_1)] [])) _
    refine XS.iload X80.here hx rfl (hb hby d2_10) rfl ?_
    show Steps p.tables e below (T80.setTop (mkF m 12 #[.val (.ref w_2), .val (.ref w_1), .val (.ref w_5), .val (.int (4 : Int32)), .val (.int ((0 : Int32) + (1 : Int32))), .val (.ref w_1)] [(.int ((0 : Int32) + (1 : Int32)))])) _
    refine XS.iloadN X80.here hx rfl (hb hby d2_12) rfl ?_
    show Steps p.tables e below (T80.setTop (mkF m 13 #[.val (.ref w_2), .val (.ref w_1), .val (.ref w_5), .val (.int (4 : Int32)), .val (.int ((0 : Int32) + (1 : Int32))), .val (.ref w_1)] [(.int (4 : Int32)), (.int ((0 : Int32) + (1 : Int32)))])) _
    refine XS.icmpNo X80.here hx rfl (hb hby d2_13) rfl (tlt (by decide : (((0 : Int32) + (1 : Int32)) < (4 : Int32)))).2.1 ?_
    show Steps p.tables e below (T80.setTop (mkF m 16 #[.val (.ref w_2), .val (.ref w_1), .val (.ref w_5), .val (.int (4 : Int32)), .val (.int ((0 : Int32) + (1 : Int32))), .val (.ref w_1)] [])) _
    refine XS.aloadN X80.here hx rfl (hb hby d2_16) rfl rfl ?_
    show Steps p.tables e below (T80.setTop (mkF m 17 #[.val (.ref w_2), .val (.ref w_1), .val (.ref w_5), .val (.int (4 : Int32)), .val (.int ((0 : Int32) + (1 : Int32))), .val (.ref w_1)] [(.ref w_5)])) _
    refine XS.iload X80.here hx rfl (hb hby d2_17) rfl ?_
    show Steps p.tables e below (T80.setTop (mkF m 19 #[.val (.ref w_2), .val (.ref w_1), .val (.ref w_5), .val (.int (4 : Int32)), .val (.int ((0 : Int32) + (1 : Int32))), .val (.ref w_1)] [(.int ((0 : Int32) + (1 : Int32))), (.ref w_5)])) _
    refine X80.aaload hx (j := ((0 : Int32) + (1 : Int32))) (v := (.ref w_2)) (by rw [e80]; exact Ar81.1) (State.isArrayOf_alike hZ.alike Ar81.2.1) rfl Ar81.2.2 hin81 hat81 (g := (mkF m 19 #[.val (.ref w_2), .val (.ref w_1), .val (.ref w_5), .val (.int (4 : Int32)), .val (.int ((0 : Int32) + (1 : Int32))), .val (.ref w_1)] [(.int ((0 : Int32) + (1 : Int32))), (.ref w_5)])) rfl rfl (hb hby d2_19) _ ?_
    show Steps p.tables e below (T80.setTop (mkF m 20 #[.val (.ref w_2), .val (.ref w_1), .val (.ref w_5), .val (.int (4 : Int32)), .val (.int ((0 : Int32) + (1 : Int32))), .val (.ref w_1)] [(.ref w_2)])) _
    refine XS.astore X80.here hx rfl (hb hby d2_20) rfl rfl (l' := #[.val (.ref w_2), .val (.ref w_1), .val (.ref w_5), .val (.int (4 : Int32)), .val (.int ((0 : Int32) + (1 : Int32))), .val (.ref w_2)]) rfl ?_
    show Steps p.tables e below (T80.setTop (mkF m 22 #[.val (.ref w_2), .val (.ref w_1), .val (.ref w_5), .val (.int (4 : Int32)), .val (.int ((0 : Int32) + (1 : Int32))), .val (.ref w_2)] [])) _
    refine XS.aloadN X80.here hx rfl (hb hby d2_22) rfl rfl ?_
    show Steps p.tables e below (T80.setTop (mkF m 23 #[.val (.ref w_2), .val (.ref w_1), .val (.ref w_5), .val (.int (4 : Int32)), .val (.int ((0 : Int32) + (1 : Int32))), .val (.ref w_2)] [(.ref w_1)])) _
    refine XS.aload X80.here hx rfl (hb hby d2_23) rfl rfl ?_
    show Steps p.tables e below (T80.setTop (mkF m 25 #[.val (.ref w_2), .val (.ref w_1), .val (.ref w_5), .val (.int (4 : Int32)), .val (.int ((0 : Int32) + (1 : Int32))), .val (.ref w_2)] [(.ref w_2), (.ref w_1)])) _
    refine st82.trans ?_
    show Steps p.tables e below (T82.setTop (mkF m 28 #[.val (.ref w_2), .val (.ref w_1), .val (.ref w_5), .val (.int (4 : Int32)), .val (.int ((0 : Int32) + (1 : Int32))), .val (.ref w_2)] [(.int (1 : Int32))])) _
    refine XS.ifNo X82.here hx rfl (hb hby d2_28) rfl ((if0 _ _).trans (feq (by decide : ¬ ((1 : Int32) = (0 : Int32)))).1) ?_
    show Steps p.tables e below (T82.setTop (mkF m 31 #[.val (.ref w_2), .val (.ref w_1), .val (.ref w_5), .val (.int (4 : Int32)), .val (.int ((0 : Int32) + (1 : Int32))), .val (.ref w_2)] [])) _
    refine XS.aloadN X82.here hx rfl (hb hby d2_31) rfl rfl ?_
    show Steps p.tables e below (T82.setTop (mkF m 32 #[.val (.ref w_2), .val (.ref w_1), .val (.ref w_5), .val (.int (4 : Int32)), .val (.int ((0 : Int32) + (1 : Int32))), .val (.ref w_2)] [(.ref w_2)])) _
    refine XS.aload X82.here hx rfl (hb hby d2_32) rfl rfl ?_
    show Steps p.tables e below (T82.setTop (mkF m 34 #[.val (.ref w_2), .val (.ref w_1), .val (.ref w_5), .val (.int (4 : Int32)), .val (.int ((0 : Int32) + (1 : Int32))), .val (.ref w_2)] [(.ref w_2), (.ref w_2)])) _
    refine st83.trans ?_
    show Steps p.tables e below (T83.setTop (mkF m 37 #[.val (.ref w_2), .val (.ref w_1), .val (.ref w_5), .val (.int (4 : Int32)), .val (.int ((0 : Int32) + (1 : Int32))), .val (.ref w_2)] [(.int (0 : Int32))])) _
    refine XS.ifNo X83.here hx rfl (hb hby d2_37) rfl ((if0 _ _).trans (teq (by decide : ((0 : Int32) = (0 : Int32)))).2) ?_
    show Steps p.tables e below (T83.setTop (mkF m 40 #[.val (.ref w_2), .val (.ref w_1), .val (.ref w_5), .val (.int (4 : Int32)), .val (.int ((0 : Int32) + (1 : Int32))), .val (.ref w_2)] [])) _
    refine XS.iconst X83.here hx rfl (hb hby d2_40) ?_
    show Steps p.tables e below (T83.setTop (mkF m 41 #[.val (.ref w_2), .val (.ref w_1), .val (.ref w_5), .val (.int (4 : Int32)), .val (.int ((0 : Int32) + (1 : Int32))), .val (.ref w_2)] [(.int (0 : Int32))])) _
    exact retN X83 hx (t := .boolean) Bd.returns (by simp) (hb hby d2_41) hr
  · show Q2x2 Z w_1 w_2 w_3 w_4 w_5 k_5 h0 n0 _ T83.heap _
    rw [e83]
    exact ⟨by unfold sp2x2; rfl, N83, rfl⟩
theorem pn_1x2 : plainName "com/example/lucid_locks/lucidlocks/locks/LockMode" = true := by first | (simp [plainName, overriddenIn]; done) | decide +kernel
theorem ef_1x2 (m : MethodId) (w_1 : Addr) (w_2 : Addr) : entryFrame m #[(.ref w_1), (.ref w_2)] 2 = mkF m 0 #[.val (.ref w_1), .val (.ref w_2)] [] := by first | (simp [entryFrame, mkF, argsToLocals, Value.category]; done) | rfl
def sp1x2 (w_3 : Addr) : Value := (.ref w_3)
def Q1x2 (Z : State) (w_1 : Addr) (w_2 : Addr) (w_3 : Addr) (w_4 : Addr) (w_5 : Addr) (k_5 : ClassId) (h0 : Heap) (n0 : Nat) (v : Option Value) (h : Heap) (L : List Loc) : Prop := v = some (sp1x2 w_3) ∧ Fr n0 L ∧ h = h0
set_option maxRecDepth 65536 in
set_option maxHeartbeats 40000000 in
theorem rm1x2 (l : Launch) (Z : State) (a0 : Array Value) (hw : ∀ d ∈ tables_1, d.before a0 Z = true) (ws : List Jvm.Cond) (w_1 : Addr) (w_2 : Addr) (w_3 : Addr) (w_4 : Addr) (w_5 : Addr) (k_5 : ClassId) (hS : StF Z w_1 w_2 w_3 w_4 w_5 k_5) (h0 : Heap) (n0 : Nat) (O0 : Old Z n0 h0) :
    MetFree l Y2 (head1 (Jvm.Cond.code Y2 prog_17_method_6_code 2 (some (.object "com/example/lucid_locks/lucidlocks/locks/LockMode")) :: ws) ({ frames := 2, cells := 0, slots := 0, locals := 30 } : Room)) (fun a U => a = #[(.ref w_1), (.ref w_2)] ∧ Z.Warmed39 U.vm ∧ U.heap = h0) (fun _ _ _ _ _ => True) (fun _ U o U' => ∃ v L, o = .returned v ∧ Q1x2 Z w_1 w_2 w_3 w_4 w_5 k_5 h0 n0 v U'.heap L ∧ FrameEnd U o U' L ({ frames := 2, cells := 0, slots := 0, locals := 30 } : Room).cells ({ frames := 2, cells := 0, slots := 0, locals := 30 } : Room).slots) := by
  refine MetFree.of_bodySF (plainFor_of_name pn_1x2) hisR ?_
  intro p e s m args below meth c s₁ Bd hml0 hP hK
  obtain ⟨rfl, hZ, hh⟩ := hP
  have hx := Bd.exec
  have hby := Bd.bytes
  have hml : c.maxLocals = 2 := hml0
  have hown : s.vm.findClass "com/example/lucid_locks/lucidlocks/locks/LockMode" = some m.cls := findClass_of_methodNamed Bd.named
  have hnm := (name_of_methodNamed Bd.named Bd.method).1
  have X0 : Stand p l e ({ frames := 2, cells := 0, slots := 0, locals := 30 } : Room) s m #[(.ref w_1), (.ref w_2)] below meth c s₁ [] 0 0 := Stand.of_body Bd
  have e0 : s₁.heap = h0 := by rw [← hh, Bd.state]; rfl
  have N0 := Fr.nil n0
  have hS0 := hS
  obtain ⟨S_1, E_1, S_2, E_2, S_3, E_3, S_4, E_4, S_5, F_1_sharedWithItself, F_1_ordinal, F_2_ordinal, F_4_ordinal, F_3_ordinal, F_4_sharedWithItself, F_2_sharedWithItself, F_3_sharedWithItself, V_5⟩ := hS
  have pre0 : ∀ t, Steps p.tables e below (s₁.setTop (mkF m 0 #[.val (.ref w_1), .val (.ref w_2)] [])) t → Steps p.tables e below (s₁.setTop (entryFrame m #[(.ref w_1), (.ref w_2)] 2)) t := fun t k => castTop (ef_1x2 m w_1 w_2) k
  obtain ⟨cq84, kq84, q84a, q84b, q84c⟩ := isOf hZ e0 (E_2.ext O0.2)
  obtain ⟨_, _, ⟨T84, L84, k84, n84⟩, -, X84, ⟨Lc84, hQ84, l84, y84, z84⟩, st84⟩ := X0.virtualBack hx (y := Y1) (z := Y1) hown (mvT hZ (hw _ (tk 17 rfl))) (mvT hZ (hw _ (tk 18 rfl))) (notFace_of_selects (args := #[]) (mvT hZ (hw _ (tk 20 rfl)))) (mvT hZ (hw _ (tk 20 rfl))) (mvT hZ (hw _ (tk 19 rfl))) (by decide) (backOf (W := 0) (rm2x2 l Z a0 hw [] w_1 w_2 w_3 w_4 w_5 k_5 hS0 h0 n0 O0) hZ (hw _ (tk 21 rfl)) (hw _ (tk 3 rfl)) (by decide) (by decide)) q84a q84c (g := (mkF m 2 #[.val (.ref w_1), .val (.ref w_2)] [(.ref w_1), (.ref w_2)])) rfl (by rw [hml]; rfl) (Steps.refl _) (argsL := [(.ref w_1)]) (rest := []) (lenOf pd_0 rfl) rfl (by show 2 * 0 + _ ≤ _; exact Nat.le_of_eq rfl) (hb hby d1_2) (fun _ _ => ⟨rfl, e0, (by decide : 0 + 0 ≤ _), (by decide : 0 + 0 ≤ _)⟩)
  dsimp only [Pt.U, Pt.locs, Pt.cells, Pt.slots] at X84 l84 y84 z84 st84 hQ84
  subst l84 y84 z84
  obtain ⟨rv84, N84q, e84⟩ := hQ84
  rw [show sp2x2 = (0 : Int32) from by unfold sp2x2; rfl] at rv84
  subst rv84
  have N84 := Fr.app N0 N84q
  obtain ⟨T85, X85, e85, st85⟩ := getS2 X84 hx hZ hown (host := "") (Or.inl (hw _ (tk 31 rfl))) Via.refl e84 (S_3.ext O0.2) (g := (mkF m 12 #[.val (.ref w_1), .val (.ref w_2)] [])) rfl (hb hby d1_12)
  obtain ⟨fs, hr, hrun, hended, hW, hsame⟩ := X85.leave (v := some (.ref w_3)) (fun h => by rw [Bd.returns] at h; cases h)
  refine ⟨_, _, pre0 _ ?_, hrun, hended, _, _, rfl, ?_, ⟨_, rfl⟩, hW, hsame.mono (by decide) (by decide)⟩
  · show Steps p.tables e below (s₁.setTop (mkF m 0 #[.val (.ref w_1), .val (.ref w_2)] [])) _
    refine XS.aloadN X0.here hx rfl (hb hby d1_0) rfl rfl ?_
    show Steps p.tables e below (s₁.setTop (mkF m 1 #[.val (.ref w_1), .val (.ref w_2)] [(.ref w_2)])) _
    refine XS.aloadN X0.here hx rfl (hb hby d1_1) rfl rfl ?_
    show Steps p.tables e below (s₁.setTop (mkF m 2 #[.val (.ref w_1), .val (.ref w_2)] [(.ref w_1), (.ref w_2)])) _
    refine st84.trans ?_
    show Steps p.tables e below (T84.setTop (mkF m 5 #[.val (.ref w_1), .val (.ref w_2)] [(.int (0 : Int32))])) _
    refine XS.ifYes X84.here hx rfl (pc0 := 5) (pc' := 12) rfl (hb hby d1_5) rfl ((if0 _ _).trans (teq (by decide : ((0 : Int32) = (0 : Int32)))).1) (by decide) (by decide) ?_
    show Steps p.tables e below (T84.setTop (mkF m 12 #[.val (.ref w_1), .val (.ref w_2)] [])) _
    refine st85 _ ?_
    show Steps p.tables e below (T85.setTop (mkF m 15 #[.val (.ref w_1), .val (.ref w_2)] [(.ref w_3)])) _
    jvm_step X85.here [X85.here.top, hx, (hb hby d1_15), X85.method', Bd.returns, Value.isRef, FieldType.isReference]
    first | (intro acts; rw [hr _ acts rfl rfl rfl]) | rw [hr _ _ rfl rfl rfl]
    exact Steps.refl _
  · show Q1x2 Z w_1 w_2 w_3 w_4 w_5 k_5 h0 n0 _ T85.heap _
    rw [e85]
    exact ⟨by unfold sp1x2; rfl, N84, rfl⟩
theorem pn_2x3 : plainName "com/example/lucid_locks/lucidlocks/locks/LockMode" = true := by first | (simp [plainName, overriddenIn]; done) | decide +kernel
theorem ef_2x3 (m : MethodId) (w_3 : Addr) (w_1 : Addr) : entryFrame m #[(.ref w_3), (.ref w_1)] 6 = mkF m 0 #[.val (.ref w_3), .val (.ref w_1), .unset, .unset, .unset, .unset] [] := by first | (simp [entryFrame, mkF, argsToLocals, Value.category]; done) | rfl
def sp2x3  : Int32 := (1 : Int32)
def Q2x3 (Z : State) (w_1 : Addr) (w_2 : Addr) (w_3 : Addr) (w_4 : Addr) (w_5 : Addr) (k_5 : ClassId) (h0 : Heap) (n0 : Nat) (v : Option Value) (h : Heap) (L : List Loc) : Prop := v = some (.int (sp2x3)) ∧ Fr n0 L ∧ h = h0
set_option maxRecDepth 65536 in
set_option maxHeartbeats 40000000 in
theorem rm2x3 (l : Launch) (Z : State) (a0 : Array Value) (hw : ∀ d ∈ tables_1, d.before a0 Z = true) (ws : List Jvm.Cond) (w_1 : Addr) (w_2 : Addr) (w_3 : Addr) (w_4 : Addr) (w_5 : Addr) (k_5 : ClassId) (hS : StF Z w_1 w_2 w_3 w_4 w_5 k_5) (h0 : Heap) (n0 : Nat) (O0 : Old Z n0 h0) :
    MetFree l Y1 (head1 (Jvm.Cond.code Y1 prog_17_method_7_code 6 (some .boolean) :: ws) ({ frames := 1, cells := 0, slots := 0, locals := 13 } : Room)) (fun a U => a = #[(.ref w_3), (.ref w_1)] ∧ Z.Warmed39 U.vm ∧ U.heap = h0) (fun _ _ _ _ _ => True) (fun _ U o U' => ∃ v L, o = .returned v ∧ Q2x3 Z w_1 w_2 w_3 w_4 w_5 k_5 h0 n0 v U'.heap L ∧ FrameEnd U o U' L ({ frames := 1, cells := 0, slots := 0, locals := 13 } : Room).cells ({ frames := 1, cells := 0, slots := 0, locals := 13 } : Room).slots) := by
  refine MetFree.of_bodySF (plainFor_of_name pn_2x3) hisR ?_
  intro p e s m args below meth c s₁ Bd hml0 hP hK
  obtain ⟨rfl, hZ, hh⟩ := hP
  have hx := Bd.exec
  have hby := Bd.bytes
  have hml : c.maxLocals = 6 := hml0
  have hown : s.vm.findClass "com/example/lucid_locks/lucidlocks/locks/LockMode" = some m.cls := findClass_of_methodNamed Bd.named
  have hnm := (name_of_methodNamed Bd.named Bd.method).1
  have X0 : Stand p l e ({ frames := 1, cells := 0, slots := 0, locals := 13 } : Room) s m #[(.ref w_3), (.ref w_1)] below meth c s₁ [] 0 0 := Stand.of_body Bd
  have e0 : s₁.heap = h0 := by rw [← hh, Bd.state]; rfl
  have N0 := Fr.nil n0
  have hS0 := hS
  obtain ⟨S_1, E_1, S_2, E_2, S_3, E_3, S_4, E_4, S_5, F_1_sharedWithItself, F_1_ordinal, F_2_ordinal, F_4_ordinal, F_3_ordinal, F_4_sharedWithItself, F_2_sharedWithItself, F_3_sharedWithItself, V_5⟩ := hS
  have pre0 : ∀ t, Steps p.tables e below (s₁.setTop (mkF m 0 #[.val (.ref w_3), .val (.ref w_1), .unset, .unset, .unset, .unset] [])) t → Steps p.tables e below (s₁.setTop (entryFrame m #[(.ref w_3), (.ref w_1)] 6)) t := fun t k => castTop (ef_2x3 m w_3 w_1) k
  obtain ⟨T89, X89, e89, st89⟩ := getS2 X0 hx hZ hown (host := "") (Or.inl (hw _ (tk 22 rfl))) Via.refl e0 (S_5.ext O0.2) (g := (mkF m 0 #[.val (.ref w_3), .val (.ref w_1), .unset, .unset, .unset, .unset] [])) rfl (hb hby d2_0)
  obtain ⟨cl90, Ar90, qa90, Sa90, Ma90, Ha90, Ga90⟩ := id (V_5.ext O0.2)
  obtain ⟨cl91, Ar91, qa91, Sa91, Ma91, Ha91, Ga91⟩ := id (V_5.ext O0.2)
  have hin91 : ¬ ((0 : Int32) < 0 ∨ cl91.slots.size ≤ ((0 : Int32)).toNatClampNeg) := by  exact inb_of Sa91 ⟨by decide, by decide⟩
  have hat91 : cl91.slots[((0 : Int32)).toNatClampNeg]? = some (.ref w_1) := Has.at Ha91 hin91 (by rfl)
  obtain ⟨cq92, kq92, q92a, q92b, q92c⟩ := isOf hZ e89 (E_1.ext O0.2)
  obtain ⟨_, _, ⟨T92, L92, k92, n92⟩, -, X92, ⟨Lc92, hQ92, l92, y92, z92⟩, st92⟩ := X89.virtualBack hx (y := Y0) (z := Y0) hown (mvT hZ (hw _ (tk 24 rfl))) (mvT hZ (hw _ (tk 25 rfl))) (notFace_of_selects (args := #[]) (mvT hZ (hw _ (tk 27 rfl)))) (mvT hZ (hw _ (tk 27 rfl))) (mvT hZ (hw _ (tk 26 rfl))) (by decide) (backOf (W := 0) (rm3 l Z a0 hw [] w_1 w_2 w_3 w_4 w_5 k_5 hS0 w_1 w_1 (1 : Int32) h0 n0 O0 (F_1_sharedWithItself.ext O0.2)) hZ (hw _ (tk 28 rfl)) (hw _ (tk 3 rfl)) (by decide) (by decide)) q92a q92c (g := (mkF m 25 #[.val (.ref w_3), .val (.ref w_1), .val (.ref w_5), .val (.int (4 : Int32)), .val (.int (0 : Int32)), .val (.ref w_1)] [(.ref w_1), (.ref w_1)])) rfl (by rw [hml]; rfl) (Steps.refl _) (argsL := [(.ref w_1)]) (rest := []) (lenOf pd_0 rfl) rfl (by show 2 * 0 + _ ≤ _; exact Nat.le_of_eq rfl) (hb hby d2_25) (fun _ _ => ⟨rfl, e89, (by decide : 0 + 0 ≤ _), (by decide : 0 + 0 ≤ _)⟩)
  dsimp only [Pt.U, Pt.locs, Pt.cells, Pt.slots] at X92 l92 y92 z92 st92 hQ92
  subst l92 y92 z92
  obtain ⟨rv92, N92q, e92⟩ := hQ92
  rw [show sp3 w_1 w_1 (1 : Int32) = (0 : Int32) from by unfold sp3; rw [if_pos rfl, if_neg (by decide : ¬ ((1 : Int32) = (0 : Int32)))]] at rv92
  subst rv92
  have N92 := Fr.app N0 N92q
  obtain ⟨cl93, Ar93, qa93, Sa93, Ma93, Ha93, Ga93⟩ := id (V_5.ext O0.2)
  have hin93 : ¬ (((0 : Int32) + (1 : Int32)) < 0 ∨ cl93.slots.size ≤ (((0 : Int32) + (1 : Int32))).toNatClampNeg) := by  exact inb_of Sa93 ⟨by decide, by decide⟩
  have hat93 : cl93.slots[(((0 : Int32) + (1 : Int32))).toNatClampNeg]? = some (.ref w_2) := Has.at Ha93 hin93 (by rfl)
  obtain ⟨cq94, kq94, q94a, q94b, q94c⟩ := isOf hZ e92 (E_1.ext O0.2)
  obtain ⟨_, _, ⟨T94, L94, k94, n94⟩, -, X94, ⟨Lc94, hQ94, l94, y94, z94⟩, st94⟩ := X92.virtualBack hx (y := Y0) (z := Y0) hown (mvT hZ (hw _ (tk 24 rfl))) (mvT hZ (hw _ (tk 25 rfl))) (notFace_of_selects (args := #[]) (mvT hZ (hw _ (tk 27 rfl)))) (mvT hZ (hw _ (tk 27 rfl))) (mvT hZ (hw _ (tk 26 rfl))) (by decide) (backOf (W := 0) (rm3 l Z a0 hw [] w_1 w_2 w_3 w_4 w_5 k_5 hS0 w_1 w_2 (1 : Int32) h0 n0 O0 (F_1_sharedWithItself.ext O0.2)) hZ (hw _ (tk 28 rfl)) (hw _ (tk 3 rfl)) (by decide) (by decide)) q94a q94c (g := (mkF m 25 #[.val (.ref w_3), .val (.ref w_1), .val (.ref w_5), .val (.int (4 : Int32)), .val (.int ((0 : Int32) + (1 : Int32))), .val (.ref w_2)] [(.ref w_2), (.ref w_1)])) rfl (by rw [hml]; rfl) (Steps.refl _) (argsL := [(.ref w_2)]) (rest := []) (lenOf pd_0 rfl) rfl (by show 2 * 0 + _ ≤ _; exact Nat.le_of_eq rfl) (hb hby d2_25) (fun _ _ => ⟨rfl, e92, (by decide : 0 + 0 ≤ _), (by decide : 0 + 0 ≤ _)⟩)
  dsimp only [Pt.U, Pt.locs, Pt.cells, Pt.slots] at X94 l94 y94 z94 st94 hQ94
  subst l94 y94 z94
  obtain ⟨rv94, N94q, e94⟩ := hQ94
  rw [show sp3 w_1 w_2 (1 : Int32) = (1 : Int32) from by unfold sp3; rw [if_neg (Fld.ne F_1_ordinal F_2_ordinal (by decide))]] at rv94
  subst rv94
  have N94 := Fr.app N92 N94q
  obtain ⟨cq95, kq95, q95a, q95b, q95c⟩ := isOf hZ e94 (E_3.ext O0.2)
  obtain ⟨_, _, ⟨T95, L95, k95, n95⟩, -, X95, ⟨Lc95, hQ95, l95, y95, z95⟩, st95⟩ := X94.virtualBack hx (y := Y0) (z := Y0) hown (mvT hZ (hw _ (tk 24 rfl))) (mvT hZ (hw _ (tk 25 rfl))) (notFace_of_selects (args := #[]) (mvT hZ (hw _ (tk 27 rfl)))) (mvT hZ (hw _ (tk 27 rfl))) (mvT hZ (hw _ (tk 26 rfl))) (by decide) (backOf (W := 0) (rm3 l Z a0 hw [] w_1 w_2 w_3 w_4 w_5 k_5 hS0 w_3 w_2 (0 : Int32) h0 n0 O0 (F_3_sharedWithItself.ext O0.2)) hZ (hw _ (tk 28 rfl)) (hw _ (tk 3 rfl)) (by decide) (by decide)) q95a q95c (g := (mkF m 34 #[.val (.ref w_3), .val (.ref w_1), .val (.ref w_5), .val (.int (4 : Int32)), .val (.int ((0 : Int32) + (1 : Int32))), .val (.ref w_2)] [(.ref w_2), (.ref w_3)])) rfl (by rw [hml]; rfl) (Steps.refl _) (argsL := [(.ref w_2)]) (rest := []) (lenOf pd_0 rfl) rfl (by show 2 * 0 + _ ≤ _; exact Nat.le_of_eq rfl) (hb hby d2_34) (fun _ _ => ⟨rfl, e94, (by decide : 0 + 0 ≤ _), (by decide : 0 + 0 ≤ _)⟩)
  dsimp only [Pt.U, Pt.locs, Pt.cells, Pt.slots] at X95 l95 y95 z95 st95 hQ95
  subst l95 y95 z95
  obtain ⟨rv95, N95q, e95⟩ := hQ95
  rw [show sp3 w_3 w_2 (0 : Int32) = (1 : Int32) from by unfold sp3; rw [if_neg (Fld.ne F_3_ordinal F_2_ordinal (by decide))]] at rv95
  subst rv95
  have N95 := Fr.app N94 N95q
  obtain ⟨cl96, Ar96, qa96, Sa96, Ma96, Ha96, Ga96⟩ := id (V_5.ext O0.2)
  have hin96 : ¬ ((((0 : Int32) + (1 : Int32)) + (1 : Int32)) < 0 ∨ cl96.slots.size ≤ ((((0 : Int32) + (1 : Int32)) + (1 : Int32))).toNatClampNeg) := by  exact inb_of Sa96 ⟨by decide, by decide⟩
  have hat96 : cl96.slots[((((0 : Int32) + (1 : Int32)) + (1 : Int32))).toNatClampNeg]? = some (.ref w_3) := Has.at Ha96 hin96 (by rfl)
  obtain ⟨cq97, kq97, q97a, q97b, q97c⟩ := isOf hZ e95 (E_1.ext O0.2)
  obtain ⟨_, _, ⟨T97, L97, k97, n97⟩, -, X97, ⟨Lc97, hQ97, l97, y97, z97⟩, st97⟩ := X95.virtualBack hx (y := Y0) (z := Y0) hown (mvT hZ (hw _ (tk 24 rfl))) (mvT hZ (hw _ (tk 25 rfl))) (notFace_of_selects (args := #[]) (mvT hZ (hw _ (tk 27 rfl)))) (mvT hZ (hw _ (tk 27 rfl))) (mvT hZ (hw _ (tk 26 rfl))) (by decide) (backOf (W := 0) (rm3 l Z a0 hw [] w_1 w_2 w_3 w_4 w_5 k_5 hS0 w_1 w_3 (1 : Int32) h0 n0 O0 (F_1_sharedWithItself.ext O0.2)) hZ (hw _ (tk 28 rfl)) (hw _ (tk 3 rfl)) (by decide) (by decide)) q97a q97c (g := (mkF m 25 #[.val (.ref w_3), .val (.ref w_1), .val (.ref w_5), .val (.int (4 : Int32)), .val (.int (((0 : Int32) + (1 : Int32)) + (1 : Int32))), .val (.ref w_3)] [(.ref w_3), (.ref w_1)])) rfl (by rw [hml]; rfl) (Steps.refl _) (argsL := [(.ref w_3)]) (rest := []) (lenOf pd_0 rfl) rfl (by show 2 * 0 + _ ≤ _; exact Nat.le_of_eq rfl) (hb hby d2_25) (fun _ _ => ⟨rfl, e95, (by decide : 0 + 0 ≤ _), (by decide : 0 + 0 ≤ _)⟩)
  dsimp only [Pt.U, Pt.locs, Pt.cells, Pt.slots] at X97 l97 y97 z97 st97 hQ97
  subst l97 y97 z97
  obtain ⟨rv97, N97q, e97⟩ := hQ97
  rw [show sp3 w_1 w_3 (1 : Int32) = (1 : Int32) from by unfold sp3; rw [if_neg (Fld.ne F_1_sharedWithItself F_3_sharedWithItself (by decide))]] at rv97
  subst rv97
  have N97 := Fr.app N95 N97q
  obtain ⟨cq98, kq98, q98a, q98b, q98c⟩ := isOf hZ e97 (E_3.ext O0.2)
  obtain ⟨_, _, ⟨T98, L98, k98, n98⟩, -, X98, ⟨Lc98, hQ98, l98, y98, z98⟩, st98⟩ := X97.virtualBack hx (y := Y0) (z := Y0) hown (mvT hZ (hw _ (tk 24 rfl))) (mvT hZ (hw _ (tk 25 rfl))) (notFace_of_selects (args := #[]) (mvT hZ (hw _ (tk 27 rfl)))) (mvT hZ (hw _ (tk 27 rfl))) (mvT hZ (hw _ (tk 26 rfl))) (by decide) (backOf (W := 0) (rm3 l Z a0 hw [] w_1 w_2 w_3 w_4 w_5 k_5 hS0 w_3 w_3 (0 : Int32) h0 n0 O0 (F_3_sharedWithItself.ext O0.2)) hZ (hw _ (tk 28 rfl)) (hw _ (tk 3 rfl)) (by decide) (by decide)) q98a q98c (g := (mkF m 34 #[.val (.ref w_3), .val (.ref w_1), .val (.ref w_5), .val (.int (4 : Int32)), .val (.int (((0 : Int32) + (1 : Int32)) + (1 : Int32))), .val (.ref w_3)] [(.ref w_3), (.ref w_3)])) rfl (by rw [hml]; rfl) (Steps.refl _) (argsL := [(.ref w_3)]) (rest := []) (lenOf pd_0 rfl) rfl (by show 2 * 0 + _ ≤ _; exact Nat.le_of_eq rfl) (hb hby d2_34) (fun _ _ => ⟨rfl, e97, (by decide : 0 + 0 ≤ _), (by decide : 0 + 0 ≤ _)⟩)
  dsimp only [Pt.U, Pt.locs, Pt.cells, Pt.slots] at X98 l98 y98 z98 st98 hQ98
  subst l98 y98 z98
  obtain ⟨rv98, N98q, e98⟩ := hQ98
  rw [show sp3 w_3 w_3 (0 : Int32) = (1 : Int32) from by unfold sp3; rw [if_pos rfl, if_pos (by decide : ((0 : Int32) = (0 : Int32)))]] at rv98
  subst rv98
  have N98 := Fr.app N97 N98q
  obtain ⟨cl99, Ar99, qa99, Sa99, Ma99, Ha99, Ga99⟩ := id (V_5.ext O0.2)
  have hin99 : ¬ (((((0 : Int32) + (1 : Int32)) + (1 : Int32)) + (1 : Int32)) < 0 ∨ cl99.slots.size ≤ (((((0 : Int32) + (1 : Int32)) + (1 : Int32)) + (1 : Int32))).toNatClampNeg) := by  exact inb_of Sa99 ⟨by decide, by decide⟩
  have hat99 : cl99.slots[(((((0 : Int32) + (1 : Int32)) + (1 : Int32)) + (1 : Int32))).toNatClampNeg]? = some (.ref w_4) := Has.at Ha99 hin99 (by rfl)
  obtain ⟨cq100, kq100, q100a, q100b, q100c⟩ := isOf hZ e98 (E_1.ext O0.2)
  obtain ⟨_, _, ⟨T100, L100, k100, n100⟩, -, X100, ⟨Lc100, hQ100, l100, y100, z100⟩, st100⟩ := X98.virtualBack hx (y := Y0) (z := Y0) hown (mvT hZ (hw _ (tk 24 rfl))) (mvT hZ (hw _ (tk 25 rfl))) (notFace_of_selects (args := #[]) (mvT hZ (hw _ (tk 27 rfl)))) (mvT hZ (hw _ (tk 27 rfl))) (mvT hZ (hw _ (tk 26 rfl))) (by decide) (backOf (W := 0) (rm3 l Z a0 hw [] w_1 w_2 w_3 w_4 w_5 k_5 hS0 w_1 w_4 (1 : Int32) h0 n0 O0 (F_1_sharedWithItself.ext O0.2)) hZ (hw _ (tk 28 rfl)) (hw _ (tk 3 rfl)) (by decide) (by decide)) q100a q100c (g := (mkF m 25 #[.val (.ref w_3), .val (.ref w_1), .val (.ref w_5), .val (.int (4 : Int32)), .val (.int ((((0 : Int32) + (1 : Int32)) + (1 : Int32)) + (1 : Int32))), .val (.ref w_4)] [(.ref w_4), (.ref w_1)])) rfl (by rw [hml]; rfl) (Steps.refl _) (argsL := [(.ref w_4)]) (rest := []) (lenOf pd_0 rfl) rfl (by show 2 * 0 + _ ≤ _; exact Nat.le_of_eq rfl) (hb hby d2_25) (fun _ _ => ⟨rfl, e98, (by decide : 0 + 0 ≤ _), (by decide : 0 + 0 ≤ _)⟩)
  dsimp only [Pt.U, Pt.locs, Pt.cells, Pt.slots] at X100 l100 y100 z100 st100 hQ100
  subst l100 y100 z100
  obtain ⟨rv100, N100q, e100⟩ := hQ100
  rw [show sp3 w_1 w_4 (1 : Int32) = (1 : Int32) from by unfold sp3; rw [if_neg (Fld.ne F_1_sharedWithItself F_4_sharedWithItself (by decide))]] at rv100
  subst rv100
  have N100 := Fr.app N98 N100q
  obtain ⟨cq101, kq101, q101a, q101b, q101c⟩ := isOf hZ e100 (E_3.ext O0.2)
  obtain ⟨_, _, ⟨T101, L101, k101, n101⟩, -, X101, ⟨Lc101, hQ101, l101, y101, z101⟩, st101⟩ := X100.virtualBack hx (y := Y0) (z := Y0) hown (mvT hZ (hw _ (tk 24 rfl))) (mvT hZ (hw _ (tk 25 rfl))) (notFace_of_selects (args := #[]) (mvT hZ (hw _ (tk 27 rfl)))) (mvT hZ (hw _ (tk 27 rfl))) (mvT hZ (hw _ (tk 26 rfl))) (by decide) (backOf (W := 0) (rm3 l Z a0 hw [] w_1 w_2 w_3 w_4 w_5 k_5 hS0 w_3 w_4 (0 : Int32) h0 n0 O0 (F_3_sharedWithItself.ext O0.2)) hZ (hw _ (tk 28 rfl)) (hw _ (tk 3 rfl)) (by decide) (by decide)) q101a q101c (g := (mkF m 34 #[.val (.ref w_3), .val (.ref w_1), .val (.ref w_5), .val (.int (4 : Int32)), .val (.int ((((0 : Int32) + (1 : Int32)) + (1 : Int32)) + (1 : Int32))), .val (.ref w_4)] [(.ref w_4), (.ref w_3)])) rfl (by rw [hml]; rfl) (Steps.refl _) (argsL := [(.ref w_4)]) (rest := []) (lenOf pd_0 rfl) rfl (by show 2 * 0 + _ ≤ _; exact Nat.le_of_eq rfl) (hb hby d2_34) (fun _ _ => ⟨rfl, e100, (by decide : 0 + 0 ≤ _), (by decide : 0 + 0 ≤ _)⟩)
  dsimp only [Pt.U, Pt.locs, Pt.cells, Pt.slots] at X101 l101 y101 z101 st101 hQ101
  subst l101 y101 z101
  obtain ⟨rv101, N101q, e101⟩ := hQ101
  rw [show sp3 w_3 w_4 (0 : Int32) = (1 : Int32) from by unfold sp3; rw [if_neg (Fld.ne F_3_ordinal F_4_ordinal (by decide))]] at rv101
  subst rv101
  have N101 := Fr.app N100 N101q
  obtain ⟨fs, hr, hrun, hended, hW, hsame⟩ := X101.leave (v := some (.int (1 : Int32))) (fun h => by rw [Bd.returns] at h; cases h)
  refine ⟨_, _, pre0 _ ?_, hrun, hended, _, _, rfl, ?_, ⟨_, rfl⟩, hW, hsame.mono (by decide) (by decide)⟩
  · show Steps p.tables e below (s₁.setTop (mkF m 0 #[.val (.ref w_3), .val (.ref w_1), .unset, .unset, .unset, .unset] [])) _
    refine st89 _ ?_
    show Steps p.tables e below (T89.setTop (mkF m 3 #[.val (.ref w_3), .val (.ref w_1), .unset, .unset, .unset, .unset] [(.ref w_5)])) _
    refine XS.astoreN X89.here hx rfl (hb hby d2_3) rfl rfl (l' := #[.val (.ref w_3), .val (.ref w_1), .val (.ref w_5), .unset, .unset, .unset]) rfl ?_
    show Steps p.tables e below (T89.setTop (mkF m 4 #[.val (.ref w_3), .val (.ref w_1), .val (.ref w_5), .unset, .unset, .unset] [])) _
    refine XS.aloadN X89.here hx rfl (hb hby d2_4) rfl rfl ?_
    show Steps p.tables e below (T89.setTop (mkF m 5 #[.val (.ref w_3), .val (.ref w_1), .val (.ref w_5), .unset, .unset, .unset] [(.ref w_5)])) _
    refine X89.arraylength hx (by rw [e89]; exact Ar90.1) (State.isArrayOf_alike hZ.alike Ar90.2.1) (g := (mkF m 5 #[.val (.ref w_3), .val (.ref w_1), .val (.ref w_5), .unset, .unset, .unset] [(.ref w_5)])) rfl rfl (hb hby d2_5) _ ?_
    rw [len_of Sa90 Ma90]
    show Steps p.tables e below (T89.setTop (mkF m 6 #[.val (.ref w_3), .val (.ref w_1), .val (.ref w_5), .unset, .unset, .unset] [(.int (4 : Int32))])) _
    refine XS.istoreN X89.here hx rfl (hb hby d2_6) rfl (l' := #[.val (.ref w_3), .val (.ref w_1), .val (.ref w_5), .val (.int (4 : Int32)), .unset, .unset]) rfl ?_
    show Steps p.tables e below (T89.setTop (mkF m 7 #[.val (.ref w_3), .val (.ref w_1), .val (.ref w_5), .val (.int (4 : Int32)), .unset, .unset] [])) _
    refine XS.iconst X89.here hx rfl (hb hby d2_7) ?_
    show Steps p.tables e below (T89.setTop (mkF m 8 #[.val (.ref w_3), .val (.ref w_1), .val (.ref w_5), .val (.int (4 : Int32)), .unset, .unset] [(.int (0 : Int32))])) _
    refine XS.istore X89.here hx rfl (hb hby d2_8) rfl (l' := #[.val (.ref w_3), .val (.ref w_1), .val (.ref w_5), .val (.int (4 : Int32)), .val (.int (0 : Int32)), .unset]) rfl ?_
    show Steps p.tables e below (T89.setTop (mkF m 10 #[.val (.ref w_3), .val (.ref w_1), .val (.ref w_5), .val (.int (4 : Int32)), .val (.int (0 : Int32)), .unset] [])) _
    refine XS.iload X89.here hx rfl (hb hby d2_10) rfl ?_
    show Steps p.tables e below (T89.setTop (mkF m 12 #[.val (.ref w_3), .val (.ref w_1), .val (.ref w_5), .val (.int (4 : Int32)), .val (.int (0 : Int32)), .unset] [(.int (0 : Int32))])) _
    refine XS.iloadN X89.here hx rfl (hb hby d2_12) rfl ?_
    show Steps p.tables e below (T89.setTop (mkF m 13 #[.val (.ref w_3), .val (.ref w_1), .val (.ref w_5), .val (.int (4 : Int32)), .val (.int (0 : Int32)), .unset] [(.int (4 : Int32)), (.int (0 : Int32))])) _
    refine XS.icmpNo X89.here hx rfl (hb hby d2_13) rfl (tlt (by decide : ((0 : Int32) < (4 : Int32)))).2.1 ?_
    show Steps p.tables e below (T89.setTop (mkF m 16 #[.val (.ref w_3), .val (.ref w_1), .val (.ref w_5), .val (.int (4 : Int32)), .val (.int (0 : Int32)), .unset] [])) _
    refine XS.aloadN X89.here hx rfl (hb hby d2_16) rfl rfl ?_
    show Steps p.tables e below (T89.setTop (mkF m 17 #[.val (.ref w_3), .val (.ref w_1), .val (.ref w_5), .val (.int (4 : Int32)), .val (.int (0 : Int32)), .unset] [(.ref w_5)])) _
    refine XS.iload X89.here hx rfl (hb hby d2_17) rfl ?_
    show Steps p.tables e below (T89.setTop (mkF m 19 #[.val (.ref w_3), .val (.ref w_1), .val (.ref w_5), .val (.int (4 : Int32)), .val (.int (0 : Int32)), .unset] [(.int (0 : Int32)), (.ref w_5)])) _
    refine X89.aaload hx (j := (0 : Int32)) (v := (.ref w_1)) (by rw [e89]; exact Ar91.1) (State.isArrayOf_alike hZ.alike Ar91.2.1) rfl Ar91.2.2 hin91 hat91 (g := (mkF m 19 #[.val (.ref w_3), .val (.ref w_1), .val (.ref w_5), .val (.int (4 : Int32)), .val (.int (0 : Int32)), .unset] [(.int (0 : Int32)), (.ref w_5)])) rfl rfl (hb hby d2_19) _ ?_
    show Steps p.tables e below (T89.setTop (mkF m 20 #[.val (.ref w_3), .val (.ref w_1), .val (.ref w_5), .val (.int (4 : Int32)), .val (.int (0 : Int32)), .unset] [(.ref w_1)])) _
    refine XS.astore X89.here hx rfl (hb hby d2_20) rfl rfl (l' := #[.val (.ref w_3), .val (.ref w_1), .val (.ref w_5), .val (.int (4 : Int32)), .val (.int (0 : Int32)), .val (.ref w_1)]) rfl ?_
    show Steps p.tables e below (T89.setTop (mkF m 22 #[.val (.ref w_3), .val (.ref w_1), .val (.ref w_5), .val (.int (4 : Int32)), .val (.int (0 : Int32)), .val (.ref w_1)] [])) _
    refine XS.aloadN X89.here hx rfl (hb hby d2_22) rfl rfl ?_
    show Steps p.tables e below (T89.setTop (mkF m 23 #[.val (.ref w_3), .val (.ref w_1), .val (.ref w_5), .val (.int (4 : Int32)), .val (.int (0 : Int32)), .val (.ref w_1)] [(.ref w_1)])) _
    refine XS.aload X89.here hx rfl (hb hby d2_23) rfl rfl ?_
    show Steps p.tables e below (T89.setTop (mkF m 25 #[.val (.ref w_3), .val (.ref w_1), .val (.ref w_5), .val (.int (4 : Int32)), .val (.int (0 : Int32)), .val (.ref w_1)] [(.ref w_1), (.ref w_1)])) _
    refine st92.trans ?_
    show Steps p.tables e below (T92.setTop (mkF m 28 #[.val (.ref w_3), .val (.ref w_1), .val (.ref w_5), .val (.int (4 : Int32)), .val (.int (0 : Int32)), .val (.ref w_1)] [(.int (0 : Int32))])) _
    refine XS.ifYes X92.here hx rfl (pc0 := 28) (pc' := 42) rfl (hb hby d2_28) rfl ((if0 _ _).trans (teq (by decide : ((0 : Int32) = (0 : Int32)))).1) (by decide) (by decide) ?_
    show Steps p.tables e below (T92.setTop (mkF m 42 #[.val (.ref w_3), .val (.ref w_1), .val (.ref w_5), .val (.int (4 : Int32)), .val (.int (0 : Int32)), .val (.ref w_1)] [])) _
    refine XS.iinc X92.here hx rfl (hb hby d2_42) rfl (l' := #[.val (.ref w_3), .val (.ref w_1), .val (.ref w_5), .val (.int (4 : Int32)), .val (.int ((0 : Int32) + (1 : Int32))), .val (.ref w_1)]) rfl ?_
    show Steps p.tables e below (T92.setTop (mkF m 45 #[.val (.ref w_3), .val (.ref w_1), .val (.ref w_5), .val (.int (4 : Int32)), .val (.int ((0 : Int32) + (1 : Int32))), .val (.ref w_1)] [])) _
    refine XS.goto X92.here hx rfl (pc0 := 45) (pc' := 10) rfl (hb hby d2_45) (by decide) (by decide) ?_
    show Steps p.tables e below (T92.setTop (mkF m 10 #[.val (.ref w_3), .val (.ref w_1), .val (.ref w_5), .val (.int (4 : Int32)), .val (.int ((0 : Int32) + (1 : Int32))), .val (.ref w_1)] [])) _
    refine XS.iload X92.here hx rfl (hb hby d2_10) rfl ?_
    show Steps p.tables e below (T92.setTop (mkF m 12 #[.val (.ref w_3), .val (.ref w_1), .val (.ref w_5), .val (.int (4 : Int32)), .val (.int ((0 : Int32) + (1 : Int32))), .val (.ref w_1)] [(.int ((0 : Int32) + (1 : Int32)))])) _
    refine XS.iloadN X92.here hx rfl (hb hby d2_12) rfl ?_
    show Steps p.tables e below (T92.setTop (mkF m 13 #[.val (.ref w_3), .val (.ref w_1), .val (.ref w_5), .val (.int (4 : Int32)), .val (.int ((0 : Int32) + (1 : Int32))), .val (.ref w_1)] [(.int (4 : Int32)), (.int ((0 : Int32) + (1 : Int32)))])) _
    refine XS.icmpNo X92.here hx rfl (hb hby d2_13) rfl (tlt (by decide : (((0 : Int32) + (1 : Int32)) < (4 : Int32)))).2.1 ?_
    show Steps p.tables e below (T92.setTop (mkF m 16 #[.val (.ref w_3), .val (.ref w_1), .val (.ref w_5), .val (.int (4 : Int32)), .val (.int ((0 : Int32) + (1 : Int32))), .val (.ref w_1)] [])) _
    refine XS.aloadN X92.here hx rfl (hb hby d2_16) rfl rfl ?_
    show Steps p.tables e below (T92.setTop (mkF m 17 #[.val (.ref w_3), .val (.ref w_1), .val (.ref w_5), .val (.int (4 : Int32)), .val (.int ((0 : Int32) + (1 : Int32))), .val (.ref w_1)] [(.ref w_5)])) _
    refine XS.iload X92.here hx rfl (hb hby d2_17) rfl ?_
    show Steps p.tables e below (T92.setTop (mkF m 19 #[.val (.ref w_3), .val (.ref w_1), .val (.ref w_5), .val (.int (4 : Int32)), .val (.int ((0 : Int32) + (1 : Int32))), .val (.ref w_1)] [(.int ((0 : Int32) + (1 : Int32))), (.ref w_5)])) _
    refine X92.aaload hx (j := ((0 : Int32) + (1 : Int32))) (v := (.ref w_2)) (by rw [e92]; exact Ar93.1) (State.isArrayOf_alike hZ.alike Ar93.2.1) rfl Ar93.2.2 hin93 hat93 (g := (mkF m 19 #[.val (.ref w_3), .val (.ref w_1), .val (.ref w_5), .val (.int (4 : Int32)), .val (.int ((0 : Int32) + (1 : Int32))), .val (.ref w_1)] [(.int ((0 : Int32) + (1 : Int32))), (.ref w_5)])) rfl rfl (hb hby d2_19) _ ?_
    show Steps p.tables e below (T92.setTop (mkF m 20 #[.val (.ref w_3), .val (.ref w_1), .val (.ref w_5), .val (.int (4 : Int32)), .val (.int ((0 : Int32) + (1 : Int32))), .val (.ref w_1)] [(.ref w_2)])) _
    refine XS.astore X92.here hx rfl (hb hby d2_20) rfl rfl (l' := #[.val (.ref w_3), .val (.ref w_1), .val (.ref w_5), .val (.int (4 : Int32)), .val (.int ((0 : Int32) + (1 : Int32))), .val (.ref w_2)]) rfl ?_
    show Steps p.tables e below (T92.setTop (mkF m 22 #[.val (.ref w_3), .val (.ref w_1), .val (.ref w_5), .val (.int (4 : Int32)), .val (.int ((0 : Int32) + (1 : Int32))), .val (.ref w_2)] [])) _
    refine XS.aloadN X92.here hx rfl (hb hby d2_22) rfl rfl ?_
    show Steps p.tables e below (T92.setTop (mkF m 23 #[.val (.ref w_3), .val (.ref w_1), .val (.ref w_5), .val (.int (4 : Int32)), .val (.int ((0 : Int32) + (1 : Int32))), .val (.ref w_2)] [(.ref w_1)])) _
    refine XS.aload X92.here hx rfl (hb hby d2_23) rfl rfl ?_
    show Steps p.tables e below (T92.setTop (mkF m 25 #[.val (.ref w_3), .val (.ref w_1), .val (.ref w_5), .val (.int (4 : Int32)), .val (.int ((0 : Int32) + (1 : Int32))), .val (.ref w_2)] [(.ref w_2), (.ref w_1)])) _
    refine st94.trans ?_
    show Steps p.tables e below (T94.setTop (mkF m 28 #[.val (.ref w_3), .val (.ref w_1), .val (.ref w_5), .val (.int (4 : Int32)), .val (.int ((0 : Int32) + (1 : Int32))), .val (.ref w_2)] [(.int (1 : Int32))])) _
    refine XS.ifNo X94.here hx rfl (hb hby d2_28) rfl ((if0 _ _).trans (feq (by decide : ¬ ((1 : Int32) = (0 : Int32)))).1) ?_
    show Steps p.tables e below (T94.setTop (mkF m 31 #[.val (.ref w_3), .val (.ref w_1), .val (.ref w_5), .val (.int (4 : Int32)), .val (.int ((0 : Int32) + (1 : Int32))), .val (.ref w_2)] [])) _
    refine XS.aloadN X94.here hx rfl (hb hby d2_31) rfl rfl ?_
    show Steps p.tables e below (T94.setTop (mkF m 32 #[.val (.ref w_3), .val (.ref w_1), .val (.ref w_5), .val (.int (4 : Int32)), .val (.int ((0 : Int32) + (1 : Int32))), .val (.ref w_2)] [(.ref w_3)])) _
    refine XS.aload X94.here hx rfl (hb hby d2_32) rfl rfl ?_
    show Steps p.tables e below (T94.setTop (mkF m 34 #[.val (.ref w_3), .val (.ref w_1), .val (.ref w_5), .val (.int (4 : Int32)), .val (.int ((0 : Int32) + (1 : Int32))), .val (.ref w_2)] [(.ref w_2), (.ref w_3)])) _
    refine st95.trans ?_
    show Steps p.tables e below (T95.setTop (mkF m 37 #[.val (.ref w_3), .val (.ref w_1), .val (.ref w_5), .val (.int (4 : Int32)), .val (.int ((0 : Int32) + (1 : Int32))), .val (.ref w_2)] [(.int (1 : Int32))])) _
    refine XS.ifYes X95.here hx rfl (pc0 := 37) (pc' := 42) rfl (hb hby d2_37) rfl ((if0 _ _).trans (feq (by decide : ¬ ((1 : Int32) = (0 : Int32)))).2) (by decide) (by decide) ?_
    show Steps p.tables e below (T95.setTop (mkF m 42 #[.val (.ref w_3), .val (.ref w_1), .val (.ref w_5), .val (.int (4 : Int32)), .val (.int ((0 : Int32) + (1 : Int32))), .val (.ref w_2)] [])) _
    refine XS.iinc X95.here hx rfl (hb hby d2_42) rfl (l' := #[.val (.ref w_3), .val (.ref w_1), .val (.ref w_5), .val (.int (4 : Int32)), .val (.int (((0 : Int32) + (1 : Int32)) + (1 : Int32))), .val (.ref w_2)]) rfl ?_
    show Steps p.tables e below (T95.setTop (mkF m 45 #[.val (.ref w_3), .val (.ref w_1), .val (.ref w_5), .val (.int (4 : Int32)), .val (.int (((0 : Int32) + (1 : Int32)) + (1 : Int32))), .val (.ref w_2)] [])) _
    refine XS.goto X95.here hx rfl (pc0 := 45) (pc' := 10) rfl (hb hby d2_45) (by decide) (by decide) ?_
    show Steps p.tables e below (T95.setTop (mkF m 10 #[.val (.ref w_3), .val (.ref w_1), .val (.ref w_5), .val (.int (4 : Int32)), .val (.int (((0 : Int32) + (1 : Int32)) + (1 : Int32))), .val (.ref w_2)] [])) _
    refine XS.iload X95.here hx rfl (hb hby d2_10) rfl ?_
    show Steps p.tables e below (T95.setTop (mkF m 12 #[.val (.ref w_3), .val (.ref w_1), .val (.ref w_5), .val (.int (4 : Int32)), .val (.int (((0 : Int32) + (1 : Int32)) + (1 : Int32))), .val (.ref w_2)] [(.int (((0 : Int32) + (1 : Int32)) + (1 : Int32)))])) _
    refine XS.iloadN X95.here hx rfl (hb hby d2_12) rfl ?_
    show Steps p.tables e below (T95.setTop (mkF m 13 #[.val (.ref w_3), .val (.ref w_1), .val (.ref w_5), .val (.int (4 : Int32)), .val (.int (((0 : Int32) + (1 : Int32)) + (1 : Int32))), .val (.ref w_2)] [(.int (4 : Int32)), (.int (((0 : Int32) + (1 : Int32)) + (1 : Int32)))])) _
    refine XS.icmpNo X95.here hx rfl (hb hby d2_13) rfl (tlt (by decide : ((((0 : Int32) + (1 : Int32)) + (1 : Int32)) < (4 : Int32)))).2.1 ?_
    show Steps p.tables e below (T95.setTop (mkF m 16 #[.val (.ref w_3), .val (.ref w_1), .val (.ref w_5), .val (.int (4 : Int32)), .val (.int (((0 : Int32) + (1 : Int32)) + (1 : Int32))), .val (.ref w_2)] [])) _
    refine XS.aloadN X95.here hx rfl (hb hby d2_16) rfl rfl ?_
    show Steps p.tables e below (T95.setTop (mkF m 17 #[.val (.ref w_3), .val (.ref w_1), .val (.ref w_5), .val (.int (4 : Int32)), .val (.int (((0 : Int32) + (1 : Int32)) + (1 : Int32))), .val (.ref w_2)] [(.ref w_5)])) _
    refine XS.iload X95.here hx rfl (hb hby d2_17) rfl ?_
    show Steps p.tables e below (T95.setTop (mkF m 19 #[.val (.ref w_3), .val (.ref w_1), .val (.ref w_5), .val (.int (4 : Int32)), .val (.int (((0 : Int32) + (1 : Int32)) + (1 : Int32))), .val (.ref w_2)] [(.int (((0 : Int32) + (1 : Int32)) + (1 : Int32))), (.ref w_5)])) _
    refine X95.aaload hx (j := (((0 : Int32) + (1 : Int32)) + (1 : Int32))) (v := (.ref w_3)) (by rw [e95]; exact Ar96.1) (State.isArrayOf_alike hZ.alike Ar96.2.1) rfl Ar96.2.2 hin96 hat96 (g := (mkF m 19 #[.val (.ref w_3), .val (.ref w_1), .val (.ref w_5), .val (.int (4 : Int32)), .val (.int (((0 : Int32) + (1 : Int32)) + (1 : Int32))), .val (.ref w_2)] [(.int (((0 : Int32) + (1 : Int32)) + (1 : Int32))), (.ref w_5)])) rfl rfl (hb hby d2_19) _ ?_
    show Steps p.tables e below (T95.setTop (mkF m 20 #[.val (.ref w_3), .val (.ref w_1), .val (.ref w_5), .val (.int (4 : Int32)), .val (.int (((0 : Int32) + (1 : Int32)) + (1 : Int32))), .val (.ref w_2)] [(.ref w_3)])) _
    refine XS.astore X95.here hx rfl (hb hby d2_20) rfl rfl (l' := #[.val (.ref w_3), .val (.ref w_1), .val (.ref w_5), .val (.int (4 : Int32)), .val (.int (((0 : Int32) + (1 : Int32)) + (1 : Int32))), .val (.ref w_3)]) rfl ?_
    show Steps p.tables e below (T95.setTop (mkF m 22 #[.val (.ref w_3), .val (.ref w_1), .val (.ref w_5), .val (.int (4 : Int32)), .val (.int (((0 : Int32) + (1 : Int32)) + (1 : Int32))), .val (.ref w_3)] [])) _
    refine XS.aloadN X95.here hx rfl (hb hby d2_22) rfl rfl ?_
    show Steps p.tables e below (T95.setTop (mkF m 23 #[.val (.ref w_3), .val (.ref w_1), .val (.ref w_5), .val (.int (4 : Int32)), .val (.int (((0 : Int32) + (1 : Int32)) + (1 : Int32))), .val (.ref w_3)] [(.ref w_1)])) _
    refine XS.aload X95.here hx rfl (hb hby d2_23) rfl rfl ?_
    show Steps p.tables e below (T95.setTop (mkF m 25 #[.val (.ref w_3), .val (.ref w_1), .val (.ref w_5), .val (.int (4 : Int32)), .val (.int (((0 : Int32) + (1 : Int32)) + (1 : Int32))), .val (.ref w_3)] [(.ref w_3), (.ref w_1)])) _
    refine st97.trans ?_
    show Steps p.tables e below (T97.setTop (mkF m 28 #[.val (.ref w_3), .val (.ref w_1), .val (.ref w_5), .val (.int (4 : Int32)), .val (.int (((0 : Int32) + (1 : Int32)) + (1 : Int32))), .val (.ref w_3)] [(.int (1 : Int32))])) _
    refine XS.ifNo X97.here hx rfl (hb hby d2_28) rfl ((if0 _ _).trans (feq (by decide : ¬ ((1 : Int32) = (0 : Int32)))).1) ?_
    show Steps p.tables e below (T97.setTop (mkF m 31 #[.val (.ref w_3), .val (.ref w_1), .val (.ref w_5), .val (.int (4 : Int32)), .val (.int (((0 : Int32) + (1 : Int32)) + (1 : Int32))), .val (.ref w_3)] [])) _
    refine XS.aloadN X97.here hx rfl (hb hby d2_31) rfl rfl ?_
    show Steps p.tables e below (T97.setTop (mkF m 32 #[.val (.ref w_3), .val (.ref w_1), .val (.ref w_5), .val (.int (4 : Int32)), .val (.int (((0 : Int32) + (1 : Int32)) + (1 : Int32))), .val (.ref w_3)] [(.ref w_3)])) _
    refine XS.aload X97.here hx rfl (hb hby d2_32) rfl rfl ?_
    show Steps p.tables e below (T97.setTop (mkF m 34 #[.val (.ref w_3), .val (.ref w_1), .val (.ref w_5), .val (.int (4 : Int32)), .val (.int (((0 : Int32) + (1 : Int32)) + (1 : Int32))), .val (.ref w_3)] [(.ref w_3), (.ref w_3)])) _
    refine st98.trans ?_
    show Steps p.tables e below (T98.setTop (mkF m 37 #[.val (.ref w_3), .val (.ref w_1), .val (.ref w_5), .val (.int (4 : Int32)), .val (.int (((0 : Int32) + (1 : Int32)) + (1 : Int32))), .val (.ref w_3)] [(.int (1 : Int32))])) _
    refine XS.ifYes X98.here hx rfl (pc0 := 37) (pc' := 42) rfl (hb hby d2_37) rfl ((if0 _ _).trans (feq (by decide : ¬ ((1 : Int32) = (0 : Int32)))).2) (by decide) (by decide) ?_
    show Steps p.tables e below (T98.setTop (mkF m 42 #[.val (.ref w_3), .val (.ref w_1), .val (.ref w_5), .val (.int (4 : Int32)), .val (.int (((0 : Int32) + (1 : Int32)) + (1 : Int32))), .val (.ref w_3)] [])) _
    refine XS.iinc X98.here hx rfl (hb hby d2_42) rfl (l' := #[.val (.ref w_3), .val (.ref w_1), .val (.ref w_5), .val (.int (4 : Int32)), .val (.int ((((0 : Int32) + (1 : Int32)) + (1 : Int32)) + (1 : Int32))), .val (.ref w_3)]) rfl ?_
    show Steps p.tables e below (T98.setTop (mkF m 45 #[.val (.ref w_3), .val (.ref w_1), .val (.ref w_5), .val (.int (4 : Int32)), .val (.int ((((0 : Int32) + (1 : Int32)) + (1 : Int32)) + (1 : Int32))), .val (.ref w_3)] [])) _
    refine XS.goto X98.here hx rfl (pc0 := 45) (pc' := 10) rfl (hb hby d2_45) (by decide) (by decide) ?_
    show Steps p.tables e below (T98.setTop (mkF m 10 #[.val (.ref w_3), .val (.ref w_1), .val (.ref w_5), .val (.int (4 : Int32)), .val (.int ((((0 : Int32) + (1 : Int32)) + (1 : Int32)) + (1 : Int32))), .val (.ref w_3)] [])) _
    refine XS.iload X98.here hx rfl (hb hby d2_10) rfl ?_
    show Steps p.tables e below (T98.setTop (mkF m 12 #[.val (.ref w_3), .val (.ref w_1), .val (.ref w_5), .val (.int (4 : Int32)), .val (.int ((((0 : Int32) + (1 : Int32)) + (1 : Int32)) + (1 : Int32))), .val (.ref w_3)] [(.int ((((0 : Int32) + (1 : Int32)) + (1 : Int32)) + (1 : Int32)))])) _
    refine XS.iloadN X98.here hx rfl (hb hby d2_12) rfl ?_
    show Steps p.tables e below (T98.setTop (mkF m 13 #[.val (.ref w_3), .val (.ref w_1), .val (.ref w_5), .val (.int (4 : Int32)), .val (.int ((((0 : Int32) + (1 : Int32)) + (1 : Int32)) + (1 : Int32))), .val (.ref w_3)] [(.int (4 : Int32)), (.int ((((0 : Int32) + (1 : Int32)) + (1 : Int32)) + (1 : Int32)))])) _
    refine XS.icmpNo X98.here hx rfl (hb hby d2_13) rfl (tlt (by decide : (((((0 : Int32) + (1 : Int32)) + (1 : Int32)) + (1 : Int32)) < (4 : Int32)))).2.1 ?_
    show Steps p.tables e below (T98.setTop (mkF m 16 #[.val (.ref w_3), .val (.ref w_1), .val (.ref w_5), .val (.int (4 : Int32)), .val (.int ((((0 : Int32) + (1 : Int32)) + (1 : Int32)) + (1 : Int32))), .val (.ref w_3)] [])) _
    refine XS.aloadN X98.here hx rfl (hb hby d2_16) rfl rfl ?_
    show Steps p.tables e below (T98.setTop (mkF m 17 #[.val (.ref w_3), .val (.ref w_1), .val (.ref w_5), .val (.int (4 : Int32)), .val (.int ((((0 : Int32) + (1 : Int32)) + (1 : Int32)) + (1 : Int32))), .val (.ref w_3)] [(.ref w_5)])) _
    refine XS.iload X98.here hx rfl (hb hby d2_17) rfl ?_
    show Steps p.tables e below (T98.setTop (mkF m 19 #[.val (.ref w_3), .val (.ref w_1), .val (.ref w_5), .val (.int (4 : Int32)), .val (.int ((((0 : Int32) + (1 : Int32)) + (1 : Int32)) + (1 : Int32))), .val (.ref w_3)] [(.int ((((0 : Int32) + (1 : Int32)) + (1 : Int32)) + (1 : Int32))), (.ref w_5)])) _
    refine X98.aaload hx (j := ((((0 : Int32) + (1 : Int32)) + (1 : Int32)) + (1 : Int32))) (v := (.ref w_4)) (by rw [e98]; exact Ar99.1) (State.isArrayOf_alike hZ.alike Ar99.2.1) rfl Ar99.2.2 hin99 hat99 (g := (mkF m 19 #[.val (.ref w_3), .val (.ref w_1), .val (.ref w_5), .val (.int (4 : Int32)), .val (.int ((((0 : Int32) + (1 : Int32)) + (1 : Int32)) + (1 : Int32))), .val (.ref w_3)] [(.int ((((0 : Int32) + (1 : Int32)) + (1 : Int32)) + (1 : Int32))), (.ref w_5)])) rfl rfl (hb hby d2_19) _ ?_
    show Steps p.tables e below (T98.setTop (mkF m 20 #[.val (.ref w_3), .val (.ref w_1), .val (.ref w_5), .val (.int (4 : Int32)), .val (.int ((((0 : Int32) + (1 : Int32)) + (1 : Int32)) + (1 : Int32))), .val (.ref w_3)] [(.ref w_4)])) _
    refine XS.astore X98.here hx rfl (hb hby d2_20) rfl rfl (l' := #[.val (.ref w_3), .val (.ref w_1), .val (.ref w_5), .val (.int (4 : Int32)), .val (.int ((((0 : Int32) + (1 : Int32)) + (1 : Int32)) + (1 : Int32))), .val (.ref w_4)]) rfl ?_
    show Steps p.tables e below (T98.setTop (mkF m 22 #[.val (.ref w_3), .val (.ref w_1), .val (.ref w_5), .val (.int (4 : Int32)), .val (.int ((((0 : Int32) + (1 : Int32)) + (1 : Int32)) + (1 : Int32))), .val (.ref w_4)] [])) _
    refine XS.aloadN X98.here hx rfl (hb hby d2_22) rfl rfl ?_
    show Steps p.tables e below (T98.setTop (mkF m 23 #[.val (.ref w_3), .val (.ref w_1), .val (.ref w_5), .val (.int (4 : Int32)), .val (.int ((((0 : Int32) + (1 : Int32)) + (1 : Int32)) + (1 : Int32))), .val (.ref w_4)] [(.ref w_1)])) _
    refine XS.aload X98.here hx rfl (hb hby d2_23) rfl rfl ?_
    show Steps p.tables e below (T98.setTop (mkF m 25 #[.val (.ref w_3), .val (.ref w_1), .val (.ref w_5), .val (.int (4 : Int32)), .val (.int ((((0 : Int32) + (1 : Int32)) + (1 : Int32)) + (1 : Int32))), .val (.ref w_4)] [(.ref w_4), (.ref w_1)])) _
    refine st100.trans ?_
    show Steps p.tables e below (T100.setTop (mkF m 28 #[.val (.ref w_3), .val (.ref w_1), .val (.ref w_5), .val (.int (4 : Int32)), .val (.int ((((0 : Int32) + (1 : Int32)) + (1 : Int32)) + (1 : Int32))), .val (.ref w_4)] [(.int (1 : Int32))])) _
    refine XS.ifNo X100.here hx rfl (hb hby d2_28) rfl ((if0 _ _).trans (feq (by decide : ¬ ((1 : Int32) = (0 : Int32)))).1) ?_
    show Steps p.tables e below (T100.setTop (mkF m 31 #[.val (.ref w_3), .val (.ref w_1), .val (.ref w_5), .val (.int (4 : Int32)), .val (.int ((((0 : Int32) + (1 : Int32)) + (1 : Int32)) + (1 : Int32))), .val (.ref w_4)] [])) _
    refine XS.aloadN X100.here hx rfl (hb hby d2_31) rfl rfl ?_
    show Steps p.tables e below (T100.setTop (mkF m 32 #[.val (.ref w_3), .val (.ref w_1), .val (.ref w_5), .val (.int (4 : Int32)), .val (.int ((((0 : Int32) + (1 : Int32)) + (1 : Int32)) + (1 : Int32))), .val (.ref w_4)] [(.ref w_3)])) _
    refine XS.aload X100.here hx rfl (hb hby d2_32) rfl rfl ?_
    show Steps p.tables e below (T100.setTop (mkF m 34 #[.val (.ref w_3), .val (.ref w_1), .val (.ref w_5), .val (.int (4 : Int32)), .val (.int ((((0 : Int32) + (1 : Int32)) + (1 : Int32)) + (1 : Int32))), .val (.ref w_4)] [(.ref w_4), (.ref w_3)])) _
    refine st101.trans ?_
    show Steps p.tables e below (T101.setTop (mkF m 37 #[.val (.ref w_3), .val (.ref w_1), .val (.ref w_5), .val (.int (4 : Int32)), .val (.int ((((0 : Int32) + (1 : Int32)) + (1 : Int32)) + (1 : Int32))), .val (.ref w_4)] [(.int (1 : Int32))])) _
    refine XS.ifYes X101.here hx rfl (pc0 := 37) (pc' := 42) rfl (hb hby d2_37) rfl ((if0 _ _).trans (feq (by decide : ¬ ((1 : Int32) = (0 : Int32)))).2) (by decide) (by decide) ?_
    show Steps p.tables e below (T101.setTop (mkF m 42 #[.val (.ref w_3), .val (.ref w_1), .val (.ref w_5), .val (.int (4 : Int32)), .val (.int ((((0 : Int32) + (1 : Int32)) + (1 : Int32)) + (1 : Int32))), .val (.ref w_4)] [])) _
    refine XS.iinc X101.here hx rfl (hb hby d2_42) rfl (l' := #[.val (.ref w_3), .val (.ref w_1), .val (.ref w_5), .val (.int (4 : Int32)), .val (.int (((((0 : Int32) + (1 : Int32)) + (1 : Int32)) + (1 : Int32)) + (1 : Int32))), .val (.ref w_4)]) rfl ?_
    show Steps p.tables e below (T101.setTop (mkF m 45 #[.val (.ref w_3), .val (.ref w_1), .val (.ref w_5), .val (.int (4 : Int32)), .val (.int (((((0 : Int32) + (1 : Int32)) + (1 : Int32)) + (1 : Int32)) + (1 : Int32))), .val (.ref w_4)] [])) _
    refine XS.goto X101.here hx rfl (pc0 := 45) (pc' := 10) rfl (hb hby d2_45) (by decide) (by decide) ?_
    show Steps p.tables e below (T101.setTop (mkF m 10 #[.val (.ref w_3), .val (.ref w_1), .val (.ref w_5), .val (.int (4 : Int32)), .val (.int (((((0 : Int32) + (1 : Int32)) + (1 : Int32)) + (1 : Int32)) + (1 : Int32))), .val (.ref w_4)] [])) _
    refine XS.iload X101.here hx rfl (hb hby d2_10) rfl ?_
    show Steps p.tables e below (T101.setTop (mkF m 12 #[.val (.ref w_3), .val (.ref w_1), .val (.ref w_5), .val (.int (4 : Int32)), .val (.int (((((0 : Int32) + (1 : Int32)) + (1 : Int32)) + (1 : Int32)) + (1 : Int32))), .val (.ref w_4)] [(.int (((((0 : Int32) + (1 : Int32)) + (1 : Int32)) + (1 : Int32)) + (1 : Int32)))])) _
    refine XS.iloadN X101.here hx rfl (hb hby d2_12) rfl ?_
    show Steps p.tables e below (T101.setTop (mkF m 13 #[.val (.ref w_3), .val (.ref w_1), .val (.ref w_5), .val (.int (4 : Int32)), .val (.int (((((0 : Int32) + (1 : Int32)) + (1 : Int32)) + (1 : Int32)) + (1 : Int32))), .val (.ref w_4)] [(.int (4 : Int32)), (.int (((((0 : Int32) + (1 : Int32)) + (1 : Int32)) + (1 : Int32)) + (1 : Int32)))])) _
    refine XS.icmpYes X101.here hx rfl (pc0 := 13) (pc' := 48) rfl (hb hby d2_13) rfl (flt (by decide : ¬ ((((((0 : Int32) + (1 : Int32)) + (1 : Int32)) + (1 : Int32)) + (1 : Int32)) < (4 : Int32)))).2.1 (by decide) (by decide) ?_
    show Steps p.tables e below (T101.setTop (mkF m 48 #[.val (.ref w_3), .val (.ref w_1), .val (.ref w_5), .val (.int (4 : Int32)), .val (.int (((((0 : Int32) + (1 : Int32)) + (1 : Int32)) + (1 : Int32)) + (1 : Int32))), .val (.ref w_4)] [])) _
    refine XS.iconst X101.here hx rfl (hb hby d2_48) ?_
    show Steps p.tables e below (T101.setTop (mkF m 49 #[.val (.ref w_3), .val (.ref w_1), .val (.ref w_5), .val (.int (4 : Int32)), .val (.int (((((0 : Int32) + (1 : Int32)) + (1 : Int32)) + (1 : Int32)) + (1 : Int32))), .val (.ref w_4)] [(.int (1 : Int32))])) _
    exact retN X101 hx (t := .boolean) Bd.returns (by simp) (hb hby d2_49) hr
  · show Q2x3 Z w_1 w_2 w_3 w_4 w_5 k_5 h0 n0 _ T101.heap _
    rw [e101]
    exact ⟨by unfold sp2x3; rfl, N101, rfl⟩
theorem pn_1x3 : plainName "com/example/lucid_locks/lucidlocks/locks/LockMode" = true := by first | (simp [plainName, overriddenIn]; done) | decide +kernel
theorem ef_1x3 (m : MethodId) (w_1 : Addr) (w_3 : Addr) : entryFrame m #[(.ref w_1), (.ref w_3)] 2 = mkF m 0 #[.val (.ref w_1), .val (.ref w_3)] [] := by first | (simp [entryFrame, mkF, argsToLocals, Value.category]; done) | rfl
def sp1x3 (w_3 : Addr) : Value := (.ref w_3)
def Q1x3 (Z : State) (w_1 : Addr) (w_2 : Addr) (w_3 : Addr) (w_4 : Addr) (w_5 : Addr) (k_5 : ClassId) (h0 : Heap) (n0 : Nat) (v : Option Value) (h : Heap) (L : List Loc) : Prop := v = some (sp1x3 w_3) ∧ Fr n0 L ∧ h = h0
set_option maxRecDepth 65536 in
set_option maxHeartbeats 40000000 in
theorem rm1x3 (l : Launch) (Z : State) (a0 : Array Value) (hw : ∀ d ∈ tables_1, d.before a0 Z = true) (ws : List Jvm.Cond) (w_1 : Addr) (w_2 : Addr) (w_3 : Addr) (w_4 : Addr) (w_5 : Addr) (k_5 : ClassId) (hS : StF Z w_1 w_2 w_3 w_4 w_5 k_5) (h0 : Heap) (n0 : Nat) (O0 : Old Z n0 h0) :
    MetFree l Y2 (head1 (Jvm.Cond.code Y2 prog_17_method_6_code 2 (some (.object "com/example/lucid_locks/lucidlocks/locks/LockMode")) :: ws) ({ frames := 2, cells := 0, slots := 0, locals := 30 } : Room)) (fun a U => a = #[(.ref w_1), (.ref w_3)] ∧ Z.Warmed39 U.vm ∧ U.heap = h0) (fun _ _ _ _ _ => True) (fun _ U o U' => ∃ v L, o = .returned v ∧ Q1x3 Z w_1 w_2 w_3 w_4 w_5 k_5 h0 n0 v U'.heap L ∧ FrameEnd U o U' L ({ frames := 2, cells := 0, slots := 0, locals := 30 } : Room).cells ({ frames := 2, cells := 0, slots := 0, locals := 30 } : Room).slots) := by
  refine MetFree.of_bodySF (plainFor_of_name pn_1x3) hisR ?_
  intro p e s m args below meth c s₁ Bd hml0 hP hK
  obtain ⟨rfl, hZ, hh⟩ := hP
  have hx := Bd.exec
  have hby := Bd.bytes
  have hml : c.maxLocals = 2 := hml0
  have hown : s.vm.findClass "com/example/lucid_locks/lucidlocks/locks/LockMode" = some m.cls := findClass_of_methodNamed Bd.named
  have hnm := (name_of_methodNamed Bd.named Bd.method).1
  have X0 : Stand p l e ({ frames := 2, cells := 0, slots := 0, locals := 30 } : Room) s m #[(.ref w_1), (.ref w_3)] below meth c s₁ [] 0 0 := Stand.of_body Bd
  have e0 : s₁.heap = h0 := by rw [← hh, Bd.state]; rfl
  have N0 := Fr.nil n0
  have hS0 := hS
  obtain ⟨S_1, E_1, S_2, E_2, S_3, E_3, S_4, E_4, S_5, F_1_sharedWithItself, F_1_ordinal, F_2_ordinal, F_4_ordinal, F_3_ordinal, F_4_sharedWithItself, F_2_sharedWithItself, F_3_sharedWithItself, V_5⟩ := hS
  have pre0 : ∀ t, Steps p.tables e below (s₁.setTop (mkF m 0 #[.val (.ref w_1), .val (.ref w_3)] [])) t → Steps p.tables e below (s₁.setTop (entryFrame m #[(.ref w_1), (.ref w_3)] 2)) t := fun t k => castTop (ef_1x3 m w_1 w_3) k
  obtain ⟨cq102, kq102, q102a, q102b, q102c⟩ := isOf hZ e0 (E_3.ext O0.2)
  obtain ⟨_, _, ⟨T102, L102, k102, n102⟩, -, X102, ⟨Lc102, hQ102, l102, y102, z102⟩, st102⟩ := X0.virtualBack hx (y := Y1) (z := Y1) hown (mvT hZ (hw _ (tk 17 rfl))) (mvT hZ (hw _ (tk 18 rfl))) (notFace_of_selects (args := #[]) (mvT hZ (hw _ (tk 20 rfl)))) (mvT hZ (hw _ (tk 20 rfl))) (mvT hZ (hw _ (tk 19 rfl))) (by decide) (backOf (W := 0) (rm2x3 l Z a0 hw [] w_1 w_2 w_3 w_4 w_5 k_5 hS0 h0 n0 O0) hZ (hw _ (tk 21 rfl)) (hw _ (tk 3 rfl)) (by decide) (by decide)) q102a q102c (g := (mkF m 2 #[.val (.ref w_1), .val (.ref w_3)] [(.ref w_1), (.ref w_3)])) rfl (by rw [hml]; rfl) (Steps.refl _) (argsL := [(.ref w_1)]) (rest := []) (lenOf pd_0 rfl) rfl (by show 2 * 0 + _ ≤ _; exact Nat.le_of_eq rfl) (hb hby d1_2) (fun _ _ => ⟨rfl, e0, (by decide : 0 + 0 ≤ _), (by decide : 0 + 0 ≤ _)⟩)
  dsimp only [Pt.U, Pt.locs, Pt.cells, Pt.slots] at X102 l102 y102 z102 st102 hQ102
  subst l102 y102 z102
  obtain ⟨rv102, N102q, e102⟩ := hQ102
  rw [show sp2x3 = (1 : Int32) from by unfold sp2x3; rfl] at rv102
  subst rv102
  have N102 := Fr.app N0 N102q
  obtain ⟨fs, hr, hrun, hended, hW, hsame⟩ := X102.leave (v := some (.ref w_3)) (fun h => by rw [Bd.returns] at h; cases h)
  refine ⟨_, _, pre0 _ ?_, hrun, hended, _, _, rfl, ?_, ⟨_, rfl⟩, hW, hsame.mono (by decide) (by decide)⟩
  · show Steps p.tables e below (s₁.setTop (mkF m 0 #[.val (.ref w_1), .val (.ref w_3)] [])) _
    refine XS.aloadN X0.here hx rfl (hb hby d1_0) rfl rfl ?_
    show Steps p.tables e below (s₁.setTop (mkF m 1 #[.val (.ref w_1), .val (.ref w_3)] [(.ref w_3)])) _
    refine XS.aloadN X0.here hx rfl (hb hby d1_1) rfl rfl ?_
    show Steps p.tables e below (s₁.setTop (mkF m 2 #[.val (.ref w_1), .val (.ref w_3)] [(.ref w_1), (.ref w_3)])) _
    refine st102.trans ?_
    show Steps p.tables e below (T102.setTop (mkF m 5 #[.val (.ref w_1), .val (.ref w_3)] [(.int (1 : Int32))])) _
    refine XS.ifNo X102.here hx rfl (hb hby d1_5) rfl ((if0 _ _).trans (feq (by decide : ¬ ((1 : Int32) = (0 : Int32)))).1) ?_
    show Steps p.tables e below (T102.setTop (mkF m 8 #[.val (.ref w_1), .val (.ref w_3)] [])) _
    refine XS.aloadN X102.here hx rfl (hb hby d1_8) rfl rfl ?_
    show Steps p.tables e below (T102.setTop (mkF m 9 #[.val (.ref w_1), .val (.ref w_3)] [(.ref w_3)])) _
    refine XS.goto X102.here hx rfl (pc0 := 9) (pc' := 15) rfl (hb hby d1_9) (by decide) (by decide) ?_
    show Steps p.tables e below (T102.setTop (mkF m 15 #[.val (.ref w_1), .val (.ref w_3)] [(.ref w_3)])) _
    jvm_step X102.here [X102.here.top, hx, (hb hby d1_15), X102.method', Bd.returns, Value.isRef, FieldType.isReference]
    first | (intro acts; rw [hr _ acts rfl rfl rfl]) | rw [hr _ _ rfl rfl rfl]
    exact Steps.refl _
  · show Q1x3 Z w_1 w_2 w_3 w_4 w_5 k_5 h0 n0 _ T102.heap _
    rw [e102]
    exact ⟨by unfold sp1x3; rfl, N102, rfl⟩
theorem pn_2x4 : plainName "com/example/lucid_locks/lucidlocks/locks/LockMode" = true := by first | (simp [plainName, overriddenIn]; done) | decide +kernel
theorem ef_2x4 (m : MethodId) (w_4 : Addr) (w_1 : Addr) : entryFrame m #[(.ref w_4), (.ref w_1)] 6 = mkF m 0 #[.val (.ref w_4), .val (.ref w_1), .unset, .unset, .unset, .unset] [] := by first | (simp [entryFrame, mkF, argsToLocals, Value.category]; done) | rfl
def sp2x4  : Int32 := (1 : Int32)
def Q2x4 (Z : State) (w_1 : Addr) (w_2 : Addr) (w_3 : Addr) (w_4 : Addr) (w_5 : Addr) (k_5 : ClassId) (h0 : Heap) (n0 : Nat) (v : Option Value) (h : Heap) (L : List Loc) : Prop := v = some (.int (sp2x4)) ∧ Fr n0 L ∧ h = h0
set_option maxRecDepth 65536 in
set_option maxHeartbeats 40000000 in
theorem rm2x4 (l : Launch) (Z : State) (a0 : Array Value) (hw : ∀ d ∈ tables_1, d.before a0 Z = true) (ws : List Jvm.Cond) (w_1 : Addr) (w_2 : Addr) (w_3 : Addr) (w_4 : Addr) (w_5 : Addr) (k_5 : ClassId) (hS : StF Z w_1 w_2 w_3 w_4 w_5 k_5) (h0 : Heap) (n0 : Nat) (O0 : Old Z n0 h0) :
    MetFree l Y1 (head1 (Jvm.Cond.code Y1 prog_17_method_7_code 6 (some .boolean) :: ws) ({ frames := 1, cells := 0, slots := 0, locals := 13 } : Room)) (fun a U => a = #[(.ref w_4), (.ref w_1)] ∧ Z.Warmed39 U.vm ∧ U.heap = h0) (fun _ _ _ _ _ => True) (fun _ U o U' => ∃ v L, o = .returned v ∧ Q2x4 Z w_1 w_2 w_3 w_4 w_5 k_5 h0 n0 v U'.heap L ∧ FrameEnd U o U' L ({ frames := 1, cells := 0, slots := 0, locals := 13 } : Room).cells ({ frames := 1, cells := 0, slots := 0, locals := 13 } : Room).slots) := by
  refine MetFree.of_bodySF (plainFor_of_name pn_2x4) hisR ?_
  intro p e s m args below meth c s₁ Bd hml0 hP hK
  obtain ⟨rfl, hZ, hh⟩ := hP
  have hx := Bd.exec
  have hby := Bd.bytes
  have hml : c.maxLocals = 6 := hml0
  have hown : s.vm.findClass "com/example/lucid_locks/lucidlocks/locks/LockMode" = some m.cls := findClass_of_methodNamed Bd.named
  have hnm := (name_of_methodNamed Bd.named Bd.method).1
  have X0 : Stand p l e ({ frames := 1, cells := 0, slots := 0, locals := 13 } : Room) s m #[(.ref w_4), (.ref w_1)] below meth c s₁ [] 0 0 := Stand.of_body Bd
  have e0 : s₁.heap = h0 := by rw [← hh, Bd.state]; rfl
  have N0 := Fr.nil n0
  have hS0 := hS
  obtain ⟨S_1, E_1, S_2, E_2, S_3, E_3, S_4, E_4, S_5, F_1_sharedWithItself, F_1_ordinal, F_2_ordinal, F_4_ordinal, F_3_ordinal, F_4_sharedWithItself, F_2_sharedWithItself, F_3_sharedWithItself, V_5⟩ := hS
  have pre0 : ∀ t, Steps p.tables e below (s₁.setTop (mkF m 0 #[.val (.ref w_4), .val (.ref w_1), .unset, .unset, .unset, .unset] [])) t → Steps p.tables e below (s₁.setTop (entryFrame m #[(.ref w_4), (.ref w_1)] 6)) t := fun t k => castTop (ef_2x4 m w_4 w_1) k
  obtain ⟨T106, X106, e106, st106⟩ := getS2 X0 hx hZ hown (host := "") (Or.inl (hw _ (tk 22 rfl))) Via.refl e0 (S_5.ext O0.2) (g := (mkF m 0 #[.val (.ref w_4), .val (.ref w_1), .unset, .unset, .unset, .unset] [])) rfl (hb hby d2_0)
  obtain ⟨cl107, Ar107, qa107, Sa107, Ma107, Ha107, Ga107⟩ := id (V_5.ext O0.2)
  obtain ⟨cl108, Ar108, qa108, Sa108, Ma108, Ha108, Ga108⟩ := id (V_5.ext O0.2)
  have hin108 : ¬ ((0 : Int32) < 0 ∨ cl108.slots.size ≤ ((0 : Int32)).toNatClampNeg) := by  exact inb_of Sa108 ⟨by decide, by decide⟩
  have hat108 : cl108.slots[((0 : Int32)).toNatClampNeg]? = some (.ref w_1) := Has.at Ha108 hin108 (by rfl)
  obtain ⟨cq109, kq109, q109a, q109b, q109c⟩ := isOf hZ e106 (E_1.ext O0.2)
  obtain ⟨_, _, ⟨T109, L109, k109, n109⟩, -, X109, ⟨Lc109, hQ109, l109, y109, z109⟩, st109⟩ := X106.virtualBack hx (y := Y0) (z := Y0) hown (mvT hZ (hw _ (tk 24 rfl))) (mvT hZ (hw _ (tk 25 rfl))) (notFace_of_selects (args := #[]) (mvT hZ (hw _ (tk 27 rfl)))) (mvT hZ (hw _ (tk 27 rfl))) (mvT hZ (hw _ (tk 26 rfl))) (by decide) (backOf (W := 0) (rm3 l Z a0 hw [] w_1 w_2 w_3 w_4 w_5 k_5 hS0 w_1 w_1 (1 : Int32) h0 n0 O0 (F_1_sharedWithItself.ext O0.2)) hZ (hw _ (tk 28 rfl)) (hw _ (tk 3 rfl)) (by decide) (by decide)) q109a q109c (g := (mkF m 25 #[.val (.ref w_4), .val (.ref w_1), .val (.ref w_5), .val (.int (4 : Int32)), .val (.int (0 : Int32)), .val (.ref w_1)] [(.ref w_1), (.ref w_1)])) rfl (by rw [hml]; rfl) (Steps.refl _) (argsL := [(.ref w_1)]) (rest := []) (lenOf pd_0 rfl) rfl (by show 2 * 0 + _ ≤ _; exact Nat.le_of_eq rfl) (hb hby d2_25) (fun _ _ => ⟨rfl, e106, (by decide : 0 + 0 ≤ _), (by decide : 0 + 0 ≤ _)⟩)
  dsimp only [Pt.U, Pt.locs, Pt.cells, Pt.slots] at X109 l109 y109 z109 st109 hQ109
  subst l109 y109 z109
  obtain ⟨rv109, N109q, e109⟩ := hQ109
  rw [show sp3 w_1 w_1 (1 : Int32) = (0 : Int32) from by unfold sp3; rw [if_pos rfl, if_neg (by decide : ¬ ((1 : Int32) = (0 : Int32)))]] at rv109
  subst rv109
  have N109 := Fr.app N0 N109q
  obtain ⟨cl110, Ar110, qa110, Sa110, Ma110, Ha110, Ga110⟩ := id (V_5.ext O0.2)
  have hin110 : ¬ (((0 : Int32) + (1 : Int32)) < 0 ∨ cl110.slots.size ≤ (((0 : Int32) + (1 : Int32))).toNatClampNeg) := by  exact inb_of Sa110 ⟨by decide, by decide⟩
  have hat110 : cl110.slots[(((0 : Int32) + (1 : Int32))).toNatClampNeg]? = some (.ref w_2) := Has.at Ha110 hin110 (by rfl)
  obtain ⟨cq111, kq111, q111a, q111b, q111c⟩ := isOf hZ e109 (E_1.ext O0.2)
  obtain ⟨_, _, ⟨T111, L111, k111, n111⟩, -, X111, ⟨Lc111, hQ111, l111, y111, z111⟩, st111⟩ := X109.virtualBack hx (y := Y0) (z := Y0) hown (mvT hZ (hw _ (tk 24 rfl))) (mvT hZ (hw _ (tk 25 rfl))) (notFace_of_selects (args := #[]) (mvT hZ (hw _ (tk 27 rfl)))) (mvT hZ (hw _ (tk 27 rfl))) (mvT hZ (hw _ (tk 26 rfl))) (by decide) (backOf (W := 0) (rm3 l Z a0 hw [] w_1 w_2 w_3 w_4 w_5 k_5 hS0 w_1 w_2 (1 : Int32) h0 n0 O0 (F_1_sharedWithItself.ext O0.2)) hZ (hw _ (tk 28 rfl)) (hw _ (tk 3 rfl)) (by decide) (by decide)) q111a q111c (g := (mkF m 25 #[.val (.ref w_4), .val (.ref w_1), .val (.ref w_5), .val (.int (4 : Int32)), .val (.int ((0 : Int32) + (1 : Int32))), .val (.ref w_2)] [(.ref w_2), (.ref w_1)])) rfl (by rw [hml]; rfl) (Steps.refl _) (argsL := [(.ref w_2)]) (rest := []) (lenOf pd_0 rfl) rfl (by show 2 * 0 + _ ≤ _; exact Nat.le_of_eq rfl) (hb hby d2_25) (fun _ _ => ⟨rfl, e109, (by decide : 0 + 0 ≤ _), (by decide : 0 + 0 ≤ _)⟩)
  dsimp only [Pt.U, Pt.locs, Pt.cells, Pt.slots] at X111 l111 y111 z111 st111 hQ111
  subst l111 y111 z111
  obtain ⟨rv111, N111q, e111⟩ := hQ111
  rw [show sp3 w_1 w_2 (1 : Int32) = (1 : Int32) from by unfold sp3; rw [if_neg (Fld.ne F_1_ordinal F_2_ordinal (by decide))]] at rv111
  subst rv111
  have N111 := Fr.app N109 N111q
  obtain ⟨cq112, kq112, q112a, q112b, q112c⟩ := isOf hZ e111 (E_4.ext O0.2)
  obtain ⟨_, _, ⟨T112, L112, k112, n112⟩, -, X112, ⟨Lc112, hQ112, l112, y112, z112⟩, st112⟩ := X111.virtualBack hx (y := Y0) (z := Y0) hown (mvT hZ (hw _ (tk 24 rfl))) (mvT hZ (hw _ (tk 25 rfl))) (notFace_of_selects (args := #[]) (mvT hZ (hw _ (tk 27 rfl)))) (mvT hZ (hw _ (tk 27 rfl))) (mvT hZ (hw _ (tk 26 rfl))) (by decide) (backOf (W := 0) (rm3 l Z a0 hw [] w_1 w_2 w_3 w_4 w_5 k_5 hS0 w_4 w_2 (0 : Int32) h0 n0 O0 (F_4_sharedWithItself.ext O0.2)) hZ (hw _ (tk 28 rfl)) (hw _ (tk 3 rfl)) (by decide) (by decide)) q112a q112c (g := (mkF m 34 #[.val (.ref w_4), .val (.ref w_1), .val (.ref w_5), .val (.int (4 : Int32)), .val (.int ((0 : Int32) + (1 : Int32))), .val (.ref w_2)] [(.ref w_2), (.ref w_4)])) rfl (by rw [hml]; rfl) (Steps.refl _) (argsL := [(.ref w_2)]) (rest := []) (lenOf pd_0 rfl) rfl (by show 2 * 0 + _ ≤ _; exact Nat.le_of_eq rfl) (hb hby d2_34) (fun _ _ => ⟨rfl, e111, (by decide : 0 + 0 ≤ _), (by decide : 0 + 0 ≤ _)⟩)
  dsimp only [Pt.U, Pt.locs, Pt.cells, Pt.slots] at X112 l112 y112 z112 st112 hQ112
  subst l112 y112 z112
  obtain ⟨rv112, N112q, e112⟩ := hQ112
  rw [show sp3 w_4 w_2 (0 : Int32) = (1 : Int32) from by unfold sp3; rw [if_neg (Fld.ne F_4_ordinal F_2_ordinal (by decide))]] at rv112
  subst rv112
  have N112 := Fr.app N111 N112q
  obtain ⟨cl113, Ar113, qa113, Sa113, Ma113, Ha113, Ga113⟩ := id (V_5.ext O0.2)
  have hin113 : ¬ ((((0 : Int32) + (1 : Int32)) + (1 : Int32)) < 0 ∨ cl113.slots.size ≤ ((((0 : Int32) + (1 : Int32)) + (1 : Int32))).toNatClampNeg) := by  exact inb_of Sa113 ⟨by decide, by decide⟩
  have hat113 : cl113.slots[((((0 : Int32) + (1 : Int32)) + (1 : Int32))).toNatClampNeg]? = some (.ref w_3) := Has.at Ha113 hin113 (by rfl)
  obtain ⟨cq114, kq114, q114a, q114b, q114c⟩ := isOf hZ e112 (E_1.ext O0.2)
  obtain ⟨_, _, ⟨T114, L114, k114, n114⟩, -, X114, ⟨Lc114, hQ114, l114, y114, z114⟩, st114⟩ := X112.virtualBack hx (y := Y0) (z := Y0) hown (mvT hZ (hw _ (tk 24 rfl))) (mvT hZ (hw _ (tk 25 rfl))) (notFace_of_selects (args := #[]) (mvT hZ (hw _ (tk 27 rfl)))) (mvT hZ (hw _ (tk 27 rfl))) (mvT hZ (hw _ (tk 26 rfl))) (by decide) (backOf (W := 0) (rm3 l Z a0 hw [] w_1 w_2 w_3 w_4 w_5 k_5 hS0 w_1 w_3 (1 : Int32) h0 n0 O0 (F_1_sharedWithItself.ext O0.2)) hZ (hw _ (tk 28 rfl)) (hw _ (tk 3 rfl)) (by decide) (by decide)) q114a q114c (g := (mkF m 25 #[.val (.ref w_4), .val (.ref w_1), .val (.ref w_5), .val (.int (4 : Int32)), .val (.int (((0 : Int32) + (1 : Int32)) + (1 : Int32))), .val (.ref w_3)] [(.ref w_3), (.ref w_1)])) rfl (by rw [hml]; rfl) (Steps.refl _) (argsL := [(.ref w_3)]) (rest := []) (lenOf pd_0 rfl) rfl (by show 2 * 0 + _ ≤ _; exact Nat.le_of_eq rfl) (hb hby d2_25) (fun _ _ => ⟨rfl, e112, (by decide : 0 + 0 ≤ _), (by decide : 0 + 0 ≤ _)⟩)
  dsimp only [Pt.U, Pt.locs, Pt.cells, Pt.slots] at X114 l114 y114 z114 st114 hQ114
  subst l114 y114 z114
  obtain ⟨rv114, N114q, e114⟩ := hQ114
  rw [show sp3 w_1 w_3 (1 : Int32) = (1 : Int32) from by unfold sp3; rw [if_neg (Fld.ne F_1_sharedWithItself F_3_sharedWithItself (by decide))]] at rv114
  subst rv114
  have N114 := Fr.app N112 N114q
  obtain ⟨cq115, kq115, q115a, q115b, q115c⟩ := isOf hZ e114 (E_4.ext O0.2)
  obtain ⟨_, _, ⟨T115, L115, k115, n115⟩, -, X115, ⟨Lc115, hQ115, l115, y115, z115⟩, st115⟩ := X114.virtualBack hx (y := Y0) (z := Y0) hown (mvT hZ (hw _ (tk 24 rfl))) (mvT hZ (hw _ (tk 25 rfl))) (notFace_of_selects (args := #[]) (mvT hZ (hw _ (tk 27 rfl)))) (mvT hZ (hw _ (tk 27 rfl))) (mvT hZ (hw _ (tk 26 rfl))) (by decide) (backOf (W := 0) (rm3 l Z a0 hw [] w_1 w_2 w_3 w_4 w_5 k_5 hS0 w_4 w_3 (0 : Int32) h0 n0 O0 (F_4_sharedWithItself.ext O0.2)) hZ (hw _ (tk 28 rfl)) (hw _ (tk 3 rfl)) (by decide) (by decide)) q115a q115c (g := (mkF m 34 #[.val (.ref w_4), .val (.ref w_1), .val (.ref w_5), .val (.int (4 : Int32)), .val (.int (((0 : Int32) + (1 : Int32)) + (1 : Int32))), .val (.ref w_3)] [(.ref w_3), (.ref w_4)])) rfl (by rw [hml]; rfl) (Steps.refl _) (argsL := [(.ref w_3)]) (rest := []) (lenOf pd_0 rfl) rfl (by show 2 * 0 + _ ≤ _; exact Nat.le_of_eq rfl) (hb hby d2_34) (fun _ _ => ⟨rfl, e114, (by decide : 0 + 0 ≤ _), (by decide : 0 + 0 ≤ _)⟩)
  dsimp only [Pt.U, Pt.locs, Pt.cells, Pt.slots] at X115 l115 y115 z115 st115 hQ115
  subst l115 y115 z115
  obtain ⟨rv115, N115q, e115⟩ := hQ115
  rw [show sp3 w_4 w_3 (0 : Int32) = (1 : Int32) from by unfold sp3; rw [if_neg (Fld.ne F_4_ordinal F_3_ordinal (by decide))]] at rv115
  subst rv115
  have N115 := Fr.app N114 N115q
  obtain ⟨cl116, Ar116, qa116, Sa116, Ma116, Ha116, Ga116⟩ := id (V_5.ext O0.2)
  have hin116 : ¬ (((((0 : Int32) + (1 : Int32)) + (1 : Int32)) + (1 : Int32)) < 0 ∨ cl116.slots.size ≤ (((((0 : Int32) + (1 : Int32)) + (1 : Int32)) + (1 : Int32))).toNatClampNeg) := by  exact inb_of Sa116 ⟨by decide, by decide⟩
  have hat116 : cl116.slots[(((((0 : Int32) + (1 : Int32)) + (1 : Int32)) + (1 : Int32))).toNatClampNeg]? = some (.ref w_4) := Has.at Ha116 hin116 (by rfl)
  obtain ⟨cq117, kq117, q117a, q117b, q117c⟩ := isOf hZ e115 (E_1.ext O0.2)
  obtain ⟨_, _, ⟨T117, L117, k117, n117⟩, -, X117, ⟨Lc117, hQ117, l117, y117, z117⟩, st117⟩ := X115.virtualBack hx (y := Y0) (z := Y0) hown (mvT hZ (hw _ (tk 24 rfl))) (mvT hZ (hw _ (tk 25 rfl))) (notFace_of_selects (args := #[]) (mvT hZ (hw _ (tk 27 rfl)))) (mvT hZ (hw _ (tk 27 rfl))) (mvT hZ (hw _ (tk 26 rfl))) (by decide) (backOf (W := 0) (rm3 l Z a0 hw [] w_1 w_2 w_3 w_4 w_5 k_5 hS0 w_1 w_4 (1 : Int32) h0 n0 O0 (F_1_sharedWithItself.ext O0.2)) hZ (hw _ (tk 28 rfl)) (hw _ (tk 3 rfl)) (by decide) (by decide)) q117a q117c (g := (mkF m 25 #[.val (.ref w_4), .val (.ref w_1), .val (.ref w_5), .val (.int (4 : Int32)), .val (.int ((((0 : Int32) + (1 : Int32)) + (1 : Int32)) + (1 : Int32))), .val (.ref w_4)] [(.ref w_4), (.ref w_1)])) rfl (by rw [hml]; rfl) (Steps.refl _) (argsL := [(.ref w_4)]) (rest := []) (lenOf pd_0 rfl) rfl (by show 2 * 0 + _ ≤ _; exact Nat.le_of_eq rfl) (hb hby d2_25) (fun _ _ => ⟨rfl, e115, (by decide : 0 + 0 ≤ _), (by decide : 0 + 0 ≤ _)⟩)
  dsimp only [Pt.U, Pt.locs, Pt.cells, Pt.slots] at X117 l117 y117 z117 st117 hQ117
  subst l117 y117 z117
  obtain ⟨rv117, N117q, e117⟩ := hQ117
  rw [show sp3 w_1 w_4 (1 : Int32) = (1 : Int32) from by unfold sp3; rw [if_neg (Fld.ne F_1_sharedWithItself F_4_sharedWithItself (by decide))]] at rv117
  subst rv117
  have N117 := Fr.app N115 N117q
  obtain ⟨cq118, kq118, q118a, q118b, q118c⟩ := isOf hZ e117 (E_4.ext O0.2)
  obtain ⟨_, _, ⟨T118, L118, k118, n118⟩, -, X118, ⟨Lc118, hQ118, l118, y118, z118⟩, st118⟩ := X117.virtualBack hx (y := Y0) (z := Y0) hown (mvT hZ (hw _ (tk 24 rfl))) (mvT hZ (hw _ (tk 25 rfl))) (notFace_of_selects (args := #[]) (mvT hZ (hw _ (tk 27 rfl)))) (mvT hZ (hw _ (tk 27 rfl))) (mvT hZ (hw _ (tk 26 rfl))) (by decide) (backOf (W := 0) (rm3 l Z a0 hw [] w_1 w_2 w_3 w_4 w_5 k_5 hS0 w_4 w_4 (0 : Int32) h0 n0 O0 (F_4_sharedWithItself.ext O0.2)) hZ (hw _ (tk 28 rfl)) (hw _ (tk 3 rfl)) (by decide) (by decide)) q118a q118c (g := (mkF m 34 #[.val (.ref w_4), .val (.ref w_1), .val (.ref w_5), .val (.int (4 : Int32)), .val (.int ((((0 : Int32) + (1 : Int32)) + (1 : Int32)) + (1 : Int32))), .val (.ref w_4)] [(.ref w_4), (.ref w_4)])) rfl (by rw [hml]; rfl) (Steps.refl _) (argsL := [(.ref w_4)]) (rest := []) (lenOf pd_0 rfl) rfl (by show 2 * 0 + _ ≤ _; exact Nat.le_of_eq rfl) (hb hby d2_34) (fun _ _ => ⟨rfl, e117, (by decide : 0 + 0 ≤ _), (by decide : 0 + 0 ≤ _)⟩)
  dsimp only [Pt.U, Pt.locs, Pt.cells, Pt.slots] at X118 l118 y118 z118 st118 hQ118
  subst l118 y118 z118
  obtain ⟨rv118, N118q, e118⟩ := hQ118
  rw [show sp3 w_4 w_4 (0 : Int32) = (1 : Int32) from by unfold sp3; rw [if_pos rfl, if_pos (by decide : ((0 : Int32) = (0 : Int32)))]] at rv118
  subst rv118
  have N118 := Fr.app N117 N118q
  obtain ⟨fs, hr, hrun, hended, hW, hsame⟩ := X118.leave (v := some (.int (1 : Int32))) (fun h => by rw [Bd.returns] at h; cases h)
  refine ⟨_, _, pre0 _ ?_, hrun, hended, _, _, rfl, ?_, ⟨_, rfl⟩, hW, hsame.mono (by decide) (by decide)⟩
  · show Steps p.tables e below (s₁.setTop (mkF m 0 #[.val (.ref w_4), .val (.ref w_1), .unset, .unset, .unset, .unset] [])) _
    refine st106 _ ?_
    show Steps p.tables e below (T106.setTop (mkF m 3 #[.val (.ref w_4), .val (.ref w_1), .unset, .unset, .unset, .unset] [(.ref w_5)])) _
    refine XS.astoreN X106.here hx rfl (hb hby d2_3) rfl rfl (l' := #[.val (.ref w_4), .val (.ref w_1), .val (.ref w_5), .unset, .unset, .unset]) rfl ?_
    show Steps p.tables e below (T106.setTop (mkF m 4 #[.val (.ref w_4), .val (.ref w_1), .val (.ref w_5), .unset, .unset, .unset] [])) _
    refine XS.aloadN X106.here hx rfl (hb hby d2_4) rfl rfl ?_
    show Steps p.tables e below (T106.setTop (mkF m 5 #[.val (.ref w_4), .val (.ref w_1), .val (.ref w_5), .unset, .unset, .unset] [(.ref w_5)])) _
    refine X106.arraylength hx (by rw [e106]; exact Ar107.1) (State.isArrayOf_alike hZ.alike Ar107.2.1) (g := (mkF m 5 #[.val (.ref w_4), .val (.ref w_1), .val (.ref w_5), .unset, .unset, .unset] [(.ref w_5)])) rfl rfl (hb hby d2_5) _ ?_
    rw [len_of Sa107 Ma107]
    show Steps p.tables e below (T106.setTop (mkF m 6 #[.val (.ref w_4), .val (.ref w_1), .val (.ref w_5), .unset, .unset, .unset] [(.int (4 : Int32))])) _
    refine XS.istoreN X106.here hx rfl (hb hby d2_6) rfl (l' := #[.val (.ref w_4), .val (.ref w_1), .val (.ref w_5), .val (.int (4 : Int32)), .unset, .unset]) rfl ?_
    show Steps p.tables e below (T106.setTop (mkF m 7 #[.val (.ref w_4), .val (.ref w_1), .val (.ref w_5), .val (.int (4 : Int32)), .unset, .unset] [])) _
    refine XS.iconst X106.here hx rfl (hb hby d2_7) ?_
    show Steps p.tables e below (T106.setTop (mkF m 8 #[.val (.ref w_4), .val (.ref w_1), .val (.ref w_5), .val (.int (4 : Int32)), .unset, .unset] [(.int (0 : Int32))])) _
    refine XS.istore X106.here hx rfl (hb hby d2_8) rfl (l' := #[.val (.ref w_4), .val (.ref w_1), .val (.ref w_5), .val (.int (4 : Int32)), .val (.int (0 : Int32)), .unset]) rfl ?_
    show Steps p.tables e below (T106.setTop (mkF m 10 #[.val (.ref w_4), .val (.ref w_1), .val (.ref w_5), .val (.int (4 : Int32)), .val (.int (0 : Int32)), .unset] [])) _
    refine XS.iload X106.here hx rfl (hb hby d2_10) rfl ?_
    show Steps p.tables e below (T106.setTop (mkF m 12 #[.val (.ref w_4), .val (.ref w_1), .val (.ref w_5), .val (.int (4 : Int32)), .val (.int (0 : Int32)), .unset] [(.int (0 : Int32))])) _
    refine XS.iloadN X106.here hx rfl (hb hby d2_12) rfl ?_
    show Steps p.tables e below (T106.setTop (mkF m 13 #[.val (.ref w_4), .val (.ref w_1), .val (.ref w_5), .val (.int (4 : Int32)), .val (.int (0 : Int32)), .unset] [(.int (4 : Int32)), (.int (0 : Int32))])) _
    refine XS.icmpNo X106.here hx rfl (hb hby d2_13) rfl (tlt (by decide : ((0 : Int32) < (4 : Int32)))).2.1 ?_
    show Steps p.tables e below (T106.setTop (mkF m 16 #[.val (.ref w_4), .val (.ref w_1), .val (.ref w_5), .val (.int (4 : Int32)), .val (.int (0 : Int32)), .unset] [])) _
    refine XS.aloadN X106.here hx rfl (hb hby d2_16) rfl rfl ?_
    show Steps p.tables e below (T106.setTop (mkF m 17 #[.val (.ref w_4), .val (.ref w_1), .val (.ref w_5), .val (.int (4 : Int32)), .val (.int (0 : Int32)), .unset] [(.ref w_5)])) _
    refine XS.iload X106.here hx rfl (hb hby d2_17) rfl ?_
    show Steps p.tables e below (T106.setTop (mkF m 19 #[.val (.ref w_4), .val (.ref w_1), .val (.ref w_5), .val (.int (4 : Int32)), .val (.int (0 : Int32)), .unset] [(.int (0 : Int32)), (.ref w_5)])) _
    refine X106.aaload hx (j := (0 : Int32)) (v := (.ref w_1)) (by rw [e106]; exact Ar108.1) (State.isArrayOf_alike hZ.alike Ar108.2.1) rfl Ar108.2.2 hin108 hat108 (g := (mkF m 19 #[.val (.ref w_4), .val (.ref w_1), .val (.ref w_5), .val (.int (4 : Int32)), .val (.int (0 : Int32)), .unset] [(.int (0 : Int32)), (.ref w_5)])) rfl rfl (hb hby d2_19) _ ?_
    show Steps p.tables e below (T106.setTop (mkF m 20 #[.val (.ref w_4), .val (.ref w_1), .val (.ref w_5), .val (.int (4 : Int32)), .val (.int (0 : Int32)), .unset] [(.ref w_1)])) _
    refine XS.astore X106.here hx rfl (hb hby d2_20) rfl rfl (l' := #[.val (.ref w_4), .val (.ref w_1), .val (.ref w_5), .val (.int (4 : Int32)), .val (.int (0 : Int32)), .val (.ref w_1)]) rfl ?_
    show Steps p.tables e below (T106.setTop (mkF m 22 #[.val (.ref w_4), .val (.ref w_1), .val (.ref w_5), .val (.int (4 : Int32)), .val (.int (0 : Int32)), .val (.ref w_1)] [])) _
    refine XS.aloadN X106.here hx rfl (hb hby d2_22) rfl rfl ?_
    show Steps p.tables e below (T106.setTop (mkF m 23 #[.val (.ref w_4), .val (.ref w_1), .val (.ref w_5), .val (.int (4 : Int32)), .val (.int (0 : Int32)), .val (.ref w_1)] [(.ref w_1)])) _
    refine XS.aload X106.here hx rfl (hb hby d2_23) rfl rfl ?_
    show Steps p.tables e below (T106.setTop (mkF m 25 #[.val (.ref w_4), .val (.ref w_1), .val (.ref w_5), .val (.int (4 : Int32)), .val (.int (0 : Int32)), .val (.ref w_1)] [(.ref w_1), (.ref w_1)])) _
    refine st109.trans ?_
    show Steps p.tables e below (T109.setTop (mkF m 28 #[.val (.ref w_4), .val (.ref w_1), .val (.ref w_5), .val (.int (4 : Int32)), .val (.int (0 : Int32)), .val (.ref w_1)] [(.int (0 : Int32))])) _
    refine XS.ifYes X109.here hx rfl (pc0 := 28) (pc' := 42) rfl (hb hby d2_28) rfl ((if0 _ _).trans (teq (by decide : ((0 : Int32) = (0 : Int32)))).1) (by decide) (by decide) ?_
    show Steps p.tables e below (T109.setTop (mkF m 42 #[.val (.ref w_4), .val (.ref w_1), .val (.ref w_5), .val (.int (4 : Int32)), .val (.int (0 : Int32)), .val (.ref w_1)] [])) _
    refine XS.iinc X109.here hx rfl (hb hby d2_42) rfl (l' := #[.val (.ref w_4), .val (.ref w_1), .val (.ref w_5), .val (.int (4 : Int32)), .val (.int ((0 : Int32) + (1 : Int32))), .val (.ref w_1)]) rfl ?_
    show Steps p.tables e below (T109.setTop (mkF m 45 #[.val (.ref w_4), .val (.ref w_1), .val (.ref w_5), .val (.int (4 : Int32)), .val (.int ((0 : Int32) + (1 : Int32))), .val (.ref w_1)] [])) _
    refine XS.goto X109.here hx rfl (pc0 := 45) (pc' := 10) rfl (hb hby d2_45) (by decide) (by decide) ?_
    show Steps p.tables e below (T109.setTop (mkF m 10 #[.val (.ref w_4), .val (.ref w_1), .val (.ref w_5), .val (.int (4 : Int32)), .val (.int ((0 : Int32) + (1 : Int32))), .val (.ref w_1)] [])) _
    refine XS.iload X109.here hx rfl (hb hby d2_10) rfl ?_
    show Steps p.tables e below (T109.setTop (mkF m 12 #[.val (.ref w_4), .val (.ref w_1), .val (.ref w_5), .val (.int (4 : Int32)), .val (.int ((0 : Int32) + (1 : Int32))), .val (.ref w_1)] [(.int ((0 : Int32) + (1 : Int32)))])) _
    refine XS.iloadN X109.here hx rfl (hb hby d2_12) rfl ?_
    show Steps p.tables e below (T109.setTop (mkF m 13 #[.val (.ref w_4), .val (.ref w_1), .val (.ref w_5), .val (.int (4 : Int32)), .val (.int ((0 : Int32) + (1 : Int32))), .val (.ref w_1)] [(.int (4 : Int32)), (.int ((0 : Int32) + (1 : Int32)))])) _
    refine XS.icmpNo X109.here hx rfl (hb hby d2_13) rfl (tlt (by decide : (((0 : Int32) + (1 : Int32)) < (4 : Int32)))).2.1 ?_
    show Steps p.tables e below (T109.setTop (mkF m 16 #[.val (.ref w_4), .val (.ref w_1), .val (.ref w_5), .val (.int (4 : Int32)), .val (.int ((0 : Int32) + (1 : Int32))), .val (.ref w_1)] [])) _
    refine XS.aloadN X109.here hx rfl (hb hby d2_16) rfl rfl ?_
    show Steps p.tables e below (T109.setTop (mkF m 17 #[.val (.ref w_4), .val (.ref w_1), .val (.ref w_5), .val (.int (4 : Int32)), .val (.int ((0 : Int32) + (1 : Int32))), .val (.ref w_1)] [(.ref w_5)])) _
    refine XS.iload X109.here hx rfl (hb hby d2_17) rfl ?_
    show Steps p.tables e below (T109.setTop (mkF m 19 #[.val (.ref w_4), .val (.ref w_1), .val (.ref w_5), .val (.int (4 : Int32)), .val (.int ((0 : Int32) + (1 : Int32))), .val (.ref w_1)] [(.int ((0 : Int32) + (1 : Int32))), (.ref w_5)])) _
    refine X109.aaload hx (j := ((0 : Int32) + (1 : Int32))) (v := (.ref w_2)) (by rw [e109]; exact Ar110.1) (State.isArrayOf_alike hZ.alike Ar110.2.1) rfl Ar110.2.2 hin110 hat110 (g := (mkF m 19 #[.val (.ref w_4), .val (.ref w_1), .val (.ref w_5), .val (.int (4 : Int32)), .val (.int ((0 : Int32) + (1 : Int32))), .val (.ref w_1)] [(.int ((0 : Int32) + (1 : Int32))), (.ref w_5)])) rfl rfl (hb hby d2_19) _ ?_
    show Steps p.tables e below (T109.setTop (mkF m 20 #[.val (.ref w_4), .val (.ref w_1), .val (.ref w_5), .val (.int (4 : Int32)), .val (.int ((0 : Int32) + (1 : Int32))), .val (.ref w_1)] [(.ref w_2)])) _
    refine XS.astore X109.here hx rfl (hb hby d2_20) rfl rfl (l' := #[.val (.ref w_4), .val (.ref w_1), .val (.ref w_5), .val (.int (4 : Int32)), .val (.int ((0 : Int32) + (1 : Int32))), .val (.ref w_2)]) rfl ?_
    show Steps p.tables e below (T109.setTop (mkF m 22 #[.val (.ref w_4), .val (.ref w_1), .val (.ref w_5), .val (.int (4 : Int32)), .val (.int ((0 : Int32) + (1 : Int32))), .val (.ref w_2)] [])) _
    refine XS.aloadN X109.here hx rfl (hb hby d2_22) rfl rfl ?_
    show Steps p.tables e below (T109.setTop (mkF m 23 #[.val (.ref w_4), .val (.ref w_1), .val (.ref w_5), .val (.int (4 : Int32)), .val (.int ((0 : Int32) + (1 : Int32))), .val (.ref w_2)] [(.ref w_1)])) _
    refine XS.aload X109.here hx rfl (hb hby d2_23) rfl rfl ?_
    show Steps p.tables e below (T109.setTop (mkF m 25 #[.val (.ref w_4), .val (.ref w_1), .val (.ref w_5), .val (.int (4 : Int32)), .val (.int ((0 : Int32) + (1 : Int32))), .val (.ref w_2)] [(.ref w_2), (.ref w_1)])) _
    refine st111.trans ?_
    show Steps p.tables e below (T111.setTop (mkF m 28 #[.val (.ref w_4), .val (.ref w_1), .val (.ref w_5), .val (.int (4 : Int32)), .val (.int ((0 : Int32) + (1 : Int32))), .val (.ref w_2)] [(.int (1 : Int32))])) _
    refine XS.ifNo X111.here hx rfl (hb hby d2_28) rfl ((if0 _ _).trans (feq (by decide : ¬ ((1 : Int32) = (0 : Int32)))).1) ?_
    show Steps p.tables e below (T111.setTop (mkF m 31 #[.val (.ref w_4), .val (.ref w_1), .val (.ref w_5), .val (.int (4 : Int32)), .val (.int ((0 : Int32) + (1 : Int32))), .val (.ref w_2)] [])) _
    refine XS.aloadN X111.here hx rfl (hb hby d2_31) rfl rfl ?_
    show Steps p.tables e below (T111.setTop (mkF m 32 #[.val (.ref w_4), .val (.ref w_1), .val (.ref w_5), .val (.int (4 : Int32)), .val (.int ((0 : Int32) + (1 : Int32))), .val (.ref w_2)] [(.ref w_4)])) _
    refine XS.aload X111.here hx rfl (hb hby d2_32) rfl rfl ?_
    show Steps p.tables e below (T111.setTop (mkF m 34 #[.val (.ref w_4), .val (.ref w_1), .val (.ref w_5), .val (.int (4 : Int32)), .val (.int ((0 : Int32) + (1 : Int32))), .val (.ref w_2)] [(.ref w_2), (.ref w_4)])) _
    refine st112.trans ?_
    show Steps p.tables e below (T112.setTop (mkF m 37 #[.val (.ref w_4), .val (.ref w_1), .val (.ref w_5), .val (.int (4 : Int32)), .val (.int ((0 : Int32) + (1 : Int32))), .val (.ref w_2)] [(.int (1 : Int32))])) _
    refine XS.ifYes X112.here hx rfl (pc0 := 37) (pc' := 42) rfl (hb hby d2_37) rfl ((if0 _ _).trans (feq (by decide : ¬ ((1 : Int32) = (0 : Int32)))).2) (by decide) (by decide) ?_
    show Steps p.tables e below (T112.setTop (mkF m 42 #[.val (.ref w_4), .val (.ref w_1), .val (.ref w_5), .val (.int (4 : Int32)), .val (.int ((0 : Int32) + (1 : Int32))), .val (.ref w_2)] [])) _
    refine XS.iinc X112.here hx rfl (hb hby d2_42) rfl (l' := #[.val (.ref w_4), .val (.ref w_1), .val (.ref w_5), .val (.int (4 : Int32)), .val (.int (((0 : Int32) + (1 : Int32)) + (1 : Int32))), .val (.ref w_2)]) rfl ?_
    show Steps p.tables e below (T112.setTop (mkF m 45 #[.val (.ref w_4), .val (.ref w_1), .val (.ref w_5), .val (.int (4 : Int32)), .val (.int (((0 : Int32) + (1 : Int32)) + (1 : Int32))), .val (.ref w_2)] [])) _
    refine XS.goto X112.here hx rfl (pc0 := 45) (pc' := 10) rfl (hb hby d2_45) (by decide) (by decide) ?_
    show Steps p.tables e below (T112.setTop (mkF m 10 #[.val (.ref w_4), .val (.ref w_1), .val (.ref w_5), .val (.int (4 : Int32)), .val (.int (((0 : Int32) + (1 : Int32)) + (1 : Int32))), .val (.ref w_2)] [])) _
    refine XS.iload X112.here hx rfl (hb hby d2_10) rfl ?_
    show Steps p.tables e below (T112.setTop (mkF m 12 #[.val (.ref w_4), .val (.ref w_1), .val (.ref w_5), .val (.int (4 : Int32)), .val (.int (((0 : Int32) + (1 : Int32)) + (1 : Int32))), .val (.ref w_2)] [(.int (((0 : Int32) + (1 : Int32)) + (1 : Int32)))])) _
    refine XS.iloadN X112.here hx rfl (hb hby d2_12) rfl ?_
    show Steps p.tables e below (T112.setTop (mkF m 13 #[.val (.ref w_4), .val (.ref w_1), .val (.ref w_5), .val (.int (4 : Int32)), .val (.int (((0 : Int32) + (1 : Int32)) + (1 : Int32))), .val (.ref w_2)] [(.int (4 : Int32)), (.int (((0 : Int32) + (1 : Int32)) + (1 : Int32)))])) _
    refine XS.icmpNo X112.here hx rfl (hb hby d2_13) rfl (tlt (by decide : ((((0 : Int32) + (1 : Int32)) + (1 : Int32)) < (4 : Int32)))).2.1 ?_
    show Steps p.tables e below (T112.setTop (mkF m 16 #[.val (.ref w_4), .val (.ref w_1), .val (.ref w_5), .val (.int (4 : Int32)), .val (.int (((0 : Int32) + (1 : Int32)) + (1 : Int32))), .val (.ref w_2)] [])) _
    refine XS.aloadN X112.here hx rfl (hb hby d2_16) rfl rfl ?_
    show Steps p.tables e below (T112.setTop (mkF m 17 #[.val (.ref w_4), .val (.ref w_1), .val (.ref w_5), .val (.int (4 : Int32)), .val (.int (((0 : Int32) + (1 : Int32)) + (1 : Int32))), .val (.ref w_2)] [(.ref w_5)])) _
    refine XS.iload X112.here hx rfl (hb hby d2_17) rfl ?_
    show Steps p.tables e below (T112.setTop (mkF m 19 #[.val (.ref w_4), .val (.ref w_1), .val (.ref w_5), .val (.int (4 : Int32)), .val (.int (((0 : Int32) + (1 : Int32)) + (1 : Int32))), .val (.ref w_2)] [(.int (((0 : Int32) + (1 : Int32)) + (1 : Int32))), (.ref w_5)])) _
    refine X112.aaload hx (j := (((0 : Int32) + (1 : Int32)) + (1 : Int32))) (v := (.ref w_3)) (by rw [e112]; exact Ar113.1) (State.isArrayOf_alike hZ.alike Ar113.2.1) rfl Ar113.2.2 hin113 hat113 (g := (mkF m 19 #[.val (.ref w_4), .val (.ref w_1), .val (.ref w_5), .val (.int (4 : Int32)), .val (.int (((0 : Int32) + (1 : Int32)) + (1 : Int32))), .val (.ref w_2)] [(.int (((0 : Int32) + (1 : Int32)) + (1 : Int32))), (.ref w_5)])) rfl rfl (hb hby d2_19) _ ?_
    show Steps p.tables e below (T112.setTop (mkF m 20 #[.val (.ref w_4), .val (.ref w_1), .val (.ref w_5), .val (.int (4 : Int32)), .val (.int (((0 : Int32) + (1 : Int32)) + (1 : Int32))), .val (.ref w_2)] [(.ref w_3)])) _
    refine XS.astore X112.here hx rfl (hb hby d2_20) rfl rfl (l' := #[.val (.ref w_4), .val (.ref w_1), .val (.ref w_5), .val (.int (4 : Int32)), .val (.int (((0 : Int32) + (1 : Int32)) + (1 : Int32))), .val (.ref w_3)]) rfl ?_
    show Steps p.tables e below (T112.setTop (mkF m 22 #[.val (.ref w_4), .val (.ref w_1), .val (.ref w_5), .val (.int (4 : Int32)), .val (.int (((0 : Int32) + (1 : Int32)) + (1 : Int32))), .val (.ref w_3)] [])) _
    refine XS.aloadN X112.here hx rfl (hb hby d2_22) rfl rfl ?_
    show Steps p.tables e below (T112.setTop (mkF m 23 #[.val (.ref w_4), .val (.ref w_1), .val (.ref w_5), .val (.int (4 : Int32)), .val (.int (((0 : Int32) + (1 : Int32)) + (1 : Int32))), .val (.ref w_3)] [(.ref w_1)])) _
    refine XS.aload X112.here hx rfl (hb hby d2_23) rfl rfl ?_
    show Steps p.tables e below (T112.setTop (mkF m 25 #[.val (.ref w_4), .val (.ref w_1), .val (.ref w_5), .val (.int (4 : Int32)), .val (.int (((0 : Int32) + (1 : Int32)) + (1 : Int32))), .val (.ref w_3)] [(.ref w_3), (.ref w_1)])) _
    refine st114.trans ?_
    show Steps p.tables e below (T114.setTop (mkF m 28 #[.val (.ref w_4), .val (.ref w_1), .val (.ref w_5), .val (.int (4 : Int32)), .val (.int (((0 : Int32) + (1 : Int32)) + (1 : Int32))), .val (.ref w_3)] [(.int (1 : Int32))])) _
    refine XS.ifNo X114.here hx rfl (hb hby d2_28) rfl ((if0 _ _).trans (feq (by decide : ¬ ((1 : Int32) = (0 : Int32)))).1) ?_
    show Steps p.tables e below (T114.setTop (mkF m 31 #[.val (.ref w_4), .val (.ref w_1), .val (.ref w_5), .val (.int (4 : Int32)), .val (.int (((0 : Int32) + (1 : Int32)) + (1 : Int32))), .val (.ref w_3)] [])) _
    refine XS.aloadN X114.here hx rfl (hb hby d2_31) rfl rfl ?_
    show Steps p.tables e below (T114.setTop (mkF m 32 #[.val (.ref w_4), .val (.ref w_1), .val (.ref w_5), .val (.int (4 : Int32)), .val (.int (((0 : Int32) + (1 : Int32)) + (1 : Int32))), .val (.ref w_3)] [(.ref w_4)])) _
    refine XS.aload X114.here hx rfl (hb hby d2_32) rfl rfl ?_
    show Steps p.tables e below (T114.setTop (mkF m 34 #[.val (.ref w_4), .val (.ref w_1), .val (.ref w_5), .val (.int (4 : Int32)), .val (.int (((0 : Int32) + (1 : Int32)) + (1 : Int32))), .val (.ref w_3)] [(.ref w_3), (.ref w_4)])) _
    refine st115.trans ?_
    show Steps p.tables e below (T115.setTop (mkF m 37 #[.val (.ref w_4), .val (.ref w_1), .val (.ref w_5), .val (.int (4 : Int32)), .val (.int (((0 : Int32) + (1 : Int32)) + (1 : Int32))), .val (.ref w_3)] [(.int (1 : Int32))])) _
    refine XS.ifYes X115.here hx rfl (pc0 := 37) (pc' := 42) rfl (hb hby d2_37) rfl ((if0 _ _).trans (feq (by decide : ¬ ((1 : Int32) = (0 : Int32)))).2) (by decide) (by decide) ?_
    show Steps p.tables e below (T115.setTop (mkF m 42 #[.val (.ref w_4), .val (.ref w_1), .val (.ref w_5), .val (.int (4 : Int32)), .val (.int (((0 : Int32) + (1 : Int32)) + (1 : Int32))), .val (.ref w_3)] [])) _
    refine XS.iinc X115.here hx rfl (hb hby d2_42) rfl (l' := #[.val (.ref w_4), .val (.ref w_1), .val (.ref w_5), .val (.int (4 : Int32)), .val (.int ((((0 : Int32) + (1 : Int32)) + (1 : Int32)) + (1 : Int32))), .val (.ref w_3)]) rfl ?_
    show Steps p.tables e below (T115.setTop (mkF m 45 #[.val (.ref w_4), .val (.ref w_1), .val (.ref w_5), .val (.int (4 : Int32)), .val (.int ((((0 : Int32) + (1 : Int32)) + (1 : Int32)) + (1 : Int32))), .val (.ref w_3)] [])) _
    refine XS.goto X115.here hx rfl (pc0 := 45) (pc' := 10) rfl (hb hby d2_45) (by decide) (by decide) ?_
    show Steps p.tables e below (T115.setTop (mkF m 10 #[.val (.ref w_4), .val (.ref w_1), .val (.ref w_5), .val (.int (4 : Int32)), .val (.int ((((0 : Int32) + (1 : Int32)) + (1 : Int32)) + (1 : Int32))), .val (.ref w_3)] [])) _
    refine XS.iload X115.here hx rfl (hb hby d2_10) rfl ?_
    show Steps p.tables e below (T115.setTop (mkF m 12 #[.val (.ref w_4), .val (.ref w_1), .val (.ref w_5), .val (.int (4 : Int32)), .val (.int ((((0 : Int32) + (1 : Int32)) + (1 : Int32)) + (1 : Int32))), .val (.ref w_3)] [(.int ((((0 : Int32) + (1 : Int32)) + (1 : Int32)) + (1 : Int32)))])) _
    refine XS.iloadN X115.here hx rfl (hb hby d2_12) rfl ?_
    show Steps p.tables e below (T115.setTop (mkF m 13 #[.val (.ref w_4), .val (.ref w_1), .val (.ref w_5), .val (.int (4 : Int32)), .val (.int ((((0 : Int32) + (1 : Int32)) + (1 : Int32)) + (1 : Int32))), .val (.ref w_3)] [(.int (4 : Int32)), (.int ((((0 : Int32) + (1 : Int32)) + (1 : Int32)) + (1 : Int32)))])) _
    refine XS.icmpNo X115.here hx rfl (hb hby d2_13) rfl (tlt (by decide : (((((0 : Int32) + (1 : Int32)) + (1 : Int32)) + (1 : Int32)) < (4 : Int32)))).2.1 ?_
    show Steps p.tables e below (T115.setTop (mkF m 16 #[.val (.ref w_4), .val (.ref w_1), .val (.ref w_5), .val (.int (4 : Int32)), .val (.int ((((0 : Int32) + (1 : Int32)) + (1 : Int32)) + (1 : Int32))), .val (.ref w_3)] [])) _
    refine XS.aloadN X115.here hx rfl (hb hby d2_16) rfl rfl ?_
    show Steps p.tables e below (T115.setTop (mkF m 17 #[.val (.ref w_4), .val (.ref w_1), .val (.ref w_5), .val (.int (4 : Int32)), .val (.int ((((0 : Int32) + (1 : Int32)) + (1 : Int32)) + (1 : Int32))), .val (.ref w_3)] [(.ref w_5)])) _
    refine XS.iload X115.here hx rfl (hb hby d2_17) rfl ?_
    show Steps p.tables e below (T115.setTop (mkF m 19 #[.val (.ref w_4), .val (.ref w_1), .val (.ref w_5), .val (.int (4 : Int32)), .val (.int ((((0 : Int32) + (1 : Int32)) + (1 : Int32)) + (1 : Int32))), .val (.ref w_3)] [(.int ((((0 : Int32) + (1 : Int32)) + (1 : Int32)) + (1 : Int32))), (.ref w_5)])) _
    refine X115.aaload hx (j := ((((0 : Int32) + (1 : Int32)) + (1 : Int32)) + (1 : Int32))) (v := (.ref w_4)) (by rw [e115]; exact Ar116.1) (State.isArrayOf_alike hZ.alike Ar116.2.1) rfl Ar116.2.2 hin116 hat116 (g := (mkF m 19 #[.val (.ref w_4), .val (.ref w_1), .val (.ref w_5), .val (.int (4 : Int32)), .val (.int ((((0 : Int32) + (1 : Int32)) + (1 : Int32)) + (1 : Int32))), .val (.ref w_3)] [(.int ((((0 : Int32) + (1 : Int32)) + (1 : Int32)) + (1 : Int32))), (.ref w_5)])) rfl rfl (hb hby d2_19) _ ?_
    show Steps p.tables e below (T115.setTop (mkF m 20 #[.val (.ref w_4), .val (.ref w_1), .val (.ref w_5), .val (.int (4 : Int32)), .val (.int ((((0 : Int32) + (1 : Int32)) + (1 : Int32)) + (1 : Int32))), .val (.ref w_3)] [(.ref w_4)])) _
    refine XS.astore X115.here hx rfl (hb hby d2_20) rfl rfl (l' := #[.val (.ref w_4), .val (.ref w_1), .val (.ref w_5), .val (.int (4 : Int32)), .val (.int ((((0 : Int32) + (1 : Int32)) + (1 : Int32)) + (1 : Int32))), .val (.ref w_4)]) rfl ?_
    show Steps p.tables e below (T115.setTop (mkF m 22 #[.val (.ref w_4), .val (.ref w_1), .val (.ref w_5), .val (.int (4 : Int32)), .val (.int ((((0 : Int32) + (1 : Int32)) + (1 : Int32)) + (1 : Int32))), .val (.ref w_4)] [])) _
    refine XS.aloadN X115.here hx rfl (hb hby d2_22) rfl rfl ?_
    show Steps p.tables e below (T115.setTop (mkF m 23 #[.val (.ref w_4), .val (.ref w_1), .val (.ref w_5), .val (.int (4 : Int32)), .val (.int ((((0 : Int32) + (1 : Int32)) + (1 : Int32)) + (1 : Int32))), .val (.ref w_4)] [(.ref w_1)])) _
    refine XS.aload X115.here hx rfl (hb hby d2_23) rfl rfl ?_
    show Steps p.tables e below (T115.setTop (mkF m 25 #[.val (.ref w_4), .val (.ref w_1), .val (.ref w_5), .val (.int (4 : Int32)), .val (.int ((((0 : Int32) + (1 : Int32)) + (1 : Int32)) + (1 : Int32))), .val (.ref w_4)] [(.ref w_4), (.ref w_1)])) _
    refine st117.trans ?_
    show Steps p.tables e below (T117.setTop (mkF m 28 #[.val (.ref w_4), .val (.ref w_1), .val (.ref w_5), .val (.int (4 : Int32)), .val (.int ((((0 : Int32) + (1 : Int32)) + (1 : Int32)) + (1 : Int32))), .val (.ref w_4)] [(.int (1 : Int32))])) _
    refine XS.ifNo X117.here hx rfl (hb hby d2_28) rfl ((if0 _ _).trans (feq (by decide : ¬ ((1 : Int32) = (0 : Int32)))).1) ?_
    show Steps p.tables e below (T117.setTop (mkF m 31 #[.val (.ref w_4), .val (.ref w_1), .val (.ref w_5), .val (.int (4 : Int32)), .val (.int ((((0 : Int32) + (1 : Int32)) + (1 : Int32)) + (1 : Int32))), .val (.ref w_4)] [])) _
    refine XS.aloadN X117.here hx rfl (hb hby d2_31) rfl rfl ?_
    show Steps p.tables e below (T117.setTop (mkF m 32 #[.val (.ref w_4), .val (.ref w_1), .val (.ref w_5), .val (.int (4 : Int32)), .val (.int ((((0 : Int32) + (1 : Int32)) + (1 : Int32)) + (1 : Int32))), .val (.ref w_4)] [(.ref w_4)])) _
    refine XS.aload X117.here hx rfl (hb hby d2_32) rfl rfl ?_
    show Steps p.tables e below (T117.setTop (mkF m 34 #[.val (.ref w_4), .val (.ref w_1), .val (.ref w_5), .val (.int (4 : Int32)), .val (.int ((((0 : Int32) + (1 : Int32)) + (1 : Int32)) + (1 : Int32))), .val (.ref w_4)] [(.ref w_4), (.ref w_4)])) _
    refine st118.trans ?_
    show Steps p.tables e below (T118.setTop (mkF m 37 #[.val (.ref w_4), .val (.ref w_1), .val (.ref w_5), .val (.int (4 : Int32)), .val (.int ((((0 : Int32) + (1 : Int32)) + (1 : Int32)) + (1 : Int32))), .val (.ref w_4)] [(.int (1 : Int32))])) _
    refine XS.ifYes X118.here hx rfl (pc0 := 37) (pc' := 42) rfl (hb hby d2_37) rfl ((if0 _ _).trans (feq (by decide : ¬ ((1 : Int32) = (0 : Int32)))).2) (by decide) (by decide) ?_
    show Steps p.tables e below (T118.setTop (mkF m 42 #[.val (.ref w_4), .val (.ref w_1), .val (.ref w_5), .val (.int (4 : Int32)), .val (.int ((((0 : Int32) + (1 : Int32)) + (1 : Int32)) + (1 : Int32))), .val (.ref w_4)] [])) _
    refine XS.iinc X118.here hx rfl (hb hby d2_42) rfl (l' := #[.val (.ref w_4), .val (.ref w_1), .val (.ref w_5), .val (.int (4 : Int32)), .val (.int (((((0 : Int32) + (1 : Int32)) + (1 : Int32)) + (1 : Int32)) + (1 : Int32))), .val (.ref w_4)]) rfl ?_
    show Steps p.tables e below (T118.setTop (mkF m 45 #[.val (.ref w_4), .val (.ref w_1), .val (.ref w_5), .val (.int (4 : Int32)), .val (.int (((((0 : Int32) + (1 : Int32)) + (1 : Int32)) + (1 : Int32)) + (1 : Int32))), .val (.ref w_4)] [])) _
    refine XS.goto X118.here hx rfl (pc0 := 45) (pc' := 10) rfl (hb hby d2_45) (by decide) (by decide) ?_
    show Steps p.tables e below (T118.setTop (mkF m 10 #[.val (.ref w_4), .val (.ref w_1), .val (.ref w_5), .val (.int (4 : Int32)), .val (.int (((((0 : Int32) + (1 : Int32)) + (1 : Int32)) + (1 : Int32)) + (1 : Int32))), .val (.ref w_4)] [])) _
    refine XS.iload X118.here hx rfl (hb hby d2_10) rfl ?_
    show Steps p.tables e below (T118.setTop (mkF m 12 #[.val (.ref w_4), .val (.ref w_1), .val (.ref w_5), .val (.int (4 : Int32)), .val (.int (((((0 : Int32) + (1 : Int32)) + (1 : Int32)) + (1 : Int32)) + (1 : Int32))), .val (.ref w_4)] [(.int (((((0 : Int32) + (1 : Int32)) + (1 : Int32)) + (1 : Int32)) + (1 : Int32)))])) _
    refine XS.iloadN X118.here hx rfl (hb hby d2_12) rfl ?_
    show Steps p.tables e below (T118.setTop (mkF m 13 #[.val (.ref w_4), .val (.ref w_1), .val (.ref w_5), .val (.int (4 : Int32)), .val (.int (((((0 : Int32) + (1 : Int32)) + (1 : Int32)) + (1 : Int32)) + (1 : Int32))), .val (.ref w_4)] [(.int (4 : Int32)), (.int (((((0 : Int32) + (1 : Int32)) + (1 : Int32)) + (1 : Int32)) + (1 : Int32)))])) _
    refine XS.icmpYes X118.here hx rfl (pc0 := 13) (pc' := 48) rfl (hb hby d2_13) rfl (flt (by decide : ¬ ((((((0 : Int32) + (1 : Int32)) + (1 : Int32)) + (1 : Int32)) + (1 : Int32)) < (4 : Int32)))).2.1 (by decide) (by decide) ?_
    show Steps p.tables e below (T118.setTop (mkF m 48 #[.val (.ref w_4), .val (.ref w_1), .val (.ref w_5), .val (.int (4 : Int32)), .val (.int (((((0 : Int32) + (1 : Int32)) + (1 : Int32)) + (1 : Int32)) + (1 : Int32))), .val (.ref w_4)] [])) _
    refine XS.iconst X118.here hx rfl (hb hby d2_48) ?_
    show Steps p.tables e below (T118.setTop (mkF m 49 #[.val (.ref w_4), .val (.ref w_1), .val (.ref w_5), .val (.int (4 : Int32)), .val (.int (((((0 : Int32) + (1 : Int32)) + (1 : Int32)) + (1 : Int32)) + (1 : Int32))), .val (.ref w_4)] [(.int (1 : Int32))])) _
    exact retN X118 hx (t := .boolean) Bd.returns (by simp) (hb hby d2_49) hr
  · show Q2x4 Z w_1 w_2 w_3 w_4 w_5 k_5 h0 n0 _ T118.heap _
    rw [e118]
    exact ⟨by unfold sp2x4; rfl, N118, rfl⟩
theorem pn_1x4 : plainName "com/example/lucid_locks/lucidlocks/locks/LockMode" = true := by first | (simp [plainName, overriddenIn]; done) | decide +kernel
theorem ef_1x4 (m : MethodId) (w_1 : Addr) (w_4 : Addr) : entryFrame m #[(.ref w_1), (.ref w_4)] 2 = mkF m 0 #[.val (.ref w_1), .val (.ref w_4)] [] := by first | (simp [entryFrame, mkF, argsToLocals, Value.category]; done) | rfl
def sp1x4 (w_4 : Addr) : Value := (.ref w_4)
def Q1x4 (Z : State) (w_1 : Addr) (w_2 : Addr) (w_3 : Addr) (w_4 : Addr) (w_5 : Addr) (k_5 : ClassId) (h0 : Heap) (n0 : Nat) (v : Option Value) (h : Heap) (L : List Loc) : Prop := v = some (sp1x4 w_4) ∧ Fr n0 L ∧ h = h0
set_option maxRecDepth 65536 in
set_option maxHeartbeats 40000000 in
theorem rm1x4 (l : Launch) (Z : State) (a0 : Array Value) (hw : ∀ d ∈ tables_1, d.before a0 Z = true) (ws : List Jvm.Cond) (w_1 : Addr) (w_2 : Addr) (w_3 : Addr) (w_4 : Addr) (w_5 : Addr) (k_5 : ClassId) (hS : StF Z w_1 w_2 w_3 w_4 w_5 k_5) (h0 : Heap) (n0 : Nat) (O0 : Old Z n0 h0) :
    MetFree l Y2 (head1 (Jvm.Cond.code Y2 prog_17_method_6_code 2 (some (.object "com/example/lucid_locks/lucidlocks/locks/LockMode")) :: ws) ({ frames := 2, cells := 0, slots := 0, locals := 30 } : Room)) (fun a U => a = #[(.ref w_1), (.ref w_4)] ∧ Z.Warmed39 U.vm ∧ U.heap = h0) (fun _ _ _ _ _ => True) (fun _ U o U' => ∃ v L, o = .returned v ∧ Q1x4 Z w_1 w_2 w_3 w_4 w_5 k_5 h0 n0 v U'.heap L ∧ FrameEnd U o U' L ({ frames := 2, cells := 0, slots := 0, locals := 30 } : Room).cells ({ frames := 2, cells := 0, slots := 0, locals := 30 } : Room).slots) := by
  refine MetFree.of_bodySF (plainFor_of_name pn_1x4) hisR ?_
  intro p e s m args below meth c s₁ Bd hml0 hP hK
  obtain ⟨rfl, hZ, hh⟩ := hP
  have hx := Bd.exec
  have hby := Bd.bytes
  have hml : c.maxLocals = 2 := hml0
  have hown : s.vm.findClass "com/example/lucid_locks/lucidlocks/locks/LockMode" = some m.cls := findClass_of_methodNamed Bd.named
  have hnm := (name_of_methodNamed Bd.named Bd.method).1
  have X0 : Stand p l e ({ frames := 2, cells := 0, slots := 0, locals := 30 } : Room) s m #[(.ref w_1), (.ref w_4)] below meth c s₁ [] 0 0 := Stand.of_body Bd
  have e0 : s₁.heap = h0 := by rw [← hh, Bd.state]; rfl
  have N0 := Fr.nil n0
  have hS0 := hS
  obtain ⟨S_1, E_1, S_2, E_2, S_3, E_3, S_4, E_4, S_5, F_1_sharedWithItself, F_1_ordinal, F_2_ordinal, F_4_ordinal, F_3_ordinal, F_4_sharedWithItself, F_2_sharedWithItself, F_3_sharedWithItself, V_5⟩ := hS
  have pre0 : ∀ t, Steps p.tables e below (s₁.setTop (mkF m 0 #[.val (.ref w_1), .val (.ref w_4)] [])) t → Steps p.tables e below (s₁.setTop (entryFrame m #[(.ref w_1), (.ref w_4)] 2)) t := fun t k => castTop (ef_1x4 m w_1 w_4) k
  obtain ⟨cq119, kq119, q119a, q119b, q119c⟩ := isOf hZ e0 (E_4.ext O0.2)
  obtain ⟨_, _, ⟨T119, L119, k119, n119⟩, -, X119, ⟨Lc119, hQ119, l119, y119, z119⟩, st119⟩ := X0.virtualBack hx (y := Y1) (z := Y1) hown (mvT hZ (hw _ (tk 17 rfl))) (mvT hZ (hw _ (tk 18 rfl))) (notFace_of_selects (args := #[]) (mvT hZ (hw _ (tk 20 rfl)))) (mvT hZ (hw _ (tk 20 rfl))) (mvT hZ (hw _ (tk 19 rfl))) (by decide) (backOf (W := 0) (rm2x4 l Z a0 hw [] w_1 w_2 w_3 w_4 w_5 k_5 hS0 h0 n0 O0) hZ (hw _ (tk 21 rfl)) (hw _ (tk 3 rfl)) (by decide) (by decide)) q119a q119c (g := (mkF m 2 #[.val (.ref w_1), .val (.ref w_4)] [(.ref w_1), (.ref w_4)])) rfl (by rw [hml]; rfl) (Steps.refl _) (argsL := [(.ref w_1)]) (rest := []) (lenOf pd_0 rfl) rfl (by show 2 * 0 + _ ≤ _; exact Nat.le_of_eq rfl) (hb hby d1_2) (fun _ _ => ⟨rfl, e0, (by decide : 0 + 0 ≤ _), (by decide : 0 + 0 ≤ _)⟩)
  dsimp only [Pt.U, Pt.locs, Pt.cells, Pt.slots] at X119 l119 y119 z119 st119 hQ119
  subst l119 y119 z119
  obtain ⟨rv119, N119q, e119⟩ := hQ119
  rw [show sp2x4 = (1 : Int32) from by unfold sp2x4; rfl] at rv119
  subst rv119
  have N119 := Fr.app N0 N119q
  obtain ⟨fs, hr, hrun, hended, hW, hsame⟩ := X119.leave (v := some (.ref w_4)) (fun h => by rw [Bd.returns] at h; cases h)
  refine ⟨_, _, pre0 _ ?_, hrun, hended, _, _, rfl, ?_, ⟨_, rfl⟩, hW, hsame.mono (by decide) (by decide)⟩
  · show Steps p.tables e below (s₁.setTop (mkF m 0 #[.val (.ref w_1), .val (.ref w_4)] [])) _
    refine XS.aloadN X0.here hx rfl (hb hby d1_0) rfl rfl ?_
    show Steps p.tables e below (s₁.setTop (mkF m 1 #[.val (.ref w_1), .val (.ref w_4)] [(.ref w_4)])) _
    refine XS.aloadN X0.here hx rfl (hb hby d1_1) rfl rfl ?_
    show Steps p.tables e below (s₁.setTop (mkF m 2 #[.val (.ref w_1), .val (.ref w_4)] [(.ref w_1), (.ref w_4)])) _
    refine st119.trans ?_
    show Steps p.tables e below (T119.setTop (mkF m 5 #[.val (.ref w_1), .val (.ref w_4)] [(.int (1 : Int32))])) _
    refine XS.ifNo X119.here hx rfl (hb hby d1_5) rfl ((if0 _ _).trans (feq (by decide : ¬ ((1 : Int32) = (0 : Int32)))).1) ?_
    show Steps p.tables e below (T119.setTop (mkF m 8 #[.val (.ref w_1), .val (.ref w_4)] [])) _
    refine XS.aloadN X119.here hx rfl (hb hby d1_8) rfl rfl ?_
    show Steps p.tables e below (T119.setTop (mkF m 9 #[.val (.ref w_1), .val (.ref w_4)] [(.ref w_4)])) _
    refine XS.goto X119.here hx rfl (pc0 := 9) (pc' := 15) rfl (hb hby d1_9) (by decide) (by decide) ?_
    show Steps p.tables e below (T119.setTop (mkF m 15 #[.val (.ref w_1), .val (.ref w_4)] [(.ref w_4)])) _
    jvm_step X119.here [X119.here.top, hx, (hb hby d1_15), X119.method', Bd.returns, Value.isRef, FieldType.isReference]
    first | (intro acts; rw [hr _ acts rfl rfl rfl]) | rw [hr _ _ rfl rfl rfl]
    exact Steps.refl _
  · show Q1x4 Z w_1 w_2 w_3 w_4 w_5 k_5 h0 n0 _ T119.heap _
    rw [e119]
    exact ⟨by unfold sp1x4; rfl, N119, rfl⟩
theorem pn_2x5 : plainName "com/example/lucid_locks/lucidlocks/locks/LockMode" = true := by first | (simp [plainName, overriddenIn]; done) | decide +kernel
theorem ef_2x5 (m : MethodId) (w_1 : Addr) (w_2 : Addr) : entryFrame m #[(.ref w_1), (.ref w_2)] 6 = mkF m 0 #[.val (.ref w_1), .val (.ref w_2), .unset, .unset, .unset, .unset] [] := by first | (simp [entryFrame, mkF, argsToLocals, Value.category]; done) | rfl
def sp2x5  : Int32 := (0 : Int32)
def Q2x5 (Z : State) (w_1 : Addr) (w_2 : Addr) (w_3 : Addr) (w_4 : Addr) (w_5 : Addr) (k_5 : ClassId) (h0 : Heap) (n0 : Nat) (v : Option Value) (h : Heap) (L : List Loc) : Prop := v = some (.int (sp2x5)) ∧ Fr n0 L ∧ h = h0
set_option maxRecDepth 65536 in
set_option maxHeartbeats 40000000 in
theorem rm2x5 (l : Launch) (Z : State) (a0 : Array Value) (hw : ∀ d ∈ tables_1, d.before a0 Z = true) (ws : List Jvm.Cond) (w_1 : Addr) (w_2 : Addr) (w_3 : Addr) (w_4 : Addr) (w_5 : Addr) (k_5 : ClassId) (hS : StF Z w_1 w_2 w_3 w_4 w_5 k_5) (h0 : Heap) (n0 : Nat) (O0 : Old Z n0 h0) :
    MetFree l Y1 (head1 (Jvm.Cond.code Y1 prog_17_method_7_code 6 (some .boolean) :: ws) ({ frames := 1, cells := 0, slots := 0, locals := 13 } : Room)) (fun a U => a = #[(.ref w_1), (.ref w_2)] ∧ Z.Warmed39 U.vm ∧ U.heap = h0) (fun _ _ _ _ _ => True) (fun _ U o U' => ∃ v L, o = .returned v ∧ Q2x5 Z w_1 w_2 w_3 w_4 w_5 k_5 h0 n0 v U'.heap L ∧ FrameEnd U o U' L ({ frames := 1, cells := 0, slots := 0, locals := 13 } : Room).cells ({ frames := 1, cells := 0, slots := 0, locals := 13 } : Room).slots) := by
  refine MetFree.of_bodySF (plainFor_of_name pn_2x5) hisR ?_
  intro p e s m args below meth c s₁ Bd hml0 hP hK
  obtain ⟨rfl, hZ, hh⟩ := hP
  have hx := Bd.exec
  have hby := Bd.bytes
  have hml : c.maxLocals = 6 := hml0
  have hown : s.vm.findClass "com/example/lucid_locks/lucidlocks/locks/LockMode" = some m.cls := findClass_of_methodNamed Bd.named
  have hnm := (name_of_methodNamed Bd.named Bd.method).1
  have X0 : Stand p l e ({ frames := 1, cells := 0, slots := 0, locals := 13 } : Room) s m #[(.ref w_1), (.ref w_2)] below meth c s₁ [] 0 0 := Stand.of_body Bd
  have e0 : s₁.heap = h0 := by rw [← hh, Bd.state]; rfl
  have N0 := Fr.nil n0
  have hS0 := hS
  obtain ⟨S_1, E_1, S_2, E_2, S_3, E_3, S_4, E_4, S_5, F_1_sharedWithItself, F_1_ordinal, F_2_ordinal, F_4_ordinal, F_3_ordinal, F_4_sharedWithItself, F_2_sharedWithItself, F_3_sharedWithItself, V_5⟩ := hS
  have pre0 : ∀ t, Steps p.tables e below (s₁.setTop (mkF m 0 #[.val (.ref w_1), .val (.ref w_2), .unset, .unset, .unset, .unset] [])) t → Steps p.tables e below (s₁.setTop (entryFrame m #[(.ref w_1), (.ref w_2)] 6)) t := fun t k => castTop (ef_2x5 m w_1 w_2) k
  obtain ⟨T127, X127, e127, st127⟩ := getS2 X0 hx hZ hown (host := "") (Or.inl (hw _ (tk 22 rfl))) Via.refl e0 (S_5.ext O0.2) (g := (mkF m 0 #[.val (.ref w_1), .val (.ref w_2), .unset, .unset, .unset, .unset] [])) rfl (hb hby d2_0)
  obtain ⟨cl128, Ar128, qa128, Sa128, Ma128, Ha128, Ga128⟩ := id (V_5.ext O0.2)
  obtain ⟨cl129, Ar129, qa129, Sa129, Ma129, Ha129, Ga129⟩ := id (V_5.ext O0.2)
  have hin129 : ¬ ((0 : Int32) < 0 ∨ cl129.slots.size ≤ ((0 : Int32)).toNatClampNeg) := by  exact inb_of Sa129 ⟨by decide, by decide⟩
  have hat129 : cl129.slots[((0 : Int32)).toNatClampNeg]? = some (.ref w_1) := Has.at Ha129 hin129 (by rfl)
  obtain ⟨cq130, kq130, q130a, q130b, q130c⟩ := isOf hZ e127 (E_2.ext O0.2)
  obtain ⟨_, _, ⟨T130, L130, k130, n130⟩, -, X130, ⟨Lc130, hQ130, l130, y130, z130⟩, st130⟩ := X127.virtualBack hx (y := Y0) (z := Y0) hown (mvT hZ (hw _ (tk 24 rfl))) (mvT hZ (hw _ (tk 25 rfl))) (notFace_of_selects (args := #[]) (mvT hZ (hw _ (tk 27 rfl)))) (mvT hZ (hw _ (tk 27 rfl))) (mvT hZ (hw _ (tk 26 rfl))) (by decide) (backOf (W := 0) (rm3 l Z a0 hw [] w_1 w_2 w_3 w_4 w_5 k_5 hS0 w_2 w_1 (1 : Int32) h0 n0 O0 (F_2_sharedWithItself.ext O0.2)) hZ (hw _ (tk 28 rfl)) (hw _ (tk 3 rfl)) (by decide) (by decide)) q130a q130c (g := (mkF m 25 #[.val (.ref w_1), .val (.ref w_2), .val (.ref w_5), .val (.int (4 : Int32)), .val (.int (0 : Int32)), .val (.ref w_1)] [(.ref w_1), (.ref w_2)])) rfl (by rw [hml]; rfl) (Steps.refl _) (argsL := [(.ref w_1)]) (rest := []) (lenOf pd_0 rfl) rfl (by show 2 * 0 + _ ≤ _; exact Nat.le_of_eq rfl) (hb hby d2_25) (fun _ _ => ⟨rfl, e127, (by decide : 0 + 0 ≤ _), (by decide : 0 + 0 ≤ _)⟩)
  dsimp only [Pt.U, Pt.locs, Pt.cells, Pt.slots] at X130 l130 y130 z130 st130 hQ130
  subst l130 y130 z130
  obtain ⟨rv130, N130q, e130⟩ := hQ130
  rw [show sp3 w_2 w_1 (1 : Int32) = (1 : Int32) from by unfold sp3; rw [if_neg (Fld.ne F_2_ordinal F_1_ordinal (by decide))]] at rv130
  subst rv130
  have N130 := Fr.app N0 N130q
  obtain ⟨cq131, kq131, q131a, q131b, q131c⟩ := isOf hZ e130 (E_1.ext O0.2)
  obtain ⟨_, _, ⟨T131, L131, k131, n131⟩, -, X131, ⟨Lc131, hQ131, l131, y131, z131⟩, st131⟩ := X130.virtualBack hx (y := Y0) (z := Y0) hown (mvT hZ (hw _ (tk 24 rfl))) (mvT hZ (hw _ (tk 25 rfl))) (notFace_of_selects (args := #[]) (mvT hZ (hw _ (tk 27 rfl)))) (mvT hZ (hw _ (tk 27 rfl))) (mvT hZ (hw _ (tk 26 rfl))) (by decide) (backOf (W := 0) (rm3 l Z a0 hw [] w_1 w_2 w_3 w_4 w_5 k_5 hS0 w_1 w_1 (1 : Int32) h0 n0 O0 (F_1_sharedWithItself.ext O0.2)) hZ (hw _ (tk 28 rfl)) (hw _ (tk 3 rfl)) (by decide) (by decide)) q131a q131c (g := (mkF m 34 #[.val (.ref w_1), .val (.ref w_2), .val (.ref w_5), .val (.int (4 : Int32)), .val (.int (0 : Int32)), .val (.ref w_1)] [(.ref w_1), (.ref w_1)])) rfl (by rw [hml]; rfl) (Steps.refl _) (argsL := [(.ref w_1)]) (rest := []) (lenOf pd_0 rfl) rfl (by show 2 * 0 + _ ≤ _; exact Nat.le_of_eq rfl) (hb hby d2_34) (fun _ _ => ⟨rfl, e130, (by decide : 0 + 0 ≤ _), (by decide : 0 + 0 ≤ _)⟩)
  dsimp only [Pt.U, Pt.locs, Pt.cells, Pt.slots] at X131 l131 y131 z131 st131 hQ131
  subst l131 y131 z131
  obtain ⟨rv131, N131q, e131⟩ := hQ131
  rw [show sp3 w_1 w_1 (1 : Int32) = (0 : Int32) from by unfold sp3; rw [if_pos rfl, if_neg (by decide : ¬ ((1 : Int32) = (0 : Int32)))]] at rv131
  subst rv131
  have N131 := Fr.app N130 N131q
  obtain ⟨fs, hr, hrun, hended, hW, hsame⟩ := X131.leave (v := some (.int (0 : Int32))) (fun h => by rw [Bd.returns] at h; cases h)
  refine ⟨_, _, pre0 _ ?_, hrun, hended, _, _, rfl, ?_, ⟨_, rfl⟩, hW, hsame.mono (by decide) (by decide)⟩
  · show Steps p.tables e below (s₁.setTop (mkF m 0 #[.val (.ref w_1), .val (.ref w_2), .unset, .unset, .unset, .unset] [])) _
    refine st127 _ ?_
    show Steps p.tables e below (T127.setTop (mkF m 3 #[.val (.ref w_1), .val (.ref w_2), .unset, .unset, .unset, .unset] [(.ref w_5)])) _
    refine XS.astoreN X127.here hx rfl (hb hby d2_3) rfl rfl (l' := #[.val (.ref w_1), .val (.ref w_2), .val (.ref w_5), .unset, .unset, .unset]) rfl ?_
    show Steps p.tables e below (T127.setTop (mkF m 4 #[.val (.ref w_1), .val (.ref w_2), .val (.ref w_5), .unset, .unset, .unset] [])) _
    refine XS.aloadN X127.here hx rfl (hb hby d2_4) rfl rfl ?_
    show Steps p.tables e below (T127.setTop (mkF m 5 #[.val (.ref w_1), .val (.ref w_2), .val (.ref w_5), .unset, .unset, .unset] [(.ref w_5)])) _
    refine X127.arraylength hx (by rw [e127]; exact Ar128.1) (State.isArrayOf_alike hZ.alike Ar128.2.1) (g := (mkF m 5 #[.val (.ref w_1), .val (.ref w_2), .val (.ref w_5), .unset, .unset, .unset] [(.ref w_5)])) rfl rfl (hb hby d2_5) _ ?_
    rw [len_of Sa128 Ma128]
    show Steps p.tables e below (T127.setTop (mkF m 6 #[.val (.ref w_1), .val (.ref w_2), .val (.ref w_5), .unset, .unset, .unset] [(.int (4 : Int32))])) _
    refine XS.istoreN X127.here hx rfl (hb hby d2_6) rfl (l' := #[.val (.ref w_1), .val (.ref w_2), .val (.ref w_5), .val (.int (4 : Int32)), .unset, .unset]) rfl ?_
    show Steps p.tables e below (T127.setTop (mkF m 7 #[.val (.ref w_1), .val (.ref w_2), .val (.ref w_5), .val (.int (4 : Int32)), .unset, .unset] [])) _
    refine XS.iconst X127.here hx rfl (hb hby d2_7) ?_
    show Steps p.tables e below (T127.setTop (mkF m 8 #[.val (.ref w_1), .val (.ref w_2), .val (.ref w_5), .val (.int (4 : Int32)), .unset, .unset] [(.int (0 : Int32))])) _
    refine XS.istore X127.here hx rfl (hb hby d2_8) rfl (l' := #[.val (.ref w_1), .val (.ref w_2), .val (.ref w_5), .val (.int (4 : Int32)), .val (.int (0 : Int32)), .unset]) rfl ?_
    show Steps p.tables e below (T127.setTop (mkF m 10 #[.val (.ref w_1), .val (.ref w_2), .val (.ref w_5), .val (.int (4 : Int32)), .val (.int (0 : Int32)), .unset] [])) _
    refine XS.iload X127.here hx rfl (hb hby d2_10) rfl ?_
    show Steps p.tables e below (T127.setTop (mkF m 12 #[.val (.ref w_1), .val (.ref w_2), .val (.ref w_5), .val (.int (4 : Int32)), .val (.int (0 : Int32)), .unset] [(.int (0 : Int32))])) _
    refine XS.iloadN X127.here hx rfl (hb hby d2_12) rfl ?_
    show Steps p.tables e below (T127.setTop (mkF m 13 #[.val (.ref w_1), .val (.ref w_2), .val (.ref w_5), .val (.int (4 : Int32)), .val (.int (0 : Int32)), .unset] [(.int (4 : Int32)), (.int (0 : Int32))])) _
    refine XS.icmpNo X127.here hx rfl (hb hby d2_13) rfl (tlt (by decide : ((0 : Int32) < (4 : Int32)))).2.1 ?_
    show Steps p.tables e below (T127.setTop (mkF m 16 #[.val (.ref w_1), .val (.ref w_2), .val (.ref w_5), .val (.int (4 : Int32)), .val (.int (0 : Int32)), .unset] [])) _
    refine XS.aloadN X127.here hx rfl (hb hby d2_16) rfl rfl ?_
    show Steps p.tables e below (T127.setTop (mkF m 17 #[.val (.ref w_1), .val (.ref w_2), .val (.ref w_5), .val (.int (4 : Int32)), .val (.int (0 : Int32)), .unset] [(.ref w_5)])) _
    refine XS.iload X127.here hx rfl (hb hby d2_17) rfl ?_
    show Steps p.tables e below (T127.setTop (mkF m 19 #[.val (.ref w_1), .val (.ref w_2), .val (.ref w_5), .val (.int (4 : Int32)), .val (.int (0 : Int32)), .unset] [(.int (0 : Int32)), (.ref w_5)])) _
    refine X127.aaload hx (j := (0 : Int32)) (v := (.ref w_1)) (by rw [e127]; exact Ar129.1) (State.isArrayOf_alike hZ.alike Ar129.2.1) rfl Ar129.2.2 hin129 hat129 (g := (mkF m 19 #[.val (.ref w_1), .val (.ref w_2), .val (.ref w_5), .val (.int (4 : Int32)), .val (.int (0 : Int32)), .unset] [(.int (0 : Int32)), (.ref w_5)])) rfl rfl (hb hby d2_19) _ ?_
    show Steps p.tables e below (T127.setTop (mkF m 20 #[.val (.ref w_1), .val (.ref w_2), .val (.ref w_5), .val (.int (4 : Int32)), .val (.int (0 : Int32)), .unset] [(.ref w_1)])) _
    refine XS.astore X127.here hx rfl (hb hby d2_20) rfl rfl (l' := #[.val (.ref w_1), .val (.ref w_2), .val (.ref w_5), .val (.int (4 : Int32)), .val (.int (0 : Int32)), .val (.ref w_1)]) rfl ?_
    show Steps p.tables e below (T127.setTop (mkF m 22 #[.val (.ref w_1), .val (.ref w_2), .val (.ref w_5), .val (.int (4 : Int32)), .val (.int (0 : Int32)), .val (.ref w_1)] [])) _
    refine XS.aloadN X127.here hx rfl (hb hby d2_22) rfl rfl ?_
    show Steps p.tables e below (T127.setTop (mkF m 23 #[.val (.ref w_1), .val (.ref w_2), .val (.ref w_5), .val (.int (4 : Int32)), .val (.int (0 : Int32)), .val (.ref w_1)] [(.ref w_2)])) _
    refine XS.aload X127.here hx rfl (hb hby d2_23) rfl rfl ?_
    show Steps p.tables e below (T127.setTop (mkF m 25 #[.val (.ref w_1), .val (.ref w_2), .val (.ref w_5), .val (.int (4 : Int32)), .val (.int (0 : Int32)), .val (.ref w_1)] [(.ref w_1), (.ref w_2)])) _
    refine st130.trans ?_
    show Steps p.tables e below (T130.setTop (mkF m 28 #[.val (.ref w_1), .val (.ref w_2), .val (.ref w_5), .val (.int (4 : Int32)), .val (.int (0 : Int32)), .val (.ref w_1)] [(.int (1 : Int32))])) _
    refine XS.ifNo X130.here hx rfl (hb hby d2_28) rfl ((if0 _ _).trans (feq (by decide : ¬ ((1 : Int32) = (0 : Int32)))).1) ?_
    show Steps p.tables e below (T130.setTop (mkF m 31 #[.val (.ref w_1), .val (.ref w_2), .val (.ref w_5), .val (.int (4 : Int32)), .val (.int (0 : Int32)), .val (.ref w_1)] [])) _
    refine XS.aloadN X130.here hx rfl (hb hby d2_31) rfl rfl ?_
    show Steps p.tables e below (T130.setTop (mkF m 32 #[.val (.ref w_1), .val (.ref w_2), .val (.ref w_5), .val (.int (4 : Int32)), .val (.int (0 : Int32)), .val (.ref w_1)] [(.ref w_1)])) _
    refine XS.aload X130.here hx rfl (hb hby d2_32) rfl rfl ?_
    show Steps p.tables e below (T130.setTop (mkF m 34 #[.val (.ref w_1), .val (.ref w_2), .val (.ref w_5), .val (.int (4 : Int32)), .val (.int (0 : Int32)), .val (.ref w_1)] [(.ref w_1), (.ref w_1)])) _
    refine st131.trans ?_
    show Steps p.tables e below (T131.setTop (mkF m 37 #[.val (.ref w_1), .val (.ref w_2), .val (.ref w_5), .val (.int (4 : Int32)), .val (.int (0 : Int32)), .val (.ref w_1)] [(.int (0 : Int32))])) _
    refine XS.ifNo X131.here hx rfl (hb hby d2_37) rfl ((if0 _ _).trans (teq (by decide : ((0 : Int32) = (0 : Int32)))).2) ?_
    show Steps p.tables e below (T131.setTop (mkF m 40 #[.val (.ref w_1), .val (.ref w_2), .val (.ref w_5), .val (.int (4 : Int32)), .val (.int (0 : Int32)), .val (.ref w_1)] [])) _
    refine XS.iconst X131.here hx rfl (hb hby d2_40) ?_
    show Steps p.tables e below (T131.setTop (mkF m 41 #[.val (.ref w_1), .val (.ref w_2), .val (.ref w_5), .val (.int (4 : Int32)), .val (.int (0 : Int32)), .val (.ref w_1)] [(.int (0 : Int32))])) _
    exact retN X131 hx (t := .boolean) Bd.returns (by simp) (hb hby d2_41) hr
  · show Q2x5 Z w_1 w_2 w_3 w_4 w_5 k_5 h0 n0 _ T131.heap _
    rw [e131]
    exact ⟨by unfold sp2x5; rfl, N131, rfl⟩
theorem pn_1x5 : plainName "com/example/lucid_locks/lucidlocks/locks/LockMode" = true := by first | (simp [plainName, overriddenIn]; done) | decide +kernel
theorem ef_1x5 (m : MethodId) (w_2 : Addr) (w_1 : Addr) : entryFrame m #[(.ref w_2), (.ref w_1)] 2 = mkF m 0 #[.val (.ref w_2), .val (.ref w_1)] [] := by first | (simp [entryFrame, mkF, argsToLocals, Value.category]; done) | rfl
def sp1x5 (w_3 : Addr) : Value := (.ref w_3)
def Q1x5 (Z : State) (w_1 : Addr) (w_2 : Addr) (w_3 : Addr) (w_4 : Addr) (w_5 : Addr) (k_5 : ClassId) (h0 : Heap) (n0 : Nat) (v : Option Value) (h : Heap) (L : List Loc) : Prop := v = some (sp1x5 w_3) ∧ Fr n0 L ∧ h = h0
set_option maxRecDepth 65536 in
set_option maxHeartbeats 40000000 in
theorem rm1x5 (l : Launch) (Z : State) (a0 : Array Value) (hw : ∀ d ∈ tables_1, d.before a0 Z = true) (ws : List Jvm.Cond) (w_1 : Addr) (w_2 : Addr) (w_3 : Addr) (w_4 : Addr) (w_5 : Addr) (k_5 : ClassId) (hS : StF Z w_1 w_2 w_3 w_4 w_5 k_5) (h0 : Heap) (n0 : Nat) (O0 : Old Z n0 h0) :
    MetFree l Y2 (head1 (Jvm.Cond.code Y2 prog_17_method_6_code 2 (some (.object "com/example/lucid_locks/lucidlocks/locks/LockMode")) :: ws) ({ frames := 2, cells := 0, slots := 0, locals := 30 } : Room)) (fun a U => a = #[(.ref w_2), (.ref w_1)] ∧ Z.Warmed39 U.vm ∧ U.heap = h0) (fun _ _ _ _ _ => True) (fun _ U o U' => ∃ v L, o = .returned v ∧ Q1x5 Z w_1 w_2 w_3 w_4 w_5 k_5 h0 n0 v U'.heap L ∧ FrameEnd U o U' L ({ frames := 2, cells := 0, slots := 0, locals := 30 } : Room).cells ({ frames := 2, cells := 0, slots := 0, locals := 30 } : Room).slots) := by
  refine MetFree.of_bodySF (plainFor_of_name pn_1x5) hisR ?_
  intro p e s m args below meth c s₁ Bd hml0 hP hK
  obtain ⟨rfl, hZ, hh⟩ := hP
  have hx := Bd.exec
  have hby := Bd.bytes
  have hml : c.maxLocals = 2 := hml0
  have hown : s.vm.findClass "com/example/lucid_locks/lucidlocks/locks/LockMode" = some m.cls := findClass_of_methodNamed Bd.named
  have hnm := (name_of_methodNamed Bd.named Bd.method).1
  have X0 : Stand p l e ({ frames := 2, cells := 0, slots := 0, locals := 30 } : Room) s m #[(.ref w_2), (.ref w_1)] below meth c s₁ [] 0 0 := Stand.of_body Bd
  have e0 : s₁.heap = h0 := by rw [← hh, Bd.state]; rfl
  have N0 := Fr.nil n0
  have hS0 := hS
  obtain ⟨S_1, E_1, S_2, E_2, S_3, E_3, S_4, E_4, S_5, F_1_sharedWithItself, F_1_ordinal, F_2_ordinal, F_4_ordinal, F_3_ordinal, F_4_sharedWithItself, F_2_sharedWithItself, F_3_sharedWithItself, V_5⟩ := hS
  have pre0 : ∀ t, Steps p.tables e below (s₁.setTop (mkF m 0 #[.val (.ref w_2), .val (.ref w_1)] [])) t → Steps p.tables e below (s₁.setTop (entryFrame m #[(.ref w_2), (.ref w_1)] 2)) t := fun t k => castTop (ef_1x5 m w_2 w_1) k
  obtain ⟨cq132, kq132, q132a, q132b, q132c⟩ := isOf hZ e0 (E_1.ext O0.2)
  obtain ⟨_, _, ⟨T132, L132, k132, n132⟩, -, X132, ⟨Lc132, hQ132, l132, y132, z132⟩, st132⟩ := X0.virtualBack hx (y := Y1) (z := Y1) hown (mvT hZ (hw _ (tk 17 rfl))) (mvT hZ (hw _ (tk 18 rfl))) (notFace_of_selects (args := #[]) (mvT hZ (hw _ (tk 20 rfl)))) (mvT hZ (hw _ (tk 20 rfl))) (mvT hZ (hw _ (tk 19 rfl))) (by decide) (backOf (W := 0) (rm2x5 l Z a0 hw [] w_1 w_2 w_3 w_4 w_5 k_5 hS0 h0 n0 O0) hZ (hw _ (tk 21 rfl)) (hw _ (tk 3 rfl)) (by decide) (by decide)) q132a q132c (g := (mkF m 2 #[.val (.ref w_2), .val (.ref w_1)] [(.ref w_2), (.ref w_1)])) rfl (by rw [hml]; rfl) (Steps.refl _) (argsL := [(.ref w_2)]) (rest := []) (lenOf pd_0 rfl) rfl (by show 2 * 0 + _ ≤ _; exact Nat.le_of_eq rfl) (hb hby d1_2) (fun _ _ => ⟨rfl, e0, (by decide : 0 + 0 ≤ _), (by decide : 0 + 0 ≤ _)⟩)
  dsimp only [Pt.U, Pt.locs, Pt.cells, Pt.slots] at X132 l132 y132 z132 st132 hQ132
  subst l132 y132 z132
  obtain ⟨rv132, N132q, e132⟩ := hQ132
  rw [show sp2x5 = (0 : Int32) from by unfold sp2x5; rfl] at rv132
  subst rv132
  have N132 := Fr.app N0 N132q
  obtain ⟨T133, X133, e133, st133⟩ := getS2 X132 hx hZ hown (host := "") (Or.inl (hw _ (tk 31 rfl))) Via.refl e132 (S_3.ext O0.2) (g := (mkF m 12 #[.val (.ref w_2), .val (.ref w_1)] [])) rfl (hb hby d1_12)
  obtain ⟨fs, hr, hrun, hended, hW, hsame⟩ := X133.leave (v := some (.ref w_3)) (fun h => by rw [Bd.returns] at h; cases h)
  refine ⟨_, _, pre0 _ ?_, hrun, hended, _, _, rfl, ?_, ⟨_, rfl⟩, hW, hsame.mono (by decide) (by decide)⟩
  · show Steps p.tables e below (s₁.setTop (mkF m 0 #[.val (.ref w_2), .val (.ref w_1)] [])) _
    refine XS.aloadN X0.here hx rfl (hb hby d1_0) rfl rfl ?_
    show Steps p.tables e below (s₁.setTop (mkF m 1 #[.val (.ref w_2), .val (.ref w_1)] [(.ref w_1)])) _
    refine XS.aloadN X0.here hx rfl (hb hby d1_1) rfl rfl ?_
    show Steps p.tables e below (s₁.setTop (mkF m 2 #[.val (.ref w_2), .val (.ref w_1)] [(.ref w_2), (.ref w_1)])) _
    refine st132.trans ?_
    show Steps p.tables e below (T132.setTop (mkF m 5 #[.val (.ref w_2), .val (.ref w_1)] [(.int (0 : Int32))])) _
    refine XS.ifYes X132.here hx rfl (pc0 := 5) (pc' := 12) rfl (hb hby d1_5) rfl ((if0 _ _).trans (teq (by decide : ((0 : Int32) = (0 : Int32)))).1) (by decide) (by decide) ?_
    show Steps p.tables e below (T132.setTop (mkF m 12 #[.val (.ref w_2), .val (.ref w_1)] [])) _
    refine st133 _ ?_
    show Steps p.tables e below (T133.setTop (mkF m 15 #[.val (.ref w_2), .val (.ref w_1)] [(.ref w_3)])) _
    jvm_step X133.here [X133.here.top, hx, (hb hby d1_15), X133.method', Bd.returns, Value.isRef, FieldType.isReference]
    first | (intro acts; rw [hr _ acts rfl rfl rfl]) | rw [hr _ _ rfl rfl rfl]
    exact Steps.refl _
  · show Q1x5 Z w_1 w_2 w_3 w_4 w_5 k_5 h0 n0 _ T133.heap _
    rw [e133]
    exact ⟨by unfold sp1x5; rfl, N132, rfl⟩
theorem pn_2x6 : plainName "com/example/lucid_locks/lucidlocks/locks/LockMode" = true := by first | (simp [plainName, overriddenIn]; done) | decide +kernel
theorem ef_2x6 (m : MethodId) (w_2 : Addr) : entryFrame m #[(.ref w_2), (.ref w_2)] 6 = mkF m 0 #[.val (.ref w_2), .val (.ref w_2), .unset, .unset, .unset, .unset] [] := by first | (simp [entryFrame, mkF, argsToLocals, Value.category]; done) | rfl
def sp2x6  : Int32 := (1 : Int32)
def Q2x6 (Z : State) (w_1 : Addr) (w_2 : Addr) (w_3 : Addr) (w_4 : Addr) (w_5 : Addr) (k_5 : ClassId) (h0 : Heap) (n0 : Nat) (v : Option Value) (h : Heap) (L : List Loc) : Prop := v = some (.int (sp2x6)) ∧ Fr n0 L ∧ h = h0
set_option maxRecDepth 65536 in
set_option maxHeartbeats 40000000 in
theorem rm2x6 (l : Launch) (Z : State) (a0 : Array Value) (hw : ∀ d ∈ tables_1, d.before a0 Z = true) (ws : List Jvm.Cond) (w_1 : Addr) (w_2 : Addr) (w_3 : Addr) (w_4 : Addr) (w_5 : Addr) (k_5 : ClassId) (hS : StF Z w_1 w_2 w_3 w_4 w_5 k_5) (h0 : Heap) (n0 : Nat) (O0 : Old Z n0 h0) :
    MetFree l Y1 (head1 (Jvm.Cond.code Y1 prog_17_method_7_code 6 (some .boolean) :: ws) ({ frames := 1, cells := 0, slots := 0, locals := 13 } : Room)) (fun a U => a = #[(.ref w_2), (.ref w_2)] ∧ Z.Warmed39 U.vm ∧ U.heap = h0) (fun _ _ _ _ _ => True) (fun _ U o U' => ∃ v L, o = .returned v ∧ Q2x6 Z w_1 w_2 w_3 w_4 w_5 k_5 h0 n0 v U'.heap L ∧ FrameEnd U o U' L ({ frames := 1, cells := 0, slots := 0, locals := 13 } : Room).cells ({ frames := 1, cells := 0, slots := 0, locals := 13 } : Room).slots) := by
  refine MetFree.of_bodySF (plainFor_of_name pn_2x6) hisR ?_
  intro p e s m args below meth c s₁ Bd hml0 hP hK
  obtain ⟨rfl, hZ, hh⟩ := hP
  have hx := Bd.exec
  have hby := Bd.bytes
  have hml : c.maxLocals = 6 := hml0
  have hown : s.vm.findClass "com/example/lucid_locks/lucidlocks/locks/LockMode" = some m.cls := findClass_of_methodNamed Bd.named
  have hnm := (name_of_methodNamed Bd.named Bd.method).1
  have X0 : Stand p l e ({ frames := 1, cells := 0, slots := 0, locals := 13 } : Room) s m #[(.ref w_2), (.ref w_2)] below meth c s₁ [] 0 0 := Stand.of_body Bd
  have e0 : s₁.heap = h0 := by rw [← hh, Bd.state]; rfl
  have N0 := Fr.nil n0
  have hS0 := hS
  obtain ⟨S_1, E_1, S_2, E_2, S_3, E_3, S_4, E_4, S_5, F_1_sharedWithItself, F_1_ordinal, F_2_ordinal, F_4_ordinal, F_3_ordinal, F_4_sharedWithItself, F_2_sharedWithItself, F_3_sharedWithItself, V_5⟩ := hS
  have pre0 : ∀ t, Steps p.tables e below (s₁.setTop (mkF m 0 #[.val (.ref w_2), .val (.ref w_2), .unset, .unset, .unset, .unset] [])) t → Steps p.tables e below (s₁.setTop (entryFrame m #[(.ref w_2), (.ref w_2)] 6)) t := fun t k => castTop (ef_2x6 m w_2) k
  obtain ⟨T137, X137, e137, st137⟩ := getS2 X0 hx hZ hown (host := "") (Or.inl (hw _ (tk 22 rfl))) Via.refl e0 (S_5.ext O0.2) (g := (mkF m 0 #[.val (.ref w_2), .val (.ref w_2), .unset, .unset, .unset, .unset] [])) rfl (hb hby d2_0)
  obtain ⟨cl138, Ar138, qa138, Sa138, Ma138, Ha138, Ga138⟩ := id (V_5.ext O0.2)
  obtain ⟨cl139, Ar139, qa139, Sa139, Ma139, Ha139, Ga139⟩ := id (V_5.ext O0.2)
  have hin139 : ¬ ((0 : Int32) < 0 ∨ cl139.slots.size ≤ ((0 : Int32)).toNatClampNeg) := by  exact inb_of Sa139 ⟨by decide, by decide⟩
  have hat139 : cl139.slots[((0 : Int32)).toNatClampNeg]? = some (.ref w_1) := Has.at Ha139 hin139 (by rfl)
  obtain ⟨cq140, kq140, q140a, q140b, q140c⟩ := isOf hZ e137 (E_2.ext O0.2)
  obtain ⟨_, _, ⟨T140, L140, k140, n140⟩, -, X140, ⟨Lc140, hQ140, l140, y140, z140⟩, st140⟩ := X137.virtualBack hx (y := Y0) (z := Y0) hown (mvT hZ (hw _ (tk 24 rfl))) (mvT hZ (hw _ (tk 25 rfl))) (notFace_of_selects (args := #[]) (mvT hZ (hw _ (tk 27 rfl)))) (mvT hZ (hw _ (tk 27 rfl))) (mvT hZ (hw _ (tk 26 rfl))) (by decide) (backOf (W := 0) (rm3 l Z a0 hw [] w_1 w_2 w_3 w_4 w_5 k_5 hS0 w_2 w_1 (1 : Int32) h0 n0 O0 (F_2_sharedWithItself.ext O0.2)) hZ (hw _ (tk 28 rfl)) (hw _ (tk 3 rfl)) (by decide) (by decide)) q140a q140c (g := (mkF m 25 #[.val (.ref w_2), .val (.ref w_2), .val (.ref w_5), .val (.int (4 : Int32)), .val (.int (0 : Int32)), .val (.ref w_1)] [(.ref w_1), (.ref w_2)])) rfl (by rw [hml]; rfl) (Steps.refl _) (argsL := [(.ref w_1)]) (rest := []) (lenOf pd_0 rfl) rfl (by show 2 * 0 + _ ≤ _; exact Nat.le_of_eq rfl) (hb hby d2_25) (fun _ _ => ⟨rfl, e137, (by decide : 0 + 0 ≤ _), (by decide : 0 + 0 ≤ _)⟩)
  dsimp only [Pt.U, Pt.locs, Pt.cells, Pt.slots] at X140 l140 y140 z140 st140 hQ140
  subst l140 y140 z140
  obtain ⟨rv140, N140q, e140⟩ := hQ140
  rw [show sp3 w_2 w_1 (1 : Int32) = (1 : Int32) from by unfold sp3; rw [if_neg (Fld.ne F_2_ordinal F_1_ordinal (by decide))]] at rv140
  subst rv140
  have N140 := Fr.app N0 N140q
  obtain ⟨cq141, kq141, q141a, q141b, q141c⟩ := isOf hZ e140 (E_2.ext O0.2)
  obtain ⟨_, _, ⟨T141, L141, k141, n141⟩, -, X141, ⟨Lc141, hQ141, l141, y141, z141⟩, st141⟩ := X140.virtualBack hx (y := Y0) (z := Y0) hown (mvT hZ (hw _ (tk 24 rfl))) (mvT hZ (hw _ (tk 25 rfl))) (notFace_of_selects (args := #[]) (mvT hZ (hw _ (tk 27 rfl)))) (mvT hZ (hw _ (tk 27 rfl))) (mvT hZ (hw _ (tk 26 rfl))) (by decide) (backOf (W := 0) (rm3 l Z a0 hw [] w_1 w_2 w_3 w_4 w_5 k_5 hS0 w_2 w_1 (1 : Int32) h0 n0 O0 (F_2_sharedWithItself.ext O0.2)) hZ (hw _ (tk 28 rfl)) (hw _ (tk 3 rfl)) (by decide) (by decide)) q141a q141c (g := (mkF m 34 #[.val (.ref w_2), .val (.ref w_2), .val (.ref w_5), .val (.int (4 : Int32)), .val (.int (0 : Int32)), .val (.ref w_1)] [(.ref w_1), (.ref w_2)])) rfl (by rw [hml]; rfl) (Steps.refl _) (argsL := [(.ref w_1)]) (rest := []) (lenOf pd_0 rfl) rfl (by show 2 * 0 + _ ≤ _; exact Nat.le_of_eq rfl) (hb hby d2_34) (fun _ _ => ⟨rfl, e140, (by decide : 0 + 0 ≤ _), (by decide : 0 + 0 ≤ _)⟩)
  dsimp only [Pt.U, Pt.locs, Pt.cells, Pt.slots] at X141 l141 y141 z141 st141 hQ141
  subst l141 y141 z141
  obtain ⟨rv141, N141q, e141⟩ := hQ141
  rw [show sp3 w_2 w_1 (1 : Int32) = (1 : Int32) from by unfold sp3; rw [if_neg (Fld.ne F_2_ordinal F_1_ordinal (by decide))]] at rv141
  subst rv141
  have N141 := Fr.app N140 N141q
  obtain ⟨cl142, Ar142, qa142, Sa142, Ma142, Ha142, Ga142⟩ := id (V_5.ext O0.2)
  have hin142 : ¬ (((0 : Int32) + (1 : Int32)) < 0 ∨ cl142.slots.size ≤ (((0 : Int32) + (1 : Int32))).toNatClampNeg) := by  exact inb_of Sa142 ⟨by decide, by decide⟩
  have hat142 : cl142.slots[(((0 : Int32) + (1 : Int32))).toNatClampNeg]? = some (.ref w_2) := Has.at Ha142 hin142 (by rfl)
  obtain ⟨cq143, kq143, q143a, q143b, q143c⟩ := isOf hZ e141 (E_2.ext O0.2)
  obtain ⟨_, _, ⟨T143, L143, k143, n143⟩, -, X143, ⟨Lc143, hQ143, l143, y143, z143⟩, st143⟩ := X141.virtualBack hx (y := Y0) (z := Y0) hown (mvT hZ (hw _ (tk 24 rfl))) (mvT hZ (hw _ (tk 25 rfl))) (notFace_of_selects (args := #[]) (mvT hZ (hw _ (tk 27 rfl)))) (mvT hZ (hw _ (tk 27 rfl))) (mvT hZ (hw _ (tk 26 rfl))) (by decide) (backOf (W := 0) (rm3 l Z a0 hw [] w_1 w_2 w_3 w_4 w_5 k_5 hS0 w_2 w_2 (1 : Int32) h0 n0 O0 (F_2_sharedWithItself.ext O0.2)) hZ (hw _ (tk 28 rfl)) (hw _ (tk 3 rfl)) (by decide) (by decide)) q143a q143c (g := (mkF m 25 #[.val (.ref w_2), .val (.ref w_2), .val (.ref w_5), .val (.int (4 : Int32)), .val (.int ((0 : Int32) + (1 : Int32))), .val (.ref w_2)] [(.ref w_2), (.ref w_2)])) rfl (by rw [hml]; rfl) (Steps.refl _) (argsL := [(.ref w_2)]) (rest := []) (lenOf pd_0 rfl) rfl (by show 2 * 0 + _ ≤ _; exact Nat.le_of_eq rfl) (hb hby d2_25) (fun _ _ => ⟨rfl, e141, (by decide : 0 + 0 ≤ _), (by decide : 0 + 0 ≤ _)⟩)
  dsimp only [Pt.U, Pt.locs, Pt.cells, Pt.slots] at X143 l143 y143 z143 st143 hQ143
  subst l143 y143 z143
  obtain ⟨rv143, N143q, e143⟩ := hQ143
  rw [show sp3 w_2 w_2 (1 : Int32) = (0 : Int32) from by unfold sp3; rw [if_pos rfl, if_neg (by decide : ¬ ((1 : Int32) = (0 : Int32)))]] at rv143
  subst rv143
  have N143 := Fr.app N141 N143q
  obtain ⟨cl144, Ar144, qa144, Sa144, Ma144, Ha144, Ga144⟩ := id (V_5.ext O0.2)
  have hin144 : ¬ ((((0 : Int32) + (1 : Int32)) + (1 : Int32)) < 0 ∨ cl144.slots.size ≤ ((((0 : Int32) + (1 : Int32)) + (1 : Int32))).toNatClampNeg) := by  exact inb_of Sa144 ⟨by decide, by decide⟩
  have hat144 : cl144.slots[((((0 : Int32) + (1 : Int32)) + (1 : Int32))).toNatClampNeg]? = some (.ref w_3) := Has.at Ha144 hin144 (by rfl)
  obtain ⟨cq145, kq145, q145a, q145b, q145c⟩ := isOf hZ e143 (E_2.ext O0.2)
  obtain ⟨_, _, ⟨T145, L145, k145, n145⟩, -, X145, ⟨Lc145, hQ145, l145, y145, z145⟩, st145⟩ := X143.virtualBack hx (y := Y0) (z := Y0) hown (mvT hZ (hw _ (tk 24 rfl))) (mvT hZ (hw _ (tk 25 rfl))) (notFace_of_selects (args := #[]) (mvT hZ (hw _ (tk 27 rfl)))) (mvT hZ (hw _ (tk 27 rfl))) (mvT hZ (hw _ (tk 26 rfl))) (by decide) (backOf (W := 0) (rm3 l Z a0 hw [] w_1 w_2 w_3 w_4 w_5 k_5 hS0 w_2 w_3 (1 : Int32) h0 n0 O0 (F_2_sharedWithItself.ext O0.2)) hZ (hw _ (tk 28 rfl)) (hw _ (tk 3 rfl)) (by decide) (by decide)) q145a q145c (g := (mkF m 25 #[.val (.ref w_2), .val (.ref w_2), .val (.ref w_5), .val (.int (4 : Int32)), .val (.int (((0 : Int32) + (1 : Int32)) + (1 : Int32))), .val (.ref w_3)] [(.ref w_3), (.ref w_2)])) rfl (by rw [hml]; rfl) (Steps.refl _) (argsL := [(.ref w_3)]) (rest := []) (lenOf pd_0 rfl) rfl (by show 2 * 0 + _ ≤ _; exact Nat.le_of_eq rfl) (hb hby d2_25) (fun _ _ => ⟨rfl, e143, (by decide : 0 + 0 ≤ _), (by decide : 0 + 0 ≤ _)⟩)
  dsimp only [Pt.U, Pt.locs, Pt.cells, Pt.slots] at X145 l145 y145 z145 st145 hQ145
  subst l145 y145 z145
  obtain ⟨rv145, N145q, e145⟩ := hQ145
  rw [show sp3 w_2 w_3 (1 : Int32) = (1 : Int32) from by unfold sp3; rw [if_neg (Fld.ne F_2_ordinal F_3_ordinal (by decide))]] at rv145
  subst rv145
  have N145 := Fr.app N143 N145q
  obtain ⟨cq146, kq146, q146a, q146b, q146c⟩ := isOf hZ e145 (E_2.ext O0.2)
  obtain ⟨_, _, ⟨T146, L146, k146, n146⟩, -, X146, ⟨Lc146, hQ146, l146, y146, z146⟩, st146⟩ := X145.virtualBack hx (y := Y0) (z := Y0) hown (mvT hZ (hw _ (tk 24 rfl))) (mvT hZ (hw _ (tk 25 rfl))) (notFace_of_selects (args := #[]) (mvT hZ (hw _ (tk 27 rfl)))) (mvT hZ (hw _ (tk 27 rfl))) (mvT hZ (hw _ (tk 26 rfl))) (by decide) (backOf (W := 0) (rm3 l Z a0 hw [] w_1 w_2 w_3 w_4 w_5 k_5 hS0 w_2 w_3 (1 : Int32) h0 n0 O0 (F_2_sharedWithItself.ext O0.2)) hZ (hw _ (tk 28 rfl)) (hw _ (tk 3 rfl)) (by decide) (by decide)) q146a q146c (g := (mkF m 34 #[.val (.ref w_2), .val (.ref w_2), .val (.ref w_5), .val (.int (4 : Int32)), .val (.int (((0 : Int32) + (1 : Int32)) + (1 : Int32))), .val (.ref w_3)] [(.ref w_3), (.ref w_2)])) rfl (by rw [hml]; rfl) (Steps.refl _) (argsL := [(.ref w_3)]) (rest := []) (lenOf pd_0 rfl) rfl (by show 2 * 0 + _ ≤ _; exact Nat.le_of_eq rfl) (hb hby d2_34) (fun _ _ => ⟨rfl, e145, (by decide : 0 + 0 ≤ _), (by decide : 0 + 0 ≤ _)⟩)
  dsimp only [Pt.U, Pt.locs, Pt.cells, Pt.slots] at X146 l146 y146 z146 st146 hQ146
  subst l146 y146 z146
  obtain ⟨rv146, N146q, e146⟩ := hQ146
  rw [show sp3 w_2 w_3 (1 : Int32) = (1 : Int32) from by unfold sp3; rw [if_neg (Fld.ne F_2_ordinal F_3_ordinal (by decide))]] at rv146
  subst rv146
  have N146 := Fr.app N145 N146q
  obtain ⟨cl147, Ar147, qa147, Sa147, Ma147, Ha147, Ga147⟩ := id (V_5.ext O0.2)
  have hin147 : ¬ (((((0 : Int32) + (1 : Int32)) + (1 : Int32)) + (1 : Int32)) < 0 ∨ cl147.slots.size ≤ (((((0 : Int32) + (1 : Int32)) + (1 : Int32)) + (1 : Int32))).toNatClampNeg) := by  exact inb_of Sa147 ⟨by decide, by decide⟩
  have hat147 : cl147.slots[(((((0 : Int32) + (1 : Int32)) + (1 : Int32)) + (1 : Int32))).toNatClampNeg]? = some (.ref w_4) := Has.at Ha147 hin147 (by rfl)
  obtain ⟨cq148, kq148, q148a, q148b, q148c⟩ := isOf hZ e146 (E_2.ext O0.2)
  obtain ⟨_, _, ⟨T148, L148, k148, n148⟩, -, X148, ⟨Lc148, hQ148, l148, y148, z148⟩, st148⟩ := X146.virtualBack hx (y := Y0) (z := Y0) hown (mvT hZ (hw _ (tk 24 rfl))) (mvT hZ (hw _ (tk 25 rfl))) (notFace_of_selects (args := #[]) (mvT hZ (hw _ (tk 27 rfl)))) (mvT hZ (hw _ (tk 27 rfl))) (mvT hZ (hw _ (tk 26 rfl))) (by decide) (backOf (W := 0) (rm3 l Z a0 hw [] w_1 w_2 w_3 w_4 w_5 k_5 hS0 w_2 w_4 (1 : Int32) h0 n0 O0 (F_2_sharedWithItself.ext O0.2)) hZ (hw _ (tk 28 rfl)) (hw _ (tk 3 rfl)) (by decide) (by decide)) q148a q148c (g := (mkF m 25 #[.val (.ref w_2), .val (.ref w_2), .val (.ref w_5), .val (.int (4 : Int32)), .val (.int ((((0 : Int32) + (1 : Int32)) + (1 : Int32)) + (1 : Int32))), .val (.ref w_4)] [(.ref w_4), (.ref w_2)])) rfl (by rw [hml]; rfl) (Steps.refl _) (argsL := [(.ref w_4)]) (rest := []) (lenOf pd_0 rfl) rfl (by show 2 * 0 + _ ≤ _; exact Nat.le_of_eq rfl) (hb hby d2_25) (fun _ _ => ⟨rfl, e146, (by decide : 0 + 0 ≤ _), (by decide : 0 + 0 ≤ _)⟩)
  dsimp only [Pt.U, Pt.locs, Pt.cells, Pt.slots] at X148 l148 y148 z148 st148 hQ148
  subst l148 y148 z148
  obtain ⟨rv148, N148q, e148⟩ := hQ148
  rw [show sp3 w_2 w_4 (1 : Int32) = (1 : Int32) from by unfold sp3; rw [if_neg (Fld.ne F_2_ordinal F_4_ordinal (by decide))]] at rv148
  subst rv148
  have N148 := Fr.app N146 N148q
  obtain ⟨cq149, kq149, q149a, q149b, q149c⟩ := isOf hZ e148 (E_2.ext O0.2)
  obtain ⟨_, _, ⟨T149, L149, k149, n149⟩, -, X149, ⟨Lc149, hQ149, l149, y149, z149⟩, st149⟩ := X148.virtualBack hx (y := Y0) (z := Y0) hown (mvT hZ (hw _ (tk 24 rfl))) (mvT hZ (hw _ (tk 25 rfl))) (notFace_of_selects (args := #[]) (mvT hZ (hw _ (tk 27 rfl)))) (mvT hZ (hw _ (tk 27 rfl))) (mvT hZ (hw _ (tk 26 rfl))) (by decide) (backOf (W := 0) (rm3 l Z a0 hw [] w_1 w_2 w_3 w_4 w_5 k_5 hS0 w_2 w_4 (1 : Int32) h0 n0 O0 (F_2_sharedWithItself.ext O0.2)) hZ (hw _ (tk 28 rfl)) (hw _ (tk 3 rfl)) (by decide) (by decide)) q149a q149c (g := (mkF m 34 #[.val (.ref w_2), .val (.ref w_2), .val (.ref w_5), .val (.int (4 : Int32)), .val (.int ((((0 : Int32) + (1 : Int32)) + (1 : Int32)) + (1 : Int32))), .val (.ref w_4)] [(.ref w_4), (.ref w_2)])) rfl (by rw [hml]; rfl) (Steps.refl _) (argsL := [(.ref w_4)]) (rest := []) (lenOf pd_0 rfl) rfl (by show 2 * 0 + _ ≤ _; exact Nat.le_of_eq rfl) (hb hby d2_34) (fun _ _ => ⟨rfl, e148, (by decide : 0 + 0 ≤ _), (by decide : 0 + 0 ≤ _)⟩)
  dsimp only [Pt.U, Pt.locs, Pt.cells, Pt.slots] at X149 l149 y149 z149 st149 hQ149
  subst l149 y149 z149
  obtain ⟨rv149, N149q, e149⟩ := hQ149
  rw [show sp3 w_2 w_4 (1 : Int32) = (1 : Int32) from by unfold sp3; rw [if_neg (Fld.ne F_2_ordinal F_4_ordinal (by decide))]] at rv149
  subst rv149
  have N149 := Fr.app N148 N149q
  obtain ⟨fs, hr, hrun, hended, hW, hsame⟩ := X149.leave (v := some (.int (1 : Int32))) (fun h => by rw [Bd.returns] at h; cases h)
  refine ⟨_, _, pre0 _ ?_, hrun, hended, _, _, rfl, ?_, ⟨_, rfl⟩, hW, hsame.mono (by decide) (by decide)⟩
  · show Steps p.tables e below (s₁.setTop (mkF m 0 #[.val (.ref w_2), .val (.ref w_2), .unset, .unset, .unset, .unset] [])) _
    refine st137 _ ?_
    show Steps p.tables e below (T137.setTop (mkF m 3 #[.val (.ref w_2), .val (.ref w_2), .unset, .unset, .unset, .unset] [(.ref w_5)])) _
    refine XS.astoreN X137.here hx rfl (hb hby d2_3) rfl rfl (l' := #[.val (.ref w_2), .val (.ref w_2), .val (.ref w_5), .unset, .unset, .unset]) rfl ?_
    show Steps p.tables e below (T137.setTop (mkF m 4 #[.val (.ref w_2), .val (.ref w_2), .val (.ref w_5), .unset, .unset, .unset] [])) _
    refine XS.aloadN X137.here hx rfl (hb hby d2_4) rfl rfl ?_
    show Steps p.tables e below (T137.setTop (mkF m 5 #[.val (.ref w_2), .val (.ref w_2), .val (.ref w_5), .unset, .unset, .unset] [(.ref w_5)])) _
    refine X137.arraylength hx (by rw [e137]; exact Ar138.1) (State.isArrayOf_alike hZ.alike Ar138.2.1) (g := (mkF m 5 #[.val (.ref w_2), .val (.ref w_2), .val (.ref w_5), .unset, .unset, .unset] [(.ref w_5)])) rfl rfl (hb hby d2_5) _ ?_
    rw [len_of Sa138 Ma138]
    show Steps p.tables e below (T137.setTop (mkF m 6 #[.val (.ref w_2), .val (.ref w_2), .val (.ref w_5), .unset, .unset, .unset] [(.int (4 : Int32))])) _
    refine XS.istoreN X137.here hx rfl (hb hby d2_6) rfl (l' := #[.val (.ref w_2), .val (.ref w_2), .val (.ref w_5), .val (.int (4 : Int32)), .unset, .unset]) rfl ?_
    show Steps p.tables e below (T137.setTop (mkF m 7 #[.val (.ref w_2), .val (.ref w_2), .val (.ref w_5), .val (.int (4 : Int32)), .unset, .unset] [])) _
    refine XS.iconst X137.here hx rfl (hb hby d2_7) ?_
    show Steps p.tables e below (T137.setTop (mkF m 8 #[.val (.ref w_2), .val (.ref w_2), .val (.ref w_5), .val (.int (4 : Int32)), .unset, .unset] [(.int (0 : Int32))])) _
    refine XS.istore X137.here hx rfl (hb hby d2_8) rfl (l' := #[.val (.ref w_2), .val (.ref w_2), .val (.ref w_5), .val (.int (4 : Int32)), .val (.int (0 : Int32)), .unset]) rfl ?_
    show Steps p.tables e below (T137.setTop (mkF m 10 #[.val (.ref w_2), .val (.ref w_2), .val (.ref w_5), .val (.int (4 : Int32)), .val (.int (0 : Int32)), .unset] [])) _
    refine XS.iload X137.here hx rfl (hb hby d2_10) rfl ?_
    show Steps p.tables e below (T137.setTop (mkF m 12 #[.val (.ref w_2), .val (.ref w_2), .val (.ref w_5), .val (.int (4 : Int32)), .val (.int (0 : Int32)), .unset] [(.int (0 : Int32))])) _
    refine XS.iloadN X137.here hx rfl (hb hby d2_12) rfl ?_
    show Steps p.tables e below (T137.setTop (mkF m 13 #[.val (.ref w_2), .val (.ref w_2), .val (.ref w_5), .val (.int (4 : Int32)), .val (.int (0 : Int32)), .unset] [(.int (4 : Int32)), (.int (0 : Int32))])) _
    refine XS.icmpNo X137.here hx rfl (hb hby d2_13) rfl (tlt (by decide : ((0 : Int32) < (4 : Int32)))).2.1 ?_
    show Steps p.tables e below (T137.setTop (mkF m 16 #[.val (.ref w_2), .val (.ref w_2), .val (.ref w_5), .val (.int (4 : Int32)), .val (.int (0 : Int32)), .unset] [])) _
    refine XS.aloadN X137.here hx rfl (hb hby d2_16) rfl rfl ?_
    show Steps p.tables e below (T137.setTop (mkF m 17 #[.val (.ref w_2), .val (.ref w_2), .val (.ref w_5), .val (.int (4 : Int32)), .val (.int (0 : Int32)), .unset] [(.ref w_5)])) _
    refine XS.iload X137.here hx rfl (hb hby d2_17) rfl ?_
    show Steps p.tables e below (T137.setTop (mkF m 19 #[.val (.ref w_2), .val (.ref w_2), .val (.ref w_5), .val (.int (4 : Int32)), .val (.int (0 : Int32)), .unset] [(.int (0 : Int32)), (.ref w_5)])) _
    refine X137.aaload hx (j := (0 : Int32)) (v := (.ref w_1)) (by rw [e137]; exact Ar139.1) (State.isArrayOf_alike hZ.alike Ar139.2.1) rfl Ar139.2.2 hin139 hat139 (g := (mkF m 19 #[.val (.ref w_2), .val (.ref w_2), .val (.ref w_5), .val (.int (4 : Int32)), .val (.int (0 : Int32)), .unset] [(.int (0 : Int32)), (.ref w_5)])) rfl rfl (hb hby d2_19) _ ?_
    show Steps p.tables e below (T137.setTop (mkF m 20 #[.val (.ref w_2), .val (.ref w_2), .val (.ref w_5), .val (.int (4 : Int32)), .val (.int (0 : Int32)), .unset] [(.ref w_1)])) _
    refine XS.astore X137.here hx rfl (hb hby d2_20) rfl rfl (l' := #[.val (.ref w_2), .val (.ref w_2), .val (.ref w_5), .val (.int (4 : Int32)), .val (.int (0 : Int32)), .val (.ref w_1)]) rfl ?_
    show Steps p.tables e below (T137.setTop (mkF m 22 #[.val (.ref w_2), .val (.ref w_2), .val (.ref w_5), .val (.int (4 : Int32)), .val (.int (0 : Int32)), .val (.ref w_1)] [])) _
    refine XS.aloadN X137.here hx rfl (hb hby d2_22) rfl rfl ?_
    show Steps p.tables e below (T137.setTop (mkF m 23 #[.val (.ref w_2), .val (.ref w_2), .val (.ref w_5), .val (.int (4 : Int32)), .val (.int (0 : Int32)), .val (.ref w_1)] [(.ref w_2)])) _
    refine XS.aload X137.here hx rfl (hb hby d2_23) rfl rfl ?_
    show Steps p.tables e below (T137.setTop (mkF m 25 #[.val (.ref w_2), .val (.ref w_2), .val (.ref w_5), .val (.int (4 : Int32)), .val (.int (0 : Int32)), .val (.ref w_1)] [(.ref w_1), (.ref w_2)])) _
    refine st140.trans ?_
    show Steps p.tables e below (T140.setTop (mkF m 28 #[.val (.ref w_2), .val (.ref w_2), .val (.ref w_5), .val (.int (4 : Int32)), .val (.int (0 : Int32)), .val (.ref w_1)] [(.int (1 : Int32))])) _
    refine XS.ifNo X140.here hx rfl (hb hby d2_28) rfl ((if0 _ _).trans (feq (by decide : ¬ ((1 : Int32) = (0 : Int32)))).1) ?_
    show Steps p.tables e below (T140.setTop (mkF m 31 #[.val (.ref w_2), .val (.ref w_2), .val (.ref w_5), .val (.int (4 : Int32)), .val (.int (0 : Int32)), .val (.ref w_1)] [])) _
    refine XS.aloadN X140.here hx rfl (hb hby d2_31) rfl rfl ?_
    show Steps p.tables e below (T140.setTop (mkF m 32 #[.val (.ref w_2), .val (.ref w_2), .val (.ref w_5), .val (.int (4 : Int32)), .val (.int (0 : Int32)), .val (.ref w_1)] [(.ref w_2)])) _
    refine XS.aload X140.here hx rfl (hb hby d2_32) rfl rfl ?_
    show Steps p.tables e below (T140.setTop (mkF m 34 #[.val (.ref w_2), .val (.ref w_2), .val (.ref w_5), .val (.int (4 : Int32)), .val (.int (0 : Int32)), .val (.ref w_1)] [(.ref w_1), (.ref w_2)])) _
    refine st141.trans ?_
    show Steps p.tables e below (T141.setTop (mkF m 37 #[.val (.ref w_2), .val (.ref w_2), .val (.ref w_5), .val (.int (4 : Int32)), .val (.int (0 : Int32)), .val (.ref w_1)] [(.int (1 : Int32))])) _
    refine XS.ifYes X141.here hx rfl (pc0 := 37) (pc' := 42) rfl (hb hby d2_37) rfl ((if0 _ _).trans (feq (by decide : ¬ ((1 : Int32) = (0 : Int32)))).2) (by decide) (by decide) ?_
    show Steps p.tables e below (T141.setTop (mkF m 42 #[.val (.ref w_2), .val (.ref w_2), .val (.ref w_5), .val (.int (4 : Int32)), .val (.int (0 : Int32)), .val (.ref w_1)] [])) _
    refine XS.iinc X141.here hx rfl (hb hby d2_42) rfl (l' := #[.val (.ref w_2), .val (.ref w_2), .val (.ref w_5), .val (.int (4 : Int32)), .val (.int ((0 : Int32) + (1 : Int32))), .val (.ref w_1)]) rfl ?_
    show Steps p.tables e below (T141.setTop (mkF m 45 #[.val (.ref w_2), .val (.ref w_2), .val (.ref w_5), .val (.int (4 : Int32)), .val (.int ((0 : Int32) + (1 : Int32))), .val (.ref w_1)] [])) _
    refine XS.goto X141.here hx rfl (pc0 := 45) (pc' := 10) rfl (hb hby d2_45) (by decide) (by decide) ?_
    show Steps p.tables e below (T141.setTop (mkF m 10 #[.val (.ref w_2), .val (.ref w_2), .val (.ref w_5), .val (.int (4 : Int32)), .val (.int ((0 : Int32) + (1 : Int32))), .val (.ref w_1)] [])) _
    refine XS.iload X141.here hx rfl (hb hby d2_10) rfl ?_
    show Steps p.tables e below (T141.setTop (mkF m 12 #[.val (.ref w_2), .val (.ref w_2), .val (.ref w_5), .val (.int (4 : Int32)), .val (.int ((0 : Int32) + (1 : Int32))), .val (.ref w_1)] [(.int ((0 : Int32) + (1 : Int32)))])) _
    refine XS.iloadN X141.here hx rfl (hb hby d2_12) rfl ?_
    show Steps p.tables e below (T141.setTop (mkF m 13 #[.val (.ref w_2), .val (.ref w_2), .val (.ref w_5), .val (.int (4 : Int32)), .val (.int ((0 : Int32) + (1 : Int32))), .val (.ref w_1)] [(.int (4 : Int32)), (.int ((0 : Int32) + (1 : Int32)))])) _
    refine XS.icmpNo X141.here hx rfl (hb hby d2_13) rfl (tlt (by decide : (((0 : Int32) + (1 : Int32)) < (4 : Int32)))).2.1 ?_
    show Steps p.tables e below (T141.setTop (mkF m 16 #[.val (.ref w_2), .val (.ref w_2), .val (.ref w_5), .val (.int (4 : Int32)), .val (.int ((0 : Int32) + (1 : Int32))), .val (.ref w_1)] [])) _
    refine XS.aloadN X141.here hx rfl (hb hby d2_16) rfl rfl ?_
    show Steps p.tables e below (T141.setTop (mkF m 17 #[.val (.ref w_2), .val (.ref w_2), .val (.ref w_5), .val (.int (4 : Int32)), .val (.int ((0 : Int32) + (1 : Int32))), .val (.ref w_1)] [(.ref w_5)])) _
    refine XS.iload X141.here hx rfl (hb hby d2_17) rfl ?_
    show Steps p.tables e below (T141.setTop (mkF m 19 #[.val (.ref w_2), .val (.ref w_2), .val (.ref w_5), .val (.int (4 : Int32)), .val (.int ((0 : Int32) + (1 : Int32))), .val (.ref w_1)] [(.int ((0 : Int32) + (1 : Int32))), (.ref w_5)])) _
    refine X141.aaload hx (j := ((0 : Int32) + (1 : Int32))) (v := (.ref w_2)) (by rw [e141]; exact Ar142.1) (State.isArrayOf_alike hZ.alike Ar142.2.1) rfl Ar142.2.2 hin142 hat142 (g := (mkF m 19 #[.val (.ref w_2), .val (.ref w_2), .val (.ref w_5), .val (.int (4 : Int32)), .val (.int ((0 : Int32) + (1 : Int32))), .val (.ref w_1)] [(.int ((0 : Int32) + (1 : Int32))), (.ref w_5)])) rfl rfl (hb hby d2_19) _ ?_
    show Steps p.tables e below (T141.setTop (mkF m 20 #[.val (.ref w_2), .val (.ref w_2), .val (.ref w_5), .val (.int (4 : Int32)), .val (.int ((0 : Int32) + (1 : Int32))), .val (.ref w_1)] [(.ref w_2)])) _
    refine XS.astore X141.here hx rfl (hb hby d2_20) rfl rfl (l' := #[.val (.ref w_2), .val (.ref w_2), .val (.ref w_5), .val (.int (4 : Int32)), .val (.int ((0 : Int32) + (1 : Int32))), .val (.ref w_2)]) rfl ?_
    show Steps p.tables e below (T141.setTop (mkF m 22 #[.val (.ref w_2), .val (.ref w_2), .val (.ref w_5), .val (.int (4 : Int32)), .val (.int ((0 : Int32) + (1 : Int32))), .val (.ref w_2)] [])) _
    refine XS.aloadN X141.here hx rfl (hb hby d2_22) rfl rfl ?_
    show Steps p.tables e below (T141.setTop (mkF m 23 #[.val (.ref w_2), .val (.ref w_2), .val (.ref w_5), .val (.int (4 : Int32)), .val (.int ((0 : Int32) + (1 : Int32))), .val (.ref w_2)] [(.ref w_2)])) _
    refine XS.aload X141.here hx rfl (hb hby d2_23) rfl rfl ?_
    show Steps p.tables e below (T141.setTop (mkF m 25 #[.val (.ref w_2), .val (.ref w_2), .val (.ref w_5), .val (.int (4 : Int32)), .val (.int ((0 : Int32) + (1 : Int32))), .val (.ref w_2)] [(.ref w_2), (.ref w_2)])) _
    refine st143.trans ?_
    show Steps p.tables e below (T143.setTop (mkF m 28 #[.val (.ref w_2), .val (.ref w_2), .val (.ref w_5), .val (.int (4 : Int32)), .val (.int ((0 : Int32) + (1 : Int32))), .val (.ref w_2)] [(.int (0 : Int32))])) _
    refine XS.ifYes X143.here hx rfl (pc0 := 28) (pc' := 42) rfl (hb hby d2_28) rfl ((if0 _ _).trans (teq (by decide : ((0 : Int32) = (0 : Int32)))).1) (by decide) (by decide) ?_
    show Steps p.tables e below (T143.setTop (mkF m 42 #[.val (.ref w_2), .val (.ref w_2), .val (.ref w_5), .val (.int (4 : Int32)), .val (.int ((0 : Int32) + (1 : Int32))), .val (.ref w_2)] [])) _
    refine XS.iinc X143.here hx rfl (hb hby d2_42) rfl (l' := #[.val (.ref w_2), .val (.ref w_2), .val (.ref w_5), .val (.int (4 : Int32)), .val (.int (((0 : Int32) + (1 : Int32)) + (1 : Int32))), .val (.ref w_2)]) rfl ?_
    show Steps p.tables e below (T143.setTop (mkF m 45 #[.val (.ref w_2), .val (.ref w_2), .val (.ref w_5), .val (.int (4 : Int32)), .val (.int (((0 : Int32) + (1 : Int32)) + (1 : Int32))), .val (.ref w_2)] [])) _
    refine XS.goto X143.here hx rfl (pc0 := 45) (pc' := 10) rfl (hb hby d2_45) (by decide) (by decide) ?_
    show Steps p.tables e below (T143.setTop (mkF m 10 #[.val (.ref w_2), .val (.ref w_2), .val (.ref w_5), .val (.int (4 : Int32)), .val (.int (((0 : Int32) + (1 : Int32)) + (1 : Int32))), .val (.ref w_2)] [])) _
    refine XS.iload X143.here hx rfl (hb hby d2_10) rfl ?_
    show Steps p.tables e below (T143.setTop (mkF m 12 #[.val (.ref w_2), .val (.ref w_2), .val (.ref w_5), .val (.int (4 : Int32)), .val (.int (((0 : Int32) + (1 : Int32)) + (1 : Int32))), .val (.ref w_2)] [(.int (((0 : Int32) + (1 : Int32)) + (1 : Int32)))])) _
    refine XS.iloadN X143.here hx rfl (hb hby d2_12) rfl ?_
    show Steps p.tables e below (T143.setTop (mkF m 13 #[.val (.ref w_2), .val (.ref w_2), .val (.ref w_5), .val (.int (4 : Int32)), .val (.int (((0 : Int32) + (1 : Int32)) + (1 : Int32))), .val (.ref w_2)] [(.int (4 : Int32)), (.int (((0 : Int32) + (1 : Int32)) + (1 : Int32)))])) _
    refine XS.icmpNo X143.here hx rfl (hb hby d2_13) rfl (tlt (by decide : ((((0 : Int32) + (1 : Int32)) + (1 : Int32)) < (4 : Int32)))).2.1 ?_
    show Steps p.tables e below (T143.setTop (mkF m 16 #[.val (.ref w_2), .val (.ref w_2), .val (.ref w_5), .val (.int (4 : Int32)), .val (.int (((0 : Int32) + (1 : Int32)) + (1 : Int32))), .val (.ref w_2)] [])) _
    refine XS.aloadN X143.here hx rfl (hb hby d2_16) rfl rfl ?_
    show Steps p.tables e below (T143.setTop (mkF m 17 #[.val (.ref w_2), .val (.ref w_2), .val (.ref w_5), .val (.int (4 : Int32)), .val (.int (((0 : Int32) + (1 : Int32)) + (1 : Int32))), .val (.ref w_2)] [(.ref w_5)])) _
    refine XS.iload X143.here hx rfl (hb hby d2_17) rfl ?_
    show Steps p.tables e below (T143.setTop (mkF m 19 #[.val (.ref w_2), .val (.ref w_2), .val (.ref w_5), .val (.int (4 : Int32)), .val (.int (((0 : Int32) + (1 : Int32)) + (1 : Int32))), .val (.ref w_2)] [(.int (((0 : Int32) + (1 : Int32)) + (1 : Int32))), (.ref w_5)])) _
    refine X143.aaload hx (j := (((0 : Int32) + (1 : Int32)) + (1 : Int32))) (v := (.ref w_3)) (by rw [e143]; exact Ar144.1) (State.isArrayOf_alike hZ.alike Ar144.2.1) rfl Ar144.2.2 hin144 hat144 (g := (mkF m 19 #[.val (.ref w_2), .val (.ref w_2), .val (.ref w_5), .val (.int (4 : Int32)), .val (.int (((0 : Int32) + (1 : Int32)) + (1 : Int32))), .val (.ref w_2)] [(.int (((0 : Int32) + (1 : Int32)) + (1 : Int32))), (.ref w_5)])) rfl rfl (hb hby d2_19) _ ?_
    show Steps p.tables e below (T143.setTop (mkF m 20 #[.val (.ref w_2), .val (.ref w_2), .val (.ref w_5), .val (.int (4 : Int32)), .val (.int (((0 : Int32) + (1 : Int32)) + (1 : Int32))), .val (.ref w_2)] [(.ref w_3)])) _
    refine XS.astore X143.here hx rfl (hb hby d2_20) rfl rfl (l' := #[.val (.ref w_2), .val (.ref w_2), .val (.ref w_5), .val (.int (4 : Int32)), .val (.int (((0 : Int32) + (1 : Int32)) + (1 : Int32))), .val (.ref w_3)]) rfl ?_
    show Steps p.tables e below (T143.setTop (mkF m 22 #[.val (.ref w_2), .val (.ref w_2), .val (.ref w_5), .val (.int (4 : Int32)), .val (.int (((0 : Int32) + (1 : Int32)) + (1 : Int32))), .val (.ref w_3)] [])) _
    refine XS.aloadN X143.here hx rfl (hb hby d2_22) rfl rfl ?_
    show Steps p.tables e below (T143.setTop (mkF m 23 #[.val (.ref w_2), .val (.ref w_2), .val (.ref w_5), .val (.int (4 : Int32)), .val (.int (((0 : Int32) + (1 : Int32)) + (1 : Int32))), .val (.ref w_3)] [(.ref w_2)])) _
    refine XS.aload X143.here hx rfl (hb hby d2_23) rfl rfl ?_
    show Steps p.tables e below (T143.setTop (mkF m 25 #[.val (.ref w_2), .val (.ref w_2), .val (.ref w_5), .val (.int (4 : Int32)), .val (.int (((0 : Int32) + (1 : Int32)) + (1 : Int32))), .val (.ref w_3)] [(.ref w_3), (.ref w_2)])) _
    refine st145.trans ?_
    show Steps p.tables e below (T145.setTop (mkF m 28 #[.val (.ref w_2), .val (.ref w_2), .val (.ref w_5), .val (.int (4 : Int32)), .val (.int (((0 : Int32) + (1 : Int32)) + (1 : Int32))), .val (.ref w_3)] [(.int (1 : Int32))])) _
    refine XS.ifNo X145.here hx rfl (hb hby d2_28) rfl ((if0 _ _).trans (feq (by decide : ¬ ((1 : Int32) = (0 : Int32)))).1) ?_
    show Steps p.tables e below (T145.setTop (mkF m 31 #[.val (.ref w_2), .val (.ref w_2), .val (.ref w_5), .val (.int (4 : Int32)), .val (.int (((0 : Int32) + (1 : Int32)) + (1 : Int32))), .val (.ref w_3)] [])) _
    refine XS.aloadN X145.here hx rfl (hb hby d2_31) rfl rfl ?_
    show Steps p.tables e below (T145.setTop (mkF m 32 #[.val (.ref w_2), .val (.ref w_2), .val (.ref w_5), .val (.int (4 : Int32)), .val (.int (((0 : Int32) + (1 : Int32)) + (1 : Int32))), .val (.ref w_3)] [(.ref w_2)])) _
    refine XS.aload X145.here hx rfl (hb hby d2_32) rfl rfl ?_
    show Steps p.tables e below (T145.setTop (mkF m 34 #[.val (.ref w_2), .val (.ref w_2), .val (.ref w_5), .val (.int (4 : Int32)), .val (.int (((0 : Int32) + (1 : Int32)) + (1 : Int32))), .val (.ref w_3)] [(.ref w_3), (.ref w_2)])) _
    refine st146.trans ?_
    show Steps p.tables e below (T146.setTop (mkF m 37 #[.val (.ref w_2), .val (.ref w_2), .val (.ref w_5), .val (.int (4 : Int32)), .val (.int (((0 : Int32) + (1 : Int32)) + (1 : Int32))), .val (.ref w_3)] [(.int (1 : Int32))])) _
    refine XS.ifYes X146.here hx rfl (pc0 := 37) (pc' := 42) rfl (hb hby d2_37) rfl ((if0 _ _).trans (feq (by decide : ¬ ((1 : Int32) = (0 : Int32)))).2) (by decide) (by decide) ?_
    show Steps p.tables e below (T146.setTop (mkF m 42 #[.val (.ref w_2), .val (.ref w_2), .val (.ref w_5), .val (.int (4 : Int32)), .val (.int (((0 : Int32) + (1 : Int32)) + (1 : Int32))), .val (.ref w_3)] [])) _
    refine XS.iinc X146.here hx rfl (hb hby d2_42) rfl (l' := #[.val (.ref w_2), .val (.ref w_2), .val (.ref w_5), .val (.int (4 : Int32)), .val (.int ((((0 : Int32) + (1 : Int32)) + (1 : Int32)) + (1 : Int32))), .val (.ref w_3)]) rfl ?_
    show Steps p.tables e below (T146.setTop (mkF m 45 #[.val (.ref w_2), .val (.ref w_2), .val (.ref w_5), .val (.int (4 : Int32)), .val (.int ((((0 : Int32) + (1 : Int32)) + (1 : Int32)) + (1 : Int32))), .val (.ref w_3)] [])) _
    refine XS.goto X146.here hx rfl (pc0 := 45) (pc' := 10) rfl (hb hby d2_45) (by decide) (by decide) ?_
    show Steps p.tables e below (T146.setTop (mkF m 10 #[.val (.ref w_2), .val (.ref w_2), .val (.ref w_5), .val (.int (4 : Int32)), .val (.int ((((0 : Int32) + (1 : Int32)) + (1 : Int32)) + (1 : Int32))), .val (.ref w_3)] [])) _
    refine XS.iload X146.here hx rfl (hb hby d2_10) rfl ?_
    show Steps p.tables e below (T146.setTop (mkF m 12 #[.val (.ref w_2), .val (.ref w_2), .val (.ref w_5), .val (.int (4 : Int32)), .val (.int ((((0 : Int32) + (1 : Int32)) + (1 : Int32)) + (1 : Int32))), .val (.ref w_3)] [(.int ((((0 : Int32) + (1 : Int32)) + (1 : Int32)) + (1 : Int32)))])) _
    refine XS.iloadN X146.here hx rfl (hb hby d2_12) rfl ?_
    show Steps p.tables e below (T146.setTop (mkF m 13 #[.val (.ref w_2), .val (.ref w_2), .val (.ref w_5), .val (.int (4 : Int32)), .val (.int ((((0 : Int32) + (1 : Int32)) + (1 : Int32)) + (1 : Int32))), .val (.ref w_3)] [(.int (4 : Int32)), (.int ((((0 : Int32) + (1 : Int32)) + (1 : Int32)) + (1 : Int32)))])) _
    refine XS.icmpNo X146.here hx rfl (hb hby d2_13) rfl (tlt (by decide : (((((0 : Int32) + (1 : Int32)) + (1 : Int32)) + (1 : Int32)) < (4 : Int32)))).2.1 ?_
    show Steps p.tables e below (T146.setTop (mkF m 16 #[.val (.ref w_2), .val (.ref w_2), .val (.ref w_5), .val (.int (4 : Int32)), .val (.int ((((0 : Int32) + (1 : Int32)) + (1 : Int32)) + (1 : Int32))), .val (.ref w_3)] [])) _
    refine XS.aloadN X146.here hx rfl (hb hby d2_16) rfl rfl ?_
    show Steps p.tables e below (T146.setTop (mkF m 17 #[.val (.ref w_2), .val (.ref w_2), .val (.ref w_5), .val (.int (4 : Int32)), .val (.int ((((0 : Int32) + (1 : Int32)) + (1 : Int32)) + (1 : Int32))), .val (.ref w_3)] [(.ref w_5)])) _
    refine XS.iload X146.here hx rfl (hb hby d2_17) rfl ?_
    show Steps p.tables e below (T146.setTop (mkF m 19 #[.val (.ref w_2), .val (.ref w_2), .val (.ref w_5), .val (.int (4 : Int32)), .val (.int ((((0 : Int32) + (1 : Int32)) + (1 : Int32)) + (1 : Int32))), .val (.ref w_3)] [(.int ((((0 : Int32) + (1 : Int32)) + (1 : Int32)) + (1 : Int32))), (.ref w_5)])) _
    refine X146.aaload hx (j := ((((0 : Int32) + (1 : Int32)) + (1 : Int32)) + (1 : Int32))) (v := (.ref w_4)) (by rw [e146]; exact Ar147.1) (State.isArrayOf_alike hZ.alike Ar147.2.1) rfl Ar147.2.2 hin147 hat147 (g := (mkF m 19 #[.val (.ref w_2), .val (.ref w_2), .val (.ref w_5), .val (.int (4 : Int32)), .val (.int ((((0 : Int32) + (1 : Int32)) + (1 : Int32)) + (1 : Int32))), .val (.ref w_3)] [(.int ((((0 : Int32) + (1 : Int32)) + (1 : Int32)) + (1 : Int32))), (.ref w_5)])) rfl rfl (hb hby d2_19) _ ?_
    show Steps p.tables e below (T146.setTop (mkF m 20 #[.val (.ref w_2), .val (.ref w_2), .val (.ref w_5), .val (.int (4 : Int32)), .val (.int ((((0 : Int32) + (1 : Int32)) + (1 : Int32)) + (1 : Int32))), .val (.ref w_3)] [(.ref w_4)])) _
    refine XS.astore X146.here hx rfl (hb hby d2_20) rfl rfl (l' := #[.val (.ref w_2), .val (.ref w_2), .val (.ref w_5), .val (.int (4 : Int32)), .val (.int ((((0 : Int32) + (1 : Int32)) + (1 : Int32)) + (1 : Int32))), .val (.ref w_4)]) rfl ?_
    show Steps p.tables e below (T146.setTop (mkF m 22 #[.val (.ref w_2), .val (.ref w_2), .val (.ref w_5), .val (.int (4 : Int32)), .val (.int ((((0 : Int32) + (1 : Int32)) + (1 : Int32)) + (1 : Int32))), .val (.ref w_4)] [])) _
    refine XS.aloadN X146.here hx rfl (hb hby d2_22) rfl rfl ?_
    show Steps p.tables e below (T146.setTop (mkF m 23 #[.val (.ref w_2), .val (.ref w_2), .val (.ref w_5), .val (.int (4 : Int32)), .val (.int ((((0 : Int32) + (1 : Int32)) + (1 : Int32)) + (1 : Int32))), .val (.ref w_4)] [(.ref w_2)])) _
    refine XS.aload X146.here hx rfl (hb hby d2_23) rfl rfl ?_
    show Steps p.tables e below (T146.setTop (mkF m 25 #[.val (.ref w_2), .val (.ref w_2), .val (.ref w_5), .val (.int (4 : Int32)), .val (.int ((((0 : Int32) + (1 : Int32)) + (1 : Int32)) + (1 : Int32))), .val (.ref w_4)] [(.ref w_4), (.ref w_2)])) _
    refine st148.trans ?_
    show Steps p.tables e below (T148.setTop (mkF m 28 #[.val (.ref w_2), .val (.ref w_2), .val (.ref w_5), .val (.int (4 : Int32)), .val (.int ((((0 : Int32) + (1 : Int32)) + (1 : Int32)) + (1 : Int32))), .val (.ref w_4)] [(.int (1 : Int32))])) _
    refine XS.ifNo X148.here hx rfl (hb hby d2_28) rfl ((if0 _ _).trans (feq (by decide : ¬ ((1 : Int32) = (0 : Int32)))).1) ?_
    show Steps p.tables e below (T148.setTop (mkF m 31 #[.val (.ref w_2), .val (.ref w_2), .val (.ref w_5), .val (.int (4 : Int32)), .val (.int ((((0 : Int32) + (1 : Int32)) + (1 : Int32)) + (1 : Int32))), .val (.ref w_4)] [])) _
    refine XS.aloadN X148.here hx rfl (hb hby d2_31) rfl rfl ?_
    show Steps p.tables e below (T148.setTop (mkF m 32 #[.val (.ref w_2), .val (.ref w_2), .val (.ref w_5), .val (.int (4 : Int32)), .val (.int ((((0 : Int32) + (1 : Int32)) + (1 : Int32)) + (1 : Int32))), .val (.ref w_4)] [(.ref w_2)])) _
    refine XS.aload X148.here hx rfl (hb hby d2_32) rfl rfl ?_
    show Steps p.tables e below (T148.setTop (mkF m 34 #[.val (.ref w_2), .val (.ref w_2), .val (.ref w_5), .val (.int (4 : Int32)), .val (.int ((((0 : Int32) + (1 : Int32)) + (1 : Int32)) + (1 : Int32))), .val (.ref w_4)] [(.ref w_4), (.ref w_2)])) _
    refine st149.trans ?_
    show Steps p.tables e below (T149.setTop (mkF m 37 #[.val (.ref w_2), .val (.ref w_2), .val (.ref w_5), .val (.int (4 : Int32)), .val (.int ((((0 : Int32) + (1 : Int32)) + (1 : Int32)) + (1 : Int32))), .val (.ref w_4)] [(.int (1 : Int32))])) _
    refine XS.ifYes X149.here hx rfl (pc0 := 37) (pc' := 42) rfl (hb hby d2_37) rfl ((if0 _ _).trans (feq (by decide : ¬ ((1 : Int32) = (0 : Int32)))).2) (by decide) (by decide) ?_
    show Steps p.tables e below (T149.setTop (mkF m 42 #[.val (.ref w_2), .val (.ref w_2), .val (.ref w_5), .val (.int (4 : Int32)), .val (.int ((((0 : Int32) + (1 : Int32)) + (1 : Int32)) + (1 : Int32))), .val (.ref w_4)] [])) _
    refine XS.iinc X149.here hx rfl (hb hby d2_42) rfl (l' := #[.val (.ref w_2), .val (.ref w_2), .val (.ref w_5), .val (.int (4 : Int32)), .val (.int (((((0 : Int32) + (1 : Int32)) + (1 : Int32)) + (1 : Int32)) + (1 : Int32))), .val (.ref w_4)]) rfl ?_
    show Steps p.tables e below (T149.setTop (mkF m 45 #[.val (.ref w_2), .val (.ref w_2), .val (.ref w_5), .val (.int (4 : Int32)), .val (.int (((((0 : Int32) + (1 : Int32)) + (1 : Int32)) + (1 : Int32)) + (1 : Int32))), .val (.ref w_4)] [])) _
    refine XS.goto X149.here hx rfl (pc0 := 45) (pc' := 10) rfl (hb hby d2_45) (by decide) (by decide) ?_
    show Steps p.tables e below (T149.setTop (mkF m 10 #[.val (.ref w_2), .val (.ref w_2), .val (.ref w_5), .val (.int (4 : Int32)), .val (.int (((((0 : Int32) + (1 : Int32)) + (1 : Int32)) + (1 : Int32)) + (1 : Int32))), .val (.ref w_4)] [])) _
    refine XS.iload X149.here hx rfl (hb hby d2_10) rfl ?_
    show Steps p.tables e below (T149.setTop (mkF m 12 #[.val (.ref w_2), .val (.ref w_2), .val (.ref w_5), .val (.int (4 : Int32)), .val (.int (((((0 : Int32) + (1 : Int32)) + (1 : Int32)) + (1 : Int32)) + (1 : Int32))), .val (.ref w_4)] [(.int (((((0 : Int32) + (1 : Int32)) + (1 : Int32)) + (1 : Int32)) + (1 : Int32)))])) _
    refine XS.iloadN X149.here hx rfl (hb hby d2_12) rfl ?_
    show Steps p.tables e below (T149.setTop (mkF m 13 #[.val (.ref w_2), .val (.ref w_2), .val (.ref w_5), .val (.int (4 : Int32)), .val (.int (((((0 : Int32) + (1 : Int32)) + (1 : Int32)) + (1 : Int32)) + (1 : Int32))), .val (.ref w_4)] [(.int (4 : Int32)), (.int (((((0 : Int32) + (1 : Int32)) + (1 : Int32)) + (1 : Int32)) + (1 : Int32)))])) _
    refine XS.icmpYes X149.here hx rfl (pc0 := 13) (pc' := 48) rfl (hb hby d2_13) rfl (flt (by decide : ¬ ((((((0 : Int32) + (1 : Int32)) + (1 : Int32)) + (1 : Int32)) + (1 : Int32)) < (4 : Int32)))).2.1 (by decide) (by decide) ?_
    show Steps p.tables e below (T149.setTop (mkF m 48 #[.val (.ref w_2), .val (.ref w_2), .val (.ref w_5), .val (.int (4 : Int32)), .val (.int (((((0 : Int32) + (1 : Int32)) + (1 : Int32)) + (1 : Int32)) + (1 : Int32))), .val (.ref w_4)] [])) _
    refine XS.iconst X149.here hx rfl (hb hby d2_48) ?_
    show Steps p.tables e below (T149.setTop (mkF m 49 #[.val (.ref w_2), .val (.ref w_2), .val (.ref w_5), .val (.int (4 : Int32)), .val (.int (((((0 : Int32) + (1 : Int32)) + (1 : Int32)) + (1 : Int32)) + (1 : Int32))), .val (.ref w_4)] [(.int (1 : Int32))])) _
    exact retN X149 hx (t := .boolean) Bd.returns (by simp) (hb hby d2_49) hr
  · show Q2x6 Z w_1 w_2 w_3 w_4 w_5 k_5 h0 n0 _ T149.heap _
    rw [e149]
    exact ⟨by unfold sp2x6; rfl, N149, rfl⟩
theorem pn_1x6 : plainName "com/example/lucid_locks/lucidlocks/locks/LockMode" = true := by first | (simp [plainName, overriddenIn]; done) | decide +kernel
theorem ef_1x6 (m : MethodId) (w_2 : Addr) : entryFrame m #[(.ref w_2), (.ref w_2)] 2 = mkF m 0 #[.val (.ref w_2), .val (.ref w_2)] [] := by first | (simp [entryFrame, mkF, argsToLocals, Value.category]; done) | rfl
def sp1x6 (w_2 : Addr) : Value := (.ref w_2)
def Q1x6 (Z : State) (w_1 : Addr) (w_2 : Addr) (w_3 : Addr) (w_4 : Addr) (w_5 : Addr) (k_5 : ClassId) (h0 : Heap) (n0 : Nat) (v : Option Value) (h : Heap) (L : List Loc) : Prop := v = some (sp1x6 w_2) ∧ Fr n0 L ∧ h = h0
set_option maxRecDepth 65536 in
set_option maxHeartbeats 40000000 in
theorem rm1x6 (l : Launch) (Z : State) (a0 : Array Value) (hw : ∀ d ∈ tables_1, d.before a0 Z = true) (ws : List Jvm.Cond) (w_1 : Addr) (w_2 : Addr) (w_3 : Addr) (w_4 : Addr) (w_5 : Addr) (k_5 : ClassId) (hS : StF Z w_1 w_2 w_3 w_4 w_5 k_5) (h0 : Heap) (n0 : Nat) (O0 : Old Z n0 h0) :
    MetFree l Y2 (head1 (Jvm.Cond.code Y2 prog_17_method_6_code 2 (some (.object "com/example/lucid_locks/lucidlocks/locks/LockMode")) :: ws) ({ frames := 2, cells := 0, slots := 0, locals := 30 } : Room)) (fun a U => a = #[(.ref w_2), (.ref w_2)] ∧ Z.Warmed39 U.vm ∧ U.heap = h0) (fun _ _ _ _ _ => True) (fun _ U o U' => ∃ v L, o = .returned v ∧ Q1x6 Z w_1 w_2 w_3 w_4 w_5 k_5 h0 n0 v U'.heap L ∧ FrameEnd U o U' L ({ frames := 2, cells := 0, slots := 0, locals := 30 } : Room).cells ({ frames := 2, cells := 0, slots := 0, locals := 30 } : Room).slots) := by
  refine MetFree.of_bodySF (plainFor_of_name pn_1x6) hisR ?_
  intro p e s m args below meth c s₁ Bd hml0 hP hK
  obtain ⟨rfl, hZ, hh⟩ := hP
  have hx := Bd.exec
  have hby := Bd.bytes
  have hml : c.maxLocals = 2 := hml0
  have hown : s.vm.findClass "com/example/lucid_locks/lucidlocks/locks/LockMode" = some m.cls := findClass_of_methodNamed Bd.named
  have hnm := (name_of_methodNamed Bd.named Bd.method).1
  have X0 : Stand p l e ({ frames := 2, cells := 0, slots := 0, locals := 30 } : Room) s m #[(.ref w_2), (.ref w_2)] below meth c s₁ [] 0 0 := Stand.of_body Bd
  have e0 : s₁.heap = h0 := by rw [← hh, Bd.state]; rfl
  have N0 := Fr.nil n0
  have hS0 := hS
  obtain ⟨S_1, E_1, S_2, E_2, S_3, E_3, S_4, E_4, S_5, F_1_sharedWithItself, F_1_ordinal, F_2_ordinal, F_4_ordinal, F_3_ordinal, F_4_sharedWithItself, F_2_sharedWithItself, F_3_sharedWithItself, V_5⟩ := hS
  have pre0 : ∀ t, Steps p.tables e below (s₁.setTop (mkF m 0 #[.val (.ref w_2), .val (.ref w_2)] [])) t → Steps p.tables e below (s₁.setTop (entryFrame m #[(.ref w_2), (.ref w_2)] 2)) t := fun t k => castTop (ef_1x6 m w_2) k
  obtain ⟨cq150, kq150, q150a, q150b, q150c⟩ := isOf hZ e0 (E_2.ext O0.2)
  obtain ⟨_, _, ⟨T150, L150, k150, n150⟩, -, X150, ⟨Lc150, hQ150, l150, y150, z150⟩, st150⟩ := X0.virtualBack hx (y := Y1) (z := Y1) hown (mvT hZ (hw _ (tk 17 rfl))) (mvT hZ (hw _ (tk 18 rfl))) (notFace_of_selects (args := #[]) (mvT hZ (hw _ (tk 20 rfl)))) (mvT hZ (hw _ (tk 20 rfl))) (mvT hZ (hw _ (tk 19 rfl))) (by decide) (backOf (W := 0) (rm2x6 l Z a0 hw [] w_1 w_2 w_3 w_4 w_5 k_5 hS0 h0 n0 O0) hZ (hw _ (tk 21 rfl)) (hw _ (tk 3 rfl)) (by decide) (by decide)) q150a q150c (g := (mkF m 2 #[.val (.ref w_2), .val (.ref w_2)] [(.ref w_2), (.ref w_2)])) rfl (by rw [hml]; rfl) (Steps.refl _) (argsL := [(.ref w_2)]) (rest := []) (lenOf pd_0 rfl) rfl (by show 2 * 0 + _ ≤ _; exact Nat.le_of_eq rfl) (hb hby d1_2) (fun _ _ => ⟨rfl, e0, (by decide : 0 + 0 ≤ _), (by decide : 0 + 0 ≤ _)⟩)
  dsimp only [Pt.U, Pt.locs, Pt.cells, Pt.slots] at X150 l150 y150 z150 st150 hQ150
  subst l150 y150 z150
  obtain ⟨rv150, N150q, e150⟩ := hQ150
  rw [show sp2x6 = (1 : Int32) from by unfold sp2x6; rfl] at rv150
  subst rv150
  have N150 := Fr.app N0 N150q
  obtain ⟨fs, hr, hrun, hended, hW, hsame⟩ := X150.leave (v := some (.ref w_2)) (fun h => by rw [Bd.returns] at h; cases h)
  refine ⟨_, _, pre0 _ ?_, hrun, hended, _, _, rfl, ?_, ⟨_, rfl⟩, hW, hsame.mono (by decide) (by decide)⟩
  · show Steps p.tables e below (s₁.setTop (mkF m 0 #[.val (.ref w_2), .val (.ref w_2)] [])) _
    refine XS.aloadN X0.here hx rfl (hb hby d1_0) rfl rfl ?_
    show Steps p.tables e below (s₁.setTop (mkF m 1 #[.val (.ref w_2), .val (.ref w_2)] [(.ref w_2)])) _
    refine XS.aloadN X0.here hx rfl (hb hby d1_1) rfl rfl ?_
    show Steps p.tables e below (s₁.setTop (mkF m 2 #[.val (.ref w_2), .val (.ref w_2)] [(.ref w_2), (.ref w_2)])) _
    refine st150.trans ?_
    show Steps p.tables e below (T150.setTop (mkF m 5 #[.val (.ref w_2), .val (.ref w_2)] [(.int (1 : Int32))])) _
    refine XS.ifNo X150.here hx rfl (hb hby d1_5) rfl ((if0 _ _).trans (feq (by decide : ¬ ((1 : Int32) = (0 : Int32)))).1) ?_
    show Steps p.tables e below (T150.setTop (mkF m 8 #[.val (.ref w_2), .val (.ref w_2)] [])) _
    refine XS.aloadN X150.here hx rfl (hb hby d1_8) rfl rfl ?_
    show Steps p.tables e below (T150.setTop (mkF m 9 #[.val (.ref w_2), .val (.ref w_2)] [(.ref w_2)])) _
    refine XS.goto X150.here hx rfl (pc0 := 9) (pc' := 15) rfl (hb hby d1_9) (by decide) (by decide) ?_
    show Steps p.tables e below (T150.setTop (mkF m 15 #[.val (.ref w_2), .val (.ref w_2)] [(.ref w_2)])) _
    jvm_step X150.here [X150.here.top, hx, (hb hby d1_15), X150.method', Bd.returns, Value.isRef, FieldType.isReference]
    first | (intro acts; rw [hr _ acts rfl rfl rfl]) | rw [hr _ _ rfl rfl rfl]
    exact Steps.refl _
  · show Q1x6 Z w_1 w_2 w_3 w_4 w_5 k_5 h0 n0 _ T150.heap _
    rw [e150]
    exact ⟨by unfold sp1x6; rfl, N150, rfl⟩
theorem pn_2x7 : plainName "com/example/lucid_locks/lucidlocks/locks/LockMode" = true := by first | (simp [plainName, overriddenIn]; done) | decide +kernel
theorem ef_2x7 (m : MethodId) (w_3 : Addr) (w_2 : Addr) : entryFrame m #[(.ref w_3), (.ref w_2)] 6 = mkF m 0 #[.val (.ref w_3), .val (.ref w_2), .unset, .unset, .unset, .unset] [] := by first | (simp [entryFrame, mkF, argsToLocals, Value.category]; done) | rfl
def sp2x7  : Int32 := (1 : Int32)
def Q2x7 (Z : State) (w_1 : Addr) (w_2 : Addr) (w_3 : Addr) (w_4 : Addr) (w_5 : Addr) (k_5 : ClassId) (h0 : Heap) (n0 : Nat) (v : Option Value) (h : Heap) (L : List Loc) : Prop := v = some (.int (sp2x7)) ∧ Fr n0 L ∧ h = h0
set_option maxRecDepth 65536 in
set_option maxHeartbeats 40000000 in
theorem rm2x7 (l : Launch) (Z : State) (a0 : Array Value) (hw : ∀ d ∈ tables_1, d.before a0 Z = true) (ws : List Jvm.Cond) (w_1 : Addr) (w_2 : Addr) (w_3 : Addr) (w_4 : Addr) (w_5 : Addr) (k_5 : ClassId) (hS : StF Z w_1 w_2 w_3 w_4 w_5 k_5) (h0 : Heap) (n0 : Nat) (O0 : Old Z n0 h0) :
    MetFree l Y1 (head1 (Jvm.Cond.code Y1 prog_17_method_7_code 6 (some .boolean) :: ws) ({ frames := 1, cells := 0, slots := 0, locals := 13 } : Room)) (fun a U => a = #[(.ref w_3), (.ref w_2)] ∧ Z.Warmed39 U.vm ∧ U.heap = h0) (fun _ _ _ _ _ => True) (fun _ U o U' => ∃ v L, o = .returned v ∧ Q2x7 Z w_1 w_2 w_3 w_4 w_5 k_5 h0 n0 v U'.heap L ∧ FrameEnd U o U' L ({ frames := 1, cells := 0, slots := 0, locals := 13 } : Room).cells ({ frames := 1, cells := 0, slots := 0, locals := 13 } : Room).slots) := by
  refine MetFree.of_bodySF (plainFor_of_name pn_2x7) hisR ?_
  intro p e s m args below meth c s₁ Bd hml0 hP hK
  obtain ⟨rfl, hZ, hh⟩ := hP
  have hx := Bd.exec
  have hby := Bd.bytes
  have hml : c.maxLocals = 6 := hml0
  have hown : s.vm.findClass "com/example/lucid_locks/lucidlocks/locks/LockMode" = some m.cls := findClass_of_methodNamed Bd.named
  have hnm := (name_of_methodNamed Bd.named Bd.method).1
  have X0 : Stand p l e ({ frames := 1, cells := 0, slots := 0, locals := 13 } : Room) s m #[(.ref w_3), (.ref w_2)] below meth c s₁ [] 0 0 := Stand.of_body Bd
  have e0 : s₁.heap = h0 := by rw [← hh, Bd.state]; rfl
  have N0 := Fr.nil n0
  have hS0 := hS
  obtain ⟨S_1, E_1, S_2, E_2, S_3, E_3, S_4, E_4, S_5, F_1_sharedWithItself, F_1_ordinal, F_2_ordinal, F_4_ordinal, F_3_ordinal, F_4_sharedWithItself, F_2_sharedWithItself, F_3_sharedWithItself, V_5⟩ := hS
  have pre0 : ∀ t, Steps p.tables e below (s₁.setTop (mkF m 0 #[.val (.ref w_3), .val (.ref w_2), .unset, .unset, .unset, .unset] [])) t → Steps p.tables e below (s₁.setTop (entryFrame m #[(.ref w_3), (.ref w_2)] 6)) t := fun t k => castTop (ef_2x7 m w_3 w_2) k
  obtain ⟨T154, X154, e154, st154⟩ := getS2 X0 hx hZ hown (host := "") (Or.inl (hw _ (tk 22 rfl))) Via.refl e0 (S_5.ext O0.2) (g := (mkF m 0 #[.val (.ref w_3), .val (.ref w_2), .unset, .unset, .unset, .unset] [])) rfl (hb hby d2_0)
  obtain ⟨cl155, Ar155, qa155, Sa155, Ma155, Ha155, Ga155⟩ := id (V_5.ext O0.2)
  obtain ⟨cl156, Ar156, qa156, Sa156, Ma156, Ha156, Ga156⟩ := id (V_5.ext O0.2)
  have hin156 : ¬ ((0 : Int32) < 0 ∨ cl156.slots.size ≤ ((0 : Int32)).toNatClampNeg) := by  exact inb_of Sa156 ⟨by decide, by decide⟩
  have hat156 : cl156.slots[((0 : Int32)).toNatClampNeg]? = some (.ref w_1) := Has.at Ha156 hin156 (by rfl)
  obtain ⟨cq157, kq157, q157a, q157b, q157c⟩ := isOf hZ e154 (E_2.ext O0.2)
  obtain ⟨_, _, ⟨T157, L157, k157, n157⟩, -, X157, ⟨Lc157, hQ157, l157, y157, z157⟩, st157⟩ := X154.virtualBack hx (y := Y0) (z := Y0) hown (mvT hZ (hw _ (tk 24 rfl))) (mvT hZ (hw _ (tk 25 rfl))) (notFace_of_selects (args := #[]) (mvT hZ (hw _ (tk 27 rfl)))) (mvT hZ (hw _ (tk 27 rfl))) (mvT hZ (hw _ (tk 26 rfl))) (by decide) (backOf (W := 0) (rm3 l Z a0 hw [] w_1 w_2 w_3 w_4 w_5 k_5 hS0 w_2 w_1 (1 : Int32) h0 n0 O0 (F_2_sharedWithItself.ext O0.2)) hZ (hw _ (tk 28 rfl)) (hw _ (tk 3 rfl)) (by decide) (by decide)) q157a q157c (g := (mkF m 25 #[.val (.ref w_3), .val (.ref w_2), .val (.ref w_5), .val (.int (4 : Int32)), .val (.int (0 : Int32)), .val (.ref w_1)] [(.ref w_1), (.ref w_2)])) rfl (by rw [hml]; rfl) (Steps.refl _) (argsL := [(.ref w_1)]) (rest := []) (lenOf pd_0 rfl) rfl (by show 2 * 0 + _ ≤ _; exact Nat.le_of_eq rfl) (hb hby d2_25) (fun _ _ => ⟨rfl, e154, (by decide : 0 + 0 ≤ _), (by decide : 0 + 0 ≤ _)⟩)
  dsimp only [Pt.U, Pt.locs, Pt.cells, Pt.slots] at X157 l157 y157 z157 st157 hQ157
  subst l157 y157 z157
  obtain ⟨rv157, N157q, e157⟩ := hQ157
  rw [show sp3 w_2 w_1 (1 : Int32) = (1 : Int32) from by unfold sp3; rw [if_neg (Fld.ne F_2_ordinal F_1_ordinal (by decide))]] at rv157
  subst rv157
  have N157 := Fr.app N0 N157q
  obtain ⟨cq158, kq158, q158a, q158b, q158c⟩ := isOf hZ e157 (E_3.ext O0.2)
  obtain ⟨_, _, ⟨T158, L158, k158, n158⟩, -, X158, ⟨Lc158, hQ158, l158, y158, z158⟩, st158⟩ := X157.virtualBack hx (y := Y0) (z := Y0) hown (mvT hZ (hw _ (tk 24 rfl))) (mvT hZ (hw _ (tk 25 rfl))) (notFace_of_selects (args := #[]) (mvT hZ (hw _ (tk 27 rfl)))) (mvT hZ (hw _ (tk 27 rfl))) (mvT hZ (hw _ (tk 26 rfl))) (by decide) (backOf (W := 0) (rm3 l Z a0 hw [] w_1 w_2 w_3 w_4 w_5 k_5 hS0 w_3 w_1 (0 : Int32) h0 n0 O0 (F_3_sharedWithItself.ext O0.2)) hZ (hw _ (tk 28 rfl)) (hw _ (tk 3 rfl)) (by decide) (by decide)) q158a q158c (g := (mkF m 34 #[.val (.ref w_3), .val (.ref w_2), .val (.ref w_5), .val (.int (4 : Int32)), .val (.int (0 : Int32)), .val (.ref w_1)] [(.ref w_1), (.ref w_3)])) rfl (by rw [hml]; rfl) (Steps.refl _) (argsL := [(.ref w_1)]) (rest := []) (lenOf pd_0 rfl) rfl (by show 2 * 0 + _ ≤ _; exact Nat.le_of_eq rfl) (hb hby d2_34) (fun _ _ => ⟨rfl, e157, (by decide : 0 + 0 ≤ _), (by decide : 0 + 0 ≤ _)⟩)
  dsimp only [Pt.U, Pt.locs, Pt.cells, Pt.slots] at X158 l158 y158 z158 st158 hQ158
  subst l158 y158 z158
  obtain ⟨rv158, N158q, e158⟩ := hQ158
  rw [show sp3 w_3 w_1 (0 : Int32) = (1 : Int32) from by unfold sp3; rw [if_neg (Fld.ne F_3_ordinal F_1_ordinal (by decide))]] at rv158
  subst rv158
  have N158 := Fr.app N157 N158q
  obtain ⟨cl159, Ar159, qa159, Sa159, Ma159, Ha159, Ga159⟩ := id (V_5.ext O0.2)
  have hin159 : ¬ (((0 : Int32) + (1 : Int32)) < 0 ∨ cl159.slots.size ≤ (((0 : Int32) + (1 : Int32))).toNatClampNeg) := by  exact inb_of Sa159 ⟨by decide, by decide⟩
  have hat159 : cl159.slots[(((0 : Int32) + (1 : Int32))).toNatClampNeg]? = some (.ref w_2) := Has.at Ha159 hin159 (by rfl)
  obtain ⟨cq160, kq160, q160a, q160b, q160c⟩ := isOf hZ e158 (E_2.ext O0.2)
  obtain ⟨_, _, ⟨T160, L160, k160, n160⟩, -, X160, ⟨Lc160, hQ160, l160, y160, z160⟩, st160⟩ := X158.virtualBack hx (y := Y0) (z := Y0) hown (mvT hZ (hw _ (tk 24 rfl))) (mvT hZ (hw _ (tk 25 rfl))) (notFace_of_selects (args := #[]) (mvT hZ (hw _ (tk 27 rfl)))) (mvT hZ (hw _ (tk 27 rfl))) (mvT hZ (hw _ (tk 26 rfl))) (by decide) (backOf (W := 0) (rm3 l Z a0 hw [] w_1 w_2 w_3 w_4 w_5 k_5 hS0 w_2 w_2 (1 : Int32) h0 n0 O0 (F_2_sharedWithItself.ext O0.2)) hZ (hw _ (tk 28 rfl)) (hw _ (tk 3 rfl)) (by decide) (by decide)) q160a q160c (g := (mkF m 25 #[.val (.ref w_3), .val (.ref w_2), .val (.ref w_5), .val (.int (4 : Int32)), .val (.int ((0 : Int32) + (1 : Int32))), .val (.ref w_2)] [(.ref w_2), (.ref w_2)])) rfl (by rw [hml]; rfl) (Steps.refl _) (argsL := [(.ref w_2)]) (rest := []) (lenOf pd_0 rfl) rfl (by show 2 * 0 + _ ≤ _; exact Nat.le_of_eq rfl) (hb hby d2_25) (fun _ _ => ⟨rfl, e158, (by decide : 0 + 0 ≤ _), (by decide : 0 + 0 ≤ _)⟩)
  dsimp only [Pt.U, Pt.locs, Pt.cells, Pt.slots] at X160 l160 y160 z160 st160 hQ160
  subst l160 y160 z160
  obtain ⟨rv160, N160q, e160⟩ := hQ160
  rw [show sp3 w_2 w_2 (1 : Int32) = (0 : Int32) from by unfold sp3; rw [if_pos rfl, if_neg (by decide : ¬ ((1 : Int32) = (0 : Int32)))]] at rv160
  subst rv160
  have N160 := Fr.app N158 N160q
  obtain ⟨cl161, Ar161, qa161, Sa161, Ma161, Ha161, Ga161⟩ := id (V_5.ext O0.2)
  have hin161 : ¬ ((((0 : Int32) + (1 : Int32)) + (1 : Int32)) < 0 ∨ cl161.slots.size ≤ ((((0 : Int32) + (1 : Int32)) + (1 : Int32))).toNatClampNeg) := by  exact inb_of Sa161 ⟨by decide, by decide⟩
  have hat161 : cl161.slots[((((0 : Int32) + (1 : Int32)) + (1 : Int32))).toNatClampNeg]? = some (.ref w_3) := Has.at Ha161 hin161 (by rfl)
  obtain ⟨cq162, kq162, q162a, q162b, q162c⟩ := isOf hZ e160 (E_2.ext O0.2)
  obtain ⟨_, _, ⟨T162, L162, k162, n162⟩, -, X162, ⟨Lc162, hQ162, l162, y162, z162⟩, st162⟩ := X160.virtualBack hx (y := Y0) (z := Y0) hown (mvT hZ (hw _ (tk 24 rfl))) (mvT hZ (hw _ (tk 25 rfl))) (notFace_of_selects (args := #[]) (mvT hZ (hw _ (tk 27 rfl)))) (mvT hZ (hw _ (tk 27 rfl))) (mvT hZ (hw _ (tk 26 rfl))) (by decide) (backOf (W := 0) (rm3 l Z a0 hw [] w_1 w_2 w_3 w_4 w_5 k_5 hS0 w_2 w_3 (1 : Int32) h0 n0 O0 (F_2_sharedWithItself.ext O0.2)) hZ (hw _ (tk 28 rfl)) (hw _ (tk 3 rfl)) (by decide) (by decide)) q162a q162c (g := (mkF m 25 #[.val (.ref w_3), .val (.ref w_2), .val (.ref w_5), .val (.int (4 : Int32)), .val (.int (((0 : Int32) + (1 : Int32)) + (1 : Int32))), .val (.ref w_3)] [(.ref w_3), (.ref w_2)])) rfl (by rw [hml]; rfl) (Steps.refl _) (argsL := [(.ref w_3)]) (rest := []) (lenOf pd_0 rfl) rfl (by show 2 * 0 + _ ≤ _; exact Nat.le_of_eq rfl) (hb hby d2_25) (fun _ _ => ⟨rfl, e160, (by decide : 0 + 0 ≤ _), (by decide : 0 + 0 ≤ _)⟩)
  dsimp only [Pt.U, Pt.locs, Pt.cells, Pt.slots] at X162 l162 y162 z162 st162 hQ162
  subst l162 y162 z162
  obtain ⟨rv162, N162q, e162⟩ := hQ162
  rw [show sp3 w_2 w_3 (1 : Int32) = (1 : Int32) from by unfold sp3; rw [if_neg (Fld.ne F_2_ordinal F_3_ordinal (by decide))]] at rv162
  subst rv162
  have N162 := Fr.app N160 N162q
  obtain ⟨cq163, kq163, q163a, q163b, q163c⟩ := isOf hZ e162 (E_3.ext O0.2)
  obtain ⟨_, _, ⟨T163, L163, k163, n163⟩, -, X163, ⟨Lc163, hQ163, l163, y163, z163⟩, st163⟩ := X162.virtualBack hx (y := Y0) (z := Y0) hown (mvT hZ (hw _ (tk 24 rfl))) (mvT hZ (hw _ (tk 25 rfl))) (notFace_of_selects (args := #[]) (mvT hZ (hw _ (tk 27 rfl)))) (mvT hZ (hw _ (tk 27 rfl))) (mvT hZ (hw _ (tk 26 rfl))) (by decide) (backOf (W := 0) (rm3 l Z a0 hw [] w_1 w_2 w_3 w_4 w_5 k_5 hS0 w_3 w_3 (0 : Int32) h0 n0 O0 (F_3_sharedWithItself.ext O0.2)) hZ (hw _ (tk 28 rfl)) (hw _ (tk 3 rfl)) (by decide) (by decide)) q163a q163c (g := (mkF m 34 #[.val (.ref w_3), .val (.ref w_2), .val (.ref w_5), .val (.int (4 : Int32)), .val (.int (((0 : Int32) + (1 : Int32)) + (1 : Int32))), .val (.ref w_3)] [(.ref w_3), (.ref w_3)])) rfl (by rw [hml]; rfl) (Steps.refl _) (argsL := [(.ref w_3)]) (rest := []) (lenOf pd_0 rfl) rfl (by show 2 * 0 + _ ≤ _; exact Nat.le_of_eq rfl) (hb hby d2_34) (fun _ _ => ⟨rfl, e162, (by decide : 0 + 0 ≤ _), (by decide : 0 + 0 ≤ _)⟩)
  dsimp only [Pt.U, Pt.locs, Pt.cells, Pt.slots] at X163 l163 y163 z163 st163 hQ163
  subst l163 y163 z163
  obtain ⟨rv163, N163q, e163⟩ := hQ163
  rw [show sp3 w_3 w_3 (0 : Int32) = (1 : Int32) from by unfold sp3; rw [if_pos rfl, if_pos (by decide : ((0 : Int32) = (0 : Int32)))]] at rv163
  subst rv163
  have N163 := Fr.app N162 N163q
  obtain ⟨cl164, Ar164, qa164, Sa164, Ma164, Ha164, Ga164⟩ := id (V_5.ext O0.2)
  have hin164 : ¬ (((((0 : Int32) + (1 : Int32)) + (1 : Int32)) + (1 : Int32)) < 0 ∨ cl164.slots.size ≤ (((((0 : Int32) + (1 : Int32)) + (1 : Int32)) + (1 : Int32))).toNatClampNeg) := by  exact inb_of Sa164 ⟨by decide, by decide⟩
  have hat164 : cl164.slots[(((((0 : Int32) + (1 : Int32)) + (1 : Int32)) + (1 : Int32))).toNatClampNeg]? = some (.ref w_4) := Has.at Ha164 hin164 (by rfl)
  obtain ⟨cq165, kq165, q165a, q165b, q165c⟩ := isOf hZ e163 (E_2.ext O0.2)
  obtain ⟨_, _, ⟨T165, L165, k165, n165⟩, -, X165, ⟨Lc165, hQ165, l165, y165, z165⟩, st165⟩ := X163.virtualBack hx (y := Y0) (z := Y0) hown (mvT hZ (hw _ (tk 24 rfl))) (mvT hZ (hw _ (tk 25 rfl))) (notFace_of_selects (args := #[]) (mvT hZ (hw _ (tk 27 rfl)))) (mvT hZ (hw _ (tk 27 rfl))) (mvT hZ (hw _ (tk 26 rfl))) (by decide) (backOf (W := 0) (rm3 l Z a0 hw [] w_1 w_2 w_3 w_4 w_5 k_5 hS0 w_2 w_4 (1 : Int32) h0 n0 O0 (F_2_sharedWithItself.ext O0.2)) hZ (hw _ (tk 28 rfl)) (hw _ (tk 3 rfl)) (by decide) (by decide)) q165a q165c (g := (mkF m 25 #[.val (.ref w_3), .val (.ref w_2), .val (.ref w_5), .val (.int (4 : Int32)), .val (.int ((((0 : Int32) + (1 : Int32)) + (1 : Int32)) + (1 : Int32))), .val (.ref w_4)] [(.ref w_4), (.ref w_2)])) rfl (by rw [hml]; rfl) (Steps.refl _) (argsL := [(.ref w_4)]) (rest := []) (lenOf pd_0 rfl) rfl (by show 2 * 0 + _ ≤ _; exact Nat.le_of_eq rfl) (hb hby d2_25) (fun _ _ => ⟨rfl, e163, (by decide : 0 + 0 ≤ _), (by decide : 0 + 0 ≤ _)⟩)
  dsimp only [Pt.U, Pt.locs, Pt.cells, Pt.slots] at X165 l165 y165 z165 st165 hQ165
  subst l165 y165 z165
  obtain ⟨rv165, N165q, e165⟩ := hQ165
  rw [show sp3 w_2 w_4 (1 : Int32) = (1 : Int32) from by unfold sp3; rw [if_neg (Fld.ne F_2_ordinal F_4_ordinal (by decide))]] at rv165
  subst rv165
  have N165 := Fr.app N163 N165q
  obtain ⟨cq166, kq166, q166a, q166b, q166c⟩ := isOf hZ e165 (E_3.ext O0.2)
  obtain ⟨_, _, ⟨T166, L166, k166, n166⟩, -, X166, ⟨Lc166, hQ166, l166, y166, z166⟩, st166⟩ := X165.virtualBack hx (y := Y0) (z := Y0) hown (mvT hZ (hw _ (tk 24 rfl))) (mvT hZ (hw _ (tk 25 rfl))) (notFace_of_selects (args := #[]) (mvT hZ (hw _ (tk 27 rfl)))) (mvT hZ (hw _ (tk 27 rfl))) (mvT hZ (hw _ (tk 26 rfl))) (by decide) (backOf (W := 0) (rm3 l Z a0 hw [] w_1 w_2 w_3 w_4 w_5 k_5 hS0 w_3 w_4 (0 : Int32) h0 n0 O0 (F_3_sharedWithItself.ext O0.2)) hZ (hw _ (tk 28 rfl)) (hw _ (tk 3 rfl)) (by decide) (by decide)) q166a q166c (g := (mkF m 34 #[.val (.ref w_3), .val (.ref w_2), .val (.ref w_5), .val (.int (4 : Int32)), .val (.int ((((0 : Int32) + (1 : Int32)) + (1 : Int32)) + (1 : Int32))), .val (.ref w_4)] [(.ref w_4), (.ref w_3)])) rfl (by rw [hml]; rfl) (Steps.refl _) (argsL := [(.ref w_4)]) (rest := []) (lenOf pd_0 rfl) rfl (by show 2 * 0 + _ ≤ _; exact Nat.le_of_eq rfl) (hb hby d2_34) (fun _ _ => ⟨rfl, e165, (by decide : 0 + 0 ≤ _), (by decide : 0 + 0 ≤ _)⟩)
  dsimp only [Pt.U, Pt.locs, Pt.cells, Pt.slots] at X166 l166 y166 z166 st166 hQ166
  subst l166 y166 z166
  obtain ⟨rv166, N166q, e166⟩ := hQ166
  rw [show sp3 w_3 w_4 (0 : Int32) = (1 : Int32) from by unfold sp3; rw [if_neg (Fld.ne F_3_ordinal F_4_ordinal (by decide))]] at rv166
  subst rv166
  have N166 := Fr.app N165 N166q
  obtain ⟨fs, hr, hrun, hended, hW, hsame⟩ := X166.leave (v := some (.int (1 : Int32))) (fun h => by rw [Bd.returns] at h; cases h)
  refine ⟨_, _, pre0 _ ?_, hrun, hended, _, _, rfl, ?_, ⟨_, rfl⟩, hW, hsame.mono (by decide) (by decide)⟩
  · show Steps p.tables e below (s₁.setTop (mkF m 0 #[.val (.ref w_3), .val (.ref w_2), .unset, .unset, .unset, .unset] [])) _
    refine st154 _ ?_
    show Steps p.tables e below (T154.setTop (mkF m 3 #[.val (.ref w_3), .val (.ref w_2), .unset, .unset, .unset, .unset] [(.ref w_5)])) _
    refine XS.astoreN X154.here hx rfl (hb hby d2_3) rfl rfl (l' := #[.val (.ref w_3), .val (.ref w_2), .val (.ref w_5), .unset, .unset, .unset]) rfl ?_
    show Steps p.tables e below (T154.setTop (mkF m 4 #[.val (.ref w_3), .val (.ref w_2), .val (.ref w_5), .unset, .unset, .unset] [])) _
    refine XS.aloadN X154.here hx rfl (hb hby d2_4) rfl rfl ?_
    show Steps p.tables e below (T154.setTop (mkF m 5 #[.val (.ref w_3), .val (.ref w_2), .val (.ref w_5), .unset, .unset, .unset] [(.ref w_5)])) _
    refine X154.arraylength hx (by rw [e154]; exact Ar155.1) (State.isArrayOf_alike hZ.alike Ar155.2.1) (g := (mkF m 5 #[.val (.ref w_3), .val (.ref w_2), .val (.ref w_5), .unset, .unset, .unset] [(.ref w_5)])) rfl rfl (hb hby d2_5) _ ?_
    rw [len_of Sa155 Ma155]
    show Steps p.tables e below (T154.setTop (mkF m 6 #[.val (.ref w_3), .val (.ref w_2), .val (.ref w_5), .unset, .unset, .unset] [(.int (4 : Int32))])) _
    refine XS.istoreN X154.here hx rfl (hb hby d2_6) rfl (l' := #[.val (.ref w_3), .val (.ref w_2), .val (.ref w_5), .val (.int (4 : Int32)), .unset, .unset]) rfl ?_
    show Steps p.tables e below (T154.setTop (mkF m 7 #[.val (.ref w_3), .val (.ref w_2), .val (.ref w_5), .val (.int (4 : Int32)), .unset, .unset] [])) _
    refine XS.iconst X154.here hx rfl (hb hby d2_7) ?_
    show Steps p.tables e below (T154.setTop (mkF m 8 #[.val (.ref w_3), .val (.ref w_2), .val (.ref w_5), .val (.int (4 : Int32)), .unset, .unset] [(.int (0 : Int32))])) _
    refine XS.istore X154.here hx rfl (hb hby d2_8) rfl (l' := #[.val (.ref w_3), .val (.ref w_2), .val (.ref w_5), .val (.int (4 : Int32)), .val (.int (0 : Int32)), .unset]) rfl ?_
    show Steps p.tables e below (T154.setTop (mkF m 10 #[.val (.ref w_3), .val (.ref w_2), .val (.ref w_5), .val (.int (4 : Int32)), .val (.int (0 : Int32)), .unset] [])) _
    refine XS.iload X154.here hx rfl (hb hby d2_10) rfl ?_
    show Steps p.tables e below (T154.setTop (mkF m 12 #[.val (.ref w_3), .val (.ref w_2), .val (.ref w_5), .val (.int (4 : Int32)), .val (.int (0 : Int32)), .unset] [(.int (0 : Int32))])) _
    refine XS.iloadN X154.here hx rfl (hb hby d2_12) rfl ?_
    show Steps p.tables e below (T154.setTop (mkF m 13 #[.val (.ref w_3), .val (.ref w_2), .val (.ref w_5), .val (.int (4 : Int32)), .val (.int (0 : Int32)), .unset] [(.int (4 : Int32)), (.int (0 : Int32))])) _
    refine XS.icmpNo X154.here hx rfl (hb hby d2_13) rfl (tlt (by decide : ((0 : Int32) < (4 : Int32)))).2.1 ?_
    show Steps p.tables e below (T154.setTop (mkF m 16 #[.val (.ref w_3), .val (.ref w_2), .val (.ref w_5), .val (.int (4 : Int32)), .val (.int (0 : Int32)), .unset] [])) _
    refine XS.aloadN X154.here hx rfl (hb hby d2_16) rfl rfl ?_
    show Steps p.tables e below (T154.setTop (mkF m 17 #[.val (.ref w_3), .val (.ref w_2), .val (.ref w_5), .val (.int (4 : Int32)), .val (.int (0 : Int32)), .unset] [(.ref w_5)])) _
    refine XS.iload X154.here hx rfl (hb hby d2_17) rfl ?_
    show Steps p.tables e below (T154.setTop (mkF m 19 #[.val (.ref w_3), .val (.ref w_2), .val (.ref w_5), .val (.int (4 : Int32)), .val (.int (0 : Int32)), .unset] [(.int (0 : Int32)), (.ref w_5)])) _
    refine X154.aaload hx (j := (0 : Int32)) (v := (.ref w_1)) (by rw [e154]; exact Ar156.1) (State.isArrayOf_alike hZ.alike Ar156.2.1) rfl Ar156.2.2 hin156 hat156 (g := (mkF m 19 #[.val (.ref w_3), .val (.ref w_2), .val (.ref w_5), .val (.int (4 : Int32)), .val (.int (0 : Int32)), .unset] [(.int (0 : Int32)), (.ref w_5)])) rfl rfl (hb hby d2_19) _ ?_
    show Steps p.tables e below (T154.setTop (mkF m 20 #[.val (.ref w_3), .val (.ref w_2), .val (.ref w_5), .val (.int (4 : Int32)), .val (.int (0 : Int32)), .unset] [(.ref w_1)])) _
    refine XS.astore X154.here hx rfl (hb hby d2_20) rfl rfl (l' := #[.val (.ref w_3), .val (.ref w_2), .val (.ref w_5), .val (.int (4 : Int32)), .val (.int (0 : Int32)), .val (.ref w_1)]) rfl ?_
    show Steps p.tables e below (T154.setTop (mkF m 22 #[.val (.ref w_3), .val (.ref w_2), .val (.ref w_5), .val (.int (4 : Int32)), .val (.int (0 : Int32)), .val (.ref w_1)] [])) _
    refine XS.aloadN X154.here hx rfl (hb hby d2_22) rfl rfl ?_
    show Steps p.tables e below (T154.setTop (mkF m 23 #[.val (.ref w_3), .val (.ref w_2), .val (.ref w_5), .val (.int (4 : Int32)), .val (.int (0 : Int32)), .val (.ref w_1)] [(.ref w_2)])) _
    refine XS.aload X154.here hx rfl (hb hby d2_23) rfl rfl ?_
    show Steps p.tables e below (T154.setTop (mkF m 25 #[.val (.ref w_3), .val (.ref w_2), .val (.ref w_5), .val (.int (4 : Int32)), .val (.int (0 : Int32)), .val (.ref w_1)] [(.ref w_1), (.ref w_2)])) _
    refine st157.trans ?_
    show Steps p.tables e below (T157.setTop (mkF m 28 #[.val (.ref w_3), .val (.ref w_2), .val (.ref w_5), .val (.int (4 : Int32)), .val (.int (0 : Int32)), .val (.ref w_1)] [(.int (1 : Int32))])) _
    refine XS.ifNo X157.here hx rfl (hb hby d2_28) rfl ((if0 _ _).trans (feq (by decide : ¬ ((1 : Int32) = (0 : Int32)))).1) ?_
    show Steps p.tables e below (T157.setTop (mkF m 31 #[.val (.ref w_3), .val (.ref w_2), .val (.ref w_5), .val (.int (4 : Int32)), .val (.int (0 : Int32)), .val (.ref w_1)] [])) _
    refine XS.aloadN X157.here hx rfl (hb hby d2_31) rfl rfl ?_
    show Steps p.tables e below (T157.setTop (mkF m 32 #[.val (.ref w_3), .val (.ref w_2), .val (.ref w_5), .val (.int (4 : Int32)), .val (.int (0 : Int32)), .val (.ref w_1)] [(.ref w_3)])) _
    refine XS.aload X157.here hx rfl (hb hby d2_32) rfl rfl ?_
    show Steps p.tables e below (T157.setTop (mkF m 34 #[.val (.ref w_3), .val (.ref w_2), .val (.ref w_5), .val (.int (4 : Int32)), .val (.int (0 : Int32)), .val (.ref w_1)] [(.ref w_1), (.ref w_3)])) _
    refine st158.trans ?_
    show Steps p.tables e below (T158.setTop (mkF m 37 #[.val (.ref w_3), .val (.ref w_2), .val (.ref w_5), .val (.int (4 : Int32)), .val (.int (0 : Int32)), .val (.ref w_1)] [(.int (1 : Int32))])) _
    refine XS.ifYes X158.here hx rfl (pc0 := 37) (pc' := 42) rfl (hb hby d2_37) rfl ((if0 _ _).trans (feq (by decide : ¬ ((1 : Int32) = (0 : Int32)))).2) (by decide) (by decide) ?_
    show Steps p.tables e below (T158.setTop (mkF m 42 #[.val (.ref w_3), .val (.ref w_2), .val (.ref w_5), .val (.int (4 : Int32)), .val (.int (0 : Int32)), .val (.ref w_1)] [])) _
    refine XS.iinc X158.here hx rfl (hb hby d2_42) rfl (l' := #[.val (.ref w_3), .val (.ref w_2), .val (.ref w_5), .val (.int (4 : Int32)), .val (.int ((0 : Int32) + (1 : Int32))), .val (.ref w_1)]) rfl ?_
    show Steps p.tables e below (T158.setTop (mkF m 45 #[.val (.ref w_3), .val (.ref w_2), .val (.ref w_5), .val (.int (4 : Int32)), .val (.int ((0 : Int32) + (1 : Int32))), .val (.ref w_1)] [])) _
    refine XS.goto X158.here hx rfl (pc0 := 45) (pc' := 10) rfl (hb hby d2_45) (by decide) (by decide) ?_
    show Steps p.tables e below (T158.setTop (mkF m 10 #[.val (.ref w_3), .val (.ref w_2), .val (.ref w_5), .val (.int (4 : Int32)), .val (.int ((0 : Int32) + (1 : Int32))), .val (.ref w_1)] [])) _
    refine XS.iload X158.here hx rfl (hb hby d2_10) rfl ?_
    show Steps p.tables e below (T158.setTop (mkF m 12 #[.val (.ref w_3), .val (.ref w_2), .val (.ref w_5), .val (.int (4 : Int32)), .val (.int ((0 : Int32) + (1 : Int32))), .val (.ref w_1)] [(.int ((0 : Int32) + (1 : Int32)))])) _
    refine XS.iloadN X158.here hx rfl (hb hby d2_12) rfl ?_
    show Steps p.tables e below (T158.setTop (mkF m 13 #[.val (.ref w_3), .val (.ref w_2), .val (.ref w_5), .val (.int (4 : Int32)), .val (.int ((0 : Int32) + (1 : Int32))), .val (.ref w_1)] [(.int (4 : Int32)), (.int ((0 : Int32) + (1 : Int32)))])) _
    refine XS.icmpNo X158.here hx rfl (hb hby d2_13) rfl (tlt (by decide : (((0 : Int32) + (1 : Int32)) < (4 : Int32)))).2.1 ?_
    show Steps p.tables e below (T158.setTop (mkF m 16 #[.val (.ref w_3), .val (.ref w_2), .val (.ref w_5), .val (.int (4 : Int32)), .val (.int ((0 : Int32) + (1 : Int32))), .val (.ref w_1)] [])) _
    refine XS.aloadN X158.here hx rfl (hb hby d2_16) rfl rfl ?_
    show Steps p.tables e below (T158.setTop (mkF m 17 #[.val (.ref w_3), .val (.ref w_2), .val (.ref w_5), .val (.int (4 : Int32)), .val (.int ((0 : Int32) + (1 : Int32))), .val (.ref w_1)] [(.ref w_5)])) _
    refine XS.iload X158.here hx rfl (hb hby d2_17) rfl ?_
    show Steps p.tables e below (T158.setTop (mkF m 19 #[.val (.ref w_3), .val (.ref w_2), .val (.ref w_5), .val (.int (4 : Int32)), .val (.int ((0 : Int32) + (1 : Int32))), .val (.ref w_1)] [(.int ((0 : Int32) + (1 : Int32))), (.ref w_5)])) _
    refine X158.aaload hx (j := ((0 : Int32) + (1 : Int32))) (v := (.ref w_2)) (by rw [e158]; exact Ar159.1) (State.isArrayOf_alike hZ.alike Ar159.2.1) rfl Ar159.2.2 hin159 hat159 (g := (mkF m 19 #[.val (.ref w_3), .val (.ref w_2), .val (.ref w_5), .val (.int (4 : Int32)), .val (.int ((0 : Int32) + (1 : Int32))), .val (.ref w_1)] [(.int ((0 : Int32) + (1 : Int32))), (.ref w_5)])) rfl rfl (hb hby d2_19) _ ?_
    show Steps p.tables e below (T158.setTop (mkF m 20 #[.val (.ref w_3), .val (.ref w_2), .val (.ref w_5), .val (.int (4 : Int32)), .val (.int ((0 : Int32) + (1 : Int32))), .val (.ref w_1)] [(.ref w_2)])) _
    refine XS.astore X158.here hx rfl (hb hby d2_20) rfl rfl (l' := #[.val (.ref w_3), .val (.ref w_2), .val (.ref w_5), .val (.int (4 : Int32)), .val (.int ((0 : Int32) + (1 : Int32))), .val (.ref w_2)]) rfl ?_
    show Steps p.tables e below (T158.setTop (mkF m 22 #[.val (.ref w_3), .val (.ref w_2), .val (.ref w_5), .val (.int (4 : Int32)), .val (.int ((0 : Int32) + (1 : Int32))), .val (.ref w_2)] [])) _
    refine XS.aloadN X158.here hx rfl (hb hby d2_22) rfl rfl ?_
    show Steps p.tables e below (T158.setTop (mkF m 23 #[.val (.ref w_3), .val (.ref w_2), .val (.ref w_5), .val (.int (4 : Int32)), .val (.int ((0 : Int32) + (1 : Int32))), .val (.ref w_2)] [(.ref w_2)])) _
    refine XS.aload X158.here hx rfl (hb hby d2_23) rfl rfl ?_
    show Steps p.tables e below (T158.setTop (mkF m 25 #[.val (.ref w_3), .val (.ref w_2), .val (.ref w_5), .val (.int (4 : Int32)), .val (.int ((0 : Int32) + (1 : Int32))), .val (.ref w_2)] [(.ref w_2), (.ref w_2)])) _
    refine st160.trans ?_
    show Steps p.tables e below (T160.setTop (mkF m 28 #[.val (.ref w_3), .val (.ref w_2), .val (.ref w_5), .val (.int (4 : Int32)), .val (.int ((0 : Int32) + (1 : Int32))), .val (.ref w_2)] [(.int (0 : Int32))])) _
    refine XS.ifYes X160.here hx rfl (pc0 := 28) (pc' := 42) rfl (hb hby d2_28) rfl ((if0 _ _).trans (teq (by decide : ((0 : Int32) = (0 : Int32)))).1) (by decide) (by decide) ?_
    show Steps p.tables e below (T160.setTop (mkF m 42 #[.val (.ref w_3), .val (.ref w_2), .val (.ref w_5), .val (.int (4 : Int32)), .val (.int ((0 : Int32) + (1 : Int32))), .val (.ref w_2)] [])) _
    refine XS.iinc X160.here hx rfl (hb hby d2_42) rfl (l' := #[.val (.ref w_3), .val (.ref w_2), .val (.ref w_5), .val (.int (4 : Int32)), .val (.int (((0 : Int32) + (1 : Int32)) + (1 : Int32))), .val (.ref w_2)]) rfl ?_
    show Steps p.tables e below (T160.setTop (mkF m 45 #[.val (.ref w_3), .val (.ref w_2), .val (.ref w_5), .val (.int (4 : Int32)), .val (.int (((0 : Int32) + (1 : Int32)) + (1 : Int32))), .val (.ref w_2)] [])) _
    refine XS.goto X160.here hx rfl (pc0 := 45) (pc' := 10) rfl (hb hby d2_45) (by decide) (by decide) ?_
    show Steps p.tables e below (T160.setTop (mkF m 10 #[.val (.ref w_3), .val (.ref w_2), .val (.ref w_5), .val (.int (4 : Int32)), .val (.int (((0 : Int32) + (1 : Int32)) + (1 : Int32))), .val (.ref w_2)] [])) _
    refine XS.iload X160.here hx rfl (hb hby d2_10) rfl ?_
    show Steps p.tables e below (T160.setTop (mkF m 12 #[.val (.ref w_3), .val (.ref w_2), .val (.ref w_5), .val (.int (4 : Int32)), .val (.int (((0 : Int32) + (1 : Int32)) + (1 : Int32))), .val (.ref w_2)] [(.int (((0 : Int32) + (1 : Int32)) + (1 : Int32)))])) _
    refine XS.iloadN X160.here hx rfl (hb hby d2_12) rfl ?_
    show Steps p.tables e below (T160.setTop (mkF m 13 #[.val (.ref w_3), .val (.ref w_2), .val (.ref w_5), .val (.int (4 : Int32)), .val (.int (((0 : Int32) + (1 : Int32)) + (1 : Int32))), .val (.ref w_2)] [(.int (4 : Int32)), (.int (((0 : Int32) + (1 : Int32)) + (1 : Int32)))])) _
    refine XS.icmpNo X160.here hx rfl (hb hby d2_13) rfl (tlt (by decide : ((((0 : Int32) + (1 : Int32)) + (1 : Int32)) < (4 : Int32)))).2.1 ?_
    show Steps p.tables e below (T160.setTop (mkF m 16 #[.val (.ref w_3), .val (.ref w_2), .val (.ref w_5), .val (.int (4 : Int32)), .val (.int (((0 : Int32) + (1 : Int32)) + (1 : Int32))), .val (.ref w_2)] [])) _
    refine XS.aloadN X160.here hx rfl (hb hby d2_16) rfl rfl ?_
    show Steps p.tables e below (T160.setTop (mkF m 17 #[.val (.ref w_3), .val (.ref w_2), .val (.ref w_5), .val (.int (4 : Int32)), .val (.int (((0 : Int32) + (1 : Int32)) + (1 : Int32))), .val (.ref w_2)] [(.ref w_5)])) _
    refine XS.iload X160.here hx rfl (hb hby d2_17) rfl ?_
    show Steps p.tables e below (T160.setTop (mkF m 19 #[.val (.ref w_3), .val (.ref w_2), .val (.ref w_5), .val (.int (4 : Int32)), .val (.int (((0 : Int32) + (1 : Int32)) + (1 : Int32))), .val (.ref w_2)] [(.int (((0 : Int32) + (1 : Int32)) + (1 : Int32))), (.ref w_5)])) _
    refine X160.aaload hx (j := (((0 : Int32) + (1 : Int32)) + (1 : Int32))) (v := (.ref w_3)) (by rw [e160]; exact Ar161.1) (State.isArrayOf_alike hZ.alike Ar161.2.1) rfl Ar161.2.2 hin161 hat161 (g := (mkF m 19 #[.val (.ref w_3), .val (.ref w_2), .val (.ref w_5), .val (.int (4 : Int32)), .val (.int (((0 : Int32) + (1 : Int32)) + (1 : Int32))), .val (.ref w_2)] [(.int (((0 : Int32) + (1 : Int32)) + (1 : Int32))), (.ref w_5)])) rfl rfl (hb hby d2_19) _ ?_
    show Steps p.tables e below (T160.setTop (mkF m 20 #[.val (.ref w_3), .val (.ref w_2), .val (.ref w_5), .val (.int (4 : Int32)), .val (.int (((0 : Int32) + (1 : Int32)) + (1 : Int32))), .val (.ref w_2)] [(.ref w_3)])) _
    refine XS.astore X160.here hx rfl (hb hby d2_20) rfl rfl (l' := #[.val (.ref w_3), .val (.ref w_2), .val (.ref w_5), .val (.int (4 : Int32)), .val (.int (((0 : Int32) + (1 : Int32)) + (1 : Int32))), .val (.ref w_3)]) rfl ?_
    show Steps p.tables e below (T160.setTop (mkF m 22 #[.val (.ref w_3), .val (.ref w_2), .val (.ref w_5), .val (.int (4 : Int32)), .val (.int (((0 : Int32) + (1 : Int32)) + (1 : Int32))), .val (.ref w_3)] [])) _
    refine XS.aloadN X160.here hx rfl (hb hby d2_22) rfl rfl ?_
    show Steps p.tables e below (T160.setTop (mkF m 23 #[.val (.ref w_3), .val (.ref w_2), .val (.ref w_5), .val (.int (4 : Int32)), .val (.int (((0 : Int32) + (1 : Int32)) + (1 : Int32))), .val (.ref w_3)] [(.ref w_2)])) _
    refine XS.aload X160.here hx rfl (hb hby d2_23) rfl rfl ?_
    show Steps p.tables e below (T160.setTop (mkF m 25 #[.val (.ref w_3), .val (.ref w_2), .val (.ref w_5), .val (.int (4 : Int32)), .val (.int (((0 : Int32) + (1 : Int32)) + (1 : Int32))), .val (.ref w_3)] [(.ref w_3), (.ref w_2)])) _
    refine st162.trans ?_
    show Steps p.tables e below (T162.setTop (mkF m 28 #[.val (.ref w_3), .val (.ref w_2), .val (.ref w_5), .val (.int (4 : Int32)), .val (.int (((0 : Int32) + (1 : Int32)) + (1 : Int32))), .val (.ref w_3)] [(.int (1 : Int32))])) _
    refine XS.ifNo X162.here hx rfl (hb hby d2_28) rfl ((if0 _ _).trans (feq (by decide : ¬ ((1 : Int32) = (0 : Int32)))).1) ?_
    show Steps p.tables e below (T162.setTop (mkF m 31 #[.val (.ref w_3), .val (.ref w_2), .val (.ref w_5), .val (.int (4 : Int32)), .val (.int (((0 : Int32) + (1 : Int32)) + (1 : Int32))), .val (.ref w_3)] [])) _
    refine XS.aloadN X162.here hx rfl (hb hby d2_31) rfl rfl ?_
    show Steps p.tables e below (T162.setTop (mkF m 32 #[.val (.ref w_3), .val (.ref w_2), .val (.ref w_5), .val (.int (4 : Int32)), .val (.int (((0 : Int32) + (1 : Int32)) + (1 : Int32))), .val (.ref w_3)] [(.ref w_3)])) _
    refine XS.aload X162.here hx rfl (hb hby d2_32) rfl rfl ?_
    show Steps p.tables e below (T162.setTop (mkF m 34 #[.val (.ref w_3), .val (.ref w_2), .val (.ref w_5), .val (.int (4 : Int32)), .val (.int (((0 : Int32) + (1 : Int32)) + (1 : Int32))), .val (.ref w_3)] [(.ref w_3), (.ref w_3)])) _
    refine st163.trans ?_
    show Steps p.tables e below (T163.setTop (mkF m 37 #[.val (.ref w_3), .val (.ref w_2), .val (.ref w_5), .val (.int (4 : Int32)), .val (.int (((0 : Int32) + (1 : Int32)) + (1 : Int32))), .val (.ref w_3)] [(.int (1 : Int32))])) _
    refine XS.ifYes X163.here hx rfl (pc0 := 37) (pc' := 42) rfl (hb hby d2_37) rfl ((if0 _ _).trans (feq (by decide : ¬ ((1 : Int32) = (0 : Int32)))).2) (by decide) (by decide) ?_
    show Steps p.tables e below (T163.setTop (mkF m 42 #[.val (.ref w_3), .val (.ref w_2), .val (.ref w_5), .val (.int (4 : Int32)), .val (.int (((0 : Int32) + (1 : Int32)) + (1 : Int32))), .val (.ref w_3)] [])) _
    refine XS.iinc X163.here hx rfl (hb hby d2_42) rfl (l' := #[.val (.ref w_3), .val (.ref w_2), .val (.ref w_5), .val (.int (4 : Int32)), .val (.int ((((0 : Int32) + (1 : Int32)) + (1 : Int32)) + (1 : Int32))), .val (.ref w_3)]) rfl ?_
    show Steps p.tables e below (T163.setTop (mkF m 45 #[.val (.ref w_3), .val (.ref w_2), .val (.ref w_5), .val (.int (4 : Int32)), .val (.int ((((0 : Int32) + (1 : Int32)) + (1 : Int32)) + (1 : Int32))), .val (.ref w_3)] [])) _
    refine XS.goto X163.here hx rfl (pc0 := 45) (pc' := 10) rfl (hb hby d2_45) (by decide) (by decide) ?_
    show Steps p.tables e below (T163.setTop (mkF m 10 #[.val (.ref w_3), .val (.ref w_2), .val (.ref w_5), .val (.int (4 : Int32)), .val (.int ((((0 : Int32) + (1 : Int32)) + (1 : Int32)) + (1 : Int32))), .val (.ref w_3)] [])) _
    refine XS.iload X163.here hx rfl (hb hby d2_10) rfl ?_
    show Steps p.tables e below (T163.setTop (mkF m 12 #[.val (.ref w_3), .val (.ref w_2), .val (.ref w_5), .val (.int (4 : Int32)), .val (.int ((((0 : Int32) + (1 : Int32)) + (1 : Int32)) + (1 : Int32))), .val (.ref w_3)] [(.int ((((0 : Int32) + (1 : Int32)) + (1 : Int32)) + (1 : Int32)))])) _
    refine XS.iloadN X163.here hx rfl (hb hby d2_12) rfl ?_
    show Steps p.tables e below (T163.setTop (mkF m 13 #[.val (.ref w_3), .val (.ref w_2), .val (.ref w_5), .val (.int (4 : Int32)), .val (.int ((((0 : Int32) + (1 : Int32)) + (1 : Int32)) + (1 : Int32))), .val (.ref w_3)] [(.int (4 : Int32)), (.int ((((0 : Int32) + (1 : Int32)) + (1 : Int32)) + (1 : Int32)))])) _
    refine XS.icmpNo X163.here hx rfl (hb hby d2_13) rfl (tlt (by decide : (((((0 : Int32) + (1 : Int32)) + (1 : Int32)) + (1 : Int32)) < (4 : Int32)))).2.1 ?_
    show Steps p.tables e below (T163.setTop (mkF m 16 #[.val (.ref w_3), .val (.ref w_2), .val (.ref w_5), .val (.int (4 : Int32)), .val (.int ((((0 : Int32) + (1 : Int32)) + (1 : Int32)) + (1 : Int32))), .val (.ref w_3)] [])) _
    refine XS.aloadN X163.here hx rfl (hb hby d2_16) rfl rfl ?_
    show Steps p.tables e below (T163.setTop (mkF m 17 #[.val (.ref w_3), .val (.ref w_2), .val (.ref w_5), .val (.int (4 : Int32)), .val (.int ((((0 : Int32) + (1 : Int32)) + (1 : Int32)) + (1 : Int32))), .val (.ref w_3)] [(.ref w_5)])) _
    refine XS.iload X163.here hx rfl (hb hby d2_17) rfl ?_
    show Steps p.tables e below (T163.setTop (mkF m 19 #[.val (.ref w_3), .val (.ref w_2), .val (.ref w_5), .val (.int (4 : Int32)), .val (.int ((((0 : Int32) + (1 : Int32)) + (1 : Int32)) + (1 : Int32))), .val (.ref w_3)] [(.int ((((0 : Int32) + (1 : Int32)) + (1 : Int32)) + (1 : Int32))), (.ref w_5)])) _
    refine X163.aaload hx (j := ((((0 : Int32) + (1 : Int32)) + (1 : Int32)) + (1 : Int32))) (v := (.ref w_4)) (by rw [e163]; exact Ar164.1) (State.isArrayOf_alike hZ.alike Ar164.2.1) rfl Ar164.2.2 hin164 hat164 (g := (mkF m 19 #[.val (.ref w_3), .val (.ref w_2), .val (.ref w_5), .val (.int (4 : Int32)), .val (.int ((((0 : Int32) + (1 : Int32)) + (1 : Int32)) + (1 : Int32))), .val (.ref w_3)] [(.int ((((0 : Int32) + (1 : Int32)) + (1 : Int32)) + (1 : Int32))), (.ref w_5)])) rfl rfl (hb hby d2_19) _ ?_
    show Steps p.tables e below (T163.setTop (mkF m 20 #[.val (.ref w_3), .val (.ref w_2), .val (.ref w_5), .val (.int (4 : Int32)), .val (.int ((((0 : Int32) + (1 : Int32)) + (1 : Int32)) + (1 : Int32))), .val (.ref w_3)] [(.ref w_4)])) _
    refine XS.astore X163.here hx rfl (hb hby d2_20) rfl rfl (l' := #[.val (.ref w_3), .val (.ref w_2), .val (.ref w_5), .val (.int (4 : Int32)), .val (.int ((((0 : Int32) + (1 : Int32)) + (1 : Int32)) + (1 : Int32))), .val (.ref w_4)]) rfl ?_
    show Steps p.tables e below (T163.setTop (mkF m 22 #[.val (.ref w_3), .val (.ref w_2), .val (.ref w_5), .val (.int (4 : Int32)), .val (.int ((((0 : Int32) + (1 : Int32)) + (1 : Int32)) + (1 : Int32))), .val (.ref w_4)] [])) _
    refine XS.aloadN X163.here hx rfl (hb hby d2_22) rfl rfl ?_
    show Steps p.tables e below (T163.setTop (mkF m 23 #[.val (.ref w_3), .val (.ref w_2), .val (.ref w_5), .val (.int (4 : Int32)), .val (.int ((((0 : Int32) + (1 : Int32)) + (1 : Int32)) + (1 : Int32))), .val (.ref w_4)] [(.ref w_2)])) _
    refine XS.aload X163.here hx rfl (hb hby d2_23) rfl rfl ?_
    show Steps p.tables e below (T163.setTop (mkF m 25 #[.val (.ref w_3), .val (.ref w_2), .val (.ref w_5), .val (.int (4 : Int32)), .val (.int ((((0 : Int32) + (1 : Int32)) + (1 : Int32)) + (1 : Int32))), .val (.ref w_4)] [(.ref w_4), (.ref w_2)])) _
    refine st165.trans ?_
    show Steps p.tables e below (T165.setTop (mkF m 28 #[.val (.ref w_3), .val (.ref w_2), .val (.ref w_5), .val (.int (4 : Int32)), .val (.int ((((0 : Int32) + (1 : Int32)) + (1 : Int32)) + (1 : Int32))), .val (.ref w_4)] [(.int (1 : Int32))])) _
    refine XS.ifNo X165.here hx rfl (hb hby d2_28) rfl ((if0 _ _).trans (feq (by decide : ¬ ((1 : Int32) = (0 : Int32)))).1) ?_
    show Steps p.tables e below (T165.setTop (mkF m 31 #[.val (.ref w_3), .val (.ref w_2), .val (.ref w_5), .val (.int (4 : Int32)), .val (.int ((((0 : Int32) + (1 : Int32)) + (1 : Int32)) + (1 : Int32))), .val (.ref w_4)] [])) _
    refine XS.aloadN X165.here hx rfl (hb hby d2_31) rfl rfl ?_
    show Steps p.tables e below (T165.setTop (mkF m 32 #[.val (.ref w_3), .val (.ref w_2), .val (.ref w_5), .val (.int (4 : Int32)), .val (.int ((((0 : Int32) + (1 : Int32)) + (1 : Int32)) + (1 : Int32))), .val (.ref w_4)] [(.ref w_3)])) _
    refine XS.aload X165.here hx rfl (hb hby d2_32) rfl rfl ?_
    show Steps p.tables e below (T165.setTop (mkF m 34 #[.val (.ref w_3), .val (.ref w_2), .val (.ref w_5), .val (.int (4 : Int32)), .val (.int ((((0 : Int32) + (1 : Int32)) + (1 : Int32)) + (1 : Int32))), .val (.ref w_4)] [(.ref w_4), (.ref w_3)])) _
    refine st166.trans ?_
    show Steps p.tables e below (T166.setTop (mkF m 37 #[.val (.ref w_3), .val (.ref w_2), .val (.ref w_5), .val (.int (4 : Int32)), .val (.int ((((0 : Int32) + (1 : Int32)) + (1 : Int32)) + (1 : Int32))), .val (.ref w_4)] [(.int (1 : Int32))])) _
    refine XS.ifYes X166.here hx rfl (pc0 := 37) (pc' := 42) rfl (hb hby d2_37) rfl ((if0 _ _).trans (feq (by decide : ¬ ((1 : Int32) = (0 : Int32)))).2) (by decide) (by decide) ?_
    show Steps p.tables e below (T166.setTop (mkF m 42 #[.val (.ref w_3), .val (.ref w_2), .val (.ref w_5), .val (.int (4 : Int32)), .val (.int ((((0 : Int32) + (1 : Int32)) + (1 : Int32)) + (1 : Int32))), .val (.ref w_4)] [])) _
    refine XS.iinc X166.here hx rfl (hb hby d2_42) rfl (l' := #[.val (.ref w_3), .val (.ref w_2), .val (.ref w_5), .val (.int (4 : Int32)), .val (.int (((((0 : Int32) + (1 : Int32)) + (1 : Int32)) + (1 : Int32)) + (1 : Int32))), .val (.ref w_4)]) rfl ?_
    show Steps p.tables e below (T166.setTop (mkF m 45 #[.val (.ref w_3), .val (.ref w_2), .val (.ref w_5), .val (.int (4 : Int32)), .val (.int (((((0 : Int32) + (1 : Int32)) + (1 : Int32)) + (1 : Int32)) + (1 : Int32))), .val (.ref w_4)] [])) _
    refine XS.goto X166.here hx rfl (pc0 := 45) (pc' := 10) rfl (hb hby d2_45) (by decide) (by decide) ?_
    show Steps p.tables e below (T166.setTop (mkF m 10 #[.val (.ref w_3), .val (.ref w_2), .val (.ref w_5), .val (.int (4 : Int32)), .val (.int (((((0 : Int32) + (1 : Int32)) + (1 : Int32)) + (1 : Int32)) + (1 : Int32))), .val (.ref w_4)] [])) _
    refine XS.iload X166.here hx rfl (hb hby d2_10) rfl ?_
    show Steps p.tables e below (T166.setTop (mkF m 12 #[.val (.ref w_3), .val (.ref w_2), .val (.ref w_5), .val (.int (4 : Int32)), .val (.int (((((0 : Int32) + (1 : Int32)) + (1 : Int32)) + (1 : Int32)) + (1 : Int32))), .val (.ref w_4)] [(.int (((((0 : Int32) + (1 : Int32)) + (1 : Int32)) + (1 : Int32)) + (1 : Int32)))])) _
    refine XS.iloadN X166.here hx rfl (hb hby d2_12) rfl ?_
    show Steps p.tables e below (T166.setTop (mkF m 13 #[.val (.ref w_3), .val (.ref w_2), .val (.ref w_5), .val (.int (4 : Int32)), .val (.int (((((0 : Int32) + (1 : Int32)) + (1 : Int32)) + (1 : Int32)) + (1 : Int32))), .val (.ref w_4)] [(.int (4 : Int32)), (.int (((((0 : Int32) + (1 : Int32)) + (1 : Int32)) + (1 : Int32)) + (1 : Int32)))])) _
    refine XS.icmpYes X166.here hx rfl (pc0 := 13) (pc' := 48) rfl (hb hby d2_13) rfl (flt (by decide : ¬ ((((((0 : Int32) + (1 : Int32)) + (1 : Int32)) + (1 : Int32)) + (1 : Int32)) < (4 : Int32)))).2.1 (by decide) (by decide) ?_
    show Steps p.tables e below (T166.setTop (mkF m 48 #[.val (.ref w_3), .val (.ref w_2), .val (.ref w_5), .val (.int (4 : Int32)), .val (.int (((((0 : Int32) + (1 : Int32)) + (1 : Int32)) + (1 : Int32)) + (1 : Int32))), .val (.ref w_4)] [])) _
    refine XS.iconst X166.here hx rfl (hb hby d2_48) ?_
    show Steps p.tables e below (T166.setTop (mkF m 49 #[.val (.ref w_3), .val (.ref w_2), .val (.ref w_5), .val (.int (4 : Int32)), .val (.int (((((0 : Int32) + (1 : Int32)) + (1 : Int32)) + (1 : Int32)) + (1 : Int32))), .val (.ref w_4)] [(.int (1 : Int32))])) _
    exact retN X166 hx (t := .boolean) Bd.returns (by simp) (hb hby d2_49) hr
  · show Q2x7 Z w_1 w_2 w_3 w_4 w_5 k_5 h0 n0 _ T166.heap _
    rw [e166]
    exact ⟨by unfold sp2x7; rfl, N166, rfl⟩
theorem pn_1x7 : plainName "com/example/lucid_locks/lucidlocks/locks/LockMode" = true := by first | (simp [plainName, overriddenIn]; done) | decide +kernel
theorem ef_1x7 (m : MethodId) (w_2 : Addr) (w_3 : Addr) : entryFrame m #[(.ref w_2), (.ref w_3)] 2 = mkF m 0 #[.val (.ref w_2), .val (.ref w_3)] [] := by first | (simp [entryFrame, mkF, argsToLocals, Value.category]; done) | rfl
def sp1x7 (w_3 : Addr) : Value := (.ref w_3)
def Q1x7 (Z : State) (w_1 : Addr) (w_2 : Addr) (w_3 : Addr) (w_4 : Addr) (w_5 : Addr) (k_5 : ClassId) (h0 : Heap) (n0 : Nat) (v : Option Value) (h : Heap) (L : List Loc) : Prop := v = some (sp1x7 w_3) ∧ Fr n0 L ∧ h = h0
set_option maxRecDepth 65536 in
set_option maxHeartbeats 40000000 in
theorem rm1x7 (l : Launch) (Z : State) (a0 : Array Value) (hw : ∀ d ∈ tables_1, d.before a0 Z = true) (ws : List Jvm.Cond) (w_1 : Addr) (w_2 : Addr) (w_3 : Addr) (w_4 : Addr) (w_5 : Addr) (k_5 : ClassId) (hS : StF Z w_1 w_2 w_3 w_4 w_5 k_5) (h0 : Heap) (n0 : Nat) (O0 : Old Z n0 h0) :
    MetFree l Y2 (head1 (Jvm.Cond.code Y2 prog_17_method_6_code 2 (some (.object "com/example/lucid_locks/lucidlocks/locks/LockMode")) :: ws) ({ frames := 2, cells := 0, slots := 0, locals := 30 } : Room)) (fun a U => a = #[(.ref w_2), (.ref w_3)] ∧ Z.Warmed39 U.vm ∧ U.heap = h0) (fun _ _ _ _ _ => True) (fun _ U o U' => ∃ v L, o = .returned v ∧ Q1x7 Z w_1 w_2 w_3 w_4 w_5 k_5 h0 n0 v U'.heap L ∧ FrameEnd U o U' L ({ frames := 2, cells := 0, slots := 0, locals := 30 } : Room).cells ({ frames := 2, cells := 0, slots := 0, locals := 30 } : Room).slots) := by
  refine MetFree.of_bodySF (plainFor_of_name pn_1x7) hisR ?_
  intro p e s m args below meth c s₁ Bd hml0 hP hK
  obtain ⟨rfl, hZ, hh⟩ := hP
  have hx := Bd.exec
  have hby := Bd.bytes
  have hml : c.maxLocals = 2 := hml0
  have hown : s.vm.findClass "com/example/lucid_locks/lucidlocks/locks/LockMode" = some m.cls := findClass_of_methodNamed Bd.named
  have hnm := (name_of_methodNamed Bd.named Bd.method).1
  have X0 : Stand p l e ({ frames := 2, cells := 0, slots := 0, locals := 30 } : Room) s m #[(.ref w_2), (.ref w_3)] below meth c s₁ [] 0 0 := Stand.of_body Bd
  have e0 : s₁.heap = h0 := by rw [← hh, Bd.state]; rfl
  have N0 := Fr.nil n0
  have hS0 := hS
  obtain ⟨S_1, E_1, S_2, E_2, S_3, E_3, S_4, E_4, S_5, F_1_sharedWithItself, F_1_ordinal, F_2_ordinal, F_4_ordinal, F_3_ordinal, F_4_sharedWithItself, F_2_sharedWithItself, F_3_sharedWithItself, V_5⟩ := hS
  have pre0 : ∀ t, Steps p.tables e below (s₁.setTop (mkF m 0 #[.val (.ref w_2), .val (.ref w_3)] [])) t → Steps p.tables e below (s₁.setTop (entryFrame m #[(.ref w_2), (.ref w_3)] 2)) t := fun t k => castTop (ef_1x7 m w_2 w_3) k
  obtain ⟨cq167, kq167, q167a, q167b, q167c⟩ := isOf hZ e0 (E_3.ext O0.2)
  obtain ⟨_, _, ⟨T167, L167, k167, n167⟩, -, X167, ⟨Lc167, hQ167, l167, y167, z167⟩, st167⟩ := X0.virtualBack hx (y := Y1) (z := Y1) hown (mvT hZ (hw _ (tk 17 rfl))) (mvT hZ (hw _ (tk 18 rfl))) (notFace_of_selects (args := #[]) (mvT hZ (hw _ (tk 20 rfl)))) (mvT hZ (hw _ (tk 20 rfl))) (mvT hZ (hw _ (tk 19 rfl))) (by decide) (backOf (W := 0) (rm2x7 l Z a0 hw [] w_1 w_2 w_3 w_4 w_5 k_5 hS0 h0 n0 O0) hZ (hw _ (tk 21 rfl)) (hw _ (tk 3 rfl)) (by decide) (by decide)) q167a q167c (g := (mkF m 2 #[.val (.ref w_2), .val (.ref w_3)] [(.ref w_2), (.ref w_3)])) rfl (by rw [hml]; rfl) (Steps.refl _) (argsL := [(.ref w_2)]) (rest := []) (lenOf pd_0 rfl) rfl (by show 2 * 0 + _ ≤ _; exact Nat.le_of_eq rfl) (hb hby d1_2) (fun _ _ => ⟨rfl, e0, (by decide : 0 + 0 ≤ _), (by decide : 0 + 0 ≤ _)⟩)
  dsimp only [Pt.U, Pt.locs, Pt.cells, Pt.slots] at X167 l167 y167 z167 st167 hQ167
  subst l167 y167 z167
  obtain ⟨rv167, N167q, e167⟩ := hQ167
  rw [show sp2x7 = (1 : Int32) from by unfold sp2x7; rfl] at rv167
  subst rv167
  have N167 := Fr.app N0 N167q
  obtain ⟨fs, hr, hrun, hended, hW, hsame⟩ := X167.leave (v := some (.ref w_3)) (fun h => by rw [Bd.returns] at h; cases h)
  refine ⟨_, _, pre0 _ ?_, hrun, hended, _, _, rfl, ?_, ⟨_, rfl⟩, hW, hsame.mono (by decide) (by decide)⟩
  · show Steps p.tables e below (s₁.setTop (mkF m 0 #[.val (.ref w_2), .val (.ref w_3)] [])) _
    refine XS.aloadN X0.here hx rfl (hb hby d1_0) rfl rfl ?_
    show Steps p.tables e below (s₁.setTop (mkF m 1 #[.val (.ref w_2), .val (.ref w_3)] [(.ref w_3)])) _
    refine XS.aloadN X0.here hx rfl (hb hby d1_1) rfl rfl ?_
    show Steps p.tables e below (s₁.setTop (mkF m 2 #[.val (.ref w_2), .val (.ref w_3)] [(.ref w_2), (.ref w_3)])) _
    refine st167.trans ?_
    show Steps p.tables e below (T167.setTop (mkF m 5 #[.val (.ref w_2), .val (.ref w_3)] [(.int (1 : Int32))])) _
    refine XS.ifNo X167.here hx rfl (hb hby d1_5) rfl ((if0 _ _).trans (feq (by decide : ¬ ((1 : Int32) = (0 : Int32)))).1) ?_
    show Steps p.tables e below (T167.setTop (mkF m 8 #[.val (.ref w_2), .val (.ref w_3)] [])) _
    refine XS.aloadN X167.here hx rfl (hb hby d1_8) rfl rfl ?_
    show Steps p.tables e below (T167.setTop (mkF m 9 #[.val (.ref w_2), .val (.ref w_3)] [(.ref w_3)])) _
    refine XS.goto X167.here hx rfl (pc0 := 9) (pc' := 15) rfl (hb hby d1_9) (by decide) (by decide) ?_
    show Steps p.tables e below (T167.setTop (mkF m 15 #[.val (.ref w_2), .val (.ref w_3)] [(.ref w_3)])) _
    jvm_step X167.here [X167.here.top, hx, (hb hby d1_15), X167.method', Bd.returns, Value.isRef, FieldType.isReference]
    first | (intro acts; rw [hr _ acts rfl rfl rfl]) | rw [hr _ _ rfl rfl rfl]
    exact Steps.refl _
  · show Q1x7 Z w_1 w_2 w_3 w_4 w_5 k_5 h0 n0 _ T167.heap _
    rw [e167]
    exact ⟨by unfold sp1x7; rfl, N167, rfl⟩
theorem pn_2x8 : plainName "com/example/lucid_locks/lucidlocks/locks/LockMode" = true := by first | (simp [plainName, overriddenIn]; done) | decide +kernel
theorem ef_2x8 (m : MethodId) (w_4 : Addr) (w_2 : Addr) : entryFrame m #[(.ref w_4), (.ref w_2)] 6 = mkF m 0 #[.val (.ref w_4), .val (.ref w_2), .unset, .unset, .unset, .unset] [] := by first | (simp [entryFrame, mkF, argsToLocals, Value.category]; done) | rfl
def sp2x8  : Int32 := (1 : Int32)
def Q2x8 (Z : State) (w_1 : Addr) (w_2 : Addr) (w_3 : Addr) (w_4 : Addr) (w_5 : Addr) (k_5 : ClassId) (h0 : Heap) (n0 : Nat) (v : Option Value) (h : Heap) (L : List Loc) : Prop := v = some (.int (sp2x8)) ∧ Fr n0 L ∧ h = h0
set_option maxRecDepth 65536 in
set_option maxHeartbeats 40000000 in
theorem rm2x8 (l : Launch) (Z : State) (a0 : Array Value) (hw : ∀ d ∈ tables_1, d.before a0 Z = true) (ws : List Jvm.Cond) (w_1 : Addr) (w_2 : Addr) (w_3 : Addr) (w_4 : Addr) (w_5 : Addr) (k_5 : ClassId) (hS : StF Z w_1 w_2 w_3 w_4 w_5 k_5) (h0 : Heap) (n0 : Nat) (O0 : Old Z n0 h0) :
    MetFree l Y1 (head1 (Jvm.Cond.code Y1 prog_17_method_7_code 6 (some .boolean) :: ws) ({ frames := 1, cells := 0, slots := 0, locals := 13 } : Room)) (fun a U => a = #[(.ref w_4), (.ref w_2)] ∧ Z.Warmed39 U.vm ∧ U.heap = h0) (fun _ _ _ _ _ => True) (fun _ U o U' => ∃ v L, o = .returned v ∧ Q2x8 Z w_1 w_2 w_3 w_4 w_5 k_5 h0 n0 v U'.heap L ∧ FrameEnd U o U' L ({ frames := 1, cells := 0, slots := 0, locals := 13 } : Room).cells ({ frames := 1, cells := 0, slots := 0, locals := 13 } : Room).slots) := by
  refine MetFree.of_bodySF (plainFor_of_name pn_2x8) hisR ?_
  intro p e s m args below meth c s₁ Bd hml0 hP hK
  obtain ⟨rfl, hZ, hh⟩ := hP
  have hx := Bd.exec
  have hby := Bd.bytes
  have hml : c.maxLocals = 6 := hml0
  have hown : s.vm.findClass "com/example/lucid_locks/lucidlocks/locks/LockMode" = some m.cls := findClass_of_methodNamed Bd.named
  have hnm := (name_of_methodNamed Bd.named Bd.method).1
  have X0 : Stand p l e ({ frames := 1, cells := 0, slots := 0, locals := 13 } : Room) s m #[(.ref w_4), (.ref w_2)] below meth c s₁ [] 0 0 := Stand.of_body Bd
  have e0 : s₁.heap = h0 := by rw [← hh, Bd.state]; rfl
  have N0 := Fr.nil n0
  have hS0 := hS
  obtain ⟨S_1, E_1, S_2, E_2, S_3, E_3, S_4, E_4, S_5, F_1_sharedWithItself, F_1_ordinal, F_2_ordinal, F_4_ordinal, F_3_ordinal, F_4_sharedWithItself, F_2_sharedWithItself, F_3_sharedWithItself, V_5⟩ := hS
  have pre0 : ∀ t, Steps p.tables e below (s₁.setTop (mkF m 0 #[.val (.ref w_4), .val (.ref w_2), .unset, .unset, .unset, .unset] [])) t → Steps p.tables e below (s₁.setTop (entryFrame m #[(.ref w_4), (.ref w_2)] 6)) t := fun t k => castTop (ef_2x8 m w_4 w_2) k
  obtain ⟨T171, X171, e171, st171⟩ := getS2 X0 hx hZ hown (host := "") (Or.inl (hw _ (tk 22 rfl))) Via.refl e0 (S_5.ext O0.2) (g := (mkF m 0 #[.val (.ref w_4), .val (.ref w_2), .unset, .unset, .unset, .unset] [])) rfl (hb hby d2_0)
  obtain ⟨cl172, Ar172, qa172, Sa172, Ma172, Ha172, Ga172⟩ := id (V_5.ext O0.2)
  obtain ⟨cl173, Ar173, qa173, Sa173, Ma173, Ha173, Ga173⟩ := id (V_5.ext O0.2)
  have hin173 : ¬ ((0 : Int32) < 0 ∨ cl173.slots.size ≤ ((0 : Int32)).toNatClampNeg) := by  exact inb_of Sa173 ⟨by decide, by decide⟩
  have hat173 : cl173.slots[((0 : Int32)).toNatClampNeg]? = some (.ref w_1) := Has.at Ha173 hin173 (by rfl)
  obtain ⟨cq174, kq174, q174a, q174b, q174c⟩ := isOf hZ e171 (E_2.ext O0.2)
  obtain ⟨_, _, ⟨T174, L174, k174, n174⟩, -, X174, ⟨Lc174, hQ174, l174, y174, z174⟩, st174⟩ := X171.virtualBack hx (y := Y0) (z := Y0) hown (mvT hZ (hw _ (tk 24 rfl))) (mvT hZ (hw _ (tk 25 rfl))) (notFace_of_selects (args := #[]) (mvT hZ (hw _ (tk 27 rfl)))) (mvT hZ (hw _ (tk 27 rfl))) (mvT hZ (hw _ (tk 26 rfl))) (by decide) (backOf (W := 0) (rm3 l Z a0 hw [] w_1 w_2 w_3 w_4 w_5 k_5 hS0 w_2 w_1 (1 : Int32) h0 n0 O0 (F_2_sharedWithItself.ext O0.2)) hZ (hw _ (tk 28 rfl)) (hw _ (tk 3 rfl)) (by decide) (by decide)) q174a q174c (g := (mkF m 25 #[.val (.ref w_4), .val (.ref w_2), .val (.ref w_5), .val (.int (4 : Int32)), .val (.int (0 : Int32)), .val (.ref w_1)] [(.ref w_1), (.ref w_2)])) rfl (by rw [hml]; rfl) (Steps.refl _) (argsL := [(.ref w_1)]) (rest := []) (lenOf pd_0 rfl) rfl (by show 2 * 0 + _ ≤ _; exact Nat.le_of_eq rfl) (hb hby d2_25) (fun _ _ => ⟨rfl, e171, (by decide : 0 + 0 ≤ _), (by decide : 0 + 0 ≤ _)⟩)
  dsimp only [Pt.U, Pt.locs, Pt.cells, Pt.slots] at X174 l174 y174 z174 st174 hQ174
  subst l174 y174 z174
  obtain ⟨rv174, N174q, e174⟩ := hQ174
  rw [show sp3 w_2 w_1 (1 : Int32) = (1 : Int32) from by unfold sp3; rw [if_neg (Fld.ne F_2_ordinal F_1_ordinal (by decide))]] at rv174
  subst rv174
  have N174 := Fr.app N0 N174q
  obtain ⟨cq175, kq175, q175a, q175b, q175c⟩ := isOf hZ e174 (E_4.ext O0.2)
  obtain ⟨_, _, ⟨T175, L175, k175, n175⟩, -, X175, ⟨Lc175, hQ175, l175, y175, z175⟩, st175⟩ := X174.virtualBack hx (y := Y0) (z := Y0) hown (mvT hZ (hw _ (tk 24 rfl))) (mvT hZ (hw _ (tk 25 rfl))) (notFace_of_selects (args := #[]) (mvT hZ (hw _ (tk 27 rfl)))) (mvT hZ (hw _ (tk 27 rfl))) (mvT hZ (hw _ (tk 26 rfl))) (by decide) (backOf (W := 0) (rm3 l Z a0 hw [] w_1 w_2 w_3 w_4 w_5 k_5 hS0 w_4 w_1 (0 : Int32) h0 n0 O0 (F_4_sharedWithItself.ext O0.2)) hZ (hw _ (tk 28 rfl)) (hw _ (tk 3 rfl)) (by decide) (by decide)) q175a q175c (g := (mkF m 34 #[.val (.ref w_4), .val (.ref w_2), .val (.ref w_5), .val (.int (4 : Int32)), .val (.int (0 : Int32)), .val (.ref w_1)] [(.ref w_1), (.ref w_4)])) rfl (by rw [hml]; rfl) (Steps.refl _) (argsL := [(.ref w_1)]) (rest := []) (lenOf pd_0 rfl) rfl (by show 2 * 0 + _ ≤ _; exact Nat.le_of_eq rfl) (hb hby d2_34) (fun _ _ => ⟨rfl, e174, (by decide : 0 + 0 ≤ _), (by decide : 0 + 0 ≤ _)⟩)
  dsimp only [Pt.U, Pt.locs, Pt.cells, Pt.slots] at X175 l175 y175 z175 st175 hQ175
  subst l175 y175 z175
  obtain ⟨rv175, N175q, e175⟩ := hQ175
  rw [show sp3 w_4 w_1 (0 : Int32) = (1 : Int32) from by unfold sp3; rw [if_neg (Fld.ne F_4_ordinal F_1_ordinal (by decide))]] at rv175
  subst rv175
  have N175 := Fr.app N174 N175q
  obtain ⟨cl176, Ar176, qa176, Sa176, Ma176, Ha176, Ga176⟩ := id (V_5.ext O0.2)
  have hin176 : ¬ (((0 : Int32) + (1 : Int32)) < 0 ∨ cl176.slots.size ≤ (((0 : Int32) + (1 : Int32))).toNatClampNeg) := by  exact inb_of Sa176 ⟨by decide, by decide⟩
  have hat176 : cl176.slots[(((0 : Int32) + (1 : Int32))).toNatClampNeg]? = some (.ref w_2) := Has.at Ha176 hin176 (by rfl)
  obtain ⟨cq177, kq177, q177a, q177b, q177c⟩ := isOf hZ e175 (E_2.ext O0.2)
  obtain ⟨_, _, ⟨T177, L177, k177, n177⟩, -, X177, ⟨Lc177, hQ177, l177, y177, z177⟩, st177⟩ := X175.virtualBack hx (y := Y0) (z := Y0) hown (mvT hZ (hw _ (tk 24 rfl))) (mvT hZ (hw _ (tk 25 rfl))) (notFace_of_selects (args := #[]) (mvT hZ (hw _ (tk 27 rfl)))) (mvT hZ (hw _ (tk 27 rfl))) (mvT hZ (hw _ (tk 26 rfl))) (by decide) (backOf (W := 0) (rm3 l Z a0 hw [] w_1 w_2 w_3 w_4 w_5 k_5 hS0 w_2 w_2 (1 : Int32) h0 n0 O0 (F_2_sharedWithItself.ext O0.2)) hZ (hw _ (tk 28 rfl)) (hw _ (tk 3 rfl)) (by decide) (by decide)) q177a q177c (g := (mkF m 25 #[.val (.ref w_4), .val (.ref w_2), .val (.ref w_5), .val (.int (4 : Int32)), .val (.int ((0 : Int32) + (1 : Int32))), .val (.ref w_2)] [(.ref w_2), (.ref w_2)])) rfl (by rw [hml]; rfl) (Steps.refl _) (argsL := [(.ref w_2)]) (rest := []) (lenOf pd_0 rfl) rfl (by show 2 * 0 + _ ≤ _; exact Nat.le_of_eq rfl) (hb hby d2_25) (fun _ _ => ⟨rfl, e175, (by decide : 0 + 0 ≤ _), (by decide : 0 + 0 ≤ _)⟩)
  dsimp only [Pt.U, Pt.locs, Pt.cells, Pt.slots] at X177 l177 y177 z177 st177 hQ177
  subst l177 y177 z177
  obtain ⟨rv177, N177q, e177⟩ := hQ177
  rw [show sp3 w_2 w_2 (1 : Int32) = (0 : Int32) from by unfold sp3; rw [if_pos rfl, if_neg (by decide : ¬ ((1 : Int32) = (0 : Int32)))]] at rv177
  subst rv177
  have N177 := Fr.app N175 N177q
  obtain ⟨cl178, Ar178, qa178, Sa178, Ma178, Ha178, Ga178⟩ := id (V_5.ext O0.2)
  have hin178 : ¬ ((((0 : Int32) + (1 : Int32)) + (1 : Int32)) < 0 ∨ cl178.slots.size ≤ ((((0 : Int32) + (1 : Int32)) + (1 : Int32))).toNatClampNeg) := by  exact inb_of Sa178 ⟨by decide, by decide⟩
  have hat178 : cl178.slots[((((0 : Int32) + (1 : Int32)) + (1 : Int32))).toNatClampNeg]? = some (.ref w_3) := Has.at Ha178 hin178 (by rfl)
  obtain ⟨cq179, kq179, q179a, q179b, q179c⟩ := isOf hZ e177 (E_2.ext O0.2)
  obtain ⟨_, _, ⟨T179, L179, k179, n179⟩, -, X179, ⟨Lc179, hQ179, l179, y179, z179⟩, st179⟩ := X177.virtualBack hx (y := Y0) (z := Y0) hown (mvT hZ (hw _ (tk 24 rfl))) (mvT hZ (hw _ (tk 25 rfl))) (notFace_of_selects (args := #[]) (mvT hZ (hw _ (tk 27 rfl)))) (mvT hZ (hw _ (tk 27 rfl))) (mvT hZ (hw _ (tk 26 rfl))) (by decide) (backOf (W := 0) (rm3 l Z a0 hw [] w_1 w_2 w_3 w_4 w_5 k_5 hS0 w_2 w_3 (1 : Int32) h0 n0 O0 (F_2_sharedWithItself.ext O0.2)) hZ (hw _ (tk 28 rfl)) (hw _ (tk 3 rfl)) (by decide) (by decide)) q179a q179c (g := (mkF m 25 #[.val (.ref w_4), .val (.ref w_2), .val (.ref w_5), .val (.int (4 : Int32)), .val (.int (((0 : Int32) + (1 : Int32)) + (1 : Int32))), .val (.ref w_3)] [(.ref w_3), (.ref w_2)])) rfl (by rw [hml]; rfl) (Steps.refl _) (argsL := [(.ref w_3)]) (rest := []) (lenOf pd_0 rfl) rfl (by show 2 * 0 + _ ≤ _; exact Nat.le_of_eq rfl) (hb hby d2_25) (fun _ _ => ⟨rfl, e177, (by decide : 0 + 0 ≤ _), (by decide : 0 + 0 ≤ _)⟩)
  dsimp only [Pt.U, Pt.locs, Pt.cells, Pt.slots] at X179 l179 y179 z179 st179 hQ179
  subst l179 y179 z179
  obtain ⟨rv179, N179q, e179⟩ := hQ179
  rw [show sp3 w_2 w_3 (1 : Int32) = (1 : Int32) from by unfold sp3; rw [if_neg (Fld.ne F_2_ordinal F_3_ordinal (by decide))]] at rv179
  subst rv179
  have N179 := Fr.app N177 N179q
  obtain ⟨cq180, kq180, q180a, q180b, q180c⟩ := isOf hZ e179 (E_4.ext O0.2)
  obtain ⟨_, _, ⟨T180, L180, k180, n180⟩, -, X180, ⟨Lc180, hQ180, l180, y180, z180⟩, st180⟩ := X179.virtualBack hx (y := Y0) (z := Y0) hown (mvT hZ (hw _ (tk 24 rfl))) (mvT hZ (hw _ (tk 25 rfl))) (notFace_of_selects (args := #[]) (mvT hZ (hw _ (tk 27 rfl)))) (mvT hZ (hw _ (tk 27 rfl))) (mvT hZ (hw _ (tk 26 rfl))) (by decide) (backOf (W := 0) (rm3 l Z a0 hw [] w_1 w_2 w_3 w_4 w_5 k_5 hS0 w_4 w_3 (0 : Int32) h0 n0 O0 (F_4_sharedWithItself.ext O0.2)) hZ (hw _ (tk 28 rfl)) (hw _ (tk 3 rfl)) (by decide) (by decide)) q180a q180c (g := (mkF m 34 #[.val (.ref w_4), .val (.ref w_2), .val (.ref w_5), .val (.int (4 : Int32)), .val (.int (((0 : Int32) + (1 : Int32)) + (1 : Int32))), .val (.ref w_3)] [(.ref w_3), (.ref w_4)])) rfl (by rw [hml]; rfl) (Steps.refl _) (argsL := [(.ref w_3)]) (rest := []) (lenOf pd_0 rfl) rfl (by show 2 * 0 + _ ≤ _; exact Nat.le_of_eq rfl) (hb hby d2_34) (fun _ _ => ⟨rfl, e179, (by decide : 0 + 0 ≤ _), (by decide : 0 + 0 ≤ _)⟩)
  dsimp only [Pt.U, Pt.locs, Pt.cells, Pt.slots] at X180 l180 y180 z180 st180 hQ180
  subst l180 y180 z180
  obtain ⟨rv180, N180q, e180⟩ := hQ180
  rw [show sp3 w_4 w_3 (0 : Int32) = (1 : Int32) from by unfold sp3; rw [if_neg (Fld.ne F_4_ordinal F_3_ordinal (by decide))]] at rv180
  subst rv180
  have N180 := Fr.app N179 N180q
  obtain ⟨cl181, Ar181, qa181, Sa181, Ma181, Ha181, Ga181⟩ := id (V_5.ext O0.2)
  have hin181 : ¬ (((((0 : Int32) + (1 : Int32)) + (1 : Int32)) + (1 : Int32)) < 0 ∨ cl181.slots.size ≤ (((((0 : Int32) + (1 : Int32)) + (1 : Int32)) + (1 : Int32))).toNatClampNeg) := by  exact inb_of Sa181 ⟨by decide, by decide⟩
  have hat181 : cl181.slots[(((((0 : Int32) + (1 : Int32)) + (1 : Int32)) + (1 : Int32))).toNatClampNeg]? = some (.ref w_4) := Has.at Ha181 hin181 (by rfl)
  obtain ⟨cq182, kq182, q182a, q182b, q182c⟩ := isOf hZ e180 (E_2.ext O0.2)
  obtain ⟨_, _, ⟨T182, L182, k182, n182⟩, -, X182, ⟨Lc182, hQ182, l182, y182, z182⟩, st182⟩ := X180.virtualBack hx (y := Y0) (z := Y0) hown (mvT hZ (hw _ (tk 24 rfl))) (mvT hZ (hw _ (tk 25 rfl))) (notFace_of_selects (args := #[]) (mvT hZ (hw _ (tk 27 rfl)))) (mvT hZ (hw _ (tk 27 rfl))) (mvT hZ (hw _ (tk 26 rfl))) (by decide) (backOf (W := 0) (rm3 l Z a0 hw [] w_1 w_2 w_3 w_4 w_5 k_5 hS0 w_2 w_4 (1 : Int32) h0 n0 O0 (F_2_sharedWithItself.ext O0.2)) hZ (hw _ (tk 28 rfl)) (hw _ (tk 3 rfl)) (by decide) (by decide)) q182a q182c (g := (mkF m 25 #[.val (.ref w_4), .val (.ref w_2), .val (.ref w_5), .val (.int (4 : Int32)), .val (.int ((((0 : Int32) + (1 : Int32)) + (1 : Int32)) + (1 : Int32))), .val (.ref w_4)] [(.ref w_4), (.ref w_2)])) rfl (by rw [hml]; rfl) (Steps.refl _) (argsL := [(.ref w_4)]) (rest := []) (lenOf pd_0 rfl) rfl (by show 2 * 0 + _ ≤ _; exact Nat.le_of_eq rfl) (hb hby d2_25) (fun _ _ => ⟨rfl, e180, (by decide : 0 + 0 ≤ _), (by decide : 0 + 0 ≤ _)⟩)
  dsimp only [Pt.U, Pt.locs, Pt.cells, Pt.slots] at X182 l182 y182 z182 st182 hQ182
  subst l182 y182 z182
  obtain ⟨rv182, N182q, e182⟩ := hQ182
  rw [show sp3 w_2 w_4 (1 : Int32) = (1 : Int32) from by unfold sp3; rw [if_neg (Fld.ne F_2_ordinal F_4_ordinal (by decide))]] at rv182
  subst rv182
  have N182 := Fr.app N180 N182q
  obtain ⟨cq183, kq183, q183a, q183b, q183c⟩ := isOf hZ e182 (E_4.ext O0.2)
  obtain ⟨_, _, ⟨T183, L183, k183, n183⟩, -, X183, ⟨Lc183, hQ183, l183, y183, z183⟩, st183⟩ := X182.virtualBack hx (y := Y0) (z := Y0) hown (mvT hZ (hw _ (tk 24 rfl))) (mvT hZ (hw _ (tk 25 rfl))) (notFace_of_selects (args := #[]) (mvT hZ (hw _ (tk 27 rfl)))) (mvT hZ (hw _ (tk 27 rfl))) (mvT hZ (hw _ (tk 26 rfl))) (by decide) (backOf (W := 0) (rm3 l Z a0 hw [] w_1 w_2 w_3 w_4 w_5 k_5 hS0 w_4 w_4 (0 : Int32) h0 n0 O0 (F_4_sharedWithItself.ext O0.2)) hZ (hw _ (tk 28 rfl)) (hw _ (tk 3 rfl)) (by decide) (by decide)) q183a q183c (g := (mkF m 34 #[.val (.ref w_4), .val (.ref w_2), .val (.ref w_5), .val (.int (4 : Int32)), .val (.int ((((0 : Int32) + (1 : Int32)) + (1 : Int32)) + (1 : Int32))), .val (.ref w_4)] [(.ref w_4), (.ref w_4)])) rfl (by rw [hml]; rfl) (Steps.refl _) (argsL := [(.ref w_4)]) (rest := []) (lenOf pd_0 rfl) rfl (by show 2 * 0 + _ ≤ _; exact Nat.le_of_eq rfl) (hb hby d2_34) (fun _ _ => ⟨rfl, e182, (by decide : 0 + 0 ≤ _), (by decide : 0 + 0 ≤ _)⟩)
  dsimp only [Pt.U, Pt.locs, Pt.cells, Pt.slots] at X183 l183 y183 z183 st183 hQ183
  subst l183 y183 z183
  obtain ⟨rv183, N183q, e183⟩ := hQ183
  rw [show sp3 w_4 w_4 (0 : Int32) = (1 : Int32) from by unfold sp3; rw [if_pos rfl, if_pos (by decide : ((0 : Int32) = (0 : Int32)))]] at rv183
  subst rv183
  have N183 := Fr.app N182 N183q
  obtain ⟨fs, hr, hrun, hended, hW, hsame⟩ := X183.leave (v := some (.int (1 : Int32))) (fun h => by rw [Bd.returns] at h; cases h)
  refine ⟨_, _, pre0 _ ?_, hrun, hended, _, _, rfl, ?_, ⟨_, rfl⟩, hW, hsame.mono (by decide) (by decide)⟩
  · show Steps p.tables e below (s₁.setTop (mkF m 0 #[.val (.ref w_4), .val (.ref w_2), .unset, .unset, .unset, .unset] [])) _
    refine st171 _ ?_
    show Steps p.tables e below (T171.setTop (mkF m 3 #[.val (.ref w_4), .val (.ref w_2), .unset, .unset, .unset, .unset] [(.ref w_5)])) _
    refine XS.astoreN X171.here hx rfl (hb hby d2_3) rfl rfl (l' := #[.val (.ref w_4), .val (.ref w_2), .val (.ref w_5), .unset, .unset, .unset]) rfl ?_
    show Steps p.tables e below (T171.setTop (mkF m 4 #[.val (.ref w_4), .val (.ref w_2), .val (.ref w_5), .unset, .unset, .unset] [])) _
    refine XS.aloadN X171.here hx rfl (hb hby d2_4) rfl rfl ?_
    show Steps p.tables e below (T171.setTop (mkF m 5 #[.val (.ref w_4), .val (.ref w_2), .val (.ref w_5), .unset, .unset, .unset] [(.ref w_5)])) _
    refine X171.arraylength hx (by rw [e171]; exact Ar172.1) (State.isArrayOf_alike hZ.alike Ar172.2.1) (g := (mkF m 5 #[.val (.ref w_4), .val (.ref w_2), .val (.ref w_5), .unset, .unset, .unset] [(.ref w_5)])) rfl rfl (hb hby d2_5) _ ?_
    rw [len_of Sa172 Ma172]
    show Steps p.tables e below (T171.setTop (mkF m 6 #[.val (.ref w_4), .val (.ref w_2), .val (.ref w_5), .unset, .unset, .unset] [(.int (4 : Int32))])) _
    refine XS.istoreN X171.here hx rfl (hb hby d2_6) rfl (l' := #[.val (.ref w_4), .val (.ref w_2), .val (.ref w_5), .val (.int (4 : Int32)), .unset, .unset]) rfl ?_
    show Steps p.tables e below (T171.setTop (mkF m 7 #[.val (.ref w_4), .val (.ref w_2), .val (.ref w_5), .val (.int (4 : Int32)), .unset, .unset] [])) _
    refine XS.iconst X171.here hx rfl (hb hby d2_7) ?_
    show Steps p.tables e below (T171.setTop (mkF m 8 #[.val (.ref w_4), .val (.ref w_2), .val (.ref w_5), .val (.int (4 : Int32)), .unset, .unset] [(.int (0 : Int32))])) _
    refine XS.istore X171.here hx rfl (hb hby d2_8) rfl (l' := #[.val (.ref w_4), .val (.ref w_2), .val (.ref w_5), .val (.int (4 : Int32)), .val (.int (0 : Int32)), .unset]) rfl ?_
    show Steps p.tables e below (T171.setTop (mkF m 10 #[.val (.ref w_4), .val (.ref w_2), .val (.ref w_5), .val (.int (4 : Int32)), .val (.int (0 : Int32)), .unset] [])) _
    refine XS.iload X171.here hx rfl (hb hby d2_10) rfl ?_
    show Steps p.tables e below (T171.setTop (mkF m 12 #[.val (.ref w_4), .val (.ref w_2), .val (.ref w_5), .val (.int (4 : Int32)), .val (.int (0 : Int32)), .unset] [(.int (0 : Int32))])) _
    refine XS.iloadN X171.here hx rfl (hb hby d2_12) rfl ?_
    show Steps p.tables e below (T171.setTop (mkF m 13 #[.val (.ref w_4), .val (.ref w_2), .val (.ref w_5), .val (.int (4 : Int32)), .val (.int (0 : Int32)), .unset] [(.int (4 : Int32)), (.int (0 : Int32))])) _
    refine XS.icmpNo X171.here hx rfl (hb hby d2_13) rfl (tlt (by decide : ((0 : Int32) < (4 : Int32)))).2.1 ?_
    show Steps p.tables e below (T171.setTop (mkF m 16 #[.val (.ref w_4), .val (.ref w_2), .val (.ref w_5), .val (.int (4 : Int32)), .val (.int (0 : Int32)), .unset] [])) _
    refine XS.aloadN X171.here hx rfl (hb hby d2_16) rfl rfl ?_
    show Steps p.tables e below (T171.setTop (mkF m 17 #[.val (.ref w_4), .val (.ref w_2), .val (.ref w_5), .val (.int (4 : Int32)), .val (.int (0 : Int32)), .unset] [(.ref w_5)])) _
    refine XS.iload X171.here hx rfl (hb hby d2_17) rfl ?_
    show Steps p.tables e below (T171.setTop (mkF m 19 #[.val (.ref w_4), .val (.ref w_2), .val (.ref w_5), .val (.int (4 : Int32)), .val (.int (0 : Int32)), .unset] [(.int (0 : Int32)), (.ref w_5)])) _
    refine X171.aaload hx (j := (0 : Int32)) (v := (.ref w_1)) (by rw [e171]; exact Ar173.1) (State.isArrayOf_alike hZ.alike Ar173.2.1) rfl Ar173.2.2 hin173 hat173 (g := (mkF m 19 #[.val (.ref w_4), .val (.ref w_2), .val (.ref w_5), .val (.int (4 : Int32)), .val (.int (0 : Int32)), .unset] [(.int (0 : Int32)), (.ref w_5)])) rfl rfl (hb hby d2_19) _ ?_
    show Steps p.tables e below (T171.setTop (mkF m 20 #[.val (.ref w_4), .val (.ref w_2), .val (.ref w_5), .val (.int (4 : Int32)), .val (.int (0 : Int32)), .unset] [(.ref w_1)])) _
    refine XS.astore X171.here hx rfl (hb hby d2_20) rfl rfl (l' := #[.val (.ref w_4), .val (.ref w_2), .val (.ref w_5), .val (.int (4 : Int32)), .val (.int (0 : Int32)), .val (.ref w_1)]) rfl ?_
    show Steps p.tables e below (T171.setTop (mkF m 22 #[.val (.ref w_4), .val (.ref w_2), .val (.ref w_5), .val (.int (4 : Int32)), .val (.int (0 : Int32)), .val (.ref w_1)] [])) _
    refine XS.aloadN X171.here hx rfl (hb hby d2_22) rfl rfl ?_
    show Steps p.tables e below (T171.setTop (mkF m 23 #[.val (.ref w_4), .val (.ref w_2), .val (.ref w_5), .val (.int (4 : Int32)), .val (.int (0 : Int32)), .val (.ref w_1)] [(.ref w_2)])) _
    refine XS.aload X171.here hx rfl (hb hby d2_23) rfl rfl ?_
    show Steps p.tables e below (T171.setTop (mkF m 25 #[.val (.ref w_4), .val (.ref w_2), .val (.ref w_5), .val (.int (4 : Int32)), .val (.int (0 : Int32)), .val (.ref w_1)] [(.ref w_1), (.ref w_2)])) _
    refine st174.trans ?_
    show Steps p.tables e below (T174.setTop (mkF m 28 #[.val (.ref w_4), .val (.ref w_2), .val (.ref w_5), .val (.int (4 : Int32)), .val (.int (0 : Int32)), .val (.ref w_1)] [(.int (1 : Int32))])) _
    refine XS.ifNo X174.here hx rfl (hb hby d2_28) rfl ((if0 _ _).trans (feq (by decide : ¬ ((1 : Int32) = (0 : Int32)))).1) ?_
    show Steps p.tables e below (T174.setTop (mkF m 31 #[.val (.ref w_4), .val (.ref w_2), .val (.ref w_5), .val (.int (4 : Int32)), .val (.int (0 : Int32)), .val (.ref w_1)] [])) _
    refine XS.aloadN X174.here hx rfl (hb hby d2_31) rfl rfl ?_
    show Steps p.tables e below (T174.setTop (mkF m 32 #[.val (.ref w_4), .val (.ref w_2), .val (.ref w_5), .val (.int (4 : Int32)), .val (.int (0 : Int32)), .val (.ref w_1)] [(.ref w_4)])) _
    refine XS.aload X174.here hx rfl (hb hby d2_32) rfl rfl ?_
    show Steps p.tables e below (T174.setTop (mkF m 34 #[.val (.ref w_4), .val (.ref w_2), .val (.ref w_5), .val (.int (4 : Int32)), .val (.int (0 : Int32)), .val (.ref w_1)] [(.ref w_1), (.ref w_4)])) _
    refine st175.trans ?_
    show Steps p.tables e below (T175.setTop (mkF m 37 #[.val (.ref w_4), .val (.ref w_2), .val (.ref w_5), .val (.int (4 : Int32)), .val (.int (0 : Int32)), .val (.ref w_1)] [(.int (1 : Int32))])) _
    refine XS.ifYes X175.here hx rfl (pc0 := 37) (pc' := 42) rfl (hb hby d2_37) rfl ((if0 _ _).trans (feq (by decide : ¬ ((1 : Int32) = (0 : Int32)))).2) (by decide) (by decide) ?_
    show Steps p.tables e below (T175.setTop (mkF m 42 #[.val (.ref w_4), .val (.ref w_2), .val (.ref w_5), .val (.int (4 : Int32)), .val (.int (0 : Int32)), .val (.ref w_1)] [])) _
    refine XS.iinc X175.here hx rfl (hb hby d2_42) rfl (l' := #[.val (.ref w_4), .val (.ref w_2), .val (.ref w_5), .val (.int (4 : Int32)), .val (.int ((0 : Int32) + (1 : Int32))), .val (.ref w_1)]) rfl ?_
    show Steps p.tables e below (T175.setTop (mkF m 45 #[.val (.ref w_4), .val (.ref w_2), .val (.ref w_5), .val (.int (4 : Int32)), .val (.int ((0 : Int32) + (1 : Int32))), .val (.ref w_1)] [])) _
    refine XS.goto X175.here hx rfl (pc0 := 45) (pc' := 10) rfl (hb hby d2_45) (by decide) (by decide) ?_
    show Steps p.tables e below (T175.setTop (mkF m 10 #[.val (.ref w_4), .val (.ref w_2), .val (.ref w_5), .val (.int (4 : Int32)), .val (.int ((0 : Int32) + (1 : Int32))), .val (.ref w_1)] [])) _
    refine XS.iload X175.here hx rfl (hb hby d2_10) rfl ?_
    show Steps p.tables e below (T175.setTop (mkF m 12 #[.val (.ref w_4), .val (.ref w_2), .val (.ref w_5), .val (.int (4 : Int32)), .val (.int ((0 : Int32) + (1 : Int32))), .val (.ref w_1)] [(.int ((0 : Int32) + (1 : Int32)))])) _
    refine XS.iloadN X175.here hx rfl (hb hby d2_12) rfl ?_
    show Steps p.tables e below (T175.setTop (mkF m 13 #[.val (.ref w_4), .val (.ref w_2), .val (.ref w_5), .val (.int (4 : Int32)), .val (.int ((0 : Int32) + (1 : Int32))), .val (.ref w_1)] [(.int (4 : Int32)), (.int ((0 : Int32) + (1 : Int32)))])) _
    refine XS.icmpNo X175.here hx rfl (hb hby d2_13) rfl (tlt (by decide : (((0 : Int32) + (1 : Int32)) < (4 : Int32)))).2.1 ?_
    show Steps p.tables e below (T175.setTop (mkF m 16 #[.val (.ref w_4), .val (.ref w_2), .val (.ref w_5), .val (.int (4 : Int32)), .val (.int ((0 : Int32) + (1 : Int32))), .val (.ref w_1)] [])) _
    refine XS.aloadN X175.here hx rfl (hb hby d2_16) rfl rfl ?_
    show Steps p.tables e below (T175.setTop (mkF m 17 #[.val (.ref w_4), .val (.ref w_2), .val (.ref w_5), .val (.int (4 : Int32)), .val (.int ((0 : Int32) + (1 : Int32))), .val (.ref w_1)] [(.ref w_5)])) _
    refine XS.iload X175.here hx rfl (hb hby d2_17) rfl ?_
    show Steps p.tables e below (T175.setTop (mkF m 19 #[.val (.ref w_4), .val (.ref w_2), .val (.ref w_5), .val (.int (4 : Int32)), .val (.int ((0 : Int32) + (1 : Int32))), .val (.ref w_1)] [(.int ((0 : Int32) + (1 : Int32))), (.ref w_5)])) _
    refine X175.aaload hx (j := ((0 : Int32) + (1 : Int32))) (v := (.ref w_2)) (by rw [e175]; exact Ar176.1) (State.isArrayOf_alike hZ.alike Ar176.2.1) rfl Ar176.2.2 hin176 hat176 (g := (mkF m 19 #[.val (.ref w_4), .val (.ref w_2), .val (.ref w_5), .val (.int (4 : Int32)), .val (.int ((0 : Int32) + (1 : Int32))), .val (.ref w_1)] [(.int ((0 : Int32) + (1 : Int32))), (.ref w_5)])) rfl rfl (hb hby d2_19) _ ?_
    show Steps p.tables e below (T175.setTop (mkF m 20 #[.val (.ref w_4), .val (.ref w_2), .val (.ref w_5), .val (.int (4 : Int32)), .val (.int ((0 : Int32) + (1 : Int32))), .val (.ref w_1)] [(.ref w_2)])) _
    refine XS.astore X175.here hx rfl (hb hby d2_20) rfl rfl (l' := #[.val (.ref w_4), .val (.ref w_2), .val (.ref w_5), .val (.int (4 : Int32)), .val (.int ((0 : Int32) + (1 : Int32))), .val (.ref w_2)]) rfl ?_
    show Steps p.tables e below (T175.setTop (mkF m 22 #[.val (.ref w_4), .val (.ref w_2), .val (.ref w_5), .val (.int (4 : Int32)), .val (.int ((0 : Int32) + (1 : Int32))), .val (.ref w_2)] [])) _
    refine XS.aloadN X175.here hx rfl (hb hby d2_22) rfl rfl ?_
    show Steps p.tables e below (T175.setTop (mkF m 23 #[.val (.ref w_4), .val (.ref w_2), .val (.ref w_5), .val (.int (4 : Int32)), .val (.int ((0 : Int32) + (1 : Int32))), .val (.ref w_2)] [(.ref w_2)])) _
    refine XS.aload X175.here hx rfl (hb hby d2_23) rfl rfl ?_
    show Steps p.tables e below (T175.setTop (mkF m 25 #[.val (.ref w_4), .val (.ref w_2), .val (.ref w_5), .val (.int (4 : Int32)), .val (.int ((0 : Int32) + (1 : Int32))), .val (.ref w_2)] [(.ref w_2), (.ref w_2)])) _
    refine st177.trans ?_
    show Steps p.tables e below (T177.setTop (mkF m 28 #[.val (.ref w_4), .val (.ref w_2), .val (.ref w_5), .val (.int (4 : Int32)), .val (.int ((0 : Int32) + (1 : Int32))), .val (.ref w_2)] [(.int (0 : Int32))])) _
    refine XS.ifYes X177.here hx rfl (pc0 := 28) (pc' := 42) rfl (hb hby d2_28) rfl ((if0 _ _).trans (teq (by decide : ((0 : Int32) = (0 : Int32)))).1) (by decide) (by decide) ?_
    show Steps p.tables e below (T177.setTop (mkF m 42 #[.val (.ref w_4), .val (.ref w_2), .val (.ref w_5), .val (.int (4 : Int32)), .val (.int ((0 : Int32) + (1 : Int32))), .val (.ref w_2)] [])) _
    refine XS.iinc X177.here hx rfl (hb hby d2_42) rfl (l' := #[.val (.ref w_4), .val (.ref w_2), .val (.ref w_5), .val (.int (4 : Int32)), .val (.int (((0 : Int32) + (1 : Int32)) + (1 : Int32))), .val (.ref w_2)]) rfl ?_
    show Steps p.tables e below (T177.setTop (mkF m 45 #[.val (.ref w_4), .val (.ref w_2), .val (.ref w_5), .val (.int (4 : Int32)), .val (.int (((0 : Int32) + (1 : Int32)) + (1 : Int32))), .val (.ref w_2)] [])) _
    refine XS.goto X177.here hx rfl (pc0 := 45) (pc' := 10) rfl (hb hby d2_45) (by decide) (by decide) ?_
    show Steps p.tables e below (T177.setTop (mkF m 10 #[.val (.ref w_4), .val (.ref w_2), .val (.ref w_5), .val (.int (4 : Int32)), .val (.int (((0 : Int32) + (1 : Int32)) + (1 : Int32))), .val (.ref w_2)] [])) _
    refine XS.iload X177.here hx rfl (hb hby d2_10) rfl ?_
    show Steps p.tables e below (T177.setTop (mkF m 12 #[.val (.ref w_4), .val (.ref w_2), .val (.ref w_5), .val (.int (4 : Int32)), .val (.int (((0 : Int32) + (1 : Int32)) + (1 : Int32))), .val (.ref w_2)] [(.int (((0 : Int32) + (1 : Int32)) + (1 : Int32)))])) _
    refine XS.iloadN X177.here hx rfl (hb hby d2_12) rfl ?_
    show Steps p.tables e below (T177.setTop (mkF m 13 #[.val (.ref w_4), .val (.ref w_2), .val (.ref w_5), .val (.int (4 : Int32)), .val (.int (((0 : Int32) + (1 : Int32)) + (1 : Int32))), .val (.ref w_2)] [(.int (4 : Int32)), (.int (((0 : Int32) + (1 : Int32)) + (1 : Int32)))])) _
    refine XS.icmpNo X177.here hx rfl (hb hby d2_13) rfl (tlt (by decide : ((((0 : Int32) + (1 : Int32)) + (1 : Int32)) < (4 : Int32)))).2.1 ?_
    show Steps p.tables e below (T177.setTop (mkF m 16 #[.val (.ref w_4), .val (.ref w_2), .val (.ref w_5), .val (.int (4 : Int32)), .val (.int (((0 : Int32) + (1 : Int32)) + (1 : Int32))), .val (.ref w_2)] [])) _
    refine XS.aloadN X177.here hx rfl (hb hby d2_16) rfl rfl ?_
    show Steps p.tables e below (T177.setTop (mkF m 17 #[.val (.ref w_4), .val (.ref w_2), .val (.ref w_5), .val (.int (4 : Int32)), .val (.int (((0 : Int32) + (1 : Int32)) + (1 : Int32))), .val (.ref w_2)] [(.ref w_5)])) _
    refine XS.iload X177.here hx rfl (hb hby d2_17) rfl ?_
    show Steps p.tables e below (T177.setTop (mkF m 19 #[.val (.ref w_4), .val (.ref w_2), .val (.ref w_5), .val (.int (4 : Int32)), .val (.int (((0 : Int32) + (1 : Int32)) + (1 : Int32))), .val (.ref w_2)] [(.int (((0 : Int32) + (1 : Int32)) + (1 : Int32))), (.ref w_5)])) _
    refine X177.aaload hx (j := (((0 : Int32) + (1 : Int32)) + (1 : Int32))) (v := (.ref w_3)) (by rw [e177]; exact Ar178.1) (State.isArrayOf_alike hZ.alike Ar178.2.1) rfl Ar178.2.2 hin178 hat178 (g := (mkF m 19 #[.val (.ref w_4), .val (.ref w_2), .val (.ref w_5), .val (.int (4 : Int32)), .val (.int (((0 : Int32) + (1 : Int32)) + (1 : Int32))), .val (.ref w_2)] [(.int (((0 : Int32) + (1 : Int32)) + (1 : Int32))), (.ref w_5)])) rfl rfl (hb hby d2_19) _ ?_
    show Steps p.tables e below (T177.setTop (mkF m 20 #[.val (.ref w_4), .val (.ref w_2), .val (.ref w_5), .val (.int (4 : Int32)), .val (.int (((0 : Int32) + (1 : Int32)) + (1 : Int32))), .val (.ref w_2)] [(.ref w_3)])) _
    refine XS.astore X177.here hx rfl (hb hby d2_20) rfl rfl (l' := #[.val (.ref w_4), .val (.ref w_2), .val (.ref w_5), .val (.int (4 : Int32)), .val (.int (((0 : Int32) + (1 : Int32)) + (1 : Int32))), .val (.ref w_3)]) rfl ?_
    show Steps p.tables e below (T177.setTop (mkF m 22 #[.val (.ref w_4), .val (.ref w_2), .val (.ref w_5), .val (.int (4 : Int32)), .val (.int (((0 : Int32) + (1 : Int32)) + (1 : Int32))), .val (.ref w_3)] [])) _
    refine XS.aloadN X177.here hx rfl (hb hby d2_22) rfl rfl ?_
    show Steps p.tables e below (T177.setTop (mkF m 23 #[.val (.ref w_4), .val (.ref w_2), .val (.ref w_5), .val (.int (4 : Int32)), .val (.int (((0 : Int32) + (1 : Int32)) + (1 : Int32))), .val (.ref w_3)] [(.ref w_2)])) _
    refine XS.aload X177.here hx rfl (hb hby d2_23) rfl rfl ?_
    show Steps p.tables e below (T177.setTop (mkF m 25 #[.val (.ref w_4), .val (.ref w_2), .val (.ref w_5), .val (.int (4 : Int32)), .val (.int (((0 : Int32) + (1 : Int32)) + (1 : Int32))), .val (.ref w_3)] [(.ref w_3), (.ref w_2)])) _
    refine st179.trans ?_
    show Steps p.tables e below (T179.setTop (mkF m 28 #[.val (.ref w_4), .val (.ref w_2), .val (.ref w_5), .val (.int (4 : Int32)), .val (.int (((0 : Int32) + (1 : Int32)) + (1 : Int32))), .val (.ref w_3)] [(.int (1 : Int32))])) _
    refine XS.ifNo X179.here hx rfl (hb hby d2_28) rfl ((if0 _ _).trans (feq (by decide : ¬ ((1 : Int32) = (0 : Int32)))).1) ?_
    show Steps p.tables e below (T179.setTop (mkF m 31 #[.val (.ref w_4), .val (.ref w_2), .val (.ref w_5), .val (.int (4 : Int32)), .val (.int (((0 : Int32) + (1 : Int32)) + (1 : Int32))), .val (.ref w_3)] [])) _
    refine XS.aloadN X179.here hx rfl (hb hby d2_31) rfl rfl ?_
    show Steps p.tables e below (T179.setTop (mkF m 32 #[.val (.ref w_4), .val (.ref w_2), .val (.ref w_5), .val (.int (4 : Int32)), .val (.int (((0 : Int32) + (1 : Int32)) + (1 : Int32))), .val (.ref w_3)] [(.ref w_4)])) _
    refine XS.aload X179.here hx rfl (hb hby d2_32) rfl rfl ?_
    show Steps p.tables e below (T179.setTop (mkF m 34 #[.val (.ref w_4), .val (.ref w_2), .val (.ref w_5), .val (.int (4 : Int32)), .val (.int (((0 : Int32) + (1 : Int32)) + (1 : Int32))), .val (.ref w_3)] [(.ref w_3), (.ref w_4)])) _
    refine st180.trans ?_
    show Steps p.tables e below (T180.setTop (mkF m 37 #[.val (.ref w_4), .val (.ref w_2), .val (.ref w_5), .val (.int (4 : Int32)), .val (.int (((0 : Int32) + (1 : Int32)) + (1 : Int32))), .val (.ref w_3)] [(.int (1 : Int32))])) _
    refine XS.ifYes X180.here hx rfl (pc0 := 37) (pc' := 42) rfl (hb hby d2_37) rfl ((if0 _ _).trans (feq (by decide : ¬ ((1 : Int32) = (0 : Int32)))).2) (by decide) (by decide) ?_
    show Steps p.tables e below (T180.setTop (mkF m 42 #[.val (.ref w_4), .val (.ref w_2), .val (.ref w_5), .val (.int (4 : Int32)), .val (.int (((0 : Int32) + (1 : Int32)) + (1 : Int32))), .val (.ref w_3)] [])) _
    refine XS.iinc X180.here hx rfl (hb hby d2_42) rfl (l' := #[.val (.ref w_4), .val (.ref w_2), .val (.ref w_5), .val (.int (4 : Int32)), .val (.int ((((0 : Int32) + (1 : Int32)) + (1 : Int32)) + (1 : Int32))), .val (.ref w_3)]) rfl ?_
    show Steps p.tables e below (T180.setTop (mkF m 45 #[.val (.ref w_4), .val (.ref w_2), .val (.ref w_5), .val (.int (4 : Int32)), .val (.int ((((0 : Int32) + (1 : Int32)) + (1 : Int32)) + (1 : Int32))), .val (.ref w_3)] [])) _
    refine XS.goto X180.here hx rfl (pc0 := 45) (pc' := 10) rfl (hb hby d2_45) (by decide) (by decide) ?_
    show Steps p.tables e below (T180.setTop (mkF m 10 #[.val (.ref w_4), .val (.ref w_2), .val (.ref w_5), .val (.int (4 : Int32)), .val (.int ((((0 : Int32) + (1 : Int32)) + (1 : Int32)) + (1 : Int32))), .val (.ref w_3)] [])) _
    refine XS.iload X180.here hx rfl (hb hby d2_10) rfl ?_
    show Steps p.tables e below (T180.setTop (mkF m 12 #[.val (.ref w_4), .val (.ref w_2), .val (.ref w_5), .val (.int (4 : Int32)), .val (.int ((((0 : Int32) + (1 : Int32)) + (1 : Int32)) + (1 : Int32))), .val (.ref w_3)] [(.int ((((0 : Int32) + (1 : Int32)) + (1 : Int32)) + (1 : Int32)))])) _
    refine XS.iloadN X180.here hx rfl (hb hby d2_12) rfl ?_
    show Steps p.tables e below (T180.setTop (mkF m 13 #[.val (.ref w_4), .val (.ref w_2), .val (.ref w_5), .val (.int (4 : Int32)), .val (.int ((((0 : Int32) + (1 : Int32)) + (1 : Int32)) + (1 : Int32))), .val (.ref w_3)] [(.int (4 : Int32)), (.int ((((0 : Int32) + (1 : Int32)) + (1 : Int32)) + (1 : Int32)))])) _
    refine XS.icmpNo X180.here hx rfl (hb hby d2_13) rfl (tlt (by decide : (((((0 : Int32) + (1 : Int32)) + (1 : Int32)) + (1 : Int32)) < (4 : Int32)))).2.1 ?_
    show Steps p.tables e below (T180.setTop (mkF m 16 #[.val (.ref w_4), .val (.ref w_2), .val (.ref w_5), .val (.int (4 : Int32)), .val (.int ((((0 : Int32) + (1 : Int32)) + (1 : Int32)) + (1 : Int32))), .val (.ref w_3)] [])) _
    refine XS.aloadN X180.here hx rfl (hb hby d2_16) rfl rfl ?_
    show Steps p.tables e below (T180.setTop (mkF m 17 #[.val (.ref w_4), .val (.ref w_2), .val (.ref w_5), .val (.int (4 : Int32)), .val (.int ((((0 : Int32) + (1 : Int32)) + (1 : Int32)) + (1 : Int32))), .val (.ref w_3)] [(.ref w_5)])) _
    refine XS.iload X180.here hx rfl (hb hby d2_17) rfl ?_
    show Steps p.tables e below (T180.setTop (mkF m 19 #[.val (.ref w_4), .val (.ref w_2), .val (.ref w_5), .val (.int (4 : Int32)), .val (.int ((((0 : Int32) + (1 : Int32)) + (1 : Int32)) + (1 : Int32))), .val (.ref w_3)] [(.int ((((0 : Int32) + (1 : Int32)) + (1 : Int32)) + (1 : Int32))), (.ref w_5)])) _
    refine X180.aaload hx (j := ((((0 : Int32) + (1 : Int32)) + (1 : Int32)) + (1 : Int32))) (v := (.ref w_4)) (by rw [e180]; exact Ar181.1) (State.isArrayOf_alike hZ.alike Ar181.2.1) rfl Ar181.2.2 hin181 hat181 (g := (mkF m 19 #[.val (.ref w_4), .val (.ref w_2), .val (.ref w_5), .val (.int (4 : Int32)), .val (.int ((((0 : Int32) + (1 : Int32)) + (1 : Int32)) + (1 : Int32))), .val (.ref w_3)] [(.int ((((0 : Int32) + (1 : Int32)) + (1 : Int32)) + (1 : Int32))), (.ref w_5)])) rfl rfl (hb hby d2_19) _ ?_
    show Steps p.tables e below (T180.setTop (mkF m 20 #[.val (.ref w_4), .val (.ref w_2), .val (.ref w_5), .val (.int (4 : Int32)), .val (.int ((((0 : Int32) + (1 : Int32)) + (1 : Int32)) + (1 : Int32))), .val (.ref w_3)] [(.ref w_4)])) _
    refine XS.astore X180.here hx rfl (hb hby d2_20) rfl rfl (l' := #[.val (.ref w_4), .val (.ref w_2), .val (.ref w_5), .val (.int (4 : Int32)), .val (.int ((((0 : Int32) + (1 : Int32)) + (1 : Int32)) + (1 : Int32))), .val (.ref w_4)]) rfl ?_
    show Steps p.tables e below (T180.setTop (mkF m 22 #[.val (.ref w_4), .val (.ref w_2), .val (.ref w_5), .val (.int (4 : Int32)), .val (.int ((((0 : Int32) + (1 : Int32)) + (1 : Int32)) + (1 : Int32))), .val (.ref w_4)] [])) _
    refine XS.aloadN X180.here hx rfl (hb hby d2_22) rfl rfl ?_
    show Steps p.tables e below (T180.setTop (mkF m 23 #[.val (.ref w_4), .val (.ref w_2), .val (.ref w_5), .val (.int (4 : Int32)), .val (.int ((((0 : Int32) + (1 : Int32)) + (1 : Int32)) + (1 : Int32))), .val (.ref w_4)] [(.ref w_2)])) _
    refine XS.aload X180.here hx rfl (hb hby d2_23) rfl rfl ?_
    show Steps p.tables e below (T180.setTop (mkF m 25 #[.val (.ref w_4), .val (.ref w_2), .val (.ref w_5), .val (.int (4 : Int32)), .val (.int ((((0 : Int32) + (1 : Int32)) + (1 : Int32)) + (1 : Int32))), .val (.ref w_4)] [(.ref w_4), (.ref w_2)])) _
    refine st182.trans ?_
    show Steps p.tables e below (T182.setTop (mkF m 28 #[.val (.ref w_4), .val (.ref w_2), .val (.ref w_5), .val (.int (4 : Int32)), .val (.int ((((0 : Int32) + (1 : Int32)) + (1 : Int32)) + (1 : Int32))), .val (.ref w_4)] [(.int (1 : Int32))])) _
    refine XS.ifNo X182.here hx rfl (hb hby d2_28) rfl ((if0 _ _).trans (feq (by decide : ¬ ((1 : Int32) = (0 : Int32)))).1) ?_
    show Steps p.tables e below (T182.setTop (mkF m 31 #[.val (.ref w_4), .val (.ref w_2), .val (.ref w_5), .val (.int (4 : Int32)), .val (.int ((((0 : Int32) + (1 : Int32)) + (1 : Int32)) + (1 : Int32))), .val (.ref w_4)] [])) _
    refine XS.aloadN X182.here hx rfl (hb hby d2_31) rfl rfl ?_
    show Steps p.tables e below (T182.setTop (mkF m 32 #[.val (.ref w_4), .val (.ref w_2), .val (.ref w_5), .val (.int (4 : Int32)), .val (.int ((((0 : Int32) + (1 : Int32)) + (1 : Int32)) + (1 : Int32))), .val (.ref w_4)] [(.ref w_4)])) _
    refine XS.aload X182.here hx rfl (hb hby d2_32) rfl rfl ?_
    show Steps p.tables e below (T182.setTop (mkF m 34 #[.val (.ref w_4), .val (.ref w_2), .val (.ref w_5), .val (.int (4 : Int32)), .val (.int ((((0 : Int32) + (1 : Int32)) + (1 : Int32)) + (1 : Int32))), .val (.ref w_4)] [(.ref w_4), (.ref w_4)])) _
    refine st183.trans ?_
    show Steps p.tables e below (T183.setTop (mkF m 37 #[.val (.ref w_4), .val (.ref w_2), .val (.ref w_5), .val (.int (4 : Int32)), .val (.int ((((0 : Int32) + (1 : Int32)) + (1 : Int32)) + (1 : Int32))), .val (.ref w_4)] [(.int (1 : Int32))])) _
    refine XS.ifYes X183.here hx rfl (pc0 := 37) (pc' := 42) rfl (hb hby d2_37) rfl ((if0 _ _).trans (feq (by decide : ¬ ((1 : Int32) = (0 : Int32)))).2) (by decide) (by decide) ?_
    show Steps p.tables e below (T183.setTop (mkF m 42 #[.val (.ref w_4), .val (.ref w_2), .val (.ref w_5), .val (.int (4 : Int32)), .val (.int ((((0 : Int32) + (1 : Int32)) + (1 : Int32)) + (1 : Int32))), .val (.ref w_4)] [])) _
    refine XS.iinc X183.here hx rfl (hb hby d2_42) rfl (l' := #[.val (.ref w_4), .val (.ref w_2), .val (.ref w_5), .val (.int (4 : Int32)), .val (.int (((((0 : Int32) + (1 : Int32)) + (1 : Int32)) + (1 : Int32)) + (1 : Int32))), .val (.ref w_4)]) rfl ?_
    show Steps p.tables e below (T183.setTop (mkF m 45 #[.val (.ref w_4), .val (.ref w_2), .val (.ref w_5), .val (.int (4 : Int32)), .val (.int (((((0 : Int32) + (1 : Int32)) + (1 : Int32)) + (1 : Int32)) + (1 : Int32))), .val (.ref w_4)] [])) _
    refine XS.goto X183.here hx rfl (pc0 := 45) (pc' := 10) rfl (hb hby d2_45) (by decide) (by decide) ?_
    show Steps p.tables e below (T183.setTop (mkF m 10 #[.val (.ref w_4), .val (.ref w_2), .val (.ref w_5), .val (.int (4 : Int32)), .val (.int (((((0 : Int32) + (1 : Int32)) + (1 : Int32)) + (1 : Int32)) + (1 : Int32))), .val (.ref w_4)] [])) _
    refine XS.iload X183.here hx rfl (hb hby d2_10) rfl ?_
    show Steps p.tables e below (T183.setTop (mkF m 12 #[.val (.ref w_4), .val (.ref w_2), .val (.ref w_5), .val (.int (4 : Int32)), .val (.int (((((0 : Int32) + (1 : Int32)) + (1 : Int32)) + (1 : Int32)) + (1 : Int32))), .val (.ref w_4)] [(.int (((((0 : Int32) + (1 : Int32)) + (1 : Int32)) + (1 : Int32)) + (1 : Int32)))])) _
    refine XS.iloadN X183.here hx rfl (hb hby d2_12) rfl ?_
    show Steps p.tables e below (T183.setTop (mkF m 13 #[.val (.ref w_4), .val (.ref w_2), .val (.ref w_5), .val (.int (4 : Int32)), .val (.int (((((0 : Int32) + (1 : Int32)) + (1 : Int32)) + (1 : Int32)) + (1 : Int32))), .val (.ref w_4)] [(.int (4 : Int32)), (.int (((((0 : Int32) + (1 : Int32)) + (1 : Int32)) + (1 : Int32)) + (1 : Int32)))])) _
    refine XS.icmpYes X183.here hx rfl (pc0 := 13) (pc' := 48) rfl (hb hby d2_13) rfl (flt (by decide : ¬ ((((((0 : Int32) + (1 : Int32)) + (1 : Int32)) + (1 : Int32)) + (1 : Int32)) < (4 : Int32)))).2.1 (by decide) (by decide) ?_
    show Steps p.tables e below (T183.setTop (mkF m 48 #[.val (.ref w_4), .val (.ref w_2), .val (.ref w_5), .val (.int (4 : Int32)), .val (.int (((((0 : Int32) + (1 : Int32)) + (1 : Int32)) + (1 : Int32)) + (1 : Int32))), .val (.ref w_4)] [])) _
    refine XS.iconst X183.here hx rfl (hb hby d2_48) ?_
    show Steps p.tables e below (T183.setTop (mkF m 49 #[.val (.ref w_4), .val (.ref w_2), .val (.ref w_5), .val (.int (4 : Int32)), .val (.int (((((0 : Int32) + (1 : Int32)) + (1 : Int32)) + (1 : Int32)) + (1 : Int32))), .val (.ref w_4)] [(.int (1 : Int32))])) _
    exact retN X183 hx (t := .boolean) Bd.returns (by simp) (hb hby d2_49) hr
  · show Q2x8 Z w_1 w_2 w_3 w_4 w_5 k_5 h0 n0 _ T183.heap _
    rw [e183]
    exact ⟨by unfold sp2x8; rfl, N183, rfl⟩
theorem pn_1x8 : plainName "com/example/lucid_locks/lucidlocks/locks/LockMode" = true := by first | (simp [plainName, overriddenIn]; done) | decide +kernel
theorem ef_1x8 (m : MethodId) (w_2 : Addr) (w_4 : Addr) : entryFrame m #[(.ref w_2), (.ref w_4)] 2 = mkF m 0 #[.val (.ref w_2), .val (.ref w_4)] [] := by first | (simp [entryFrame, mkF, argsToLocals, Value.category]; done) | rfl
def sp1x8 (w_4 : Addr) : Value := (.ref w_4)
def Q1x8 (Z : State) (w_1 : Addr) (w_2 : Addr) (w_3 : Addr) (w_4 : Addr) (w_5 : Addr) (k_5 : ClassId) (h0 : Heap) (n0 : Nat) (v : Option Value) (h : Heap) (L : List Loc) : Prop := v = some (sp1x8 w_4) ∧ Fr n0 L ∧ h = h0
set_option maxRecDepth 65536 in
set_option maxHeartbeats 40000000 in
theorem rm1x8 (l : Launch) (Z : State) (a0 : Array Value) (hw : ∀ d ∈ tables_1, d.before a0 Z = true) (ws : List Jvm.Cond) (w_1 : Addr) (w_2 : Addr) (w_3 : Addr) (w_4 : Addr) (w_5 : Addr) (k_5 : ClassId) (hS : StF Z w_1 w_2 w_3 w_4 w_5 k_5) (h0 : Heap) (n0 : Nat) (O0 : Old Z n0 h0) :
    MetFree l Y2 (head1 (Jvm.Cond.code Y2 prog_17_method_6_code 2 (some (.object "com/example/lucid_locks/lucidlocks/locks/LockMode")) :: ws) ({ frames := 2, cells := 0, slots := 0, locals := 30 } : Room)) (fun a U => a = #[(.ref w_2), (.ref w_4)] ∧ Z.Warmed39 U.vm ∧ U.heap = h0) (fun _ _ _ _ _ => True) (fun _ U o U' => ∃ v L, o = .returned v ∧ Q1x8 Z w_1 w_2 w_3 w_4 w_5 k_5 h0 n0 v U'.heap L ∧ FrameEnd U o U' L ({ frames := 2, cells := 0, slots := 0, locals := 30 } : Room).cells ({ frames := 2, cells := 0, slots := 0, locals := 30 } : Room).slots) := by
  refine MetFree.of_bodySF (plainFor_of_name pn_1x8) hisR ?_
  intro p e s m args below meth c s₁ Bd hml0 hP hK
  obtain ⟨rfl, hZ, hh⟩ := hP
  have hx := Bd.exec
  have hby := Bd.bytes
  have hml : c.maxLocals = 2 := hml0
  have hown : s.vm.findClass "com/example/lucid_locks/lucidlocks/locks/LockMode" = some m.cls := findClass_of_methodNamed Bd.named
  have hnm := (name_of_methodNamed Bd.named Bd.method).1
  have X0 : Stand p l e ({ frames := 2, cells := 0, slots := 0, locals := 30 } : Room) s m #[(.ref w_2), (.ref w_4)] below meth c s₁ [] 0 0 := Stand.of_body Bd
  have e0 : s₁.heap = h0 := by rw [← hh, Bd.state]; rfl
  have N0 := Fr.nil n0
  have hS0 := hS
  obtain ⟨S_1, E_1, S_2, E_2, S_3, E_3, S_4, E_4, S_5, F_1_sharedWithItself, F_1_ordinal, F_2_ordinal, F_4_ordinal, F_3_ordinal, F_4_sharedWithItself, F_2_sharedWithItself, F_3_sharedWithItself, V_5⟩ := hS
  have pre0 : ∀ t, Steps p.tables e below (s₁.setTop (mkF m 0 #[.val (.ref w_2), .val (.ref w_4)] [])) t → Steps p.tables e below (s₁.setTop (entryFrame m #[(.ref w_2), (.ref w_4)] 2)) t := fun t k => castTop (ef_1x8 m w_2 w_4) k
  obtain ⟨cq184, kq184, q184a, q184b, q184c⟩ := isOf hZ e0 (E_4.ext O0.2)
  obtain ⟨_, _, ⟨T184, L184, k184, n184⟩, -, X184, ⟨Lc184, hQ184, l184, y184, z184⟩, st184⟩ := X0.virtualBack hx (y := Y1) (z := Y1) hown (mvT hZ (hw _ (tk 17 rfl))) (mvT hZ (hw _ (tk 18 rfl))) (notFace_of_selects (args := #[]) (mvT hZ (hw _ (tk 20 rfl)))) (mvT hZ (hw _ (tk 20 rfl))) (mvT hZ (hw _ (tk 19 rfl))) (by decide) (backOf (W := 0) (rm2x8 l Z a0 hw [] w_1 w_2 w_3 w_4 w_5 k_5 hS0 h0 n0 O0) hZ (hw _ (tk 21 rfl)) (hw _ (tk 3 rfl)) (by decide) (by decide)) q184a q184c (g := (mkF m 2 #[.val (.ref w_2), .val (.ref w_4)] [(.ref w_2), (.ref w_4)])) rfl (by rw [hml]; rfl) (Steps.refl _) (argsL := [(.ref w_2)]) (rest := []) (lenOf pd_0 rfl) rfl (by show 2 * 0 + _ ≤ _; exact Nat.le_of_eq rfl) (hb hby d1_2) (fun _ _ => ⟨rfl, e0, (by decide : 0 + 0 ≤ _), (by decide : 0 + 0 ≤ _)⟩)
  dsimp only [Pt.U, Pt.locs, Pt.cells, Pt.slots] at X184 l184 y184 z184 st184 hQ184
  subst l184 y184 z184
  obtain ⟨rv184, N184q, e184⟩ := hQ184
  rw [show sp2x8 = (1 : Int32) from by unfold sp2x8; rfl] at rv184
  subst rv184
  have N184 := Fr.app N0 N184q
  obtain ⟨fs, hr, hrun, hended, hW, hsame⟩ := X184.leave (v := some (.ref w_4)) (fun h => by rw [Bd.returns] at h; cases h)
  refine ⟨_, _, pre0 _ ?_, hrun, hended, _, _, rfl, ?_, ⟨_, rfl⟩, hW, hsame.mono (by decide) (by decide)⟩
  · show Steps p.tables e below (s₁.setTop (mkF m 0 #[.val (.ref w_2), .val (.ref w_4)] [])) _
    refine XS.aloadN X0.here hx rfl (hb hby d1_0) rfl rfl ?_
    show Steps p.tables e below (s₁.setTop (mkF m 1 #[.val (.ref w_2), .val (.ref w_4)] [(.ref w_4)])) _
    refine XS.aloadN X0.here hx rfl (hb hby d1_1) rfl rfl ?_
    show Steps p.tables e below (s₁.setTop (mkF m 2 #[.val (.ref w_2), .val (.ref w_4)] [(.ref w_2), (.ref w_4)])) _
    refine st184.trans ?_
    show Steps p.tables e below (T184.setTop (mkF m 5 #[.val (.ref w_2), .val (.ref w_4)] [(.int (1 : Int32))])) _
    refine XS.ifNo X184.here hx rfl (hb hby d1_5) rfl ((if0 _ _).trans (feq (by decide : ¬ ((1 : Int32) = (0 : Int32)))).1) ?_
    show Steps p.tables e below (T184.setTop (mkF m 8 #[.val (.ref w_2), .val (.ref w_4)] [])) _
    refine XS.aloadN X184.here hx rfl (hb hby d1_8) rfl rfl ?_
    show Steps p.tables e below (T184.setTop (mkF m 9 #[.val (.ref w_2), .val (.ref w_4)] [(.ref w_4)])) _
    refine XS.goto X184.here hx rfl (pc0 := 9) (pc' := 15) rfl (hb hby d1_9) (by decide) (by decide) ?_
    show Steps p.tables e below (T184.setTop (mkF m 15 #[.val (.ref w_2), .val (.ref w_4)] [(.ref w_4)])) _
    jvm_step X184.here [X184.here.top, hx, (hb hby d1_15), X184.method', Bd.returns, Value.isRef, FieldType.isReference]
    first | (intro acts; rw [hr _ acts rfl rfl rfl]) | rw [hr _ _ rfl rfl rfl]
    exact Steps.refl _
  · show Q1x8 Z w_1 w_2 w_3 w_4 w_5 k_5 h0 n0 _ T184.heap _
    rw [e184]
    exact ⟨by unfold sp1x8; rfl, N184, rfl⟩
theorem pn_2x9 : plainName "com/example/lucid_locks/lucidlocks/locks/LockMode" = true := by first | (simp [plainName, overriddenIn]; done) | decide +kernel
theorem ef_2x9 (m : MethodId) (w_1 : Addr) (w_3 : Addr) : entryFrame m #[(.ref w_1), (.ref w_3)] 6 = mkF m 0 #[.val (.ref w_1), .val (.ref w_3), .unset, .unset, .unset, .unset] [] := by first | (simp [entryFrame, mkF, argsToLocals, Value.category]; done) | rfl
def sp2x9  : Int32 := (0 : Int32)
def Q2x9 (Z : State) (w_1 : Addr) (w_2 : Addr) (w_3 : Addr) (w_4 : Addr) (w_5 : Addr) (k_5 : ClassId) (h0 : Heap) (n0 : Nat) (v : Option Value) (h : Heap) (L : List Loc) : Prop := v = some (.int (sp2x9)) ∧ Fr n0 L ∧ h = h0
set_option maxRecDepth 65536 in
set_option maxHeartbeats 40000000 in
theorem rm2x9 (l : Launch) (Z : State) (a0 : Array Value) (hw : ∀ d ∈ tables_1, d.before a0 Z = true) (ws : List Jvm.Cond) (w_1 : Addr) (w_2 : Addr) (w_3 : Addr) (w_4 : Addr) (w_5 : Addr) (k_5 : ClassId) (hS : StF Z w_1 w_2 w_3 w_4 w_5 k_5) (h0 : Heap) (n0 : Nat) (O0 : Old Z n0 h0) :
    MetFree l Y1 (head1 (Jvm.Cond.code Y1 prog_17_method_7_code 6 (some .boolean) :: ws) ({ frames := 1, cells := 0, slots := 0, locals := 13 } : Room)) (fun a U => a = #[(.ref w_1), (.ref w_3)] ∧ Z.Warmed39 U.vm ∧ U.heap = h0) (fun _ _ _ _ _ => True) (fun _ U o U' => ∃ v L, o = .returned v ∧ Q2x9 Z w_1 w_2 w_3 w_4 w_5 k_5 h0 n0 v U'.heap L ∧ FrameEnd U o U' L ({ frames := 1, cells := 0, slots := 0, locals := 13 } : Room).cells ({ frames := 1, cells := 0, slots := 0, locals := 13 } : Room).slots) := by
  refine MetFree.of_bodySF (plainFor_of_name pn_2x9) hisR ?_
  intro p e s m args below meth c s₁ Bd hml0 hP hK
  obtain ⟨rfl, hZ, hh⟩ := hP
  have hx := Bd.exec
  have hby := Bd.bytes
  have hml : c.maxLocals = 6 := hml0
  have hown : s.vm.findClass "com/example/lucid_locks/lucidlocks/locks/LockMode" = some m.cls := findClass_of_methodNamed Bd.named
  have hnm := (name_of_methodNamed Bd.named Bd.method).1
  have X0 : Stand p l e ({ frames := 1, cells := 0, slots := 0, locals := 13 } : Room) s m #[(.ref w_1), (.ref w_3)] below meth c s₁ [] 0 0 := Stand.of_body Bd
  have e0 : s₁.heap = h0 := by rw [← hh, Bd.state]; rfl
  have N0 := Fr.nil n0
  have hS0 := hS
  obtain ⟨S_1, E_1, S_2, E_2, S_3, E_3, S_4, E_4, S_5, F_1_sharedWithItself, F_1_ordinal, F_2_ordinal, F_4_ordinal, F_3_ordinal, F_4_sharedWithItself, F_2_sharedWithItself, F_3_sharedWithItself, V_5⟩ := hS
  have pre0 : ∀ t, Steps p.tables e below (s₁.setTop (mkF m 0 #[.val (.ref w_1), .val (.ref w_3), .unset, .unset, .unset, .unset] [])) t → Steps p.tables e below (s₁.setTop (entryFrame m #[(.ref w_1), (.ref w_3)] 6)) t := fun t k => castTop (ef_2x9 m w_1 w_3) k
  obtain ⟨T192, X192, e192, st192⟩ := getS2 X0 hx hZ hown (host := "") (Or.inl (hw _ (tk 22 rfl))) Via.refl e0 (S_5.ext O0.2) (g := (mkF m 0 #[.val (.ref w_1), .val (.ref w_3), .unset, .unset, .unset, .unset] [])) rfl (hb hby d2_0)
  obtain ⟨cl193, Ar193, qa193, Sa193, Ma193, Ha193, Ga193⟩ := id (V_5.ext O0.2)
  obtain ⟨cl194, Ar194, qa194, Sa194, Ma194, Ha194, Ga194⟩ := id (V_5.ext O0.2)
  have hin194 : ¬ ((0 : Int32) < 0 ∨ cl194.slots.size ≤ ((0 : Int32)).toNatClampNeg) := by  exact inb_of Sa194 ⟨by decide, by decide⟩
  have hat194 : cl194.slots[((0 : Int32)).toNatClampNeg]? = some (.ref w_1) := Has.at Ha194 hin194 (by rfl)
  obtain ⟨cq195, kq195, q195a, q195b, q195c⟩ := isOf hZ e192 (E_3.ext O0.2)
  obtain ⟨_, _, ⟨T195, L195, k195, n195⟩, -, X195, ⟨Lc195, hQ195, l195, y195, z195⟩, st195⟩ := X192.virtualBack hx (y := Y0) (z := Y0) hown (mvT hZ (hw _ (tk 24 rfl))) (mvT hZ (hw _ (tk 25 rfl))) (notFace_of_selects (args := #[]) (mvT hZ (hw _ (tk 27 rfl)))) (mvT hZ (hw _ (tk 27 rfl))) (mvT hZ (hw _ (tk 26 rfl))) (by decide) (backOf (W := 0) (rm3 l Z a0 hw [] w_1 w_2 w_3 w_4 w_5 k_5 hS0 w_3 w_1 (0 : Int32) h0 n0 O0 (F_3_sharedWithItself.ext O0.2)) hZ (hw _ (tk 28 rfl)) (hw _ (tk 3 rfl)) (by decide) (by decide)) q195a q195c (g := (mkF m 25 #[.val (.ref w_1), .val (.ref w_3), .val (.ref w_5), .val (.int (4 : Int32)), .val (.int (0 : Int32)), .val (.ref w_1)] [(.ref w_1), (.ref w_3)])) rfl (by rw [hml]; rfl) (Steps.refl _) (argsL := [(.ref w_1)]) (rest := []) (lenOf pd_0 rfl) rfl (by show 2 * 0 + _ ≤ _; exact Nat.le_of_eq rfl) (hb hby d2_25) (fun _ _ => ⟨rfl, e192, (by decide : 0 + 0 ≤ _), (by decide : 0 + 0 ≤ _)⟩)
  dsimp only [Pt.U, Pt.locs, Pt.cells, Pt.slots] at X195 l195 y195 z195 st195 hQ195
  subst l195 y195 z195
  obtain ⟨rv195, N195q, e195⟩ := hQ195
  rw [show sp3 w_3 w_1 (0 : Int32) = (1 : Int32) from by unfold sp3; rw [if_neg (Fld.ne F_3_ordinal F_1_ordinal (by decide))]] at rv195
  subst rv195
  have N195 := Fr.app N0 N195q
  obtain ⟨cq196, kq196, q196a, q196b, q196c⟩ := isOf hZ e195 (E_1.ext O0.2)
  obtain ⟨_, _, ⟨T196, L196, k196, n196⟩, -, X196, ⟨Lc196, hQ196, l196, y196, z196⟩, st196⟩ := X195.virtualBack hx (y := Y0) (z := Y0) hown (mvT hZ (hw _ (tk 24 rfl))) (mvT hZ (hw _ (tk 25 rfl))) (notFace_of_selects (args := #[]) (mvT hZ (hw _ (tk 27 rfl)))) (mvT hZ (hw _ (tk 27 rfl))) (mvT hZ (hw _ (tk 26 rfl))) (by decide) (backOf (W := 0) (rm3 l Z a0 hw [] w_1 w_2 w_3 w_4 w_5 k_5 hS0 w_1 w_1 (1 : Int32) h0 n0 O0 (F_1_sharedWithItself.ext O0.2)) hZ (hw _ (tk 28 rfl)) (hw _ (tk 3 rfl)) (by decide) (by decide)) q196a q196c (g := (mkF m 34 #[.val (.ref w_1), .val (.ref w_3), .val (.ref w_5), .val (.int (4 : Int32)), .val (.int (0 : Int32)), .val (.ref w_1)] [(.ref w_1), (.ref w_1)])) rfl (by rw [hml]; rfl) (Steps.refl _) (argsL := [(.ref w_1)]) (rest := []) (lenOf pd_0 rfl) rfl (by show 2 * 0 + _ ≤ _; exact Nat.le_of_eq rfl) (hb hby d2_34) (fun _ _ => ⟨rfl, e195, (by decide : 0 + 0 ≤ _), (by decide : 0 + 0 ≤ _)⟩)
  dsimp only [Pt.U, Pt.locs, Pt.cells, Pt.slots] at X196 l196 y196 z196 st196 hQ196
  subst l196 y196 z196
  obtain ⟨rv196, N196q, e196⟩ := hQ196
  rw [show sp3 w_1 w_1 (1 : Int32) = (0 : Int32) from by unfold sp3; rw [if_pos rfl, if_neg (by decide : ¬ ((1 : Int32) = (0 : Int32)))]] at rv196
  subst rv196
  have N196 := Fr.app N195 N196q
  obtain ⟨fs, hr, hrun, hended, hW, hsame⟩ := X196.leave (v := some (.int (0 : Int32))) (fun h => by rw [Bd.returns] at h; cases h)
  refine ⟨_, _, pre0 _ ?_, hrun, hended, _, _, rfl, ?_, ⟨_, rfl⟩, hW, hsame.mono (by decide) (by decide)⟩
  · show Steps p.tables e below (s₁.setTop (mkF m 0 #[.val (.ref w_1), .val (.ref w_3), .unset, .unset, .unset, .unset] [])) _
    refine st192 _ ?_
    show Steps p.tables e below (T192.setTop (mkF m 3 #[.val (.ref w_1), .val (.ref w_3), .unset, .unset, .unset, .unset] [(.ref w_5)])) _
    refine XS.astoreN X192.here hx rfl (hb hby d2_3) rfl rfl (l' := #[.val (.ref w_1), .val (.ref w_3), .val (.ref w_5), .unset, .unset, .unset]) rfl ?_
    show Steps p.tables e below (T192.setTop (mkF m 4 #[.val (.ref w_1), .val (.ref w_3), .val (.ref w_5), .unset, .unset, .unset] [])) _
    refine XS.aloadN X192.here hx rfl (hb hby d2_4) rfl rfl ?_
    show Steps p.tables e below (T192.setTop (mkF m 5 #[.val (.ref w_1), .val (.ref w_3), .val (.ref w_5), .unset, .unset, .unset] [(.ref w_5)])) _
    refine X192.arraylength hx (by rw [e192]; exact Ar193.1) (State.isArrayOf_alike hZ.alike Ar193.2.1) (g := (mkF m 5 #[.val (.ref w_1), .val (.ref w_3), .val (.ref w_5), .unset, .unset, .unset] [(.ref w_5)])) rfl rfl (hb hby d2_5) _ ?_
    rw [len_of Sa193 Ma193]
    show Steps p.tables e below (T192.setTop (mkF m 6 #[.val (.ref w_1), .val (.ref w_3), .val (.ref w_5), .unset, .unset, .unset] [(.int (4 : Int32))])) _
    refine XS.istoreN X192.here hx rfl (hb hby d2_6) rfl (l' := #[.val (.ref w_1), .val (.ref w_3), .val (.ref w_5), .val (.int (4 : Int32)), .unset, .unset]) rfl ?_
    show Steps p.tables e below (T192.setTop (mkF m 7 #[.val (.ref w_1), .val (.ref w_3), .val (.ref w_5), .val (.int (4 : Int32)), .unset, .unset] [])) _
    refine XS.iconst X192.here hx rfl (hb hby d2_7) ?_
    show Steps p.tables e below (T192.setTop (mkF m 8 #[.val (.ref w_1), .val (.ref w_3), .val (.ref w_5), .val (.int (4 : Int32)), .unset, .unset] [(.int (0 : Int32))])) _
    refine XS.istore X192.here hx rfl (hb hby d2_8) rfl (l' := #[.val (.ref w_1), .val (.ref w_3), .val (.ref w_5), .val (.int (4 : Int32)), .val (.int (0 : Int32)), .unset]) rfl ?_
    show Steps p.tables e below (T192.setTop (mkF m 10 #[.val (.ref w_1), .val (.ref w_3), .val (.ref w_5), .val (.int (4 : Int32)), .val (.int (0 : Int32)), .unset] [])) _
    refine XS.iload X192.here hx rfl (hb hby d2_10) rfl ?_
    show Steps p.tables e below (T192.setTop (mkF m 12 #[.val (.ref w_1), .val (.ref w_3), .val (.ref w_5), .val (.int (4 : Int32)), .val (.int (0 : Int32)), .unset] [(.int (0 : Int32))])) _
    refine XS.iloadN X192.here hx rfl (hb hby d2_12) rfl ?_
    show Steps p.tables e below (T192.setTop (mkF m 13 #[.val (.ref w_1), .val (.ref w_3), .val (.ref w_5), .val (.int (4 : Int32)), .val (.int (0 : Int32)), .unset] [(.int (4 : Int32)), (.int (0 : Int32))])) _
    refine XS.icmpNo X192.here hx rfl (hb hby d2_13) rfl (tlt (by decide : ((0 : Int32) < (4 : Int32)))).2.1 ?_
    show Steps p.tables e below (T192.setTop (mkF m 16 #[.val (.ref w_1), .val (.ref w_3), .val (.ref w_5), .val (.int (4 : Int32)), .val (.int (0 : Int32)), .unset] [])) _
    refine XS.aloadN X192.here hx rfl (hb hby d2_16) rfl rfl ?_
    show Steps p.tables e below (T192.setTop (mkF m 17 #[.val (.ref w_1), .val (.ref w_3), .val (.ref w_5), .val (.int (4 : Int32)), .val (.int (0 : Int32)), .unset] [(.ref w_5)])) _
    refine XS.iload X192.here hx rfl (hb hby d2_17) rfl ?_
    show Steps p.tables e below (T192.setTop (mkF m 19 #[.val (.ref w_1), .val (.ref w_3), .val (.ref w_5), .val (.int (4 : Int32)), .val (.int (0 : Int32)), .unset] [(.int (0 : Int32)), (.ref w_5)])) _
    refine X192.aaload hx (j := (0 : Int32)) (v := (.ref w_1)) (by rw [e192]; exact Ar194.1) (State.isArrayOf_alike hZ.alike Ar194.2.1) rfl Ar194.2.2 hin194 hat194 (g := (mkF m 19 #[.val (.ref w_1), .val (.ref w_3), .val (.ref w_5), .val (.int (4 : Int32)), .val (.int (0 : Int32)), .unset] [(.int (0 : Int32)), (.ref w_5)])) rfl rfl (hb hby d2_19) _ ?_
    show Steps p.tables e below (T192.setTop (mkF m 20 #[.val (.ref w_1), .val (.ref w_3), .val (.ref w_5), .val (.int (4 : Int32)), .val (.int (0 : Int32)), .unset] [(.ref w_1)])) _
    refine XS.astore X192.here hx rfl (hb hby d2_20) rfl rfl (l' := #[.val (.ref w_1), .val (.ref w_3), .val (.ref w_5), .val (.int (4 : Int32)), .val (.int (0 : Int32)), .val (.ref w_1)]) rfl ?_
    show Steps p.tables e below (T192.setTop (mkF m 22 #[.val (.ref w_1), .val (.ref w_3), .val (.ref w_5), .val (.int (4 : Int32)), .val (.int (0 : Int32)), .val (.ref w_1)] [])) _
    refine XS.aloadN X192.here hx rfl (hb hby d2_22) rfl rfl ?_
    show Steps p.tables e below (T192.setTop (mkF m 23 #[.val (.ref w_1), .val (.ref w_3), .val (.ref w_5), .val (.int (4 : Int32)), .val (.int (0 : Int32)), .val (.ref w_1)] [(.ref w_3)])) _
    refine XS.aload X192.here hx rfl (hb hby d2_23) rfl rfl ?_
    show Steps p.tables e below (T192.setTop (mkF m 25 #[.val (.ref w_1), .val (.ref w_3), .val (.ref w_5), .val (.int (4 : Int32)), .val (.int (0 : Int32)), .val (.ref w_1)] [(.ref w_1), (.ref w_3)])) _
    refine st195.trans ?_
    show Steps p.tables e below (T195.setTop (mkF m 28 #[.val (.ref w_1), .val (.ref w_3), .val (.ref w_5), .val (.int (4 : Int32)), .val (.int (0 : Int32)), .val (.ref w_1)] [(.int (1 : Int32))])) _
    refine XS.ifNo X195.here hx rfl (hb hby d2_28) rfl ((if0 _ _).trans (feq (by decide : ¬ ((1 : Int32) = (0 : Int32)))).1) ?_
    show Steps p.tables e below (T195.setTop (mkF m 31 #[.val (.ref w_1), .val (.ref w_3), .val (.ref w_5), .val (.int (4 : Int32)), .val (.int (0 : Int32)), .val (.ref w_1)] [])) _
    refine XS.aloadN X195.here hx rfl (hb hby d2_31) rfl rfl ?_
    show Steps p.tables e below (T195.setTop (mkF m 32 #[.val (.ref w_1), .val (.ref w_3), .val (.ref w_5), .val (.int (4 : Int32)), .val (.int (0 : Int32)), .val (.ref w_1)] [(.ref w_1)])) _
    refine XS.aload X195.here hx rfl (hb hby d2_32) rfl rfl ?_
    show Steps p.tables e below (T195.setTop (mkF m 34 #[.val (.ref w_1), .val (.ref w_3), .val (.ref w_5), .val (.int (4 : Int32)), .val (.int (0 : Int32)), .val (.ref w_1)] [(.ref w_1), (.ref w_1)])) _
    refine st196.trans ?_
    show Steps p.tables e below (T196.setTop (mkF m 37 #[.val (.ref w_1), .val (.ref w_3), .val (.ref w_5), .val (.int (4 : Int32)), .val (.int (0 : Int32)), .val (.ref w_1)] [(.int (0 : Int32))])) _
    refine XS.ifNo X196.here hx rfl (hb hby d2_37) rfl ((if0 _ _).trans (teq (by decide : ((0 : Int32) = (0 : Int32)))).2) ?_
    show Steps p.tables e below (T196.setTop (mkF m 40 #[.val (.ref w_1), .val (.ref w_3), .val (.ref w_5), .val (.int (4 : Int32)), .val (.int (0 : Int32)), .val (.ref w_1)] [])) _
    refine XS.iconst X196.here hx rfl (hb hby d2_40) ?_
    show Steps p.tables e below (T196.setTop (mkF m 41 #[.val (.ref w_1), .val (.ref w_3), .val (.ref w_5), .val (.int (4 : Int32)), .val (.int (0 : Int32)), .val (.ref w_1)] [(.int (0 : Int32))])) _
    exact retN X196 hx (t := .boolean) Bd.returns (by simp) (hb hby d2_41) hr
  · show Q2x9 Z w_1 w_2 w_3 w_4 w_5 k_5 h0 n0 _ T196.heap _
    rw [e196]
    exact ⟨by unfold sp2x9; rfl, N196, rfl⟩
theorem pn_1x9 : plainName "com/example/lucid_locks/lucidlocks/locks/LockMode" = true := by first | (simp [plainName, overriddenIn]; done) | decide +kernel
theorem ef_1x9 (m : MethodId) (w_3 : Addr) (w_1 : Addr) : entryFrame m #[(.ref w_3), (.ref w_1)] 2 = mkF m 0 #[.val (.ref w_3), .val (.ref w_1)] [] := by first | (simp [entryFrame, mkF, argsToLocals, Value.category]; done) | rfl
def sp1x9 (w_3 : Addr) : Value := (.ref w_3)
def Q1x9 (Z : State) (w_1 : Addr) (w_2 : Addr) (w_3 : Addr) (w_4 : Addr) (w_5 : Addr) (k_5 : ClassId) (h0 : Heap) (n0 : Nat) (v : Option Value) (h : Heap) (L : List Loc) : Prop := v = some (sp1x9 w_3) ∧ Fr n0 L ∧ h = h0
set_option maxRecDepth 65536 in
set_option maxHeartbeats 40000000 in
theorem rm1x9 (l : Launch) (Z : State) (a0 : Array Value) (hw : ∀ d ∈ tables_1, d.before a0 Z = true) (ws : List Jvm.Cond) (w_1 : Addr) (w_2 : Addr) (w_3 : Addr) (w_4 : Addr) (w_5 : Addr) (k_5 : ClassId) (hS : StF Z w_1 w_2 w_3 w_4 w_5 k_5) (h0 : Heap) (n0 : Nat) (O0 : Old Z n0 h0) :
    MetFree l Y2 (head1 (Jvm.Cond.code Y2 prog_17_method_6_code 2 (some (.object "com/example/lucid_locks/lucidlocks/locks/LockMode")) :: ws) ({ frames := 2, cells := 0, slots := 0, locals := 30 } : Room)) (fun a U => a = #[(.ref w_3), (.ref w_1)] ∧ Z.Warmed39 U.vm ∧ U.heap = h0) (fun _ _ _ _ _ => True) (fun _ U o U' => ∃ v L, o = .returned v ∧ Q1x9 Z w_1 w_2 w_3 w_4 w_5 k_5 h0 n0 v U'.heap L ∧ FrameEnd U o U' L ({ frames := 2, cells := 0, slots := 0, locals := 30 } : Room).cells ({ frames := 2, cells := 0, slots := 0, locals := 30 } : Room).slots) := by
  refine MetFree.of_bodySF (plainFor_of_name pn_1x9) hisR ?_
  intro p e s m args below meth c s₁ Bd hml0 hP hK
  obtain ⟨rfl, hZ, hh⟩ := hP
  have hx := Bd.exec
  have hby := Bd.bytes
  have hml : c.maxLocals = 2 := hml0
  have hown : s.vm.findClass "com/example/lucid_locks/lucidlocks/locks/LockMode" = some m.cls := findClass_of_methodNamed Bd.named
  have hnm := (name_of_methodNamed Bd.named Bd.method).1
  have X0 : Stand p l e ({ frames := 2, cells := 0, slots := 0, locals := 30 } : Room) s m #[(.ref w_3), (.ref w_1)] below meth c s₁ [] 0 0 := Stand.of_body Bd
  have e0 : s₁.heap = h0 := by rw [← hh, Bd.state]; rfl
  have N0 := Fr.nil n0
  have hS0 := hS
  obtain ⟨S_1, E_1, S_2, E_2, S_3, E_3, S_4, E_4, S_5, F_1_sharedWithItself, F_1_ordinal, F_2_ordinal, F_4_ordinal, F_3_ordinal, F_4_sharedWithItself, F_2_sharedWithItself, F_3_sharedWithItself, V_5⟩ := hS
  have pre0 : ∀ t, Steps p.tables e below (s₁.setTop (mkF m 0 #[.val (.ref w_3), .val (.ref w_1)] [])) t → Steps p.tables e below (s₁.setTop (entryFrame m #[(.ref w_3), (.ref w_1)] 2)) t := fun t k => castTop (ef_1x9 m w_3 w_1) k
  obtain ⟨cq197, kq197, q197a, q197b, q197c⟩ := isOf hZ e0 (E_1.ext O0.2)
  obtain ⟨_, _, ⟨T197, L197, k197, n197⟩, -, X197, ⟨Lc197, hQ197, l197, y197, z197⟩, st197⟩ := X0.virtualBack hx (y := Y1) (z := Y1) hown (mvT hZ (hw _ (tk 17 rfl))) (mvT hZ (hw _ (tk 18 rfl))) (notFace_of_selects (args := #[]) (mvT hZ (hw _ (tk 20 rfl)))) (mvT hZ (hw _ (tk 20 rfl))) (mvT hZ (hw _ (tk 19 rfl))) (by decide) (backOf (W := 0) (rm2x9 l Z a0 hw [] w_1 w_2 w_3 w_4 w_5 k_5 hS0 h0 n0 O0) hZ (hw _ (tk 21 rfl)) (hw _ (tk 3 rfl)) (by decide) (by decide)) q197a q197c (g := (mkF m 2 #[.val (.ref w_3), .val (.ref w_1)] [(.ref w_3), (.ref w_1)])) rfl (by rw [hml]; rfl) (Steps.refl _) (argsL := [(.ref w_3)]) (rest := []) (lenOf pd_0 rfl) rfl (by show 2 * 0 + _ ≤ _; exact Nat.le_of_eq rfl) (hb hby d1_2) (fun _ _ => ⟨rfl, e0, (by decide : 0 + 0 ≤ _), (by decide : 0 + 0 ≤ _)⟩)
  dsimp only [Pt.U, Pt.locs, Pt.cells, Pt.slots] at X197 l197 y197 z197 st197 hQ197
  subst l197 y197 z197
  obtain ⟨rv197, N197q, e197⟩ := hQ197
  rw [show sp2x9 = (0 : Int32) from by unfold sp2x9; rfl] at rv197
  subst rv197
  have N197 := Fr.app N0 N197q
  obtain ⟨T198, X198, e198, st198⟩ := getS2 X197 hx hZ hown (host := "") (Or.inl (hw _ (tk 31 rfl))) Via.refl e197 (S_3.ext O0.2) (g := (mkF m 12 #[.val (.ref w_3), .val (.ref w_1)] [])) rfl (hb hby d1_12)
  obtain ⟨fs, hr, hrun, hended, hW, hsame⟩ := X198.leave (v := some (.ref w_3)) (fun h => by rw [Bd.returns] at h; cases h)
  refine ⟨_, _, pre0 _ ?_, hrun, hended, _, _, rfl, ?_, ⟨_, rfl⟩, hW, hsame.mono (by decide) (by decide)⟩
  · show Steps p.tables e below (s₁.setTop (mkF m 0 #[.val (.ref w_3), .val (.ref w_1)] [])) _
    refine XS.aloadN X0.here hx rfl (hb hby d1_0) rfl rfl ?_
    show Steps p.tables e below (s₁.setTop (mkF m 1 #[.val (.ref w_3), .val (.ref w_1)] [(.ref w_1)])) _
    refine XS.aloadN X0.here hx rfl (hb hby d1_1) rfl rfl ?_
    show Steps p.tables e below (s₁.setTop (mkF m 2 #[.val (.ref w_3), .val (.ref w_1)] [(.ref w_3), (.ref w_1)])) _
    refine st197.trans ?_
    show Steps p.tables e below (T197.setTop (mkF m 5 #[.val (.ref w_3), .val (.ref w_1)] [(.int (0 : Int32))])) _
    refine XS.ifYes X197.here hx rfl (pc0 := 5) (pc' := 12) rfl (hb hby d1_5) rfl ((if0 _ _).trans (teq (by decide : ((0 : Int32) = (0 : Int32)))).1) (by decide) (by decide) ?_
    show Steps p.tables e below (T197.setTop (mkF m 12 #[.val (.ref w_3), .val (.ref w_1)] [])) _
    refine st198 _ ?_
    show Steps p.tables e below (T198.setTop (mkF m 15 #[.val (.ref w_3), .val (.ref w_1)] [(.ref w_3)])) _
    jvm_step X198.here [X198.here.top, hx, (hb hby d1_15), X198.method', Bd.returns, Value.isRef, FieldType.isReference]
    first | (intro acts; rw [hr _ acts rfl rfl rfl]) | rw [hr _ _ rfl rfl rfl]
    exact Steps.refl _
  · show Q1x9 Z w_1 w_2 w_3 w_4 w_5 k_5 h0 n0 _ T198.heap _
    rw [e198]
    exact ⟨by unfold sp1x9; rfl, N197, rfl⟩
theorem pn_2x10 : plainName "com/example/lucid_locks/lucidlocks/locks/LockMode" = true := by first | (simp [plainName, overriddenIn]; done) | decide +kernel
theorem ef_2x10 (m : MethodId) (w_2 : Addr) (w_3 : Addr) : entryFrame m #[(.ref w_2), (.ref w_3)] 6 = mkF m 0 #[.val (.ref w_2), .val (.ref w_3), .unset, .unset, .unset, .unset] [] := by first | (simp [entryFrame, mkF, argsToLocals, Value.category]; done) | rfl
def sp2x10  : Int32 := (0 : Int32)
def Q2x10 (Z : State) (w_1 : Addr) (w_2 : Addr) (w_3 : Addr) (w_4 : Addr) (w_5 : Addr) (k_5 : ClassId) (h0 : Heap) (n0 : Nat) (v : Option Value) (h : Heap) (L : List Loc) : Prop := v = some (.int (sp2x10)) ∧ Fr n0 L ∧ h = h0
set_option maxRecDepth 65536 in
set_option maxHeartbeats 40000000 in
theorem rm2x10 (l : Launch) (Z : State) (a0 : Array Value) (hw : ∀ d ∈ tables_1, d.before a0 Z = true) (ws : List Jvm.Cond) (w_1 : Addr) (w_2 : Addr) (w_3 : Addr) (w_4 : Addr) (w_5 : Addr) (k_5 : ClassId) (hS : StF Z w_1 w_2 w_3 w_4 w_5 k_5) (h0 : Heap) (n0 : Nat) (O0 : Old Z n0 h0) :
    MetFree l Y1 (head1 (Jvm.Cond.code Y1 prog_17_method_7_code 6 (some .boolean) :: ws) ({ frames := 1, cells := 0, slots := 0, locals := 13 } : Room)) (fun a U => a = #[(.ref w_2), (.ref w_3)] ∧ Z.Warmed39 U.vm ∧ U.heap = h0) (fun _ _ _ _ _ => True) (fun _ U o U' => ∃ v L, o = .returned v ∧ Q2x10 Z w_1 w_2 w_3 w_4 w_5 k_5 h0 n0 v U'.heap L ∧ FrameEnd U o U' L ({ frames := 1, cells := 0, slots := 0, locals := 13 } : Room).cells ({ frames := 1, cells := 0, slots := 0, locals := 13 } : Room).slots) := by
  refine MetFree.of_bodySF (plainFor_of_name pn_2x10) hisR ?_
  intro p e s m args below meth c s₁ Bd hml0 hP hK
  obtain ⟨rfl, hZ, hh⟩ := hP
  have hx := Bd.exec
  have hby := Bd.bytes
  have hml : c.maxLocals = 6 := hml0
  have hown : s.vm.findClass "com/example/lucid_locks/lucidlocks/locks/LockMode" = some m.cls := findClass_of_methodNamed Bd.named
  have hnm := (name_of_methodNamed Bd.named Bd.method).1
  have X0 : Stand p l e ({ frames := 1, cells := 0, slots := 0, locals := 13 } : Room) s m #[(.ref w_2), (.ref w_3)] below meth c s₁ [] 0 0 := Stand.of_body Bd
  have e0 : s₁.heap = h0 := by rw [← hh, Bd.state]; rfl
  have N0 := Fr.nil n0
  have hS0 := hS
  obtain ⟨S_1, E_1, S_2, E_2, S_3, E_3, S_4, E_4, S_5, F_1_sharedWithItself, F_1_ordinal, F_2_ordinal, F_4_ordinal, F_3_ordinal, F_4_sharedWithItself, F_2_sharedWithItself, F_3_sharedWithItself, V_5⟩ := hS
  have pre0 : ∀ t, Steps p.tables e below (s₁.setTop (mkF m 0 #[.val (.ref w_2), .val (.ref w_3), .unset, .unset, .unset, .unset] [])) t → Steps p.tables e below (s₁.setTop (entryFrame m #[(.ref w_2), (.ref w_3)] 6)) t := fun t k => castTop (ef_2x10 m w_2 w_3) k
  obtain ⟨T203, X203, e203, st203⟩ := getS2 X0 hx hZ hown (host := "") (Or.inl (hw _ (tk 22 rfl))) Via.refl e0 (S_5.ext O0.2) (g := (mkF m 0 #[.val (.ref w_2), .val (.ref w_3), .unset, .unset, .unset, .unset] [])) rfl (hb hby d2_0)
  obtain ⟨cl204, Ar204, qa204, Sa204, Ma204, Ha204, Ga204⟩ := id (V_5.ext O0.2)
  obtain ⟨cl205, Ar205, qa205, Sa205, Ma205, Ha205, Ga205⟩ := id (V_5.ext O0.2)
  have hin205 : ¬ ((0 : Int32) < 0 ∨ cl205.slots.size ≤ ((0 : Int32)).toNatClampNeg) := by  exact inb_of Sa205 ⟨by decide, by decide⟩
  have hat205 : cl205.slots[((0 : Int32)).toNatClampNeg]? = some (.ref w_1) := Has.at Ha205 hin205 (by rfl)
  obtain ⟨cq206, kq206, q206a, q206b, q206c⟩ := isOf hZ e203 (E_3.ext O0.2)
  obtain ⟨_, _, ⟨T206, L206, k206, n206⟩, -, X206, ⟨Lc206, hQ206, l206, y206, z206⟩, st206⟩ := X203.virtualBack hx (y := Y0) (z := Y0) hown (mvT hZ (hw _ (tk 24 rfl))) (mvT hZ (hw _ (tk 25 rfl))) (notFace_of_selects (args := #[]) (mvT hZ (hw _ (tk 27 rfl)))) (mvT hZ (hw _ (tk 27 rfl))) (mvT hZ (hw _ (tk 26 rfl))) (by decide) (backOf (W := 0) (rm3 l Z a0 hw [] w_1 w_2 w_3 w_4 w_5 k_5 hS0 w_3 w_1 (0 : Int32) h0 n0 O0 (F_3_sharedWithItself.ext O0.2)) hZ (hw _ (tk 28 rfl)) (hw _ (tk 3 rfl)) (by decide) (by decide)) q206a q206c (g := (mkF m 25 #[.val (.ref w_2), .val (.ref w_3), .val (.ref w_5), .val (.int (4 : Int32)), .val (.int (0 : Int32)), .val (.ref w_1)] [(.ref w_1), (.ref w_3)])) rfl (by rw [hml]; rfl) (Steps.refl _) (argsL := [(.ref w_1)]) (rest := []) (lenOf pd_0 rfl) rfl (by show 2 * 0 + _ ≤ _; exact Nat.le_of_eq rfl) (hb hby d2_25) (fun _ _ => ⟨rfl, e203, (by decide : 0 + 0 ≤ _), (by decide : 0 + 0 ≤ _)⟩)
  dsimp only [Pt.U, Pt.locs, Pt.cells, Pt.slots] at X206 l206 y206 z206 st206 hQ206
  subst l206 y206 z206
  obtain ⟨rv206, N206q, e206⟩ := hQ206
  rw [show sp3 w_3 w_1 (0 : Int32) = (1 : Int32) from by unfold sp3; rw [if_neg (Fld.ne F_3_ordinal F_1_ordinal (by decide))]] at rv206
  subst rv206
  have N206 := Fr.app N0 N206q
  obtain ⟨cq207, kq207, q207a, q207b, q207c⟩ := isOf hZ e206 (E_2.ext O0.2)
  obtain ⟨_, _, ⟨T207, L207, k207, n207⟩, -, X207, ⟨Lc207, hQ207, l207, y207, z207⟩, st207⟩ := X206.virtualBack hx (y := Y0) (z := Y0) hown (mvT hZ (hw _ (tk 24 rfl))) (mvT hZ (hw _ (tk 25 rfl))) (notFace_of_selects (args := #[]) (mvT hZ (hw _ (tk 27 rfl)))) (mvT hZ (hw _ (tk 27 rfl))) (mvT hZ (hw _ (tk 26 rfl))) (by decide) (backOf (W := 0) (rm3 l Z a0 hw [] w_1 w_2 w_3 w_4 w_5 k_5 hS0 w_2 w_1 (1 : Int32) h0 n0 O0 (F_2_sharedWithItself.ext O0.2)) hZ (hw _ (tk 28 rfl)) (hw _ (tk 3 rfl)) (by decide) (by decide)) q207a q207c (g := (mkF m 34 #[.val (.ref w_2), .val (.ref w_3), .val (.ref w_5), .val (.int (4 : Int32)), .val (.int (0 : Int32)), .val (.ref w_1)] [(.ref w_1), (.ref w_2)])) rfl (by rw [hml]; rfl) (Steps.refl _) (argsL := [(.ref w_1)]) (rest := []) (lenOf pd_0 rfl) rfl (by show 2 * 0 + _ ≤ _; exact Nat.le_of_eq rfl) (hb hby d2_34) (fun _ _ => ⟨rfl, e206, (by decide : 0 + 0 ≤ _), (by decide : 0 + 0 ≤ _)⟩)
  dsimp only [Pt.U, Pt.locs, Pt.cells, Pt.slots] at X207 l207 y207 z207 st207 hQ207
  subst l207 y207 z207
  obtain ⟨rv207, N207q, e207⟩ := hQ207
  rw [show sp3 w_2 w_1 (1 : Int32) = (1 : Int32) from by unfold sp3; rw [if_neg (Fld.ne F_2_ordinal F_1_ordinal (by decide))]] at rv207
  subst rv207
  have N207 := Fr.app N206 N207q
  obtain ⟨cl208, Ar208, qa208, Sa208, Ma208, Ha208, Ga208⟩ := id (V_5.ext O0.2)
  have hin208 : ¬ (((0 : Int32) + (1 : Int32)) < 0 ∨ cl208.slots.size ≤ (((0 : Int32) + (1 : Int32))).toNatClampNeg) := by  exact inb_of Sa208 ⟨by decide, by decide⟩
  have hat208 : cl208.slots[(((0 : Int32) + (1 : Int32))).toNatClampNeg]? = some (.ref w_2) := Has.at Ha208 hin208 (by rfl)
  obtain ⟨cq209, kq209, q209a, q209b, q209c⟩ := isOf hZ e207 (E_3.ext O0.2)
  obtain ⟨_, _, ⟨T209, L209, k209, n209⟩, -, X209, ⟨Lc209, hQ209, l209, y209, z209⟩, st209⟩ := X207.virtualBack hx (y := Y0) (z := Y0) hown (mvT hZ (hw _ (tk 24 rfl))) (mvT hZ (hw _ (tk 25 rfl))) (notFace_of_selects (args := #[]) (mvT hZ (hw _ (tk 27 rfl)))) (mvT hZ (hw _ (tk 27 rfl))) (mvT hZ (hw _ (tk 26 rfl))) (by decide) (backOf (W := 0) (rm3 l Z a0 hw [] w_1 w_2 w_3 w_4 w_5 k_5 hS0 w_3 w_2 (0 : Int32) h0 n0 O0 (F_3_sharedWithItself.ext O0.2)) hZ (hw _ (tk 28 rfl)) (hw _ (tk 3 rfl)) (by decide) (by decide)) q209a q209c (g := (mkF m 25 #[.val (.ref w_2), .val (.ref w_3), .val (.ref w_5), .val (.int (4 : Int32)), .val (.int ((0 : Int32) + (1 : Int32))), .val (.ref w_2)] [(.ref w_2), (.ref w_3)])) rfl (by rw [hml]; rfl) (Steps.refl _) (argsL := [(.ref w_2)]) (rest := []) (lenOf pd_0 rfl) rfl (by show 2 * 0 + _ ≤ _; exact Nat.le_of_eq rfl) (hb hby d2_25) (fun _ _ => ⟨rfl, e207, (by decide : 0 + 0 ≤ _), (by decide : 0 + 0 ≤ _)⟩)
  dsimp only [Pt.U, Pt.locs, Pt.cells, Pt.slots] at X209 l209 y209 z209 st209 hQ209
  subst l209 y209 z209
  obtain ⟨rv209, N209q, e209⟩ := hQ209
  rw [show sp3 w_3 w_2 (0 : Int32) = (1 : Int32) from by unfold sp3; rw [if_neg (Fld.ne F_3_ordinal F_2_ordinal (by decide))]] at rv209
  subst rv209
  have N209 := Fr.app N207 N209q
  obtain ⟨cq210, kq210, q210a, q210b, q210c⟩ := isOf hZ e209 (E_2.ext O0.2)
  obtain ⟨_, _, ⟨T210, L210, k210, n210⟩, -, X210, ⟨Lc210, hQ210, l210, y210, z210⟩, st210⟩ := X209.virtualBack hx (y := Y0) (z := Y0) hown (mvT hZ (hw _ (tk 24 rfl))) (mvT hZ (hw _ (tk 25 rfl))) (notFace_of_selects (args := #[]) (mvT hZ (hw _ (tk 27 rfl)))) (mvT hZ (hw _ (tk 27 rfl))) (mvT hZ (hw _ (tk 26 rfl))) (by decide) (backOf (W := 0) (rm3 l Z a0 hw [] w_1 w_2 w_3 w_4 w_5 k_5 hS0 w_2 w_2 (1 : Int32) h0 n0 O0 (F_2_sharedWithItself.ext O0.2)) hZ (hw _ (tk 28 rfl)) (hw _ (tk 3 rfl)) (by decide) (by decide)) q210a q210c (g := (mkF m 34 #[.val (.ref w_2), .val (.ref w_3), .val (.ref w_5), .val (.int (4 : Int32)), .val (.int ((0 : Int32) + (1 : Int32))), .val (.ref w_2)] [(.ref w_2), (.ref w_2)])) rfl (by rw [hml]; rfl) (Steps.refl _) (argsL := [(.ref w_2)]) (rest := []) (lenOf pd_0 rfl) rfl (by show 2 * 0 + _ ≤ _; exact Nat.le_of_eq rfl) (hb hby d2_34) (fun _ _ => ⟨rfl, e209, (by decide : 0 + 0 ≤ _), (by decide : 0 + 0 ≤ _)⟩)
  dsimp only [Pt.U, Pt.locs, Pt.cells, Pt.slots] at X210 l210 y210 z210 st210 hQ210
  subst l210 y210 z210
  obtain ⟨rv210, N210q, e210⟩ := hQ210
  rw [show sp3 w_2 w_2 (1 : Int32) = (0 : Int32) from by unfold sp3; rw [if_pos rfl, if_neg (by decide : ¬ ((1 : Int32) = (0 : Int32)))]] at rv210
  subst rv210
  have N210 := Fr.app N209 N210q
  obtain ⟨fs, hr, hrun, hended, hW, hsame⟩ := X210.leave (v := some (.int (0 : Int32))) (fun h => by rw [Bd.returns] at h; cases h)
  refine ⟨_, _, pre0 _ ?_, hrun, hended, _, _, rfl, ?_, ⟨_, rfl⟩, hW, hsame.mono (by decide) (by decide)⟩
  · show Steps p.tables e below (s₁.setTop (mkF m 0 #[.val (.ref w_2), .val (.ref w_3), .unset, .unset, .unset, .unset] [])) _
    refine st203 _ ?_
    show Steps p.tables e below (T203.setTop (mkF m 3 #[.val (.ref w_2), .val (.ref w_3), .unset, .unset, .unset, .unset] [(.ref w_5)])) _
    refine XS.astoreN X203.here hx rfl (hb hby d2_3) rfl rfl (l' := #[.val (.ref w_2), .val (.ref w_3), .val (.ref w_5), .unset, .unset, .unset]) rfl ?_
    show Steps p.tables e below (T203.setTop (mkF m 4 #[.val (.ref w_2), .val (.ref w_3), .val (.ref w_5), .unset, .unset, .unset] [])) _
    refine XS.aloadN X203.here hx rfl (hb hby d2_4) rfl rfl ?_
    show Steps p.tables e below (T203.setTop (mkF m 5 #[.val (.ref w_2), .val (.ref w_3), .val (.ref w_5), .unset, .unset, .unset] [(.ref w_5)])) _
    refine X203.arraylength hx (by rw [e203]; exact Ar204.1) (State.isArrayOf_alike hZ.alike Ar204.2.1) (g := (mkF m 5 #[.val (.ref w_2), .val (.ref w_3), .val (.ref w_5), .unset, .unset, .unset] [(.ref w_5)])) rfl rfl (hb hby d2_5) _ ?_
    rw [len_of Sa204 Ma204]
    show Steps p.tables e below (T203.setTop (mkF m 6 #[.val (.ref w_2), .val (.ref w_3), .val (.ref w_5), .unset, .unset, .unset] [(.int (4 : Int32))])) _
    refine XS.istoreN X203.here hx rfl (hb hby d2_6) rfl (l' := #[.val (.ref w_2), .val (.ref w_3), .val (.ref w_5), .val (.int (4 : Int32)), .unset, .unset]) rfl ?_
    show Steps p.tables e below (T203.setTop (mkF m 7 #[.val (.ref w_2), .val (.ref w_3), .val (.ref w_5), .val (.int (4 : Int32)), .unset, .unset] [])) _
    refine XS.iconst X203.here hx rfl (hb hby d2_7) ?_
    show Steps p.tables e below (T203.setTop (mkF m 8 #[.val (.ref w_2), .val (.ref w_3), .val (.ref w_5), .val (.int (4 : Int32)), .unset, .unset] [(.int (0 : Int32))])) _
    refine XS.istore X203.here hx rfl (hb hby d2_8) rfl (l' := #[.val (.ref w_2), .val (.ref w_3), .val (.ref w_5), .val (.int (4 : Int32)), .val (.int (0 : Int32)), .unset]) rfl ?_
    show Steps p.tables e below (T203.setTop (mkF m 10 #[.val (.ref w_2), .val (.ref w_3), .val (.ref w_5), .val (.int (4 : Int32)), .val (.int (0 : Int32)), .unset] [])) _
    refine XS.iload X203.here hx rfl (hb hby d2_10) rfl ?_
    show Steps p.tables e below (T203.setTop (mkF m 12 #[.val (.ref w_2), .val (.ref w_3), .val (.ref w_5), .val (.int (4 : Int32)), .val (.int (0 : Int32)), .unset] [(.int (0 : Int32))])) _
    refine XS.iloadN X203.here hx rfl (hb hby d2_12) rfl ?_
    show Steps p.tables e below (T203.setTop (mkF m 13 #[.val (.ref w_2), .val (.ref w_3), .val (.ref w_5), .val (.int (4 : Int32)), .val (.int (0 : Int32)), .unset] [(.int (4 : Int32)), (.int (0 : Int32))])) _
    refine XS.icmpNo X203.here hx rfl (hb hby d2_13) rfl (tlt (by decide : ((0 : Int32) < (4 : Int32)))).2.1 ?_
    show Steps p.tables e below (T203.setTop (mkF m 16 #[.val (.ref w_2), .val (.ref w_3), .val (.ref w_5), .val (.int (4 : Int32)), .val (.int (0 : Int32)), .unset] [])) _
    refine XS.aloadN X203.here hx rfl (hb hby d2_16) rfl rfl ?_
    show Steps p.tables e below (T203.setTop (mkF m 17 #[.val (.ref w_2), .val (.ref w_3), .val (.ref w_5), .val (.int (4 : Int32)), .val (.int (0 : Int32)), .unset] [(.ref w_5)])) _
    refine XS.iload X203.here hx rfl (hb hby d2_17) rfl ?_
    show Steps p.tables e below (T203.setTop (mkF m 19 #[.val (.ref w_2), .val (.ref w_3), .val (.ref w_5), .val (.int (4 : Int32)), .val (.int (0 : Int32)), .unset] [(.int (0 : Int32)), (.ref w_5)])) _
    refine X203.aaload hx (j := (0 : Int32)) (v := (.ref w_1)) (by rw [e203]; exact Ar205.1) (State.isArrayOf_alike hZ.alike Ar205.2.1) rfl Ar205.2.2 hin205 hat205 (g := (mkF m 19 #[.val (.ref w_2), .val (.ref w_3), .val (.ref w_5), .val (.int (4 : Int32)), .val (.int (0 : Int32)), .unset] [(.int (0 : Int32)), (.ref w_5)])) rfl rfl (hb hby d2_19) _ ?_
    show Steps p.tables e below (T203.setTop (mkF m 20 #[.val (.ref w_2), .val (.ref w_3), .val (.ref w_5), .val (.int (4 : Int32)), .val (.int (0 : Int32)), .unset] [(.ref w_1)])) _
    refine XS.astore X203.here hx rfl (hb hby d2_20) rfl rfl (l' := #[.val (.ref w_2), .val (.ref w_3), .val (.ref w_5), .val (.int (4 : Int32)), .val (.int (0 : Int32)), .val (.ref w_1)]) rfl ?_
    show Steps p.tables e below (T203.setTop (mkF m 22 #[.val (.ref w_2), .val (.ref w_3), .val (.ref w_5), .val (.int (4 : Int32)), .val (.int (0 : Int32)), .val (.ref w_1)] [])) _
    refine XS.aloadN X203.here hx rfl (hb hby d2_22) rfl rfl ?_
    show Steps p.tables e below (T203.setTop (mkF m 23 #[.val (.ref w_2), .val (.ref w_3), .val (.ref w_5), .val (.int (4 : Int32)), .val (.int (0 : Int32)), .val (.ref w_1)] [(.ref w_3)])) _
    refine XS.aload X203.here hx rfl (hb hby d2_23) rfl rfl ?_
    show Steps p.tables e below (T203.setTop (mkF m 25 #[.val (.ref w_2), .val (.ref w_3), .val (.ref w_5), .val (.int (4 : Int32)), .val (.int (0 : Int32)), .val (.ref w_1)] [(.ref w_1), (.ref w_3)])) _
    refine st206.trans ?_
    show Steps p.tables e below (T206.setTop (mkF m 28 #[.val (.ref w_2), .val (.ref w_3), .val (.ref w_5), .val (.int (4 : Int32)), .val (.int (0 : Int32)), .val (.ref w_1)] [(.int (1 : Int32))])) _
    refine XS.ifNo X206.here hx rfl (hb hby d2_28) rfl ((if0 _ _).trans (feq (by decide : ¬ ((1 : Int32) = (0 : Int32)))).1) ?_
    show Steps p.tables e below (T206.setTop (mkF m 31 #[.val (.ref w_2), .val (.ref w_3), .val (.ref w_5), .val (.int (4 : Int32)), .val (.int (0 : Int32)), .val (.ref w_1)] [])) _
    refine XS.aloadN X206.here hx rfl (hb hby d2_31) rfl rfl ?_
    show Steps p.tables e below (T206.setTop (mkF m 32 #[.val (.ref w_2), .val (.ref w_3), .val (.ref w_5), .val (.int (4 : Int32)), .val (.int (0 : Int32)), .val (.ref w_1)] [(.ref w_2)])) _
    refine XS.aload X206.here hx rfl (hb hby d2_32) rfl rfl ?_
    show Steps p.tables e below (T206.setTop (mkF m 34 #[.val (.ref w_2), .val (.ref w_3), .val (.ref w_5), .val (.int (4 : Int32)), .val (.int (0 : Int32)), .val (.ref w_1)] [(.ref w_1), (.ref w_2)])) _
    refine st207.trans ?_
    show Steps p.tables e below (T207.setTop (mkF m 37 #[.val (.ref w_2), .val (.ref w_3), .val (.ref w_5), .val (.int (4 : Int32)), .val (.int (0 : Int32)), .val (.ref w_1)] [(.int (1 : Int32))])) _
    refine XS.ifYes X207.here hx rfl (pc0 := 37) (pc' := 42) rfl (hb hby d2_37) rfl ((if0 _ _).trans (feq (by decide : ¬ ((1 : Int32) = (0 : Int32)))).2) (by decide) (by decide) ?_
    show Steps p.tables e below (T207.setTop (mkF m 42 #[.val (.ref w_2), .val (.ref w_3), .val (.ref w_5), .val (.int (4 : Int32)), .val (.int (0 : Int32)), .val (.ref w_1)] [])) _
    refine XS.iinc X207.here hx rfl (hb hby d2_42) rfl (l' := #[.val (.ref w_2), .val (.ref w_3), .val (.ref w_5), .val (.int (4 : Int32)), .val (.int ((0 : Int32) + (1 : Int32))), .val (.ref w_1)]) rfl ?_
    show Steps p.tables e below (T207.setTop (mkF m 45 #[.val (.ref w_2), .val (.ref w_3), .val (.ref w_5), .val (.int (4 : Int32)), .val (.int ((0 : Int32) + (1 : Int32))), .val (.ref w_1)] [])) _
    refine XS.goto X207.here hx rfl (pc0 := 45) (pc' := 10) rfl (hb hby d2_45) (by decide) (by decide) ?_
    show Steps p.tables e below (T207.setTop (mkF m 10 #[.val (.ref w_2), .val (.ref w_3), .val (.ref w_5), .val (.int (4 : Int32)), .val (.int ((0 : Int32) + (1 : Int32))), .val (.ref w_1)] [])) _
    refine XS.iload X207.here hx rfl (hb hby d2_10) rfl ?_
    show Steps p.tables e below (T207.setTop (mkF m 12 #[.val (.ref w_2), .val (.ref w_3), .val (.ref w_5), .val (.int (4 : Int32)), .val (.int ((0 : Int32) + (1 : Int32))), .val (.ref w_1)] [(.int ((0 : Int32) + (1 : Int32)))])) _
    refine XS.iloadN X207.here hx rfl (hb hby d2_12) rfl ?_
    show Steps p.tables e below (T207.setTop (mkF m 13 #[.val (.ref w_2), .val (.ref w_3), .val (.ref w_5), .val (.int (4 : Int32)), .val (.int ((0 : Int32) + (1 : Int32))), .val (.ref w_1)] [(.int (4 : Int32)), (.int ((0 : Int32) + (1 : Int32)))])) _
    refine XS.icmpNo X207.here hx rfl (hb hby d2_13) rfl (tlt (by decide : (((0 : Int32) + (1 : Int32)) < (4 : Int32)))).2.1 ?_
    show Steps p.tables e below (T207.setTop (mkF m 16 #[.val (.ref w_2), .val (.ref w_3), .val (.ref w_5), .val (.int (4 : Int32)), .val (.int ((0 : Int32) + (1 : Int32))), .val (.ref w_1)] [])) _
    refine XS.aloadN X207.here hx rfl (hb hby d2_16) rfl rfl ?_
    show Steps p.tables e below (T207.setTop (mkF m 17 #[.val (.ref w_2), .val (.ref w_3), .val (.ref w_5), .val (.int (4 : Int32)), .val (.int ((0 : Int32) + (1 : Int32))), .val (.ref w_1)] [(.ref w_5)])) _
    refine XS.iload X207.here hx rfl (hb hby d2_17) rfl ?_
    show Steps p.tables e below (T207.setTop (mkF m 19 #[.val (.ref w_2), .val (.ref w_3), .val (.ref w_5), .val (.int (4 : Int32)), .val (.int ((0 : Int32) + (1 : Int32))), .val (.ref w_1)] [(.int ((0 : Int32) + (1 : Int32))), (.ref w_5)])) _
    refine X207.aaload hx (j := ((0 : Int32) + (1 : Int32))) (v := (.ref w_2)) (by rw [e207]; exact Ar208.1) (State.isArrayOf_alike hZ.alike Ar208.2.1) rfl Ar208.2.2 hin208 hat208 (g := (mkF m 19 #[.val (.ref w_2), .val (.ref w_3), .val (.ref w_5), .val (.int (4 : Int32)), .val (.int ((0 : Int32) + (1 : Int32))), .val (.ref w_1)] [(.int ((0 : Int32) + (1 : Int32))), (.ref w_5)])) rfl rfl (hb hby d2_19) _ ?_
    show Steps p.tables e below (T207.setTop (mkF m 20 #[.val (.ref w_2), .val (.ref w_3), .val (.ref w_5), .val (.int (4 : Int32)), .val (.int ((0 : Int32) + (1 : Int32))), .val (.ref w_1)] [(.ref w_2)])) _
    refine XS.astore X207.here hx rfl (hb hby d2_20) rfl rfl (l' := #[.val (.ref w_2), .val (.ref w_3), .val (.ref w_5), .val (.int (4 : Int32)), .val (.int ((0 : Int32) + (1 : Int32))), .val (.ref w_2)]) rfl ?_
    show Steps p.tables e below (T207.setTop (mkF m 22 #[.val (.ref w_2), .val (.ref w_3), .val (.ref w_5), .val (.int (4 : Int32)), .val (.int ((0 : Int32) + (1 : Int32))), .val (.ref w_2)] [])) _
    refine XS.aloadN X207.here hx rfl (hb hby d2_22) rfl rfl ?_
    show Steps p.tables e below (T207.setTop (mkF m 23 #[.val (.ref w_2), .val (.ref w_3), .val (.ref w_5), .val (.int (4 : Int32)), .val (.int ((0 : Int32) + (1 : Int32))), .val (.ref w_2)] [(.ref w_3)])) _
    refine XS.aload X207.here hx rfl (hb hby d2_23) rfl rfl ?_
    show Steps p.tables e below (T207.setTop (mkF m 25 #[.val (.ref w_2), .val (.ref w_3), .val (.ref w_5), .val (.int (4 : Int32)), .val (.int ((0 : Int32) + (1 : Int32))), .val (.ref w_2)] [(.ref w_2), (.ref w_3)])) _
    refine st209.trans ?_
    show Steps p.tables e below (T209.setTop (mkF m 28 #[.val (.ref w_2), .val (.ref w_3), .val (.ref w_5), .val (.int (4 : Int32)), .val (.int ((0 : Int32) + (1 : Int32))), .val (.ref w_2)] [(.int (1 : Int32))])) _
    refine XS.ifNo X209.here hx rfl (hb hby d2_28) rfl ((if0 _ _).trans (feq (by decide : ¬ ((1 : Int32) = (0 : Int32)))).1) ?_
    show Steps p.tables e below (T209.setTop (mkF m 31 #[.val (.ref w_2), .val (.ref w_3), .val (.ref w_5), .val (.int (4 : Int32)), .val (.int ((0 : Int32) + (1 : Int32))), .val (.ref w_2)] [])) _
    refine XS.aloadN X209.here hx rfl (hb hby d2_31) rfl rfl ?_
    show Steps p.tables e below (T209.setTop (mkF m 32 #[.val (.ref w_2), .val (.ref w_3), .val (.ref w_5), .val (.int (4 : Int32)), .val (.int ((0 : Int32) + (1 : Int32))), .val (.ref w_2)] [(.ref w_2)])) _
    refine XS.aload X209.here hx rfl (hb hby d2_32) rfl rfl ?_
    show Steps p.tables e below (T209.setTop (mkF m 34 #[.val (.ref w_2), .val (.ref w_3), .val (.ref w_5), .val (.int (4 : Int32)), .val (.int ((0 : Int32) + (1 : Int32))), .val (.ref w_2)] [(.ref w_2), (.ref w_2)])) _
    refine st210.trans ?_
    show Steps p.tables e below (T210.setTop (mkF m 37 #[.val (.ref w_2), .val (.ref w_3), .val (.ref w_5), .val (.int (4 : Int32)), .val (.int ((0 : Int32) + (1 : Int32))), .val (.ref w_2)] [(.int (0 : Int32))])) _
    refine XS.ifNo X210.here hx rfl (hb hby d2_37) rfl ((if0 _ _).trans (teq (by decide : ((0 : Int32) = (0 : Int32)))).2) ?_
    show Steps p.tables e below (T210.setTop (mkF m 40 #[.val (.ref w_2), .val (.ref w_3), .val (.ref w_5), .val (.int (4 : Int32)), .val (.int ((0 : Int32) + (1 : Int32))), .val (.ref w_2)] [])) _
    refine XS.iconst X210.here hx rfl (hb hby d2_40) ?_
    show Steps p.tables e below (T210.setTop (mkF m 41 #[.val (.ref w_2), .val (.ref w_3), .val (.ref w_5), .val (.int (4 : Int32)), .val (.int ((0 : Int32) + (1 : Int32))), .val (.ref w_2)] [(.int (0 : Int32))])) _
    exact retN X210 hx (t := .boolean) Bd.returns (by simp) (hb hby d2_41) hr
  · show Q2x10 Z w_1 w_2 w_3 w_4 w_5 k_5 h0 n0 _ T210.heap _
    rw [e210]
    exact ⟨by unfold sp2x10; rfl, N210, rfl⟩
theorem pn_1x10 : plainName "com/example/lucid_locks/lucidlocks/locks/LockMode" = true := by first | (simp [plainName, overriddenIn]; done) | decide +kernel
theorem ef_1x10 (m : MethodId) (w_3 : Addr) (w_2 : Addr) : entryFrame m #[(.ref w_3), (.ref w_2)] 2 = mkF m 0 #[.val (.ref w_3), .val (.ref w_2)] [] := by first | (simp [entryFrame, mkF, argsToLocals, Value.category]; done) | rfl
def sp1x10 (w_3 : Addr) : Value := (.ref w_3)
def Q1x10 (Z : State) (w_1 : Addr) (w_2 : Addr) (w_3 : Addr) (w_4 : Addr) (w_5 : Addr) (k_5 : ClassId) (h0 : Heap) (n0 : Nat) (v : Option Value) (h : Heap) (L : List Loc) : Prop := v = some (sp1x10 w_3) ∧ Fr n0 L ∧ h = h0
set_option maxRecDepth 65536 in
set_option maxHeartbeats 40000000 in
theorem rm1x10 (l : Launch) (Z : State) (a0 : Array Value) (hw : ∀ d ∈ tables_1, d.before a0 Z = true) (ws : List Jvm.Cond) (w_1 : Addr) (w_2 : Addr) (w_3 : Addr) (w_4 : Addr) (w_5 : Addr) (k_5 : ClassId) (hS : StF Z w_1 w_2 w_3 w_4 w_5 k_5) (h0 : Heap) (n0 : Nat) (O0 : Old Z n0 h0) :
    MetFree l Y2 (head1 (Jvm.Cond.code Y2 prog_17_method_6_code 2 (some (.object "com/example/lucid_locks/lucidlocks/locks/LockMode")) :: ws) ({ frames := 2, cells := 0, slots := 0, locals := 30 } : Room)) (fun a U => a = #[(.ref w_3), (.ref w_2)] ∧ Z.Warmed39 U.vm ∧ U.heap = h0) (fun _ _ _ _ _ => True) (fun _ U o U' => ∃ v L, o = .returned v ∧ Q1x10 Z w_1 w_2 w_3 w_4 w_5 k_5 h0 n0 v U'.heap L ∧ FrameEnd U o U' L ({ frames := 2, cells := 0, slots := 0, locals := 30 } : Room).cells ({ frames := 2, cells := 0, slots := 0, locals := 30 } : Room).slots) := by
  refine MetFree.of_bodySF (plainFor_of_name pn_1x10) hisR ?_
  intro p e s m args below meth c s₁ Bd hml0 hP hK
  obtain ⟨rfl, hZ, hh⟩ := hP
  have hx := Bd.exec
  have hby := Bd.bytes
  have hml : c.maxLocals = 2 := hml0
  have hown : s.vm.findClass "com/example/lucid_locks/lucidlocks/locks/LockMode" = some m.cls := findClass_of_methodNamed Bd.named
  have hnm := (name_of_methodNamed Bd.named Bd.method).1
  have X0 : Stand p l e ({ frames := 2, cells := 0, slots := 0, locals := 30 } : Room) s m #[(.ref w_3), (.ref w_2)] below meth c s₁ [] 0 0 := Stand.of_body Bd
  have e0 : s₁.heap = h0 := by rw [← hh, Bd.state]; rfl
  have N0 := Fr.nil n0
  have hS0 := hS
  obtain ⟨S_1, E_1, S_2, E_2, S_3, E_3, S_4, E_4, S_5, F_1_sharedWithItself, F_1_ordinal, F_2_ordinal, F_4_ordinal, F_3_ordinal, F_4_sharedWithItself, F_2_sharedWithItself, F_3_sharedWithItself, V_5⟩ := hS
  have pre0 : ∀ t, Steps p.tables e below (s₁.setTop (mkF m 0 #[.val (.ref w_3), .val (.ref w_2)] [])) t → Steps p.tables e below (s₁.setTop (entryFrame m #[(.ref w_3), (.ref w_2)] 2)) t := fun t k => castTop (ef_1x10 m w_3 w_2) k
  obtain ⟨cq211, kq211, q211a, q211b, q211c⟩ := isOf hZ e0 (E_2.ext O0.2)
  obtain ⟨_, _, ⟨T211, L211, k211, n211⟩, -, X211, ⟨Lc211, hQ211, l211, y211, z211⟩, st211⟩ := X0.virtualBack hx (y := Y1) (z := Y1) hown (mvT hZ (hw _ (tk 17 rfl))) (mvT hZ (hw _ (tk 18 rfl))) (notFace_of_selects (args := #[]) (mvT hZ (hw _ (tk 20 rfl)))) (mvT hZ (hw _ (tk 20 rfl))) (mvT hZ (hw _ (tk 19 rfl))) (by decide) (backOf (W := 0) (rm2x10 l Z a0 hw [] w_1 w_2 w_3 w_4 w_5 k_5 hS0 h0 n0 O0) hZ (hw _ (tk 21 rfl)) (hw _ (tk 3 rfl)) (by decide) (by decide)) q211a q211c (g := (mkF m 2 #[.val (.ref w_3), .val (.ref w_2)] [(.ref w_3), (.ref w_2)])) rfl (by rw [hml]; rfl) (Steps.refl _) (argsL := [(.ref w_3)]) (rest := []) (lenOf pd_0 rfl) rfl (by show 2 * 0 + _ ≤ _; exact Nat.le_of_eq rfl) (hb hby d1_2) (fun _ _ => ⟨rfl, e0, (by decide : 0 + 0 ≤ _), (by decide : 0 + 0 ≤ _)⟩)
  dsimp only [Pt.U, Pt.locs, Pt.cells, Pt.slots] at X211 l211 y211 z211 st211 hQ211
  subst l211 y211 z211
  obtain ⟨rv211, N211q, e211⟩ := hQ211
  rw [show sp2x10 = (0 : Int32) from by unfold sp2x10; rfl] at rv211
  subst rv211
  have N211 := Fr.app N0 N211q
  obtain ⟨T212, X212, e212, st212⟩ := getS2 X211 hx hZ hown (host := "") (Or.inl (hw _ (tk 31 rfl))) Via.refl e211 (S_3.ext O0.2) (g := (mkF m 12 #[.val (.ref w_3), .val (.ref w_2)] [])) rfl (hb hby d1_12)
  obtain ⟨fs, hr, hrun, hended, hW, hsame⟩ := X212.leave (v := some (.ref w_3)) (fun h => by rw [Bd.returns] at h; cases h)
  refine ⟨_, _, pre0 _ ?_, hrun, hended, _, _, rfl, ?_, ⟨_, rfl⟩, hW, hsame.mono (by decide) (by decide)⟩
  · show Steps p.tables e below (s₁.setTop (mkF m 0 #[.val (.ref w_3), .val (.ref w_2)] [])) _
    refine XS.aloadN X0.here hx rfl (hb hby d1_0) rfl rfl ?_
    show Steps p.tables e below (s₁.setTop (mkF m 1 #[.val (.ref w_3), .val (.ref w_2)] [(.ref w_2)])) _
    refine XS.aloadN X0.here hx rfl (hb hby d1_1) rfl rfl ?_
    show Steps p.tables e below (s₁.setTop (mkF m 2 #[.val (.ref w_3), .val (.ref w_2)] [(.ref w_3), (.ref w_2)])) _
    refine st211.trans ?_
    show Steps p.tables e below (T211.setTop (mkF m 5 #[.val (.ref w_3), .val (.ref w_2)] [(.int (0 : Int32))])) _
    refine XS.ifYes X211.here hx rfl (pc0 := 5) (pc' := 12) rfl (hb hby d1_5) rfl ((if0 _ _).trans (teq (by decide : ((0 : Int32) = (0 : Int32)))).1) (by decide) (by decide) ?_
    show Steps p.tables e below (T211.setTop (mkF m 12 #[.val (.ref w_3), .val (.ref w_2)] [])) _
    refine st212 _ ?_
    show Steps p.tables e below (T212.setTop (mkF m 15 #[.val (.ref w_3), .val (.ref w_2)] [(.ref w_3)])) _
    jvm_step X212.here [X212.here.top, hx, (hb hby d1_15), X212.method', Bd.returns, Value.isRef, FieldType.isReference]
    first | (intro acts; rw [hr _ acts rfl rfl rfl]) | rw [hr _ _ rfl rfl rfl]
    exact Steps.refl _
  · show Q1x10 Z w_1 w_2 w_3 w_4 w_5 k_5 h0 n0 _ T212.heap _
    rw [e212]
    exact ⟨by unfold sp1x10; rfl, N211, rfl⟩
theorem pn_2x11 : plainName "com/example/lucid_locks/lucidlocks/locks/LockMode" = true := by first | (simp [plainName, overriddenIn]; done) | decide +kernel
theorem ef_2x11 (m : MethodId) (w_3 : Addr) : entryFrame m #[(.ref w_3), (.ref w_3)] 6 = mkF m 0 #[.val (.ref w_3), .val (.ref w_3), .unset, .unset, .unset, .unset] [] := by first | (simp [entryFrame, mkF, argsToLocals, Value.category]; done) | rfl
def sp2x11  : Int32 := (1 : Int32)
def Q2x11 (Z : State) (w_1 : Addr) (w_2 : Addr) (w_3 : Addr) (w_4 : Addr) (w_5 : Addr) (k_5 : ClassId) (h0 : Heap) (n0 : Nat) (v : Option Value) (h : Heap) (L : List Loc) : Prop := v = some (.int (sp2x11)) ∧ Fr n0 L ∧ h = h0
set_option maxRecDepth 65536 in
set_option maxHeartbeats 40000000 in
theorem rm2x11 (l : Launch) (Z : State) (a0 : Array Value) (hw : ∀ d ∈ tables_1, d.before a0 Z = true) (ws : List Jvm.Cond) (w_1 : Addr) (w_2 : Addr) (w_3 : Addr) (w_4 : Addr) (w_5 : Addr) (k_5 : ClassId) (hS : StF Z w_1 w_2 w_3 w_4 w_5 k_5) (h0 : Heap) (n0 : Nat) (O0 : Old Z n0 h0) :
    MetFree l Y1 (head1 (Jvm.Cond.code Y1 prog_17_method_7_code 6 (some .boolean) :: ws) ({ frames := 1, cells := 0, slots := 0, locals := 13 } : Room)) (fun a U => a = #[(.ref w_3), (.ref w_3)] ∧ Z.Warmed39 U.vm ∧ U.heap = h0) (fun _ _ _ _ _ => True) (fun _ U o U' => ∃ v L, o = .returned v ∧ Q2x11 Z w_1 w_2 w_3 w_4 w_5 k_5 h0 n0 v U'.heap L ∧ FrameEnd U o U' L ({ frames := 1, cells := 0, slots := 0, locals := 13 } : Room).cells ({ frames := 1, cells := 0, slots := 0, locals := 13 } : Room).slots) := by
  refine MetFree.of_bodySF (plainFor_of_name pn_2x11) hisR ?_
  intro p e s m args below meth c s₁ Bd hml0 hP hK
  obtain ⟨rfl, hZ, hh⟩ := hP
  have hx := Bd.exec
  have hby := Bd.bytes
  have hml : c.maxLocals = 6 := hml0
  have hown : s.vm.findClass "com/example/lucid_locks/lucidlocks/locks/LockMode" = some m.cls := findClass_of_methodNamed Bd.named
  have hnm := (name_of_methodNamed Bd.named Bd.method).1
  have X0 : Stand p l e ({ frames := 1, cells := 0, slots := 0, locals := 13 } : Room) s m #[(.ref w_3), (.ref w_3)] below meth c s₁ [] 0 0 := Stand.of_body Bd
  have e0 : s₁.heap = h0 := by rw [← hh, Bd.state]; rfl
  have N0 := Fr.nil n0
  have hS0 := hS
  obtain ⟨S_1, E_1, S_2, E_2, S_3, E_3, S_4, E_4, S_5, F_1_sharedWithItself, F_1_ordinal, F_2_ordinal, F_4_ordinal, F_3_ordinal, F_4_sharedWithItself, F_2_sharedWithItself, F_3_sharedWithItself, V_5⟩ := hS
  have pre0 : ∀ t, Steps p.tables e below (s₁.setTop (mkF m 0 #[.val (.ref w_3), .val (.ref w_3), .unset, .unset, .unset, .unset] [])) t → Steps p.tables e below (s₁.setTop (entryFrame m #[(.ref w_3), (.ref w_3)] 6)) t := fun t k => castTop (ef_2x11 m w_3) k
  obtain ⟨T216, X216, e216, st216⟩ := getS2 X0 hx hZ hown (host := "") (Or.inl (hw _ (tk 22 rfl))) Via.refl e0 (S_5.ext O0.2) (g := (mkF m 0 #[.val (.ref w_3), .val (.ref w_3), .unset, .unset, .unset, .unset] [])) rfl (hb hby d2_0)
  obtain ⟨cl217, Ar217, qa217, Sa217, Ma217, Ha217, Ga217⟩ := id (V_5.ext O0.2)
  obtain ⟨cl218, Ar218, qa218, Sa218, Ma218, Ha218, Ga218⟩ := id (V_5.ext O0.2)
  have hin218 : ¬ ((0 : Int32) < 0 ∨ cl218.slots.size ≤ ((0 : Int32)).toNatClampNeg) := by  exact inb_of Sa218 ⟨by decide, by decide⟩
  have hat218 : cl218.slots[((0 : Int32)).toNatClampNeg]? = some (.ref w_1) := Has.at Ha218 hin218 (by rfl)
  obtain ⟨cq219, kq219, q219a, q219b, q219c⟩ := isOf hZ e216 (E_3.ext O0.2)
  obtain ⟨_, _, ⟨T219, L219, k219, n219⟩, -, X219, ⟨Lc219, hQ219, l219, y219, z219⟩, st219⟩ := X216.virtualBack hx (y := Y0) (z := Y0) hown (mvT hZ (hw _ (tk 24 rfl))) (mvT hZ (hw _ (tk 25 rfl))) (notFace_of_selects (args := #[]) (mvT hZ (hw _ (tk 27 rfl)))) (mvT hZ (hw _ (tk 27 rfl))) (mvT hZ (hw _ (tk 26 rfl))) (by decide) (backOf (W := 0) (rm3 l Z a0 hw [] w_1 w_2 w_3 w_4 w_5 k_5 hS0 w_3 w_1 (0 : Int32) h0 n0 O0 (F_3_sharedWithItself.ext O0.2)) hZ (hw _ (tk 28 rfl)) (hw _ (tk 3 rfl)) (by decide) (by decide)) q219a q219c (g := (mkF m 25 #[.val (.ref w_3), .val (.ref w_3), .val (.ref w_5), .val (.int (4 : Int32)), .val (.int (0 : Int32)), .val (.ref w_1)] [(.ref w_1), (.ref w_3)])) rfl (by rw [hml]; rfl) (Steps.refl _) (argsL := [(.ref w_1)]) (rest := []) (lenOf pd_0 rfl) rfl (by show 2 * 0 + _ ≤ _; exact Nat.le_of_eq rfl) (hb hby d2_25) (fun _ _ => ⟨rfl, e216, (by decide : 0 + 0 ≤ _), (by decide : 0 + 0 ≤ _)⟩)
  dsimp only [Pt.U, Pt.locs, Pt.cells, Pt.slots] at X219 l219 y219 z219 st219 hQ219
  subst l219 y219 z219
  obtain ⟨rv219, N219q, e219⟩ := hQ219
  rw [show sp3 w_3 w_1 (0 : Int32) = (1 : Int32) from by unfold sp3; rw [if_neg (Fld.ne F_3_ordinal F_1_ordinal (by decide))]] at rv219
  subst rv219
  have N219 := Fr.app N0 N219q
  obtain ⟨cq220, kq220, q220a, q220b, q220c⟩ := isOf hZ e219 (E_3.ext O0.2)
  obtain ⟨_, _, ⟨T220, L220, k220, n220⟩, -, X220, ⟨Lc220, hQ220, l220, y220, z220⟩, st220⟩ := X219.virtualBack hx (y := Y0) (z := Y0) hown (mvT hZ (hw _ (tk 24 rfl))) (mvT hZ (hw _ (tk 25 rfl))) (notFace_of_selects (args := #[]) (mvT hZ (hw _ (tk 27 rfl)))) (mvT hZ (hw _ (tk 27 rfl))) (mvT hZ (hw _ (tk 26 rfl))) (by decide) (backOf (W := 0) (rm3 l Z a0 hw [] w_1 w_2 w_3 w_4 w_5 k_5 hS0 w_3 w_1 (0 : Int32) h0 n0 O0 (F_3_sharedWithItself.ext O0.2)) hZ (hw _ (tk 28 rfl)) (hw _ (tk 3 rfl)) (by decide) (by decide)) q220a q220c (g := (mkF m 34 #[.val (.ref w_3), .val (.ref w_3), .val (.ref w_5), .val (.int (4 : Int32)), .val (.int (0 : Int32)), .val (.ref w_1)] [(.ref w_1), (.ref w_3)])) rfl (by rw [hml]; rfl) (Steps.refl _) (argsL := [(.ref w_1)]) (rest := []) (lenOf pd_0 rfl) rfl (by show 2 * 0 + _ ≤ _; exact Nat.le_of_eq rfl) (hb hby d2_34) (fun _ _ => ⟨rfl, e219, (by decide : 0 + 0 ≤ _), (by decide : 0 + 0 ≤ _)⟩)
  dsimp only [Pt.U, Pt.locs, Pt.cells, Pt.slots] at X220 l220 y220 z220 st220 hQ220
  subst l220 y220 z220
  obtain ⟨rv220, N220q, e220⟩ := hQ220
  rw [show sp3 w_3 w_1 (0 : Int32) = (1 : Int32) from by unfold sp3; rw [if_neg (Fld.ne F_3_ordinal F_1_ordinal (by decide))]] at rv220
  subst rv220
  have N220 := Fr.app N219 N220q
  obtain ⟨cl221, Ar221, qa221, Sa221, Ma221, Ha221, Ga221⟩ := id (V_5.ext O0.2)
  have hin221 : ¬ (((0 : Int32) + (1 : Int32)) < 0 ∨ cl221.slots.size ≤ (((0 : Int32) + (1 : Int32))).toNatClampNeg) := by  exact inb_of Sa221 ⟨by decide, by decide⟩
  have hat221 : cl221.slots[(((0 : Int32) + (1 : Int32))).toNatClampNeg]? = some (.ref w_2) := Has.at Ha221 hin221 (by rfl)
  obtain ⟨cq222, kq222, q222a, q222b, q222c⟩ := isOf hZ e220 (E_3.ext O0.2)
  obtain ⟨_, _, ⟨T222, L222, k222, n222⟩, -, X222, ⟨Lc222, hQ222, l222, y222, z222⟩, st222⟩ := X220.virtualBack hx (y := Y0) (z := Y0) hown (mvT hZ (hw _ (tk 24 rfl))) (mvT hZ (hw _ (tk 25 rfl))) (notFace_of_selects (args := #[]) (mvT hZ (hw _ (tk 27 rfl)))) (mvT hZ (hw _ (tk 27 rfl))) (mvT hZ (hw _ (tk 26 rfl))) (by decide) (backOf (W := 0) (rm3 l Z a0 hw [] w_1 w_2 w_3 w_4 w_5 k_5 hS0 w_3 w_2 (0 : Int32) h0 n0 O0 (F_3_sharedWithItself.ext O0.2)) hZ (hw _ (tk 28 rfl)) (hw _ (tk 3 rfl)) (by decide) (by decide)) q222a q222c (g := (mkF m 25 #[.val (.ref w_3), .val (.ref w_3), .val (.ref w_5), .val (.int (4 : Int32)), .val (.int ((0 : Int32) + (1 : Int32))), .val (.ref w_2)] [(.ref w_2), (.ref w_3)])) rfl (by rw [hml]; rfl) (Steps.refl _) (argsL := [(.ref w_2)]) (rest := []) (lenOf pd_0 rfl) rfl (by show 2 * 0 + _ ≤ _; exact Nat.le_of_eq rfl) (hb hby d2_25) (fun _ _ => ⟨rfl, e220, (by decide : 0 + 0 ≤ _), (by decide : 0 + 0 ≤ _)⟩)
  dsimp only [Pt.U, Pt.locs, Pt.cells, Pt.slots] at X222 l222 y222 z222 st222 hQ222
  subst l222 y222 z222
  obtain ⟨rv222, N222q, e222⟩ := hQ222
  rw [show sp3 w_3 w_2 (0 : Int32) = (1 : Int32) from by unfold sp3; rw [if_neg (Fld.ne F_3_ordinal F_2_ordinal (by decide))]] at rv222
  subst rv222
  have N222 := Fr.app N220 N222q
  obtain ⟨cq223, kq223, q223a, q223b, q223c⟩ := isOf hZ e222 (E_3.ext O0.2)
  obtain ⟨_, _, ⟨T223, L223, k223, n223⟩, -, X223, ⟨Lc223, hQ223, l223, y223, z223⟩, st223⟩ := X222.virtualBack hx (y := Y0) (z := Y0) hown (mvT hZ (hw _ (tk 24 rfl))) (mvT hZ (hw _ (tk 25 rfl))) (notFace_of_selects (args := #[]) (mvT hZ (hw _ (tk 27 rfl)))) (mvT hZ (hw _ (tk 27 rfl))) (mvT hZ (hw _ (tk 26 rfl))) (by decide) (backOf (W := 0) (rm3 l Z a0 hw [] w_1 w_2 w_3 w_4 w_5 k_5 hS0 w_3 w_2 (0 : Int32) h0 n0 O0 (F_3_sharedWithItself.ext O0.2)) hZ (hw _ (tk 28 rfl)) (hw _ (tk 3 rfl)) (by decide) (by decide)) q223a q223c (g := (mkF m 34 #[.val (.ref w_3), .val (.ref w_3), .val (.ref w_5), .val (.int (4 : Int32)), .val (.int ((0 : Int32) + (1 : Int32))), .val (.ref w_2)] [(.ref w_2), (.ref w_3)])) rfl (by rw [hml]; rfl) (Steps.refl _) (argsL := [(.ref w_2)]) (rest := []) (lenOf pd_0 rfl) rfl (by show 2 * 0 + _ ≤ _; exact Nat.le_of_eq rfl) (hb hby d2_34) (fun _ _ => ⟨rfl, e222, (by decide : 0 + 0 ≤ _), (by decide : 0 + 0 ≤ _)⟩)
  dsimp only [Pt.U, Pt.locs, Pt.cells, Pt.slots] at X223 l223 y223 z223 st223 hQ223
  subst l223 y223 z223
  obtain ⟨rv223, N223q, e223⟩ := hQ223
  rw [show sp3 w_3 w_2 (0 : Int32) = (1 : Int32) from by unfold sp3; rw [if_neg (Fld.ne F_3_ordinal F_2_ordinal (by decide))]] at rv223
  subst rv223
  have N223 := Fr.app N222 N223q
  obtain ⟨cl224, Ar224, qa224, Sa224, Ma224, Ha224, Ga224⟩ := id (V_5.ext O0.2)
  have hin224 : ¬ ((((0 : Int32) + (1 : Int32)) + (1 : Int32)) < 0 ∨ cl224.slots.size ≤ ((((0 : Int32) + (1 : Int32)) + (1 : Int32))).toNatClampNeg) := by  exact inb_of Sa224 ⟨by decide, by decide⟩
  have hat224 : cl224.slots[((((0 : Int32) + (1 : Int32)) + (1 : Int32))).toNatClampNeg]? = some (.ref w_3) := Has.at Ha224 hin224 (by rfl)
  obtain ⟨cq225, kq225, q225a, q225b, q225c⟩ := isOf hZ e223 (E_3.ext O0.2)
  obtain ⟨_, _, ⟨T225, L225, k225, n225⟩, -, X225, ⟨Lc225, hQ225, l225, y225, z225⟩, st225⟩ := X223.virtualBack hx (y := Y0) (z := Y0) hown (mvT hZ (hw _ (tk 24 rfl))) (mvT hZ (hw _ (tk 25 rfl))) (notFace_of_selects (args := #[]) (mvT hZ (hw _ (tk 27 rfl)))) (mvT hZ (hw _ (tk 27 rfl))) (mvT hZ (hw _ (tk 26 rfl))) (by decide) (backOf (W := 0) (rm3 l Z a0 hw [] w_1 w_2 w_3 w_4 w_5 k_5 hS0 w_3 w_3 (0 : Int32) h0 n0 O0 (F_3_sharedWithItself.ext O0.2)) hZ (hw _ (tk 28 rfl)) (hw _ (tk 3 rfl)) (by decide) (by decide)) q225a q225c (g := (mkF m 25 #[.val (.ref w_3), .val (.ref w_3), .val (.ref w_5), .val (.int (4 : Int32)), .val (.int (((0 : Int32) + (1 : Int32)) + (1 : Int32))), .val (.ref w_3)] [(.ref w_3), (.ref w_3)])) rfl (by rw [hml]; rfl) (Steps.refl _) (argsL := [(.ref w_3)]) (rest := []) (lenOf pd_0 rfl) rfl (by show 2 * 0 + _ ≤ _; exact Nat.le_of_eq rfl) (hb hby d2_25) (fun _ _ => ⟨rfl, e223, (by decide : 0 + 0 ≤ _), (by decide : 0 + 0 ≤ _)⟩)
  dsimp only [Pt.U, Pt.locs, Pt.cells, Pt.slots] at X225 l225 y225 z225 st225 hQ225
  subst l225 y225 z225
  obtain ⟨rv225, N225q, e225⟩ := hQ225
  rw [show sp3 w_3 w_3 (0 : Int32) = (1 : Int32) from by unfold sp3; rw [if_pos rfl, if_pos (by decide : ((0 : Int32) = (0 : Int32)))]] at rv225
  subst rv225
  have N225 := Fr.app N223 N225q
  obtain ⟨cq226, kq226, q226a, q226b, q226c⟩ := isOf hZ e225 (E_3.ext O0.2)
  obtain ⟨_, _, ⟨T226, L226, k226, n226⟩, -, X226, ⟨Lc226, hQ226, l226, y226, z226⟩, st226⟩ := X225.virtualBack hx (y := Y0) (z := Y0) hown (mvT hZ (hw _ (tk 24 rfl))) (mvT hZ (hw _ (tk 25 rfl))) (notFace_of_selects (args := #[]) (mvT hZ (hw _ (tk 27 rfl)))) (mvT hZ (hw _ (tk 27 rfl))) (mvT hZ (hw _ (tk 26 rfl))) (by decide) (backOf (W := 0) (rm3 l Z a0 hw [] w_1 w_2 w_3 w_4 w_5 k_5 hS0 w_3 w_3 (0 : Int32) h0 n0 O0 (F_3_sharedWithItself.ext O0.2)) hZ (hw _ (tk 28 rfl)) (hw _ (tk 3 rfl)) (by decide) (by decide)) q226a q226c (g := (mkF m 34 #[.val (.ref w_3), .val (.ref w_3), .val (.ref w_5), .val (.int (4 : Int32)), .val (.int (((0 : Int32) + (1 : Int32)) + (1 : Int32))), .val (.ref w_3)] [(.ref w_3), (.ref w_3)])) rfl (by rw [hml]; rfl) (Steps.refl _) (argsL := [(.ref w_3)]) (rest := []) (lenOf pd_0 rfl) rfl (by show 2 * 0 + _ ≤ _; exact Nat.le_of_eq rfl) (hb hby d2_34) (fun _ _ => ⟨rfl, e225, (by decide : 0 + 0 ≤ _), (by decide : 0 + 0 ≤ _)⟩)
  dsimp only [Pt.U, Pt.locs, Pt.cells, Pt.slots] at X226 l226 y226 z226 st226 hQ226
  subst l226 y226 z226
  obtain ⟨rv226, N226q, e226⟩ := hQ226
  rw [show sp3 w_3 w_3 (0 : Int32) = (1 : Int32) from by unfold sp3; rw [if_pos rfl, if_pos (by decide : ((0 : Int32) = (0 : Int32)))]] at rv226
  subst rv226
  have N226 := Fr.app N225 N226q
  obtain ⟨cl227, Ar227, qa227, Sa227, Ma227, Ha227, Ga227⟩ := id (V_5.ext O0.2)
  have hin227 : ¬ (((((0 : Int32) + (1 : Int32)) + (1 : Int32)) + (1 : Int32)) < 0 ∨ cl227.slots.size ≤ (((((0 : Int32) + (1 : Int32)) + (1 : Int32)) + (1 : Int32))).toNatClampNeg) := by  exact inb_of Sa227 ⟨by decide, by decide⟩
  have hat227 : cl227.slots[(((((0 : Int32) + (1 : Int32)) + (1 : Int32)) + (1 : Int32))).toNatClampNeg]? = some (.ref w_4) := Has.at Ha227 hin227 (by rfl)
  obtain ⟨cq228, kq228, q228a, q228b, q228c⟩ := isOf hZ e226 (E_3.ext O0.2)
  obtain ⟨_, _, ⟨T228, L228, k228, n228⟩, -, X228, ⟨Lc228, hQ228, l228, y228, z228⟩, st228⟩ := X226.virtualBack hx (y := Y0) (z := Y0) hown (mvT hZ (hw _ (tk 24 rfl))) (mvT hZ (hw _ (tk 25 rfl))) (notFace_of_selects (args := #[]) (mvT hZ (hw _ (tk 27 rfl)))) (mvT hZ (hw _ (tk 27 rfl))) (mvT hZ (hw _ (tk 26 rfl))) (by decide) (backOf (W := 0) (rm3 l Z a0 hw [] w_1 w_2 w_3 w_4 w_5 k_5 hS0 w_3 w_4 (0 : Int32) h0 n0 O0 (F_3_sharedWithItself.ext O0.2)) hZ (hw _ (tk 28 rfl)) (hw _ (tk 3 rfl)) (by decide) (by decide)) q228a q228c (g := (mkF m 25 #[.val (.ref w_3), .val (.ref w_3), .val (.ref w_5), .val (.int (4 : Int32)), .val (.int ((((0 : Int32) + (1 : Int32)) + (1 : Int32)) + (1 : Int32))), .val (.ref w_4)] [(.ref w_4), (.ref w_3)])) rfl (by rw [hml]; rfl) (Steps.refl _) (argsL := [(.ref w_4)]) (rest := []) (lenOf pd_0 rfl) rfl (by show 2 * 0 + _ ≤ _; exact Nat.le_of_eq rfl) (hb hby d2_25) (fun _ _ => ⟨rfl, e226, (by decide : 0 + 0 ≤ _), (by decide : 0 + 0 ≤ _)⟩)
  dsimp only [Pt.U, Pt.locs, Pt.cells, Pt.slots] at X228 l228 y228 z228 st228 hQ228
  subst l228 y228 z228
  obtain ⟨rv228, N228q, e228⟩ := hQ228
  rw [show sp3 w_3 w_4 (0 : Int32) = (1 : Int32) from by unfold sp3; rw [if_neg (Fld.ne F_3_ordinal F_4_ordinal (by decide))]] at rv228
  subst rv228
  have N228 := Fr.app N226 N228q
  obtain ⟨cq229, kq229, q229a, q229b, q229c⟩ := isOf hZ e228 (E_3.ext O0.2)
  obtain ⟨_, _, ⟨T229, L229, k229, n229⟩, -, X229, ⟨Lc229, hQ229, l229, y229, z229⟩, st229⟩ := X228.virtualBack hx (y := Y0) (z := Y0) hown (mvT hZ (hw _ (tk 24 rfl))) (mvT hZ (hw _ (tk 25 rfl))) (notFace_of_selects (args := #[]) (mvT hZ (hw _ (tk 27 rfl)))) (mvT hZ (hw _ (tk 27 rfl))) (mvT hZ (hw _ (tk 26 rfl))) (by decide) (backOf (W := 0) (rm3 l Z a0 hw [] w_1 w_2 w_3 w_4 w_5 k_5 hS0 w_3 w_4 (0 : Int32) h0 n0 O0 (F_3_sharedWithItself.ext O0.2)) hZ (hw _ (tk 28 rfl)) (hw _ (tk 3 rfl)) (by decide) (by decide)) q229a q229c (g := (mkF m 34 #[.val (.ref w_3), .val (.ref w_3), .val (.ref w_5), .val (.int (4 : Int32)), .val (.int ((((0 : Int32) + (1 : Int32)) + (1 : Int32)) + (1 : Int32))), .val (.ref w_4)] [(.ref w_4), (.ref w_3)])) rfl (by rw [hml]; rfl) (Steps.refl _) (argsL := [(.ref w_4)]) (rest := []) (lenOf pd_0 rfl) rfl (by show 2 * 0 + _ ≤ _; exact Nat.le_of_eq rfl) (hb hby d2_34) (fun _ _ => ⟨rfl, e228, (by decide : 0 + 0 ≤ _), (by decide : 0 + 0 ≤ _)⟩)
  dsimp only [Pt.U, Pt.locs, Pt.cells, Pt.slots] at X229 l229 y229 z229 st229 hQ229
  subst l229 y229 z229
  obtain ⟨rv229, N229q, e229⟩ := hQ229
  rw [show sp3 w_3 w_4 (0 : Int32) = (1 : Int32) from by unfold sp3; rw [if_neg (Fld.ne F_3_ordinal F_4_ordinal (by decide))]] at rv229
  subst rv229
  have N229 := Fr.app N228 N229q
  obtain ⟨fs, hr, hrun, hended, hW, hsame⟩ := X229.leave (v := some (.int (1 : Int32))) (fun h => by rw [Bd.returns] at h; cases h)
  refine ⟨_, _, pre0 _ ?_, hrun, hended, _, _, rfl, ?_, ⟨_, rfl⟩, hW, hsame.mono (by decide) (by decide)⟩
  · show Steps p.tables e below (s₁.setTop (mkF m 0 #[.val (.ref w_3), .val (.ref w_3), .unset, .unset, .unset, .unset] [])) _
    refine st216 _ ?_
    show Steps p.tables e below (T216.setTop (mkF m 3 #[.val (.ref w_3), .val (.ref w_3), .unset, .unset, .unset, .unset] [(.ref w_5)])) _
    refine XS.astoreN X216.here hx rfl (hb hby d2_3) rfl rfl (l' := #[.val (.ref w_3), .val (.ref w_3), .val (.ref w_5), .unset, .unset, .unset]) rfl ?_
    show Steps p.tables e below (T216.setTop (mkF m 4 #[.val (.ref w_3), .val (.ref w_3), .val (.ref w_5), .unset, .unset, .unset] [])) _
    refine XS.aloadN X216.here hx rfl (hb hby d2_4) rfl rfl ?_
    show Steps p.tables e below (T216.setTop (mkF m 5 #[.val (.ref w_3), .val (.ref w_3), .val (.ref w_5), .unset, .unset, .unset] [(.ref w_5)])) _
    refine X216.arraylength hx (by rw [e216]; exact Ar217.1) (State.isArrayOf_alike hZ.alike Ar217.2.1) (g := (mkF m 5 #[.val (.ref w_3), .val (.ref w_3), .val (.ref w_5), .unset, .unset, .unset] [(.ref w_5)])) rfl rfl (hb hby d2_5) _ ?_
    rw [len_of Sa217 Ma217]
    show Steps p.tables e below (T216.setTop (mkF m 6 #[.val (.ref w_3), .val (.ref w_3), .val (.ref w_5), .unset, .unset, .unset] [(.int (4 : Int32))])) _
    refine XS.istoreN X216.here hx rfl (hb hby d2_6) rfl (l' := #[.val (.ref w_3), .val (.ref w_3), .val (.ref w_5), .val (.int (4 : Int32)), .unset, .unset]) rfl ?_
    show Steps p.tables e below (T216.setTop (mkF m 7 #[.val (.ref w_3), .val (.ref w_3), .val (.ref w_5), .val (.int (4 : Int32)), .unset, .unset] [])) _
    refine XS.iconst X216.here hx rfl (hb hby d2_7) ?_
    show Steps p.tables e below (T216.setTop (mkF m 8 #[.val (.ref w_3), .val (.ref w_3), .val (.ref w_5), .val (.int (4 : Int32)), .unset, .unset] [(.int (0 : Int32))])) _
    refine XS.istore X216.here hx rfl (hb hby d2_8) rfl (l' := #[.val (.ref w_3), .val (.ref w_3), .val (.ref w_5), .val (.int (4 : Int32)), .val (.int (0 : Int32)), .unset]) rfl ?_
    show Steps p.tables e below (T216.setTop (mkF m 10 #[.val (.ref w_3), .val (.ref w_3), .val (.ref w_5), .val (.int (4 : Int32)), .val (.int (0 : Int32)), .unset] [])) _
    refine XS.iload X216.here hx rfl (hb hby d2_10) rfl ?_
    show Steps p.tables e below (T216.setTop (mkF m 12 #[.val (.ref w_3), .val (.ref w_3), .val (.ref w_5), .val (.int (4 : Int32)), .val (.int (0 : Int32)), .unset] [(.int (0 : Int32))])) _
    refine XS.iloadN X216.here hx rfl (hb hby d2_12) rfl ?_
    show Steps p.tables e below (T216.setTop (mkF m 13 #[.val (.ref w_3), .val (.ref w_3), .val (.ref w_5), .val (.int (4 : Int32)), .val (.int (0 : Int32)), .unset] [(.int (4 : Int32)), (.int (0 : Int32))])) _
    refine XS.icmpNo X216.here hx rfl (hb hby d2_13) rfl (tlt (by decide : ((0 : Int32) < (4 : Int32)))).2.1 ?_
    show Steps p.tables e below (T216.setTop (mkF m 16 #[.val (.ref w_3), .val (.ref w_3), .val (.ref w_5), .val (.int (4 : Int32)), .val (.int (0 : Int32)), .unset] [])) _
    refine XS.aloadN X216.here hx rfl (hb hby d2_16) rfl rfl ?_
    show Steps p.tables e below (T216.setTop (mkF m 17 #[.val (.ref w_3), .val (.ref w_3), .val (.ref w_5), .val (.int (4 : Int32)), .val (.int (0 : Int32)), .unset] [(.ref w_5)])) _
    refine XS.iload X216.here hx rfl (hb hby d2_17) rfl ?_
    show Steps p.tables e below (T216.setTop (mkF m 19 #[.val (.ref w_3), .val (.ref w_3), .val (.ref w_5), .val (.int (4 : Int32)), .val (.int (0 : Int32)), .unset] [(.int (0 : Int32)), (.ref w_5)])) _
    refine X216.aaload hx (j := (0 : Int32)) (v := (.ref w_1)) (by rw [e216]; exact Ar218.1) (State.isArrayOf_alike hZ.alike Ar218.2.1) rfl Ar218.2.2 hin218 hat218 (g := (mkF m 19 #[.val (.ref w_3), .val (.ref w_3), .val (.ref w_5), .val (.int (4 : Int32)), .val (.int (0 : Int32)), .unset] [(.int (0 : Int32)), (.ref w_5)])) rfl rfl (hb hby d2_19) _ ?_
    show Steps p.tables e below (T216.setTop (mkF m 20 #[.val (.ref w_3), .val (.ref w_3), .val (.ref w_5), .val (.int (4 : Int32)), .val (.int (0 : Int32)), .unset] [(.ref w_1)])) _
    refine XS.astore X216.here hx rfl (hb hby d2_20) rfl rfl (l' := #[.val (.ref w_3), .val (.ref w_3), .val (.ref w_5), .val (.int (4 : Int32)), .val (.int (0 : Int32)), .val (.ref w_1)]) rfl ?_
    show Steps p.tables e below (T216.setTop (mkF m 22 #[.val (.ref w_3), .val (.ref w_3), .val (.ref w_5), .val (.int (4 : Int32)), .val (.int (0 : Int32)), .val (.ref w_1)] [])) _
    refine XS.aloadN X216.here hx rfl (hb hby d2_22) rfl rfl ?_
    show Steps p.tables e below (T216.setTop (mkF m 23 #[.val (.ref w_3), .val (.ref w_3), .val (.ref w_5), .val (.int (4 : Int32)), .val (.int (0 : Int32)), .val (.ref w_1)] [(.ref w_3)])) _
    refine XS.aload X216.here hx rfl (hb hby d2_23) rfl rfl ?_
    show Steps p.tables e below (T216.setTop (mkF m 25 #[.val (.ref w_3), .val (.ref w_3), .val (.ref w_5), .val (.int (4 : Int32)), .val (.int (0 : Int32)), .val (.ref w_1)] [(.ref w_1), (.ref w_3)])) _
    refine st219.trans ?_
    show Steps p.tables e below (T219.setTop (mkF m 28 #[.val (.ref w_3), .val (.ref w_3), .val (.ref w_5), .val (.int (4 : Int32)), .val (.int (0 : Int32)), .val (.ref w_1)] [(.int (1 : Int32))])) _
    refine XS.ifNo X219.here hx rfl (hb hby d2_28) rfl ((if0 _ _).trans (feq (by decide : ¬ ((1 : Int32) = (0 : Int32)))).1) ?_
    show Steps p.tables e below (T219.setTop (mkF m 31 #[.val (.ref w_3), .val (.ref w_3), .val (.ref w_5), .val (.int (4 : Int32)), .val (.int (0 : Int32)), .val (.ref w_1)] [])) _
    refine XS.aloadN X219.here hx rfl (hb hby d2_31) rfl rfl ?_
    show Steps p.tables e below (T219.setTop (mkF m 32 #[.val (.ref w_3), .val (.ref w_3), .val (.ref w_5), .val (.int (4 : Int32)), .val (.int (0 : Int32)), .val (.ref w_1)] [(.ref w_3)])) _
    refine XS.aload X219.here hx rfl (hb hby d2_32) rfl rfl ?_
    show Steps p.tables e below (T219.setTop (mkF m 34 #[.val (.ref w_3), .val (.ref w_3), .val (.ref w_5), .val (.int (4 : Int32)), .val (.int (0 : Int32)), .val (.ref w_1)] [(.ref w_1), (.ref w_3)])) _
    refine st220.trans ?_
    show Steps p.tables e below (T220.setTop (mkF m 37 #[.val (.ref w_3), .val (.ref w_3), .val (.ref w_5), .val (.int (4 : Int32)), .val (.int (0 : Int32)), .val (.ref w_1)] [(.int (1 : Int32))])) _
    refine XS.ifYes X220.here hx rfl (pc0 := 37) (pc' := 42) rfl (hb hby d2_37) rfl ((if0 _ _).trans (feq (by decide : ¬ ((1 : Int32) = (0 : Int32)))).2) (by decide) (by decide) ?_
    show Steps p.tables e below (T220.setTop (mkF m 42 #[.val (.ref w_3), .val (.ref w_3), .val (.ref w_5), .val (.int (4 : Int32)), .val (.int (0 : Int32)), .val (.ref w_1)] [])) _
    refine XS.iinc X220.here hx rfl (hb hby d2_42) rfl (l' := #[.val (.ref w_3), .val (.ref w_3), .val (.ref w_5), .val (.int (4 : Int32)), .val (.int ((0 : Int32) + (1 : Int32))), .val (.ref w_1)]) rfl ?_
    show Steps p.tables e below (T220.setTop (mkF m 45 #[.val (.ref w_3), .val (.ref w_3), .val (.ref w_5), .val (.int (4 : Int32)), .val (.int ((0 : Int32) + (1 : Int32))), .val (.ref w_1)] [])) _
    refine XS.goto X220.here hx rfl (pc0 := 45) (pc' := 10) rfl (hb hby d2_45) (by decide) (by decide) ?_
    show Steps p.tables e below (T220.setTop (mkF m 10 #[.val (.ref w_3), .val (.ref w_3), .val (.ref w_5), .val (.int (4 : Int32)), .val (.int ((0 : Int32) + (1 : Int32))), .val (.ref w_1)] [])) _
    refine XS.iload X220.here hx rfl (hb hby d2_10) rfl ?_
    show Steps p.tables e below (T220.setTop (mkF m 12 #[.val (.ref w_3), .val (.ref w_3), .val (.ref w_5), .val (.int (4 : Int32)), .val (.int ((0 : Int32) + (1 : Int32))), .val (.ref w_1)] [(.int ((0 : Int32) + (1 : Int32)))])) _
    refine XS.iloadN X220.here hx rfl (hb hby d2_12) rfl ?_
    show Steps p.tables e below (T220.setTop (mkF m 13 #[.val (.ref w_3), .val (.ref w_3), .val (.ref w_5), .val (.int (4 : Int32)), .val (.int ((0 : Int32) + (1 : Int32))), .val (.ref w_1)] [(.int (4 : Int32)), (.int ((0 : Int32) + (1 : Int32)))])) _
    refine XS.icmpNo X220.here hx rfl (hb hby d2_13) rfl (tlt (by decide : (((0 : Int32) + (1 : Int32)) < (4 : Int32)))).2.1 ?_
    show Steps p.tables e below (T220.setTop (mkF m 16 #[.val (.ref w_3), .val (.ref w_3), .val (.ref w_5), .val (.int (4 : Int32)), .val (.int ((0 : Int32) + (1 : Int32))), .val (.ref w_1)] [])) _
    refine XS.aloadN X220.here hx rfl (hb hby d2_16) rfl rfl ?_
    show Steps p.tables e below (T220.setTop (mkF m 17 #[.val (.ref w_3), .val (.ref w_3), .val (.ref w_5), .val (.int (4 : Int32)), .val (.int ((0 : Int32) + (1 : Int32))), .val (.ref w_1)] [(.ref w_5)])) _
    refine XS.iload X220.here hx rfl (hb hby d2_17) rfl ?_
    show Steps p.tables e below (T220.setTop (mkF m 19 #[.val (.ref w_3), .val (.ref w_3), .val (.ref w_5), .val (.int (4 : Int32)), .val (.int ((0 : Int32) + (1 : Int32))), .val (.ref w_1)] [(.int ((0 : Int32) + (1 : Int32))), (.ref w_5)])) _
    refine X220.aaload hx (j := ((0 : Int32) + (1 : Int32))) (v := (.ref w_2)) (by rw [e220]; exact Ar221.1) (State.isArrayOf_alike hZ.alike Ar221.2.1) rfl Ar221.2.2 hin221 hat221 (g := (mkF m 19 #[.val (.ref w_3), .val (.ref w_3), .val (.ref w_5), .val (.int (4 : Int32)), .val (.int ((0 : Int32) + (1 : Int32))), .val (.ref w_1)] [(.int ((0 : Int32) + (1 : Int32))), (.ref w_5)])) rfl rfl (hb hby d2_19) _ ?_
    show Steps p.tables e below (T220.setTop (mkF m 20 #[.val (.ref w_3), .val (.ref w_3), .val (.ref w_5), .val (.int (4 : Int32)), .val (.int ((0 : Int32) + (1 : Int32))), .val (.ref w_1)] [(.ref w_2)])) _
    refine XS.astore X220.here hx rfl (hb hby d2_20) rfl rfl (l' := #[.val (.ref w_3), .val (.ref w_3), .val (.ref w_5), .val (.int (4 : Int32)), .val (.int ((0 : Int32) + (1 : Int32))), .val (.ref w_2)]) rfl ?_
    show Steps p.tables e below (T220.setTop (mkF m 22 #[.val (.ref w_3), .val (.ref w_3), .val (.ref w_5), .val (.int (4 : Int32)), .val (.int ((0 : Int32) + (1 : Int32))), .val (.ref w_2)] [])) _
    refine XS.aloadN X220.here hx rfl (hb hby d2_22) rfl rfl ?_
    show Steps p.tables e below (T220.setTop (mkF m 23 #[.val (.ref w_3), .val (.ref w_3), .val (.ref w_5), .val (.int (4 : Int32)), .val (.int ((0 : Int32) + (1 : Int32))), .val (.ref w_2)] [(.ref w_3)])) _
    refine XS.aload X220.here hx rfl (hb hby d2_23) rfl rfl ?_
    show Steps p.tables e below (T220.setTop (mkF m 25 #[.val (.ref w_3), .val (.ref w_3), .val (.ref w_5), .val (.int (4 : Int32)), .val (.int ((0 : Int32) + (1 : Int32))), .val (.ref w_2)] [(.ref w_2), (.ref w_3)])) _
    refine st222.trans ?_
    show Steps p.tables e below (T222.setTop (mkF m 28 #[.val (.ref w_3), .val (.ref w_3), .val (.ref w_5), .val (.int (4 : Int32)), .val (.int ((0 : Int32) + (1 : Int32))), .val (.ref w_2)] [(.int (1 : Int32))])) _
    refine XS.ifNo X222.here hx rfl (hb hby d2_28) rfl ((if0 _ _).trans (feq (by decide : ¬ ((1 : Int32) = (0 : Int32)))).1) ?_
    show Steps p.tables e below (T222.setTop (mkF m 31 #[.val (.ref w_3), .val (.ref w_3), .val (.ref w_5), .val (.int (4 : Int32)), .val (.int ((0 : Int32) + (1 : Int32))), .val (.ref w_2)] [])) _
    refine XS.aloadN X222.here hx rfl (hb hby d2_31) rfl rfl ?_
    show Steps p.tables e below (T222.setTop (mkF m 32 #[.val (.ref w_3), .val (.ref w_3), .val (.ref w_5), .val (.int (4 : Int32)), .val (.int ((0 : Int32) + (1 : Int32))), .val (.ref w_2)] [(.ref w_3)])) _
    refine XS.aload X222.here hx rfl (hb hby d2_32) rfl rfl ?_
    show Steps p.tables e below (T222.setTop (mkF m 34 #[.val (.ref w_3), .val (.ref w_3), .val (.ref w_5), .val (.int (4 : Int32)), .val (.int ((0 : Int32) + (1 : Int32))), .val (.ref w_2)] [(.ref w_2), (.ref w_3)])) _
    refine st223.trans ?_
    show Steps p.tables e below (T223.setTop (mkF m 37 #[.val (.ref w_3), .val (.ref w_3), .val (.ref w_5), .val (.int (4 : Int32)), .val (.int ((0 : Int32) + (1 : Int32))), .val (.ref w_2)] [(.int (1 : Int32))])) _
    refine XS.ifYes X223.here hx rfl (pc0 := 37) (pc' := 42) rfl (hb hby d2_37) rfl ((if0 _ _).trans (feq (by decide : ¬ ((1 : Int32) = (0 : Int32)))).2) (by decide) (by decide) ?_
    show Steps p.tables e below (T223.setTop (mkF m 42 #[.val (.ref w_3), .val (.ref w_3), .val (.ref w_5), .val (.int (4 : Int32)), .val (.int ((0 : Int32) + (1 : Int32))), .val (.ref w_2)] [])) _
    refine XS.iinc X223.here hx rfl (hb hby d2_42) rfl (l' := #[.val (.ref w_3), .val (.ref w_3), .val (.ref w_5), .val (.int (4 : Int32)), .val (.int (((0 : Int32) + (1 : Int32)) + (1 : Int32))), .val (.ref w_2)]) rfl ?_
    show Steps p.tables e below (T223.setTop (mkF m 45 #[.val (.ref w_3), .val (.ref w_3), .val (.ref w_5), .val (.int (4 : Int32)), .val (.int (((0 : Int32) + (1 : Int32)) + (1 : Int32))), .val (.ref w_2)] [])) _
    refine XS.goto X223.here hx rfl (pc0 := 45) (pc' := 10) rfl (hb hby d2_45) (by decide) (by decide) ?_
    show Steps p.tables e below (T223.setTop (mkF m 10 #[.val (.ref w_3), .val (.ref w_3), .val (.ref w_5), .val (.int (4 : Int32)), .val (.int (((0 : Int32) + (1 : Int32)) + (1 : Int32))), .val (.ref w_2)] [])) _
    refine XS.iload X223.here hx rfl (hb hby d2_10) rfl ?_
    show Steps p.tables e below (T223.setTop (mkF m 12 #[.val (.ref w_3), .val (.ref w_3), .val (.ref w_5), .val (.int (4 : Int32)), .val (.int (((0 : Int32) + (1 : Int32)) + (1 : Int32))), .val (.ref w_2)] [(.int (((0 : Int32) + (1 : Int32)) + (1 : Int32)))])) _
    refine XS.iloadN X223.here hx rfl (hb hby d2_12) rfl ?_
    show Steps p.tables e below (T223.setTop (mkF m 13 #[.val (.ref w_3), .val (.ref w_3), .val (.ref w_5), .val (.int (4 : Int32)), .val (.int (((0 : Int32) + (1 : Int32)) + (1 : Int32))), .val (.ref w_2)] [(.int (4 : Int32)), (.int (((0 : Int32) + (1 : Int32)) + (1 : Int32)))])) _
    refine XS.icmpNo X223.here hx rfl (hb hby d2_13) rfl (tlt (by decide : ((((0 : Int32) + (1 : Int32)) + (1 : Int32)) < (4 : Int32)))).2.1 ?_
    show Steps p.tables e below (T223.setTop (mkF m 16 #[.val (.ref w_3), .val (.ref w_3), .val (.ref w_5), .val (.int (4 : Int32)), .val (.int (((0 : Int32) + (1 : Int32)) + (1 : Int32))), .val (.ref w_2)] [])) _
    refine XS.aloadN X223.here hx rfl (hb hby d2_16) rfl rfl ?_
    show Steps p.tables e below (T223.setTop (mkF m 17 #[.val (.ref w_3), .val (.ref w_3), .val (.ref w_5), .val (.int (4 : Int32)), .val (.int (((0 : Int32) + (1 : Int32)) + (1 : Int32))), .val (.ref w_2)] [(.ref w_5)])) _
    refine XS.iload X223.here hx rfl (hb hby d2_17) rfl ?_
    show Steps p.tables e below (T223.setTop (mkF m 19 #[.val (.ref w_3), .val (.ref w_3), .val (.ref w_5), .val (.int (4 : Int32)), .val (.int (((0 : Int32) + (1 : Int32)) + (1 : Int32))), .val (.ref w_2)] [(.int (((0 : Int32) + (1 : Int32)) + (1 : Int32))), (.ref w_5)])) _
    refine X223.aaload hx (j := (((0 : Int32) + (1 : Int32)) + (1 : Int32))) (v := (.ref w_3)) (by rw [e223]; exact Ar224.1) (State.isArrayOf_alike hZ.alike Ar224.2.1) rfl Ar224.2.2 hin224 hat224 (g := (mkF m 19 #[.val (.ref w_3), .val (.ref w_3), .val (.ref w_5), .val (.int (4 : Int32)), .val (.int (((0 : Int32) + (1 : Int32)) + (1 : Int32))), .val (.ref w_2)] [(.int (((0 : Int32) + (1 : Int32)) + (1 : Int32))), (.ref w_5)])) rfl rfl (hb hby d2_19) _ ?_
    show Steps p.tables e below (T223.setTop (mkF m 20 #[.val (.ref w_3), .val (.ref w_3), .val (.ref w_5), .val (.int (4 : Int32)), .val (.int (((0 : Int32) + (1 : Int32)) + (1 : Int32))), .val (.ref w_2)] [(.ref w_3)])) _
    refine XS.astore X223.here hx rfl (hb hby d2_20) rfl rfl (l' := #[.val (.ref w_3), .val (.ref w_3), .val (.ref w_5), .val (.int (4 : Int32)), .val (.int (((0 : Int32) + (1 : Int32)) + (1 : Int32))), .val (.ref w_3)]) rfl ?_
    show Steps p.tables e below (T223.setTop (mkF m 22 #[.val (.ref w_3), .val (.ref w_3), .val (.ref w_5), .val (.int (4 : Int32)), .val (.int (((0 : Int32) + (1 : Int32)) + (1 : Int32))), .val (.ref w_3)] [])) _
    refine XS.aloadN X223.here hx rfl (hb hby d2_22) rfl rfl ?_
    show Steps p.tables e below (T223.setTop (mkF m 23 #[.val (.ref w_3), .val (.ref w_3), .val (.ref w_5), .val (.int (4 : Int32)), .val (.int (((0 : Int32) + (1 : Int32)) + (1 : Int32))), .val (.ref w_3)] [(.ref w_3)])) _
    refine XS.aload X223.here hx rfl (hb hby d2_23) rfl rfl ?_
    show Steps p.tables e below (T223.setTop (mkF m 25 #[.val (.ref w_3), .val (.ref w_3), .val (.ref w_5), .val (.int (4 : Int32)), .val (.int (((0 : Int32) + (1 : Int32)) + (1 : Int32))), .val (.ref w_3)] [(.ref w_3), (.ref w_3)])) _
    refine st225.trans ?_
    show Steps p.tables e below (T225.setTop (mkF m 28 #[.val (.ref w_3), .val (.ref w_3), .val (.ref w_5), .val (.int (4 : Int32)), .val (.int (((0 : Int32) + (1 : Int32)) + (1 : Int32))), .val (.ref w_3)] [(.int (1 : Int32))])) _
    refine XS.ifNo X225.here hx rfl (hb hby d2_28) rfl ((if0 _ _).trans (feq (by decide : ¬ ((1 : Int32) = (0 : Int32)))).1) ?_
    show Steps p.tables e below (T225.setTop (mkF m 31 #[.val (.ref w_3), .val (.ref w_3), .val (.ref w_5), .val (.int (4 : Int32)), .val (.int (((0 : Int32) + (1 : Int32)) + (1 : Int32))), .val (.ref w_3)] [])) _
    refine XS.aloadN X225.here hx rfl (hb hby d2_31) rfl rfl ?_
    show Steps p.tables e below (T225.setTop (mkF m 32 #[.val (.ref w_3), .val (.ref w_3), .val (.ref w_5), .val (.int (4 : Int32)), .val (.int (((0 : Int32) + (1 : Int32)) + (1 : Int32))), .val (.ref w_3)] [(.ref w_3)])) _
    refine XS.aload X225.here hx rfl (hb hby d2_32) rfl rfl ?_
    show Steps p.tables e below (T225.setTop (mkF m 34 #[.val (.ref w_3), .val (.ref w_3), .val (.ref w_5), .val (.int (4 : Int32)), .val (.int (((0 : Int32) + (1 : Int32)) + (1 : Int32))), .val (.ref w_3)] [(.ref w_3), (.ref w_3)])) _
    refine st226.trans ?_
    show Steps p.tables e below (T226.setTop (mkF m 37 #[.val (.ref w_3), .val (.ref w_3), .val (.ref w_5), .val (.int (4 : Int32)), .val (.int (((0 : Int32) + (1 : Int32)) + (1 : Int32))), .val (.ref w_3)] [(.int (1 : Int32))])) _
    refine XS.ifYes X226.here hx rfl (pc0 := 37) (pc' := 42) rfl (hb hby d2_37) rfl ((if0 _ _).trans (feq (by decide : ¬ ((1 : Int32) = (0 : Int32)))).2) (by decide) (by decide) ?_
    show Steps p.tables e below (T226.setTop (mkF m 42 #[.val (.ref w_3), .val (.ref w_3), .val (.ref w_5), .val (.int (4 : Int32)), .val (.int (((0 : Int32) + (1 : Int32)) + (1 : Int32))), .val (.ref w_3)] [])) _
    refine XS.iinc X226.here hx rfl (hb hby d2_42) rfl (l' := #[.val (.ref w_3), .val (.ref w_3), .val (.ref w_5), .val (.int (4 : Int32)), .val (.int ((((0 : Int32) + (1 : Int32)) + (1 : Int32)) + (1 : Int32))), .val (.ref w_3)]) rfl ?_
    show Steps p.tables e below (T226.setTop (mkF m 45 #[.val (.ref w_3), .val (.ref w_3), .val (.ref w_5), .val (.int (4 : Int32)), .val (.int ((((0 : Int32) + (1 : Int32)) + (1 : Int32)) + (1 : Int32))), .val (.ref w_3)] [])) _
    refine XS.goto X226.here hx rfl (pc0 := 45) (pc' := 10) rfl (hb hby d2_45) (by decide) (by decide) ?_
    show Steps p.tables e below (T226.setTop (mkF m 10 #[.val (.ref w_3), .val (.ref w_3), .val (.ref w_5), .val (.int (4 : Int32)), .val (.int ((((0 : Int32) + (1 : Int32)) + (1 : Int32)) + (1 : Int32))), .val (.ref w_3)] [])) _
    refine XS.iload X226.here hx rfl (hb hby d2_10) rfl ?_
    show Steps p.tables e below (T226.setTop (mkF m 12 #[.val (.ref w_3), .val (.ref w_3), .val (.ref w_5), .val (.int (4 : Int32)), .val (.int ((((0 : Int32) + (1 : Int32)) + (1 : Int32)) + (1 : Int32))), .val (.ref w_3)] [(.int ((((0 : Int32) + (1 : Int32)) + (1 : Int32)) + (1 : Int32)))])) _
    refine XS.iloadN X226.here hx rfl (hb hby d2_12) rfl ?_
    show Steps p.tables e below (T226.setTop (mkF m 13 #[.val (.ref w_3), .val (.ref w_3), .val (.ref w_5), .val (.int (4 : Int32)), .val (.int ((((0 : Int32) + (1 : Int32)) + (1 : Int32)) + (1 : Int32))), .val (.ref w_3)] [(.int (4 : Int32)), (.int ((((0 : Int32) + (1 : Int32)) + (1 : Int32)) + (1 : Int32)))])) _
    refine XS.icmpNo X226.here hx rfl (hb hby d2_13) rfl (tlt (by decide : (((((0 : Int32) + (1 : Int32)) + (1 : Int32)) + (1 : Int32)) < (4 : Int32)))).2.1 ?_
    show Steps p.tables e below (T226.setTop (mkF m 16 #[.val (.ref w_3), .val (.ref w_3), .val (.ref w_5), .val (.int (4 : Int32)), .val (.int ((((0 : Int32) + (1 : Int32)) + (1 : Int32)) + (1 : Int32))), .val (.ref w_3)] [])) _
    refine XS.aloadN X226.here hx rfl (hb hby d2_16) rfl rfl ?_
    show Steps p.tables e below (T226.setTop (mkF m 17 #[.val (.ref w_3), .val (.ref w_3), .val (.ref w_5), .val (.int (4 : Int32)), .val (.int ((((0 : Int32) + (1 : Int32)) + (1 : Int32)) + (1 : Int32))), .val (.ref w_3)] [(.ref w_5)])) _
    refine XS.iload X226.here hx rfl (hb hby d2_17) rfl ?_
    show Steps p.tables e below (T226.setTop (mkF m 19 #[.val (.ref w_3), .val (.ref w_3), .val (.ref w_5), .val (.int (4 : Int32)), .val (.int ((((0 : Int32) + (1 : Int32)) + (1 : Int32)) + (1 : Int32))), .val (.ref w_3)] [(.int ((((0 : Int32) + (1 : Int32)) + (1 : Int32)) + (1 : Int32))), (.ref w_5)])) _
    refine X226.aaload hx (j := ((((0 : Int32) + (1 : Int32)) + (1 : Int32)) + (1 : Int32))) (v := (.ref w_4)) (by rw [e226]; exact Ar227.1) (State.isArrayOf_alike hZ.alike Ar227.2.1) rfl Ar227.2.2 hin227 hat227 (g := (mkF m 19 #[.val (.ref w_3), .val (.ref w_3), .val (.ref w_5), .val (.int (4 : Int32)), .val (.int ((((0 : Int32) + (1 : Int32)) + (1 : Int32)) + (1 : Int32))), .val (.ref w_3)] [(.int ((((0 : Int32) + (1 : Int32)) + (1 : Int32)) + (1 : Int32))), (.ref w_5)])) rfl rfl (hb hby d2_19) _ ?_
    show Steps p.tables e below (T226.setTop (mkF m 20 #[.val (.ref w_3), .val (.ref w_3), .val (.ref w_5), .val (.int (4 : Int32)), .val (.int ((((0 : Int32) + (1 : Int32)) + (1 : Int32)) + (1 : Int32))), .val (.ref w_3)] [(.ref w_4)])) _
    refine XS.astore X226.here hx rfl (hb hby d2_20) rfl rfl (l' := #[.val (.ref w_3), .val (.ref w_3), .val (.ref w_5), .val (.int (4 : Int32)), .val (.int ((((0 : Int32) + (1 : Int32)) + (1 : Int32)) + (1 : Int32))), .val (.ref w_4)]) rfl ?_
    show Steps p.tables e below (T226.setTop (mkF m 22 #[.val (.ref w_3), .val (.ref w_3), .val (.ref w_5), .val (.int (4 : Int32)), .val (.int ((((0 : Int32) + (1 : Int32)) + (1 : Int32)) + (1 : Int32))), .val (.ref w_4)] [])) _
    refine XS.aloadN X226.here hx rfl (hb hby d2_22) rfl rfl ?_
    show Steps p.tables e below (T226.setTop (mkF m 23 #[.val (.ref w_3), .val (.ref w_3), .val (.ref w_5), .val (.int (4 : Int32)), .val (.int ((((0 : Int32) + (1 : Int32)) + (1 : Int32)) + (1 : Int32))), .val (.ref w_4)] [(.ref w_3)])) _
    refine XS.aload X226.here hx rfl (hb hby d2_23) rfl rfl ?_
    show Steps p.tables e below (T226.setTop (mkF m 25 #[.val (.ref w_3), .val (.ref w_3), .val (.ref w_5), .val (.int (4 : Int32)), .val (.int ((((0 : Int32) + (1 : Int32)) + (1 : Int32)) + (1 : Int32))), .val (.ref w_4)] [(.ref w_4), (.ref w_3)])) _
    refine st228.trans ?_
    show Steps p.tables e below (T228.setTop (mkF m 28 #[.val (.ref w_3), .val (.ref w_3), .val (.ref w_5), .val (.int (4 : Int32)), .val (.int ((((0 : Int32) + (1 : Int32)) + (1 : Int32)) + (1 : Int32))), .val (.ref w_4)] [(.int (1 : Int32))])) _
    refine XS.ifNo X228.here hx rfl (hb hby d2_28) rfl ((if0 _ _).trans (feq (by decide : ¬ ((1 : Int32) = (0 : Int32)))).1) ?_
    show Steps p.tables e below (T228.setTop (mkF m 31 #[.val (.ref w_3), .val (.ref w_3), .val (.ref w_5), .val (.int (4 : Int32)), .val (.int ((((0 : Int32) + (1 : Int32)) + (1 : Int32)) + (1 : Int32))), .val (.ref w_4)] [])) _
    refine XS.aloadN X228.here hx rfl (hb hby d2_31) rfl rfl ?_
    show Steps p.tables e below (T228.setTop (mkF m 32 #[.val (.ref w_3), .val (.ref w_3), .val (.ref w_5), .val (.int (4 : Int32)), .val (.int ((((0 : Int32) + (1 : Int32)) + (1 : Int32)) + (1 : Int32))), .val (.ref w_4)] [(.ref w_3)])) _
    refine XS.aload X228.here hx rfl (hb hby d2_32) rfl rfl ?_
    show Steps p.tables e below (T228.setTop (mkF m 34 #[.val (.ref w_3), .val (.ref w_3), .val (.ref w_5), .val (.int (4 : Int32)), .val (.int ((((0 : Int32) + (1 : Int32)) + (1 : Int32)) + (1 : Int32))), .val (.ref w_4)] [(.ref w_4), (.ref w_3)])) _
    refine st229.trans ?_
    show Steps p.tables e below (T229.setTop (mkF m 37 #[.val (.ref w_3), .val (.ref w_3), .val (.ref w_5), .val (.int (4 : Int32)), .val (.int ((((0 : Int32) + (1 : Int32)) + (1 : Int32)) + (1 : Int32))), .val (.ref w_4)] [(.int (1 : Int32))])) _
    refine XS.ifYes X229.here hx rfl (pc0 := 37) (pc' := 42) rfl (hb hby d2_37) rfl ((if0 _ _).trans (feq (by decide : ¬ ((1 : Int32) = (0 : Int32)))).2) (by decide) (by decide) ?_
    show Steps p.tables e below (T229.setTop (mkF m 42 #[.val (.ref w_3), .val (.ref w_3), .val (.ref w_5), .val (.int (4 : Int32)), .val (.int ((((0 : Int32) + (1 : Int32)) + (1 : Int32)) + (1 : Int32))), .val (.ref w_4)] [])) _
    refine XS.iinc X229.here hx rfl (hb hby d2_42) rfl (l' := #[.val (.ref w_3), .val (.ref w_3), .val (.ref w_5), .val (.int (4 : Int32)), .val (.int (((((0 : Int32) + (1 : Int32)) + (1 : Int32)) + (1 : Int32)) + (1 : Int32))), .val (.ref w_4)]) rfl ?_
    show Steps p.tables e below (T229.setTop (mkF m 45 #[.val (.ref w_3), .val (.ref w_3), .val (.ref w_5), .val (.int (4 : Int32)), .val (.int (((((0 : Int32) + (1 : Int32)) + (1 : Int32)) + (1 : Int32)) + (1 : Int32))), .val (.ref w_4)] [])) _
    refine XS.goto X229.here hx rfl (pc0 := 45) (pc' := 10) rfl (hb hby d2_45) (by decide) (by decide) ?_
    show Steps p.tables e below (T229.setTop (mkF m 10 #[.val (.ref w_3), .val (.ref w_3), .val (.ref w_5), .val (.int (4 : Int32)), .val (.int (((((0 : Int32) + (1 : Int32)) + (1 : Int32)) + (1 : Int32)) + (1 : Int32))), .val (.ref w_4)] [])) _
    refine XS.iload X229.here hx rfl (hb hby d2_10) rfl ?_
    show Steps p.tables e below (T229.setTop (mkF m 12 #[.val (.ref w_3), .val (.ref w_3), .val (.ref w_5), .val (.int (4 : Int32)), .val (.int (((((0 : Int32) + (1 : Int32)) + (1 : Int32)) + (1 : Int32)) + (1 : Int32))), .val (.ref w_4)] [(.int (((((0 : Int32) + (1 : Int32)) + (1 : Int32)) + (1 : Int32)) + (1 : Int32)))])) _
    refine XS.iloadN X229.here hx rfl (hb hby d2_12) rfl ?_
    show Steps p.tables e below (T229.setTop (mkF m 13 #[.val (.ref w_3), .val (.ref w_3), .val (.ref w_5), .val (.int (4 : Int32)), .val (.int (((((0 : Int32) + (1 : Int32)) + (1 : Int32)) + (1 : Int32)) + (1 : Int32))), .val (.ref w_4)] [(.int (4 : Int32)), (.int (((((0 : Int32) + (1 : Int32)) + (1 : Int32)) + (1 : Int32)) + (1 : Int32)))])) _
    refine XS.icmpYes X229.here hx rfl (pc0 := 13) (pc' := 48) rfl (hb hby d2_13) rfl (flt (by decide : ¬ ((((((0 : Int32) + (1 : Int32)) + (1 : Int32)) + (1 : Int32)) + (1 : Int32)) < (4 : Int32)))).2.1 (by decide) (by decide) ?_
    show Steps p.tables e below (T229.setTop (mkF m 48 #[.val (.ref w_3), .val (.ref w_3), .val (.ref w_5), .val (.int (4 : Int32)), .val (.int (((((0 : Int32) + (1 : Int32)) + (1 : Int32)) + (1 : Int32)) + (1 : Int32))), .val (.ref w_4)] [])) _
    refine XS.iconst X229.here hx rfl (hb hby d2_48) ?_
    show Steps p.tables e below (T229.setTop (mkF m 49 #[.val (.ref w_3), .val (.ref w_3), .val (.ref w_5), .val (.int (4 : Int32)), .val (.int (((((0 : Int32) + (1 : Int32)) + (1 : Int32)) + (1 : Int32)) + (1 : Int32))), .val (.ref w_4)] [(.int (1 : Int32))])) _
    exact retN X229 hx (t := .boolean) Bd.returns (by simp) (hb hby d2_49) hr
  · show Q2x11 Z w_1 w_2 w_3 w_4 w_5 k_5 h0 n0 _ T229.heap _
    rw [e229]
    exact ⟨by unfold sp2x11; rfl, N229, rfl⟩
theorem pn_1x11 : plainName "com/example/lucid_locks/lucidlocks/locks/LockMode" = true := by first | (simp [plainName, overriddenIn]; done) | decide +kernel
theorem ef_1x11 (m : MethodId) (w_3 : Addr) : entryFrame m #[(.ref w_3), (.ref w_3)] 2 = mkF m 0 #[.val (.ref w_3), .val (.ref w_3)] [] := by first | (simp [entryFrame, mkF, argsToLocals, Value.category]; done) | rfl
def sp1x11 (w_3 : Addr) : Value := (.ref w_3)
def Q1x11 (Z : State) (w_1 : Addr) (w_2 : Addr) (w_3 : Addr) (w_4 : Addr) (w_5 : Addr) (k_5 : ClassId) (h0 : Heap) (n0 : Nat) (v : Option Value) (h : Heap) (L : List Loc) : Prop := v = some (sp1x11 w_3) ∧ Fr n0 L ∧ h = h0
set_option maxRecDepth 65536 in
set_option maxHeartbeats 40000000 in
theorem rm1x11 (l : Launch) (Z : State) (a0 : Array Value) (hw : ∀ d ∈ tables_1, d.before a0 Z = true) (ws : List Jvm.Cond) (w_1 : Addr) (w_2 : Addr) (w_3 : Addr) (w_4 : Addr) (w_5 : Addr) (k_5 : ClassId) (hS : StF Z w_1 w_2 w_3 w_4 w_5 k_5) (h0 : Heap) (n0 : Nat) (O0 : Old Z n0 h0) :
    MetFree l Y2 (head1 (Jvm.Cond.code Y2 prog_17_method_6_code 2 (some (.object "com/example/lucid_locks/lucidlocks/locks/LockMode")) :: ws) ({ frames := 2, cells := 0, slots := 0, locals := 30 } : Room)) (fun a U => a = #[(.ref w_3), (.ref w_3)] ∧ Z.Warmed39 U.vm ∧ U.heap = h0) (fun _ _ _ _ _ => True) (fun _ U o U' => ∃ v L, o = .returned v ∧ Q1x11 Z w_1 w_2 w_3 w_4 w_5 k_5 h0 n0 v U'.heap L ∧ FrameEnd U o U' L ({ frames := 2, cells := 0, slots := 0, locals := 30 } : Room).cells ({ frames := 2, cells := 0, slots := 0, locals := 30 } : Room).slots) := by
  refine MetFree.of_bodySF (plainFor_of_name pn_1x11) hisR ?_
  intro p e s m args below meth c s₁ Bd hml0 hP hK
  obtain ⟨rfl, hZ, hh⟩ := hP
  have hx := Bd.exec
  have hby := Bd.bytes
  have hml : c.maxLocals = 2 := hml0
  have hown : s.vm.findClass "com/example/lucid_locks/lucidlocks/locks/LockMode" = some m.cls := findClass_of_methodNamed Bd.named
  have hnm := (name_of_methodNamed Bd.named Bd.method).1
  have X0 : Stand p l e ({ frames := 2, cells := 0, slots := 0, locals := 30 } : Room) s m #[(.ref w_3), (.ref w_3)] below meth c s₁ [] 0 0 := Stand.of_body Bd
  have e0 : s₁.heap = h0 := by rw [← hh, Bd.state]; rfl
  have N0 := Fr.nil n0
  have hS0 := hS
  obtain ⟨S_1, E_1, S_2, E_2, S_3, E_3, S_4, E_4, S_5, F_1_sharedWithItself, F_1_ordinal, F_2_ordinal, F_4_ordinal, F_3_ordinal, F_4_sharedWithItself, F_2_sharedWithItself, F_3_sharedWithItself, V_5⟩ := hS
  have pre0 : ∀ t, Steps p.tables e below (s₁.setTop (mkF m 0 #[.val (.ref w_3), .val (.ref w_3)] [])) t → Steps p.tables e below (s₁.setTop (entryFrame m #[(.ref w_3), (.ref w_3)] 2)) t := fun t k => castTop (ef_1x11 m w_3) k
  obtain ⟨cq230, kq230, q230a, q230b, q230c⟩ := isOf hZ e0 (E_3.ext O0.2)
  obtain ⟨_, _, ⟨T230, L230, k230, n230⟩, -, X230, ⟨Lc230, hQ230, l230, y230, z230⟩, st230⟩ := X0.virtualBack hx (y := Y1) (z := Y1) hown (mvT hZ (hw _ (tk 17 rfl))) (mvT hZ (hw _ (tk 18 rfl))) (notFace_of_selects (args := #[]) (mvT hZ (hw _ (tk 20 rfl)))) (mvT hZ (hw _ (tk 20 rfl))) (mvT hZ (hw _ (tk 19 rfl))) (by decide) (backOf (W := 0) (rm2x11 l Z a0 hw [] w_1 w_2 w_3 w_4 w_5 k_5 hS0 h0 n0 O0) hZ (hw _ (tk 21 rfl)) (hw _ (tk 3 rfl)) (by decide) (by decide)) q230a q230c (g := (mkF m 2 #[.val (.ref w_3), .val (.ref w_3)] [(.ref w_3), (.ref w_3)])) rfl (by rw [hml]; rfl) (Steps.refl _) (argsL := [(.ref w_3)]) (rest := []) (lenOf pd_0 rfl) rfl (by show 2 * 0 + _ ≤ _; exact Nat.le_of_eq rfl) (hb hby d1_2) (fun _ _ => ⟨rfl, e0, (by decide : 0 + 0 ≤ _), (by decide : 0 + 0 ≤ _)⟩)
  dsimp only [Pt.U, Pt.locs, Pt.cells, Pt.slots] at X230 l230 y230 z230 st230 hQ230
  subst l230 y230 z230
  obtain ⟨rv230, N230q, e230⟩ := hQ230
  rw [show sp2x11 = (1 : Int32) from by unfold sp2x11; rfl] at rv230
  subst rv230
  have N230 := Fr.app N0 N230q
  obtain ⟨fs, hr, hrun, hended, hW, hsame⟩ := X230.leave (v := some (.ref w_3)) (fun h => by rw [Bd.returns] at h; cases h)
  refine ⟨_, _, pre0 _ ?_, hrun, hended, _, _, rfl, ?_, ⟨_, rfl⟩, hW, hsame.mono (by decide) (by decide)⟩
  · show Steps p.tables e below (s₁.setTop (mkF m 0 #[.val (.ref w_3), .val (.ref w_3)] [])) _
    refine XS.aloadN X0.here hx rfl (hb hby d1_0) rfl rfl ?_
    show Steps p.tables e below (s₁.setTop (mkF m 1 #[.val (.ref w_3), .val (.ref w_3)] [(.ref w_3)])) _
    refine XS.aloadN X0.here hx rfl (hb hby d1_1) rfl rfl ?_
    show Steps p.tables e below (s₁.setTop (mkF m 2 #[.val (.ref w_3), .val (.ref w_3)] [(.ref w_3), (.ref w_3)])) _
    refine st230.trans ?_
    show Steps p.tables e below (T230.setTop (mkF m 5 #[.val (.ref w_3), .val (.ref w_3)] [(.int (1 : Int32))])) _
    refine XS.ifNo X230.here hx rfl (hb hby d1_5) rfl ((if0 _ _).trans (feq (by decide : ¬ ((1 : Int32) = (0 : Int32)))).1) ?_
    show Steps p.tables e below (T230.setTop (mkF m 8 #[.val (.ref w_3), .val (.ref w_3)] [])) _
    refine XS.aloadN X230.here hx rfl (hb hby d1_8) rfl rfl ?_
    show Steps p.tables e below (T230.setTop (mkF m 9 #[.val (.ref w_3), .val (.ref w_3)] [(.ref w_3)])) _
    refine XS.goto X230.here hx rfl (pc0 := 9) (pc' := 15) rfl (hb hby d1_9) (by decide) (by decide) ?_
    show Steps p.tables e below (T230.setTop (mkF m 15 #[.val (.ref w_3), .val (.ref w_3)] [(.ref w_3)])) _
    jvm_step X230.here [X230.here.top, hx, (hb hby d1_15), X230.method', Bd.returns, Value.isRef, FieldType.isReference]
    first | (intro acts; rw [hr _ acts rfl rfl rfl]) | rw [hr _ _ rfl rfl rfl]
    exact Steps.refl _
  · show Q1x11 Z w_1 w_2 w_3 w_4 w_5 k_5 h0 n0 _ T230.heap _
    rw [e230]
    exact ⟨by unfold sp1x11; rfl, N230, rfl⟩
theorem pn_2x12 : plainName "com/example/lucid_locks/lucidlocks/locks/LockMode" = true := by first | (simp [plainName, overriddenIn]; done) | decide +kernel
theorem ef_2x12 (m : MethodId) (w_4 : Addr) (w_3 : Addr) : entryFrame m #[(.ref w_4), (.ref w_3)] 6 = mkF m 0 #[.val (.ref w_4), .val (.ref w_3), .unset, .unset, .unset, .unset] [] := by first | (simp [entryFrame, mkF, argsToLocals, Value.category]; done) | rfl
def sp2x12  : Int32 := (1 : Int32)
def Q2x12 (Z : State) (w_1 : Addr) (w_2 : Addr) (w_3 : Addr) (w_4 : Addr) (w_5 : Addr) (k_5 : ClassId) (h0 : Heap) (n0 : Nat) (v : Option Value) (h : Heap) (L : List Loc) : Prop := v = some (.int (sp2x12)) ∧ Fr n0 L ∧ h = h0
set_option maxRecDepth 65536 in
set_option maxHeartbeats 40000000 in
theorem rm2x12 (l : Launch) (Z : State) (a0 : Array Value) (hw : ∀ d ∈ tables_1, d.before a0 Z = true) (ws : List Jvm.Cond) (w_1 : Addr) (w_2 : Addr) (w_3 : Addr) (w_4 : Addr) (w_5 : Addr) (k_5 : ClassId) (hS : StF Z w_1 w_2 w_3 w_4 w_5 k_5) (h0 : Heap) (n0 : Nat) (O0 : Old Z n0 h0) :
    MetFree l Y1 (head1 (Jvm.Cond.code Y1 prog_17_method_7_code 6 (some .boolean) :: ws) ({ frames := 1, cells := 0, slots := 0, locals := 13 } : Room)) (fun a U => a = #[(.ref w_4), (.ref w_3)] ∧ Z.Warmed39 U.vm ∧ U.heap = h0) (fun _ _ _ _ _ => True) (fun _ U o U' => ∃ v L, o = .returned v ∧ Q2x12 Z w_1 w_2 w_3 w_4 w_5 k_5 h0 n0 v U'.heap L ∧ FrameEnd U o U' L ({ frames := 1, cells := 0, slots := 0, locals := 13 } : Room).cells ({ frames := 1, cells := 0, slots := 0, locals := 13 } : Room).slots) := by
  refine MetFree.of_bodySF (plainFor_of_name pn_2x12) hisR ?_
  intro p e s m args below meth c s₁ Bd hml0 hP hK
  obtain ⟨rfl, hZ, hh⟩ := hP
  have hx := Bd.exec
  have hby := Bd.bytes
  have hml : c.maxLocals = 6 := hml0
  have hown : s.vm.findClass "com/example/lucid_locks/lucidlocks/locks/LockMode" = some m.cls := findClass_of_methodNamed Bd.named
  have hnm := (name_of_methodNamed Bd.named Bd.method).1
  have X0 : Stand p l e ({ frames := 1, cells := 0, slots := 0, locals := 13 } : Room) s m #[(.ref w_4), (.ref w_3)] below meth c s₁ [] 0 0 := Stand.of_body Bd
  have e0 : s₁.heap = h0 := by rw [← hh, Bd.state]; rfl
  have N0 := Fr.nil n0
  have hS0 := hS
  obtain ⟨S_1, E_1, S_2, E_2, S_3, E_3, S_4, E_4, S_5, F_1_sharedWithItself, F_1_ordinal, F_2_ordinal, F_4_ordinal, F_3_ordinal, F_4_sharedWithItself, F_2_sharedWithItself, F_3_sharedWithItself, V_5⟩ := hS
  have pre0 : ∀ t, Steps p.tables e below (s₁.setTop (mkF m 0 #[.val (.ref w_4), .val (.ref w_3), .unset, .unset, .unset, .unset] [])) t → Steps p.tables e below (s₁.setTop (entryFrame m #[(.ref w_4), (.ref w_3)] 6)) t := fun t k => castTop (ef_2x12 m w_4 w_3) k
  obtain ⟨T234, X234, e234, st234⟩ := getS2 X0 hx hZ hown (host := "") (Or.inl (hw _ (tk 22 rfl))) Via.refl e0 (S_5.ext O0.2) (g := (mkF m 0 #[.val (.ref w_4), .val (.ref w_3), .unset, .unset, .unset, .unset] [])) rfl (hb hby d2_0)
  obtain ⟨cl235, Ar235, qa235, Sa235, Ma235, Ha235, Ga235⟩ := id (V_5.ext O0.2)
  obtain ⟨cl236, Ar236, qa236, Sa236, Ma236, Ha236, Ga236⟩ := id (V_5.ext O0.2)
  have hin236 : ¬ ((0 : Int32) < 0 ∨ cl236.slots.size ≤ ((0 : Int32)).toNatClampNeg) := by  exact inb_of Sa236 ⟨by decide, by decide⟩
  have hat236 : cl236.slots[((0 : Int32)).toNatClampNeg]? = some (.ref w_1) := Has.at Ha236 hin236 (by rfl)
  obtain ⟨cq237, kq237, q237a, q237b, q237c⟩ := isOf hZ e234 (E_3.ext O0.2)
  obtain ⟨_, _, ⟨T237, L237, k237, n237⟩, -, X237, ⟨Lc237, hQ237, l237, y237, z237⟩, st237⟩ := X234.virtualBack hx (y := Y0) (z := Y0) hown (mvT hZ (hw _ (tk 24 rfl))) (mvT hZ (hw _ (tk 25 rfl))) (notFace_of_selects (args := #[]) (mvT hZ (hw _ (tk 27 rfl)))) (mvT hZ (hw _ (tk 27 rfl))) (mvT hZ (hw _ (tk 26 rfl))) (by decide) (backOf (W := 0) (rm3 l Z a0 hw [] w_1 w_2 w_3 w_4 w_5 k_5 hS0 w_3 w_1 (0 : Int32) h0 n0 O0 (F_3_sharedWithItself.ext O0.2)) hZ (hw _ (tk 28 rfl)) (hw _ (tk 3 rfl)) (by decide) (by decide)) q237a q237c (g := (mkF m 25 #[.val (.ref w_4), .val (.ref w_3), .val (.ref w_5), .val (.int (4 : Int32)), .val (.int (0 : Int32)), .val (.ref w_1)] [(.ref w_1), (.ref w_3)])) rfl (by rw [hml]; rfl) (Steps.refl _) (argsL := [(.ref w_1)]) (rest := []) (lenOf pd_0 rfl) rfl (by show 2 * 0 + _ ≤ _; exact Nat.le_of_eq rfl) (hb hby d2_25) (fun _ _ => ⟨rfl, e234, (by decide : 0 + 0 ≤ _), (by decide : 0 + 0 ≤ _)⟩)
  dsimp only [Pt.U, Pt.locs, Pt.cells, Pt.slots] at X237 l237 y237 z237 st237 hQ237
  subst l237 y237 z237
  obtain ⟨rv237, N237q, e237⟩ := hQ237
  rw [show sp3 w_3 w_1 (0 : Int32) = (1 : Int32) from by unfold sp3; rw [if_neg (Fld.ne F_3_ordinal F_1_ordinal (by decide))]] at rv237
  subst rv237
  have N237 := Fr.app N0 N237q
  obtain ⟨cq238, kq238, q238a, q238b, q238c⟩ := isOf hZ e237 (E_4.ext O0.2)
  obtain ⟨_, _, ⟨T238, L238, k238, n238⟩, -, X238, ⟨Lc238, hQ238, l238, y238, z238⟩, st238⟩ := X237.virtualBack hx (y := Y0) (z := Y0) hown (mvT hZ (hw _ (tk 24 rfl))) (mvT hZ (hw _ (tk 25 rfl))) (notFace_of_selects (args := #[]) (mvT hZ (hw _ (tk 27 rfl)))) (mvT hZ (hw _ (tk 27 rfl))) (mvT hZ (hw _ (tk 26 rfl))) (by decide) (backOf (W := 0) (rm3 l Z a0 hw [] w_1 w_2 w_3 w_4 w_5 k_5 hS0 w_4 w_1 (0 : Int32) h0 n0 O0 (F_4_sharedWithItself.ext O0.2)) hZ (hw _ (tk 28 rfl)) (hw _ (tk 3 rfl)) (by decide) (by decide)) q238a q238c (g := (mkF m 34 #[.val (.ref w_4), .val (.ref w_3), .val (.ref w_5), .val (.int (4 : Int32)), .val (.int (0 : Int32)), .val (.ref w_1)] [(.ref w_1), (.ref w_4)])) rfl (by rw [hml]; rfl) (Steps.refl _) (argsL := [(.ref w_1)]) (rest := []) (lenOf pd_0 rfl) rfl (by show 2 * 0 + _ ≤ _; exact Nat.le_of_eq rfl) (hb hby d2_34) (fun _ _ => ⟨rfl, e237, (by decide : 0 + 0 ≤ _), (by decide : 0 + 0 ≤ _)⟩)
  dsimp only [Pt.U, Pt.locs, Pt.cells, Pt.slots] at X238 l238 y238 z238 st238 hQ238
  subst l238 y238 z238
  obtain ⟨rv238, N238q, e238⟩ := hQ238
  rw [show sp3 w_4 w_1 (0 : Int32) = (1 : Int32) from by unfold sp3; rw [if_neg (Fld.ne F_4_ordinal F_1_ordinal (by decide))]] at rv238
  subst rv238
  have N238 := Fr.app N237 N238q
  obtain ⟨cl239, Ar239, qa239, Sa239, Ma239, Ha239, Ga239⟩ := id (V_5.ext O0.2)
  have hin239 : ¬ (((0 : Int32) + (1 : Int32)) < 0 ∨ cl239.slots.size ≤ (((0 : Int32) + (1 : Int32))).toNatClampNeg) := by  exact inb_of Sa239 ⟨by decide, by decide⟩
  have hat239 : cl239.slots[(((0 : Int32) + (1 : Int32))).toNatClampNeg]? = some (.ref w_2) := Has.at Ha239 hin239 (by rfl)
  obtain ⟨cq240, kq240, q240a, q240b, q240c⟩ := isOf hZ e238 (E_3.ext O0.2)
  obtain ⟨_, _, ⟨T240, L240, k240, n240⟩, -, X240, ⟨Lc240, hQ240, l240, y240, z240⟩, st240⟩ := X238.virtualBack hx (y := Y0) (z := Y0) hown (mvT hZ (hw _ (tk 24 rfl))) (mvT hZ (hw _ (tk 25 rfl))) (notFace_of_selects (args := #[]) (mvT hZ (hw _ (tk 27 rfl)))) (mvT hZ (hw _ (tk 27 rfl))) (mvT hZ (hw _ (tk 26 rfl))) (by decide) (backOf (W := 0) (rm3 l Z a0 hw [] w_1 w_2 w_3 w_4 w_5 k_5 hS0 w_3 w_2 (0 : Int32) h0 n0 O0 (F_3_sharedWithItself.ext O0.2)) hZ (hw _ (tk 28 rfl)) (hw _ (tk 3 rfl)) (by decide) (by decide)) q240a q240c (g := (mkF m 25 #[.val (.ref w_4), .val (.ref w_3), .val (.ref w_5), .val (.int (4 : Int32)), .val (.int ((0 : Int32) + (1 : Int32))), .val (.ref w_2)] [(.ref w_2), (.ref w_3)])) rfl (by rw [hml]; rfl) (Steps.refl _) (argsL := [(.ref w_2)]) (rest := []) (lenOf pd_0 rfl) rfl (by show 2 * 0 + _ ≤ _; exact Nat.le_of_eq rfl) (hb hby d2_25) (fun _ _ => ⟨rfl, e238, (by decide : 0 + 0 ≤ _), (by decide : 0 + 0 ≤ _)⟩)
  dsimp only [Pt.U, Pt.locs, Pt.cells, Pt.slots] at X240 l240 y240 z240 st240 hQ240
  subst l240 y240 z240
  obtain ⟨rv240, N240q, e240⟩ := hQ240
  rw [show sp3 w_3 w_2 (0 : Int32) = (1 : Int32) from by unfold sp3; rw [if_neg (Fld.ne F_3_ordinal F_2_ordinal (by decide))]] at rv240
  subst rv240
  have N240 := Fr.app N238 N240q
  obtain ⟨cq241, kq241, q241a, q241b, q241c⟩ := isOf hZ e240 (E_4.ext O0.2)
  obtain ⟨_, _, ⟨T241, L241, k241, n241⟩, -, X241, ⟨Lc241, hQ241, l241, y241, z241⟩, st241⟩ := X240.virtualBack hx (y := Y0) (z := Y0) hown (mvT hZ (hw _ (tk 24 rfl))) (mvT hZ (hw _ (tk 25 rfl))) (notFace_of_selects (args := #[]) (mvT hZ (hw _ (tk 27 rfl)))) (mvT hZ (hw _ (tk 27 rfl))) (mvT hZ (hw _ (tk 26 rfl))) (by decide) (backOf (W := 0) (rm3 l Z a0 hw [] w_1 w_2 w_3 w_4 w_5 k_5 hS0 w_4 w_2 (0 : Int32) h0 n0 O0 (F_4_sharedWithItself.ext O0.2)) hZ (hw _ (tk 28 rfl)) (hw _ (tk 3 rfl)) (by decide) (by decide)) q241a q241c (g := (mkF m 34 #[.val (.ref w_4), .val (.ref w_3), .val (.ref w_5), .val (.int (4 : Int32)), .val (.int ((0 : Int32) + (1 : Int32))), .val (.ref w_2)] [(.ref w_2), (.ref w_4)])) rfl (by rw [hml]; rfl) (Steps.refl _) (argsL := [(.ref w_2)]) (rest := []) (lenOf pd_0 rfl) rfl (by show 2 * 0 + _ ≤ _; exact Nat.le_of_eq rfl) (hb hby d2_34) (fun _ _ => ⟨rfl, e240, (by decide : 0 + 0 ≤ _), (by decide : 0 + 0 ≤ _)⟩)
  dsimp only [Pt.U, Pt.locs, Pt.cells, Pt.slots] at X241 l241 y241 z241 st241 hQ241
  subst l241 y241 z241
  obtain ⟨rv241, N241q, e241⟩ := hQ241
  rw [show sp3 w_4 w_2 (0 : Int32) = (1 : Int32) from by unfold sp3; rw [if_neg (Fld.ne F_4_ordinal F_2_ordinal (by decide))]] at rv241
  subst rv241
  have N241 := Fr.app N240 N241q
  obtain ⟨cl242, Ar242, qa242, Sa242, Ma242, Ha242, Ga242⟩ := id (V_5.ext O0.2)
  have hin242 : ¬ ((((0 : Int32) + (1 : Int32)) + (1 : Int32)) < 0 ∨ cl242.slots.size ≤ ((((0 : Int32) + (1 : Int32)) + (1 : Int32))).toNatClampNeg) := by  exact inb_of Sa242 ⟨by decide, by decide⟩
  have hat242 : cl242.slots[((((0 : Int32) + (1 : Int32)) + (1 : Int32))).toNatClampNeg]? = some (.ref w_3) := Has.at Ha242 hin242 (by rfl)
  obtain ⟨cq243, kq243, q243a, q243b, q243c⟩ := isOf hZ e241 (E_3.ext O0.2)
  obtain ⟨_, _, ⟨T243, L243, k243, n243⟩, -, X243, ⟨Lc243, hQ243, l243, y243, z243⟩, st243⟩ := X241.virtualBack hx (y := Y0) (z := Y0) hown (mvT hZ (hw _ (tk 24 rfl))) (mvT hZ (hw _ (tk 25 rfl))) (notFace_of_selects (args := #[]) (mvT hZ (hw _ (tk 27 rfl)))) (mvT hZ (hw _ (tk 27 rfl))) (mvT hZ (hw _ (tk 26 rfl))) (by decide) (backOf (W := 0) (rm3 l Z a0 hw [] w_1 w_2 w_3 w_4 w_5 k_5 hS0 w_3 w_3 (0 : Int32) h0 n0 O0 (F_3_sharedWithItself.ext O0.2)) hZ (hw _ (tk 28 rfl)) (hw _ (tk 3 rfl)) (by decide) (by decide)) q243a q243c (g := (mkF m 25 #[.val (.ref w_4), .val (.ref w_3), .val (.ref w_5), .val (.int (4 : Int32)), .val (.int (((0 : Int32) + (1 : Int32)) + (1 : Int32))), .val (.ref w_3)] [(.ref w_3), (.ref w_3)])) rfl (by rw [hml]; rfl) (Steps.refl _) (argsL := [(.ref w_3)]) (rest := []) (lenOf pd_0 rfl) rfl (by show 2 * 0 + _ ≤ _; exact Nat.le_of_eq rfl) (hb hby d2_25) (fun _ _ => ⟨rfl, e241, (by decide : 0 + 0 ≤ _), (by decide : 0 + 0 ≤ _)⟩)
  dsimp only [Pt.U, Pt.locs, Pt.cells, Pt.slots] at X243 l243 y243 z243 st243 hQ243
  subst l243 y243 z243
  obtain ⟨rv243, N243q, e243⟩ := hQ243
  rw [show sp3 w_3 w_3 (0 : Int32) = (1 : Int32) from by unfold sp3; rw [if_pos rfl, if_pos (by decide : ((0 : Int32) = (0 : Int32)))]] at rv243
  subst rv243
  have N243 := Fr.app N241 N243q
  obtain ⟨cq244, kq244, q244a, q244b, q244c⟩ := isOf hZ e243 (E_4.ext O0.2)
  obtain ⟨_, _, ⟨T244, L244, k244, n244⟩, -, X244, ⟨Lc244, hQ244, l244, y244, z244⟩, st244⟩ := X243.virtualBack hx (y := Y0) (z := Y0) hown (mvT hZ (hw _ (tk 24 rfl))) (mvT hZ (hw _ (tk 25 rfl))) (notFace_of_selects (args := #[]) (mvT hZ (hw _ (tk 27 rfl)))) (mvT hZ (hw _ (tk 27 rfl))) (mvT hZ (hw _ (tk 26 rfl))) (by decide) (backOf (W := 0) (rm3 l Z a0 hw [] w_1 w_2 w_3 w_4 w_5 k_5 hS0 w_4 w_3 (0 : Int32) h0 n0 O0 (F_4_sharedWithItself.ext O0.2)) hZ (hw _ (tk 28 rfl)) (hw _ (tk 3 rfl)) (by decide) (by decide)) q244a q244c (g := (mkF m 34 #[.val (.ref w_4), .val (.ref w_3), .val (.ref w_5), .val (.int (4 : Int32)), .val (.int (((0 : Int32) + (1 : Int32)) + (1 : Int32))), .val (.ref w_3)] [(.ref w_3), (.ref w_4)])) rfl (by rw [hml]; rfl) (Steps.refl _) (argsL := [(.ref w_3)]) (rest := []) (lenOf pd_0 rfl) rfl (by show 2 * 0 + _ ≤ _; exact Nat.le_of_eq rfl) (hb hby d2_34) (fun _ _ => ⟨rfl, e243, (by decide : 0 + 0 ≤ _), (by decide : 0 + 0 ≤ _)⟩)
  dsimp only [Pt.U, Pt.locs, Pt.cells, Pt.slots] at X244 l244 y244 z244 st244 hQ244
  subst l244 y244 z244
  obtain ⟨rv244, N244q, e244⟩ := hQ244
  rw [show sp3 w_4 w_3 (0 : Int32) = (1 : Int32) from by unfold sp3; rw [if_neg (Fld.ne F_4_ordinal F_3_ordinal (by decide))]] at rv244
  subst rv244
  have N244 := Fr.app N243 N244q
  obtain ⟨cl245, Ar245, qa245, Sa245, Ma245, Ha245, Ga245⟩ := id (V_5.ext O0.2)
  have hin245 : ¬ (((((0 : Int32) + (1 : Int32)) + (1 : Int32)) + (1 : Int32)) < 0 ∨ cl245.slots.size ≤ (((((0 : Int32) + (1 : Int32)) + (1 : Int32)) + (1 : Int32))).toNatClampNeg) := by  exact inb_of Sa245 ⟨by decide, by decide⟩
  have hat245 : cl245.slots[(((((0 : Int32) + (1 : Int32)) + (1 : Int32)) + (1 : Int32))).toNatClampNeg]? = some (.ref w_4) := Has.at Ha245 hin245 (by rfl)
  obtain ⟨cq246, kq246, q246a, q246b, q246c⟩ := isOf hZ e244 (E_3.ext O0.2)
  obtain ⟨_, _, ⟨T246, L246, k246, n246⟩, -, X246, ⟨Lc246, hQ246, l246, y246, z246⟩, st246⟩ := X244.virtualBack hx (y := Y0) (z := Y0) hown (mvT hZ (hw _ (tk 24 rfl))) (mvT hZ (hw _ (tk 25 rfl))) (notFace_of_selects (args := #[]) (mvT hZ (hw _ (tk 27 rfl)))) (mvT hZ (hw _ (tk 27 rfl))) (mvT hZ (hw _ (tk 26 rfl))) (by decide) (backOf (W := 0) (rm3 l Z a0 hw [] w_1 w_2 w_3 w_4 w_5 k_5 hS0 w_3 w_4 (0 : Int32) h0 n0 O0 (F_3_sharedWithItself.ext O0.2)) hZ (hw _ (tk 28 rfl)) (hw _ (tk 3 rfl)) (by decide) (by decide)) q246a q246c (g := (mkF m 25 #[.val (.ref w_4), .val (.ref w_3), .val (.ref w_5), .val (.int (4 : Int32)), .val (.int ((((0 : Int32) + (1 : Int32)) + (1 : Int32)) + (1 : Int32))), .val (.ref w_4)] [(.ref w_4), (.ref w_3)])) rfl (by rw [hml]; rfl) (Steps.refl _) (argsL := [(.ref w_4)]) (rest := []) (lenOf pd_0 rfl) rfl (by show 2 * 0 + _ ≤ _; exact Nat.le_of_eq rfl) (hb hby d2_25) (fun _ _ => ⟨rfl, e244, (by decide : 0 + 0 ≤ _), (by decide : 0 + 0 ≤ _)⟩)
  dsimp only [Pt.U, Pt.locs, Pt.cells, Pt.slots] at X246 l246 y246 z246 st246 hQ246
  subst l246 y246 z246
  obtain ⟨rv246, N246q, e246⟩ := hQ246
  rw [show sp3 w_3 w_4 (0 : Int32) = (1 : Int32) from by unfold sp3; rw [if_neg (Fld.ne F_3_ordinal F_4_ordinal (by decide))]] at rv246
  subst rv246
  have N246 := Fr.app N244 N246q
  obtain ⟨cq247, kq247, q247a, q247b, q247c⟩ := isOf hZ e246 (E_4.ext O0.2)
  obtain ⟨_, _, ⟨T247, L247, k247, n247⟩, -, X247, ⟨Lc247, hQ247, l247, y247, z247⟩, st247⟩ := X246.virtualBack hx (y := Y0) (z := Y0) hown (mvT hZ (hw _ (tk 24 rfl))) (mvT hZ (hw _ (tk 25 rfl))) (notFace_of_selects (args := #[]) (mvT hZ (hw _ (tk 27 rfl)))) (mvT hZ (hw _ (tk 27 rfl))) (mvT hZ (hw _ (tk 26 rfl))) (by decide) (backOf (W := 0) (rm3 l Z a0 hw [] w_1 w_2 w_3 w_4 w_5 k_5 hS0 w_4 w_4 (0 : Int32) h0 n0 O0 (F_4_sharedWithItself.ext O0.2)) hZ (hw _ (tk 28 rfl)) (hw _ (tk 3 rfl)) (by decide) (by decide)) q247a q247c (g := (mkF m 34 #[.val (.ref w_4), .val (.ref w_3), .val (.ref w_5), .val (.int (4 : Int32)), .val (.int ((((0 : Int32) + (1 : Int32)) + (1 : Int32)) + (1 : Int32))), .val (.ref w_4)] [(.ref w_4), (.ref w_4)])) rfl (by rw [hml]; rfl) (Steps.refl _) (argsL := [(.ref w_4)]) (rest := []) (lenOf pd_0 rfl) rfl (by show 2 * 0 + _ ≤ _; exact Nat.le_of_eq rfl) (hb hby d2_34) (fun _ _ => ⟨rfl, e246, (by decide : 0 + 0 ≤ _), (by decide : 0 + 0 ≤ _)⟩)
  dsimp only [Pt.U, Pt.locs, Pt.cells, Pt.slots] at X247 l247 y247 z247 st247 hQ247
  subst l247 y247 z247
  obtain ⟨rv247, N247q, e247⟩ := hQ247
  rw [show sp3 w_4 w_4 (0 : Int32) = (1 : Int32) from by unfold sp3; rw [if_pos rfl, if_pos (by decide : ((0 : Int32) = (0 : Int32)))]] at rv247
  subst rv247
  have N247 := Fr.app N246 N247q
  obtain ⟨fs, hr, hrun, hended, hW, hsame⟩ := X247.leave (v := some (.int (1 : Int32))) (fun h => by rw [Bd.returns] at h; cases h)
  refine ⟨_, _, pre0 _ ?_, hrun, hended, _, _, rfl, ?_, ⟨_, rfl⟩, hW, hsame.mono (by decide) (by decide)⟩
  · show Steps p.tables e below (s₁.setTop (mkF m 0 #[.val (.ref w_4), .val (.ref w_3), .unset, .unset, .unset, .unset] [])) _
    refine st234 _ ?_
    show Steps p.tables e below (T234.setTop (mkF m 3 #[.val (.ref w_4), .val (.ref w_3), .unset, .unset, .unset, .unset] [(.ref w_5)])) _
    refine XS.astoreN X234.here hx rfl (hb hby d2_3) rfl rfl (l' := #[.val (.ref w_4), .val (.ref w_3), .val (.ref w_5), .unset, .unset, .unset]) rfl ?_
    show Steps p.tables e below (T234.setTop (mkF m 4 #[.val (.ref w_4), .val (.ref w_3), .val (.ref w_5), .unset, .unset, .unset] [])) _
    refine XS.aloadN X234.here hx rfl (hb hby d2_4) rfl rfl ?_
    show Steps p.tables e below (T234.setTop (mkF m 5 #[.val (.ref w_4), .val (.ref w_3), .val (.ref w_5), .unset, .unset, .unset] [(.ref w_5)])) _
    refine X234.arraylength hx (by rw [e234]; exact Ar235.1) (State.isArrayOf_alike hZ.alike Ar235.2.1) (g := (mkF m 5 #[.val (.ref w_4), .val (.ref w_3), .val (.ref w_5), .unset, .unset, .unset] [(.ref w_5)])) rfl rfl (hb hby d2_5) _ ?_
    rw [len_of Sa235 Ma235]
    show Steps p.tables e below (T234.setTop (mkF m 6 #[.val (.ref w_4), .val (.ref w_3), .val (.ref w_5), .unset, .unset, .unset] [(.int (4 : Int32))])) _
    refine XS.istoreN X234.here hx rfl (hb hby d2_6) rfl (l' := #[.val (.ref w_4), .val (.ref w_3), .val (.ref w_5), .val (.int (4 : Int32)), .unset, .unset]) rfl ?_
    show Steps p.tables e below (T234.setTop (mkF m 7 #[.val (.ref w_4), .val (.ref w_3), .val (.ref w_5), .val (.int (4 : Int32)), .unset, .unset] [])) _
    refine XS.iconst X234.here hx rfl (hb hby d2_7) ?_
    show Steps p.tables e below (T234.setTop (mkF m 8 #[.val (.ref w_4), .val (.ref w_3), .val (.ref w_5), .val (.int (4 : Int32)), .unset, .unset] [(.int (0 : Int32))])) _
    refine XS.istore X234.here hx rfl (hb hby d2_8) rfl (l' := #[.val (.ref w_4), .val (.ref w_3), .val (.ref w_5), .val (.int (4 : Int32)), .val (.int (0 : Int32)), .unset]) rfl ?_
    show Steps p.tables e below (T234.setTop (mkF m 10 #[.val (.ref w_4), .val (.ref w_3), .val (.ref w_5), .val (.int (4 : Int32)), .val (.int (0 : Int32)), .unset] [])) _
    refine XS.iload X234.here hx rfl (hb hby d2_10) rfl ?_
    show Steps p.tables e below (T234.setTop (mkF m 12 #[.val (.ref w_4), .val (.ref w_3), .val (.ref w_5), .val (.int (4 : Int32)), .val (.int (0 : Int32)), .unset] [(.int (0 : Int32))])) _
    refine XS.iloadN X234.here hx rfl (hb hby d2_12) rfl ?_
    show Steps p.tables e below (T234.setTop (mkF m 13 #[.val (.ref w_4), .val (.ref w_3), .val (.ref w_5), .val (.int (4 : Int32)), .val (.int (0 : Int32)), .unset] [(.int (4 : Int32)), (.int (0 : Int32))])) _
    refine XS.icmpNo X234.here hx rfl (hb hby d2_13) rfl (tlt (by decide : ((0 : Int32) < (4 : Int32)))).2.1 ?_
    show Steps p.tables e below (T234.setTop (mkF m 16 #[.val (.ref w_4), .val (.ref w_3), .val (.ref w_5), .val (.int (4 : Int32)), .val (.int (0 : Int32)), .unset] [])) _
    refine XS.aloadN X234.here hx rfl (hb hby d2_16) rfl rfl ?_
    show Steps p.tables e below (T234.setTop (mkF m 17 #[.val (.ref w_4), .val (.ref w_3), .val (.ref w_5), .val (.int (4 : Int32)), .val (.int (0 : Int32)), .unset] [(.ref w_5)])) _
    refine XS.iload X234.here hx rfl (hb hby d2_17) rfl ?_
    show Steps p.tables e below (T234.setTop (mkF m 19 #[.val (.ref w_4), .val (.ref w_3), .val (.ref w_5), .val (.int (4 : Int32)), .val (.int (0 : Int32)), .unset] [(.int (0 : Int32)), (.ref w_5)])) _
    refine X234.aaload hx (j := (0 : Int32)) (v := (.ref w_1)) (by rw [e234]; exact Ar236.1) (State.isArrayOf_alike hZ.alike Ar236.2.1) rfl Ar236.2.2 hin236 hat236 (g := (mkF m 19 #[.val (.ref w_4), .val (.ref w_3), .val (.ref w_5), .val (.int (4 : Int32)), .val (.int (0 : Int32)), .unset] [(.int (0 : Int32)), (.ref w_5)])) rfl rfl (hb hby d2_19) _ ?_
    show Steps p.tables e below (T234.setTop (mkF m 20 #[.val (.ref w_4), .val (.ref w_3), .val (.ref w_5), .val (.int (4 : Int32)), .val (.int (0 : Int32)), .unset] [(.ref w_1)])) _
    refine XS.astore X234.here hx rfl (hb hby d2_20) rfl rfl (l' := #[.val (.ref w_4), .val (.ref w_3), .val (.ref w_5), .val (.int (4 : Int32)), .val (.int (0 : Int32)), .val (.ref w_1)]) rfl ?_
    show Steps p.tables e below (T234.setTop (mkF m 22 #[.val (.ref w_4), .val (.ref w_3), .val (.ref w_5), .val (.int (4 : Int32)), .val (.int (0 : Int32)), .val (.ref w_1)] [])) _
    refine XS.aloadN X234.here hx rfl (hb hby d2_22) rfl rfl ?_
    show Steps p.tables e below (T234.setTop (mkF m 23 #[.val (.ref w_4), .val (.ref w_3), .val (.ref w_5), .val (.int (4 : Int32)), .val (.int (0 : Int32)), .val (.ref w_1)] [(.ref w_3)])) _
    refine XS.aload X234.here hx rfl (hb hby d2_23) rfl rfl ?_
    show Steps p.tables e below (T234.setTop (mkF m 25 #[.val (.ref w_4), .val (.ref w_3), .val (.ref w_5), .val (.int (4 : Int32)), .val (.int (0 : Int32)), .val (.ref w_1)] [(.ref w_1), (.ref w_3)])) _
    refine st237.trans ?_
    show Steps p.tables e below (T237.setTop (mkF m 28 #[.val (.ref w_4), .val (.ref w_3), .val (.ref w_5), .val (.int (4 : Int32)), .val (.int (0 : Int32)), .val (.ref w_1)] [(.int (1 : Int32))])) _
    refine XS.ifNo X237.here hx rfl (hb hby d2_28) rfl ((if0 _ _).trans (feq (by decide : ¬ ((1 : Int32) = (0 : Int32)))).1) ?_
    show Steps p.tables e below (T237.setTop (mkF m 31 #[.val (.ref w_4), .val (.ref w_3), .val (.ref w_5), .val (.int (4 : Int32)), .val (.int (0 : Int32)), .val (.ref w_1)] [])) _
    refine XS.aloadN X237.here hx rfl (hb hby d2_31) rfl rfl ?_
    show Steps p.tables e below (T237.setTop (mkF m 32 #[.val (.ref w_4), .val (.ref w_3), .val (.ref w_5), .val (.int (4 : Int32)), .val (.int (0 : Int32)), .val (.ref w_1)] [(.ref w_4)])) _
    refine XS.aload X237.here hx rfl (hb hby d2_32) rfl rfl ?_
    show Steps p.tables e below (T237.setTop (mkF m 34 #[.val (.ref w_4), .val (.ref w_3), .val (.ref w_5), .val (.int (4 : Int32)), .val (.int (0 : Int32)), .val (.ref w_1)] [(.ref w_1), (.ref w_4)])) _
    refine st238.trans ?_
    show Steps p.tables e below (T238.setTop (mkF m 37 #[.val (.ref w_4), .val (.ref w_3), .val (.ref w_5), .val (.int (4 : Int32)), .val (.int (0 : Int32)), .val (.ref w_1)] [(.int (1 : Int32))])) _
    refine XS.ifYes X238.here hx rfl (pc0 := 37) (pc' := 42) rfl (hb hby d2_37) rfl ((if0 _ _).trans (feq (by decide : ¬ ((1 : Int32) = (0 : Int32)))).2) (by decide) (by decide) ?_
    show Steps p.tables e below (T238.setTop (mkF m 42 #[.val (.ref w_4), .val (.ref w_3), .val (.ref w_5), .val (.int (4 : Int32)), .val (.int (0 : Int32)), .val (.ref w_1)] [])) _
    refine XS.iinc X238.here hx rfl (hb hby d2_42) rfl (l' := #[.val (.ref w_4), .val (.ref w_3), .val (.ref w_5), .val (.int (4 : Int32)), .val (.int ((0 : Int32) + (1 : Int32))), .val (.ref w_1)]) rfl ?_
    show Steps p.tables e below (T238.setTop (mkF m 45 #[.val (.ref w_4), .val (.ref w_3), .val (.ref w_5), .val (.int (4 : Int32)), .val (.int ((0 : Int32) + (1 : Int32))), .val (.ref w_1)] [])) _
    refine XS.goto X238.here hx rfl (pc0 := 45) (pc' := 10) rfl (hb hby d2_45) (by decide) (by decide) ?_
    show Steps p.tables e below (T238.setTop (mkF m 10 #[.val (.ref w_4), .val (.ref w_3), .val (.ref w_5), .val (.int (4 : Int32)), .val (.int ((0 : Int32) + (1 : Int32))), .val (.ref w_1)] [])) _
    refine XS.iload X238.here hx rfl (hb hby d2_10) rfl ?_
    show Steps p.tables e below (T238.setTop (mkF m 12 #[.val (.ref w_4), .val (.ref w_3), .val (.ref w_5), .val (.int (4 : Int32)), .val (.int ((0 : Int32) + (1 : Int32))), .val (.ref w_1)] [(.int ((0 : Int32) + (1 : Int32)))])) _
    refine XS.iloadN X238.here hx rfl (hb hby d2_12) rfl ?_
    show Steps p.tables e below (T238.setTop (mkF m 13 #[.val (.ref w_4), .val (.ref w_3), .val (.ref w_5), .val (.int (4 : Int32)), .val (.int ((0 : Int32) + (1 : Int32))), .val (.ref w_1)] [(.int (4 : Int32)), (.int ((0 : Int32) + (1 : Int32)))])) _
    refine XS.icmpNo X238.here hx rfl (hb hby d2_13) rfl (tlt (by decide : (((0 : Int32) + (1 : Int32)) < (4 : Int32)))).2.1 ?_
    show Steps p.tables e below (T238.setTop (mkF m 16 #[.val (.ref w_4), .val (.ref w_3), .val (.ref w_5), .val (.int (4 : Int32)), .val (.int ((0 : Int32) + (1 : Int32))), .val (.ref w_1)] [])) _
    refine XS.aloadN X238.here hx rfl (hb hby d2_16) rfl rfl ?_
    show Steps p.tables e below (T238.setTop (mkF m 17 #[.val (.ref w_4), .val (.ref w_3), .val (.ref w_5), .val (.int (4 : Int32)), .val (.int ((0 : Int32) + (1 : Int32))), .val (.ref w_1)] [(.ref w_5)])) _
    refine XS.iload X238.here hx rfl (hb hby d2_17) rfl ?_
    show Steps p.tables e below (T238.setTop (mkF m 19 #[.val (.ref w_4), .val (.ref w_3), .val (.ref w_5), .val (.int (4 : Int32)), .val (.int ((0 : Int32) + (1 : Int32))), .val (.ref w_1)] [(.int ((0 : Int32) + (1 : Int32))), (.ref w_5)])) _
    refine X238.aaload hx (j := ((0 : Int32) + (1 : Int32))) (v := (.ref w_2)) (by rw [e238]; exact Ar239.1) (State.isArrayOf_alike hZ.alike Ar239.2.1) rfl Ar239.2.2 hin239 hat239 (g := (mkF m 19 #[.val (.ref w_4), .val (.ref w_3), .val (.ref w_5), .val (.int (4 : Int32)), .val (.int ((0 : Int32) + (1 : Int32))), .val (.ref w_1)] [(.int ((0 : Int32) + (1 : Int32))), (.ref w_5)])) rfl rfl (hb hby d2_19) _ ?_
    show Steps p.tables e below (T238.setTop (mkF m 20 #[.val (.ref w_4), .val (.ref w_3), .val (.ref w_5), .val (.int (4 : Int32)), .val (.int ((0 : Int32) + (1 : Int32))), .val (.ref w_1)] [(.ref w_2)])) _
    refine XS.astore X238.here hx rfl (hb hby d2_20) rfl rfl (l' := #[.val (.ref w_4), .val (.ref w_3), .val (.ref w_5), .val (.int (4 : Int32)), .val (.int ((0 : Int32) + (1 : Int32))), .val (.ref w_2)]) rfl ?_
    show Steps p.tables e below (T238.setTop (mkF m 22 #[.val (.ref w_4), .val (.ref w_3), .val (.ref w_5), .val (.int (4 : Int32)), .val (.int ((0 : Int32) + (1 : Int32))), .val (.ref w_2)] [])) _
    refine XS.aloadN X238.here hx rfl (hb hby d2_22) rfl rfl ?_
    show Steps p.tables e below (T238.setTop (mkF m 23 #[.val (.ref w_4), .val (.ref w_3), .val (.ref w_5), .val (.int (4 : Int32)), .val (.int ((0 : Int32) + (1 : Int32))), .val (.ref w_2)] [(.ref w_3)])) _
    refine XS.aload X238.here hx rfl (hb hby d2_23) rfl rfl ?_
    show Steps p.tables e below (T238.setTop (mkF m 25 #[.val (.ref w_4), .val (.ref w_3), .val (.ref w_5), .val (.int (4 : Int32)), .val (.int ((0 : Int32) + (1 : Int32))), .val (.ref w_2)] [(.ref w_2), (.ref w_3)])) _
    refine st240.trans ?_
    show Steps p.tables e below (T240.setTop (mkF m 28 #[.val (.ref w_4), .val (.ref w_3), .val (.ref w_5), .val (.int (4 : Int32)), .val (.int ((0 : Int32) + (1 : Int32))), .val (.ref w_2)] [(.int (1 : Int32))])) _
    refine XS.ifNo X240.here hx rfl (hb hby d2_28) rfl ((if0 _ _).trans (feq (by decide : ¬ ((1 : Int32) = (0 : Int32)))).1) ?_
    show Steps p.tables e below (T240.setTop (mkF m 31 #[.val (.ref w_4), .val (.ref w_3), .val (.ref w_5), .val (.int (4 : Int32)), .val (.int ((0 : Int32) + (1 : Int32))), .val (.ref w_2)] [])) _
    refine XS.aloadN X240.here hx rfl (hb hby d2_31) rfl rfl ?_
    show Steps p.tables e below (T240.setTop (mkF m 32 #[.val (.ref w_4), .val (.ref w_3), .val (.ref w_5), .val (.int (4 : Int32)), .val (.int ((0 : Int32) + (1 : Int32))), .val (.ref w_2)] [(.ref w_4)])) _
    refine XS.aload X240.here hx rfl (hb hby d2_32) rfl rfl ?_
    show Steps p.tables e below (T240.setTop (mkF m 34 #[.val (.ref w_4), .val (.ref w_3), .val (.ref w_5), .val (.int (4 : Int32)), .val (.int ((0 : Int32) + (1 : Int32))), .val (.ref w_2)] [(.ref w_2), (.ref w_4)])) _
    refine st241.trans ?_
    show Steps p.tables e below (T241.setTop (mkF m 37 #[.val (.ref w_4), .val (.ref w_3), .val (.ref w_5), .val (.int (4 : Int32)), .val (.int ((0 : Int32) + (1 : Int32))), .val (.ref w_2)] [(.int (1 : Int32))])) _
    refine XS.ifYes X241.here hx rfl (pc0 := 37) (pc' := 42) rfl (hb hby d2_37) rfl ((if0 _ _).trans (feq (by decide : ¬ ((1 : Int32) = (0 : Int32)))).2) (by decide) (by decide) ?_
    show Steps p.tables e below (T241.setTop (mkF m 42 #[.val (.ref w_4), .val (.ref w_3), .val (.ref w_5), .val (.int (4 : Int32)), .val (.int ((0 : Int32) + (1 : Int32))), .val (.ref w_2)] [])) _
    refine XS.iinc X241.here hx rfl (hb hby d2_42) rfl (l' := #[.val (.ref w_4), .val (.ref w_3), .val (.ref w_5), .val (.int (4 : Int32)), .val (.int (((0 : Int32) + (1 : Int32)) + (1 : Int32))), .val (.ref w_2)]) rfl ?_
    show Steps p.tables e below (T241.setTop (mkF m 45 #[.val (.ref w_4), .val (.ref w_3), .val (.ref w_5), .val (.int (4 : Int32)), .val (.int (((0 : Int32) + (1 : Int32)) + (1 : Int32))), .val (.ref w_2)] [])) _
    refine XS.goto X241.here hx rfl (pc0 := 45) (pc' := 10) rfl (hb hby d2_45) (by decide) (by decide) ?_
    show Steps p.tables e below (T241.setTop (mkF m 10 #[.val (.ref w_4), .val (.ref w_3), .val (.ref w_5), .val (.int (4 : Int32)), .val (.int (((0 : Int32) + (1 : Int32)) + (1 : Int32))), .val (.ref w_2)] [])) _
    refine XS.iload X241.here hx rfl (hb hby d2_10) rfl ?_
    show Steps p.tables e below (T241.setTop (mkF m 12 #[.val (.ref w_4), .val (.ref w_3), .val (.ref w_5), .val (.int (4 : Int32)), .val (.int (((0 : Int32) + (1 : Int32)) + (1 : Int32))), .val (.ref w_2)] [(.int (((0 : Int32) + (1 : Int32)) + (1 : Int32)))])) _
    refine XS.iloadN X241.here hx rfl (hb hby d2_12) rfl ?_
    show Steps p.tables e below (T241.setTop (mkF m 13 #[.val (.ref w_4), .val (.ref w_3), .val (.ref w_5), .val (.int (4 : Int32)), .val (.int (((0 : Int32) + (1 : Int32)) + (1 : Int32))), .val (.ref w_2)] [(.int (4 : Int32)), (.int (((0 : Int32) + (1 : Int32)) + (1 : Int32)))])) _
    refine XS.icmpNo X241.here hx rfl (hb hby d2_13) rfl (tlt (by decide : ((((0 : Int32) + (1 : Int32)) + (1 : Int32)) < (4 : Int32)))).2.1 ?_
    show Steps p.tables e below (T241.setTop (mkF m 16 #[.val (.ref w_4), .val (.ref w_3), .val (.ref w_5), .val (.int (4 : Int32)), .val (.int (((0 : Int32) + (1 : Int32)) + (1 : Int32))), .val (.ref w_2)] [])) _
    refine XS.aloadN X241.here hx rfl (hb hby d2_16) rfl rfl ?_
    show Steps p.tables e below (T241.setTop (mkF m 17 #[.val (.ref w_4), .val (.ref w_3), .val (.ref w_5), .val (.int (4 : Int32)), .val (.int (((0 : Int32) + (1 : Int32)) + (1 : Int32))), .val (.ref w_2)] [(.ref w_5)])) _
    refine XS.iload X241.here hx rfl (hb hby d2_17) rfl ?_
    show Steps p.tables e below (T241.setTop (mkF m 19 #[.val (.ref w_4), .val (.ref w_3), .val (.ref w_5), .val (.int (4 : Int32)), .val (.int (((0 : Int32) + (1 : Int32)) + (1 : Int32))), .val (.ref w_2)] [(.int (((0 : Int32) + (1 : Int32)) + (1 : Int32))), (.ref w_5)])) _
    refine X241.aaload hx (j := (((0 : Int32) + (1 : Int32)) + (1 : Int32))) (v := (.ref w_3)) (by rw [e241]; exact Ar242.1) (State.isArrayOf_alike hZ.alike Ar242.2.1) rfl Ar242.2.2 hin242 hat242 (g := (mkF m 19 #[.val (.ref w_4), .val (.ref w_3), .val (.ref w_5), .val (.int (4 : Int32)), .val (.int (((0 : Int32) + (1 : Int32)) + (1 : Int32))), .val (.ref w_2)] [(.int (((0 : Int32) + (1 : Int32)) + (1 : Int32))), (.ref w_5)])) rfl rfl (hb hby d2_19) _ ?_
    show Steps p.tables e below (T241.setTop (mkF m 20 #[.val (.ref w_4), .val (.ref w_3), .val (.ref w_5), .val (.int (4 : Int32)), .val (.int (((0 : Int32) + (1 : Int32)) + (1 : Int32))), .val (.ref w_2)] [(.ref w_3)])) _
    refine XS.astore X241.here hx rfl (hb hby d2_20) rfl rfl (l' := #[.val (.ref w_4), .val (.ref w_3), .val (.ref w_5), .val (.int (4 : Int32)), .val (.int (((0 : Int32) + (1 : Int32)) + (1 : Int32))), .val (.ref w_3)]) rfl ?_
    show Steps p.tables e below (T241.setTop (mkF m 22 #[.val (.ref w_4), .val (.ref w_3), .val (.ref w_5), .val (.int (4 : Int32)), .val (.int (((0 : Int32) + (1 : Int32)) + (1 : Int32))), .val (.ref w_3)] [])) _
    refine XS.aloadN X241.here hx rfl (hb hby d2_22) rfl rfl ?_
    show Steps p.tables e below (T241.setTop (mkF m 23 #[.val (.ref w_4), .val (.ref w_3), .val (.ref w_5), .val (.int (4 : Int32)), .val (.int (((0 : Int32) + (1 : Int32)) + (1 : Int32))), .val (.ref w_3)] [(.ref w_3)])) _
    refine XS.aload X241.here hx rfl (hb hby d2_23) rfl rfl ?_
    show Steps p.tables e below (T241.setTop (mkF m 25 #[.val (.ref w_4), .val (.ref w_3), .val (.ref w_5), .val (.int (4 : Int32)), .val (.int (((0 : Int32) + (1 : Int32)) + (1 : Int32))), .val (.ref w_3)] [(.ref w_3), (.ref w_3)])) _
    refine st243.trans ?_
    show Steps p.tables e below (T243.setTop (mkF m 28 #[.val (.ref w_4), .val (.ref w_3), .val (.ref w_5), .val (.int (4 : Int32)), .val (.int (((0 : Int32) + (1 : Int32)) + (1 : Int32))), .val (.ref w_3)] [(.int (1 : Int32))])) _
    refine XS.ifNo X243.here hx rfl (hb hby d2_28) rfl ((if0 _ _).trans (feq (by decide : ¬ ((1 : Int32) = (0 : Int32)))).1) ?_
    show Steps p.tables e below (T243.setTop (mkF m 31 #[.val (.ref w_4), .val (.ref w_3), .val (.ref w_5), .val (.int (4 : Int32)), .val (.int (((0 : Int32) + (1 : Int32)) + (1 : Int32))), .val (.ref w_3)] [])) _
    refine XS.aloadN X243.here hx rfl (hb hby d2_31) rfl rfl ?_
    show Steps p.tables e below (T243.setTop (mkF m 32 #[.val (.ref w_4), .val (.ref w_3), .val (.ref w_5), .val (.int (4 : Int32)), .val (.int (((0 : Int32) + (1 : Int32)) + (1 : Int32))), .val (.ref w_3)] [(.ref w_4)])) _
    refine XS.aload X243.here hx rfl (hb hby d2_32) rfl rfl ?_
    show Steps p.tables e below (T243.setTop (mkF m 34 #[.val (.ref w_4), .val (.ref w_3), .val (.ref w_5), .val (.int (4 : Int32)), .val (.int (((0 : Int32) + (1 : Int32)) + (1 : Int32))), .val (.ref w_3)] [(.ref w_3), (.ref w_4)])) _
    refine st244.trans ?_
    show Steps p.tables e below (T244.setTop (mkF m 37 #[.val (.ref w_4), .val (.ref w_3), .val (.ref w_5), .val (.int (4 : Int32)), .val (.int (((0 : Int32) + (1 : Int32)) + (1 : Int32))), .val (.ref w_3)] [(.int (1 : Int32))])) _
    refine XS.ifYes X244.here hx rfl (pc0 := 37) (pc' := 42) rfl (hb hby d2_37) rfl ((if0 _ _).trans (feq (by decide : ¬ ((1 : Int32) = (0 : Int32)))).2) (by decide) (by decide) ?_
    show Steps p.tables e below (T244.setTop (mkF m 42 #[.val (.ref w_4), .val (.ref w_3), .val (.ref w_5), .val (.int (4 : Int32)), .val (.int (((0 : Int32) + (1 : Int32)) + (1 : Int32))), .val (.ref w_3)] [])) _
    refine XS.iinc X244.here hx rfl (hb hby d2_42) rfl (l' := #[.val (.ref w_4), .val (.ref w_3), .val (.ref w_5), .val (.int (4 : Int32)), .val (.int ((((0 : Int32) + (1 : Int32)) + (1 : Int32)) + (1 : Int32))), .val (.ref w_3)]) rfl ?_
    show Steps p.tables e below (T244.setTop (mkF m 45 #[.val (.ref w_4), .val (.ref w_3), .val (.ref w_5), .val (.int (4 : Int32)), .val (.int ((((0 : Int32) + (1 : Int32)) + (1 : Int32)) + (1 : Int32))), .val (.ref w_3)] [])) _
    refine XS.goto X244.here hx rfl (pc0 := 45) (pc' := 10) rfl (hb hby d2_45) (by decide) (by decide) ?_
    show Steps p.tables e below (T244.setTop (mkF m 10 #[.val (.ref w_4), .val (.ref w_3), .val (.ref w_5), .val (.int (4 : Int32)), .val (.int ((((0 : Int32) + (1 : Int32)) + (1 : Int32)) + (1 : Int32))), .val (.ref w_3)] [])) _
    refine XS.iload X244.here hx rfl (hb hby d2_10) rfl ?_
    show Steps p.tables e below (T244.setTop (mkF m 12 #[.val (.ref w_4), .val (.ref w_3), .val (.ref w_5), .val (.int (4 : Int32)), .val (.int ((((0 : Int32) + (1 : Int32)) + (1 : Int32)) + (1 : Int32))), .val (.ref w_3)] [(.int ((((0 : Int32) + (1 : Int32)) + (1 : Int32)) + (1 : Int32)))])) _
    refine XS.iloadN X244.here hx rfl (hb hby d2_12) rfl ?_
    show Steps p.tables e below (T244.setTop (mkF m 13 #[.val (.ref w_4), .val (.ref w_3), .val (.ref w_5), .val (.int (4 : Int32)), .val (.int ((((0 : Int32) + (1 : Int32)) + (1 : Int32)) + (1 : Int32))), .val (.ref w_3)] [(.int (4 : Int32)), (.int ((((0 : Int32) + (1 : Int32)) + (1 : Int32)) + (1 : Int32)))])) _
    refine XS.icmpNo X244.here hx rfl (hb hby d2_13) rfl (tlt (by decide : (((((0 : Int32) + (1 : Int32)) + (1 : Int32)) + (1 : Int32)) < (4 : Int32)))).2.1 ?_
    show Steps p.tables e below (T244.setTop (mkF m 16 #[.val (.ref w_4), .val (.ref w_3), .val (.ref w_5), .val (.int (4 : Int32)), .val (.int ((((0 : Int32) + (1 : Int32)) + (1 : Int32)) + (1 : Int32))), .val (.ref w_3)] [])) _
    refine XS.aloadN X244.here hx rfl (hb hby d2_16) rfl rfl ?_
    show Steps p.tables e below (T244.setTop (mkF m 17 #[.val (.ref w_4), .val (.ref w_3), .val (.ref w_5), .val (.int (4 : Int32)), .val (.int ((((0 : Int32) + (1 : Int32)) + (1 : Int32)) + (1 : Int32))), .val (.ref w_3)] [(.ref w_5)])) _
    refine XS.iload X244.here hx rfl (hb hby d2_17) rfl ?_
    show Steps p.tables e below (T244.setTop (mkF m 19 #[.val (.ref w_4), .val (.ref w_3), .val (.ref w_5), .val (.int (4 : Int32)), .val (.int ((((0 : Int32) + (1 : Int32)) + (1 : Int32)) + (1 : Int32))), .val (.ref w_3)] [(.int ((((0 : Int32) + (1 : Int32)) + (1 : Int32)) + (1 : Int32))), (.ref w_5)])) _
    refine X244.aaload hx (j := ((((0 : Int32) + (1 : Int32)) + (1 : Int32)) + (1 : Int32))) (v := (.ref w_4)) (by rw [e244]; exact Ar245.1) (State.isArrayOf_alike hZ.alike Ar245.2.1) rfl Ar245.2.2 hin245 hat245 (g := (mkF m 19 #[.val (.ref w_4), .val (.ref w_3), .val (.ref w_5), .val (.int (4 : Int32)), .val (.int ((((0 : Int32) + (1 : Int32)) + (1 : Int32)) + (1 : Int32))), .val (.ref w_3)] [(.int ((((0 : Int32) + (1 : Int32)) + (1 : Int32)) + (1 : Int32))), (.ref w_5)])) rfl rfl (hb hby d2_19) _ ?_
    show Steps p.tables e below (T244.setTop (mkF m 20 #[.val (.ref w_4), .val (.ref w_3), .val (.ref w_5), .val (.int (4 : Int32)), .val (.int ((((0 : Int32) + (1 : Int32)) + (1 : Int32)) + (1 : Int32))), .val (.ref w_3)] [(.ref w_4)])) _
    refine XS.astore X244.here hx rfl (hb hby d2_20) rfl rfl (l' := #[.val (.ref w_4), .val (.ref w_3), .val (.ref w_5), .val (.int (4 : Int32)), .val (.int ((((0 : Int32) + (1 : Int32)) + (1 : Int32)) + (1 : Int32))), .val (.ref w_4)]) rfl ?_
    show Steps p.tables e below (T244.setTop (mkF m 22 #[.val (.ref w_4), .val (.ref w_3), .val (.ref w_5), .val (.int (4 : Int32)), .val (.int ((((0 : Int32) + (1 : Int32)) + (1 : Int32)) + (1 : Int32))), .val (.ref w_4)] [])) _
    refine XS.aloadN X244.here hx rfl (hb hby d2_22) rfl rfl ?_
    show Steps p.tables e below (T244.setTop (mkF m 23 #[.val (.ref w_4), .val (.ref w_3), .val (.ref w_5), .val (.int (4 : Int32)), .val (.int ((((0 : Int32) + (1 : Int32)) + (1 : Int32)) + (1 : Int32))), .val (.ref w_4)] [(.ref w_3)])) _
    refine XS.aload X244.here hx rfl (hb hby d2_23) rfl rfl ?_
    show Steps p.tables e below (T244.setTop (mkF m 25 #[.val (.ref w_4), .val (.ref w_3), .val (.ref w_5), .val (.int (4 : Int32)), .val (.int ((((0 : Int32) + (1 : Int32)) + (1 : Int32)) + (1 : Int32))), .val (.ref w_4)] [(.ref w_4), (.ref w_3)])) _
    refine st246.trans ?_
    show Steps p.tables e below (T246.setTop (mkF m 28 #[.val (.ref w_4), .val (.ref w_3), .val (.ref w_5), .val (.int (4 : Int32)), .val (.int ((((0 : Int32) + (1 : Int32)) + (1 : Int32)) + (1 : Int32))), .val (.ref w_4)] [(.int (1 : Int32))])) _
    refine XS.ifNo X246.here hx rfl (hb hby d2_28) rfl ((if0 _ _).trans (feq (by decide : ¬ ((1 : Int32) = (0 : Int32)))).1) ?_
    show Steps p.tables e below (T246.setTop (mkF m 31 #[.val (.ref w_4), .val (.ref w_3), .val (.ref w_5), .val (.int (4 : Int32)), .val (.int ((((0 : Int32) + (1 : Int32)) + (1 : Int32)) + (1 : Int32))), .val (.ref w_4)] [])) _
    refine XS.aloadN X246.here hx rfl (hb hby d2_31) rfl rfl ?_
    show Steps p.tables e below (T246.setTop (mkF m 32 #[.val (.ref w_4), .val (.ref w_3), .val (.ref w_5), .val (.int (4 : Int32)), .val (.int ((((0 : Int32) + (1 : Int32)) + (1 : Int32)) + (1 : Int32))), .val (.ref w_4)] [(.ref w_4)])) _
    refine XS.aload X246.here hx rfl (hb hby d2_32) rfl rfl ?_
    show Steps p.tables e below (T246.setTop (mkF m 34 #[.val (.ref w_4), .val (.ref w_3), .val (.ref w_5), .val (.int (4 : Int32)), .val (.int ((((0 : Int32) + (1 : Int32)) + (1 : Int32)) + (1 : Int32))), .val (.ref w_4)] [(.ref w_4), (.ref w_4)])) _
    refine st247.trans ?_
    show Steps p.tables e below (T247.setTop (mkF m 37 #[.val (.ref w_4), .val (.ref w_3), .val (.ref w_5), .val (.int (4 : Int32)), .val (.int ((((0 : Int32) + (1 : Int32)) + (1 : Int32)) + (1 : Int32))), .val (.ref w_4)] [(.int (1 : Int32))])) _
    refine XS.ifYes X247.here hx rfl (pc0 := 37) (pc' := 42) rfl (hb hby d2_37) rfl ((if0 _ _).trans (feq (by decide : ¬ ((1 : Int32) = (0 : Int32)))).2) (by decide) (by decide) ?_
    show Steps p.tables e below (T247.setTop (mkF m 42 #[.val (.ref w_4), .val (.ref w_3), .val (.ref w_5), .val (.int (4 : Int32)), .val (.int ((((0 : Int32) + (1 : Int32)) + (1 : Int32)) + (1 : Int32))), .val (.ref w_4)] [])) _
    refine XS.iinc X247.here hx rfl (hb hby d2_42) rfl (l' := #[.val (.ref w_4), .val (.ref w_3), .val (.ref w_5), .val (.int (4 : Int32)), .val (.int (((((0 : Int32) + (1 : Int32)) + (1 : Int32)) + (1 : Int32)) + (1 : Int32))), .val (.ref w_4)]) rfl ?_
    show Steps p.tables e below (T247.setTop (mkF m 45 #[.val (.ref w_4), .val (.ref w_3), .val (.ref w_5), .val (.int (4 : Int32)), .val (.int (((((0 : Int32) + (1 : Int32)) + (1 : Int32)) + (1 : Int32)) + (1 : Int32))), .val (.ref w_4)] [])) _
    refine XS.goto X247.here hx rfl (pc0 := 45) (pc' := 10) rfl (hb hby d2_45) (by decide) (by decide) ?_
    show Steps p.tables e below (T247.setTop (mkF m 10 #[.val (.ref w_4), .val (.ref w_3), .val (.ref w_5), .val (.int (4 : Int32)), .val (.int (((((0 : Int32) + (1 : Int32)) + (1 : Int32)) + (1 : Int32)) + (1 : Int32))), .val (.ref w_4)] [])) _
    refine XS.iload X247.here hx rfl (hb hby d2_10) rfl ?_
    show Steps p.tables e below (T247.setTop (mkF m 12 #[.val (.ref w_4), .val (.ref w_3), .val (.ref w_5), .val (.int (4 : Int32)), .val (.int (((((0 : Int32) + (1 : Int32)) + (1 : Int32)) + (1 : Int32)) + (1 : Int32))), .val (.ref w_4)] [(.int (((((0 : Int32) + (1 : Int32)) + (1 : Int32)) + (1 : Int32)) + (1 : Int32)))])) _
    refine XS.iloadN X247.here hx rfl (hb hby d2_12) rfl ?_
    show Steps p.tables e below (T247.setTop (mkF m 13 #[.val (.ref w_4), .val (.ref w_3), .val (.ref w_5), .val (.int (4 : Int32)), .val (.int (((((0 : Int32) + (1 : Int32)) + (1 : Int32)) + (1 : Int32)) + (1 : Int32))), .val (.ref w_4)] [(.int (4 : Int32)), (.int (((((0 : Int32) + (1 : Int32)) + (1 : Int32)) + (1 : Int32)) + (1 : Int32)))])) _
    refine XS.icmpYes X247.here hx rfl (pc0 := 13) (pc' := 48) rfl (hb hby d2_13) rfl (flt (by decide : ¬ ((((((0 : Int32) + (1 : Int32)) + (1 : Int32)) + (1 : Int32)) + (1 : Int32)) < (4 : Int32)))).2.1 (by decide) (by decide) ?_
    show Steps p.tables e below (T247.setTop (mkF m 48 #[.val (.ref w_4), .val (.ref w_3), .val (.ref w_5), .val (.int (4 : Int32)), .val (.int (((((0 : Int32) + (1 : Int32)) + (1 : Int32)) + (1 : Int32)) + (1 : Int32))), .val (.ref w_4)] [])) _
    refine XS.iconst X247.here hx rfl (hb hby d2_48) ?_
    show Steps p.tables e below (T247.setTop (mkF m 49 #[.val (.ref w_4), .val (.ref w_3), .val (.ref w_5), .val (.int (4 : Int32)), .val (.int (((((0 : Int32) + (1 : Int32)) + (1 : Int32)) + (1 : Int32)) + (1 : Int32))), .val (.ref w_4)] [(.int (1 : Int32))])) _
    exact retN X247 hx (t := .boolean) Bd.returns (by simp) (hb hby d2_49) hr
  · show Q2x12 Z w_1 w_2 w_3 w_4 w_5 k_5 h0 n0 _ T247.heap _
    rw [e247]
    exact ⟨by unfold sp2x12; rfl, N247, rfl⟩
theorem pn_1x12 : plainName "com/example/lucid_locks/lucidlocks/locks/LockMode" = true := by first | (simp [plainName, overriddenIn]; done) | decide +kernel
theorem ef_1x12 (m : MethodId) (w_3 : Addr) (w_4 : Addr) : entryFrame m #[(.ref w_3), (.ref w_4)] 2 = mkF m 0 #[.val (.ref w_3), .val (.ref w_4)] [] := by first | (simp [entryFrame, mkF, argsToLocals, Value.category]; done) | rfl
def sp1x12 (w_4 : Addr) : Value := (.ref w_4)
def Q1x12 (Z : State) (w_1 : Addr) (w_2 : Addr) (w_3 : Addr) (w_4 : Addr) (w_5 : Addr) (k_5 : ClassId) (h0 : Heap) (n0 : Nat) (v : Option Value) (h : Heap) (L : List Loc) : Prop := v = some (sp1x12 w_4) ∧ Fr n0 L ∧ h = h0
set_option maxRecDepth 65536 in
set_option maxHeartbeats 40000000 in
theorem rm1x12 (l : Launch) (Z : State) (a0 : Array Value) (hw : ∀ d ∈ tables_1, d.before a0 Z = true) (ws : List Jvm.Cond) (w_1 : Addr) (w_2 : Addr) (w_3 : Addr) (w_4 : Addr) (w_5 : Addr) (k_5 : ClassId) (hS : StF Z w_1 w_2 w_3 w_4 w_5 k_5) (h0 : Heap) (n0 : Nat) (O0 : Old Z n0 h0) :
    MetFree l Y2 (head1 (Jvm.Cond.code Y2 prog_17_method_6_code 2 (some (.object "com/example/lucid_locks/lucidlocks/locks/LockMode")) :: ws) ({ frames := 2, cells := 0, slots := 0, locals := 30 } : Room)) (fun a U => a = #[(.ref w_3), (.ref w_4)] ∧ Z.Warmed39 U.vm ∧ U.heap = h0) (fun _ _ _ _ _ => True) (fun _ U o U' => ∃ v L, o = .returned v ∧ Q1x12 Z w_1 w_2 w_3 w_4 w_5 k_5 h0 n0 v U'.heap L ∧ FrameEnd U o U' L ({ frames := 2, cells := 0, slots := 0, locals := 30 } : Room).cells ({ frames := 2, cells := 0, slots := 0, locals := 30 } : Room).slots) := by
  refine MetFree.of_bodySF (plainFor_of_name pn_1x12) hisR ?_
  intro p e s m args below meth c s₁ Bd hml0 hP hK
  obtain ⟨rfl, hZ, hh⟩ := hP
  have hx := Bd.exec
  have hby := Bd.bytes
  have hml : c.maxLocals = 2 := hml0
  have hown : s.vm.findClass "com/example/lucid_locks/lucidlocks/locks/LockMode" = some m.cls := findClass_of_methodNamed Bd.named
  have hnm := (name_of_methodNamed Bd.named Bd.method).1
  have X0 : Stand p l e ({ frames := 2, cells := 0, slots := 0, locals := 30 } : Room) s m #[(.ref w_3), (.ref w_4)] below meth c s₁ [] 0 0 := Stand.of_body Bd
  have e0 : s₁.heap = h0 := by rw [← hh, Bd.state]; rfl
  have N0 := Fr.nil n0
  have hS0 := hS
  obtain ⟨S_1, E_1, S_2, E_2, S_3, E_3, S_4, E_4, S_5, F_1_sharedWithItself, F_1_ordinal, F_2_ordinal, F_4_ordinal, F_3_ordinal, F_4_sharedWithItself, F_2_sharedWithItself, F_3_sharedWithItself, V_5⟩ := hS
  have pre0 : ∀ t, Steps p.tables e below (s₁.setTop (mkF m 0 #[.val (.ref w_3), .val (.ref w_4)] [])) t → Steps p.tables e below (s₁.setTop (entryFrame m #[(.ref w_3), (.ref w_4)] 2)) t := fun t k => castTop (ef_1x12 m w_3 w_4) k
  obtain ⟨cq248, kq248, q248a, q248b, q248c⟩ := isOf hZ e0 (E_4.ext O0.2)
  obtain ⟨_, _, ⟨T248, L248, k248, n248⟩, -, X248, ⟨Lc248, hQ248, l248, y248, z248⟩, st248⟩ := X0.virtualBack hx (y := Y1) (z := Y1) hown (mvT hZ (hw _ (tk 17 rfl))) (mvT hZ (hw _ (tk 18 rfl))) (notFace_of_selects (args := #[]) (mvT hZ (hw _ (tk 20 rfl)))) (mvT hZ (hw _ (tk 20 rfl))) (mvT hZ (hw _ (tk 19 rfl))) (by decide) (backOf (W := 0) (rm2x12 l Z a0 hw [] w_1 w_2 w_3 w_4 w_5 k_5 hS0 h0 n0 O0) hZ (hw _ (tk 21 rfl)) (hw _ (tk 3 rfl)) (by decide) (by decide)) q248a q248c (g := (mkF m 2 #[.val (.ref w_3), .val (.ref w_4)] [(.ref w_3), (.ref w_4)])) rfl (by rw [hml]; rfl) (Steps.refl _) (argsL := [(.ref w_3)]) (rest := []) (lenOf pd_0 rfl) rfl (by show 2 * 0 + _ ≤ _; exact Nat.le_of_eq rfl) (hb hby d1_2) (fun _ _ => ⟨rfl, e0, (by decide : 0 + 0 ≤ _), (by decide : 0 + 0 ≤ _)⟩)
  dsimp only [Pt.U, Pt.locs, Pt.cells, Pt.slots] at X248 l248 y248 z248 st248 hQ248
  subst l248 y248 z248
  obtain ⟨rv248, N248q, e248⟩ := hQ248
  rw [show sp2x12 = (1 : Int32) from by unfold sp2x12; rfl] at rv248
  subst rv248
  have N248 := Fr.app N0 N248q
  obtain ⟨fs, hr, hrun, hended, hW, hsame⟩ := X248.leave (v := some (.ref w_4)) (fun h => by rw [Bd.returns] at h; cases h)
  refine ⟨_, _, pre0 _ ?_, hrun, hended, _, _, rfl, ?_, ⟨_, rfl⟩, hW, hsame.mono (by decide) (by decide)⟩
  · show Steps p.tables e below (s₁.setTop (mkF m 0 #[.val (.ref w_3), .val (.ref w_4)] [])) _
    refine XS.aloadN X0.here hx rfl (hb hby d1_0) rfl rfl ?_
    show Steps p.tables e below (s₁.setTop (mkF m 1 #[.val (.ref w_3), .val (.ref w_4)] [(.ref w_4)])) _
    refine XS.aloadN X0.here hx rfl (hb hby d1_1) rfl rfl ?_
    show Steps p.tables e below (s₁.setTop (mkF m 2 #[.val (.ref w_3), .val (.ref w_4)] [(.ref w_3), (.ref w_4)])) _
    refine st248.trans ?_
    show Steps p.tables e below (T248.setTop (mkF m 5 #[.val (.ref w_3), .val (.ref w_4)] [(.int (1 : Int32))])) _
    refine XS.ifNo X248.here hx rfl (hb hby d1_5) rfl ((if0 _ _).trans (feq (by decide : ¬ ((1 : Int32) = (0 : Int32)))).1) ?_
    show Steps p.tables e below (T248.setTop (mkF m 8 #[.val (.ref w_3), .val (.ref w_4)] [])) _
    refine XS.aloadN X248.here hx rfl (hb hby d1_8) rfl rfl ?_
    show Steps p.tables e below (T248.setTop (mkF m 9 #[.val (.ref w_3), .val (.ref w_4)] [(.ref w_4)])) _
    refine XS.goto X248.here hx rfl (pc0 := 9) (pc' := 15) rfl (hb hby d1_9) (by decide) (by decide) ?_
    show Steps p.tables e below (T248.setTop (mkF m 15 #[.val (.ref w_3), .val (.ref w_4)] [(.ref w_4)])) _
    jvm_step X248.here [X248.here.top, hx, (hb hby d1_15), X248.method', Bd.returns, Value.isRef, FieldType.isReference]
    first | (intro acts; rw [hr _ acts rfl rfl rfl]) | rw [hr _ _ rfl rfl rfl]
    exact Steps.refl _
  · show Q1x12 Z w_1 w_2 w_3 w_4 w_5 k_5 h0 n0 _ T248.heap _
    rw [e248]
    exact ⟨by unfold sp1x12; rfl, N248, rfl⟩
theorem pn_2x13 : plainName "com/example/lucid_locks/lucidlocks/locks/LockMode" = true := by first | (simp [plainName, overriddenIn]; done) | decide +kernel
theorem ef_2x13 (m : MethodId) (w_1 : Addr) (w_4 : Addr) : entryFrame m #[(.ref w_1), (.ref w_4)] 6 = mkF m 0 #[.val (.ref w_1), .val (.ref w_4), .unset, .unset, .unset, .unset] [] := by first | (simp [entryFrame, mkF, argsToLocals, Value.category]; done) | rfl
def sp2x13  : Int32 := (0 : Int32)
def Q2x13 (Z : State) (w_1 : Addr) (w_2 : Addr) (w_3 : Addr) (w_4 : Addr) (w_5 : Addr) (k_5 : ClassId) (h0 : Heap) (n0 : Nat) (v : Option Value) (h : Heap) (L : List Loc) : Prop := v = some (.int (sp2x13)) ∧ Fr n0 L ∧ h = h0
set_option maxRecDepth 65536 in
set_option maxHeartbeats 40000000 in
theorem rm2x13 (l : Launch) (Z : State) (a0 : Array Value) (hw : ∀ d ∈ tables_1, d.before a0 Z = true) (ws : List Jvm.Cond) (w_1 : Addr) (w_2 : Addr) (w_3 : Addr) (w_4 : Addr) (w_5 : Addr) (k_5 : ClassId) (hS : StF Z w_1 w_2 w_3 w_4 w_5 k_5) (h0 : Heap) (n0 : Nat) (O0 : Old Z n0 h0) :
    MetFree l Y1 (head1 (Jvm.Cond.code Y1 prog_17_method_7_code 6 (some .boolean) :: ws) ({ frames := 1, cells := 0, slots := 0, locals := 13 } : Room)) (fun a U => a = #[(.ref w_1), (.ref w_4)] ∧ Z.Warmed39 U.vm ∧ U.heap = h0) (fun _ _ _ _ _ => True) (fun _ U o U' => ∃ v L, o = .returned v ∧ Q2x13 Z w_1 w_2 w_3 w_4 w_5 k_5 h0 n0 v U'.heap L ∧ FrameEnd U o U' L ({ frames := 1, cells := 0, slots := 0, locals := 13 } : Room).cells ({ frames := 1, cells := 0, slots := 0, locals := 13 } : Room).slots) := by
  refine MetFree.of_bodySF (plainFor_of_name pn_2x13) hisR ?_
  intro p e s m args below meth c s₁ Bd hml0 hP hK
  obtain ⟨rfl, hZ, hh⟩ := hP
  have hx := Bd.exec
  have hby := Bd.bytes
  have hml : c.maxLocals = 6 := hml0
  have hown : s.vm.findClass "com/example/lucid_locks/lucidlocks/locks/LockMode" = some m.cls := findClass_of_methodNamed Bd.named
  have hnm := (name_of_methodNamed Bd.named Bd.method).1
  have X0 : Stand p l e ({ frames := 1, cells := 0, slots := 0, locals := 13 } : Room) s m #[(.ref w_1), (.ref w_4)] below meth c s₁ [] 0 0 := Stand.of_body Bd
  have e0 : s₁.heap = h0 := by rw [← hh, Bd.state]; rfl
  have N0 := Fr.nil n0
  have hS0 := hS
  obtain ⟨S_1, E_1, S_2, E_2, S_3, E_3, S_4, E_4, S_5, F_1_sharedWithItself, F_1_ordinal, F_2_ordinal, F_4_ordinal, F_3_ordinal, F_4_sharedWithItself, F_2_sharedWithItself, F_3_sharedWithItself, V_5⟩ := hS
  have pre0 : ∀ t, Steps p.tables e below (s₁.setTop (mkF m 0 #[.val (.ref w_1), .val (.ref w_4), .unset, .unset, .unset, .unset] [])) t → Steps p.tables e below (s₁.setTop (entryFrame m #[(.ref w_1), (.ref w_4)] 6)) t := fun t k => castTop (ef_2x13 m w_1 w_4) k
  obtain ⟨T256, X256, e256, st256⟩ := getS2 X0 hx hZ hown (host := "") (Or.inl (hw _ (tk 22 rfl))) Via.refl e0 (S_5.ext O0.2) (g := (mkF m 0 #[.val (.ref w_1), .val (.ref w_4), .unset, .unset, .unset, .unset] [])) rfl (hb hby d2_0)
  obtain ⟨cl257, Ar257, qa257, Sa257, Ma257, Ha257, Ga257⟩ := id (V_5.ext O0.2)
  obtain ⟨cl258, Ar258, qa258, Sa258, Ma258, Ha258, Ga258⟩ := id (V_5.ext O0.2)
  have hin258 : ¬ ((0 : Int32) < 0 ∨ cl258.slots.size ≤ ((0 : Int32)).toNatClampNeg) := by  exact inb_of Sa258 ⟨by decide, by decide⟩
  have hat258 : cl258.slots[((0 : Int32)).toNatClampNeg]? = some (.ref w_1) := Has.at Ha258 hin258 (by rfl)
  obtain ⟨cq259, kq259, q259a, q259b, q259c⟩ := isOf hZ e256 (E_4.ext O0.2)
  obtain ⟨_, _, ⟨T259, L259, k259, n259⟩, -, X259, ⟨Lc259, hQ259, l259, y259, z259⟩, st259⟩ := X256.virtualBack hx (y := Y0) (z := Y0) hown (mvT hZ (hw _ (tk 24 rfl))) (mvT hZ (hw _ (tk 25 rfl))) (notFace_of_selects (args := #[]) (mvT hZ (hw _ (tk 27 rfl)))) (mvT hZ (hw _ (tk 27 rfl))) (mvT hZ (hw _ (tk 26 rfl))) (by decide) (backOf (W := 0) (rm3 l Z a0 hw [] w_1 w_2 w_3 w_4 w_5 k_5 hS0 w_4 w_1 (0 : Int32) h0 n0 O0 (F_4_sharedWithItself.ext O0.2)) hZ (hw _ (tk 28 rfl)) (hw _ (tk 3 rfl)) (by decide) (by decide)) q259a q259c (g := (mkF m 25 #[.val (.ref w_1), .val (.ref w_4), .val (.ref w_5), .val (.int (4 : Int32)), .val (.int (0 : Int32)), .val (.ref w_1)] [(.ref w_1), (.ref w_4)])) rfl (by rw [hml]; rfl) (Steps.refl _) (argsL := [(.ref w_1)]) (rest := []) (lenOf pd_0 rfl) rfl (by show 2 * 0 + _ ≤ _; exact Nat.le_of_eq rfl) (hb hby d2_25) (fun _ _ => ⟨rfl, e256, (by decide : 0 + 0 ≤ _), (by decide : 0 + 0 ≤ _)⟩)
  dsimp only [Pt.U, Pt.locs, Pt.cells, Pt.slots] at X259 l259 y259 z259 st259 hQ259
  subst l259 y259 z259
  obtain ⟨rv259, N259q, e259⟩ := hQ259
  rw [show sp3 w_4 w_1 (0 : Int32) = (1 : Int32) from by unfold sp3; rw [if_neg (Fld.ne F_4_ordinal F_1_ordinal (by decide))]] at rv259
  subst rv259
  have N259 := Fr.app N0 N259q
  obtain ⟨cq260, kq260, q260a, q260b, q260c⟩ := isOf hZ e259 (E_1.ext O0.2)
  obtain ⟨_, _, ⟨T260, L260, k260, n260⟩, -, X260, ⟨Lc260, hQ260, l260, y260, z260⟩, st260⟩ := X259.virtualBack hx (y := Y0) (z := Y0) hown (mvT hZ (hw _ (tk 24 rfl))) (mvT hZ (hw _ (tk 25 rfl))) (notFace_of_selects (args := #[]) (mvT hZ (hw _ (tk 27 rfl)))) (mvT hZ (hw _ (tk 27 rfl))) (mvT hZ (hw _ (tk 26 rfl))) (by decide) (backOf (W := 0) (rm3 l Z a0 hw [] w_1 w_2 w_3 w_4 w_5 k_5 hS0 w_1 w_1 (1 : Int32) h0 n0 O0 (F_1_sharedWithItself.ext O0.2)) hZ (hw _ (tk 28 rfl)) (hw _ (tk 3 rfl)) (by decide) (by decide)) q260a q260c (g := (mkF m 34 #[.val (.ref w_1), .val (.ref w_4), .val (.ref w_5), .val (.int (4 : Int32)), .val (.int (0 : Int32)), .val (.ref w_1)] [(.ref w_1), (.ref w_1)])) rfl (by rw [hml]; rfl) (Steps.refl _) (argsL := [(.ref w_1)]) (rest := []) (lenOf pd_0 rfl) rfl (by show 2 * 0 + _ ≤ _; exact Nat.le_of_eq rfl) (hb hby d2_34) (fun _ _ => ⟨rfl, e259, (by decide : 0 + 0 ≤ _), (by decide : 0 + 0 ≤ _)⟩)
  dsimp only [Pt.U, Pt.locs, Pt.cells, Pt.slots] at X260 l260 y260 z260 st260 hQ260
  subst l260 y260 z260
  obtain ⟨rv260, N260q, e260⟩ := hQ260
  rw [show sp3 w_1 w_1 (1 : Int32) = (0 : Int32) from by unfold sp3; rw [if_pos rfl, if_neg (by decide : ¬ ((1 : Int32) = (0 : Int32)))]] at rv260
  subst rv260
  have N260 := Fr.app N259 N260q
  obtain ⟨fs, hr, hrun, hended, hW, hsame⟩ := X260.leave (v := some (.int (0 : Int32))) (fun h => by rw [Bd.returns] at h; cases h)
  refine ⟨_, _, pre0 _ ?_, hrun, hended, _, _, rfl, ?_, ⟨_, rfl⟩, hW, hsame.mono (by decide) (by decide)⟩
  · show Steps p.tables e below (s₁.setTop (mkF m 0 #[.val (.ref w_1), .val (.ref w_4), .unset, .unset, .unset, .unset] [])) _
    refine st256 _ ?_
    show Steps p.tables e below (T256.setTop (mkF m 3 #[.val (.ref w_1), .val (.ref w_4), .unset, .unset, .unset, .unset] [(.ref w_5)])) _
    refine XS.astoreN X256.here hx rfl (hb hby d2_3) rfl rfl (l' := #[.val (.ref w_1), .val (.ref w_4), .val (.ref w_5), .unset, .unset, .unset]) rfl ?_
    show Steps p.tables e below (T256.setTop (mkF m 4 #[.val (.ref w_1), .val (.ref w_4), .val (.ref w_5), .unset, .unset, .unset] [])) _
    refine XS.aloadN X256.here hx rfl (hb hby d2_4) rfl rfl ?_
    show Steps p.tables e below (T256.setTop (mkF m 5 #[.val (.ref w_1), .val (.ref w_4), .val (.ref w_5), .unset, .unset, .unset] [(.ref w_5)])) _
    refine X256.arraylength hx (by rw [e256]; exact Ar257.1) (State.isArrayOf_alike hZ.alike Ar257.2.1) (g := (mkF m 5 #[.val (.ref w_1), .val (.ref w_4), .val (.ref w_5), .unset, .unset, .unset] [(.ref w_5)])) rfl rfl (hb hby d2_5) _ ?_
    rw [len_of Sa257 Ma257]
    show Steps p.tables e below (T256.setTop (mkF m 6 #[.val (.ref w_1), .val (.ref w_4), .val (.ref w_5), .unset, .unset, .unset] [(.int (4 : Int32))])) _
    refine XS.istoreN X256.here hx rfl (hb hby d2_6) rfl (l' := #[.val (.ref w_1), .val (.ref w_4), .val (.ref w_5), .val (.int (4 : Int32)), .unset, .unset]) rfl ?_
    show Steps p.tables e below (T256.setTop (mkF m 7 #[.val (.ref w_1), .val (.ref w_4), .val (.ref w_5), .val (.int (4 : Int32)), .unset, .unset] [])) _
    refine XS.iconst X256.here hx rfl (hb hby d2_7) ?_
    show Steps p.tables e below (T256.setTop (mkF m 8 #[.val (.ref w_1), .val (.ref w_4), .val (.ref w_5), .val (.int (4 : Int32)), .unset, .unset] [(.int (0 : Int32))])) _
    refine XS.istore X256.here hx rfl (hb hby d2_8) rfl (l' := #[.val (.ref w_1), .val (.ref w_4), .val (.ref w_5), .val (.int (4 : Int32)), .val (.int (0 : Int32)), .unset]) rfl ?_
    show Steps p.tables e below (T256.setTop (mkF m 10 #[.val (.ref w_1), .val (.ref w_4), .val (.ref w_5), .val (.int (4 : Int32)), .val (.int (0 : Int32)), .unset] [])) _
    refine XS.iload X256.here hx rfl (hb hby d2_10) rfl ?_
    show Steps p.tables e below (T256.setTop (mkF m 12 #[.val (.ref w_1), .val (.ref w_4), .val (.ref w_5), .val (.int (4 : Int32)), .val (.int (0 : Int32)), .unset] [(.int (0 : Int32))])) _
    refine XS.iloadN X256.here hx rfl (hb hby d2_12) rfl ?_
    show Steps p.tables e below (T256.setTop (mkF m 13 #[.val (.ref w_1), .val (.ref w_4), .val (.ref w_5), .val (.int (4 : Int32)), .val (.int (0 : Int32)), .unset] [(.int (4 : Int32)), (.int (0 : Int32))])) _
    refine XS.icmpNo X256.here hx rfl (hb hby d2_13) rfl (tlt (by decide : ((0 : Int32) < (4 : Int32)))).2.1 ?_
    show Steps p.tables e below (T256.setTop (mkF m 16 #[.val (.ref w_1), .val (.ref w_4), .val (.ref w_5), .val (.int (4 : Int32)), .val (.int (0 : Int32)), .unset] [])) _
    refine XS.aloadN X256.here hx rfl (hb hby d2_16) rfl rfl ?_
    show Steps p.tables e below (T256.setTop (mkF m 17 #[.val (.ref w_1), .val (.ref w_4), .val (.ref w_5), .val (.int (4 : Int32)), .val (.int (0 : Int32)), .unset] [(.ref w_5)])) _
    refine XS.iload X256.here hx rfl (hb hby d2_17) rfl ?_
    show Steps p.tables e below (T256.setTop (mkF m 19 #[.val (.ref w_1), .val (.ref w_4), .val (.ref w_5), .val (.int (4 : Int32)), .val (.int (0 : Int32)), .unset] [(.int (0 : Int32)), (.ref w_5)])) _
    refine X256.aaload hx (j := (0 : Int32)) (v := (.ref w_1)) (by rw [e256]; exact Ar258.1) (State.isArrayOf_alike hZ.alike Ar258.2.1) rfl Ar258.2.2 hin258 hat258 (g := (mkF m 19 #[.val (.ref w_1), .val (.ref w_4), .val (.ref w_5), .val (.int (4 : Int32)), .val (.int (0 : Int32)), .unset] [(.int (0 : Int32)), (.ref w_5)])) rfl rfl (hb hby d2_19) _ ?_
    show Steps p.tables e below (T256.setTop (mkF m 20 #[.val (.ref w_1), .val (.ref w_4), .val (.ref w_5), .val (.int (4 : Int32)), .val (.int (0 : Int32)), .unset] [(.ref w_1)])) _
    refine XS.astore X256.here hx rfl (hb hby d2_20) rfl rfl (l' := #[.val (.ref w_1), .val (.ref w_4), .val (.ref w_5), .val (.int (4 : Int32)), .val (.int (0 : Int32)), .val (.ref w_1)]) rfl ?_
    show Steps p.tables e below (T256.setTop (mkF m 22 #[.val (.ref w_1), .val (.ref w_4), .val (.ref w_5), .val (.int (4 : Int32)), .val (.int (0 : Int32)), .val (.ref w_1)] [])) _
    refine XS.aloadN X256.here hx rfl (hb hby d2_22) rfl rfl ?_
    show Steps p.tables e below (T256.setTop (mkF m 23 #[.val (.ref w_1), .val (.ref w_4), .val (.ref w_5), .val (.int (4 : Int32)), .val (.int (0 : Int32)), .val (.ref w_1)] [(.ref w_4)])) _
    refine XS.aload X256.here hx rfl (hb hby d2_23) rfl rfl ?_
    show Steps p.tables e below (T256.setTop (mkF m 25 #[.val (.ref w_1), .val (.ref w_4), .val (.ref w_5), .val (.int (4 : Int32)), .val (.int (0 : Int32)), .val (.ref w_1)] [(.ref w_1), (.ref w_4)])) _
    refine st259.trans ?_
    show Steps p.tables e below (T259.setTop (mkF m 28 #[.val (.ref w_1), .val (.ref w_4), .val (.ref w_5), .val (.int (4 : Int32)), .val (.int (0 : Int32)), .val (.ref w_1)] [(.int (1 : Int32))])) _
    refine XS.ifNo X259.here hx rfl (hb hby d2_28) rfl ((if0 _ _).trans (feq (by decide : ¬ ((1 : Int32) = (0 : Int32)))).1) ?_
    show Steps p.tables e below (T259.setTop (mkF m 31 #[.val (.ref w_1), .val (.ref w_4), .val (.ref w_5), .val (.int (4 : Int32)), .val (.int (0 : Int32)), .val (.ref w_1)] [])) _
    refine XS.aloadN X259.here hx rfl (hb hby d2_31) rfl rfl ?_
    show Steps p.tables e below (T259.setTop (mkF m 32 #[.val (.ref w_1), .val (.ref w_4), .val (.ref w_5), .val (.int (4 : Int32)), .val (.int (0 : Int32)), .val (.ref w_1)] [(.ref w_1)])) _
    refine XS.aload X259.here hx rfl (hb hby d2_32) rfl rfl ?_
    show Steps p.tables e below (T259.setTop (mkF m 34 #[.val (.ref w_1), .val (.ref w_4), .val (.ref w_5), .val (.int (4 : Int32)), .val (.int (0 : Int32)), .val (.ref w_1)] [(.ref w_1), (.ref w_1)])) _
    refine st260.trans ?_
    show Steps p.tables e below (T260.setTop (mkF m 37 #[.val (.ref w_1), .val (.ref w_4), .val (.ref w_5), .val (.int (4 : Int32)), .val (.int (0 : Int32)), .val (.ref w_1)] [(.int (0 : Int32))])) _
    refine XS.ifNo X260.here hx rfl (hb hby d2_37) rfl ((if0 _ _).trans (teq (by decide : ((0 : Int32) = (0 : Int32)))).2) ?_
    show Steps p.tables e below (T260.setTop (mkF m 40 #[.val (.ref w_1), .val (.ref w_4), .val (.ref w_5), .val (.int (4 : Int32)), .val (.int (0 : Int32)), .val (.ref w_1)] [])) _
    refine XS.iconst X260.here hx rfl (hb hby d2_40) ?_
    show Steps p.tables e below (T260.setTop (mkF m 41 #[.val (.ref w_1), .val (.ref w_4), .val (.ref w_5), .val (.int (4 : Int32)), .val (.int (0 : Int32)), .val (.ref w_1)] [(.int (0 : Int32))])) _
    exact retN X260 hx (t := .boolean) Bd.returns (by simp) (hb hby d2_41) hr
  · show Q2x13 Z w_1 w_2 w_3 w_4 w_5 k_5 h0 n0 _ T260.heap _
    rw [e260]
    exact ⟨by unfold sp2x13; rfl, N260, rfl⟩
theorem pn_1x13 : plainName "com/example/lucid_locks/lucidlocks/locks/LockMode" = true := by first | (simp [plainName, overriddenIn]; done) | decide +kernel
theorem ef_1x13 (m : MethodId) (w_4 : Addr) (w_1 : Addr) : entryFrame m #[(.ref w_4), (.ref w_1)] 2 = mkF m 0 #[.val (.ref w_4), .val (.ref w_1)] [] := by first | (simp [entryFrame, mkF, argsToLocals, Value.category]; done) | rfl
def sp1x13 (w_3 : Addr) : Value := (.ref w_3)
def Q1x13 (Z : State) (w_1 : Addr) (w_2 : Addr) (w_3 : Addr) (w_4 : Addr) (w_5 : Addr) (k_5 : ClassId) (h0 : Heap) (n0 : Nat) (v : Option Value) (h : Heap) (L : List Loc) : Prop := v = some (sp1x13 w_3) ∧ Fr n0 L ∧ h = h0
set_option maxRecDepth 65536 in
set_option maxHeartbeats 40000000 in
theorem rm1x13 (l : Launch) (Z : State) (a0 : Array Value) (hw : ∀ d ∈ tables_1, d.before a0 Z = true) (ws : List Jvm.Cond) (w_1 : Addr) (w_2 : Addr) (w_3 : Addr) (w_4 : Addr) (w_5 : Addr) (k_5 : ClassId) (hS : StF Z w_1 w_2 w_3 w_4 w_5 k_5) (h0 : Heap) (n0 : Nat) (O0 : Old Z n0 h0) :
    MetFree l Y2 (head1 (Jvm.Cond.code Y2 prog_17_method_6_code 2 (some (.object "com/example/lucid_locks/lucidlocks/locks/LockMode")) :: ws) ({ frames := 2, cells := 0, slots := 0, locals := 30 } : Room)) (fun a U => a = #[(.ref w_4), (.ref w_1)] ∧ Z.Warmed39 U.vm ∧ U.heap = h0) (fun _ _ _ _ _ => True) (fun _ U o U' => ∃ v L, o = .returned v ∧ Q1x13 Z w_1 w_2 w_3 w_4 w_5 k_5 h0 n0 v U'.heap L ∧ FrameEnd U o U' L ({ frames := 2, cells := 0, slots := 0, locals := 30 } : Room).cells ({ frames := 2, cells := 0, slots := 0, locals := 30 } : Room).slots) := by
  refine MetFree.of_bodySF (plainFor_of_name pn_1x13) hisR ?_
  intro p e s m args below meth c s₁ Bd hml0 hP hK
  obtain ⟨rfl, hZ, hh⟩ := hP
  have hx := Bd.exec
  have hby := Bd.bytes
  have hml : c.maxLocals = 2 := hml0
  have hown : s.vm.findClass "com/example/lucid_locks/lucidlocks/locks/LockMode" = some m.cls := findClass_of_methodNamed Bd.named
  have hnm := (name_of_methodNamed Bd.named Bd.method).1
  have X0 : Stand p l e ({ frames := 2, cells := 0, slots := 0, locals := 30 } : Room) s m #[(.ref w_4), (.ref w_1)] below meth c s₁ [] 0 0 := Stand.of_body Bd
  have e0 : s₁.heap = h0 := by rw [← hh, Bd.state]; rfl
  have N0 := Fr.nil n0
  have hS0 := hS
  obtain ⟨S_1, E_1, S_2, E_2, S_3, E_3, S_4, E_4, S_5, F_1_sharedWithItself, F_1_ordinal, F_2_ordinal, F_4_ordinal, F_3_ordinal, F_4_sharedWithItself, F_2_sharedWithItself, F_3_sharedWithItself, V_5⟩ := hS
  have pre0 : ∀ t, Steps p.tables e below (s₁.setTop (mkF m 0 #[.val (.ref w_4), .val (.ref w_1)] [])) t → Steps p.tables e below (s₁.setTop (entryFrame m #[(.ref w_4), (.ref w_1)] 2)) t := fun t k => castTop (ef_1x13 m w_4 w_1) k
  obtain ⟨cq261, kq261, q261a, q261b, q261c⟩ := isOf hZ e0 (E_1.ext O0.2)
  obtain ⟨_, _, ⟨T261, L261, k261, n261⟩, -, X261, ⟨Lc261, hQ261, l261, y261, z261⟩, st261⟩ := X0.virtualBack hx (y := Y1) (z := Y1) hown (mvT hZ (hw _ (tk 17 rfl))) (mvT hZ (hw _ (tk 18 rfl))) (notFace_of_selects (args := #[]) (mvT hZ (hw _ (tk 20 rfl)))) (mvT hZ (hw _ (tk 20 rfl))) (mvT hZ (hw _ (tk 19 rfl))) (by decide) (backOf (W := 0) (rm2x13 l Z a0 hw [] w_1 w_2 w_3 w_4 w_5 k_5 hS0 h0 n0 O0) hZ (hw _ (tk 21 rfl)) (hw _ (tk 3 rfl)) (by decide) (by decide)) q261a q261c (g := (mkF m 2 #[.val (.ref w_4), .val (.ref w_1)] [(.ref w_4), (.ref w_1)])) rfl (by rw [hml]; rfl) (Steps.refl _) (argsL := [(.ref w_4)]) (rest := []) (lenOf pd_0 rfl) rfl (by show 2 * 0 + _ ≤ _; exact Nat.le_of_eq rfl) (hb hby d1_2) (fun _ _ => ⟨rfl, e0, (by decide : 0 + 0 ≤ _), (by decide : 0 + 0 ≤ _)⟩)
  dsimp only [Pt.U, Pt.locs, Pt.cells, Pt.slots] at X261 l261 y261 z261 st261 hQ261
  subst l261 y261 z261
  obtain ⟨rv261, N261q, e261⟩ := hQ261
  rw [show sp2x13 = (0 : Int32) from by unfold sp2x13; rfl] at rv261
  subst rv261
  have N261 := Fr.app N0 N261q
  obtain ⟨T262, X262, e262, st262⟩ := getS2 X261 hx hZ hown (host := "") (Or.inl (hw _ (tk 31 rfl))) Via.refl e261 (S_3.ext O0.2) (g := (mkF m 12 #[.val (.ref w_4), .val (.ref w_1)] [])) rfl (hb hby d1_12)
  obtain ⟨fs, hr, hrun, hended, hW, hsame⟩ := X262.leave (v := some (.ref w_3)) (fun h => by rw [Bd.returns] at h; cases h)
  refine ⟨_, _, pre0 _ ?_, hrun, hended, _, _, rfl, ?_, ⟨_, rfl⟩, hW, hsame.mono (by decide) (by decide)⟩
  · show Steps p.tables e below (s₁.setTop (mkF m 0 #[.val (.ref w_4), .val (.ref w_1)] [])) _
    refine XS.aloadN X0.here hx rfl (hb hby d1_0) rfl rfl ?_
    show Steps p.tables e below (s₁.setTop (mkF m 1 #[.val (.ref w_4), .val (.ref w_1)] [(.ref w_1)])) _
    refine XS.aloadN X0.here hx rfl (hb hby d1_1) rfl rfl ?_
    show Steps p.tables e below (s₁.setTop (mkF m 2 #[.val (.ref w_4), .val (.ref w_1)] [(.ref w_4), (.ref w_1)])) _
    refine st261.trans ?_
    show Steps p.tables e below (T261.setTop (mkF m 5 #[.val (.ref w_4), .val (.ref w_1)] [(.int (0 : Int32))])) _
    refine XS.ifYes X261.here hx rfl (pc0 := 5) (pc' := 12) rfl (hb hby d1_5) rfl ((if0 _ _).trans (teq (by decide : ((0 : Int32) = (0 : Int32)))).1) (by decide) (by decide) ?_
    show Steps p.tables e below (T261.setTop (mkF m 12 #[.val (.ref w_4), .val (.ref w_1)] [])) _
    refine st262 _ ?_
    show Steps p.tables e below (T262.setTop (mkF m 15 #[.val (.ref w_4), .val (.ref w_1)] [(.ref w_3)])) _
    jvm_step X262.here [X262.here.top, hx, (hb hby d1_15), X262.method', Bd.returns, Value.isRef, FieldType.isReference]
    first | (intro acts; rw [hr _ acts rfl rfl rfl]) | rw [hr _ _ rfl rfl rfl]
    exact Steps.refl _
  · show Q1x13 Z w_1 w_2 w_3 w_4 w_5 k_5 h0 n0 _ T262.heap _
    rw [e262]
    exact ⟨by unfold sp1x13; rfl, N261, rfl⟩
theorem pn_2x14 : plainName "com/example/lucid_locks/lucidlocks/locks/LockMode" = true := by first | (simp [plainName, overriddenIn]; done) | decide +kernel
theorem ef_2x14 (m : MethodId) (w_2 : Addr) (w_4 : Addr) : entryFrame m #[(.ref w_2), (.ref w_4)] 6 = mkF m 0 #[.val (.ref w_2), .val (.ref w_4), .unset, .unset, .unset, .unset] [] := by first | (simp [entryFrame, mkF, argsToLocals, Value.category]; done) | rfl
def sp2x14  : Int32 := (0 : Int32)
def Q2x14 (Z : State) (w_1 : Addr) (w_2 : Addr) (w_3 : Addr) (w_4 : Addr) (w_5 : Addr) (k_5 : ClassId) (h0 : Heap) (n0 : Nat) (v : Option Value) (h : Heap) (L : List Loc) : Prop := v = some (.int (sp2x14)) ∧ Fr n0 L ∧ h = h0
set_option maxRecDepth 65536 in
set_option maxHeartbeats 40000000 in
theorem rm2x14 (l : Launch) (Z : State) (a0 : Array Value) (hw : ∀ d ∈ tables_1, d.before a0 Z = true) (ws : List Jvm.Cond) (w_1 : Addr) (w_2 : Addr) (w_3 : Addr) (w_4 : Addr) (w_5 : Addr) (k_5 : ClassId) (hS : StF Z w_1 w_2 w_3 w_4 w_5 k_5) (h0 : Heap) (n0 : Nat) (O0 : Old Z n0 h0) :
    MetFree l Y1 (head1 (Jvm.Cond.code Y1 prog_17_method_7_code 6 (some .boolean) :: ws) ({ frames := 1, cells := 0, slots := 0, locals := 13 } : Room)) (fun a U => a = #[(.ref w_2), (.ref w_4)] ∧ Z.Warmed39 U.vm ∧ U.heap = h0) (fun _ _ _ _ _ => True) (fun _ U o U' => ∃ v L, o = .returned v ∧ Q2x14 Z w_1 w_2 w_3 w_4 w_5 k_5 h0 n0 v U'.heap L ∧ FrameEnd U o U' L ({ frames := 1, cells := 0, slots := 0, locals := 13 } : Room).cells ({ frames := 1, cells := 0, slots := 0, locals := 13 } : Room).slots) := by
  refine MetFree.of_bodySF (plainFor_of_name pn_2x14) hisR ?_
  intro p e s m args below meth c s₁ Bd hml0 hP hK
  obtain ⟨rfl, hZ, hh⟩ := hP
  have hx := Bd.exec
  have hby := Bd.bytes
  have hml : c.maxLocals = 6 := hml0
  have hown : s.vm.findClass "com/example/lucid_locks/lucidlocks/locks/LockMode" = some m.cls := findClass_of_methodNamed Bd.named
  have hnm := (name_of_methodNamed Bd.named Bd.method).1
  have X0 : Stand p l e ({ frames := 1, cells := 0, slots := 0, locals := 13 } : Room) s m #[(.ref w_2), (.ref w_4)] below meth c s₁ [] 0 0 := Stand.of_body Bd
  have e0 : s₁.heap = h0 := by rw [← hh, Bd.state]; rfl
  have N0 := Fr.nil n0
  have hS0 := hS
  obtain ⟨S_1, E_1, S_2, E_2, S_3, E_3, S_4, E_4, S_5, F_1_sharedWithItself, F_1_ordinal, F_2_ordinal, F_4_ordinal, F_3_ordinal, F_4_sharedWithItself, F_2_sharedWithItself, F_3_sharedWithItself, V_5⟩ := hS
  have pre0 : ∀ t, Steps p.tables e below (s₁.setTop (mkF m 0 #[.val (.ref w_2), .val (.ref w_4), .unset, .unset, .unset, .unset] [])) t → Steps p.tables e below (s₁.setTop (entryFrame m #[(.ref w_2), (.ref w_4)] 6)) t := fun t k => castTop (ef_2x14 m w_2 w_4) k
  obtain ⟨T267, X267, e267, st267⟩ := getS2 X0 hx hZ hown (host := "") (Or.inl (hw _ (tk 22 rfl))) Via.refl e0 (S_5.ext O0.2) (g := (mkF m 0 #[.val (.ref w_2), .val (.ref w_4), .unset, .unset, .unset, .unset] [])) rfl (hb hby d2_0)
  obtain ⟨cl268, Ar268, qa268, Sa268, Ma268, Ha268, Ga268⟩ := id (V_5.ext O0.2)
  obtain ⟨cl269, Ar269, qa269, Sa269, Ma269, Ha269, Ga269⟩ := id (V_5.ext O0.2)
  have hin269 : ¬ ((0 : Int32) < 0 ∨ cl269.slots.size ≤ ((0 : Int32)).toNatClampNeg) := by  exact inb_of Sa269 ⟨by decide, by decide⟩
  have hat269 : cl269.slots[((0 : Int32)).toNatClampNeg]? = some (.ref w_1) := Has.at Ha269 hin269 (by rfl)
  obtain ⟨cq270, kq270, q270a, q270b, q270c⟩ := isOf hZ e267 (E_4.ext O0.2)
  obtain ⟨_, _, ⟨T270, L270, k270, n270⟩, -, X270, ⟨Lc270, hQ270, l270, y270, z270⟩, st270⟩ := X267.virtualBack hx (y := Y0) (z := Y0) hown (mvT hZ (hw _ (tk 24 rfl))) (mvT hZ (hw _ (tk 25 rfl))) (notFace_of_selects (args := #[]) (mvT hZ (hw _ (tk 27 rfl)))) (mvT hZ (hw _ (tk 27 rfl))) (mvT hZ (hw _ (tk 26 rfl))) (by decide) (backOf (W := 0) (rm3 l Z a0 hw [] w_1 w_2 w_3 w_4 w_5 k_5 hS0 w_4 w_1 (0 : Int32) h0 n0 O0 (F_4_sharedWithItself.ext O0.2)) hZ (hw _ (tk 28 rfl)) (hw _ (tk 3 rfl)) (by decide) (by decide)) q270a q270c (g := (mkF m 25 #[.val (.ref w_2), .val (.ref w_4), .val (.ref w_5), .val (.int (4 : Int32)), .val (.int (0 : Int32)), .val (.ref w_1)] [(.ref w_1), (.ref w_4)])) rfl (by rw [hml]; rfl) (Steps.refl _) (argsL := [(.ref w_1)]) (rest := []) (lenOf pd_0 rfl) rfl (by show 2 * 0 + _ ≤ _; exact Nat.le_of_eq rfl) (hb hby d2_25) (fun _ _ => ⟨rfl, e267, (by decide : 0 + 0 ≤ _), (by decide : 0 + 0 ≤ _)⟩)
  dsimp only [Pt.U, Pt.locs, Pt.cells, Pt.slots] at X270 l270 y270 z270 st270 hQ270
  subst l270 y270 z270
  obtain ⟨rv270, N270q, e270⟩ := hQ270
  rw [show sp3 w_4 w_1 (0 : Int32) = (1 : Int32) from by unfold sp3; rw [if_neg (Fld.ne F_4_ordinal F_1_ordinal (by decide))]] at rv270
  subst rv270
  have N270 := Fr.app N0 N270q
  obtain ⟨cq271, kq271, q271a, q271b, q271c⟩ := isOf hZ e270 (E_2.ext O0.2)
  obtain ⟨_, _, ⟨T271, L271, k271, n271⟩, -, X271, ⟨Lc271, hQ271, l271, y271, z271⟩, st271⟩ := X270.virtualBack hx (y := Y0) (z := Y0) hown (mvT hZ (hw _ (tk 24 rfl))) (mvT hZ (hw _ (tk 25 rfl))) (notFace_of_selects (args := #[]) (mvT hZ (hw _ (tk 27 rfl)))) (mvT hZ (hw _ (tk 27 rfl))) (mvT hZ (hw _ (tk 26 rfl))) (by decide) (backOf (W := 0) (rm3 l Z a0 hw [] w_1 w_2 w_3 w_4 w_5 k_5 hS0 w_2 w_1 (1 : Int32) h0 n0 O0 (F_2_sharedWithItself.ext O0.2)) hZ (hw _ (tk 28 rfl)) (hw _ (tk 3 rfl)) (by decide) (by decide)) q271a q271c (g := (mkF m 34 #[.val (.ref w_2), .val (.ref w_4), .val (.ref w_5), .val (.int (4 : Int32)), .val (.int (0 : Int32)), .val (.ref w_1)] [(.ref w_1), (.ref w_2)])) rfl (by rw [hml]; rfl) (Steps.refl _) (argsL := [(.ref w_1)]) (rest := []) (lenOf pd_0 rfl) rfl (by show 2 * 0 + _ ≤ _; exact Nat.le_of_eq rfl) (hb hby d2_34) (fun _ _ => ⟨rfl, e270, (by decide : 0 + 0 ≤ _), (by decide : 0 + 0 ≤ _)⟩)
  dsimp only [Pt.U, Pt.locs, Pt.cells, Pt.slots] at X271 l271 y271 z271 st271 hQ271
  subst l271 y271 z271
  obtain ⟨rv271, N271q, e271⟩ := hQ271
  rw [show sp3 w_2 w_1 (1 : Int32) = (1 : Int32) from by unfold sp3; rw [if_neg (Fld.ne F_2_ordinal F_1_ordinal (by decide))]] at rv271
  subst rv271
  have N271 := Fr.app N270 N271q
  obtain ⟨cl272, Ar272, qa272, Sa272, Ma272, Ha272, Ga272⟩ := id (V_5.ext O0.2)
  have hin272 : ¬ (((0 : Int32) + (1 : Int32)) < 0 ∨ cl272.slots.size ≤ (((0 : Int32) + (1 : Int32))).toNatClampNeg) := by  exact inb_of Sa272 ⟨by decide, by decide⟩
  have hat272 : cl272.slots[(((0 : Int32) + (1 : Int32))).toNatClampNeg]? = some (.ref w_2) := Has.at Ha272 hin272 (by rfl)
  obtain ⟨cq273, kq273, q273a, q273b, q273c⟩ := isOf hZ e271 (E_4.ext O0.2)
  obtain ⟨_, _, ⟨T273, L273, k273, n273⟩, -, X273, ⟨Lc273, hQ273, l273, y273, z273⟩, st273⟩ := X271.virtualBack hx (y := Y0) (z := Y0) hown (mvT hZ (hw _ (tk 24 rfl))) (mvT hZ (hw _ (tk 25 rfl))) (notFace_of_selects (args := #[]) (mvT hZ (hw _ (tk 27 rfl)))) (mvT hZ (hw _ (tk 27 rfl))) (mvT hZ (hw _ (tk 26 rfl))) (by decide) (backOf (W := 0) (rm3 l Z a0 hw [] w_1 w_2 w_3 w_4 w_5 k_5 hS0 w_4 w_2 (0 : Int32) h0 n0 O0 (F_4_sharedWithItself.ext O0.2)) hZ (hw _ (tk 28 rfl)) (hw _ (tk 3 rfl)) (by decide) (by decide)) q273a q273c (g := (mkF m 25 #[.val (.ref w_2), .val (.ref w_4), .val (.ref w_5), .val (.int (4 : Int32)), .val (.int ((0 : Int32) + (1 : Int32))), .val (.ref w_2)] [(.ref w_2), (.ref w_4)])) rfl (by rw [hml]; rfl) (Steps.refl _) (argsL := [(.ref w_2)]) (rest := []) (lenOf pd_0 rfl) rfl (by show 2 * 0 + _ ≤ _; exact Nat.le_of_eq rfl) (hb hby d2_25) (fun _ _ => ⟨rfl, e271, (by decide : 0 + 0 ≤ _), (by decide : 0 + 0 ≤ _)⟩)
  dsimp only [Pt.U, Pt.locs, Pt.cells, Pt.slots] at X273 l273 y273 z273 st273 hQ273
  subst l273 y273 z273
  obtain ⟨rv273, N273q, e273⟩ := hQ273
  rw [show sp3 w_4 w_2 (0 : Int32) = (1 : Int32) from by unfold sp3; rw [if_neg (Fld.ne F_4_ordinal F_2_ordinal (by decide))]] at rv273
  subst rv273
  have N273 := Fr.app N271 N273q
  obtain ⟨cq274, kq274, q274a, q274b, q274c⟩ := isOf hZ e273 (E_2.ext O0.2)
  obtain ⟨_, _, ⟨T274, L274, k274, n274⟩, -, X274, ⟨Lc274, hQ274, l274, y274, z274⟩, st274⟩ := X273.virtualBack hx (y := Y0) (z := Y0) hown (mvT hZ (hw _ (tk 24 rfl))) (mvT hZ (hw _ (tk 25 rfl))) (notFace_of_selects (args := #[]) (mvT hZ (hw _ (tk 27 rfl)))) (mvT hZ (hw _ (tk 27 rfl))) (mvT hZ (hw _ (tk 26 rfl))) (by decide) (backOf (W := 0) (rm3 l Z a0 hw [] w_1 w_2 w_3 w_4 w_5 k_5 hS0 w_2 w_2 (1 : Int32) h0 n0 O0 (F_2_sharedWithItself.ext O0.2)) hZ (hw _ (tk 28 rfl)) (hw _ (tk 3 rfl)) (by decide) (by decide)) q274a q274c (g := (mkF m 34 #[.val (.ref w_2), .val (.ref w_4), .val (.ref w_5), .val (.int (4 : Int32)), .val (.int ((0 : Int32) + (1 : Int32))), .val (.ref w_2)] [(.ref w_2), (.ref w_2)])) rfl (by rw [hml]; rfl) (Steps.refl _) (argsL := [(.ref w_2)]) (rest := []) (lenOf pd_0 rfl) rfl (by show 2 * 0 + _ ≤ _; exact Nat.le_of_eq rfl) (hb hby d2_34) (fun _ _ => ⟨rfl, e273, (by decide : 0 + 0 ≤ _), (by decide : 0 + 0 ≤ _)⟩)
  dsimp only [Pt.U, Pt.locs, Pt.cells, Pt.slots] at X274 l274 y274 z274 st274 hQ274
  subst l274 y274 z274
  obtain ⟨rv274, N274q, e274⟩ := hQ274
  rw [show sp3 w_2 w_2 (1 : Int32) = (0 : Int32) from by unfold sp3; rw [if_pos rfl, if_neg (by decide : ¬ ((1 : Int32) = (0 : Int32)))]] at rv274
  subst rv274
  have N274 := Fr.app N273 N274q
  obtain ⟨fs, hr, hrun, hended, hW, hsame⟩ := X274.leave (v := some (.int (0 : Int32))) (fun h => by rw [Bd.returns] at h; cases h)
  refine ⟨_, _, pre0 _ ?_, hrun, hended, _, _, rfl, ?_, ⟨_, rfl⟩, hW, hsame.mono (by decide) (by decide)⟩
  · show Steps p.tables e below (s₁.setTop (mkF m 0 #[.val (.ref w_2), .val (.ref w_4), .unset, .unset, .unset, .unset] [])) _
    refine st267 _ ?_
    show Steps p.tables e below (T267.setTop (mkF m 3 #[.val (.ref w_2), .val (.ref w_4), .unset, .unset, .unset, .unset] [(.ref w_5)])) _
    refine XS.astoreN X267.here hx rfl (hb hby d2_3) rfl rfl (l' := #[.val (.ref w_2), .val (.ref w_4), .val (.ref w_5), .unset, .unset, .unset]) rfl ?_
    show Steps p.tables e below (T267.setTop (mkF m 4 #[.val (.ref w_2), .val (.ref w_4), .val (.ref w_5), .unset, .unset, .unset] [])) _
    refine XS.aloadN X267.here hx rfl (hb hby d2_4) rfl rfl ?_
    show Steps p.tables e below (T267.setTop (mkF m 5 #[.val (.ref w_2), .val (.ref w_4), .val (.ref w_5), .unset, .unset, .unset] [(.ref w_5)])) _
    refine X267.arraylength hx (by rw [e267]; exact Ar268.1) (State.isArrayOf_alike hZ.alike Ar268.2.1) (g := (mkF m 5 #[.val (.ref w_2), .val (.ref w_4), .val (.ref w_5), .unset, .unset, .unset] [(.ref w_5)])) rfl rfl (hb hby d2_5) _ ?_
    rw [len_of Sa268 Ma268]
    show Steps p.tables e below (T267.setTop (mkF m 6 #[.val (.ref w_2), .val (.ref w_4), .val (.ref w_5), .unset, .unset, .unset] [(.int (4 : Int32))])) _
    refine XS.istoreN X267.here hx rfl (hb hby d2_6) rfl (l' := #[.val (.ref w_2), .val (.ref w_4), .val (.ref w_5), .val (.int (4 : Int32)), .unset, .unset]) rfl ?_
    show Steps p.tables e below (T267.setTop (mkF m 7 #[.val (.ref w_2), .val (.ref w_4), .val (.ref w_5), .val (.int (4 : Int32)), .unset, .unset] [])) _
    refine XS.iconst X267.here hx rfl (hb hby d2_7) ?_
    show Steps p.tables e below (T267.setTop (mkF m 8 #[.val (.ref w_2), .val (.ref w_4), .val (.ref w_5), .val (.int (4 : Int32)), .unset, .unset] [(.int (0 : Int32))])) _
    refine XS.istore X267.here hx rfl (hb hby d2_8) rfl (l' := #[.val (.ref w_2), .val (.ref w_4), .val (.ref w_5), .val (.int (4 : Int32)), .val (.int (0 : Int32)), .unset]) rfl ?_
    show Steps p.tables e below (T267.setTop (mkF m 10 #[.val (.ref w_2), .val (.ref w_4), .val (.ref w_5), .val (.int (4 : Int32)), .val (.int (0 : Int32)), .unset] [])) _
    refine XS.iload X267.here hx rfl (hb hby d2_10) rfl ?_
    show Steps p.tables e below (T267.setTop (mkF m 12 #[.val (.ref w_2), .val (.ref w_4), .val (.ref w_5), .val (.int (4 : Int32)), .val (.int (0 : Int32)), .unset] [(.int (0 : Int32))])) _
    refine XS.iloadN X267.here hx rfl (hb hby d2_12) rfl ?_
    show Steps p.tables e below (T267.setTop (mkF m 13 #[.val (.ref w_2), .val (.ref w_4), .val (.ref w_5), .val (.int (4 : Int32)), .val (.int (0 : Int32)), .unset] [(.int (4 : Int32)), (.int (0 : Int32))])) _
    refine XS.icmpNo X267.here hx rfl (hb hby d2_13) rfl (tlt (by decide : ((0 : Int32) < (4 : Int32)))).2.1 ?_
    show Steps p.tables e below (T267.setTop (mkF m 16 #[.val (.ref w_2), .val (.ref w_4), .val (.ref w_5), .val (.int (4 : Int32)), .val (.int (0 : Int32)), .unset] [])) _
    refine XS.aloadN X267.here hx rfl (hb hby d2_16) rfl rfl ?_
    show Steps p.tables e below (T267.setTop (mkF m 17 #[.val (.ref w_2), .val (.ref w_4), .val (.ref w_5), .val (.int (4 : Int32)), .val (.int (0 : Int32)), .unset] [(.ref w_5)])) _
    refine XS.iload X267.here hx rfl (hb hby d2_17) rfl ?_
    show Steps p.tables e below (T267.setTop (mkF m 19 #[.val (.ref w_2), .val (.ref w_4), .val (.ref w_5), .val (.int (4 : Int32)), .val (.int (0 : Int32)), .unset] [(.int (0 : Int32)), (.ref w_5)])) _
    refine X267.aaload hx (j := (0 : Int32)) (v := (.ref w_1)) (by rw [e267]; exact Ar269.1) (State.isArrayOf_alike hZ.alike Ar269.2.1) rfl Ar269.2.2 hin269 hat269 (g := (mkF m 19 #[.val (.ref w_2), .val (.ref w_4), .val (.ref w_5), .val (.int (4 : Int32)), .val (.int (0 : Int32)), .unset] [(.int (0 : Int32)), (.ref w_5)])) rfl rfl (hb hby d2_19) _ ?_
    show Steps p.tables e below (T267.setTop (mkF m 20 #[.val (.ref w_2), .val (.ref w_4), .val (.ref w_5), .val (.int (4 : Int32)), .val (.int (0 : Int32)), .unset] [(.ref w_1)])) _
    refine XS.astore X267.here hx rfl (hb hby d2_20) rfl rfl (l' := #[.val (.ref w_2), .val (.ref w_4), .val (.ref w_5), .val (.int (4 : Int32)), .val (.int (0 : Int32)), .val (.ref w_1)]) rfl ?_
    show Steps p.tables e below (T267.setTop (mkF m 22 #[.val (.ref w_2), .val (.ref w_4), .val (.ref w_5), .val (.int (4 : Int32)), .val (.int (0 : Int32)), .val (.ref w_1)] [])) _
    refine XS.aloadN X267.here hx rfl (hb hby d2_22) rfl rfl ?_
    show Steps p.tables e below (T267.setTop (mkF m 23 #[.val (.ref w_2), .val (.ref w_4), .val (.ref w_5), .val (.int (4 : Int32)), .val (.int (0 : Int32)), .val (.ref w_1)] [(.ref w_4)])) _
    refine XS.aload X267.here hx rfl (hb hby d2_23) rfl rfl ?_
    show Steps p.tables e below (T267.setTop (mkF m 25 #[.val (.ref w_2), .val (.ref w_4), .val (.ref w_5), .val (.int (4 : Int32)), .val (.int (0 : Int32)), .val (.ref w_1)] [(.ref w_1), (.ref w_4)])) _
    refine st270.trans ?_
    show Steps p.tables e below (T270.setTop (mkF m 28 #[.val (.ref w_2), .val (.ref w_4), .val (.ref w_5), .val (.int (4 : Int32)), .val (.int (0 : Int32)), .val (.ref w_1)] [(.int (1 : Int32))])) _
    refine XS.ifNo X270.here hx rfl (hb hby d2_28) rfl ((if0 _ _).trans (feq (by decide : ¬ ((1 : Int32) = (0 : Int32)))).1) ?_
    show Steps p.tables e below (T270.setTop (mkF m 31 #[.val (.ref w_2), .val (.ref w_4), .val (.ref w_5), .val (.int (4 : Int32)), .val (.int (0 : Int32)), .val (.ref w_1)] [])) _
    refine XS.aloadN X270.here hx rfl (hb hby d2_31) rfl rfl ?_
    show Steps p.tables e below (T270.setTop (mkF m 32 #[.val (.ref w_2), .val (.ref w_4), .val (.ref w_5), .val (.int (4 : Int32)), .val (.int (0 : Int32)), .val (.ref w_1)] [(.ref w_2)])) _
    refine XS.aload X270.here hx rfl (hb hby d2_32) rfl rfl ?_
    show Steps p.tables e below (T270.setTop (mkF m 34 #[.val (.ref w_2), .val (.ref w_4), .val (.ref w_5), .val (.int (4 : Int32)), .val (.int (0 : Int32)), .val (.ref w_1)] [(.ref w_1), (.ref w_2)])) _
    refine st271.trans ?_
    show Steps p.tables e below (T271.setTop (mkF m 37 #[.val (.ref w_2), .val (.ref w_4), .val (.ref w_5), .val (.int (4 : Int32)), .val (.int (0 : Int32)), .val (.ref w_1)] [(.int (1 : Int32))])) _
    refine XS.ifYes X271.here hx rfl (pc0 := 37) (pc' := 42) rfl (hb hby d2_37) rfl ((if0 _ _).trans (feq (by decide : ¬ ((1 : Int32) = (0 : Int32)))).2) (by decide) (by decide) ?_
    show Steps p.tables e below (T271.setTop (mkF m 42 #[.val (.ref w_2), .val (.ref w_4), .val (.ref w_5), .val (.int (4 : Int32)), .val (.int (0 : Int32)), .val (.ref w_1)] [])) _
    refine XS.iinc X271.here hx rfl (hb hby d2_42) rfl (l' := #[.val (.ref w_2), .val (.ref w_4), .val (.ref w_5), .val (.int (4 : Int32)), .val (.int ((0 : Int32) + (1 : Int32))), .val (.ref w_1)]) rfl ?_
    show Steps p.tables e below (T271.setTop (mkF m 45 #[.val (.ref w_2), .val (.ref w_4), .val (.ref w_5), .val (.int (4 : Int32)), .val (.int ((0 : Int32) + (1 : Int32))), .val (.ref w_1)] [])) _
    refine XS.goto X271.here hx rfl (pc0 := 45) (pc' := 10) rfl (hb hby d2_45) (by decide) (by decide) ?_
    show Steps p.tables e below (T271.setTop (mkF m 10 #[.val (.ref w_2), .val (.ref w_4), .val (.ref w_5), .val (.int (4 : Int32)), .val (.int ((0 : Int32) + (1 : Int32))), .val (.ref w_1)] [])) _
    refine XS.iload X271.here hx rfl (hb hby d2_10) rfl ?_
    show Steps p.tables e below (T271.setTop (mkF m 12 #[.val (.ref w_2), .val (.ref w_4), .val (.ref w_5), .val (.int (4 : Int32)), .val (.int ((0 : Int32) + (1 : Int32))), .val (.ref w_1)] [(.int ((0 : Int32) + (1 : Int32)))])) _
    refine XS.iloadN X271.here hx rfl (hb hby d2_12) rfl ?_
    show Steps p.tables e below (T271.setTop (mkF m 13 #[.val (.ref w_2), .val (.ref w_4), .val (.ref w_5), .val (.int (4 : Int32)), .val (.int ((0 : Int32) + (1 : Int32))), .val (.ref w_1)] [(.int (4 : Int32)), (.int ((0 : Int32) + (1 : Int32)))])) _
    refine XS.icmpNo X271.here hx rfl (hb hby d2_13) rfl (tlt (by decide : (((0 : Int32) + (1 : Int32)) < (4 : Int32)))).2.1 ?_
    show Steps p.tables e below (T271.setTop (mkF m 16 #[.val (.ref w_2), .val (.ref w_4), .val (.ref w_5), .val (.int (4 : Int32)), .val (.int ((0 : Int32) + (1 : Int32))), .val (.ref w_1)] [])) _
    refine XS.aloadN X271.here hx rfl (hb hby d2_16) rfl rfl ?_
    show Steps p.tables e below (T271.setTop (mkF m 17 #[.val (.ref w_2), .val (.ref w_4), .val (.ref w_5), .val (.int (4 : Int32)), .val (.int ((0 : Int32) + (1 : Int32))), .val (.ref w_1)] [(.ref w_5)])) _
    refine XS.iload X271.here hx rfl (hb hby d2_17) rfl ?_
    show Steps p.tables e below (T271.setTop (mkF m 19 #[.val (.ref w_2), .val (.ref w_4), .val (.ref w_5), .val (.int (4 : Int32)), .val (.int ((0 : Int32) + (1 : Int32))), .val (.ref w_1)] [(.int ((0 : Int32) + (1 : Int32))), (.ref w_5)])) _
    refine X271.aaload hx (j := ((0 : Int32) + (1 : Int32))) (v := (.ref w_2)) (by rw [e271]; exact Ar272.1) (State.isArrayOf_alike hZ.alike Ar272.2.1) rfl Ar272.2.2 hin272 hat272 (g := (mkF m 19 #[.val (.ref w_2), .val (.ref w_4), .val (.ref w_5), .val (.int (4 : Int32)), .val (.int ((0 : Int32) + (1 : Int32))), .val (.ref w_1)] [(.int ((0 : Int32) + (1 : Int32))), (.ref w_5)])) rfl rfl (hb hby d2_19) _ ?_
    show Steps p.tables e below (T271.setTop (mkF m 20 #[.val (.ref w_2), .val (.ref w_4), .val (.ref w_5), .val (.int (4 : Int32)), .val (.int ((0 : Int32) + (1 : Int32))), .val (.ref w_1)] [(.ref w_2)])) _
    refine XS.astore X271.here hx rfl (hb hby d2_20) rfl rfl (l' := #[.val (.ref w_2), .val (.ref w_4), .val (.ref w_5), .val (.int (4 : Int32)), .val (.int ((0 : Int32) + (1 : Int32))), .val (.ref w_2)]) rfl ?_
    show Steps p.tables e below (T271.setTop (mkF m 22 #[.val (.ref w_2), .val (.ref w_4), .val (.ref w_5), .val (.int (4 : Int32)), .val (.int ((0 : Int32) + (1 : Int32))), .val (.ref w_2)] [])) _
    refine XS.aloadN X271.here hx rfl (hb hby d2_22) rfl rfl ?_
    show Steps p.tables e below (T271.setTop (mkF m 23 #[.val (.ref w_2), .val (.ref w_4), .val (.ref w_5), .val (.int (4 : Int32)), .val (.int ((0 : Int32) + (1 : Int32))), .val (.ref w_2)] [(.ref w_4)])) _
    refine XS.aload X271.here hx rfl (hb hby d2_23) rfl rfl ?_
    show Steps p.tables e below (T271.setTop (mkF m 25 #[.val (.ref w_2), .val (.ref w_4), .val (.ref w_5), .val (.int (4 : Int32)), .val (.int ((0 : Int32) + (1 : Int32))), .val (.ref w_2)] [(.ref w_2), (.ref w_4)])) _
    refine st273.trans ?_
    show Steps p.tables e below (T273.setTop (mkF m 28 #[.val (.ref w_2), .val (.ref w_4), .val (.ref w_5), .val (.int (4 : Int32)), .val (.int ((0 : Int32) + (1 : Int32))), .val (.ref w_2)] [(.int (1 : Int32))])) _
    refine XS.ifNo X273.here hx rfl (hb hby d2_28) rfl ((if0 _ _).trans (feq (by decide : ¬ ((1 : Int32) = (0 : Int32)))).1) ?_
    show Steps p.tables e below (T273.setTop (mkF m 31 #[.val (.ref w_2), .val (.ref w_4), .val (.ref w_5), .val (.int (4 : Int32)), .val (.int ((0 : Int32) + (1 : Int32))), .val (.ref w_2)] [])) _
    refine XS.aloadN X273.here hx rfl (hb hby d2_31) rfl rfl ?_
    show Steps p.tables e below (T273.setTop (mkF m 32 #[.val (.ref w_2), .val (.ref w_4), .val (.ref w_5), .val (.int (4 : Int32)), .val (.int ((0 : Int32) + (1 : Int32))), .val (.ref w_2)] [(.ref w_2)])) _
    refine XS.aload X273.here hx rfl (hb hby d2_32) rfl rfl ?_
    show Steps p.tables e below (T273.setTop (mkF m 34 #[.val (.ref w_2), .val (.ref w_4), .val (.ref w_5), .val (.int (4 : Int32)), .val (.int ((0 : Int32) + (1 : Int32))), .val (.ref w_2)] [(.ref w_2), (.ref w_2)])) _
    refine st274.trans ?_
    show Steps p.tables e below (T274.setTop (mkF m 37 #[.val (.ref w_2), .val (.ref w_4), .val (.ref w_5), .val (.int (4 : Int32)), .val (.int ((0 : Int32) + (1 : Int32))), .val (.ref w_2)] [(.int (0 : Int32))])) _
    refine XS.ifNo X274.here hx rfl (hb hby d2_37) rfl ((if0 _ _).trans (teq (by decide : ((0 : Int32) = (0 : Int32)))).2) ?_
    show Steps p.tables e below (T274.setTop (mkF m 40 #[.val (.ref w_2), .val (.ref w_4), .val (.ref w_5), .val (.int (4 : Int32)), .val (.int ((0 : Int32) + (1 : Int32))), .val (.ref w_2)] [])) _
    refine XS.iconst X274.here hx rfl (hb hby d2_40) ?_
    show Steps p.tables e below (T274.setTop (mkF m 41 #[.val (.ref w_2), .val (.ref w_4), .val (.ref w_5), .val (.int (4 : Int32)), .val (.int ((0 : Int32) + (1 : Int32))), .val (.ref w_2)] [(.int (0 : Int32))])) _
    exact retN X274 hx (t := .boolean) Bd.returns (by simp) (hb hby d2_41) hr
  · show Q2x14 Z w_1 w_2 w_3 w_4 w_5 k_5 h0 n0 _ T274.heap _
    rw [e274]
    exact ⟨by unfold sp2x14; rfl, N274, rfl⟩
theorem pn_1x14 : plainName "com/example/lucid_locks/lucidlocks/locks/LockMode" = true := by first | (simp [plainName, overriddenIn]; done) | decide +kernel
theorem ef_1x14 (m : MethodId) (w_4 : Addr) (w_2 : Addr) : entryFrame m #[(.ref w_4), (.ref w_2)] 2 = mkF m 0 #[.val (.ref w_4), .val (.ref w_2)] [] := by first | (simp [entryFrame, mkF, argsToLocals, Value.category]; done) | rfl
def sp1x14 (w_3 : Addr) : Value := (.ref w_3)
def Q1x14 (Z : State) (w_1 : Addr) (w_2 : Addr) (w_3 : Addr) (w_4 : Addr) (w_5 : Addr) (k_5 : ClassId) (h0 : Heap) (n0 : Nat) (v : Option Value) (h : Heap) (L : List Loc) : Prop := v = some (sp1x14 w_3) ∧ Fr n0 L ∧ h = h0
set_option maxRecDepth 65536 in
set_option maxHeartbeats 40000000 in
theorem rm1x14 (l : Launch) (Z : State) (a0 : Array Value) (hw : ∀ d ∈ tables_1, d.before a0 Z = true) (ws : List Jvm.Cond) (w_1 : Addr) (w_2 : Addr) (w_3 : Addr) (w_4 : Addr) (w_5 : Addr) (k_5 : ClassId) (hS : StF Z w_1 w_2 w_3 w_4 w_5 k_5) (h0 : Heap) (n0 : Nat) (O0 : Old Z n0 h0) :
    MetFree l Y2 (head1 (Jvm.Cond.code Y2 prog_17_method_6_code 2 (some (.object "com/example/lucid_locks/lucidlocks/locks/LockMode")) :: ws) ({ frames := 2, cells := 0, slots := 0, locals := 30 } : Room)) (fun a U => a = #[(.ref w_4), (.ref w_2)] ∧ Z.Warmed39 U.vm ∧ U.heap = h0) (fun _ _ _ _ _ => True) (fun _ U o U' => ∃ v L, o = .returned v ∧ Q1x14 Z w_1 w_2 w_3 w_4 w_5 k_5 h0 n0 v U'.heap L ∧ FrameEnd U o U' L ({ frames := 2, cells := 0, slots := 0, locals := 30 } : Room).cells ({ frames := 2, cells := 0, slots := 0, locals := 30 } : Room).slots) := by
  refine MetFree.of_bodySF (plainFor_of_name pn_1x14) hisR ?_
  intro p e s m args below meth c s₁ Bd hml0 hP hK
  obtain ⟨rfl, hZ, hh⟩ := hP
  have hx := Bd.exec
  have hby := Bd.bytes
  have hml : c.maxLocals = 2 := hml0
  have hown : s.vm.findClass "com/example/lucid_locks/lucidlocks/locks/LockMode" = some m.cls := findClass_of_methodNamed Bd.named
  have hnm := (name_of_methodNamed Bd.named Bd.method).1
  have X0 : Stand p l e ({ frames := 2, cells := 0, slots := 0, locals := 30 } : Room) s m #[(.ref w_4), (.ref w_2)] below meth c s₁ [] 0 0 := Stand.of_body Bd
  have e0 : s₁.heap = h0 := by rw [← hh, Bd.state]; rfl
  have N0 := Fr.nil n0
  have hS0 := hS
  obtain ⟨S_1, E_1, S_2, E_2, S_3, E_3, S_4, E_4, S_5, F_1_sharedWithItself, F_1_ordinal, F_2_ordinal, F_4_ordinal, F_3_ordinal, F_4_sharedWithItself, F_2_sharedWithItself, F_3_sharedWithItself, V_5⟩ := hS
  have pre0 : ∀ t, Steps p.tables e below (s₁.setTop (mkF m 0 #[.val (.ref w_4), .val (.ref w_2)] [])) t → Steps p.tables e below (s₁.setTop (entryFrame m #[(.ref w_4), (.ref w_2)] 2)) t := fun t k => castTop (ef_1x14 m w_4 w_2) k
  obtain ⟨cq275, kq275, q275a, q275b, q275c⟩ := isOf hZ e0 (E_2.ext O0.2)
  obtain ⟨_, _, ⟨T275, L275, k275, n275⟩, -, X275, ⟨Lc275, hQ275, l275, y275, z275⟩, st275⟩ := X0.virtualBack hx (y := Y1) (z := Y1) hown (mvT hZ (hw _ (tk 17 rfl))) (mvT hZ (hw _ (tk 18 rfl))) (notFace_of_selects (args := #[]) (mvT hZ (hw _ (tk 20 rfl)))) (mvT hZ (hw _ (tk 20 rfl))) (mvT hZ (hw _ (tk 19 rfl))) (by decide) (backOf (W := 0) (rm2x14 l Z a0 hw [] w_1 w_2 w_3 w_4 w_5 k_5 hS0 h0 n0 O0) hZ (hw _ (tk 21 rfl)) (hw _ (tk 3 rfl)) (by decide) (by decide)) q275a q275c (g := (mkF m 2 #[.val (.ref w_4), .val (.ref w_2)] [(.ref w_4), (.ref w_2)])) rfl (by rw [hml]; rfl) (Steps.refl _) (argsL := [(.ref w_4)]) (rest := []) (lenOf pd_0 rfl) rfl (by show 2 * 0 + _ ≤ _; exact Nat.le_of_eq rfl) (hb hby d1_2) (fun _ _ => ⟨rfl, e0, (by decide : 0 + 0 ≤ _), (by decide : 0 + 0 ≤ _)⟩)
  dsimp only [Pt.U, Pt.locs, Pt.cells, Pt.slots] at X275 l275 y275 z275 st275 hQ275
  subst l275 y275 z275
  obtain ⟨rv275, N275q, e275⟩ := hQ275
  rw [show sp2x14 = (0 : Int32) from by unfold sp2x14; rfl] at rv275
  subst rv275
  have N275 := Fr.app N0 N275q
  obtain ⟨T276, X276, e276, st276⟩ := getS2 X275 hx hZ hown (host := "") (Or.inl (hw _ (tk 31 rfl))) Via.refl e275 (S_3.ext O0.2) (g := (mkF m 12 #[.val (.ref w_4), .val (.ref w_2)] [])) rfl (hb hby d1_12)
  obtain ⟨fs, hr, hrun, hended, hW, hsame⟩ := X276.leave (v := some (.ref w_3)) (fun h => by rw [Bd.returns] at h; cases h)
  refine ⟨_, _, pre0 _ ?_, hrun, hended, _, _, rfl, ?_, ⟨_, rfl⟩, hW, hsame.mono (by decide) (by decide)⟩
  · show Steps p.tables e below (s₁.setTop (mkF m 0 #[.val (.ref w_4), .val (.ref w_2)] [])) _
    refine XS.aloadN X0.here hx rfl (hb hby d1_0) rfl rfl ?_
    show Steps p.tables e below (s₁.setTop (mkF m 1 #[.val (.ref w_4), .val (.ref w_2)] [(.ref w_2)])) _
    refine XS.aloadN X0.here hx rfl (hb hby d1_1) rfl rfl ?_
    show Steps p.tables e below (s₁.setTop (mkF m 2 #[.val (.ref w_4), .val (.ref w_2)] [(.ref w_4), (.ref w_2)])) _
    refine st275.trans ?_
    show Steps p.tables e below (T275.setTop (mkF m 5 #[.val (.ref w_4), .val (.ref w_2)] [(.int (0 : Int32))])) _
    refine XS.ifYes X275.here hx rfl (pc0 := 5) (pc' := 12) rfl (hb hby d1_5) rfl ((if0 _ _).trans (teq (by decide : ((0 : Int32) = (0 : Int32)))).1) (by decide) (by decide) ?_
    show Steps p.tables e below (T275.setTop (mkF m 12 #[.val (.ref w_4), .val (.ref w_2)] [])) _
    refine st276 _ ?_
    show Steps p.tables e below (T276.setTop (mkF m 15 #[.val (.ref w_4), .val (.ref w_2)] [(.ref w_3)])) _
    jvm_step X276.here [X276.here.top, hx, (hb hby d1_15), X276.method', Bd.returns, Value.isRef, FieldType.isReference]
    first | (intro acts; rw [hr _ acts rfl rfl rfl]) | rw [hr _ _ rfl rfl rfl]
    exact Steps.refl _
  · show Q1x14 Z w_1 w_2 w_3 w_4 w_5 k_5 h0 n0 _ T276.heap _
    rw [e276]
    exact ⟨by unfold sp1x14; rfl, N275, rfl⟩
theorem pn_2x15 : plainName "com/example/lucid_locks/lucidlocks/locks/LockMode" = true := by first | (simp [plainName, overriddenIn]; done) | decide +kernel
theorem ef_2x15 (m : MethodId) (w_3 : Addr) (w_4 : Addr) : entryFrame m #[(.ref w_3), (.ref w_4)] 6 = mkF m 0 #[.val (.ref w_3), .val (.ref w_4), .unset, .unset, .unset, .unset] [] := by first | (simp [entryFrame, mkF, argsToLocals, Value.category]; done) | rfl
def sp2x15  : Int32 := (1 : Int32)
def Q2x15 (Z : State) (w_1 : Addr) (w_2 : Addr) (w_3 : Addr) (w_4 : Addr) (w_5 : Addr) (k_5 : ClassId) (h0 : Heap) (n0 : Nat) (v : Option Value) (h : Heap) (L : List Loc) : Prop := v = some (.int (sp2x15)) ∧ Fr n0 L ∧ h = h0
set_option maxRecDepth 65536 in
set_option maxHeartbeats 40000000 in
theorem rm2x15 (l : Launch) (Z : State) (a0 : Array Value) (hw : ∀ d ∈ tables_1, d.before a0 Z = true) (ws : List Jvm.Cond) (w_1 : Addr) (w_2 : Addr) (w_3 : Addr) (w_4 : Addr) (w_5 : Addr) (k_5 : ClassId) (hS : StF Z w_1 w_2 w_3 w_4 w_5 k_5) (h0 : Heap) (n0 : Nat) (O0 : Old Z n0 h0) :
    MetFree l Y1 (head1 (Jvm.Cond.code Y1 prog_17_method_7_code 6 (some .boolean) :: ws) ({ frames := 1, cells := 0, slots := 0, locals := 13 } : Room)) (fun a U => a = #[(.ref w_3), (.ref w_4)] ∧ Z.Warmed39 U.vm ∧ U.heap = h0) (fun _ _ _ _ _ => True) (fun _ U o U' => ∃ v L, o = .returned v ∧ Q2x15 Z w_1 w_2 w_3 w_4 w_5 k_5 h0 n0 v U'.heap L ∧ FrameEnd U o U' L ({ frames := 1, cells := 0, slots := 0, locals := 13 } : Room).cells ({ frames := 1, cells := 0, slots := 0, locals := 13 } : Room).slots) := by
  refine MetFree.of_bodySF (plainFor_of_name pn_2x15) hisR ?_
  intro p e s m args below meth c s₁ Bd hml0 hP hK
  obtain ⟨rfl, hZ, hh⟩ := hP
  have hx := Bd.exec
  have hby := Bd.bytes
  have hml : c.maxLocals = 6 := hml0
  have hown : s.vm.findClass "com/example/lucid_locks/lucidlocks/locks/LockMode" = some m.cls := findClass_of_methodNamed Bd.named
  have hnm := (name_of_methodNamed Bd.named Bd.method).1
  have X0 : Stand p l e ({ frames := 1, cells := 0, slots := 0, locals := 13 } : Room) s m #[(.ref w_3), (.ref w_4)] below meth c s₁ [] 0 0 := Stand.of_body Bd
  have e0 : s₁.heap = h0 := by rw [← hh, Bd.state]; rfl
  have N0 := Fr.nil n0
  have hS0 := hS
  obtain ⟨S_1, E_1, S_2, E_2, S_3, E_3, S_4, E_4, S_5, F_1_sharedWithItself, F_1_ordinal, F_2_ordinal, F_4_ordinal, F_3_ordinal, F_4_sharedWithItself, F_2_sharedWithItself, F_3_sharedWithItself, V_5⟩ := hS
  have pre0 : ∀ t, Steps p.tables e below (s₁.setTop (mkF m 0 #[.val (.ref w_3), .val (.ref w_4), .unset, .unset, .unset, .unset] [])) t → Steps p.tables e below (s₁.setTop (entryFrame m #[(.ref w_3), (.ref w_4)] 6)) t := fun t k => castTop (ef_2x15 m w_3 w_4) k
  obtain ⟨T280, X280, e280, st280⟩ := getS2 X0 hx hZ hown (host := "") (Or.inl (hw _ (tk 22 rfl))) Via.refl e0 (S_5.ext O0.2) (g := (mkF m 0 #[.val (.ref w_3), .val (.ref w_4), .unset, .unset, .unset, .unset] [])) rfl (hb hby d2_0)
  obtain ⟨cl281, Ar281, qa281, Sa281, Ma281, Ha281, Ga281⟩ := id (V_5.ext O0.2)
  obtain ⟨cl282, Ar282, qa282, Sa282, Ma282, Ha282, Ga282⟩ := id (V_5.ext O0.2)
  have hin282 : ¬ ((0 : Int32) < 0 ∨ cl282.slots.size ≤ ((0 : Int32)).toNatClampNeg) := by  exact inb_of Sa282 ⟨by decide, by decide⟩
  have hat282 : cl282.slots[((0 : Int32)).toNatClampNeg]? = some (.ref w_1) := Has.at Ha282 hin282 (by rfl)
  obtain ⟨cq283, kq283, q283a, q283b, q283c⟩ := isOf hZ e280 (E_4.ext O0.2)
  obtain ⟨_, _, ⟨T283, L283, k283, n283⟩, -, X283, ⟨Lc283, hQ283, l283, y283, z283⟩, st283⟩ := X280.virtualBack hx (y := Y0) (z := Y0) hown (mvT hZ (hw _ (tk 24 rfl))) (mvT hZ (hw _ (tk 25 rfl))) (notFace_of_selects (args := #[]) (mvT hZ (hw _ (tk 27 rfl)))) (mvT hZ (hw _ (tk 27 rfl))) (mvT hZ (hw _ (tk 26 rfl))) (by decide) (backOf (W := 0) (rm3 l Z a0 hw [] w_1 w_2 w_3 w_4 w_5 k_5 hS0 w_4 w_1 (0 : Int32) h0 n0 O0 (F_4_sharedWithItself.ext O0.2)) hZ (hw _ (tk 28 rfl)) (hw _ (tk 3 rfl)) (by decide) (by decide)) q283a q283c (g := (mkF m 25 #[.val (.ref w_3), .val (.ref w_4), .val (.ref w_5), .val (.int (4 : Int32)), .val (.int (0 : Int32)), .val (.ref w_1)] [(.ref w_1), (.ref w_4)])) rfl (by rw [hml]; rfl) (Steps.refl _) (argsL := [(.ref w_1)]) (rest := []) (lenOf pd_0 rfl) rfl (by show 2 * 0 + _ ≤ _; exact Nat.le_of_eq rfl) (hb hby d2_25) (fun _ _ => ⟨rfl, e280, (by decide : 0 + 0 ≤ _), (by decide : 0 + 0 ≤ _)⟩)
  dsimp only [Pt.U, Pt.locs, Pt.cells, Pt.slots] at X283 l283 y283 z283 st283 hQ283
  subst l283 y283 z283
  obtain ⟨rv283, N283q, e283⟩ := hQ283
  rw [show sp3 w_4 w_1 (0 : Int32) = (1 : Int32) from by unfold sp3; rw [if_neg (Fld.ne F_4_ordinal F_1_ordinal (by decide))]] at rv283
  subst rv283
  have N283 := Fr.app N0 N283q
  obtain ⟨cq284, kq284, q284a, q284b, q284c⟩ := isOf hZ e283 (E_3.ext O0.2)
  obtain ⟨_, _, ⟨T284, L284, k284, n284⟩, -, X284, ⟨Lc284, hQ284, l284, y284, z284⟩, st284⟩ := X283.virtualBack hx (y := Y0) (z := Y0) hown (mvT hZ (hw _ (tk 24 rfl))) (mvT hZ (hw _ (tk 25 rfl))) (notFace_of_selects (args := #[]) (mvT hZ (hw _ (tk 27 rfl)))) (mvT hZ (hw _ (tk 27 rfl))) (mvT hZ (hw _ (tk 26 rfl))) (by decide) (backOf (W := 0) (rm3 l Z a0 hw [] w_1 w_2 w_3 w_4 w_5 k_5 hS0 w_3 w_1 (0 : Int32) h0 n0 O0 (F_3_sharedWithItself.ext O0.2)) hZ (hw _ (tk 28 rfl)) (hw _ (tk 3 rfl)) (by decide) (by decide)) q284a q284c (g := (mkF m 34 #[.val (.ref w_3), .val (.ref w_4), .val (.ref w_5), .val (.int (4 : Int32)), .val (.int (0 : Int32)), .val (.ref w_1)] [(.ref w_1), (.ref w_3)])) rfl (by rw [hml]; rfl) (Steps.refl _) (argsL := [(.ref w_1)]) (rest := []) (lenOf pd_0 rfl) rfl (by show 2 * 0 + _ ≤ _; exact Nat.le_of_eq rfl) (hb hby d2_34) (fun _ _ => ⟨rfl, e283, (by decide : 0 + 0 ≤ _), (by decide : 0 + 0 ≤ _)⟩)
  dsimp only [Pt.U, Pt.locs, Pt.cells, Pt.slots] at X284 l284 y284 z284 st284 hQ284
  subst l284 y284 z284
  obtain ⟨rv284, N284q, e284⟩ := hQ284
  rw [show sp3 w_3 w_1 (0 : Int32) = (1 : Int32) from by unfold sp3; rw [if_neg (Fld.ne F_3_ordinal F_1_ordinal (by decide))]] at rv284
  subst rv284
  have N284 := Fr.app N283 N284q
  obtain ⟨cl285, Ar285, qa285, Sa285, Ma285, Ha285, Ga285⟩ := id (V_5.ext O0.2)
  have hin285 : ¬ (((0 : Int32) + (1 : Int32)) < 0 ∨ cl285.slots.size ≤ (((0 : Int32) + (1 : Int32))).toNatClampNeg) := by  exact inb_of Sa285 ⟨by decide, by decide⟩
  have hat285 : cl285.slots[(((0 : Int32) + (1 : Int32))).toNatClampNeg]? = some (.ref w_2) := Has.at Ha285 hin285 (by rfl)
  obtain ⟨cq286, kq286, q286a, q286b, q286c⟩ := isOf hZ e284 (E_4.ext O0.2)
  obtain ⟨_, _, ⟨T286, L286, k286, n286⟩, -, X286, ⟨Lc286, hQ286, l286, y286, z286⟩, st286⟩ := X284.virtualBack hx (y := Y0) (z := Y0) hown (mvT hZ (hw _ (tk 24 rfl))) (mvT hZ (hw _ (tk 25 rfl))) (notFace_of_selects (args := #[]) (mvT hZ (hw _ (tk 27 rfl)))) (mvT hZ (hw _ (tk 27 rfl))) (mvT hZ (hw _ (tk 26 rfl))) (by decide) (backOf (W := 0) (rm3 l Z a0 hw [] w_1 w_2 w_3 w_4 w_5 k_5 hS0 w_4 w_2 (0 : Int32) h0 n0 O0 (F_4_sharedWithItself.ext O0.2)) hZ (hw _ (tk 28 rfl)) (hw _ (tk 3 rfl)) (by decide) (by decide)) q286a q286c (g := (mkF m 25 #[.val (.ref w_3), .val (.ref w_4), .val (.ref w_5), .val (.int (4 : Int32)), .val (.int ((0 : Int32) + (1 : Int32))), .val (.ref w_2)] [(.ref w_2), (.ref w_4)])) rfl (by rw [hml]; rfl) (Steps.refl _) (argsL := [(.ref w_2)]) (rest := []) (lenOf pd_0 rfl) rfl (by show 2 * 0 + _ ≤ _; exact Nat.le_of_eq rfl) (hb hby d2_25) (fun _ _ => ⟨rfl, e284, (by decide : 0 + 0 ≤ _), (by decide : 0 + 0 ≤ _)⟩)
  dsimp only [Pt.U, Pt.locs, Pt.cells, Pt.slots] at X286 l286 y286 z286 st286 hQ286
  subst l286 y286 z286
  obtain ⟨rv286, N286q, e286⟩ := hQ286
  rw [show sp3 w_4 w_2 (0 : Int32) = (1 : Int32) from by unfold sp3; rw [if_neg (Fld.ne F_4_ordinal F_2_ordinal (by decide))]] at rv286
  subst rv286
  have N286 := Fr.app N284 N286q
  obtain ⟨cq287, kq287, q287a, q287b, q287c⟩ := isOf hZ e286 (E_3.ext O0.2)
  obtain ⟨_, _, ⟨T287, L287, k287, n287⟩, -, X287, ⟨Lc287, hQ287, l287, y287, z287⟩, st287⟩ := X286.virtualBack hx (y := Y0) (z := Y0) hown (mvT hZ (hw _ (tk 24 rfl))) (mvT hZ (hw _ (tk 25 rfl))) (notFace_of_selects (args := #[]) (mvT hZ (hw _ (tk 27 rfl)))) (mvT hZ (hw _ (tk 27 rfl))) (mvT hZ (hw _ (tk 26 rfl))) (by decide) (backOf (W := 0) (rm3 l Z a0 hw [] w_1 w_2 w_3 w_4 w_5 k_5 hS0 w_3 w_2 (0 : Int32) h0 n0 O0 (F_3_sharedWithItself.ext O0.2)) hZ (hw _ (tk 28 rfl)) (hw _ (tk 3 rfl)) (by decide) (by decide)) q287a q287c (g := (mkF m 34 #[.val (.ref w_3), .val (.ref w_4), .val (.ref w_5), .val (.int (4 : Int32)), .val (.int ((0 : Int32) + (1 : Int32))), .val (.ref w_2)] [(.ref w_2), (.ref w_3)])) rfl (by rw [hml]; rfl) (Steps.refl _) (argsL := [(.ref w_2)]) (rest := []) (lenOf pd_0 rfl) rfl (by show 2 * 0 + _ ≤ _; exact Nat.le_of_eq rfl) (hb hby d2_34) (fun _ _ => ⟨rfl, e286, (by decide : 0 + 0 ≤ _), (by decide : 0 + 0 ≤ _)⟩)
  dsimp only [Pt.U, Pt.locs, Pt.cells, Pt.slots] at X287 l287 y287 z287 st287 hQ287
  subst l287 y287 z287
  obtain ⟨rv287, N287q, e287⟩ := hQ287
  rw [show sp3 w_3 w_2 (0 : Int32) = (1 : Int32) from by unfold sp3; rw [if_neg (Fld.ne F_3_ordinal F_2_ordinal (by decide))]] at rv287
  subst rv287
  have N287 := Fr.app N286 N287q
  obtain ⟨cl288, Ar288, qa288, Sa288, Ma288, Ha288, Ga288⟩ := id (V_5.ext O0.2)
  have hin288 : ¬ ((((0 : Int32) + (1 : Int32)) + (1 : Int32)) < 0 ∨ cl288.slots.size ≤ ((((0 : Int32) + (1 : Int32)) + (1 : Int32))).toNatClampNeg) := by  exact inb_of Sa288 ⟨by decide, by decide⟩
  have hat288 : cl288.slots[((((0 : Int32) + (1 : Int32)) + (1 : Int32))).toNatClampNeg]? = some (.ref w_3) := Has.at Ha288 hin288 (by rfl)
  obtain ⟨cq289, kq289, q289a, q289b, q289c⟩ := isOf hZ e287 (E_4.ext O0.2)
  obtain ⟨_, _, ⟨T289, L289, k289, n289⟩, -, X289, ⟨Lc289, hQ289, l289, y289, z289⟩, st289⟩ := X287.virtualBack hx (y := Y0) (z := Y0) hown (mvT hZ (hw _ (tk 24 rfl))) (mvT hZ (hw _ (tk 25 rfl))) (notFace_of_selects (args := #[]) (mvT hZ (hw _ (tk 27 rfl)))) (mvT hZ (hw _ (tk 27 rfl))) (mvT hZ (hw _ (tk 26 rfl))) (by decide) (backOf (W := 0) (rm3 l Z a0 hw [] w_1 w_2 w_3 w_4 w_5 k_5 hS0 w_4 w_3 (0 : Int32) h0 n0 O0 (F_4_sharedWithItself.ext O0.2)) hZ (hw _ (tk 28 rfl)) (hw _ (tk 3 rfl)) (by decide) (by decide)) q289a q289c (g := (mkF m 25 #[.val (.ref w_3), .val (.ref w_4), .val (.ref w_5), .val (.int (4 : Int32)), .val (.int (((0 : Int32) + (1 : Int32)) + (1 : Int32))), .val (.ref w_3)] [(.ref w_3), (.ref w_4)])) rfl (by rw [hml]; rfl) (Steps.refl _) (argsL := [(.ref w_3)]) (rest := []) (lenOf pd_0 rfl) rfl (by show 2 * 0 + _ ≤ _; exact Nat.le_of_eq rfl) (hb hby d2_25) (fun _ _ => ⟨rfl, e287, (by decide : 0 + 0 ≤ _), (by decide : 0 + 0 ≤ _)⟩)
  dsimp only [Pt.U, Pt.locs, Pt.cells, Pt.slots] at X289 l289 y289 z289 st289 hQ289
  subst l289 y289 z289
  obtain ⟨rv289, N289q, e289⟩ := hQ289
  rw [show sp3 w_4 w_3 (0 : Int32) = (1 : Int32) from by unfold sp3; rw [if_neg (Fld.ne F_4_ordinal F_3_ordinal (by decide))]] at rv289
  subst rv289
  have N289 := Fr.app N287 N289q
  obtain ⟨cq290, kq290, q290a, q290b, q290c⟩ := isOf hZ e289 (E_3.ext O0.2)
  obtain ⟨_, _, ⟨T290, L290, k290, n290⟩, -, X290, ⟨Lc290, hQ290, l290, y290, z290⟩, st290⟩ := X289.virtualBack hx (y := Y0) (z := Y0) hown (mvT hZ (hw _ (tk 24 rfl))) (mvT hZ (hw _ (tk 25 rfl))) (notFace_of_selects (args := #[]) (mvT hZ (hw _ (tk 27 rfl)))) (mvT hZ (hw _ (tk 27 rfl))) (mvT hZ (hw _ (tk 26 rfl))) (by decide) (backOf (W := 0) (rm3 l Z a0 hw [] w_1 w_2 w_3 w_4 w_5 k_5 hS0 w_3 w_3 (0 : Int32) h0 n0 O0 (F_3_sharedWithItself.ext O0.2)) hZ (hw _ (tk 28 rfl)) (hw _ (tk 3 rfl)) (by decide) (by decide)) q290a q290c (g := (mkF m 34 #[.val (.ref w_3), .val (.ref w_4), .val (.ref w_5), .val (.int (4 : Int32)), .val (.int (((0 : Int32) + (1 : Int32)) + (1 : Int32))), .val (.ref w_3)] [(.ref w_3), (.ref w_3)])) rfl (by rw [hml]; rfl) (Steps.refl _) (argsL := [(.ref w_3)]) (rest := []) (lenOf pd_0 rfl) rfl (by show 2 * 0 + _ ≤ _; exact Nat.le_of_eq rfl) (hb hby d2_34) (fun _ _ => ⟨rfl, e289, (by decide : 0 + 0 ≤ _), (by decide : 0 + 0 ≤ _)⟩)
  dsimp only [Pt.U, Pt.locs, Pt.cells, Pt.slots] at X290 l290 y290 z290 st290 hQ290
  subst l290 y290 z290
  obtain ⟨rv290, N290q, e290⟩ := hQ290
  rw [show sp3 w_3 w_3 (0 : Int32) = (1 : Int32) from by unfold sp3; rw [if_pos rfl, if_pos (by decide : ((0 : Int32) = (0 : Int32)))]] at rv290
  subst rv290
  have N290 := Fr.app N289 N290q
  obtain ⟨cl291, Ar291, qa291, Sa291, Ma291, Ha291, Ga291⟩ := id (V_5.ext O0.2)
  have hin291 : ¬ (((((0 : Int32) + (1 : Int32)) + (1 : Int32)) + (1 : Int32)) < 0 ∨ cl291.slots.size ≤ (((((0 : Int32) + (1 : Int32)) + (1 : Int32)) + (1 : Int32))).toNatClampNeg) := by  exact inb_of Sa291 ⟨by decide, by decide⟩
  have hat291 : cl291.slots[(((((0 : Int32) + (1 : Int32)) + (1 : Int32)) + (1 : Int32))).toNatClampNeg]? = some (.ref w_4) := Has.at Ha291 hin291 (by rfl)
  obtain ⟨cq292, kq292, q292a, q292b, q292c⟩ := isOf hZ e290 (E_4.ext O0.2)
  obtain ⟨_, _, ⟨T292, L292, k292, n292⟩, -, X292, ⟨Lc292, hQ292, l292, y292, z292⟩, st292⟩ := X290.virtualBack hx (y := Y0) (z := Y0) hown (mvT hZ (hw _ (tk 24 rfl))) (mvT hZ (hw _ (tk 25 rfl))) (notFace_of_selects (args := #[]) (mvT hZ (hw _ (tk 27 rfl)))) (mvT hZ (hw _ (tk 27 rfl))) (mvT hZ (hw _ (tk 26 rfl))) (by decide) (backOf (W := 0) (rm3 l Z a0 hw [] w_1 w_2 w_3 w_4 w_5 k_5 hS0 w_4 w_4 (0 : Int32) h0 n0 O0 (F_4_sharedWithItself.ext O0.2)) hZ (hw _ (tk 28 rfl)) (hw _ (tk 3 rfl)) (by decide) (by decide)) q292a q292c (g := (mkF m 25 #[.val (.ref w_3), .val (.ref w_4), .val (.ref w_5), .val (.int (4 : Int32)), .val (.int ((((0 : Int32) + (1 : Int32)) + (1 : Int32)) + (1 : Int32))), .val (.ref w_4)] [(.ref w_4), (.ref w_4)])) rfl (by rw [hml]; rfl) (Steps.refl _) (argsL := [(.ref w_4)]) (rest := []) (lenOf pd_0 rfl) rfl (by show 2 * 0 + _ ≤ _; exact Nat.le_of_eq rfl) (hb hby d2_25) (fun _ _ => ⟨rfl, e290, (by decide : 0 + 0 ≤ _), (by decide : 0 + 0 ≤ _)⟩)
  dsimp only [Pt.U, Pt.locs, Pt.cells, Pt.slots] at X292 l292 y292 z292 st292 hQ292
  subst l292 y292 z292
  obtain ⟨rv292, N292q, e292⟩ := hQ292
  rw [show sp3 w_4 w_4 (0 : Int32) = (1 : Int32) from by unfold sp3; rw [if_pos rfl, if_pos (by decide : ((0 : Int32) = (0 : Int32)))]] at rv292
  subst rv292
  have N292 := Fr.app N290 N292q
  obtain ⟨cq293, kq293, q293a, q293b, q293c⟩ := isOf hZ e292 (E_3.ext O0.2)
  obtain ⟨_, _, ⟨T293, L293, k293, n293⟩, -, X293, ⟨Lc293, hQ293, l293, y293, z293⟩, st293⟩ := X292.virtualBack hx (y := Y0) (z := Y0) hown (mvT hZ (hw _ (tk 24 rfl))) (mvT hZ (hw _ (tk 25 rfl))) (notFace_of_selects (args := #[]) (mvT hZ (hw _ (tk 27 rfl)))) (mvT hZ (hw _ (tk 27 rfl))) (mvT hZ (hw _ (tk 26 rfl))) (by decide) (backOf (W := 0) (rm3 l Z a0 hw [] w_1 w_2 w_3 w_4 w_5 k_5 hS0 w_3 w_4 (0 : Int32) h0 n0 O0 (F_3_sharedWithItself.ext O0.2)) hZ (hw _ (tk 28 rfl)) (hw _ (tk 3 rfl)) (by decide) (by decide)) q293a q293c (g := (mkF m 34 #[.val (.ref w_3), .val (.ref w_4), .val (.ref w_5), .val (.int (4 : Int32)), .val (.int ((((0 : Int32) + (1 : Int32)) + (1 : Int32)) + (1 : Int32))), .val (.ref w_4)] [(.ref w_4), (.ref w_3)])) rfl (by rw [hml]; rfl) (Steps.refl _) (argsL := [(.ref w_4)]) (rest := []) (lenOf pd_0 rfl) rfl (by show 2 * 0 + _ ≤ _; exact Nat.le_of_eq rfl) (hb hby d2_34) (fun _ _ => ⟨rfl, e292, (by decide : 0 + 0 ≤ _), (by decide : 0 + 0 ≤ _)⟩)
  dsimp only [Pt.U, Pt.locs, Pt.cells, Pt.slots] at X293 l293 y293 z293 st293 hQ293
  subst l293 y293 z293
  obtain ⟨rv293, N293q, e293⟩ := hQ293
  rw [show sp3 w_3 w_4 (0 : Int32) = (1 : Int32) from by unfold sp3; rw [if_neg (Fld.ne F_3_ordinal F_4_ordinal (by decide))]] at rv293
  subst rv293
  have N293 := Fr.app N292 N293q
  obtain ⟨fs, hr, hrun, hended, hW, hsame⟩ := X293.leave (v := some (.int (1 : Int32))) (fun h => by rw [Bd.returns] at h; cases h)
  refine ⟨_, _, pre0 _ ?_, hrun, hended, _, _, rfl, ?_, ⟨_, rfl⟩, hW, hsame.mono (by decide) (by decide)⟩
  · show Steps p.tables e below (s₁.setTop (mkF m 0 #[.val (.ref w_3), .val (.ref w_4), .unset, .unset, .unset, .unset] [])) _
    refine st280 _ ?_
    show Steps p.tables e below (T280.setTop (mkF m 3 #[.val (.ref w_3), .val (.ref w_4), .unset, .unset, .unset, .unset] [(.ref w_5)])) _
    refine XS.astoreN X280.here hx rfl (hb hby d2_3) rfl rfl (l' := #[.val (.ref w_3), .val (.ref w_4), .val (.ref w_5), .unset, .unset, .unset]) rfl ?_
    show Steps p.tables e below (T280.setTop (mkF m 4 #[.val (.ref w_3), .val (.ref w_4), .val (.ref w_5), .unset, .unset, .unset] [])) _
    refine XS.aloadN X280.here hx rfl (hb hby d2_4) rfl rfl ?_
    show Steps p.tables e below (T280.setTop (mkF m 5 #[.val (.ref w_3), .val (.ref w_4), .val (.ref w_5), .unset, .unset, .unset] [(.ref w_5)])) _
    refine X280.arraylength hx (by rw [e280]; exact Ar281.1) (State.isArrayOf_alike hZ.alike Ar281.2.1) (g := (mkF m 5 #[.val (.ref w_3), .val (.ref w_4), .val (.ref w_5), .unset, .unset, .unset] [(.ref w_5)])) rfl rfl (hb hby d2_5) _ ?_
    rw [len_of Sa281 Ma281]
    show Steps p.tables e below (T280.setTop (mkF m 6 #[.val (.ref w_3), .val (.ref w_4), .val (.ref w_5), .unset, .unset, .unset] [(.int (4 : Int32))])) _
    refine XS.istoreN X280.here hx rfl (hb hby d2_6) rfl (l' := #[.val (.ref w_3), .val (.ref w_4), .val (.ref w_5), .val (.int (4 : Int32)), .unset, .unset]) rfl ?_
    show Steps p.tables e below (T280.setTop (mkF m 7 #[.val (.ref w_3), .val (.ref w_4), .val (.ref w_5), .val (.int (4 : Int32)), .unset, .unset] [])) _
    refine XS.iconst X280.here hx rfl (hb hby d2_7) ?_
    show Steps p.tables e below (T280.setTop (mkF m 8 #[.val (.ref w_3), .val (.ref w_4), .val (.ref w_5), .val (.int (4 : Int32)), .unset, .unset] [(.int (0 : Int32))])) _
    refine XS.istore X280.here hx rfl (hb hby d2_8) rfl (l' := #[.val (.ref w_3), .val (.ref w_4), .val (.ref w_5), .val (.int (4 : Int32)), .val (.int (0 : Int32)), .unset]) rfl ?_
    show Steps p.tables e below (T280.setTop (mkF m 10 #[.val (.ref w_3), .val (.ref w_4), .val (.ref w_5), .val (.int (4 : Int32)), .val (.int (0 : Int32)), .unset] [])) _
    refine XS.iload X280.here hx rfl (hb hby d2_10) rfl ?_
    show Steps p.tables e below (T280.setTop (mkF m 12 #[.val (.ref w_3), .val (.ref w_4), .val (.ref w_5), .val (.int (4 : Int32)), .val (.int (0 : Int32)), .unset] [(.int (0 : Int32))])) _
    refine XS.iloadN X280.here hx rfl (hb hby d2_12) rfl ?_
    show Steps p.tables e below (T280.setTop (mkF m 13 #[.val (.ref w_3), .val (.ref w_4), .val (.ref w_5), .val (.int (4 : Int32)), .val (.int (0 : Int32)), .unset] [(.int (4 : Int32)), (.int (0 : Int32))])) _
    refine XS.icmpNo X280.here hx rfl (hb hby d2_13) rfl (tlt (by decide : ((0 : Int32) < (4 : Int32)))).2.1 ?_
    show Steps p.tables e below (T280.setTop (mkF m 16 #[.val (.ref w_3), .val (.ref w_4), .val (.ref w_5), .val (.int (4 : Int32)), .val (.int (0 : Int32)), .unset] [])) _
    refine XS.aloadN X280.here hx rfl (hb hby d2_16) rfl rfl ?_
    show Steps p.tables e below (T280.setTop (mkF m 17 #[.val (.ref w_3), .val (.ref w_4), .val (.ref w_5), .val (.int (4 : Int32)), .val (.int (0 : Int32)), .unset] [(.ref w_5)])) _
    refine XS.iload X280.here hx rfl (hb hby d2_17) rfl ?_
    show Steps p.tables e below (T280.setTop (mkF m 19 #[.val (.ref w_3), .val (.ref w_4), .val (.ref w_5), .val (.int (4 : Int32)), .val (.int (0 : Int32)), .unset] [(.int (0 : Int32)), (.ref w_5)])) _
    refine X280.aaload hx (j := (0 : Int32)) (v := (.ref w_1)) (by rw [e280]; exact Ar282.1) (State.isArrayOf_alike hZ.alike Ar282.2.1) rfl Ar282.2.2 hin282 hat282 (g := (mkF m 19 #[.val (.ref w_3), .val (.ref w_4), .val (.ref w_5), .val (.int (4 : Int32)), .val (.int (0 : Int32)), .unset] [(.int (0 : Int32)), (.ref w_5)])) rfl rfl (hb hby d2_19) _ ?_
    show Steps p.tables e below (T280.setTop (mkF m 20 #[.val (.ref w_3), .val (.ref w_4), .val (.ref w_5), .val (.int (4 : Int32)), .val (.int (0 : Int32)), .unset] [(.ref w_1)])) _
    refine XS.astore X280.here hx rfl (hb hby d2_20) rfl rfl (l' := #[.val (.ref w_3), .val (.ref w_4), .val (.ref w_5), .val (.int (4 : Int32)), .val (.int (0 : Int32)), .val (.ref w_1)]) rfl ?_
    show Steps p.tables e below (T280.setTop (mkF m 22 #[.val (.ref w_3), .val (.ref w_4), .val (.ref w_5), .val (.int (4 : Int32)), .val (.int (0 : Int32)), .val (.ref w_1)] [])) _
    refine XS.aloadN X280.here hx rfl (hb hby d2_22) rfl rfl ?_
    show Steps p.tables e below (T280.setTop (mkF m 23 #[.val (.ref w_3), .val (.ref w_4), .val (.ref w_5), .val (.int (4 : Int32)), .val (.int (0 : Int32)), .val (.ref w_1)] [(.ref w_4)])) _
    refine XS.aload X280.here hx rfl (hb hby d2_23) rfl rfl ?_
    show Steps p.tables e below (T280.setTop (mkF m 25 #[.val (.ref w_3), .val (.ref w_4), .val (.ref w_5), .val (.int (4 : Int32)), .val (.int (0 : Int32)), .val (.ref w_1)] [(.ref w_1), (.ref w_4)])) _
    refine st283.trans ?_
    show Steps p.tables e below (T283.setTop (mkF m 28 #[.val (.ref w_3), .val (.ref w_4), .val (.ref w_5), .val (.int (4 : Int32)), .val (.int (0 : Int32)), .val (.ref w_1)] [(.int (1 : Int32))])) _
    refine XS.ifNo X283.here hx rfl (hb hby d2_28) rfl ((if0 _ _).trans (feq (by decide : ¬ ((1 : Int32) = (0 : Int32)))).1) ?_
    show Steps p.tables e below (T283.setTop (mkF m 31 #[.val (.ref w_3), .val (.ref w_4), .val (.ref w_5), .val (.int (4 : Int32)), .val (.int (0 : Int32)), .val (.ref w_1)] [])) _
    refine XS.aloadN X283.here hx rfl (hb hby d2_31) rfl rfl ?_
    show Steps p.tables e below (T283.setTop (mkF m 32 #[.val (.ref w_3), .val (.ref w_4), .val (.ref w_5), .val (.int (4 : Int32)), .val (.int (0 : Int32)), .val (.ref w_1)] [(.ref w_3)])) _
    refine XS.aload X283.here hx rfl (hb hby d2_32) rfl rfl ?_
    show Steps p.tables e below (T283.setTop (mkF m 34 #[.val (.ref w_3), .val (.ref w_4), .val (.ref w_5), .val (.int (4 : Int32)), .val (.int (0 : Int32)), .val (.ref w_1)] [(.ref w_1), (.ref w_3)])) _
    refine st284.trans ?_
    show Steps p.tables e below (T284.setTop (mkF m 37 #[.val (.ref w_3), .val (.ref w_4), .val (.ref w_5), .val (.int (4 : Int32)), .val (.int (0 : Int32)), .val (.ref w_1)] [(.int (1 : Int32))])) _
    refine XS.ifYes X284.here hx rfl (pc0 := 37) (pc' := 42) rfl (hb hby d2_37) rfl ((if0 _ _).trans (feq (by decide : ¬ ((1 : Int32) = (0 : Int32)))).2) (by decide) (by decide) ?_
    show Steps p.tables e below (T284.setTop (mkF m 42 #[.val (.ref w_3), .val (.ref w_4), .val (.ref w_5), .val (.int (4 : Int32)), .val (.int (0 : Int32)), .val (.ref w_1)] [])) _
    refine XS.iinc X284.here hx rfl (hb hby d2_42) rfl (l' := #[.val (.ref w_3), .val (.ref w_4), .val (.ref w_5), .val (.int (4 : Int32)), .val (.int ((0 : Int32) + (1 : Int32))), .val (.ref w_1)]) rfl ?_
    show Steps p.tables e below (T284.setTop (mkF m 45 #[.val (.ref w_3), .val (.ref w_4), .val (.ref w_5), .val (.int (4 : Int32)), .val (.int ((0 : Int32) + (1 : Int32))), .val (.ref w_1)] [])) _
    refine XS.goto X284.here hx rfl (pc0 := 45) (pc' := 10) rfl (hb hby d2_45) (by decide) (by decide) ?_
    show Steps p.tables e below (T284.setTop (mkF m 10 #[.val (.ref w_3), .val (.ref w_4), .val (.ref w_5), .val (.int (4 : Int32)), .val (.int ((0 : Int32) + (1 : Int32))), .val (.ref w_1)] [])) _
    refine XS.iload X284.here hx rfl (hb hby d2_10) rfl ?_
    show Steps p.tables e below (T284.setTop (mkF m 12 #[.val (.ref w_3), .val (.ref w_4), .val (.ref w_5), .val (.int (4 : Int32)), .val (.int ((0 : Int32) + (1 : Int32))), .val (.ref w_1)] [(.int ((0 : Int32) + (1 : Int32)))])) _
    refine XS.iloadN X284.here hx rfl (hb hby d2_12) rfl ?_
    show Steps p.tables e below (T284.setTop (mkF m 13 #[.val (.ref w_3), .val (.ref w_4), .val (.ref w_5), .val (.int (4 : Int32)), .val (.int ((0 : Int32) + (1 : Int32))), .val (.ref w_1)] [(.int (4 : Int32)), (.int ((0 : Int32) + (1 : Int32)))])) _
    refine XS.icmpNo X284.here hx rfl (hb hby d2_13) rfl (tlt (by decide : (((0 : Int32) + (1 : Int32)) < (4 : Int32)))).2.1 ?_
    show Steps p.tables e below (T284.setTop (mkF m 16 #[.val (.ref w_3), .val (.ref w_4), .val (.ref w_5), .val (.int (4 : Int32)), .val (.int ((0 : Int32) + (1 : Int32))), .val (.ref w_1)] [])) _
    refine XS.aloadN X284.here hx rfl (hb hby d2_16) rfl rfl ?_
    show Steps p.tables e below (T284.setTop (mkF m 17 #[.val (.ref w_3), .val (.ref w_4), .val (.ref w_5), .val (.int (4 : Int32)), .val (.int ((0 : Int32) + (1 : Int32))), .val (.ref w_1)] [(.ref w_5)])) _
    refine XS.iload X284.here hx rfl (hb hby d2_17) rfl ?_
    show Steps p.tables e below (T284.setTop (mkF m 19 #[.val (.ref w_3), .val (.ref w_4), .val (.ref w_5), .val (.int (4 : Int32)), .val (.int ((0 : Int32) + (1 : Int32))), .val (.ref w_1)] [(.int ((0 : Int32) + (1 : Int32))), (.ref w_5)])) _
    refine X284.aaload hx (j := ((0 : Int32) + (1 : Int32))) (v := (.ref w_2)) (by rw [e284]; exact Ar285.1) (State.isArrayOf_alike hZ.alike Ar285.2.1) rfl Ar285.2.2 hin285 hat285 (g := (mkF m 19 #[.val (.ref w_3), .val (.ref w_4), .val (.ref w_5), .val (.int (4 : Int32)), .val (.int ((0 : Int32) + (1 : Int32))), .val (.ref w_1)] [(.int ((0 : Int32) + (1 : Int32))), (.ref w_5)])) rfl rfl (hb hby d2_19) _ ?_
    show Steps p.tables e below (T284.setTop (mkF m 20 #[.val (.ref w_3), .val (.ref w_4), .val (.ref w_5), .val (.int (4 : Int32)), .val (.int ((0 : Int32) + (1 : Int32))), .val (.ref w_1)] [(.ref w_2)])) _
    refine XS.astore X284.here hx rfl (hb hby d2_20) rfl rfl (l' := #[.val (.ref w_3), .val (.ref w_4), .val (.ref w_5), .val (.int (4 : Int32)), .val (.int ((0 : Int32) + (1 : Int32))), .val (.ref w_2)]) rfl ?_
    show Steps p.tables e below (T284.setTop (mkF m 22 #[.val (.ref w_3), .val (.ref w_4), .val (.ref w_5), .val (.int (4 : Int32)), .val (.int ((0 : Int32) + (1 : Int32))), .val (.ref w_2)] [])) _
    refine XS.aloadN X284.here hx rfl (hb hby d2_22) rfl rfl ?_
    show Steps p.tables e below (T284.setTop (mkF m 23 #[.val (.ref w_3), .val (.ref w_4), .val (.ref w_5), .val (.int (4 : Int32)), .val (.int ((0 : Int32) + (1 : Int32))), .val (.ref w_2)] [(.ref w_4)])) _
    refine XS.aload X284.here hx rfl (hb hby d2_23) rfl rfl ?_
    show Steps p.tables e below (T284.setTop (mkF m 25 #[.val (.ref w_3), .val (.ref w_4), .val (.ref w_5), .val (.int (4 : Int32)), .val (.int ((0 : Int32) + (1 : Int32))), .val (.ref w_2)] [(.ref w_2), (.ref w_4)])) _
    refine st286.trans ?_
    show Steps p.tables e below (T286.setTop (mkF m 28 #[.val (.ref w_3), .val (.ref w_4), .val (.ref w_5), .val (.int (4 : Int32)), .val (.int ((0 : Int32) + (1 : Int32))), .val (.ref w_2)] [(.int (1 : Int32))])) _
    refine XS.ifNo X286.here hx rfl (hb hby d2_28) rfl ((if0 _ _).trans (feq (by decide : ¬ ((1 : Int32) = (0 : Int32)))).1) ?_
    show Steps p.tables e below (T286.setTop (mkF m 31 #[.val (.ref w_3), .val (.ref w_4), .val (.ref w_5), .val (.int (4 : Int32)), .val (.int ((0 : Int32) + (1 : Int32))), .val (.ref w_2)] [])) _
    refine XS.aloadN X286.here hx rfl (hb hby d2_31) rfl rfl ?_
    show Steps p.tables e below (T286.setTop (mkF m 32 #[.val (.ref w_3), .val (.ref w_4), .val (.ref w_5), .val (.int (4 : Int32)), .val (.int ((0 : Int32) + (1 : Int32))), .val (.ref w_2)] [(.ref w_3)])) _
    refine XS.aload X286.here hx rfl (hb hby d2_32) rfl rfl ?_
    show Steps p.tables e below (T286.setTop (mkF m 34 #[.val (.ref w_3), .val (.ref w_4), .val (.ref w_5), .val (.int (4 : Int32)), .val (.int ((0 : Int32) + (1 : Int32))), .val (.ref w_2)] [(.ref w_2), (.ref w_3)])) _
    refine st287.trans ?_
    show Steps p.tables e below (T287.setTop (mkF m 37 #[.val (.ref w_3), .val (.ref w_4), .val (.ref w_5), .val (.int (4 : Int32)), .val (.int ((0 : Int32) + (1 : Int32))), .val (.ref w_2)] [(.int (1 : Int32))])) _
    refine XS.ifYes X287.here hx rfl (pc0 := 37) (pc' := 42) rfl (hb hby d2_37) rfl ((if0 _ _).trans (feq (by decide : ¬ ((1 : Int32) = (0 : Int32)))).2) (by decide) (by decide) ?_
    show Steps p.tables e below (T287.setTop (mkF m 42 #[.val (.ref w_3), .val (.ref w_4), .val (.ref w_5), .val (.int (4 : Int32)), .val (.int ((0 : Int32) + (1 : Int32))), .val (.ref w_2)] [])) _
    refine XS.iinc X287.here hx rfl (hb hby d2_42) rfl (l' := #[.val (.ref w_3), .val (.ref w_4), .val (.ref w_5), .val (.int (4 : Int32)), .val (.int (((0 : Int32) + (1 : Int32)) + (1 : Int32))), .val (.ref w_2)]) rfl ?_
    show Steps p.tables e below (T287.setTop (mkF m 45 #[.val (.ref w_3), .val (.ref w_4), .val (.ref w_5), .val (.int (4 : Int32)), .val (.int (((0 : Int32) + (1 : Int32)) + (1 : Int32))), .val (.ref w_2)] [])) _
    refine XS.goto X287.here hx rfl (pc0 := 45) (pc' := 10) rfl (hb hby d2_45) (by decide) (by decide) ?_
    show Steps p.tables e below (T287.setTop (mkF m 10 #[.val (.ref w_3), .val (.ref w_4), .val (.ref w_5), .val (.int (4 : Int32)), .val (.int (((0 : Int32) + (1 : Int32)) + (1 : Int32))), .val (.ref w_2)] [])) _
    refine XS.iload X287.here hx rfl (hb hby d2_10) rfl ?_
    show Steps p.tables e below (T287.setTop (mkF m 12 #[.val (.ref w_3), .val (.ref w_4), .val (.ref w_5), .val (.int (4 : Int32)), .val (.int (((0 : Int32) + (1 : Int32)) + (1 : Int32))), .val (.ref w_2)] [(.int (((0 : Int32) + (1 : Int32)) + (1 : Int32)))])) _
    refine XS.iloadN X287.here hx rfl (hb hby d2_12) rfl ?_
    show Steps p.tables e below (T287.setTop (mkF m 13 #[.val (.ref w_3), .val (.ref w_4), .val (.ref w_5), .val (.int (4 : Int32)), .val (.int (((0 : Int32) + (1 : Int32)) + (1 : Int32))), .val (.ref w_2)] [(.int (4 : Int32)), (.int (((0 : Int32) + (1 : Int32)) + (1 : Int32)))])) _
    refine XS.icmpNo X287.here hx rfl (hb hby d2_13) rfl (tlt (by decide : ((((0 : Int32) + (1 : Int32)) + (1 : Int32)) < (4 : Int32)))).2.1 ?_
    show Steps p.tables e below (T287.setTop (mkF m 16 #[.val (.ref w_3), .val (.ref w_4), .val (.ref w_5), .val (.int (4 : Int32)), .val (.int (((0 : Int32) + (1 : Int32)) + (1 : Int32))), .val (.ref w_2)] [])) _
    refine XS.aloadN X287.here hx rfl (hb hby d2_16) rfl rfl ?_
    show Steps p.tables e below (T287.setTop (mkF m 17 #[.val (.ref w_3), .val (.ref w_4), .val (.ref w_5), .val (.int (4 : Int32)), .val (.int (((0 : Int32) + (1 : Int32)) + (1 : Int32))), .val (.ref w_2)] [(.ref w_5)])) _
    refine XS.iload X287.here hx rfl (hb hby d2_17) rfl ?_
    show Steps p.tables e below (T287.setTop (mkF m 19 #[.val (.ref w_3), .val (.ref w_4), .val (.ref w_5), .val (.int (4 : Int32)), .val (.int (((0 : Int32) + (1 : Int32)) + (1 : Int32))), .val (.ref w_2)] [(.int (((0 : Int32) + (1 : Int32)) + (1 : Int32))), (.ref w_5)])) _
    refine X287.aaload hx (j := (((0 : Int32) + (1 : Int32)) + (1 : Int32))) (v := (.ref w_3)) (by rw [e287]; exact Ar288.1) (State.isArrayOf_alike hZ.alike Ar288.2.1) rfl Ar288.2.2 hin288 hat288 (g := (mkF m 19 #[.val (.ref w_3), .val (.ref w_4), .val (.ref w_5), .val (.int (4 : Int32)), .val (.int (((0 : Int32) + (1 : Int32)) + (1 : Int32))), .val (.ref w_2)] [(.int (((0 : Int32) + (1 : Int32)) + (1 : Int32))), (.ref w_5)])) rfl rfl (hb hby d2_19) _ ?_
    show Steps p.tables e below (T287.setTop (mkF m 20 #[.val (.ref w_3), .val (.ref w_4), .val (.ref w_5), .val (.int (4 : Int32)), .val (.int (((0 : Int32) + (1 : Int32)) + (1 : Int32))), .val (.ref w_2)] [(.ref w_3)])) _
    refine XS.astore X287.here hx rfl (hb hby d2_20) rfl rfl (l' := #[.val (.ref w_3), .val (.ref w_4), .val (.ref w_5), .val (.int (4 : Int32)), .val (.int (((0 : Int32) + (1 : Int32)) + (1 : Int32))), .val (.ref w_3)]) rfl ?_
    show Steps p.tables e below (T287.setTop (mkF m 22 #[.val (.ref w_3), .val (.ref w_4), .val (.ref w_5), .val (.int (4 : Int32)), .val (.int (((0 : Int32) + (1 : Int32)) + (1 : Int32))), .val (.ref w_3)] [])) _
    refine XS.aloadN X287.here hx rfl (hb hby d2_22) rfl rfl ?_
    show Steps p.tables e below (T287.setTop (mkF m 23 #[.val (.ref w_3), .val (.ref w_4), .val (.ref w_5), .val (.int (4 : Int32)), .val (.int (((0 : Int32) + (1 : Int32)) + (1 : Int32))), .val (.ref w_3)] [(.ref w_4)])) _
    refine XS.aload X287.here hx rfl (hb hby d2_23) rfl rfl ?_
    show Steps p.tables e below (T287.setTop (mkF m 25 #[.val (.ref w_3), .val (.ref w_4), .val (.ref w_5), .val (.int (4 : Int32)), .val (.int (((0 : Int32) + (1 : Int32)) + (1 : Int32))), .val (.ref w_3)] [(.ref w_3), (.ref w_4)])) _
    refine st289.trans ?_
    show Steps p.tables e below (T289.setTop (mkF m 28 #[.val (.ref w_3), .val (.ref w_4), .val (.ref w_5), .val (.int (4 : Int32)), .val (.int (((0 : Int32) + (1 : Int32)) + (1 : Int32))), .val (.ref w_3)] [(.int (1 : Int32))])) _
    refine XS.ifNo X289.here hx rfl (hb hby d2_28) rfl ((if0 _ _).trans (feq (by decide : ¬ ((1 : Int32) = (0 : Int32)))).1) ?_
    show Steps p.tables e below (T289.setTop (mkF m 31 #[.val (.ref w_3), .val (.ref w_4), .val (.ref w_5), .val (.int (4 : Int32)), .val (.int (((0 : Int32) + (1 : Int32)) + (1 : Int32))), .val (.ref w_3)] [])) _
    refine XS.aloadN X289.here hx rfl (hb hby d2_31) rfl rfl ?_
    show Steps p.tables e below (T289.setTop (mkF m 32 #[.val (.ref w_3), .val (.ref w_4), .val (.ref w_5), .val (.int (4 : Int32)), .val (.int (((0 : Int32) + (1 : Int32)) + (1 : Int32))), .val (.ref w_3)] [(.ref w_3)])) _
    refine XS.aload X289.here hx rfl (hb hby d2_32) rfl rfl ?_
    show Steps p.tables e below (T289.setTop (mkF m 34 #[.val (.ref w_3), .val (.ref w_4), .val (.ref w_5), .val (.int (4 : Int32)), .val (.int (((0 : Int32) + (1 : Int32)) + (1 : Int32))), .val (.ref w_3)] [(.ref w_3), (.ref w_3)])) _
    refine st290.trans ?_
    show Steps p.tables e below (T290.setTop (mkF m 37 #[.val (.ref w_3), .val (.ref w_4), .val (.ref w_5), .val (.int (4 : Int32)), .val (.int (((0 : Int32) + (1 : Int32)) + (1 : Int32))), .val (.ref w_3)] [(.int (1 : Int32))])) _
    refine XS.ifYes X290.here hx rfl (pc0 := 37) (pc' := 42) rfl (hb hby d2_37) rfl ((if0 _ _).trans (feq (by decide : ¬ ((1 : Int32) = (0 : Int32)))).2) (by decide) (by decide) ?_
    show Steps p.tables e below (T290.setTop (mkF m 42 #[.val (.ref w_3), .val (.ref w_4), .val (.ref w_5), .val (.int (4 : Int32)), .val (.int (((0 : Int32) + (1 : Int32)) + (1 : Int32))), .val (.ref w_3)] [])) _
    refine XS.iinc X290.here hx rfl (hb hby d2_42) rfl (l' := #[.val (.ref w_3), .val (.ref w_4), .val (.ref w_5), .val (.int (4 : Int32)), .val (.int ((((0 : Int32) + (1 : Int32)) + (1 : Int32)) + (1 : Int32))), .val (.ref w_3)]) rfl ?_
    show Steps p.tables e below (T290.setTop (mkF m 45 #[.val (.ref w_3), .val (.ref w_4), .val (.ref w_5), .val (.int (4 : Int32)), .val (.int ((((0 : Int32) + (1 : Int32)) + (1 : Int32)) + (1 : Int32))), .val (.ref w_3)] [])) _
    refine XS.goto X290.here hx rfl (pc0 := 45) (pc' := 10) rfl (hb hby d2_45) (by decide) (by decide) ?_
    show Steps p.tables e below (T290.setTop (mkF m 10 #[.val (.ref w_3), .val (.ref w_4), .val (.ref w_5), .val (.int (4 : Int32)), .val (.int ((((0 : Int32) + (1 : Int32)) + (1 : Int32)) + (1 : Int32))), .val (.ref w_3)] [])) _
    refine XS.iload X290.here hx rfl (hb hby d2_10) rfl ?_
    show Steps p.tables e below (T290.setTop (mkF m 12 #[.val (.ref w_3), .val (.ref w_4), .val (.ref w_5), .val (.int (4 : Int32)), .val (.int ((((0 : Int32) + (1 : Int32)) + (1 : Int32)) + (1 : Int32))), .val (.ref w_3)] [(.int ((((0 : Int32) + (1 : Int32)) + (1 : Int32)) + (1 : Int32)))])) _
    refine XS.iloadN X290.here hx rfl (hb hby d2_12) rfl ?_
    show Steps p.tables e below (T290.setTop (mkF m 13 #[.val (.ref w_3), .val (.ref w_4), .val (.ref w_5), .val (.int (4 : Int32)), .val (.int ((((0 : Int32) + (1 : Int32)) + (1 : Int32)) + (1 : Int32))), .val (.ref w_3)] [(.int (4 : Int32)), (.int ((((0 : Int32) + (1 : Int32)) + (1 : Int32)) + (1 : Int32)))])) _
    refine XS.icmpNo X290.here hx rfl (hb hby d2_13) rfl (tlt (by decide : (((((0 : Int32) + (1 : Int32)) + (1 : Int32)) + (1 : Int32)) < (4 : Int32)))).2.1 ?_
    show Steps p.tables e below (T290.setTop (mkF m 16 #[.val (.ref w_3), .val (.ref w_4), .val (.ref w_5), .val (.int (4 : Int32)), .val (.int ((((0 : Int32) + (1 : Int32)) + (1 : Int32)) + (1 : Int32))), .val (.ref w_3)] [])) _
    refine XS.aloadN X290.here hx rfl (hb hby d2_16) rfl rfl ?_
    show Steps p.tables e below (T290.setTop (mkF m 17 #[.val (.ref w_3), .val (.ref w_4), .val (.ref w_5), .val (.int (4 : Int32)), .val (.int ((((0 : Int32) + (1 : Int32)) + (1 : Int32)) + (1 : Int32))), .val (.ref w_3)] [(.ref w_5)])) _
    refine XS.iload X290.here hx rfl (hb hby d2_17) rfl ?_
    show Steps p.tables e below (T290.setTop (mkF m 19 #[.val (.ref w_3), .val (.ref w_4), .val (.ref w_5), .val (.int (4 : Int32)), .val (.int ((((0 : Int32) + (1 : Int32)) + (1 : Int32)) + (1 : Int32))), .val (.ref w_3)] [(.int ((((0 : Int32) + (1 : Int32)) + (1 : Int32)) + (1 : Int32))), (.ref w_5)])) _
    refine X290.aaload hx (j := ((((0 : Int32) + (1 : Int32)) + (1 : Int32)) + (1 : Int32))) (v := (.ref w_4)) (by rw [e290]; exact Ar291.1) (State.isArrayOf_alike hZ.alike Ar291.2.1) rfl Ar291.2.2 hin291 hat291 (g := (mkF m 19 #[.val (.ref w_3), .val (.ref w_4), .val (.ref w_5), .val (.int (4 : Int32)), .val (.int ((((0 : Int32) + (1 : Int32)) + (1 : Int32)) + (1 : Int32))), .val (.ref w_3)] [(.int ((((0 : Int32) + (1 : Int32)) + (1 : Int32)) + (1 : Int32))), (.ref w_5)])) rfl rfl (hb hby d2_19) _ ?_
    show Steps p.tables e below (T290.setTop (mkF m 20 #[.val (.ref w_3), .val (.ref w_4), .val (.ref w_5), .val (.int (4 : Int32)), .val (.int ((((0 : Int32) + (1 : Int32)) + (1 : Int32)) + (1 : Int32))), .val (.ref w_3)] [(.ref w_4)])) _
    refine XS.astore X290.here hx rfl (hb hby d2_20) rfl rfl (l' := #[.val (.ref w_3), .val (.ref w_4), .val (.ref w_5), .val (.int (4 : Int32)), .val (.int ((((0 : Int32) + (1 : Int32)) + (1 : Int32)) + (1 : Int32))), .val (.ref w_4)]) rfl ?_
    show Steps p.tables e below (T290.setTop (mkF m 22 #[.val (.ref w_3), .val (.ref w_4), .val (.ref w_5), .val (.int (4 : Int32)), .val (.int ((((0 : Int32) + (1 : Int32)) + (1 : Int32)) + (1 : Int32))), .val (.ref w_4)] [])) _
    refine XS.aloadN X290.here hx rfl (hb hby d2_22) rfl rfl ?_
    show Steps p.tables e below (T290.setTop (mkF m 23 #[.val (.ref w_3), .val (.ref w_4), .val (.ref w_5), .val (.int (4 : Int32)), .val (.int ((((0 : Int32) + (1 : Int32)) + (1 : Int32)) + (1 : Int32))), .val (.ref w_4)] [(.ref w_4)])) _
    refine XS.aload X290.here hx rfl (hb hby d2_23) rfl rfl ?_
    show Steps p.tables e below (T290.setTop (mkF m 25 #[.val (.ref w_3), .val (.ref w_4), .val (.ref w_5), .val (.int (4 : Int32)), .val (.int ((((0 : Int32) + (1 : Int32)) + (1 : Int32)) + (1 : Int32))), .val (.ref w_4)] [(.ref w_4), (.ref w_4)])) _
    refine st292.trans ?_
    show Steps p.tables e below (T292.setTop (mkF m 28 #[.val (.ref w_3), .val (.ref w_4), .val (.ref w_5), .val (.int (4 : Int32)), .val (.int ((((0 : Int32) + (1 : Int32)) + (1 : Int32)) + (1 : Int32))), .val (.ref w_4)] [(.int (1 : Int32))])) _
    refine XS.ifNo X292.here hx rfl (hb hby d2_28) rfl ((if0 _ _).trans (feq (by decide : ¬ ((1 : Int32) = (0 : Int32)))).1) ?_
    show Steps p.tables e below (T292.setTop (mkF m 31 #[.val (.ref w_3), .val (.ref w_4), .val (.ref w_5), .val (.int (4 : Int32)), .val (.int ((((0 : Int32) + (1 : Int32)) + (1 : Int32)) + (1 : Int32))), .val (.ref w_4)] [])) _
    refine XS.aloadN X292.here hx rfl (hb hby d2_31) rfl rfl ?_
    show Steps p.tables e below (T292.setTop (mkF m 32 #[.val (.ref w_3), .val (.ref w_4), .val (.ref w_5), .val (.int (4 : Int32)), .val (.int ((((0 : Int32) + (1 : Int32)) + (1 : Int32)) + (1 : Int32))), .val (.ref w_4)] [(.ref w_3)])) _
    refine XS.aload X292.here hx rfl (hb hby d2_32) rfl rfl ?_
    show Steps p.tables e below (T292.setTop (mkF m 34 #[.val (.ref w_3), .val (.ref w_4), .val (.ref w_5), .val (.int (4 : Int32)), .val (.int ((((0 : Int32) + (1 : Int32)) + (1 : Int32)) + (1 : Int32))), .val (.ref w_4)] [(.ref w_4), (.ref w_3)])) _
    refine st293.trans ?_
    show Steps p.tables e below (T293.setTop (mkF m 37 #[.val (.ref w_3), .val (.ref w_4), .val (.ref w_5), .val (.int (4 : Int32)), .val (.int ((((0 : Int32) + (1 : Int32)) + (1 : Int32)) + (1 : Int32))), .val (.ref w_4)] [(.int (1 : Int32))])) _
    refine XS.ifYes X293.here hx rfl (pc0 := 37) (pc' := 42) rfl (hb hby d2_37) rfl ((if0 _ _).trans (feq (by decide : ¬ ((1 : Int32) = (0 : Int32)))).2) (by decide) (by decide) ?_
    show Steps p.tables e below (T293.setTop (mkF m 42 #[.val (.ref w_3), .val (.ref w_4), .val (.ref w_5), .val (.int (4 : Int32)), .val (.int ((((0 : Int32) + (1 : Int32)) + (1 : Int32)) + (1 : Int32))), .val (.ref w_4)] [])) _
    refine XS.iinc X293.here hx rfl (hb hby d2_42) rfl (l' := #[.val (.ref w_3), .val (.ref w_4), .val (.ref w_5), .val (.int (4 : Int32)), .val (.int (((((0 : Int32) + (1 : Int32)) + (1 : Int32)) + (1 : Int32)) + (1 : Int32))), .val (.ref w_4)]) rfl ?_
    show Steps p.tables e below (T293.setTop (mkF m 45 #[.val (.ref w_3), .val (.ref w_4), .val (.ref w_5), .val (.int (4 : Int32)), .val (.int (((((0 : Int32) + (1 : Int32)) + (1 : Int32)) + (1 : Int32)) + (1 : Int32))), .val (.ref w_4)] [])) _
    refine XS.goto X293.here hx rfl (pc0 := 45) (pc' := 10) rfl (hb hby d2_45) (by decide) (by decide) ?_
    show Steps p.tables e below (T293.setTop (mkF m 10 #[.val (.ref w_3), .val (.ref w_4), .val (.ref w_5), .val (.int (4 : Int32)), .val (.int (((((0 : Int32) + (1 : Int32)) + (1 : Int32)) + (1 : Int32)) + (1 : Int32))), .val (.ref w_4)] [])) _
    refine XS.iload X293.here hx rfl (hb hby d2_10) rfl ?_
    show Steps p.tables e below (T293.setTop (mkF m 12 #[.val (.ref w_3), .val (.ref w_4), .val (.ref w_5), .val (.int (4 : Int32)), .val (.int (((((0 : Int32) + (1 : Int32)) + (1 : Int32)) + (1 : Int32)) + (1 : Int32))), .val (.ref w_4)] [(.int (((((0 : Int32) + (1 : Int32)) + (1 : Int32)) + (1 : Int32)) + (1 : Int32)))])) _
    refine XS.iloadN X293.here hx rfl (hb hby d2_12) rfl ?_
    show Steps p.tables e below (T293.setTop (mkF m 13 #[.val (.ref w_3), .val (.ref w_4), .val (.ref w_5), .val (.int (4 : Int32)), .val (.int (((((0 : Int32) + (1 : Int32)) + (1 : Int32)) + (1 : Int32)) + (1 : Int32))), .val (.ref w_4)] [(.int (4 : Int32)), (.int (((((0 : Int32) + (1 : Int32)) + (1 : Int32)) + (1 : Int32)) + (1 : Int32)))])) _
    refine XS.icmpYes X293.here hx rfl (pc0 := 13) (pc' := 48) rfl (hb hby d2_13) rfl (flt (by decide : ¬ ((((((0 : Int32) + (1 : Int32)) + (1 : Int32)) + (1 : Int32)) + (1 : Int32)) < (4 : Int32)))).2.1 (by decide) (by decide) ?_
    show Steps p.tables e below (T293.setTop (mkF m 48 #[.val (.ref w_3), .val (.ref w_4), .val (.ref w_5), .val (.int (4 : Int32)), .val (.int (((((0 : Int32) + (1 : Int32)) + (1 : Int32)) + (1 : Int32)) + (1 : Int32))), .val (.ref w_4)] [])) _
    refine XS.iconst X293.here hx rfl (hb hby d2_48) ?_
    show Steps p.tables e below (T293.setTop (mkF m 49 #[.val (.ref w_3), .val (.ref w_4), .val (.ref w_5), .val (.int (4 : Int32)), .val (.int (((((0 : Int32) + (1 : Int32)) + (1 : Int32)) + (1 : Int32)) + (1 : Int32))), .val (.ref w_4)] [(.int (1 : Int32))])) _
    exact retN X293 hx (t := .boolean) Bd.returns (by simp) (hb hby d2_49) hr
  · show Q2x15 Z w_1 w_2 w_3 w_4 w_5 k_5 h0 n0 _ T293.heap _
    rw [e293]
    exact ⟨by unfold sp2x15; rfl, N293, rfl⟩
theorem pn_1x15 : plainName "com/example/lucid_locks/lucidlocks/locks/LockMode" = true := by first | (simp [plainName, overriddenIn]; done) | decide +kernel
theorem ef_1x15 (m : MethodId) (w_4 : Addr) (w_3 : Addr) : entryFrame m #[(.ref w_4), (.ref w_3)] 2 = mkF m 0 #[.val (.ref w_4), .val (.ref w_3)] [] := by first | (simp [entryFrame, mkF, argsToLocals, Value.category]; done) | rfl
def sp1x15 (w_3 : Addr) : Value := (.ref w_3)
def Q1x15 (Z : State) (w_1 : Addr) (w_2 : Addr) (w_3 : Addr) (w_4 : Addr) (w_5 : Addr) (k_5 : ClassId) (h0 : Heap) (n0 : Nat) (v : Option Value) (h : Heap) (L : List Loc) : Prop := v = some (sp1x15 w_3) ∧ Fr n0 L ∧ h = h0
set_option maxRecDepth 65536 in
set_option maxHeartbeats 40000000 in
theorem rm1x15 (l : Launch) (Z : State) (a0 : Array Value) (hw : ∀ d ∈ tables_1, d.before a0 Z = true) (ws : List Jvm.Cond) (w_1 : Addr) (w_2 : Addr) (w_3 : Addr) (w_4 : Addr) (w_5 : Addr) (k_5 : ClassId) (hS : StF Z w_1 w_2 w_3 w_4 w_5 k_5) (h0 : Heap) (n0 : Nat) (O0 : Old Z n0 h0) :
    MetFree l Y2 (head1 (Jvm.Cond.code Y2 prog_17_method_6_code 2 (some (.object "com/example/lucid_locks/lucidlocks/locks/LockMode")) :: ws) ({ frames := 2, cells := 0, slots := 0, locals := 30 } : Room)) (fun a U => a = #[(.ref w_4), (.ref w_3)] ∧ Z.Warmed39 U.vm ∧ U.heap = h0) (fun _ _ _ _ _ => True) (fun _ U o U' => ∃ v L, o = .returned v ∧ Q1x15 Z w_1 w_2 w_3 w_4 w_5 k_5 h0 n0 v U'.heap L ∧ FrameEnd U o U' L ({ frames := 2, cells := 0, slots := 0, locals := 30 } : Room).cells ({ frames := 2, cells := 0, slots := 0, locals := 30 } : Room).slots) := by
  refine MetFree.of_bodySF (plainFor_of_name pn_1x15) hisR ?_
  intro p e s m args below meth c s₁ Bd hml0 hP hK
  obtain ⟨rfl, hZ, hh⟩ := hP
  have hx := Bd.exec
  have hby := Bd.bytes
  have hml : c.maxLocals = 2 := hml0
  have hown : s.vm.findClass "com/example/lucid_locks/lucidlocks/locks/LockMode" = some m.cls := findClass_of_methodNamed Bd.named
  have hnm := (name_of_methodNamed Bd.named Bd.method).1
  have X0 : Stand p l e ({ frames := 2, cells := 0, slots := 0, locals := 30 } : Room) s m #[(.ref w_4), (.ref w_3)] below meth c s₁ [] 0 0 := Stand.of_body Bd
  have e0 : s₁.heap = h0 := by rw [← hh, Bd.state]; rfl
  have N0 := Fr.nil n0
  have hS0 := hS
  obtain ⟨S_1, E_1, S_2, E_2, S_3, E_3, S_4, E_4, S_5, F_1_sharedWithItself, F_1_ordinal, F_2_ordinal, F_4_ordinal, F_3_ordinal, F_4_sharedWithItself, F_2_sharedWithItself, F_3_sharedWithItself, V_5⟩ := hS
  have pre0 : ∀ t, Steps p.tables e below (s₁.setTop (mkF m 0 #[.val (.ref w_4), .val (.ref w_3)] [])) t → Steps p.tables e below (s₁.setTop (entryFrame m #[(.ref w_4), (.ref w_3)] 2)) t := fun t k => castTop (ef_1x15 m w_4 w_3) k
  obtain ⟨cq294, kq294, q294a, q294b, q294c⟩ := isOf hZ e0 (E_3.ext O0.2)
  obtain ⟨_, _, ⟨T294, L294, k294, n294⟩, -, X294, ⟨Lc294, hQ294, l294, y294, z294⟩, st294⟩ := X0.virtualBack hx (y := Y1) (z := Y1) hown (mvT hZ (hw _ (tk 17 rfl))) (mvT hZ (hw _ (tk 18 rfl))) (notFace_of_selects (args := #[]) (mvT hZ (hw _ (tk 20 rfl)))) (mvT hZ (hw _ (tk 20 rfl))) (mvT hZ (hw _ (tk 19 rfl))) (by decide) (backOf (W := 0) (rm2x15 l Z a0 hw [] w_1 w_2 w_3 w_4 w_5 k_5 hS0 h0 n0 O0) hZ (hw _ (tk 21 rfl)) (hw _ (tk 3 rfl)) (by decide) (by decide)) q294a q294c (g := (mkF m 2 #[.val (.ref w_4), .val (.ref w_3)] [(.ref w_4), (.ref w_3)])) rfl (by rw [hml]; rfl) (Steps.refl _) (argsL := [(.ref w_4)]) (rest := []) (lenOf pd_0 rfl) rfl (by show 2 * 0 + _ ≤ _; exact Nat.le_of_eq rfl) (hb hby d1_2) (fun _ _ => ⟨rfl, e0, (by decide : 0 + 0 ≤ _), (by decide : 0 + 0 ≤ _)⟩)
  dsimp only [Pt.U, Pt.locs, Pt.cells, Pt.slots] at X294 l294 y294 z294 st294 hQ294
  subst l294 y294 z294
  obtain ⟨rv294, N294q, e294⟩ := hQ294
  rw [show sp2x15 = (1 : Int32) from by unfold sp2x15; rfl] at rv294
  subst rv294
  have N294 := Fr.app N0 N294q
  obtain ⟨fs, hr, hrun, hended, hW, hsame⟩ := X294.leave (v := some (.ref w_3)) (fun h => by rw [Bd.returns] at h; cases h)
  refine ⟨_, _, pre0 _ ?_, hrun, hended, _, _, rfl, ?_, ⟨_, rfl⟩, hW, hsame.mono (by decide) (by decide)⟩
  · show Steps p.tables e below (s₁.setTop (mkF m 0 #[.val (.ref w_4), .val (.ref w_3)] [])) _
    refine XS.aloadN X0.here hx rfl (hb hby d1_0) rfl rfl ?_
    show Steps p.tables e below (s₁.setTop (mkF m 1 #[.val (.ref w_4), .val (.ref w_3)] [(.ref w_3)])) _
    refine XS.aloadN X0.here hx rfl (hb hby d1_1) rfl rfl ?_
    show Steps p.tables e below (s₁.setTop (mkF m 2 #[.val (.ref w_4), .val (.ref w_3)] [(.ref w_4), (.ref w_3)])) _
    refine st294.trans ?_
    show Steps p.tables e below (T294.setTop (mkF m 5 #[.val (.ref w_4), .val (.ref w_3)] [(.int (1 : Int32))])) _
    refine XS.ifNo X294.here hx rfl (hb hby d1_5) rfl ((if0 _ _).trans (feq (by decide : ¬ ((1 : Int32) = (0 : Int32)))).1) ?_
    show Steps p.tables e below (T294.setTop (mkF m 8 #[.val (.ref w_4), .val (.ref w_3)] [])) _
    refine XS.aloadN X294.here hx rfl (hb hby d1_8) rfl rfl ?_
    show Steps p.tables e below (T294.setTop (mkF m 9 #[.val (.ref w_4), .val (.ref w_3)] [(.ref w_3)])) _
    refine XS.goto X294.here hx rfl (pc0 := 9) (pc' := 15) rfl (hb hby d1_9) (by decide) (by decide) ?_
    show Steps p.tables e below (T294.setTop (mkF m 15 #[.val (.ref w_4), .val (.ref w_3)] [(.ref w_3)])) _
    jvm_step X294.here [X294.here.top, hx, (hb hby d1_15), X294.method', Bd.returns, Value.isRef, FieldType.isReference]
    first | (intro acts; rw [hr _ acts rfl rfl rfl]) | rw [hr _ _ rfl rfl rfl]
    exact Steps.refl _
  · show Q1x15 Z w_1 w_2 w_3 w_4 w_5 k_5 h0 n0 _ T294.heap _
    rw [e294]
    exact ⟨by unfold sp1x15; rfl, N294, rfl⟩
theorem pn_2x16 : plainName "com/example/lucid_locks/lucidlocks/locks/LockMode" = true := by first | (simp [plainName, overriddenIn]; done) | decide +kernel
theorem ef_2x16 (m : MethodId) (w_4 : Addr) : entryFrame m #[(.ref w_4), (.ref w_4)] 6 = mkF m 0 #[.val (.ref w_4), .val (.ref w_4), .unset, .unset, .unset, .unset] [] := by first | (simp [entryFrame, mkF, argsToLocals, Value.category]; done) | rfl
def sp2x16  : Int32 := (1 : Int32)
def Q2x16 (Z : State) (w_1 : Addr) (w_2 : Addr) (w_3 : Addr) (w_4 : Addr) (w_5 : Addr) (k_5 : ClassId) (h0 : Heap) (n0 : Nat) (v : Option Value) (h : Heap) (L : List Loc) : Prop := v = some (.int (sp2x16)) ∧ Fr n0 L ∧ h = h0
set_option maxRecDepth 65536 in
set_option maxHeartbeats 40000000 in
theorem rm2x16 (l : Launch) (Z : State) (a0 : Array Value) (hw : ∀ d ∈ tables_1, d.before a0 Z = true) (ws : List Jvm.Cond) (w_1 : Addr) (w_2 : Addr) (w_3 : Addr) (w_4 : Addr) (w_5 : Addr) (k_5 : ClassId) (hS : StF Z w_1 w_2 w_3 w_4 w_5 k_5) (h0 : Heap) (n0 : Nat) (O0 : Old Z n0 h0) :
    MetFree l Y1 (head1 (Jvm.Cond.code Y1 prog_17_method_7_code 6 (some .boolean) :: ws) ({ frames := 1, cells := 0, slots := 0, locals := 13 } : Room)) (fun a U => a = #[(.ref w_4), (.ref w_4)] ∧ Z.Warmed39 U.vm ∧ U.heap = h0) (fun _ _ _ _ _ => True) (fun _ U o U' => ∃ v L, o = .returned v ∧ Q2x16 Z w_1 w_2 w_3 w_4 w_5 k_5 h0 n0 v U'.heap L ∧ FrameEnd U o U' L ({ frames := 1, cells := 0, slots := 0, locals := 13 } : Room).cells ({ frames := 1, cells := 0, slots := 0, locals := 13 } : Room).slots) := by
  refine MetFree.of_bodySF (plainFor_of_name pn_2x16) hisR ?_
  intro p e s m args below meth c s₁ Bd hml0 hP hK
  obtain ⟨rfl, hZ, hh⟩ := hP
  have hx := Bd.exec
  have hby := Bd.bytes
  have hml : c.maxLocals = 6 := hml0
  have hown : s.vm.findClass "com/example/lucid_locks/lucidlocks/locks/LockMode" = some m.cls := findClass_of_methodNamed Bd.named
  have hnm := (name_of_methodNamed Bd.named Bd.method).1
  have X0 : Stand p l e ({ frames := 1, cells := 0, slots := 0, locals := 13 } : Room) s m #[(.ref w_4), (.ref w_4)] below meth c s₁ [] 0 0 := Stand.of_body Bd
  have e0 : s₁.heap = h0 := by rw [← hh, Bd.state]; rfl
  have N0 := Fr.nil n0
  have hS0 := hS
  obtain ⟨S_1, E_1, S_2, E_2, S_3, E_3, S_4, E_4, S_5, F_1_sharedWithItself, F_1_ordinal, F_2_ordinal, F_4_ordinal, F_3_ordinal, F_4_sharedWithItself, F_2_sharedWithItself, F_3_sharedWithItself, V_5⟩ := hS
  have pre0 : ∀ t, Steps p.tables e below (s₁.setTop (mkF m 0 #[.val (.ref w_4), .val (.ref w_4), .unset, .unset, .unset, .unset] [])) t → Steps p.tables e below (s₁.setTop (entryFrame m #[(.ref w_4), (.ref w_4)] 6)) t := fun t k => castTop (ef_2x16 m w_4) k
  obtain ⟨T298, X298, e298, st298⟩ := getS2 X0 hx hZ hown (host := "") (Or.inl (hw _ (tk 22 rfl))) Via.refl e0 (S_5.ext O0.2) (g := (mkF m 0 #[.val (.ref w_4), .val (.ref w_4), .unset, .unset, .unset, .unset] [])) rfl (hb hby d2_0)
  obtain ⟨cl299, Ar299, qa299, Sa299, Ma299, Ha299, Ga299⟩ := id (V_5.ext O0.2)
  obtain ⟨cl300, Ar300, qa300, Sa300, Ma300, Ha300, Ga300⟩ := id (V_5.ext O0.2)
  have hin300 : ¬ ((0 : Int32) < 0 ∨ cl300.slots.size ≤ ((0 : Int32)).toNatClampNeg) := by  exact inb_of Sa300 ⟨by decide, by decide⟩
  have hat300 : cl300.slots[((0 : Int32)).toNatClampNeg]? = some (.ref w_1) := Has.at Ha300 hin300 (by rfl)
  obtain ⟨cq301, kq301, q301a, q301b, q301c⟩ := isOf hZ e298 (E_4.ext O0.2)
  obtain ⟨_, _, ⟨T301, L301, k301, n301⟩, -, X301, ⟨Lc301, hQ301, l301, y301, z301⟩, st301⟩ := X298.virtualBack hx (y := Y0) (z := Y0) hown (mvT hZ (hw _ (tk 24 rfl))) (mvT hZ (hw _ (tk 25 rfl))) (notFace_of_selects (args := #[]) (mvT hZ (hw _ (tk 27 rfl)))) (mvT hZ (hw _ (tk 27 rfl))) (mvT hZ (hw _ (tk 26 rfl))) (by decide) (backOf (W := 0) (rm3 l Z a0 hw [] w_1 w_2 w_3 w_4 w_5 k_5 hS0 w_4 w_1 (0 : Int32) h0 n0 O0 (F_4_sharedWithItself.ext O0.2)) hZ (hw _ (tk 28 rfl)) (hw _ (tk 3 rfl)) (by decide) (by decide)) q301a q301c (g := (mkF m 25 #[.val (.ref w_4), .val (.ref w_4), .val (.ref w_5), .val (.int (4 : Int32)), .val (.int (0 : Int32)), .val (.ref w_1)] [(.ref w_1), (.ref w_4)])) rfl (by rw [hml]; rfl) (Steps.refl _) (argsL := [(.ref w_1)]) (rest := []) (lenOf pd_0 rfl) rfl (by show 2 * 0 + _ ≤ _; exact Nat.le_of_eq rfl) (hb hby d2_25) (fun _ _ => ⟨rfl, e298, (by decide : 0 + 0 ≤ _), (by decide : 0 + 0 ≤ _)⟩)
  dsimp only [Pt.U, Pt.locs, Pt.cells, Pt.slots] at X301 l301 y301 z301 st301 hQ301
  subst l301 y301 z301
  obtain ⟨rv301, N301q, e301⟩ := hQ301
  rw [show sp3 w_4 w_1 (0 : Int32) = (1 : Int32) from by unfold sp3; rw [if_neg (Fld.ne F_4_ordinal F_1_ordinal (by decide))]] at rv301
  subst rv301
  have N301 := Fr.app N0 N301q
  obtain ⟨cq302, kq302, q302a, q302b, q302c⟩ := isOf hZ e301 (E_4.ext O0.2)
  obtain ⟨_, _, ⟨T302, L302, k302, n302⟩, -, X302, ⟨Lc302, hQ302, l302, y302, z302⟩, st302⟩ := X301.virtualBack hx (y := Y0) (z := Y0) hown (mvT hZ (hw _ (tk 24 rfl))) (mvT hZ (hw _ (tk 25 rfl))) (notFace_of_selects (args := #[]) (mvT hZ (hw _ (tk 27 rfl)))) (mvT hZ (hw _ (tk 27 rfl))) (mvT hZ (hw _ (tk 26 rfl))) (by decide) (backOf (W := 0) (rm3 l Z a0 hw [] w_1 w_2 w_3 w_4 w_5 k_5 hS0 w_4 w_1 (0 : Int32) h0 n0 O0 (F_4_sharedWithItself.ext O0.2)) hZ (hw _ (tk 28 rfl)) (hw _ (tk 3 rfl)) (by decide) (by decide)) q302a q302c (g := (mkF m 34 #[.val (.ref w_4), .val (.ref w_4), .val (.ref w_5), .val (.int (4 : Int32)), .val (.int (0 : Int32)), .val (.ref w_1)] [(.ref w_1), (.ref w_4)])) rfl (by rw [hml]; rfl) (Steps.refl _) (argsL := [(.ref w_1)]) (rest := []) (lenOf pd_0 rfl) rfl (by show 2 * 0 + _ ≤ _; exact Nat.le_of_eq rfl) (hb hby d2_34) (fun _ _ => ⟨rfl, e301, (by decide : 0 + 0 ≤ _), (by decide : 0 + 0 ≤ _)⟩)
  dsimp only [Pt.U, Pt.locs, Pt.cells, Pt.slots] at X302 l302 y302 z302 st302 hQ302
  subst l302 y302 z302
  obtain ⟨rv302, N302q, e302⟩ := hQ302
  rw [show sp3 w_4 w_1 (0 : Int32) = (1 : Int32) from by unfold sp3; rw [if_neg (Fld.ne F_4_ordinal F_1_ordinal (by decide))]] at rv302
  subst rv302
  have N302 := Fr.app N301 N302q
  obtain ⟨cl303, Ar303, qa303, Sa303, Ma303, Ha303, Ga303⟩ := id (V_5.ext O0.2)
  have hin303 : ¬ (((0 : Int32) + (1 : Int32)) < 0 ∨ cl303.slots.size ≤ (((0 : Int32) + (1 : Int32))).toNatClampNeg) := by  exact inb_of Sa303 ⟨by decide, by decide⟩
  have hat303 : cl303.slots[(((0 : Int32) + (1 : Int32))).toNatClampNeg]? = some (.ref w_2) := Has.at Ha303 hin303 (by rfl)
  obtain ⟨cq304, kq304, q304a, q304b, q304c⟩ := isOf hZ e302 (E_4.ext O0.2)
  obtain ⟨_, _, ⟨T304, L304, k304, n304⟩, -, X304, ⟨Lc304, hQ304, l304, y304, z304⟩, st304⟩ := X302.virtualBack hx (y := Y0) (z := Y0) hown (mvT hZ (hw _ (tk 24 rfl))) (mvT hZ (hw _ (tk 25 rfl))) (notFace_of_selects (args := #[]) (mvT hZ (hw _ (tk 27 rfl)))) (mvT hZ (hw _ (tk 27 rfl))) (mvT hZ (hw _ (tk 26 rfl))) (by decide) (backOf (W := 0) (rm3 l Z a0 hw [] w_1 w_2 w_3 w_4 w_5 k_5 hS0 w_4 w_2 (0 : Int32) h0 n0 O0 (F_4_sharedWithItself.ext O0.2)) hZ (hw _ (tk 28 rfl)) (hw _ (tk 3 rfl)) (by decide) (by decide)) q304a q304c (g := (mkF m 25 #[.val (.ref w_4), .val (.ref w_4), .val (.ref w_5), .val (.int (4 : Int32)), .val (.int ((0 : Int32) + (1 : Int32))), .val (.ref w_2)] [(.ref w_2), (.ref w_4)])) rfl (by rw [hml]; rfl) (Steps.refl _) (argsL := [(.ref w_2)]) (rest := []) (lenOf pd_0 rfl) rfl (by show 2 * 0 + _ ≤ _; exact Nat.le_of_eq rfl) (hb hby d2_25) (fun _ _ => ⟨rfl, e302, (by decide : 0 + 0 ≤ _), (by decide : 0 + 0 ≤ _)⟩)
  dsimp only [Pt.U, Pt.locs, Pt.cells, Pt.slots] at X304 l304 y304 z304 st304 hQ304
  subst l304 y304 z304
  obtain ⟨rv304, N304q, e304⟩ := hQ304
  rw [show sp3 w_4 w_2 (0 : Int32) = (1 : Int32) from by unfold sp3; rw [if_neg (Fld.ne F_4_ordinal F_2_ordinal (by decide))]] at rv304
  subst rv304
  have N304 := Fr.app N302 N304q
  obtain ⟨cq305, kq305, q305a, q305b, q305c⟩ := isOf hZ e304 (E_4.ext O0.2)
  obtain ⟨_, _, ⟨T305, L305, k305, n305⟩, -, X305, ⟨Lc305, hQ305, l305, y305, z305⟩, st305⟩ := X304.virtualBack hx (y := Y0) (z := Y0) hown (mvT hZ (hw _ (tk 24 rfl))) (mvT hZ (hw _ (tk 25 rfl))) (notFace_of_selects (args := #[]) (mvT hZ (hw _ (tk 27 rfl)))) (mvT hZ (hw _ (tk 27 rfl))) (mvT hZ (hw _ (tk 26 rfl))) (by decide) (backOf (W := 0) (rm3 l Z a0 hw [] w_1 w_2 w_3 w_4 w_5 k_5 hS0 w_4 w_2 (0 : Int32) h0 n0 O0 (F_4_sharedWithItself.ext O0.2)) hZ (hw _ (tk 28 rfl)) (hw _ (tk 3 rfl)) (by decide) (by decide)) q305a q305c (g := (mkF m 34 #[.val (.ref w_4), .val (.ref w_4), .val (.ref w_5), .val (.int (4 : Int32)), .val (.int ((0 : Int32) + (1 : Int32))), .val (.ref w_2)] [(.ref w_2), (.ref w_4)])) rfl (by rw [hml]; rfl) (Steps.refl _) (argsL := [(.ref w_2)]) (rest := []) (lenOf pd_0 rfl) rfl (by show 2 * 0 + _ ≤ _; exact Nat.le_of_eq rfl) (hb hby d2_34) (fun _ _ => ⟨rfl, e304, (by decide : 0 + 0 ≤ _), (by decide : 0 + 0 ≤ _)⟩)
  dsimp only [Pt.U, Pt.locs, Pt.cells, Pt.slots] at X305 l305 y305 z305 st305 hQ305
  subst l305 y305 z305
  obtain ⟨rv305, N305q, e305⟩ := hQ305
  rw [show sp3 w_4 w_2 (0 : Int32) = (1 : Int32) from by unfold sp3; rw [if_neg (Fld.ne F_4_ordinal F_2_ordinal (by decide))]] at rv305
  subst rv305
  have N305 := Fr.app N304 N305q
  obtain ⟨cl306, Ar306, qa306, Sa306, Ma306, Ha306, Ga306⟩ := id (V_5.ext O0.2)
  have hin306 : ¬ ((((0 : Int32) + (1 : Int32)) + (1 : Int32)) < 0 ∨ cl306.slots.size ≤ ((((0 : Int32) + (1 : Int32)) + (1 : Int32))).toNatClampNeg) := by  exact inb_of Sa306 ⟨by decide, by decide⟩
  have hat306 : cl306.slots[((((0 : Int32) + (1 : Int32)) + (1 : Int32))).toNatClampNeg]? = some (.ref w_3) := Has.at Ha306 hin306 (by rfl)
  obtain ⟨cq307, kq307, q307a, q307b, q307c⟩ := isOf hZ e305 (E_4.ext O0.2)
  obtain ⟨_, _, ⟨T307, L307, k307, n307⟩, -, X307, ⟨Lc307, hQ307, l307, y307, z307⟩, st307⟩ := X305.virtualBack hx (y := Y0) (z := Y0) hown (mvT hZ (hw _ (tk 24 rfl))) (mvT hZ (hw _ (tk 25 rfl))) (notFace_of_selects (args := #[]) (mvT hZ (hw _ (tk 27 rfl)))) (mvT hZ (hw _ (tk 27 rfl))) (mvT hZ (hw _ (tk 26 rfl))) (by decide) (backOf (W := 0) (rm3 l Z a0 hw [] w_1 w_2 w_3 w_4 w_5 k_5 hS0 w_4 w_3 (0 : Int32) h0 n0 O0 (F_4_sharedWithItself.ext O0.2)) hZ (hw _ (tk 28 rfl)) (hw _ (tk 3 rfl)) (by decide) (by decide)) q307a q307c (g := (mkF m 25 #[.val (.ref w_4), .val (.ref w_4), .val (.ref w_5), .val (.int (4 : Int32)), .val (.int (((0 : Int32) + (1 : Int32)) + (1 : Int32))), .val (.ref w_3)] [(.ref w_3), (.ref w_4)])) rfl (by rw [hml]; rfl) (Steps.refl _) (argsL := [(.ref w_3)]) (rest := []) (lenOf pd_0 rfl) rfl (by show 2 * 0 + _ ≤ _; exact Nat.le_of_eq rfl) (hb hby d2_25) (fun _ _ => ⟨rfl, e305, (by decide : 0 + 0 ≤ _), (by decide : 0 + 0 ≤ _)⟩)
  dsimp only [Pt.U, Pt.locs, Pt.cells, Pt.slots] at X307 l307 y307 z307 st307 hQ307
  subst l307 y307 z307
  obtain ⟨rv307, N307q, e307⟩ := hQ307
  rw [show sp3 w_4 w_3 (0 : Int32) = (1 : Int32) from by unfold sp3; rw [if_neg (Fld.ne F_4_ordinal F_3_ordinal (by decide))]] at rv307
  subst rv307
  have N307 := Fr.app N305 N307q
  obtain ⟨cq308, kq308, q308a, q308b, q308c⟩ := isOf hZ e307 (E_4.ext O0.2)
  obtain ⟨_, _, ⟨T308, L308, k308, n308⟩, -, X308, ⟨Lc308, hQ308, l308, y308, z308⟩, st308⟩ := X307.virtualBack hx (y := Y0) (z := Y0) hown (mvT hZ (hw _ (tk 24 rfl))) (mvT hZ (hw _ (tk 25 rfl))) (notFace_of_selects (args := #[]) (mvT hZ (hw _ (tk 27 rfl)))) (mvT hZ (hw _ (tk 27 rfl))) (mvT hZ (hw _ (tk 26 rfl))) (by decide) (backOf (W := 0) (rm3 l Z a0 hw [] w_1 w_2 w_3 w_4 w_5 k_5 hS0 w_4 w_3 (0 : Int32) h0 n0 O0 (F_4_sharedWithItself.ext O0.2)) hZ (hw _ (tk 28 rfl)) (hw _ (tk 3 rfl)) (by decide) (by decide)) q308a q308c (g := (mkF m 34 #[.val (.ref w_4), .val (.ref w_4), .val (.ref w_5), .val (.int (4 : Int32)), .val (.int (((0 : Int32) + (1 : Int32)) + (1 : Int32))), .val (.ref w_3)] [(.ref w_3), (.ref w_4)])) rfl (by rw [hml]; rfl) (Steps.refl _) (argsL := [(.ref w_3)]) (rest := []) (lenOf pd_0 rfl) rfl (by show 2 * 0 + _ ≤ _; exact Nat.le_of_eq rfl) (hb hby d2_34) (fun _ _ => ⟨rfl, e307, (by decide : 0 + 0 ≤ _), (by decide : 0 + 0 ≤ _)⟩)
  dsimp only [Pt.U, Pt.locs, Pt.cells, Pt.slots] at X308 l308 y308 z308 st308 hQ308
  subst l308 y308 z308
  obtain ⟨rv308, N308q, e308⟩ := hQ308
  rw [show sp3 w_4 w_3 (0 : Int32) = (1 : Int32) from by unfold sp3; rw [if_neg (Fld.ne F_4_ordinal F_3_ordinal (by decide))]] at rv308
  subst rv308
  have N308 := Fr.app N307 N308q
  obtain ⟨cl309, Ar309, qa309, Sa309, Ma309, Ha309, Ga309⟩ := id (V_5.ext O0.2)
  have hin309 : ¬ (((((0 : Int32) + (1 : Int32)) + (1 : Int32)) + (1 : Int32)) < 0 ∨ cl309.slots.size ≤ (((((0 : Int32) + (1 : Int32)) + (1 : Int32)) + (1 : Int32))).toNatClampNeg) := by  exact inb_of Sa309 ⟨by decide, by decide⟩
  have hat309 : cl309.slots[(((((0 : Int32) + (1 : Int32)) + (1 : Int32)) + (1 : Int32))).toNatClampNeg]? = some (.ref w_4) := Has.at Ha309 hin309 (by rfl)
  obtain ⟨cq310, kq310, q310a, q310b, q310c⟩ := isOf hZ e308 (E_4.ext O0.2)
  obtain ⟨_, _, ⟨T310, L310, k310, n310⟩, -, X310, ⟨Lc310, hQ310, l310, y310, z310⟩, st310⟩ := X308.virtualBack hx (y := Y0) (z := Y0) hown (mvT hZ (hw _ (tk 24 rfl))) (mvT hZ (hw _ (tk 25 rfl))) (notFace_of_selects (args := #[]) (mvT hZ (hw _ (tk 27 rfl)))) (mvT hZ (hw _ (tk 27 rfl))) (mvT hZ (hw _ (tk 26 rfl))) (by decide) (backOf (W := 0) (rm3 l Z a0 hw [] w_1 w_2 w_3 w_4 w_5 k_5 hS0 w_4 w_4 (0 : Int32) h0 n0 O0 (F_4_sharedWithItself.ext O0.2)) hZ (hw _ (tk 28 rfl)) (hw _ (tk 3 rfl)) (by decide) (by decide)) q310a q310c (g := (mkF m 25 #[.val (.ref w_4), .val (.ref w_4), .val (.ref w_5), .val (.int (4 : Int32)), .val (.int ((((0 : Int32) + (1 : Int32)) + (1 : Int32)) + (1 : Int32))), .val (.ref w_4)] [(.ref w_4), (.ref w_4)])) rfl (by rw [hml]; rfl) (Steps.refl _) (argsL := [(.ref w_4)]) (rest := []) (lenOf pd_0 rfl) rfl (by show 2 * 0 + _ ≤ _; exact Nat.le_of_eq rfl) (hb hby d2_25) (fun _ _ => ⟨rfl, e308, (by decide : 0 + 0 ≤ _), (by decide : 0 + 0 ≤ _)⟩)
  dsimp only [Pt.U, Pt.locs, Pt.cells, Pt.slots] at X310 l310 y310 z310 st310 hQ310
  subst l310 y310 z310
  obtain ⟨rv310, N310q, e310⟩ := hQ310
  rw [show sp3 w_4 w_4 (0 : Int32) = (1 : Int32) from by unfold sp3; rw [if_pos rfl, if_pos (by decide : ((0 : Int32) = (0 : Int32)))]] at rv310
  subst rv310
  have N310 := Fr.app N308 N310q
  obtain ⟨cq311, kq311, q311a, q311b, q311c⟩ := isOf hZ e310 (E_4.ext O0.2)
  obtain ⟨_, _, ⟨T311, L311, k311, n311⟩, -, X311, ⟨Lc311, hQ311, l311, y311, z311⟩, st311⟩ := X310.virtualBack hx (y := Y0) (z := Y0) hown (mvT hZ (hw _ (tk 24 rfl))) (mvT hZ (hw _ (tk 25 rfl))) (notFace_of_selects (args := #[]) (mvT hZ (hw _ (tk 27 rfl)))) (mvT hZ (hw _ (tk 27 rfl))) (mvT hZ (hw _ (tk 26 rfl))) (by decide) (backOf (W := 0) (rm3 l Z a0 hw [] w_1 w_2 w_3 w_4 w_5 k_5 hS0 w_4 w_4 (0 : Int32) h0 n0 O0 (F_4_sharedWithItself.ext O0.2)) hZ (hw _ (tk 28 rfl)) (hw _ (tk 3 rfl)) (by decide) (by decide)) q311a q311c (g := (mkF m 34 #[.val (.ref w_4), .val (.ref w_4), .val (.ref w_5), .val (.int (4 : Int32)), .val (.int ((((0 : Int32) + (1 : Int32)) + (1 : Int32)) + (1 : Int32))), .val (.ref w_4)] [(.ref w_4), (.ref w_4)])) rfl (by rw [hml]; rfl) (Steps.refl _) (argsL := [(.ref w_4)]) (rest := []) (lenOf pd_0 rfl) rfl (by show 2 * 0 + _ ≤ _; exact Nat.le_of_eq rfl) (hb hby d2_34) (fun _ _ => ⟨rfl, e310, (by decide : 0 + 0 ≤ _), (by decide : 0 + 0 ≤ _)⟩)
  dsimp only [Pt.U, Pt.locs, Pt.cells, Pt.slots] at X311 l311 y311 z311 st311 hQ311
  subst l311 y311 z311
  obtain ⟨rv311, N311q, e311⟩ := hQ311
  rw [show sp3 w_4 w_4 (0 : Int32) = (1 : Int32) from by unfold sp3; rw [if_pos rfl, if_pos (by decide : ((0 : Int32) = (0 : Int32)))]] at rv311
  subst rv311
  have N311 := Fr.app N310 N311q
  obtain ⟨fs, hr, hrun, hended, hW, hsame⟩ := X311.leave (v := some (.int (1 : Int32))) (fun h => by rw [Bd.returns] at h; cases h)
  refine ⟨_, _, pre0 _ ?_, hrun, hended, _, _, rfl, ?_, ⟨_, rfl⟩, hW, hsame.mono (by decide) (by decide)⟩
  · show Steps p.tables e below (s₁.setTop (mkF m 0 #[.val (.ref w_4), .val (.ref w_4), .unset, .unset, .unset, .unset] [])) _
    refine st298 _ ?_
    show Steps p.tables e below (T298.setTop (mkF m 3 #[.val (.ref w_4), .val (.ref w_4), .unset, .unset, .unset, .unset] [(.ref w_5)])) _
    refine XS.astoreN X298.here hx rfl (hb hby d2_3) rfl rfl (l' := #[.val (.ref w_4), .val (.ref w_4), .val (.ref w_5), .unset, .unset, .unset]) rfl ?_
    show Steps p.tables e below (T298.setTop (mkF m 4 #[.val (.ref w_4), .val (.ref w_4), .val (.ref w_5), .unset, .unset, .unset] [])) _
    refine XS.aloadN X298.here hx rfl (hb hby d2_4) rfl rfl ?_
    show Steps p.tables e below (T298.setTop (mkF m 5 #[.val (.ref w_4), .val (.ref w_4), .val (.ref w_5), .unset, .unset, .unset] [(.ref w_5)])) _
    refine X298.arraylength hx (by rw [e298]; exact Ar299.1) (State.isArrayOf_alike hZ.alike Ar299.2.1) (g := (mkF m 5 #[.val (.ref w_4), .val (.ref w_4), .val (.ref w_5), .unset, .unset, .unset] [(.ref w_5)])) rfl rfl (hb hby d2_5) _ ?_
    rw [len_of Sa299 Ma299]
    show Steps p.tables e below (T298.setTop (mkF m 6 #[.val (.ref w_4), .val (.ref w_4), .val (.ref w_5), .unset, .unset, .unset] [(.int (4 : Int32))])) _
    refine XS.istoreN X298.here hx rfl (hb hby d2_6) rfl (l' := #[.val (.ref w_4), .val (.ref w_4), .val (.ref w_5), .val (.int (4 : Int32)), .unset, .unset]) rfl ?_
    show Steps p.tables e below (T298.setTop (mkF m 7 #[.val (.ref w_4), .val (.ref w_4), .val (.ref w_5), .val (.int (4 : Int32)), .unset, .unset] [])) _
    refine XS.iconst X298.here hx rfl (hb hby d2_7) ?_
    show Steps p.tables e below (T298.setTop (mkF m 8 #[.val (.ref w_4), .val (.ref w_4), .val (.ref w_5), .val (.int (4 : Int32)), .unset, .unset] [(.int (0 : Int32))])) _
    refine XS.istore X298.here hx rfl (hb hby d2_8) rfl (l' := #[.val (.ref w_4), .val (.ref w_4), .val (.ref w_5), .val (.int (4 : Int32)), .val (.int (0 : Int32)), .unset]) rfl ?_
    show Steps p.tables e below (T298.setTop (mkF m 10 #[.val (.ref w_4), .val (.ref w_4), .val (.ref w_5), .val (.int (4 : Int32)), .val (.int (0 : Int32)), .unset] [])) _
    refine XS.iload X298.here hx rfl (hb hby d2_10) rfl ?_
    show Steps p.tables e below (T298.setTop (mkF m 12 #[.val (.ref w_4), .val (.ref w_4), .val (.ref w_5), .val (.int (4 : Int32)), .val (.int (0 : Int32)), .unset] [(.int (0 : Int32))])) _
    refine XS.iloadN X298.here hx rfl (hb hby d2_12) rfl ?_
    show Steps p.tables e below (T298.setTop (mkF m 13 #[.val (.ref w_4), .val (.ref w_4), .val (.ref w_5), .val (.int (4 : Int32)), .val (.int (0 : Int32)), .unset] [(.int (4 : Int32)), (.int (0 : Int32))])) _
    refine XS.icmpNo X298.here hx rfl (hb hby d2_13) rfl (tlt (by decide : ((0 : Int32) < (4 : Int32)))).2.1 ?_
    show Steps p.tables e below (T298.setTop (mkF m 16 #[.val (.ref w_4), .val (.ref w_4), .val (.ref w_5), .val (.int (4 : Int32)), .val (.int (0 : Int32)), .unset] [])) _
    refine XS.aloadN X298.here hx rfl (hb hby d2_16) rfl rfl ?_
    show Steps p.tables e below (T298.setTop (mkF m 17 #[.val (.ref w_4), .val (.ref w_4), .val (.ref w_5), .val (.int (4 : Int32)), .val (.int (0 : Int32)), .unset] [(.ref w_5)])) _
    refine XS.iload X298.here hx rfl (hb hby d2_17) rfl ?_
    show Steps p.tables e below (T298.setTop (mkF m 19 #[.val (.ref w_4), .val (.ref w_4), .val (.ref w_5), .val (.int (4 : Int32)), .val (.int (0 : Int32)), .unset] [(.int (0 : Int32)), (.ref w_5)])) _
    refine X298.aaload hx (j := (0 : Int32)) (v := (.ref w_1)) (by rw [e298]; exact Ar300.1) (State.isArrayOf_alike hZ.alike Ar300.2.1) rfl Ar300.2.2 hin300 hat300 (g := (mkF m 19 #[.val (.ref w_4), .val (.ref w_4), .val (.ref w_5), .val (.int (4 : Int32)), .val (.int (0 : Int32)), .unset] [(.int (0 : Int32)), (.ref w_5)])) rfl rfl (hb hby d2_19) _ ?_
    show Steps p.tables e below (T298.setTop (mkF m 20 #[.val (.ref w_4), .val (.ref w_4), .val (.ref w_5), .val (.int (4 : Int32)), .val (.int (0 : Int32)), .unset] [(.ref w_1)])) _
    refine XS.astore X298.here hx rfl (hb hby d2_20) rfl rfl (l' := #[.val (.ref w_4), .val (.ref w_4), .val (.ref w_5), .val (.int (4 : Int32)), .val (.int (0 : Int32)), .val (.ref w_1)]) rfl ?_
    show Steps p.tables e below (T298.setTop (mkF m 22 #[.val (.ref w_4), .val (.ref w_4), .val (.ref w_5), .val (.int (4 : Int32)), .val (.int (0 : Int32)), .val (.ref w_1)] [])) _
    refine XS.aloadN X298.here hx rfl (hb hby d2_22) rfl rfl ?_
    show Steps p.tables e below (T298.setTop (mkF m 23 #[.val (.ref w_4), .val (.ref w_4), .val (.ref w_5), .val (.int (4 : Int32)), .val (.int (0 : Int32)), .val (.ref w_1)] [(.ref w_4)])) _
    refine XS.aload X298.here hx rfl (hb hby d2_23) rfl rfl ?_
    show Steps p.tables e below (T298.setTop (mkF m 25 #[.val (.ref w_4), .val (.ref w_4), .val (.ref w_5), .val (.int (4 : Int32)), .val (.int (0 : Int32)), .val (.ref w_1)] [(.ref w_1), (.ref w_4)])) _
    refine st301.trans ?_
    show Steps p.tables e below (T301.setTop (mkF m 28 #[.val (.ref w_4), .val (.ref w_4), .val (.ref w_5), .val (.int (4 : Int32)), .val (.int (0 : Int32)), .val (.ref w_1)] [(.int (1 : Int32))])) _
    refine XS.ifNo X301.here hx rfl (hb hby d2_28) rfl ((if0 _ _).trans (feq (by decide : ¬ ((1 : Int32) = (0 : Int32)))).1) ?_
    show Steps p.tables e below (T301.setTop (mkF m 31 #[.val (.ref w_4), .val (.ref w_4), .val (.ref w_5), .val (.int (4 : Int32)), .val (.int (0 : Int32)), .val (.ref w_1)] [])) _
    refine XS.aloadN X301.here hx rfl (hb hby d2_31) rfl rfl ?_
    show Steps p.tables e below (T301.setTop (mkF m 32 #[.val (.ref w_4), .val (.ref w_4), .val (.ref w_5), .val (.int (4 : Int32)), .val (.int (0 : Int32)), .val (.ref w_1)] [(.ref w_4)])) _
    refine XS.aload X301.here hx rfl (hb hby d2_32) rfl rfl ?_
    show Steps p.tables e below (T301.setTop (mkF m 34 #[.val (.ref w_4), .val (.ref w_4), .val (.ref w_5), .val (.int (4 : Int32)), .val (.int (0 : Int32)), .val (.ref w_1)] [(.ref w_1), (.ref w_4)])) _
    refine st302.trans ?_
    show Steps p.tables e below (T302.setTop (mkF m 37 #[.val (.ref w_4), .val (.ref w_4), .val (.ref w_5), .val (.int (4 : Int32)), .val (.int (0 : Int32)), .val (.ref w_1)] [(.int (1 : Int32))])) _
    refine XS.ifYes X302.here hx rfl (pc0 := 37) (pc' := 42) rfl (hb hby d2_37) rfl ((if0 _ _).trans (feq (by decide : ¬ ((1 : Int32) = (0 : Int32)))).2) (by decide) (by decide) ?_
    show Steps p.tables e below (T302.setTop (mkF m 42 #[.val (.ref w_4), .val (.ref w_4), .val (.ref w_5), .val (.int (4 : Int32)), .val (.int (0 : Int32)), .val (.ref w_1)] [])) _
    refine XS.iinc X302.here hx rfl (hb hby d2_42) rfl (l' := #[.val (.ref w_4), .val (.ref w_4), .val (.ref w_5), .val (.int (4 : Int32)), .val (.int ((0 : Int32) + (1 : Int32))), .val (.ref w_1)]) rfl ?_
    show Steps p.tables e below (T302.setTop (mkF m 45 #[.val (.ref w_4), .val (.ref w_4), .val (.ref w_5), .val (.int (4 : Int32)), .val (.int ((0 : Int32) + (1 : Int32))), .val (.ref w_1)] [])) _
    refine XS.goto X302.here hx rfl (pc0 := 45) (pc' := 10) rfl (hb hby d2_45) (by decide) (by decide) ?_
    show Steps p.tables e below (T302.setTop (mkF m 10 #[.val (.ref w_4), .val (.ref w_4), .val (.ref w_5), .val (.int (4 : Int32)), .val (.int ((0 : Int32) + (1 : Int32))), .val (.ref w_1)] [])) _
    refine XS.iload X302.here hx rfl (hb hby d2_10) rfl ?_
    show Steps p.tables e below (T302.setTop (mkF m 12 #[.val (.ref w_4), .val (.ref w_4), .val (.ref w_5), .val (.int (4 : Int32)), .val (.int ((0 : Int32) + (1 : Int32))), .val (.ref w_1)] [(.int ((0 : Int32) + (1 : Int32)))])) _
    refine XS.iloadN X302.here hx rfl (hb hby d2_12) rfl ?_
    show Steps p.tables e below (T302.setTop (mkF m 13 #[.val (.ref w_4), .val (.ref w_4), .val (.ref w_5), .val (.int (4 : Int32)), .val (.int ((0 : Int32) + (1 : Int32))), .val (.ref w_1)] [(.int (4 : Int32)), (.int ((0 : Int32) + (1 : Int32)))])) _
    refine XS.icmpNo X302.here hx rfl (hb hby d2_13) rfl (tlt (by decide : (((0 : Int32) + (1 : Int32)) < (4 : Int32)))).2.1 ?_
    show Steps p.tables e below (T302.setTop (mkF m 16 #[.val (.ref w_4), .val (.ref w_4), .val (.ref w_5), .val (.int (4 : Int32)), .val (.int ((0 : Int32) + (1 : Int32))), .val (.ref w_1)] [])) _
    refine XS.aloadN X302.here hx rfl (hb hby d2_16) rfl rfl ?_
    show Steps p.tables e below (T302.setTop (mkF m 17 #[.val (.ref w_4), .val (.ref w_4), .val (.ref w_5), .val (.int (4 : Int32)), .val (.int ((0 : Int32) + (1 : Int32))), .val (.ref w_1)] [(.ref w_5)])) _
    refine XS.iload X302.here hx rfl (hb hby d2_17) rfl ?_
    show Steps p.tables e below (T302.setTop (mkF m 19 #[.val (.ref w_4), .val (.ref w_4), .val (.ref w_5), .val (.int (4 : Int32)), .val (.int ((0 : Int32) + (1 : Int32))), .val (.ref w_1)] [(.int ((0 : Int32) + (1 : Int32))), (.ref w_5)])) _
    refine X302.aaload hx (j := ((0 : Int32) + (1 : Int32))) (v := (.ref w_2)) (by rw [e302]; exact Ar303.1) (State.isArrayOf_alike hZ.alike Ar303.2.1) rfl Ar303.2.2 hin303 hat303 (g := (mkF m 19 #[.val (.ref w_4), .val (.ref w_4), .val (.ref w_5), .val (.int (4 : Int32)), .val (.int ((0 : Int32) + (1 : Int32))), .val (.ref w_1)] [(.int ((0 : Int32) + (1 : Int32))), (.ref w_5)])) rfl rfl (hb hby d2_19) _ ?_
    show Steps p.tables e below (T302.setTop (mkF m 20 #[.val (.ref w_4), .val (.ref w_4), .val (.ref w_5), .val (.int (4 : Int32)), .val (.int ((0 : Int32) + (1 : Int32))), .val (.ref w_1)] [(.ref w_2)])) _
    refine XS.astore X302.here hx rfl (hb hby d2_20) rfl rfl (l' := #[.val (.ref w_4), .val (.ref w_4), .val (.ref w_5), .val (.int (4 : Int32)), .val (.int ((0 : Int32) + (1 : Int32))), .val (.ref w_2)]) rfl ?_
    show Steps p.tables e below (T302.setTop (mkF m 22 #[.val (.ref w_4), .val (.ref w_4), .val (.ref w_5), .val (.int (4 : Int32)), .val (.int ((0 : Int32) + (1 : Int32))), .val (.ref w_2)] [])) _
    refine XS.aloadN X302.here hx rfl (hb hby d2_22) rfl rfl ?_
    show Steps p.tables e below (T302.setTop (mkF m 23 #[.val (.ref w_4), .val (.ref w_4), .val (.ref w_5), .val (.int (4 : Int32)), .val (.int ((0 : Int32) + (1 : Int32))), .val (.ref w_2)] [(.ref w_4)])) _
    refine XS.aload X302.here hx rfl (hb hby d2_23) rfl rfl ?_
    show Steps p.tables e below (T302.setTop (mkF m 25 #[.val (.ref w_4), .val (.ref w_4), .val (.ref w_5), .val (.int (4 : Int32)), .val (.int ((0 : Int32) + (1 : Int32))), .val (.ref w_2)] [(.ref w_2), (.ref w_4)])) _
    refine st304.trans ?_
    show Steps p.tables e below (T304.setTop (mkF m 28 #[.val (.ref w_4), .val (.ref w_4), .val (.ref w_5), .val (.int (4 : Int32)), .val (.int ((0 : Int32) + (1 : Int32))), .val (.ref w_2)] [(.int (1 : Int32))])) _
    refine XS.ifNo X304.here hx rfl (hb hby d2_28) rfl ((if0 _ _).trans (feq (by decide : ¬ ((1 : Int32) = (0 : Int32)))).1) ?_
    show Steps p.tables e below (T304.setTop (mkF m 31 #[.val (.ref w_4), .val (.ref w_4), .val (.ref w_5), .val (.int (4 : Int32)), .val (.int ((0 : Int32) + (1 : Int32))), .val (.ref w_2)] [])) _
    refine XS.aloadN X304.here hx rfl (hb hby d2_31) rfl rfl ?_
    show Steps p.tables e below (T304.setTop (mkF m 32 #[.val (.ref w_4), .val (.ref w_4), .val (.ref w_5), .val (.int (4 : Int32)), .val (.int ((0 : Int32) + (1 : Int32))), .val (.ref w_2)] [(.ref w_4)])) _
    refine XS.aload X304.here hx rfl (hb hby d2_32) rfl rfl ?_
    show Steps p.tables e below (T304.setTop (mkF m 34 #[.val (.ref w_4), .val (.ref w_4), .val (.ref w_5), .val (.int (4 : Int32)), .val (.int ((0 : Int32) + (1 : Int32))), .val (.ref w_2)] [(.ref w_2), (.ref w_4)])) _
    refine st305.trans ?_
    show Steps p.tables e below (T305.setTop (mkF m 37 #[.val (.ref w_4), .val (.ref w_4), .val (.ref w_5), .val (.int (4 : Int32)), .val (.int ((0 : Int32) + (1 : Int32))), .val (.ref w_2)] [(.int (1 : Int32))])) _
    refine XS.ifYes X305.here hx rfl (pc0 := 37) (pc' := 42) rfl (hb hby d2_37) rfl ((if0 _ _).trans (feq (by decide : ¬ ((1 : Int32) = (0 : Int32)))).2) (by decide) (by decide) ?_
    show Steps p.tables e below (T305.setTop (mkF m 42 #[.val (.ref w_4), .val (.ref w_4), .val (.ref w_5), .val (.int (4 : Int32)), .val (.int ((0 : Int32) + (1 : Int32))), .val (.ref w_2)] [])) _
    refine XS.iinc X305.here hx rfl (hb hby d2_42) rfl (l' := #[.val (.ref w_4), .val (.ref w_4), .val (.ref w_5), .val (.int (4 : Int32)), .val (.int (((0 : Int32) + (1 : Int32)) + (1 : Int32))), .val (.ref w_2)]) rfl ?_
    show Steps p.tables e below (T305.setTop (mkF m 45 #[.val (.ref w_4), .val (.ref w_4), .val (.ref w_5), .val (.int (4 : Int32)), .val (.int (((0 : Int32) + (1 : Int32)) + (1 : Int32))), .val (.ref w_2)] [])) _
    refine XS.goto X305.here hx rfl (pc0 := 45) (pc' := 10) rfl (hb hby d2_45) (by decide) (by decide) ?_
    show Steps p.tables e below (T305.setTop (mkF m 10 #[.val (.ref w_4), .val (.ref w_4), .val (.ref w_5), .val (.int (4 : Int32)), .val (.int (((0 : Int32) + (1 : Int32)) + (1 : Int32))), .val (.ref w_2)] [])) _
    refine XS.iload X305.here hx rfl (hb hby d2_10) rfl ?_
    show Steps p.tables e below (T305.setTop (mkF m 12 #[.val (.ref w_4), .val (.ref w_4), .val (.ref w_5), .val (.int (4 : Int32)), .val (.int (((0 : Int32) + (1 : Int32)) + (1 : Int32))), .val (.ref w_2)] [(.int (((0 : Int32) + (1 : Int32)) + (1 : Int32)))])) _
    refine XS.iloadN X305.here hx rfl (hb hby d2_12) rfl ?_
    show Steps p.tables e below (T305.setTop (mkF m 13 #[.val (.ref w_4), .val (.ref w_4), .val (.ref w_5), .val (.int (4 : Int32)), .val (.int (((0 : Int32) + (1 : Int32)) + (1 : Int32))), .val (.ref w_2)] [(.int (4 : Int32)), (.int (((0 : Int32) + (1 : Int32)) + (1 : Int32)))])) _
    refine XS.icmpNo X305.here hx rfl (hb hby d2_13) rfl (tlt (by decide : ((((0 : Int32) + (1 : Int32)) + (1 : Int32)) < (4 : Int32)))).2.1 ?_
    show Steps p.tables e below (T305.setTop (mkF m 16 #[.val (.ref w_4), .val (.ref w_4), .val (.ref w_5), .val (.int (4 : Int32)), .val (.int (((0 : Int32) + (1 : Int32)) + (1 : Int32))), .val (.ref w_2)] [])) _
    refine XS.aloadN X305.here hx rfl (hb hby d2_16) rfl rfl ?_
    show Steps p.tables e below (T305.setTop (mkF m 17 #[.val (.ref w_4), .val (.ref w_4), .val (.ref w_5), .val (.int (4 : Int32)), .val (.int (((0 : Int32) + (1 : Int32)) + (1 : Int32))), .val (.ref w_2)] [(.ref w_5)])) _
    refine XS.iload X305.here hx rfl (hb hby d2_17) rfl ?_
    show Steps p.tables e below (T305.setTop (mkF m 19 #[.val (.ref w_4), .val (.ref w_4), .val (.ref w_5), .val (.int (4 : Int32)), .val (.int (((0 : Int32) + (1 : Int32)) + (1 : Int32))), .val (.ref w_2)] [(.int (((0 : Int32) + (1 : Int32)) + (1 : Int32))), (.ref w_5)])) _
    refine X305.aaload hx (j := (((0 : Int32) + (1 : Int32)) + (1 : Int32))) (v := (.ref w_3)) (by rw [e305]; exact Ar306.1) (State.isArrayOf_alike hZ.alike Ar306.2.1) rfl Ar306.2.2 hin306 hat306 (g := (mkF m 19 #[.val (.ref w_4), .val (.ref w_4), .val (.ref w_5), .val (.int (4 : Int32)), .val (.int (((0 : Int32) + (1 : Int32)) + (1 : Int32))), .val (.ref w_2)] [(.int (((0 : Int32) + (1 : Int32)) + (1 : Int32))), (.ref w_5)])) rfl rfl (hb hby d2_19) _ ?_
    show Steps p.tables e below (T305.setTop (mkF m 20 #[.val (.ref w_4), .val (.ref w_4), .val (.ref w_5), .val (.int (4 : Int32)), .val (.int (((0 : Int32) + (1 : Int32)) + (1 : Int32))), .val (.ref w_2)] [(.ref w_3)])) _
    refine XS.astore X305.here hx rfl (hb hby d2_20) rfl rfl (l' := #[.val (.ref w_4), .val (.ref w_4), .val (.ref w_5), .val (.int (4 : Int32)), .val (.int (((0 : Int32) + (1 : Int32)) + (1 : Int32))), .val (.ref w_3)]) rfl ?_
    show Steps p.tables e below (T305.setTop (mkF m 22 #[.val (.ref w_4), .val (.ref w_4), .val (.ref w_5), .val (.int (4 : Int32)), .val (.int (((0 : Int32) + (1 : Int32)) + (1 : Int32))), .val (.ref w_3)] [])) _
    refine XS.aloadN X305.here hx rfl (hb hby d2_22) rfl rfl ?_
    show Steps p.tables e below (T305.setTop (mkF m 23 #[.val (.ref w_4), .val (.ref w_4), .val (.ref w_5), .val (.int (4 : Int32)), .val (.int (((0 : Int32) + (1 : Int32)) + (1 : Int32))), .val (.ref w_3)] [(.ref w_4)])) _
    refine XS.aload X305.here hx rfl (hb hby d2_23) rfl rfl ?_
    show Steps p.tables e below (T305.setTop (mkF m 25 #[.val (.ref w_4), .val (.ref w_4), .val (.ref w_5), .val (.int (4 : Int32)), .val (.int (((0 : Int32) + (1 : Int32)) + (1 : Int32))), .val (.ref w_3)] [(.ref w_3), (.ref w_4)])) _
    refine st307.trans ?_
    show Steps p.tables e below (T307.setTop (mkF m 28 #[.val (.ref w_4), .val (.ref w_4), .val (.ref w_5), .val (.int (4 : Int32)), .val (.int (((0 : Int32) + (1 : Int32)) + (1 : Int32))), .val (.ref w_3)] [(.int (1 : Int32))])) _
    refine XS.ifNo X307.here hx rfl (hb hby d2_28) rfl ((if0 _ _).trans (feq (by decide : ¬ ((1 : Int32) = (0 : Int32)))).1) ?_
    show Steps p.tables e below (T307.setTop (mkF m 31 #[.val (.ref w_4), .val (.ref w_4), .val (.ref w_5), .val (.int (4 : Int32)), .val (.int (((0 : Int32) + (1 : Int32)) + (1 : Int32))), .val (.ref w_3)] [])) _
    refine XS.aloadN X307.here hx rfl (hb hby d2_31) rfl rfl ?_
    show Steps p.tables e below (T307.setTop (mkF m 32 #[.val (.ref w_4), .val (.ref w_4), .val (.ref w_5), .val (.int (4 : Int32)), .val (.int (((0 : Int32) + (1 : Int32)) + (1 : Int32))), .val (.ref w_3)] [(.ref w_4)])) _
    refine XS.aload X307.here hx rfl (hb hby d2_32) rfl rfl ?_
    show Steps p.tables e below (T307.setTop (mkF m 34 #[.val (.ref w_4), .val (.ref w_4), .val (.ref w_5), .val (.int (4 : Int32)), .val (.int (((0 : Int32) + (1 : Int32)) + (1 : Int32))), .val (.ref w_3)] [(.ref w_3), (.ref w_4)])) _
    refine st308.trans ?_
    show Steps p.tables e below (T308.setTop (mkF m 37 #[.val (.ref w_4), .val (.ref w_4), .val (.ref w_5), .val (.int (4 : Int32)), .val (.int (((0 : Int32) + (1 : Int32)) + (1 : Int32))), .val (.ref w_3)] [(.int (1 : Int32))])) _
    refine XS.ifYes X308.here hx rfl (pc0 := 37) (pc' := 42) rfl (hb hby d2_37) rfl ((if0 _ _).trans (feq (by decide : ¬ ((1 : Int32) = (0 : Int32)))).2) (by decide) (by decide) ?_
    show Steps p.tables e below (T308.setTop (mkF m 42 #[.val (.ref w_4), .val (.ref w_4), .val (.ref w_5), .val (.int (4 : Int32)), .val (.int (((0 : Int32) + (1 : Int32)) + (1 : Int32))), .val (.ref w_3)] [])) _
    refine XS.iinc X308.here hx rfl (hb hby d2_42) rfl (l' := #[.val (.ref w_4), .val (.ref w_4), .val (.ref w_5), .val (.int (4 : Int32)), .val (.int ((((0 : Int32) + (1 : Int32)) + (1 : Int32)) + (1 : Int32))), .val (.ref w_3)]) rfl ?_
    show Steps p.tables e below (T308.setTop (mkF m 45 #[.val (.ref w_4), .val (.ref w_4), .val (.ref w_5), .val (.int (4 : Int32)), .val (.int ((((0 : Int32) + (1 : Int32)) + (1 : Int32)) + (1 : Int32))), .val (.ref w_3)] [])) _
    refine XS.goto X308.here hx rfl (pc0 := 45) (pc' := 10) rfl (hb hby d2_45) (by decide) (by decide) ?_
    show Steps p.tables e below (T308.setTop (mkF m 10 #[.val (.ref w_4), .val (.ref w_4), .val (.ref w_5), .val (.int (4 : Int32)), .val (.int ((((0 : Int32) + (1 : Int32)) + (1 : Int32)) + (1 : Int32))), .val (.ref w_3)] [])) _
    refine XS.iload X308.here hx rfl (hb hby d2_10) rfl ?_
    show Steps p.tables e below (T308.setTop (mkF m 12 #[.val (.ref w_4), .val (.ref w_4), .val (.ref w_5), .val (.int (4 : Int32)), .val (.int ((((0 : Int32) + (1 : Int32)) + (1 : Int32)) + (1 : Int32))), .val (.ref w_3)] [(.int ((((0 : Int32) + (1 : Int32)) + (1 : Int32)) + (1 : Int32)))])) _
    refine XS.iloadN X308.here hx rfl (hb hby d2_12) rfl ?_
    show Steps p.tables e below (T308.setTop (mkF m 13 #[.val (.ref w_4), .val (.ref w_4), .val (.ref w_5), .val (.int (4 : Int32)), .val (.int ((((0 : Int32) + (1 : Int32)) + (1 : Int32)) + (1 : Int32))), .val (.ref w_3)] [(.int (4 : Int32)), (.int ((((0 : Int32) + (1 : Int32)) + (1 : Int32)) + (1 : Int32)))])) _
    refine XS.icmpNo X308.here hx rfl (hb hby d2_13) rfl (tlt (by decide : (((((0 : Int32) + (1 : Int32)) + (1 : Int32)) + (1 : Int32)) < (4 : Int32)))).2.1 ?_
    show Steps p.tables e below (T308.setTop (mkF m 16 #[.val (.ref w_4), .val (.ref w_4), .val (.ref w_5), .val (.int (4 : Int32)), .val (.int ((((0 : Int32) + (1 : Int32)) + (1 : Int32)) + (1 : Int32))), .val (.ref w_3)] [])) _
    refine XS.aloadN X308.here hx rfl (hb hby d2_16) rfl rfl ?_
    show Steps p.tables e below (T308.setTop (mkF m 17 #[.val (.ref w_4), .val (.ref w_4), .val (.ref w_5), .val (.int (4 : Int32)), .val (.int ((((0 : Int32) + (1 : Int32)) + (1 : Int32)) + (1 : Int32))), .val (.ref w_3)] [(.ref w_5)])) _
    refine XS.iload X308.here hx rfl (hb hby d2_17) rfl ?_
    show Steps p.tables e below (T308.setTop (mkF m 19 #[.val (.ref w_4), .val (.ref w_4), .val (.ref w_5), .val (.int (4 : Int32)), .val (.int ((((0 : Int32) + (1 : Int32)) + (1 : Int32)) + (1 : Int32))), .val (.ref w_3)] [(.int ((((0 : Int32) + (1 : Int32)) + (1 : Int32)) + (1 : Int32))), (.ref w_5)])) _
    refine X308.aaload hx (j := ((((0 : Int32) + (1 : Int32)) + (1 : Int32)) + (1 : Int32))) (v := (.ref w_4)) (by rw [e308]; exact Ar309.1) (State.isArrayOf_alike hZ.alike Ar309.2.1) rfl Ar309.2.2 hin309 hat309 (g := (mkF m 19 #[.val (.ref w_4), .val (.ref w_4), .val (.ref w_5), .val (.int (4 : Int32)), .val (.int ((((0 : Int32) + (1 : Int32)) + (1 : Int32)) + (1 : Int32))), .val (.ref w_3)] [(.int ((((0 : Int32) + (1 : Int32)) + (1 : Int32)) + (1 : Int32))), (.ref w_5)])) rfl rfl (hb hby d2_19) _ ?_
    show Steps p.tables e below (T308.setTop (mkF m 20 #[.val (.ref w_4), .val (.ref w_4), .val (.ref w_5), .val (.int (4 : Int32)), .val (.int ((((0 : Int32) + (1 : Int32)) + (1 : Int32)) + (1 : Int32))), .val (.ref w_3)] [(.ref w_4)])) _
    refine XS.astore X308.here hx rfl (hb hby d2_20) rfl rfl (l' := #[.val (.ref w_4), .val (.ref w_4), .val (.ref w_5), .val (.int (4 : Int32)), .val (.int ((((0 : Int32) + (1 : Int32)) + (1 : Int32)) + (1 : Int32))), .val (.ref w_4)]) rfl ?_
    show Steps p.tables e below (T308.setTop (mkF m 22 #[.val (.ref w_4), .val (.ref w_4), .val (.ref w_5), .val (.int (4 : Int32)), .val (.int ((((0 : Int32) + (1 : Int32)) + (1 : Int32)) + (1 : Int32))), .val (.ref w_4)] [])) _
    refine XS.aloadN X308.here hx rfl (hb hby d2_22) rfl rfl ?_
    show Steps p.tables e below (T308.setTop (mkF m 23 #[.val (.ref w_4), .val (.ref w_4), .val (.ref w_5), .val (.int (4 : Int32)), .val (.int ((((0 : Int32) + (1 : Int32)) + (1 : Int32)) + (1 : Int32))), .val (.ref w_4)] [(.ref w_4)])) _
    refine XS.aload X308.here hx rfl (hb hby d2_23) rfl rfl ?_
    show Steps p.tables e below (T308.setTop (mkF m 25 #[.val (.ref w_4), .val (.ref w_4), .val (.ref w_5), .val (.int (4 : Int32)), .val (.int ((((0 : Int32) + (1 : Int32)) + (1 : Int32)) + (1 : Int32))), .val (.ref w_4)] [(.ref w_4), (.ref w_4)])) _
    refine st310.trans ?_
    show Steps p.tables e below (T310.setTop (mkF m 28 #[.val (.ref w_4), .val (.ref w_4), .val (.ref w_5), .val (.int (4 : Int32)), .val (.int ((((0 : Int32) + (1 : Int32)) + (1 : Int32)) + (1 : Int32))), .val (.ref w_4)] [(.int (1 : Int32))])) _
    refine XS.ifNo X310.here hx rfl (hb hby d2_28) rfl ((if0 _ _).trans (feq (by decide : ¬ ((1 : Int32) = (0 : Int32)))).1) ?_
    show Steps p.tables e below (T310.setTop (mkF m 31 #[.val (.ref w_4), .val (.ref w_4), .val (.ref w_5), .val (.int (4 : Int32)), .val (.int ((((0 : Int32) + (1 : Int32)) + (1 : Int32)) + (1 : Int32))), .val (.ref w_4)] [])) _
    refine XS.aloadN X310.here hx rfl (hb hby d2_31) rfl rfl ?_
    show Steps p.tables e below (T310.setTop (mkF m 32 #[.val (.ref w_4), .val (.ref w_4), .val (.ref w_5), .val (.int (4 : Int32)), .val (.int ((((0 : Int32) + (1 : Int32)) + (1 : Int32)) + (1 : Int32))), .val (.ref w_4)] [(.ref w_4)])) _
    refine XS.aload X310.here hx rfl (hb hby d2_32) rfl rfl ?_
    show Steps p.tables e below (T310.setTop (mkF m 34 #[.val (.ref w_4), .val (.ref w_4), .val (.ref w_5), .val (.int (4 : Int32)), .val (.int ((((0 : Int32) + (1 : Int32)) + (1 : Int32)) + (1 : Int32))), .val (.ref w_4)] [(.ref w_4), (.ref w_4)])) _
    refine st311.trans ?_
    show Steps p.tables e below (T311.setTop (mkF m 37 #[.val (.ref w_4), .val (.ref w_4), .val (.ref w_5), .val (.int (4 : Int32)), .val (.int ((((0 : Int32) + (1 : Int32)) + (1 : Int32)) + (1 : Int32))), .val (.ref w_4)] [(.int (1 : Int32))])) _
    refine XS.ifYes X311.here hx rfl (pc0 := 37) (pc' := 42) rfl (hb hby d2_37) rfl ((if0 _ _).trans (feq (by decide : ¬ ((1 : Int32) = (0 : Int32)))).2) (by decide) (by decide) ?_
    show Steps p.tables e below (T311.setTop (mkF m 42 #[.val (.ref w_4), .val (.ref w_4), .val (.ref w_5), .val (.int (4 : Int32)), .val (.int ((((0 : Int32) + (1 : Int32)) + (1 : Int32)) + (1 : Int32))), .val (.ref w_4)] [])) _
    refine XS.iinc X311.here hx rfl (hb hby d2_42) rfl (l' := #[.val (.ref w_4), .val (.ref w_4), .val (.ref w_5), .val (.int (4 : Int32)), .val (.int (((((0 : Int32) + (1 : Int32)) + (1 : Int32)) + (1 : Int32)) + (1 : Int32))), .val (.ref w_4)]) rfl ?_
    show Steps p.tables e below (T311.setTop (mkF m 45 #[.val (.ref w_4), .val (.ref w_4), .val (.ref w_5), .val (.int (4 : Int32)), .val (.int (((((0 : Int32) + (1 : Int32)) + (1 : Int32)) + (1 : Int32)) + (1 : Int32))), .val (.ref w_4)] [])) _
    refine XS.goto X311.here hx rfl (pc0 := 45) (pc' := 10) rfl (hb hby d2_45) (by decide) (by decide) ?_
    show Steps p.tables e below (T311.setTop (mkF m 10 #[.val (.ref w_4), .val (.ref w_4), .val (.ref w_5), .val (.int (4 : Int32)), .val (.int (((((0 : Int32) + (1 : Int32)) + (1 : Int32)) + (1 : Int32)) + (1 : Int32))), .val (.ref w_4)] [])) _
    refine XS.iload X311.here hx rfl (hb hby d2_10) rfl ?_
    show Steps p.tables e below (T311.setTop (mkF m 12 #[.val (.ref w_4), .val (.ref w_4), .val (.ref w_5), .val (.int (4 : Int32)), .val (.int (((((0 : Int32) + (1 : Int32)) + (1 : Int32)) + (1 : Int32)) + (1 : Int32))), .val (.ref w_4)] [(.int (((((0 : Int32) + (1 : Int32)) + (1 : Int32)) + (1 : Int32)) + (1 : Int32)))])) _
    refine XS.iloadN X311.here hx rfl (hb hby d2_12) rfl ?_
    show Steps p.tables e below (T311.setTop (mkF m 13 #[.val (.ref w_4), .val (.ref w_4), .val (.ref w_5), .val (.int (4 : Int32)), .val (.int (((((0 : Int32) + (1 : Int32)) + (1 : Int32)) + (1 : Int32)) + (1 : Int32))), .val (.ref w_4)] [(.int (4 : Int32)), (.int (((((0 : Int32) + (1 : Int32)) + (1 : Int32)) + (1 : Int32)) + (1 : Int32)))])) _
    refine XS.icmpYes X311.here hx rfl (pc0 := 13) (pc' := 48) rfl (hb hby d2_13) rfl (flt (by decide : ¬ ((((((0 : Int32) + (1 : Int32)) + (1 : Int32)) + (1 : Int32)) + (1 : Int32)) < (4 : Int32)))).2.1 (by decide) (by decide) ?_
    show Steps p.tables e below (T311.setTop (mkF m 48 #[.val (.ref w_4), .val (.ref w_4), .val (.ref w_5), .val (.int (4 : Int32)), .val (.int (((((0 : Int32) + (1 : Int32)) + (1 : Int32)) + (1 : Int32)) + (1 : Int32))), .val (.ref w_4)] [])) _
    refine XS.iconst X311.here hx rfl (hb hby d2_48) ?_
    show Steps p.tables e below (T311.setTop (mkF m 49 #[.val (.ref w_4), .val (.ref w_4), .val (.ref w_5), .val (.int (4 : Int32)), .val (.int (((((0 : Int32) + (1 : Int32)) + (1 : Int32)) + (1 : Int32)) + (1 : Int32))), .val (.ref w_4)] [(.int (1 : Int32))])) _
    exact retN X311 hx (t := .boolean) Bd.returns (by simp) (hb hby d2_49) hr
  · show Q2x16 Z w_1 w_2 w_3 w_4 w_5 k_5 h0 n0 _ T311.heap _
    rw [e311]
    exact ⟨by unfold sp2x16; rfl, N311, rfl⟩
theorem pn_1x16 : plainName "com/example/lucid_locks/lucidlocks/locks/LockMode" = true := by first | (simp [plainName, overriddenIn]; done) | decide +kernel
theorem ef_1x16 (m : MethodId) (w_4 : Addr) : entryFrame m #[(.ref w_4), (.ref w_4)] 2 = mkF m 0 #[.val (.ref w_4), .val (.ref w_4)] [] := by first | (simp [entryFrame, mkF, argsToLocals, Value.category]; done) | rfl
def sp1x16 (w_4 : Addr) : Value := (.ref w_4)
def Q1x16 (Z : State) (w_1 : Addr) (w_2 : Addr) (w_3 : Addr) (w_4 : Addr) (w_5 : Addr) (k_5 : ClassId) (h0 : Heap) (n0 : Nat) (v : Option Value) (h : Heap) (L : List Loc) : Prop := v = some (sp1x16 w_4) ∧ Fr n0 L ∧ h = h0
set_option maxRecDepth 65536 in
set_option maxHeartbeats 40000000 in
theorem rm1x16 (l : Launch) (Z : State) (a0 : Array Value) (hw : ∀ d ∈ tables_1, d.before a0 Z = true) (ws : List Jvm.Cond) (w_1 : Addr) (w_2 : Addr) (w_3 : Addr) (w_4 : Addr) (w_5 : Addr) (k_5 : ClassId) (hS : StF Z w_1 w_2 w_3 w_4 w_5 k_5) (h0 : Heap) (n0 : Nat) (O0 : Old Z n0 h0) :
    MetFree l Y2 (head1 (Jvm.Cond.code Y2 prog_17_method_6_code 2 (some (.object "com/example/lucid_locks/lucidlocks/locks/LockMode")) :: ws) ({ frames := 2, cells := 0, slots := 0, locals := 30 } : Room)) (fun a U => a = #[(.ref w_4), (.ref w_4)] ∧ Z.Warmed39 U.vm ∧ U.heap = h0) (fun _ _ _ _ _ => True) (fun _ U o U' => ∃ v L, o = .returned v ∧ Q1x16 Z w_1 w_2 w_3 w_4 w_5 k_5 h0 n0 v U'.heap L ∧ FrameEnd U o U' L ({ frames := 2, cells := 0, slots := 0, locals := 30 } : Room).cells ({ frames := 2, cells := 0, slots := 0, locals := 30 } : Room).slots) := by
  refine MetFree.of_bodySF (plainFor_of_name pn_1x16) hisR ?_
  intro p e s m args below meth c s₁ Bd hml0 hP hK
  obtain ⟨rfl, hZ, hh⟩ := hP
  have hx := Bd.exec
  have hby := Bd.bytes
  have hml : c.maxLocals = 2 := hml0
  have hown : s.vm.findClass "com/example/lucid_locks/lucidlocks/locks/LockMode" = some m.cls := findClass_of_methodNamed Bd.named
  have hnm := (name_of_methodNamed Bd.named Bd.method).1
  have X0 : Stand p l e ({ frames := 2, cells := 0, slots := 0, locals := 30 } : Room) s m #[(.ref w_4), (.ref w_4)] below meth c s₁ [] 0 0 := Stand.of_body Bd
  have e0 : s₁.heap = h0 := by rw [← hh, Bd.state]; rfl
  have N0 := Fr.nil n0
  have hS0 := hS
  obtain ⟨S_1, E_1, S_2, E_2, S_3, E_3, S_4, E_4, S_5, F_1_sharedWithItself, F_1_ordinal, F_2_ordinal, F_4_ordinal, F_3_ordinal, F_4_sharedWithItself, F_2_sharedWithItself, F_3_sharedWithItself, V_5⟩ := hS
  have pre0 : ∀ t, Steps p.tables e below (s₁.setTop (mkF m 0 #[.val (.ref w_4), .val (.ref w_4)] [])) t → Steps p.tables e below (s₁.setTop (entryFrame m #[(.ref w_4), (.ref w_4)] 2)) t := fun t k => castTop (ef_1x16 m w_4) k
  obtain ⟨cq312, kq312, q312a, q312b, q312c⟩ := isOf hZ e0 (E_4.ext O0.2)
  obtain ⟨_, _, ⟨T312, L312, k312, n312⟩, -, X312, ⟨Lc312, hQ312, l312, y312, z312⟩, st312⟩ := X0.virtualBack hx (y := Y1) (z := Y1) hown (mvT hZ (hw _ (tk 17 rfl))) (mvT hZ (hw _ (tk 18 rfl))) (notFace_of_selects (args := #[]) (mvT hZ (hw _ (tk 20 rfl)))) (mvT hZ (hw _ (tk 20 rfl))) (mvT hZ (hw _ (tk 19 rfl))) (by decide) (backOf (W := 0) (rm2x16 l Z a0 hw [] w_1 w_2 w_3 w_4 w_5 k_5 hS0 h0 n0 O0) hZ (hw _ (tk 21 rfl)) (hw _ (tk 3 rfl)) (by decide) (by decide)) q312a q312c (g := (mkF m 2 #[.val (.ref w_4), .val (.ref w_4)] [(.ref w_4), (.ref w_4)])) rfl (by rw [hml]; rfl) (Steps.refl _) (argsL := [(.ref w_4)]) (rest := []) (lenOf pd_0 rfl) rfl (by show 2 * 0 + _ ≤ _; exact Nat.le_of_eq rfl) (hb hby d1_2) (fun _ _ => ⟨rfl, e0, (by decide : 0 + 0 ≤ _), (by decide : 0 + 0 ≤ _)⟩)
  dsimp only [Pt.U, Pt.locs, Pt.cells, Pt.slots] at X312 l312 y312 z312 st312 hQ312
  subst l312 y312 z312
  obtain ⟨rv312, N312q, e312⟩ := hQ312
  rw [show sp2x16 = (1 : Int32) from by unfold sp2x16; rfl] at rv312
  subst rv312
  have N312 := Fr.app N0 N312q
  obtain ⟨fs, hr, hrun, hended, hW, hsame⟩ := X312.leave (v := some (.ref w_4)) (fun h => by rw [Bd.returns] at h; cases h)
  refine ⟨_, _, pre0 _ ?_, hrun, hended, _, _, rfl, ?_, ⟨_, rfl⟩, hW, hsame.mono (by decide) (by decide)⟩
  · show Steps p.tables e below (s₁.setTop (mkF m 0 #[.val (.ref w_4), .val (.ref w_4)] [])) _
    refine XS.aloadN X0.here hx rfl (hb hby d1_0) rfl rfl ?_
    show Steps p.tables e below (s₁.setTop (mkF m 1 #[.val (.ref w_4), .val (.ref w_4)] [(.ref w_4)])) _
    refine XS.aloadN X0.here hx rfl (hb hby d1_1) rfl rfl ?_
    show Steps p.tables e below (s₁.setTop (mkF m 2 #[.val (.ref w_4), .val (.ref w_4)] [(.ref w_4), (.ref w_4)])) _
    refine st312.trans ?_
    show Steps p.tables e below (T312.setTop (mkF m 5 #[.val (.ref w_4), .val (.ref w_4)] [(.int (1 : Int32))])) _
    refine XS.ifNo X312.here hx rfl (hb hby d1_5) rfl ((if0 _ _).trans (feq (by decide : ¬ ((1 : Int32) = (0 : Int32)))).1) ?_
    show Steps p.tables e below (T312.setTop (mkF m 8 #[.val (.ref w_4), .val (.ref w_4)] [])) _
    refine XS.aloadN X312.here hx rfl (hb hby d1_8) rfl rfl ?_
    show Steps p.tables e below (T312.setTop (mkF m 9 #[.val (.ref w_4), .val (.ref w_4)] [(.ref w_4)])) _
    refine XS.goto X312.here hx rfl (pc0 := 9) (pc' := 15) rfl (hb hby d1_9) (by decide) (by decide) ?_
    show Steps p.tables e below (T312.setTop (mkF m 15 #[.val (.ref w_4), .val (.ref w_4)] [(.ref w_4)])) _
    jvm_step X312.here [X312.here.top, hx, (hb hby d1_15), X312.method', Bd.returns, Value.isRef, FieldType.isReference]
    first | (intro acts; rw [hr _ acts rfl rfl rfl]) | rw [hr _ _ rfl rfl rfl]
    exact Steps.refl _
  · show Q1x16 Z w_1 w_2 w_3 w_4 w_5 k_5 h0 n0 _ T312.heap _
    rw [e312]
    exact ⟨by unfold sp1x16; rfl, N312, rfl⟩
theorem pn_0 : plainName "com/example/lucid_locks/lucidlocks/locks/LockModeCombinedWithPinLaw" = true := by first | (simp [plainName, overriddenIn]; done) | decide +kernel
theorem ef_0 (m : MethodId) (p0 : Int32) (p1 : Int32) : entryFrame m #[(.int p0), (.int p1)] maxLocals = mkF m 0 #[.val (.int p0), .val (.int p1), .unset, .unset, .unset, .unset, .unset, .unset] [] := by first | (simp [entryFrame, mkF, argsToLocals, Value.category, maxLocals]; done) | rfl
def sp0 (p0 : Int32) (p1 : Int32) : Int32 := (if (p0 &&& (3 : Int32)) = (0 : Int32) then (if (p1 &&& (3 : Int32)) = (0 : Int32) then (1 : Int32) else (if (p1 &&& (3 : Int32)) = (1 : Int32) then (1 : Int32) else (if (p1 &&& (3 : Int32)) = (2 : Int32) then (1 : Int32) else (1 : Int32)))) else (if (p0 &&& (3 : Int32)) = (1 : Int32) then (if (p1 &&& (3 : Int32)) = (0 : Int32) then (1 : Int32) else (if (p1 &&& (3 : Int32)) = (1 : Int32) then (1 : Int32) else (if (p1 &&& (3 : Int32)) = (2 : Int32) then (1 : Int32) else (1 : Int32)))) else (if (p0 &&& (3 : Int32)) = (2 : Int32) then (if (p1 &&& (3 : Int32)) = (0 : Int32) then (1 : Int32) else (if (p1 &&& (3 : Int32)) = (1 : Int32) then (1 : Int32) else (if (p1 &&& (3 : Int32)) = (2 : Int32) then (1 : Int32) else (1 : Int32)))) else (if (p1 &&& (3 : Int32)) = (0 : Int32) then (1 : Int32) else (if (p1 &&& (3 : Int32)) = (1 : Int32) then (1 : Int32) else (if (p1 &&& (3 : Int32)) = (2 : Int32) then (1 : Int32) else (1 : Int32)))))))
def Q0 (Z : State) (w_1 : Addr) (w_2 : Addr) (w_3 : Addr) (w_4 : Addr) (w_5 : Addr) (k_5 : ClassId) (p0 : Int32) (p1 : Int32) (h0 : Heap) (n0 : Nat) (v : Option Value) (h : Heap) (L : List Loc) : Prop := v = some (.int (sp0 p0 p1)) ∧ Fr n0 L ∧ True
set_option maxRecDepth 65536 in
set_option maxHeartbeats 40000000 in
theorem rm0 (l : Launch) (Z : State) (a0 : Array Value) (hw : ∀ d ∈ tables_1, d.before a0 Z = true) (ws : List Jvm.Cond) (w_1 : Addr) (w_2 : Addr) (w_3 : Addr) (w_4 : Addr) (w_5 : Addr) (k_5 : ClassId) (hS : StF Z w_1 w_2 w_3 w_4 w_5 k_5) (p0 : Int32) (p1 : Int32) (h0 : Heap) (n0 : Nat) (O0 : Old Z n0 h0) :
    MetFree l x (head1 (Jvm.Cond.code x code maxLocals ret :: ws) room_1) (fun a U => a = #[(.int p0), (.int p1)] ∧ Z.Warmed39 U.vm ∧ U.heap = h0) (fun _ _ _ _ _ => True) (fun _ U o U' => ∃ v L, o = .returned v ∧ Q0 Z w_1 w_2 w_3 w_4 w_5 k_5 p0 p1 h0 n0 v U'.heap L ∧ FrameEnd U o U' L room_1.cells room_1.slots) := by
  refine MetFree.of_bodySF (plainFor_of_name pn_0) hisR ?_
  intro p e s m args below meth c s₁ Bd hml0 hP hK
  obtain ⟨rfl, hZ, hh⟩ := hP
  have hx := Bd.exec
  have hby := Bd.bytes
  have hml : c.maxLocals = 8 := hml0
  have hown : s.vm.findClass "com/example/lucid_locks/lucidlocks/locks/LockModeCombinedWithPinLaw" = some m.cls := findClass_of_methodNamed Bd.named
  have hnm := (name_of_methodNamed Bd.named Bd.method).1
  have X0 : Stand p l e room_1 s m #[(.int p0), (.int p1)] below meth c s₁ [] 0 0 := Stand.of_body Bd
  have e0 : s₁.heap = h0 := by rw [← hh, Bd.state]; rfl
  have N0 := Fr.nil n0
  have hS0 := hS
  obtain ⟨S_1, E_1, S_2, E_2, S_3, E_3, S_4, E_4, S_5, F_1_sharedWithItself, F_1_ordinal, F_2_ordinal, F_4_ordinal, F_3_ordinal, F_4_sharedWithItself, F_2_sharedWithItself, F_3_sharedWithItself, V_5⟩ := hS
  have pre0 : ∀ t, Steps p.tables e below (s₁.setTop (mkF m 0 #[.val (.int p0), .val (.int p1), .unset, .unset, .unset, .unset, .unset, .unset] [])) t → Steps p.tables e below (s₁.setTop (entryFrame m #[(.int p0), (.int p1)] maxLocals)) t := fun t k => castTop (ef_0 m p0 p1) k
  obtain ⟨T35, h35, k35, X35, e35, E35, A35, OV35, st35⟩ := newR X0 hx hZ hown (hw _ (tk 0 rfl)) (hw _ (tk 1 rfl)) e0 (g := (mkF m 1 #[.val (.int p0), .val (.int p1), .unset, .unset, .unset, .unset, .unset, .unset] [(.int (4 : Int32))])) rfl (hb hby at_1) rfl (by decide) (cap := 4) (by decide) (by decide) (by decide) (by decide)
  obtain ⟨b35, g35⟩ : ∃ z, z = h0.size := ⟨_, rfl⟩
  rw [← g35] at A35 st35
  have g_b35 : n0 ≤ b35 := Nat.le_trans (own_old O0) (Nat.le_of_eq g35.symm)
  have O35 : Old Z n0 h35 := O0.ext E35
  have V_b35 : Arv Z h35 b35 k35 (.object "com/example/lucid_locks/lucidlocks/locks/LockMode") (4 : Int32) [.null, .null, .null, .null] .null := (Arv.new A35 (by decide)).pad (pad_rep [] .null 4)
  obtain ⟨T36, X36, e36, st36⟩ := getS2 X35 hx hZ hown (host := "") (Or.inl (hw _ (tk 2 rfl))) Via.refl e35 (S_1.ext O35.2) (g := (mkF m 6 #[.val (.int p0), .val (.int p1), .unset, .unset, .unset, .unset, .unset, .unset] [(.int (0 : Int32)), (.ref b35), (.ref b35)])) rfl (hb hby at_6)
  obtain ⟨cl37, Ar37, qa37, Sa37, Ma37, Ha37, Ga37⟩ := id V_b35
  have hin37 : ¬ ((0 : Int32) < 0 ∨ cl37.slots.size ≤ ((0 : Int32)).toNatClampNeg) := by exact inb_of Sa37 ⟨by decide, by decide⟩
  obtain ⟨T38, h38, X38, e38, W38, st38⟩ := stR X36 hx hZ e36 Ar37 (j := (0 : Int32)) hin37 rfl (Sto.ofV Ar37 qa37 OV35 (Ins.self (E_1.ext O35.2))) (g := (mkF m 9 #[.val (.int p0), .val (.int p1), .unset, .unset, .unset, .unset, .unset, .unset] [(.ref w_1), (.int (0 : Int32)), (.ref b35), (.ref b35)])) rfl rfl (hb hby at_9)
  have V_b35_38 : Arv Z h38 b35 k35 (.object "com/example/lucid_locks/lucidlocks/locks/LockMode") (4 : Int32) [(.ref w_1), .null, .null, .null] .null := Arv.set Ar37 qa37 Sa37 Ma37 Ha37 Ga37 rfl W38 0 rfl (Nat.le_of_ble_eq_true rfl)
  have O38 : Old Z n0 h38 := O35.wr W38 g_b35
  have N38 := Fr.snoc X38 N0 g_b35
  obtain ⟨T39, X39, e39, st39⟩ := getS2 X38 hx hZ hown (host := "") (Or.inl (hw _ (tk 6 rfl))) Via.refl e38 (S_2.ext O38.2) (g := (mkF m 12 #[.val (.int p0), .val (.int p1), .unset, .unset, .unset, .unset, .unset, .unset] [(.int (1 : Int32)), (.ref b35), (.ref b35)])) rfl (hb hby at_12)
  obtain ⟨cl40, Ar40, qa40, Sa40, Ma40, Ha40, Ga40⟩ := id V_b35_38
  have hin40 : ¬ ((1 : Int32) < 0 ∨ cl40.slots.size ≤ ((1 : Int32)).toNatClampNeg) := by exact inb_of Sa40 ⟨by decide, by decide⟩
  obtain ⟨T41, h41, X41, e41, W41, st41⟩ := stR X39 hx hZ e39 Ar40 (j := (1 : Int32)) hin40 rfl (Sto.ofV Ar40 qa40 OV35 (Ins.self (E_2.ext O38.2))) (g := (mkF m 15 #[.val (.int p0), .val (.int p1), .unset, .unset, .unset, .unset, .unset, .unset] [(.ref w_2), (.int (1 : Int32)), (.ref b35), (.ref b35)])) rfl rfl (hb hby at_15)
  have V_b35_41 : Arv Z h41 b35 k35 (.object "com/example/lucid_locks/lucidlocks/locks/LockMode") (4 : Int32) [(.ref w_1), (.ref w_2), .null, .null] .null := Arv.set Ar40 qa40 Sa40 Ma40 Ha40 Ga40 rfl W41 1 rfl (Nat.le_of_ble_eq_true rfl)
  have O41 : Old Z n0 h41 := O38.wr W41 g_b35
  have N41 := Fr.snoc X41 N38 g_b35
  obtain ⟨T42, X42, e42, st42⟩ := getS2 X41 hx hZ hown (host := "") (Or.inl (hw _ (tk 8 rfl))) Via.refl e41 (S_3.ext O41.2) (g := (mkF m 18 #[.val (.int p0), .val (.int p1), .unset, .unset, .unset, .unset, .unset, .unset] [(.int (2 : Int32)), (.ref b35), (.ref b35)])) rfl (hb hby at_18)
  obtain ⟨cl43, Ar43, qa43, Sa43, Ma43, Ha43, Ga43⟩ := id V_b35_41
  have hin43 : ¬ ((2 : Int32) < 0 ∨ cl43.slots.size ≤ ((2 : Int32)).toNatClampNeg) := by exact inb_of Sa43 ⟨by decide, by decide⟩
  obtain ⟨T44, h44, X44, e44, W44, st44⟩ := stR X42 hx hZ e42 Ar43 (j := (2 : Int32)) hin43 rfl (Sto.ofV Ar43 qa43 OV35 (Ins.self (E_3.ext O41.2))) (g := (mkF m 21 #[.val (.int p0), .val (.int p1), .unset, .unset, .unset, .unset, .unset, .unset] [(.ref w_3), (.int (2 : Int32)), (.ref b35), (.ref b35)])) rfl rfl (hb hby at_21)
  have V_b35_44 : Arv Z h44 b35 k35 (.object "com/example/lucid_locks/lucidlocks/locks/LockMode") (4 : Int32) [(.ref w_1), (.ref w_2), (.ref w_3), .null] .null := Arv.set Ar43 qa43 Sa43 Ma43 Ha43 Ga43 rfl W44 2 rfl (Nat.le_of_ble_eq_true rfl)
  have O44 : Old Z n0 h44 := O41.wr W44 g_b35
  have N44 := Fr.snoc X44 N41 g_b35
  obtain ⟨T45, X45, e45, st45⟩ := getS2 X44 hx hZ hown (host := "") (Or.inl (hw _ (tk 10 rfl))) Via.refl e44 (S_4.ext O44.2) (g := (mkF m 24 #[.val (.int p0), .val (.int p1), .unset, .unset, .unset, .unset, .unset, .unset] [(.int (3 : Int32)), (.ref b35), (.ref b35)])) rfl (hb hby at_24)
  obtain ⟨cl46, Ar46, qa46, Sa46, Ma46, Ha46, Ga46⟩ := id V_b35_44
  have hin46 : ¬ ((3 : Int32) < 0 ∨ cl46.slots.size ≤ ((3 : Int32)).toNatClampNeg) := by exact inb_of Sa46 ⟨by decide, by decide⟩
  obtain ⟨T47, h47, X47, e47, W47, st47⟩ := stR X45 hx hZ e45 Ar46 (j := (3 : Int32)) hin46 rfl (Sto.ofV Ar46 qa46 OV35 (Ins.self (E_4.ext O44.2))) (g := (mkF m 27 #[.val (.int p0), .val (.int p1), .unset, .unset, .unset, .unset, .unset, .unset] [(.ref w_4), (.int (3 : Int32)), (.ref b35), (.ref b35)])) rfl rfl (hb hby at_27)
  have V_b35_47 : Arv Z h47 b35 k35 (.object "com/example/lucid_locks/lucidlocks/locks/LockMode") (4 : Int32) [(.ref w_1), (.ref w_2), (.ref w_3), (.ref w_4)] .null := Arv.set Ar46 qa46 Sa46 Ma46 Ha46 Ga46 rfl W47 3 rfl (Nat.le_of_ble_eq_true rfl)
  have O47 : Old Z n0 h47 := O44.wr W47 g_b35
  have N47 := Fr.snoc X47 N44 g_b35
  have pre48 : ∀ t, Steps p.tables e below (T47.setTop (mkF m 40 #[.val (.int p0), .val (.int p1), .val (.ref b35), .val (.int (p0 &&& (3 : Int32))), .val (.int (p1 &&& (3 : Int32))), .unset, .unset, .unset] [(.int (p0 &&& (3 : Int32))), (.ref b35)])) t → Steps p.tables e below (s₁.setTop (entryFrame m #[(.int p0), (.int p1)] maxLocals)) t := fun t kt => by
    refine pre0 t ?_
    show Steps p.tables e below (s₁.setTop (mkF m 0 #[.val (.int p0), .val (.int p1), .unset, .unset, .unset, .unset, .unset, .unset] [])) _
    refine XS.iconst X0.here hx rfl (hb hby at_0) ?_
    show Steps p.tables e below (s₁.setTop (mkF m 1 #[.val (.int p0), .val (.int p1), .unset, .unset, .unset, .unset, .unset, .unset] [(.int (4 : Int32))])) _
    refine st35 _ ?_
    show Steps p.tables e below (T35.setTop (mkF m 4 #[.val (.int p0), .val (.int p1), .unset, .unset, .unset, .unset, .unset, .unset] [(.ref b35)])) _
    refine XS.dup X35.here hx rfl (hb hby at_4) rfl rfl ?_
    show Steps p.tables e below (T35.setTop (mkF m 5 #[.val (.int p0), .val (.int p1), .unset, .unset, .unset, .unset, .unset, .unset] [(.ref b35), (.ref b35)])) _
    refine XS.iconst X35.here hx rfl (hb hby at_5) ?_
    show Steps p.tables e below (T35.setTop (mkF m 6 #[.val (.int p0), .val (.int p1), .unset, .unset, .unset, .unset, .unset, .unset] [(.int (0 : Int32)), (.ref b35), (.ref b35)])) _
    refine st36 _ ?_
    show Steps p.tables e below (T36.setTop (mkF m 9 #[.val (.int p0), .val (.int p1), .unset, .unset, .unset, .unset, .unset, .unset] [(.ref w_1), (.int (0 : Int32)), (.ref b35), (.ref b35)])) _
    refine st38 _ ?_
    show Steps p.tables e below (T38.setTop (mkF m 10 #[.val (.int p0), .val (.int p1), .unset, .unset, .unset, .unset, .unset, .unset] [(.ref b35)])) _
    refine XS.dup X38.here hx rfl (hb hby at_10) rfl rfl ?_
    show Steps p.tables e below (T38.setTop (mkF m 11 #[.val (.int p0), .val (.int p1), .unset, .unset, .unset, .unset, .unset, .unset] [(.ref b35), (.ref b35)])) _
    refine XS.iconst X38.here hx rfl (hb hby at_11) ?_
    show Steps p.tables e below (T38.setTop (mkF m 12 #[.val (.int p0), .val (.int p1), .unset, .unset, .unset, .unset, .unset, .unset] [(.int (1 : Int32)), (.ref b35), (.ref b35)])) _
    refine st39 _ ?_
    show Steps p.tables e below (T39.setTop (mkF m 15 #[.val (.int p0), .val (.int p1), .unset, .unset, .unset, .unset, .unset, .unset] [(.ref w_2), (.int (1 : Int32)), (.ref b35), (.ref b35)])) _
    refine st41 _ ?_
    show Steps p.tables e below (T41.setTop (mkF m 16 #[.val (.int p0), .val (.int p1), .unset, .unset, .unset, .unset, .unset, .unset] [(.ref b35)])) _
    refine XS.dup X41.here hx rfl (hb hby at_16) rfl rfl ?_
    show Steps p.tables e below (T41.setTop (mkF m 17 #[.val (.int p0), .val (.int p1), .unset, .unset, .unset, .unset, .unset, .unset] [(.ref b35), (.ref b35)])) _
    refine XS.iconst X41.here hx rfl (hb hby at_17) ?_
    show Steps p.tables e below (T41.setTop (mkF m 18 #[.val (.int p0), .val (.int p1), .unset, .unset, .unset, .unset, .unset, .unset] [(.int (2 : Int32)), (.ref b35), (.ref b35)])) _
    refine st42 _ ?_
    show Steps p.tables e below (T42.setTop (mkF m 21 #[.val (.int p0), .val (.int p1), .unset, .unset, .unset, .unset, .unset, .unset] [(.ref w_3), (.int (2 : Int32)), (.ref b35), (.ref b35)])) _
    refine st44 _ ?_
    show Steps p.tables e below (T44.setTop (mkF m 22 #[.val (.int p0), .val (.int p1), .unset, .unset, .unset, .unset, .unset, .unset] [(.ref b35)])) _
    refine XS.dup X44.here hx rfl (hb hby at_22) rfl rfl ?_
    show Steps p.tables e below (T44.setTop (mkF m 23 #[.val (.int p0), .val (.int p1), .unset, .unset, .unset, .unset, .unset, .unset] [(.ref b35), (.ref b35)])) _
    refine XS.iconst X44.here hx rfl (hb hby at_23) ?_
    show Steps p.tables e below (T44.setTop (mkF m 24 #[.val (.int p0), .val (.int p1), .unset, .unset, .unset, .unset, .unset, .unset] [(.int (3 : Int32)), (.ref b35), (.ref b35)])) _
    refine st45 _ ?_
    show Steps p.tables e below (T45.setTop (mkF m 27 #[.val (.int p0), .val (.int p1), .unset, .unset, .unset, .unset, .unset, .unset] [(.ref w_4), (.int (3 : Int32)), (.ref b35), (.ref b35)])) _
    refine st47 _ ?_
    show Steps p.tables e below (T47.setTop (mkF m 28 #[.val (.int p0), .val (.int p1), .unset, .unset, .unset, .unset, .unset, .unset] [(.ref b35)])) _
    refine XS.astoreN X47.here hx rfl (hb hby at_28) rfl rfl (l' := #[.val (.int p0), .val (.int p1), .val (.ref b35), .unset, .unset, .unset, .unset, .unset]) rfl ?_
    show Steps p.tables e below (T47.setTop (mkF m 29 #[.val (.int p0), .val (.int p1), .val (.ref b35), .unset, .unset, .unset, .unset, .unset] [])) _
    refine XS.iloadN X47.here hx rfl (hb hby at_29) rfl ?_
    show Steps p.tables e below (T47.setTop (mkF m 30 #[.val (.int p0), .val (.int p1), .val (.ref b35), .unset, .unset, .unset, .unset, .unset] [(.int p0)])) _
    refine XS.iconst X47.here hx rfl (hb hby at_30) ?_
    show Steps p.tables e below (T47.setTop (mkF m 31 #[.val (.int p0), .val (.int p1), .val (.ref b35), .unset, .unset, .unset, .unset, .unset] [(.int (3 : Int32)), (.int p0)])) _
    refine XS.iand X47.here hx rfl (hb hby at_31) rfl ?_
    show Steps p.tables e below (T47.setTop (mkF m 32 #[.val (.int p0), .val (.int p1), .val (.ref b35), .unset, .unset, .unset, .unset, .unset] [(.int (p0 &&& (3 : Int32)))])) _
    refine XS.istoreN X47.here hx rfl (hb hby at_32) rfl (l' := #[.val (.int p0), .val (.int p1), .val (.ref b35), .val (.int (p0 &&& (3 : Int32))), .unset, .unset, .unset, .unset]) rfl ?_
    show Steps p.tables e below (T47.setTop (mkF m 33 #[.val (.int p0), .val (.int p1), .val (.ref b35), .val (.int (p0 &&& (3 : Int32))), .unset, .unset, .unset, .unset] [])) _
    refine XS.iloadN X47.here hx rfl (hb hby at_33) rfl ?_
    show Steps p.tables e below (T47.setTop (mkF m 34 #[.val (.int p0), .val (.int p1), .val (.ref b35), .val (.int (p0 &&& (3 : Int32))), .unset, .unset, .unset, .unset] [(.int p1)])) _
    refine XS.iconst X47.here hx rfl (hb hby at_34) ?_
    show Steps p.tables e below (T47.setTop (mkF m 35 #[.val (.int p0), .val (.int p1), .val (.ref b35), .val (.int (p0 &&& (3 : Int32))), .unset, .unset, .unset, .unset] [(.int (3 : Int32)), (.int p1)])) _
    refine XS.iand X47.here hx rfl (hb hby at_35) rfl ?_
    show Steps p.tables e below (T47.setTop (mkF m 36 #[.val (.int p0), .val (.int p1), .val (.ref b35), .val (.int (p0 &&& (3 : Int32))), .unset, .unset, .unset, .unset] [(.int (p1 &&& (3 : Int32)))])) _
    refine XS.istore X47.here hx rfl (hb hby at_36) rfl (l' := #[.val (.int p0), .val (.int p1), .val (.ref b35), .val (.int (p0 &&& (3 : Int32))), .val (.int (p1 &&& (3 : Int32))), .unset, .unset, .unset]) rfl ?_
    show Steps p.tables e below (T47.setTop (mkF m 38 #[.val (.int p0), .val (.int p1), .val (.ref b35), .val (.int (p0 &&& (3 : Int32))), .val (.int (p1 &&& (3 : Int32))), .unset, .unset, .unset] [])) _
    refine XS.aloadN X47.here hx rfl (hb hby at_38) rfl rfl ?_
    show Steps p.tables e below (T47.setTop (mkF m 39 #[.val (.int p0), .val (.int p1), .val (.ref b35), .val (.int (p0 &&& (3 : Int32))), .val (.int (p1 &&& (3 : Int32))), .unset, .unset, .unset] [(.ref b35)])) _
    refine XS.iloadN X47.here hx rfl (hb hby at_39) rfl ?_
    show Steps p.tables e below (T47.setTop (mkF m 40 #[.val (.int p0), .val (.int p1), .val (.ref b35), .val (.int (p0 &&& (3 : Int32))), .val (.int (p1 &&& (3 : Int32))), .unset, .unset, .unset] [(.int (p0 &&& (3 : Int32))), (.ref b35)])) _
    exact kt
  by_cases hc49 : (p0 &&& (3 : Int32)) = (0 : Int32)
  · obtain ⟨cl50, Ar50, qa50, Sa50, Ma50, Ha50, Ga50⟩ := id V_b35_47
    have hin50 : ¬ ((p0 &&& (3 : Int32)) < 0 ∨ cl50.slots.size ≤ ((p0 &&& (3 : Int32))).toNatClampNeg) := by rw [hc49]; exact inb_of Sa50 ⟨by decide, by decide⟩
    have hat50 : cl50.slots[((p0 &&& (3 : Int32))).toNatClampNeg]? = some (.ref w_1) := Has.at Ha50 hin50 (by rw [hc49]; rfl)
    have pre51 : ∀ t, Steps p.tables e below (T47.setTop (mkF m 46 #[.val (.int p0), .val (.int p1), .val (.ref b35), .val (.int (p0 &&& (3 : Int32))), .val (.int (p1 &&& (3 : Int32))), .val (.ref w_1), .unset, .unset] [(.int (p1 &&& (3 : Int32))), (.ref b35)])) t → Steps p.tables e below (s₁.setTop (entryFrame m #[(.int p0), (.int p1)] maxLocals)) t := fun t kt => by
      refine pre48 t ?_
      show Steps p.tables e below (T47.setTop (mkF m 40 #[.val (.int p0), .val (.int p1), .val (.ref b35), .val (.int (p0 &&& (3 : Int32))), .val (.int (p1 &&& (3 : Int32))), .unset, .unset, .unset] [(.int (p0 &&& (3 : Int32))), (.ref b35)])) _
      refine X47.aaload hx (j := (p0 &&& (3 : Int32))) (v := (.ref w_1)) (by rw [e47]; exact Ar50.1) (State.isArrayOf_alike hZ.alike Ar50.2.1) rfl Ar50.2.2 hin50 hat50 (g := (mkF m 40 #[.val (.int p0), .val (.int p1), .val (.ref b35), .val (.int (p0 &&& (3 : Int32))), .val (.int (p1 &&& (3 : Int32))), .unset, .unset, .unset] [(.int (p0 &&& (3 : Int32))), (.ref b35)])) rfl rfl (hb hby at_40) _ ?_
      show Steps p.tables e below (T47.setTop (mkF m 41 #[.val (.int p0), .val (.int p1), .val (.ref b35), .val (.int (p0 &&& (3 : Int32))), .val (.int (p1 &&& (3 : Int32))), .unset, .unset, .unset] [(.ref w_1)])) _
      refine XS.astore X47.here hx rfl (hb hby at_41) rfl rfl (l' := #[.val (.int p0), .val (.int p1), .val (.ref b35), .val (.int (p0 &&& (3 : Int32))), .val (.int (p1 &&& (3 : Int32))), .val (.ref w_1), .unset, .unset]) rfl ?_
      show Steps p.tables e below (T47.setTop (mkF m 43 #[.val (.int p0), .val (.int p1), .val (.ref b35), .val (.int (p0 &&& (3 : Int32))), .val (.int (p1 &&& (3 : Int32))), .val (.ref w_1), .unset, .unset] [])) _
      refine XS.aloadN X47.here hx rfl (hb hby at_43) rfl rfl ?_
      show Steps p.tables e below (T47.setTop (mkF m 44 #[.val (.int p0), .val (.int p1), .val (.ref b35), .val (.int (p0 &&& (3 : Int32))), .val (.int (p1 &&& (3 : Int32))), .val (.ref w_1), .unset, .unset] [(.ref b35)])) _
      refine XS.iload X47.here hx rfl (hb hby at_44) rfl ?_
      show Steps p.tables e below (T47.setTop (mkF m 46 #[.val (.int p0), .val (.int p1), .val (.ref b35), .val (.int (p0 &&& (3 : Int32))), .val (.int (p1 &&& (3 : Int32))), .val (.ref w_1), .unset, .unset] [(.int (p1 &&& (3 : Int32))), (.ref b35)])) _
      exact kt
    by_cases hc52 : (p1 &&& (3 : Int32)) = (0 : Int32)
    · obtain ⟨cl53, Ar53, qa53, Sa53, Ma53, Ha53, Ga53⟩ := id V_b35_47
      have hin53 : ¬ ((p1 &&& (3 : Int32)) < 0 ∨ cl53.slots.size ≤ ((p1 &&& (3 : Int32))).toNatClampNeg) := by rw [hc52]; exact inb_of Sa53 ⟨by decide, by decide⟩
      have hat53 : cl53.slots[((p1 &&& (3 : Int32))).toNatClampNeg]? = some (.ref w_1) := Has.at Ha53 hin53 (by rw [hc52]; rfl)
      obtain ⟨cq73, kq73, q73a, q73b, q73c⟩ := isOf hZ e47 (E_1.ext O47.2)
      obtain ⟨_, _, ⟨T73, L73, k73, n73⟩, -, X73, ⟨Lc73, hQ73, l73, y73, z73⟩, st73⟩ := X47.virtualBack hx (y := Y2) (z := Y2) hown (mvT hZ (hw _ (tk 12 rfl))) (mvT hZ (hw _ (tk 13 rfl))) (notFace_of_selects (args := #[]) (mvT hZ (hw _ (tk 15 rfl)))) (mvT hZ (hw _ (tk 15 rfl))) (mvT hZ (hw _ (tk 14 rfl))) (by decide) (backOf (W := 0) (rm1x1 l Z a0 hw [] w_1 w_2 w_3 w_4 w_5 k_5 hS0 h47 n0 O47) hZ (hw _ (tk 16 rfl)) (hw _ (tk 3 rfl)) (by decide) (by decide)) q73a q73c (g := (mkF m 84 #[.val (.int p0), .val (.int p1), .val (.ref b35), .val (.int (p0 &&& (3 : Int32))), .val (.int (p1 &&& (3 : Int32))), .val (.ref w_1), .val (.ref w_1), .val (.ref w_1)] [(.ref w_1), (.ref w_1)])) rfl (by rw [hml]; rfl) (Steps.refl _) (argsL := [(.ref w_1)]) (rest := []) (lenOf pd_1 rfl) rfl (by show 2 * 0 + _ ≤ _; exact Nat.le_of_eq rfl) (hb hby at_84) (fun _ _ => ⟨rfl, e47, (by decide : 1 + 0 ≤ _), (by decide : 4 + 0 ≤ _)⟩)
      dsimp only [Pt.U, Pt.locs, Pt.cells, Pt.slots] at X73 l73 y73 z73 st73 hQ73
      subst l73 y73 z73
      obtain ⟨rv73, N73q, e73⟩ := hQ73
      rw [show sp1x1 w_1 = (.ref w_1) from by unfold sp1x1; rfl] at rv73
      subst rv73
      have N73 := Fr.app N47 N73q
      obtain ⟨fs, hr, hrun, hended, hW, hsame⟩ := X73.leave (v := some (.int (1 : Int32))) (fun h => by rw [Bd.returns] at h; cases h)
      refine ⟨_, _, pre51 _ ?_, hrun, hended, _, _, rfl, ?_, ⟨_, rfl⟩, hW, hsame.mono (by decide) (by decide)⟩
      · show Steps p.tables e below (T47.setTop (mkF m 46 #[.val (.int p0), .val (.int p1), .val (.ref b35), .val (.int (p0 &&& (3 : Int32))), .val (.int (p1 &&& (3 : Int32))), .val (.ref w_1), .unset, .unset] [(.int (p1 &&& (3 : Int32))), (.ref b35)])) _
        refine X47.aaload hx (j := (p1 &&& (3 : Int32))) (v := (.ref w_1)) (by rw [e47]; exact Ar53.1) (State.isArrayOf_alike hZ.alike Ar53.2.1) rfl Ar53.2.2 hin53 hat53 (g := (mkF m 46 #[.val (.int p0), .val (.int p1), .val (.ref b35), .val (.int (p0 &&& (3 : Int32))), .val (.int (p1 &&& (3 : Int32))), .val (.ref w_1), .unset, .unset] [(.int (p1 &&& (3 : Int32))), (.ref b35)])) rfl rfl (hb hby at_46) _ ?_
        show Steps p.tables e below (T47.setTop (mkF m 47 #[.val (.int p0), .val (.int p1), .val (.ref b35), .val (.int (p0 &&& (3 : Int32))), .val (.int (p1 &&& (3 : Int32))), .val (.ref w_1), .unset, .unset] [(.ref w_1)])) _
        refine XS.astore X47.here hx rfl (hb hby at_47) rfl rfl (l' := #[.val (.int p0), .val (.int p1), .val (.ref b35), .val (.int (p0 &&& (3 : Int32))), .val (.int (p1 &&& (3 : Int32))), .val (.ref w_1), .val (.ref w_1), .unset]) rfl ?_
        show Steps p.tables e below (T47.setTop (mkF m 49 #[.val (.int p0), .val (.int p1), .val (.ref b35), .val (.int (p0 &&& (3 : Int32))), .val (.int (p1 &&& (3 : Int32))), .val (.ref w_1), .val (.ref w_1), .unset] [])) _
        refine XS.iload X47.here hx rfl (hb hby at_49) rfl ?_
        show Steps p.tables e below (T47.setTop (mkF m 51 #[.val (.int p0), .val (.int p1), .val (.ref b35), .val (.int (p0 &&& (3 : Int32))), .val (.int (p1 &&& (3 : Int32))), .val (.ref w_1), .val (.ref w_1), .unset] [(.int (p1 &&& (3 : Int32)))])) _
        refine XS.iconst X47.here hx rfl (hb hby at_51) ?_
        show Steps p.tables e below (T47.setTop (mkF m 52 #[.val (.int p0), .val (.int p1), .val (.ref b35), .val (.int (p0 &&& (3 : Int32))), .val (.int (p1 &&& (3 : Int32))), .val (.ref w_1), .val (.ref w_1), .unset] [(.int (2 : Int32)), (.int (p1 &&& (3 : Int32)))])) _
        refine XS.icmpYes X47.here hx rfl (pc0 := 52) (pc' := 62) rfl (hb hby at_52) rfl (tlt (by rw [hc52] <;> decide : ((p1 &&& (3 : Int32)) < (2 : Int32)))).1 (by decide) (by decide) ?_
        show Steps p.tables e below (T47.setTop (mkF m 62 #[.val (.int p0), .val (.int p1), .val (.ref b35), .val (.int (p0 &&& (3 : Int32))), .val (.int (p1 &&& (3 : Int32))), .val (.ref w_1), .val (.ref w_1), .unset] [])) _
        refine XS.iloadN X47.here hx rfl (hb hby at_62) rfl ?_
        show Steps p.tables e below (T47.setTop (mkF m 63 #[.val (.int p0), .val (.int p1), .val (.ref b35), .val (.int (p0 &&& (3 : Int32))), .val (.int (p1 &&& (3 : Int32))), .val (.ref w_1), .val (.ref w_1), .unset] [(.int (p0 &&& (3 : Int32)))])) _
        refine XS.iload X47.here hx rfl (hb hby at_63) rfl ?_
        show Steps p.tables e below (T47.setTop (mkF m 65 #[.val (.int p0), .val (.int p1), .val (.ref b35), .val (.int (p0 &&& (3 : Int32))), .val (.int (p1 &&& (3 : Int32))), .val (.ref w_1), .val (.ref w_1), .unset] [(.int (p1 &&& (3 : Int32))), (.int (p0 &&& (3 : Int32)))])) _
        refine XS.icmpNo X47.here hx rfl (hb hby at_65) rfl (teq (by rw [hc49, hc52] <;> decide : ((p0 &&& (3 : Int32)) = (p1 &&& (3 : Int32))))).2 ?_
        show Steps p.tables e below (T47.setTop (mkF m 68 #[.val (.int p0), .val (.int p1), .val (.ref b35), .val (.int (p0 &&& (3 : Int32))), .val (.int (p1 &&& (3 : Int32))), .val (.ref w_1), .val (.ref w_1), .unset] [])) _
        refine XS.aload X47.here hx rfl (hb hby at_68) rfl rfl ?_
        show Steps p.tables e below (T47.setTop (mkF m 70 #[.val (.int p0), .val (.int p1), .val (.ref b35), .val (.int (p0 &&& (3 : Int32))), .val (.int (p1 &&& (3 : Int32))), .val (.ref w_1), .val (.ref w_1), .unset] [(.ref w_1)])) _
        refine XS.astore X47.here hx rfl (hb hby at_70) rfl rfl (l' := #[.val (.int p0), .val (.int p1), .val (.ref b35), .val (.int (p0 &&& (3 : Int32))), .val (.int (p1 &&& (3 : Int32))), .val (.ref w_1), .val (.ref w_1), .val (.ref w_1)]) rfl ?_
        show Steps p.tables e below (T47.setTop (mkF m 72 #[.val (.int p0), .val (.int p1), .val (.ref b35), .val (.int (p0 &&& (3 : Int32))), .val (.int (p1 &&& (3 : Int32))), .val (.ref w_1), .val (.ref w_1), .val (.ref w_1)] [])) _
        refine XS.goto X47.here hx rfl (pc0 := 72) (pc' := 80) rfl (hb hby at_72) (by decide) (by decide) ?_
        show Steps p.tables e below (T47.setTop (mkF m 80 #[.val (.int p0), .val (.int p1), .val (.ref b35), .val (.int (p0 &&& (3 : Int32))), .val (.int (p1 &&& (3 : Int32))), .val (.ref w_1), .val (.ref w_1), .val (.ref w_1)] [])) _
        refine XS.aload X47.here hx rfl (hb hby at_80) rfl rfl ?_
        show Steps p.tables e below (T47.setTop (mkF m 82 #[.val (.int p0), .val (.int p1), .val (.ref b35), .val (.int (p0 &&& (3 : Int32))), .val (.int (p1 &&& (3 : Int32))), .val (.ref w_1), .val (.ref w_1), .val (.ref w_1)] [(.ref w_1)])) _
        refine XS.aload X47.here hx rfl (hb hby at_82) rfl rfl ?_
        show Steps p.tables e below (T47.setTop (mkF m 84 #[.val (.int p0), .val (.int p1), .val (.ref b35), .val (.int (p0 &&& (3 : Int32))), .val (.int (p1 &&& (3 : Int32))), .val (.ref w_1), .val (.ref w_1), .val (.ref w_1)] [(.ref w_1), (.ref w_1)])) _
        refine st73.trans ?_
        show Steps p.tables e below (T73.setTop (mkF m 87 #[.val (.int p0), .val (.int p1), .val (.ref b35), .val (.int (p0 &&& (3 : Int32))), .val (.int (p1 &&& (3 : Int32))), .val (.ref w_1), .val (.ref w_1), .val (.ref w_1)] [(.ref w_1)])) _
        refine XS.aload X73.here hx rfl (hb hby at_87) rfl rfl ?_
        show Steps p.tables e below (T73.setTop (mkF m 89 #[.val (.int p0), .val (.int p1), .val (.ref b35), .val (.int (p0 &&& (3 : Int32))), .val (.int (p1 &&& (3 : Int32))), .val (.ref w_1), .val (.ref w_1), .val (.ref w_1)] [(.ref w_1), (.ref w_1)])) _
        refine Jvm.RoadKit.acmp (g := (mkF m 89 #[.val (.int p0), .val (.int p1), .val (.ref b35), .val (.int (p0 &&& (3 : Int32))), .val (.int (p1 &&& (3 : Int32))), .val (.ref w_1), .val (.ref w_1), .val (.ref w_1)] [(.ref w_1), (.ref w_1)])) X73 hx rfl rfl rfl (pc0 := 89) (pc' := 92) (same := true) rfl (hb hby at_89) rfl (decide_eq_true (congrArg Value.ref rfl)) (by decide) (by decide) ?_
        show Steps p.tables e below (T73.setTop (mkF m 92 #[.val (.int p0), .val (.int p1), .val (.ref b35), .val (.int (p0 &&& (3 : Int32))), .val (.int (p1 &&& (3 : Int32))), .val (.ref w_1), .val (.ref w_1), .val (.ref w_1)] [])) _
        refine XS.iconst X73.here hx rfl (hb hby at_92) ?_
        show Steps p.tables e below (T73.setTop (mkF m 93 #[.val (.int p0), .val (.int p1), .val (.ref b35), .val (.int (p0 &&& (3 : Int32))), .val (.int (p1 &&& (3 : Int32))), .val (.ref w_1), .val (.ref w_1), .val (.ref w_1)] [(.int (1 : Int32))])) _
        refine XS.goto X73.here hx rfl (pc0 := 93) (pc' := 97) rfl (hb hby at_93) (by decide) (by decide) ?_
        show Steps p.tables e below (T73.setTop (mkF m 97 #[.val (.int p0), .val (.int p1), .val (.ref b35), .val (.int (p0 &&& (3 : Int32))), .val (.int (p1 &&& (3 : Int32))), .val (.ref w_1), .val (.ref w_1), .val (.ref w_1)] [(.int (1 : Int32))])) _
        exact retN X73 hx (t := .boolean) Bd.returns (by simp) (hb hby at_97) hr
      · show Q0 Z w_1 w_2 w_3 w_4 w_5 k_5 p0 p1 h0 n0 _ T73.heap _
        rw [e73]
        exact ⟨by unfold sp0; rw [if_pos hc49, if_pos hc52], N73, trivial⟩
    · by_cases hc74 : (p1 &&& (3 : Int32)) = (1 : Int32)
      · obtain ⟨cl75, Ar75, qa75, Sa75, Ma75, Ha75, Ga75⟩ := id V_b35_47
        have hin75 : ¬ ((p1 &&& (3 : Int32)) < 0 ∨ cl75.slots.size ≤ ((p1 &&& (3 : Int32))).toNatClampNeg) := by rw [hc74]; exact inb_of Sa75 ⟨by decide, by decide⟩
        have hat75 : cl75.slots[((p1 &&& (3 : Int32))).toNatClampNeg]? = some (.ref w_2) := Has.at Ha75 hin75 (by rw [hc74]; rfl)
        obtain ⟨T76, X76, e76, st76⟩ := getS2 X47 hx hZ hown (host := "") (Or.inl (hw _ (tk 8 rfl))) Via.refl e47 (S_3.ext O47.2) (g := (mkF m 75 #[.val (.int p0), .val (.int p1), .val (.ref b35), .val (.int (p0 &&& (3 : Int32))), .val (.int (p1 &&& (3 : Int32))), .val (.ref w_1), .val (.ref w_2), .unset] [])) rfl (hb hby at_75)
        obtain ⟨cq86, kq86, q86a, q86b, q86c⟩ := isOf hZ e76 (E_1.ext O47.2)
        obtain ⟨_, _, ⟨T86, L86, k86, n86⟩, -, X86, ⟨Lc86, hQ86, l86, y86, z86⟩, st86⟩ := X76.virtualBack hx (y := Y2) (z := Y2) hown (mvT hZ (hw _ (tk 12 rfl))) (mvT hZ (hw _ (tk 13 rfl))) (notFace_of_selects (args := #[]) (mvT hZ (hw _ (tk 15 rfl)))) (mvT hZ (hw _ (tk 15 rfl))) (mvT hZ (hw _ (tk 14 rfl))) (by decide) (backOf (W := 0) (rm1x2 l Z a0 hw [] w_1 w_2 w_3 w_4 w_5 k_5 hS0 h47 n0 O47) hZ (hw _ (tk 16 rfl)) (hw _ (tk 3 rfl)) (by decide) (by decide)) q86a q86c (g := (mkF m 84 #[.val (.int p0), .val (.int p1), .val (.ref b35), .val (.int (p0 &&& (3 : Int32))), .val (.int (p1 &&& (3 : Int32))), .val (.ref w_1), .val (.ref w_2), .val (.ref w_3)] [(.ref w_2), (.ref w_1)])) rfl (by rw [hml]; rfl) (Steps.refl _) (argsL := [(.ref w_2)]) (rest := []) (lenOf pd_1 rfl) rfl (by show 2 * 0 + _ ≤ _; exact Nat.le_of_eq rfl) (hb hby at_84) (fun _ _ => ⟨rfl, e76, (by decide : 1 + 0 ≤ _), (by decide : 4 + 0 ≤ _)⟩)
        dsimp only [Pt.U, Pt.locs, Pt.cells, Pt.slots] at X86 l86 y86 z86 st86 hQ86
        subst l86 y86 z86
        obtain ⟨rv86, N86q, e86⟩ := hQ86
        rw [show sp1x2 w_3 = (.ref w_3) from by unfold sp1x2; rfl] at rv86
        subst rv86
        have N86 := Fr.app N47 N86q
        obtain ⟨fs, hr, hrun, hended, hW, hsame⟩ := X86.leave (v := some (.int (1 : Int32))) (fun h => by rw [Bd.returns] at h; cases h)
        refine ⟨_, _, pre51 _ ?_, hrun, hended, _, _, rfl, ?_, ⟨_, rfl⟩, hW, hsame.mono (by decide) (by decide)⟩
        · show Steps p.tables e below (T47.setTop (mkF m 46 #[.val (.int p0), .val (.int p1), .val (.ref b35), .val (.int (p0 &&& (3 : Int32))), .val (.int (p1 &&& (3 : Int32))), .val (.ref w_1), .unset, .unset] [(.int (p1 &&& (3 : Int32))), (.ref b35)])) _
          refine X47.aaload hx (j := (p1 &&& (3 : Int32))) (v := (.ref w_2)) (by rw [e47]; exact Ar75.1) (State.isArrayOf_alike hZ.alike Ar75.2.1) rfl Ar75.2.2 hin75 hat75 (g := (mkF m 46 #[.val (.int p0), .val (.int p1), .val (.ref b35), .val (.int (p0 &&& (3 : Int32))), .val (.int (p1 &&& (3 : Int32))), .val (.ref w_1), .unset, .unset] [(.int (p1 &&& (3 : Int32))), (.ref b35)])) rfl rfl (hb hby at_46) _ ?_
          show Steps p.tables e below (T47.setTop (mkF m 47 #[.val (.int p0), .val (.int p1), .val (.ref b35), .val (.int (p0 &&& (3 : Int32))), .val (.int (p1 &&& (3 : Int32))), .val (.ref w_1), .unset, .unset] [(.ref w_2)])) _
          refine XS.astore X47.here hx rfl (hb hby at_47) rfl rfl (l' := #[.val (.int p0), .val (.int p1), .val (.ref b35), .val (.int (p0 &&& (3 : Int32))), .val (.int (p1 &&& (3 : Int32))), .val (.ref w_1), .val (.ref w_2), .unset]) rfl ?_
          show Steps p.tables e below (T47.setTop (mkF m 49 #[.val (.int p0), .val (.int p1), .val (.ref b35), .val (.int (p0 &&& (3 : Int32))), .val (.int (p1 &&& (3 : Int32))), .val (.ref w_1), .val (.ref w_2), .unset] [])) _
          refine XS.iload X47.here hx rfl (hb hby at_49) rfl ?_
          show Steps p.tables e below (T47.setTop (mkF m 51 #[.val (.int p0), .val (.int p1), .val (.ref b35), .val (.int (p0 &&& (3 : Int32))), .val (.int (p1 &&& (3 : Int32))), .val (.ref w_1), .val (.ref w_2), .unset] [(.int (p1 &&& (3 : Int32)))])) _
          refine XS.iconst X47.here hx rfl (hb hby at_51) ?_
          show Steps p.tables e below (T47.setTop (mkF m 52 #[.val (.int p0), .val (.int p1), .val (.ref b35), .val (.int (p0 &&& (3 : Int32))), .val (.int (p1 &&& (3 : Int32))), .val (.ref w_1), .val (.ref w_2), .unset] [(.int (2 : Int32)), (.int (p1 &&& (3 : Int32)))])) _
          refine XS.icmpYes X47.here hx rfl (pc0 := 52) (pc' := 62) rfl (hb hby at_52) rfl (tlt (by rw [hc74] <;> decide : ((p1 &&& (3 : Int32)) < (2 : Int32)))).1 (by decide) (by decide) ?_
          show Steps p.tables e below (T47.setTop (mkF m 62 #[.val (.int p0), .val (.int p1), .val (.ref b35), .val (.int (p0 &&& (3 : Int32))), .val (.int (p1 &&& (3 : Int32))), .val (.ref w_1), .val (.ref w_2), .unset] [])) _
          refine XS.iloadN X47.here hx rfl (hb hby at_62) rfl ?_
          show Steps p.tables e below (T47.setTop (mkF m 63 #[.val (.int p0), .val (.int p1), .val (.ref b35), .val (.int (p0 &&& (3 : Int32))), .val (.int (p1 &&& (3 : Int32))), .val (.ref w_1), .val (.ref w_2), .unset] [(.int (p0 &&& (3 : Int32)))])) _
          refine XS.iload X47.here hx rfl (hb hby at_63) rfl ?_
          show Steps p.tables e below (T47.setTop (mkF m 65 #[.val (.int p0), .val (.int p1), .val (.ref b35), .val (.int (p0 &&& (3 : Int32))), .val (.int (p1 &&& (3 : Int32))), .val (.ref w_1), .val (.ref w_2), .unset] [(.int (p1 &&& (3 : Int32))), (.int (p0 &&& (3 : Int32)))])) _
          refine XS.icmpYes X47.here hx rfl (pc0 := 65) (pc' := 75) rfl (hb hby at_65) rfl (feq (by rw [hc49, hc74] <;> decide : ¬ ((p0 &&& (3 : Int32)) = (p1 &&& (3 : Int32))))).2 (by decide) (by decide) ?_
          show Steps p.tables e below (T47.setTop (mkF m 75 #[.val (.int p0), .val (.int p1), .val (.ref b35), .val (.int (p0 &&& (3 : Int32))), .val (.int (p1 &&& (3 : Int32))), .val (.ref w_1), .val (.ref w_2), .unset] [])) _
          refine st76 _ ?_
          show Steps p.tables e below (T76.setTop (mkF m 78 #[.val (.int p0), .val (.int p1), .val (.ref b35), .val (.int (p0 &&& (3 : Int32))), .val (.int (p1 &&& (3 : Int32))), .val (.ref w_1), .val (.ref w_2), .unset] [(.ref w_3)])) _
          refine XS.astore X76.here hx rfl (hb hby at_78) rfl rfl (l' := #[.val (.int p0), .val (.int p1), .val (.ref b35), .val (.int (p0 &&& (3 : Int32))), .val (.int (p1 &&& (3 : Int32))), .val (.ref w_1), .val (.ref w_2), .val (.ref w_3)]) rfl ?_
          show Steps p.tables e below (T76.setTop (mkF m 80 #[.val (.int p0), .val (.int p1), .val (.ref b35), .val (.int (p0 &&& (3 : Int32))), .val (.int (p1 &&& (3 : Int32))), .val (.ref w_1), .val (.ref w_2), .val (.ref w_3)] [])) _
          refine XS.aload X76.here hx rfl (hb hby at_80) rfl rfl ?_
          show Steps p.tables e below (T76.setTop (mkF m 82 #[.val (.int p0), .val (.int p1), .val (.ref b35), .val (.int (p0 &&& (3 : Int32))), .val (.int (p1 &&& (3 : Int32))), .val (.ref w_1), .val (.ref w_2), .val (.ref w_3)] [(.ref w_1)])) _
          refine XS.aload X76.here hx rfl (hb hby at_82) rfl rfl ?_
          show Steps p.tables e below (T76.setTop (mkF m 84 #[.val (.int p0), .val (.int p1), .val (.ref b35), .val (.int (p0 &&& (3 : Int32))), .val (.int (p1 &&& (3 : Int32))), .val (.ref w_1), .val (.ref w_2), .val (.ref w_3)] [(.ref w_2), (.ref w_1)])) _
          refine st86.trans ?_
          show Steps p.tables e below (T86.setTop (mkF m 87 #[.val (.int p0), .val (.int p1), .val (.ref b35), .val (.int (p0 &&& (3 : Int32))), .val (.int (p1 &&& (3 : Int32))), .val (.ref w_1), .val (.ref w_2), .val (.ref w_3)] [(.ref w_3)])) _
          refine XS.aload X86.here hx rfl (hb hby at_87) rfl rfl ?_
          show Steps p.tables e below (T86.setTop (mkF m 89 #[.val (.int p0), .val (.int p1), .val (.ref b35), .val (.int (p0 &&& (3 : Int32))), .val (.int (p1 &&& (3 : Int32))), .val (.ref w_1), .val (.ref w_2), .val (.ref w_3)] [(.ref w_3), (.ref w_3)])) _
          refine Jvm.RoadKit.acmp (g := (mkF m 89 #[.val (.int p0), .val (.int p1), .val (.ref b35), .val (.int (p0 &&& (3 : Int32))), .val (.int (p1 &&& (3 : Int32))), .val (.ref w_1), .val (.ref w_2), .val (.ref w_3)] [(.ref w_3), (.ref w_3)])) X86 hx rfl rfl rfl (pc0 := 89) (pc' := 92) (same := true) rfl (hb hby at_89) rfl (decide_eq_true (congrArg Value.ref rfl)) (by decide) (by decide) ?_
          show Steps p.tables e below (T86.setTop (mkF m 92 #[.val (.int p0), .val (.int p1), .val (.ref b35), .val (.int (p0 &&& (3 : Int32))), .val (.int (p1 &&& (3 : Int32))), .val (.ref w_1), .val (.ref w_2), .val (.ref w_3)] [])) _
          refine XS.iconst X86.here hx rfl (hb hby at_92) ?_
          show Steps p.tables e below (T86.setTop (mkF m 93 #[.val (.int p0), .val (.int p1), .val (.ref b35), .val (.int (p0 &&& (3 : Int32))), .val (.int (p1 &&& (3 : Int32))), .val (.ref w_1), .val (.ref w_2), .val (.ref w_3)] [(.int (1 : Int32))])) _
          refine XS.goto X86.here hx rfl (pc0 := 93) (pc' := 97) rfl (hb hby at_93) (by decide) (by decide) ?_
          show Steps p.tables e below (T86.setTop (mkF m 97 #[.val (.int p0), .val (.int p1), .val (.ref b35), .val (.int (p0 &&& (3 : Int32))), .val (.int (p1 &&& (3 : Int32))), .val (.ref w_1), .val (.ref w_2), .val (.ref w_3)] [(.int (1 : Int32))])) _
          exact retN X86 hx (t := .boolean) Bd.returns (by simp) (hb hby at_97) hr
        · show Q0 Z w_1 w_2 w_3 w_4 w_5 k_5 p0 p1 h0 n0 _ T86.heap _
          rw [e86]
          exact ⟨by unfold sp0; rw [if_pos hc49, if_neg hc52, if_pos hc74], N86, trivial⟩
      · by_cases hc87 : (p1 &&& (3 : Int32)) = (2 : Int32)
        · obtain ⟨cl88, Ar88, qa88, Sa88, Ma88, Ha88, Ga88⟩ := id V_b35_47
          have hin88 : ¬ ((p1 &&& (3 : Int32)) < 0 ∨ cl88.slots.size ≤ ((p1 &&& (3 : Int32))).toNatClampNeg) := by rw [hc87]; exact inb_of Sa88 ⟨by decide, by decide⟩
          have hat88 : cl88.slots[((p1 &&& (3 : Int32))).toNatClampNeg]? = some (.ref w_3) := Has.at Ha88 hin88 (by rw [hc87]; rfl)
          obtain ⟨cq103, kq103, q103a, q103b, q103c⟩ := isOf hZ e47 (E_1.ext O47.2)
          obtain ⟨_, _, ⟨T103, L103, k103, n103⟩, -, X103, ⟨Lc103, hQ103, l103, y103, z103⟩, st103⟩ := X47.virtualBack hx (y := Y2) (z := Y2) hown (mvT hZ (hw _ (tk 12 rfl))) (mvT hZ (hw _ (tk 13 rfl))) (notFace_of_selects (args := #[]) (mvT hZ (hw _ (tk 15 rfl)))) (mvT hZ (hw _ (tk 15 rfl))) (mvT hZ (hw _ (tk 14 rfl))) (by decide) (backOf (W := 0) (rm1x3 l Z a0 hw [] w_1 w_2 w_3 w_4 w_5 k_5 hS0 h47 n0 O47) hZ (hw _ (tk 16 rfl)) (hw _ (tk 3 rfl)) (by decide) (by decide)) q103a q103c (g := (mkF m 84 #[.val (.int p0), .val (.int p1), .val (.ref b35), .val (.int (p0 &&& (3 : Int32))), .val (.int (p1 &&& (3 : Int32))), .val (.ref w_1), .val (.ref w_3), .val (.ref w_3)] [(.ref w_3), (.ref w_1)])) rfl (by rw [hml]; rfl) (Steps.refl _) (argsL := [(.ref w_3)]) (rest := []) (lenOf pd_1 rfl) rfl (by show 2 * 0 + _ ≤ _; exact Nat.le_of_eq rfl) (hb hby at_84) (fun _ _ => ⟨rfl, e47, (by decide : 1 + 0 ≤ _), (by decide : 4 + 0 ≤ _)⟩)
          dsimp only [Pt.U, Pt.locs, Pt.cells, Pt.slots] at X103 l103 y103 z103 st103 hQ103
          subst l103 y103 z103
          obtain ⟨rv103, N103q, e103⟩ := hQ103
          rw [show sp1x3 w_3 = (.ref w_3) from by unfold sp1x3; rfl] at rv103
          subst rv103
          have N103 := Fr.app N47 N103q
          obtain ⟨fs, hr, hrun, hended, hW, hsame⟩ := X103.leave (v := some (.int (1 : Int32))) (fun h => by rw [Bd.returns] at h; cases h)
          refine ⟨_, _, pre51 _ ?_, hrun, hended, _, _, rfl, ?_, ⟨_, rfl⟩, hW, hsame.mono (by decide) (by decide)⟩
          · show Steps p.tables e below (T47.setTop (mkF m 46 #[.val (.int p0), .val (.int p1), .val (.ref b35), .val (.int (p0 &&& (3 : Int32))), .val (.int (p1 &&& (3 : Int32))), .val (.ref w_1), .unset, .unset] [(.int (p1 &&& (3 : Int32))), (.ref b35)])) _
            refine X47.aaload hx (j := (p1 &&& (3 : Int32))) (v := (.ref w_3)) (by rw [e47]; exact Ar88.1) (State.isArrayOf_alike hZ.alike Ar88.2.1) rfl Ar88.2.2 hin88 hat88 (g := (mkF m 46 #[.val (.int p0), .val (.int p1), .val (.ref b35), .val (.int (p0 &&& (3 : Int32))), .val (.int (p1 &&& (3 : Int32))), .val (.ref w_1), .unset, .unset] [(.int (p1 &&& (3 : Int32))), (.ref b35)])) rfl rfl (hb hby at_46) _ ?_
            show Steps p.tables e below (T47.setTop (mkF m 47 #[.val (.int p0), .val (.int p1), .val (.ref b35), .val (.int (p0 &&& (3 : Int32))), .val (.int (p1 &&& (3 : Int32))), .val (.ref w_1), .unset, .unset] [(.ref w_3)])) _
            refine XS.astore X47.here hx rfl (hb hby at_47) rfl rfl (l' := #[.val (.int p0), .val (.int p1), .val (.ref b35), .val (.int (p0 &&& (3 : Int32))), .val (.int (p1 &&& (3 : Int32))), .val (.ref w_1), .val (.ref w_3), .unset]) rfl ?_
            show Steps p.tables e below (T47.setTop (mkF m 49 #[.val (.int p0), .val (.int p1), .val (.ref b35), .val (.int (p0 &&& (3 : Int32))), .val (.int (p1 &&& (3 : Int32))), .val (.ref w_1), .val (.ref w_3), .unset] [])) _
            refine XS.iload X47.here hx rfl (hb hby at_49) rfl ?_
            show Steps p.tables e below (T47.setTop (mkF m 51 #[.val (.int p0), .val (.int p1), .val (.ref b35), .val (.int (p0 &&& (3 : Int32))), .val (.int (p1 &&& (3 : Int32))), .val (.ref w_1), .val (.ref w_3), .unset] [(.int (p1 &&& (3 : Int32)))])) _
            refine XS.iconst X47.here hx rfl (hb hby at_51) ?_
            show Steps p.tables e below (T47.setTop (mkF m 52 #[.val (.int p0), .val (.int p1), .val (.ref b35), .val (.int (p0 &&& (3 : Int32))), .val (.int (p1 &&& (3 : Int32))), .val (.ref w_1), .val (.ref w_3), .unset] [(.int (2 : Int32)), (.int (p1 &&& (3 : Int32)))])) _
            refine XS.icmpNo X47.here hx rfl (hb hby at_52) rfl (flt (by rw [hc87] <;> decide : ¬ ((p1 &&& (3 : Int32)) < (2 : Int32)))).1 ?_
            show Steps p.tables e below (T47.setTop (mkF m 55 #[.val (.int p0), .val (.int p1), .val (.ref b35), .val (.int (p0 &&& (3 : Int32))), .val (.int (p1 &&& (3 : Int32))), .val (.ref w_1), .val (.ref w_3), .unset] [])) _
            refine XS.aload X47.here hx rfl (hb hby at_55) rfl rfl ?_
            show Steps p.tables e below (T47.setTop (mkF m 57 #[.val (.int p0), .val (.int p1), .val (.ref b35), .val (.int (p0 &&& (3 : Int32))), .val (.int (p1 &&& (3 : Int32))), .val (.ref w_1), .val (.ref w_3), .unset] [(.ref w_3)])) _
            refine XS.astore X47.here hx rfl (hb hby at_57) rfl rfl (l' := #[.val (.int p0), .val (.int p1), .val (.ref b35), .val (.int (p0 &&& (3 : Int32))), .val (.int (p1 &&& (3 : Int32))), .val (.ref w_1), .val (.ref w_3), .val (.ref w_3)]) rfl ?_
            show Steps p.tables e below (T47.setTop (mkF m 59 #[.val (.int p0), .val (.int p1), .val (.ref b35), .val (.int (p0 &&& (3 : Int32))), .val (.int (p1 &&& (3 : Int32))), .val (.ref w_1), .val (.ref w_3), .val (.ref w_3)] [])) _
            refine XS.goto X47.here hx rfl (pc0 := 59) (pc' := 80) rfl (hb hby at_59) (by decide) (by decide) ?_
            show Steps p.tables e below (T47.setTop (mkF m 80 #[.val (.int p0), .val (.int p1), .val (.ref b35), .val (.int (p0 &&& (3 : Int32))), .val (.int (p1 &&& (3 : Int32))), .val (.ref w_1), .val (.ref w_3), .val (.ref w_3)] [])) _
            refine XS.aload X47.here hx rfl (hb hby at_80) rfl rfl ?_
            show Steps p.tables e below (T47.setTop (mkF m 82 #[.val (.int p0), .val (.int p1), .val (.ref b35), .val (.int (p0 &&& (3 : Int32))), .val (.int (p1 &&& (3 : Int32))), .val (.ref w_1), .val (.ref w_3), .val (.ref w_3)] [(.ref w_1)])) _
            refine XS.aload X47.here hx rfl (hb hby at_82) rfl rfl ?_
            show Steps p.tables e below (T47.setTop (mkF m 84 #[.val (.int p0), .val (.int p1), .val (.ref b35), .val (.int (p0 &&& (3 : Int32))), .val (.int (p1 &&& (3 : Int32))), .val (.ref w_1), .val (.ref w_3), .val (.ref w_3)] [(.ref w_3), (.ref w_1)])) _
            refine st103.trans ?_
            show Steps p.tables e below (T103.setTop (mkF m 87 #[.val (.int p0), .val (.int p1), .val (.ref b35), .val (.int (p0 &&& (3 : Int32))), .val (.int (p1 &&& (3 : Int32))), .val (.ref w_1), .val (.ref w_3), .val (.ref w_3)] [(.ref w_3)])) _
            refine XS.aload X103.here hx rfl (hb hby at_87) rfl rfl ?_
            show Steps p.tables e below (T103.setTop (mkF m 89 #[.val (.int p0), .val (.int p1), .val (.ref b35), .val (.int (p0 &&& (3 : Int32))), .val (.int (p1 &&& (3 : Int32))), .val (.ref w_1), .val (.ref w_3), .val (.ref w_3)] [(.ref w_3), (.ref w_3)])) _
            refine Jvm.RoadKit.acmp (g := (mkF m 89 #[.val (.int p0), .val (.int p1), .val (.ref b35), .val (.int (p0 &&& (3 : Int32))), .val (.int (p1 &&& (3 : Int32))), .val (.ref w_1), .val (.ref w_3), .val (.ref w_3)] [(.ref w_3), (.ref w_3)])) X103 hx rfl rfl rfl (pc0 := 89) (pc' := 92) (same := true) rfl (hb hby at_89) rfl (decide_eq_true (congrArg Value.ref rfl)) (by decide) (by decide) ?_
            show Steps p.tables e below (T103.setTop (mkF m 92 #[.val (.int p0), .val (.int p1), .val (.ref b35), .val (.int (p0 &&& (3 : Int32))), .val (.int (p1 &&& (3 : Int32))), .val (.ref w_1), .val (.ref w_3), .val (.ref w_3)] [])) _
            refine XS.iconst X103.here hx rfl (hb hby at_92) ?_
            show Steps p.tables e below (T103.setTop (mkF m 93 #[.val (.int p0), .val (.int p1), .val (.ref b35), .val (.int (p0 &&& (3 : Int32))), .val (.int (p1 &&& (3 : Int32))), .val (.ref w_1), .val (.ref w_3), .val (.ref w_3)] [(.int (1 : Int32))])) _
            refine XS.goto X103.here hx rfl (pc0 := 93) (pc' := 97) rfl (hb hby at_93) (by decide) (by decide) ?_
            show Steps p.tables e below (T103.setTop (mkF m 97 #[.val (.int p0), .val (.int p1), .val (.ref b35), .val (.int (p0 &&& (3 : Int32))), .val (.int (p1 &&& (3 : Int32))), .val (.ref w_1), .val (.ref w_3), .val (.ref w_3)] [(.int (1 : Int32))])) _
            exact retN X103 hx (t := .boolean) Bd.returns (by simp) (hb hby at_97) hr
          · show Q0 Z w_1 w_2 w_3 w_4 w_5 k_5 p0 p1 h0 n0 _ T103.heap _
            rw [e103]
            exact ⟨by unfold sp0; rw [if_pos hc49, if_neg hc52, if_neg hc74, if_pos hc87], N103, trivial⟩
        · have hL104 : (p1 &&& (3 : Int32)) = (3 : Int32) := by
            have r : 0 ≤ ((p1 &&& (3 : Int32))).toInt ∧ ((p1 &&& (3 : Int32))).toInt < 4 := (own_rand p1 (3 : Int32) 4 (by decide) (by decide))
            have q0 := own_ne hc52 (n := 0) (by decide)
            have q1 := own_ne hc74 (n := 1) (by decide)
            have q2 := own_ne hc87 (n := 2) (by decide)
            exact own_eq (n := 3) (by decide) (by omega)
          obtain ⟨cl105, Ar105, qa105, Sa105, Ma105, Ha105, Ga105⟩ := id V_b35_47
          have hin105 : ¬ ((p1 &&& (3 : Int32)) < 0 ∨ cl105.slots.size ≤ ((p1 &&& (3 : Int32))).toNatClampNeg) := by rw [hL104]; exact inb_of Sa105 ⟨by decide, by decide⟩
          have hat105 : cl105.slots[((p1 &&& (3 : Int32))).toNatClampNeg]? = some (.ref w_4) := Has.at Ha105 hin105 (by rw [hL104]; rfl)
          obtain ⟨cq120, kq120, q120a, q120b, q120c⟩ := isOf hZ e47 (E_1.ext O47.2)
          obtain ⟨_, _, ⟨T120, L120, k120, n120⟩, -, X120, ⟨Lc120, hQ120, l120, y120, z120⟩, st120⟩ := X47.virtualBack hx (y := Y2) (z := Y2) hown (mvT hZ (hw _ (tk 12 rfl))) (mvT hZ (hw _ (tk 13 rfl))) (notFace_of_selects (args := #[]) (mvT hZ (hw _ (tk 15 rfl)))) (mvT hZ (hw _ (tk 15 rfl))) (mvT hZ (hw _ (tk 14 rfl))) (by decide) (backOf (W := 0) (rm1x4 l Z a0 hw [] w_1 w_2 w_3 w_4 w_5 k_5 hS0 h47 n0 O47) hZ (hw _ (tk 16 rfl)) (hw _ (tk 3 rfl)) (by decide) (by decide)) q120a q120c (g := (mkF m 84 #[.val (.int p0), .val (.int p1), .val (.ref b35), .val (.int (p0 &&& (3 : Int32))), .val (.int (p1 &&& (3 : Int32))), .val (.ref w_1), .val (.ref w_4), .val (.ref w_4)] [(.ref w_4), (.ref w_1)])) rfl (by rw [hml]; rfl) (Steps.refl _) (argsL := [(.ref w_4)]) (rest := []) (lenOf pd_1 rfl) rfl (by show 2 * 0 + _ ≤ _; exact Nat.le_of_eq rfl) (hb hby at_84) (fun _ _ => ⟨rfl, e47, (by decide : 1 + 0 ≤ _), (by decide : 4 + 0 ≤ _)⟩)
          dsimp only [Pt.U, Pt.locs, Pt.cells, Pt.slots] at X120 l120 y120 z120 st120 hQ120
          subst l120 y120 z120
          obtain ⟨rv120, N120q, e120⟩ := hQ120
          rw [show sp1x4 w_4 = (.ref w_4) from by unfold sp1x4; rfl] at rv120
          subst rv120
          have N120 := Fr.app N47 N120q
          obtain ⟨fs, hr, hrun, hended, hW, hsame⟩ := X120.leave (v := some (.int (1 : Int32))) (fun h => by rw [Bd.returns] at h; cases h)
          refine ⟨_, _, pre51 _ ?_, hrun, hended, _, _, rfl, ?_, ⟨_, rfl⟩, hW, hsame.mono (by decide) (by decide)⟩
          · show Steps p.tables e below (T47.setTop (mkF m 46 #[.val (.int p0), .val (.int p1), .val (.ref b35), .val (.int (p0 &&& (3 : Int32))), .val (.int (p1 &&& (3 : Int32))), .val (.ref w_1), .unset, .unset] [(.int (p1 &&& (3 : Int32))), (.ref b35)])) _
            refine X47.aaload hx (j := (p1 &&& (3 : Int32))) (v := (.ref w_4)) (by rw [e47]; exact Ar105.1) (State.isArrayOf_alike hZ.alike Ar105.2.1) rfl Ar105.2.2 hin105 hat105 (g := (mkF m 46 #[.val (.int p0), .val (.int p1), .val (.ref b35), .val (.int (p0 &&& (3 : Int32))), .val (.int (p1 &&& (3 : Int32))), .val (.ref w_1), .unset, .unset] [(.int (p1 &&& (3 : Int32))), (.ref b35)])) rfl rfl (hb hby at_46) _ ?_
            show Steps p.tables e below (T47.setTop (mkF m 47 #[.val (.int p0), .val (.int p1), .val (.ref b35), .val (.int (p0 &&& (3 : Int32))), .val (.int (p1 &&& (3 : Int32))), .val (.ref w_1), .unset, .unset] [(.ref w_4)])) _
            refine XS.astore X47.here hx rfl (hb hby at_47) rfl rfl (l' := #[.val (.int p0), .val (.int p1), .val (.ref b35), .val (.int (p0 &&& (3 : Int32))), .val (.int (p1 &&& (3 : Int32))), .val (.ref w_1), .val (.ref w_4), .unset]) rfl ?_
            show Steps p.tables e below (T47.setTop (mkF m 49 #[.val (.int p0), .val (.int p1), .val (.ref b35), .val (.int (p0 &&& (3 : Int32))), .val (.int (p1 &&& (3 : Int32))), .val (.ref w_1), .val (.ref w_4), .unset] [])) _
            refine XS.iload X47.here hx rfl (hb hby at_49) rfl ?_
            show Steps p.tables e below (T47.setTop (mkF m 51 #[.val (.int p0), .val (.int p1), .val (.ref b35), .val (.int (p0 &&& (3 : Int32))), .val (.int (p1 &&& (3 : Int32))), .val (.ref w_1), .val (.ref w_4), .unset] [(.int (p1 &&& (3 : Int32)))])) _
            refine XS.iconst X47.here hx rfl (hb hby at_51) ?_
            show Steps p.tables e below (T47.setTop (mkF m 52 #[.val (.int p0), .val (.int p1), .val (.ref b35), .val (.int (p0 &&& (3 : Int32))), .val (.int (p1 &&& (3 : Int32))), .val (.ref w_1), .val (.ref w_4), .unset] [(.int (2 : Int32)), (.int (p1 &&& (3 : Int32)))])) _
            refine XS.icmpNo X47.here hx rfl (hb hby at_52) rfl (flt (by rw [hL104] <;> decide : ¬ ((p1 &&& (3 : Int32)) < (2 : Int32)))).1 ?_
            show Steps p.tables e below (T47.setTop (mkF m 55 #[.val (.int p0), .val (.int p1), .val (.ref b35), .val (.int (p0 &&& (3 : Int32))), .val (.int (p1 &&& (3 : Int32))), .val (.ref w_1), .val (.ref w_4), .unset] [])) _
            refine XS.aload X47.here hx rfl (hb hby at_55) rfl rfl ?_
            show Steps p.tables e below (T47.setTop (mkF m 57 #[.val (.int p0), .val (.int p1), .val (.ref b35), .val (.int (p0 &&& (3 : Int32))), .val (.int (p1 &&& (3 : Int32))), .val (.ref w_1), .val (.ref w_4), .unset] [(.ref w_4)])) _
            refine XS.astore X47.here hx rfl (hb hby at_57) rfl rfl (l' := #[.val (.int p0), .val (.int p1), .val (.ref b35), .val (.int (p0 &&& (3 : Int32))), .val (.int (p1 &&& (3 : Int32))), .val (.ref w_1), .val (.ref w_4), .val (.ref w_4)]) rfl ?_
            show Steps p.tables e below (T47.setTop (mkF m 59 #[.val (.int p0), .val (.int p1), .val (.ref b35), .val (.int (p0 &&& (3 : Int32))), .val (.int (p1 &&& (3 : Int32))), .val (.ref w_1), .val (.ref w_4), .val (.ref w_4)] [])) _
            refine XS.goto X47.here hx rfl (pc0 := 59) (pc' := 80) rfl (hb hby at_59) (by decide) (by decide) ?_
            show Steps p.tables e below (T47.setTop (mkF m 80 #[.val (.int p0), .val (.int p1), .val (.ref b35), .val (.int (p0 &&& (3 : Int32))), .val (.int (p1 &&& (3 : Int32))), .val (.ref w_1), .val (.ref w_4), .val (.ref w_4)] [])) _
            refine XS.aload X47.here hx rfl (hb hby at_80) rfl rfl ?_
            show Steps p.tables e below (T47.setTop (mkF m 82 #[.val (.int p0), .val (.int p1), .val (.ref b35), .val (.int (p0 &&& (3 : Int32))), .val (.int (p1 &&& (3 : Int32))), .val (.ref w_1), .val (.ref w_4), .val (.ref w_4)] [(.ref w_1)])) _
            refine XS.aload X47.here hx rfl (hb hby at_82) rfl rfl ?_
            show Steps p.tables e below (T47.setTop (mkF m 84 #[.val (.int p0), .val (.int p1), .val (.ref b35), .val (.int (p0 &&& (3 : Int32))), .val (.int (p1 &&& (3 : Int32))), .val (.ref w_1), .val (.ref w_4), .val (.ref w_4)] [(.ref w_4), (.ref w_1)])) _
            refine st120.trans ?_
            show Steps p.tables e below (T120.setTop (mkF m 87 #[.val (.int p0), .val (.int p1), .val (.ref b35), .val (.int (p0 &&& (3 : Int32))), .val (.int (p1 &&& (3 : Int32))), .val (.ref w_1), .val (.ref w_4), .val (.ref w_4)] [(.ref w_4)])) _
            refine XS.aload X120.here hx rfl (hb hby at_87) rfl rfl ?_
            show Steps p.tables e below (T120.setTop (mkF m 89 #[.val (.int p0), .val (.int p1), .val (.ref b35), .val (.int (p0 &&& (3 : Int32))), .val (.int (p1 &&& (3 : Int32))), .val (.ref w_1), .val (.ref w_4), .val (.ref w_4)] [(.ref w_4), (.ref w_4)])) _
            refine Jvm.RoadKit.acmp (g := (mkF m 89 #[.val (.int p0), .val (.int p1), .val (.ref b35), .val (.int (p0 &&& (3 : Int32))), .val (.int (p1 &&& (3 : Int32))), .val (.ref w_1), .val (.ref w_4), .val (.ref w_4)] [(.ref w_4), (.ref w_4)])) X120 hx rfl rfl rfl (pc0 := 89) (pc' := 92) (same := true) rfl (hb hby at_89) rfl (decide_eq_true (congrArg Value.ref rfl)) (by decide) (by decide) ?_
            show Steps p.tables e below (T120.setTop (mkF m 92 #[.val (.int p0), .val (.int p1), .val (.ref b35), .val (.int (p0 &&& (3 : Int32))), .val (.int (p1 &&& (3 : Int32))), .val (.ref w_1), .val (.ref w_4), .val (.ref w_4)] [])) _
            refine XS.iconst X120.here hx rfl (hb hby at_92) ?_
            show Steps p.tables e below (T120.setTop (mkF m 93 #[.val (.int p0), .val (.int p1), .val (.ref b35), .val (.int (p0 &&& (3 : Int32))), .val (.int (p1 &&& (3 : Int32))), .val (.ref w_1), .val (.ref w_4), .val (.ref w_4)] [(.int (1 : Int32))])) _
            refine XS.goto X120.here hx rfl (pc0 := 93) (pc' := 97) rfl (hb hby at_93) (by decide) (by decide) ?_
            show Steps p.tables e below (T120.setTop (mkF m 97 #[.val (.int p0), .val (.int p1), .val (.ref b35), .val (.int (p0 &&& (3 : Int32))), .val (.int (p1 &&& (3 : Int32))), .val (.ref w_1), .val (.ref w_4), .val (.ref w_4)] [(.int (1 : Int32))])) _
            exact retN X120 hx (t := .boolean) Bd.returns (by simp) (hb hby at_97) hr
          · show Q0 Z w_1 w_2 w_3 w_4 w_5 k_5 p0 p1 h0 n0 _ T120.heap _
            rw [e120]
            exact ⟨by unfold sp0; rw [if_pos hc49, if_neg hc52, if_neg hc74, if_neg hc87], N120, trivial⟩
  · by_cases hc121 : (p0 &&& (3 : Int32)) = (1 : Int32)
    · obtain ⟨cl122, Ar122, qa122, Sa122, Ma122, Ha122, Ga122⟩ := id V_b35_47
      have hin122 : ¬ ((p0 &&& (3 : Int32)) < 0 ∨ cl122.slots.size ≤ ((p0 &&& (3 : Int32))).toNatClampNeg) := by rw [hc121]; exact inb_of Sa122 ⟨by decide, by decide⟩
      have hat122 : cl122.slots[((p0 &&& (3 : Int32))).toNatClampNeg]? = some (.ref w_2) := Has.at Ha122 hin122 (by rw [hc121]; rfl)
      have pre123 : ∀ t, Steps p.tables e below (T47.setTop (mkF m 46 #[.val (.int p0), .val (.int p1), .val (.ref b35), .val (.int (p0 &&& (3 : Int32))), .val (.int (p1 &&& (3 : Int32))), .val (.ref w_2), .unset, .unset] [(.int (p1 &&& (3 : Int32))), (.ref b35)])) t → Steps p.tables e below (s₁.setTop (entryFrame m #[(.int p0), (.int p1)] maxLocals)) t := fun t kt => by
        refine pre48 t ?_
        show Steps p.tables e below (T47.setTop (mkF m 40 #[.val (.int p0), .val (.int p1), .val (.ref b35), .val (.int (p0 &&& (3 : Int32))), .val (.int (p1 &&& (3 : Int32))), .unset, .unset, .unset] [(.int (p0 &&& (3 : Int32))), (.ref b35)])) _
        refine X47.aaload hx (j := (p0 &&& (3 : Int32))) (v := (.ref w_2)) (by rw [e47]; exact Ar122.1) (State.isArrayOf_alike hZ.alike Ar122.2.1) rfl Ar122.2.2 hin122 hat122 (g := (mkF m 40 #[.val (.int p0), .val (.int p1), .val (.ref b35), .val (.int (p0 &&& (3 : Int32))), .val (.int (p1 &&& (3 : Int32))), .unset, .unset, .unset] [(.int (p0 &&& (3 : Int32))), (.ref b35)])) rfl rfl (hb hby at_40) _ ?_
        show Steps p.tables e below (T47.setTop (mkF m 41 #[.val (.int p0), .val (.int p1), .val (.ref b35), .val (.int (p0 &&& (3 : Int32))), .val (.int (p1 &&& (3 : Int32))), .unset, .unset, .unset] [(.ref w_2)])) _
        refine XS.astore X47.here hx rfl (hb hby at_41) rfl rfl (l' := #[.val (.int p0), .val (.int p1), .val (.ref b35), .val (.int (p0 &&& (3 : Int32))), .val (.int (p1 &&& (3 : Int32))), .val (.ref w_2), .unset, .unset]) rfl ?_
        show Steps p.tables e below (T47.setTop (mkF m 43 #[.val (.int p0), .val (.int p1), .val (.ref b35), .val (.int (p0 &&& (3 : Int32))), .val (.int (p1 &&& (3 : Int32))), .val (.ref w_2), .unset, .unset] [])) _
        refine XS.aloadN X47.here hx rfl (hb hby at_43) rfl rfl ?_
        show Steps p.tables e below (T47.setTop (mkF m 44 #[.val (.int p0), .val (.int p1), .val (.ref b35), .val (.int (p0 &&& (3 : Int32))), .val (.int (p1 &&& (3 : Int32))), .val (.ref w_2), .unset, .unset] [(.ref b35)])) _
        refine XS.iload X47.here hx rfl (hb hby at_44) rfl ?_
        show Steps p.tables e below (T47.setTop (mkF m 46 #[.val (.int p0), .val (.int p1), .val (.ref b35), .val (.int (p0 &&& (3 : Int32))), .val (.int (p1 &&& (3 : Int32))), .val (.ref w_2), .unset, .unset] [(.int (p1 &&& (3 : Int32))), (.ref b35)])) _
        exact kt
      by_cases hc124 : (p1 &&& (3 : Int32)) = (0 : Int32)
      · obtain ⟨cl125, Ar125, qa125, Sa125, Ma125, Ha125, Ga125⟩ := id V_b35_47
        have hin125 : ¬ ((p1 &&& (3 : Int32)) < 0 ∨ cl125.slots.size ≤ ((p1 &&& (3 : Int32))).toNatClampNeg) := by rw [hc124]; exact inb_of Sa125 ⟨by decide, by decide⟩
        have hat125 : cl125.slots[((p1 &&& (3 : Int32))).toNatClampNeg]? = some (.ref w_1) := Has.at Ha125 hin125 (by rw [hc124]; rfl)
        obtain ⟨T126, X126, e126, st126⟩ := getS2 X47 hx hZ hown (host := "") (Or.inl (hw _ (tk 8 rfl))) Via.refl e47 (S_3.ext O47.2) (g := (mkF m 75 #[.val (.int p0), .val (.int p1), .val (.ref b35), .val (.int (p0 &&& (3 : Int32))), .val (.int (p1 &&& (3 : Int32))), .val (.ref w_2), .val (.ref w_1), .unset] [])) rfl (hb hby at_75)
        obtain ⟨cq134, kq134, q134a, q134b, q134c⟩ := isOf hZ e126 (E_2.ext O47.2)
        obtain ⟨_, _, ⟨T134, L134, k134, n134⟩, -, X134, ⟨Lc134, hQ134, l134, y134, z134⟩, st134⟩ := X126.virtualBack hx (y := Y2) (z := Y2) hown (mvT hZ (hw _ (tk 12 rfl))) (mvT hZ (hw _ (tk 13 rfl))) (notFace_of_selects (args := #[]) (mvT hZ (hw _ (tk 15 rfl)))) (mvT hZ (hw _ (tk 15 rfl))) (mvT hZ (hw _ (tk 14 rfl))) (by decide) (backOf (W := 0) (rm1x5 l Z a0 hw [] w_1 w_2 w_3 w_4 w_5 k_5 hS0 h47 n0 O47) hZ (hw _ (tk 16 rfl)) (hw _ (tk 3 rfl)) (by decide) (by decide)) q134a q134c (g := (mkF m 84 #[.val (.int p0), .val (.int p1), .val (.ref b35), .val (.int (p0 &&& (3 : Int32))), .val (.int (p1 &&& (3 : Int32))), .val (.ref w_2), .val (.ref w_1), .val (.ref w_3)] [(.ref w_1), (.ref w_2)])) rfl (by rw [hml]; rfl) (Steps.refl _) (argsL := [(.ref w_1)]) (rest := []) (lenOf pd_1 rfl) rfl (by show 2 * 0 + _ ≤ _; exact Nat.le_of_eq rfl) (hb hby at_84) (fun _ _ => ⟨rfl, e126, (by decide : 1 + 0 ≤ _), (by decide : 4 + 0 ≤ _)⟩)
        dsimp only [Pt.U, Pt.locs, Pt.cells, Pt.slots] at X134 l134 y134 z134 st134 hQ134
        subst l134 y134 z134
        obtain ⟨rv134, N134q, e134⟩ := hQ134
        rw [show sp1x5 w_3 = (.ref w_3) from by unfold sp1x5; rfl] at rv134
        subst rv134
        have N134 := Fr.app N47 N134q
        obtain ⟨fs, hr, hrun, hended, hW, hsame⟩ := X134.leave (v := some (.int (1 : Int32))) (fun h => by rw [Bd.returns] at h; cases h)
        refine ⟨_, _, pre123 _ ?_, hrun, hended, _, _, rfl, ?_, ⟨_, rfl⟩, hW, hsame.mono (by decide) (by decide)⟩
        · show Steps p.tables e below (T47.setTop (mkF m 46 #[.val (.int p0), .val (.int p1), .val (.ref b35), .val (.int (p0 &&& (3 : Int32))), .val (.int (p1 &&& (3 : Int32))), .val (.ref w_2), .unset, .unset] [(.int (p1 &&& (3 : Int32))), (.ref b35)])) _
          refine X47.aaload hx (j := (p1 &&& (3 : Int32))) (v := (.ref w_1)) (by rw [e47]; exact Ar125.1) (State.isArrayOf_alike hZ.alike Ar125.2.1) rfl Ar125.2.2 hin125 hat125 (g := (mkF m 46 #[.val (.int p0), .val (.int p1), .val (.ref b35), .val (.int (p0 &&& (3 : Int32))), .val (.int (p1 &&& (3 : Int32))), .val (.ref w_2), .unset, .unset] [(.int (p1 &&& (3 : Int32))), (.ref b35)])) rfl rfl (hb hby at_46) _ ?_
          show Steps p.tables e below (T47.setTop (mkF m 47 #[.val (.int p0), .val (.int p1), .val (.ref b35), .val (.int (p0 &&& (3 : Int32))), .val (.int (p1 &&& (3 : Int32))), .val (.ref w_2), .unset, .unset] [(.ref w_1)])) _
          refine XS.astore X47.here hx rfl (hb hby at_47) rfl rfl (l' := #[.val (.int p0), .val (.int p1), .val (.ref b35), .val (.int (p0 &&& (3 : Int32))), .val (.int (p1 &&& (3 : Int32))), .val (.ref w_2), .val (.ref w_1), .unset]) rfl ?_
          show Steps p.tables e below (T47.setTop (mkF m 49 #[.val (.int p0), .val (.int p1), .val (.ref b35), .val (.int (p0 &&& (3 : Int32))), .val (.int (p1 &&& (3 : Int32))), .val (.ref w_2), .val (.ref w_1), .unset] [])) _
          refine XS.iload X47.here hx rfl (hb hby at_49) rfl ?_
          show Steps p.tables e below (T47.setTop (mkF m 51 #[.val (.int p0), .val (.int p1), .val (.ref b35), .val (.int (p0 &&& (3 : Int32))), .val (.int (p1 &&& (3 : Int32))), .val (.ref w_2), .val (.ref w_1), .unset] [(.int (p1 &&& (3 : Int32)))])) _
          refine XS.iconst X47.here hx rfl (hb hby at_51) ?_
          show Steps p.tables e below (T47.setTop (mkF m 52 #[.val (.int p0), .val (.int p1), .val (.ref b35), .val (.int (p0 &&& (3 : Int32))), .val (.int (p1 &&& (3 : Int32))), .val (.ref w_2), .val (.ref w_1), .unset] [(.int (2 : Int32)), (.int (p1 &&& (3 : Int32)))])) _
          refine XS.icmpYes X47.here hx rfl (pc0 := 52) (pc' := 62) rfl (hb hby at_52) rfl (tlt (by rw [hc124] <;> decide : ((p1 &&& (3 : Int32)) < (2 : Int32)))).1 (by decide) (by decide) ?_
          show Steps p.tables e below (T47.setTop (mkF m 62 #[.val (.int p0), .val (.int p1), .val (.ref b35), .val (.int (p0 &&& (3 : Int32))), .val (.int (p1 &&& (3 : Int32))), .val (.ref w_2), .val (.ref w_1), .unset] [])) _
          refine XS.iloadN X47.here hx rfl (hb hby at_62) rfl ?_
          show Steps p.tables e below (T47.setTop (mkF m 63 #[.val (.int p0), .val (.int p1), .val (.ref b35), .val (.int (p0 &&& (3 : Int32))), .val (.int (p1 &&& (3 : Int32))), .val (.ref w_2), .val (.ref w_1), .unset] [(.int (p0 &&& (3 : Int32)))])) _
          refine XS.iload X47.here hx rfl (hb hby at_63) rfl ?_
          show Steps p.tables e below (T47.setTop (mkF m 65 #[.val (.int p0), .val (.int p1), .val (.ref b35), .val (.int (p0 &&& (3 : Int32))), .val (.int (p1 &&& (3 : Int32))), .val (.ref w_2), .val (.ref w_1), .unset] [(.int (p1 &&& (3 : Int32))), (.int (p0 &&& (3 : Int32)))])) _
          refine XS.icmpYes X47.here hx rfl (pc0 := 65) (pc' := 75) rfl (hb hby at_65) rfl (feq (by rw [hc121, hc124] <;> decide : ¬ ((p0 &&& (3 : Int32)) = (p1 &&& (3 : Int32))))).2 (by decide) (by decide) ?_
          show Steps p.tables e below (T47.setTop (mkF m 75 #[.val (.int p0), .val (.int p1), .val (.ref b35), .val (.int (p0 &&& (3 : Int32))), .val (.int (p1 &&& (3 : Int32))), .val (.ref w_2), .val (.ref w_1), .unset] [])) _
          refine st126 _ ?_
          show Steps p.tables e below (T126.setTop (mkF m 78 #[.val (.int p0), .val (.int p1), .val (.ref b35), .val (.int (p0 &&& (3 : Int32))), .val (.int (p1 &&& (3 : Int32))), .val (.ref w_2), .val (.ref w_1), .unset] [(.ref w_3)])) _
          refine XS.astore X126.here hx rfl (hb hby at_78) rfl rfl (l' := #[.val (.int p0), .val (.int p1), .val (.ref b35), .val (.int (p0 &&& (3 : Int32))), .val (.int (p1 &&& (3 : Int32))), .val (.ref w_2), .val (.ref w_1), .val (.ref w_3)]) rfl ?_
          show Steps p.tables e below (T126.setTop (mkF m 80 #[.val (.int p0), .val (.int p1), .val (.ref b35), .val (.int (p0 &&& (3 : Int32))), .val (.int (p1 &&& (3 : Int32))), .val (.ref w_2), .val (.ref w_1), .val (.ref w_3)] [])) _
          refine XS.aload X126.here hx rfl (hb hby at_80) rfl rfl ?_
          show Steps p.tables e below (T126.setTop (mkF m 82 #[.val (.int p0), .val (.int p1), .val (.ref b35), .val (.int (p0 &&& (3 : Int32))), .val (.int (p1 &&& (3 : Int32))), .val (.ref w_2), .val (.ref w_1), .val (.ref w_3)] [(.ref w_2)])) _
          refine XS.aload X126.here hx rfl (hb hby at_82) rfl rfl ?_
          show Steps p.tables e below (T126.setTop (mkF m 84 #[.val (.int p0), .val (.int p1), .val (.ref b35), .val (.int (p0 &&& (3 : Int32))), .val (.int (p1 &&& (3 : Int32))), .val (.ref w_2), .val (.ref w_1), .val (.ref w_3)] [(.ref w_1), (.ref w_2)])) _
          refine st134.trans ?_
          show Steps p.tables e below (T134.setTop (mkF m 87 #[.val (.int p0), .val (.int p1), .val (.ref b35), .val (.int (p0 &&& (3 : Int32))), .val (.int (p1 &&& (3 : Int32))), .val (.ref w_2), .val (.ref w_1), .val (.ref w_3)] [(.ref w_3)])) _
          refine XS.aload X134.here hx rfl (hb hby at_87) rfl rfl ?_
          show Steps p.tables e below (T134.setTop (mkF m 89 #[.val (.int p0), .val (.int p1), .val (.ref b35), .val (.int (p0 &&& (3 : Int32))), .val (.int (p1 &&& (3 : Int32))), .val (.ref w_2), .val (.ref w_1), .val (.ref w_3)] [(.ref w_3), (.ref w_3)])) _
          refine Jvm.RoadKit.acmp (g := (mkF m 89 #[.val (.int p0), .val (.int p1), .val (.ref b35), .val (.int (p0 &&& (3 : Int32))), .val (.int (p1 &&& (3 : Int32))), .val (.ref w_2), .val (.ref w_1), .val (.ref w_3)] [(.ref w_3), (.ref w_3)])) X134 hx rfl rfl rfl (pc0 := 89) (pc' := 92) (same := true) rfl (hb hby at_89) rfl (decide_eq_true (congrArg Value.ref rfl)) (by decide) (by decide) ?_
          show Steps p.tables e below (T134.setTop (mkF m 92 #[.val (.int p0), .val (.int p1), .val (.ref b35), .val (.int (p0 &&& (3 : Int32))), .val (.int (p1 &&& (3 : Int32))), .val (.ref w_2), .val (.ref w_1), .val (.ref w_3)] [])) _
          refine XS.iconst X134.here hx rfl (hb hby at_92) ?_
          show Steps p.tables e below (T134.setTop (mkF m 93 #[.val (.int p0), .val (.int p1), .val (.ref b35), .val (.int (p0 &&& (3 : Int32))), .val (.int (p1 &&& (3 : Int32))), .val (.ref w_2), .val (.ref w_1), .val (.ref w_3)] [(.int (1 : Int32))])) _
          refine XS.goto X134.here hx rfl (pc0 := 93) (pc' := 97) rfl (hb hby at_93) (by decide) (by decide) ?_
          show Steps p.tables e below (T134.setTop (mkF m 97 #[.val (.int p0), .val (.int p1), .val (.ref b35), .val (.int (p0 &&& (3 : Int32))), .val (.int (p1 &&& (3 : Int32))), .val (.ref w_2), .val (.ref w_1), .val (.ref w_3)] [(.int (1 : Int32))])) _
          exact retN X134 hx (t := .boolean) Bd.returns (by simp) (hb hby at_97) hr
        · show Q0 Z w_1 w_2 w_3 w_4 w_5 k_5 p0 p1 h0 n0 _ T134.heap _
          rw [e134]
          exact ⟨by unfold sp0; rw [if_neg hc49, if_pos hc121, if_pos hc124], N134, trivial⟩
      · by_cases hc135 : (p1 &&& (3 : Int32)) = (1 : Int32)
        · obtain ⟨cl136, Ar136, qa136, Sa136, Ma136, Ha136, Ga136⟩ := id V_b35_47
          have hin136 : ¬ ((p1 &&& (3 : Int32)) < 0 ∨ cl136.slots.size ≤ ((p1 &&& (3 : Int32))).toNatClampNeg) := by rw [hc135]; exact inb_of Sa136 ⟨by decide, by decide⟩
          have hat136 : cl136.slots[((p1 &&& (3 : Int32))).toNatClampNeg]? = some (.ref w_2) := Has.at Ha136 hin136 (by rw [hc135]; rfl)
          obtain ⟨cq151, kq151, q151a, q151b, q151c⟩ := isOf hZ e47 (E_2.ext O47.2)
          obtain ⟨_, _, ⟨T151, L151, k151, n151⟩, -, X151, ⟨Lc151, hQ151, l151, y151, z151⟩, st151⟩ := X47.virtualBack hx (y := Y2) (z := Y2) hown (mvT hZ (hw _ (tk 12 rfl))) (mvT hZ (hw _ (tk 13 rfl))) (notFace_of_selects (args := #[]) (mvT hZ (hw _ (tk 15 rfl)))) (mvT hZ (hw _ (tk 15 rfl))) (mvT hZ (hw _ (tk 14 rfl))) (by decide) (backOf (W := 0) (rm1x6 l Z a0 hw [] w_1 w_2 w_3 w_4 w_5 k_5 hS0 h47 n0 O47) hZ (hw _ (tk 16 rfl)) (hw _ (tk 3 rfl)) (by decide) (by decide)) q151a q151c (g := (mkF m 84 #[.val (.int p0), .val (.int p1), .val (.ref b35), .val (.int (p0 &&& (3 : Int32))), .val (.int (p1 &&& (3 : Int32))), .val (.ref w_2), .val (.ref w_2), .val (.ref w_2)] [(.ref w_2), (.ref w_2)])) rfl (by rw [hml]; rfl) (Steps.refl _) (argsL := [(.ref w_2)]) (rest := []) (lenOf pd_1 rfl) rfl (by show 2 * 0 + _ ≤ _; exact Nat.le_of_eq rfl) (hb hby at_84) (fun _ _ => ⟨rfl, e47, (by decide : 1 + 0 ≤ _), (by decide : 4 + 0 ≤ _)⟩)
          dsimp only [Pt.U, Pt.locs, Pt.cells, Pt.slots] at X151 l151 y151 z151 st151 hQ151
          subst l151 y151 z151
          obtain ⟨rv151, N151q, e151⟩ := hQ151
          rw [show sp1x6 w_2 = (.ref w_2) from by unfold sp1x6; rfl] at rv151
          subst rv151
          have N151 := Fr.app N47 N151q
          obtain ⟨fs, hr, hrun, hended, hW, hsame⟩ := X151.leave (v := some (.int (1 : Int32))) (fun h => by rw [Bd.returns] at h; cases h)
          refine ⟨_, _, pre123 _ ?_, hrun, hended, _, _, rfl, ?_, ⟨_, rfl⟩, hW, hsame.mono (by decide) (by decide)⟩
          · show Steps p.tables e below (T47.setTop (mkF m 46 #[.val (.int p0), .val (.int p1), .val (.ref b35), .val (.int (p0 &&& (3 : Int32))), .val (.int (p1 &&& (3 : Int32))), .val (.ref w_2), .unset, .unset] [(.int (p1 &&& (3 : Int32))), (.ref b35)])) _
            refine X47.aaload hx (j := (p1 &&& (3 : Int32))) (v := (.ref w_2)) (by rw [e47]; exact Ar136.1) (State.isArrayOf_alike hZ.alike Ar136.2.1) rfl Ar136.2.2 hin136 hat136 (g := (mkF m 46 #[.val (.int p0), .val (.int p1), .val (.ref b35), .val (.int (p0 &&& (3 : Int32))), .val (.int (p1 &&& (3 : Int32))), .val (.ref w_2), .unset, .unset] [(.int (p1 &&& (3 : Int32))), (.ref b35)])) rfl rfl (hb hby at_46) _ ?_
            show Steps p.tables e below (T47.setTop (mkF m 47 #[.val (.int p0), .val (.int p1), .val (.ref b35), .val (.int (p0 &&& (3 : Int32))), .val (.int (p1 &&& (3 : Int32))), .val (.ref w_2), .unset, .unset] [(.ref w_2)])) _
            refine XS.astore X47.here hx rfl (hb hby at_47) rfl rfl (l' := #[.val (.int p0), .val (.int p1), .val (.ref b35), .val (.int (p0 &&& (3 : Int32))), .val (.int (p1 &&& (3 : Int32))), .val (.ref w_2), .val (.ref w_2), .unset]) rfl ?_
            show Steps p.tables e below (T47.setTop (mkF m 49 #[.val (.int p0), .val (.int p1), .val (.ref b35), .val (.int (p0 &&& (3 : Int32))), .val (.int (p1 &&& (3 : Int32))), .val (.ref w_2), .val (.ref w_2), .unset] [])) _
            refine XS.iload X47.here hx rfl (hb hby at_49) rfl ?_
            show Steps p.tables e below (T47.setTop (mkF m 51 #[.val (.int p0), .val (.int p1), .val (.ref b35), .val (.int (p0 &&& (3 : Int32))), .val (.int (p1 &&& (3 : Int32))), .val (.ref w_2), .val (.ref w_2), .unset] [(.int (p1 &&& (3 : Int32)))])) _
            refine XS.iconst X47.here hx rfl (hb hby at_51) ?_
            show Steps p.tables e below (T47.setTop (mkF m 52 #[.val (.int p0), .val (.int p1), .val (.ref b35), .val (.int (p0 &&& (3 : Int32))), .val (.int (p1 &&& (3 : Int32))), .val (.ref w_2), .val (.ref w_2), .unset] [(.int (2 : Int32)), (.int (p1 &&& (3 : Int32)))])) _
            refine XS.icmpYes X47.here hx rfl (pc0 := 52) (pc' := 62) rfl (hb hby at_52) rfl (tlt (by rw [hc135] <;> decide : ((p1 &&& (3 : Int32)) < (2 : Int32)))).1 (by decide) (by decide) ?_
            show Steps p.tables e below (T47.setTop (mkF m 62 #[.val (.int p0), .val (.int p1), .val (.ref b35), .val (.int (p0 &&& (3 : Int32))), .val (.int (p1 &&& (3 : Int32))), .val (.ref w_2), .val (.ref w_2), .unset] [])) _
            refine XS.iloadN X47.here hx rfl (hb hby at_62) rfl ?_
            show Steps p.tables e below (T47.setTop (mkF m 63 #[.val (.int p0), .val (.int p1), .val (.ref b35), .val (.int (p0 &&& (3 : Int32))), .val (.int (p1 &&& (3 : Int32))), .val (.ref w_2), .val (.ref w_2), .unset] [(.int (p0 &&& (3 : Int32)))])) _
            refine XS.iload X47.here hx rfl (hb hby at_63) rfl ?_
            show Steps p.tables e below (T47.setTop (mkF m 65 #[.val (.int p0), .val (.int p1), .val (.ref b35), .val (.int (p0 &&& (3 : Int32))), .val (.int (p1 &&& (3 : Int32))), .val (.ref w_2), .val (.ref w_2), .unset] [(.int (p1 &&& (3 : Int32))), (.int (p0 &&& (3 : Int32)))])) _
            refine XS.icmpNo X47.here hx rfl (hb hby at_65) rfl (teq (by rw [hc121, hc135] <;> decide : ((p0 &&& (3 : Int32)) = (p1 &&& (3 : Int32))))).2 ?_
            show Steps p.tables e below (T47.setTop (mkF m 68 #[.val (.int p0), .val (.int p1), .val (.ref b35), .val (.int (p0 &&& (3 : Int32))), .val (.int (p1 &&& (3 : Int32))), .val (.ref w_2), .val (.ref w_2), .unset] [])) _
            refine XS.aload X47.here hx rfl (hb hby at_68) rfl rfl ?_
            show Steps p.tables e below (T47.setTop (mkF m 70 #[.val (.int p0), .val (.int p1), .val (.ref b35), .val (.int (p0 &&& (3 : Int32))), .val (.int (p1 &&& (3 : Int32))), .val (.ref w_2), .val (.ref w_2), .unset] [(.ref w_2)])) _
            refine XS.astore X47.here hx rfl (hb hby at_70) rfl rfl (l' := #[.val (.int p0), .val (.int p1), .val (.ref b35), .val (.int (p0 &&& (3 : Int32))), .val (.int (p1 &&& (3 : Int32))), .val (.ref w_2), .val (.ref w_2), .val (.ref w_2)]) rfl ?_
            show Steps p.tables e below (T47.setTop (mkF m 72 #[.val (.int p0), .val (.int p1), .val (.ref b35), .val (.int (p0 &&& (3 : Int32))), .val (.int (p1 &&& (3 : Int32))), .val (.ref w_2), .val (.ref w_2), .val (.ref w_2)] [])) _
            refine XS.goto X47.here hx rfl (pc0 := 72) (pc' := 80) rfl (hb hby at_72) (by decide) (by decide) ?_
            show Steps p.tables e below (T47.setTop (mkF m 80 #[.val (.int p0), .val (.int p1), .val (.ref b35), .val (.int (p0 &&& (3 : Int32))), .val (.int (p1 &&& (3 : Int32))), .val (.ref w_2), .val (.ref w_2), .val (.ref w_2)] [])) _
            refine XS.aload X47.here hx rfl (hb hby at_80) rfl rfl ?_
            show Steps p.tables e below (T47.setTop (mkF m 82 #[.val (.int p0), .val (.int p1), .val (.ref b35), .val (.int (p0 &&& (3 : Int32))), .val (.int (p1 &&& (3 : Int32))), .val (.ref w_2), .val (.ref w_2), .val (.ref w_2)] [(.ref w_2)])) _
            refine XS.aload X47.here hx rfl (hb hby at_82) rfl rfl ?_
            show Steps p.tables e below (T47.setTop (mkF m 84 #[.val (.int p0), .val (.int p1), .val (.ref b35), .val (.int (p0 &&& (3 : Int32))), .val (.int (p1 &&& (3 : Int32))), .val (.ref w_2), .val (.ref w_2), .val (.ref w_2)] [(.ref w_2), (.ref w_2)])) _
            refine st151.trans ?_
            show Steps p.tables e below (T151.setTop (mkF m 87 #[.val (.int p0), .val (.int p1), .val (.ref b35), .val (.int (p0 &&& (3 : Int32))), .val (.int (p1 &&& (3 : Int32))), .val (.ref w_2), .val (.ref w_2), .val (.ref w_2)] [(.ref w_2)])) _
            refine XS.aload X151.here hx rfl (hb hby at_87) rfl rfl ?_
            show Steps p.tables e below (T151.setTop (mkF m 89 #[.val (.int p0), .val (.int p1), .val (.ref b35), .val (.int (p0 &&& (3 : Int32))), .val (.int (p1 &&& (3 : Int32))), .val (.ref w_2), .val (.ref w_2), .val (.ref w_2)] [(.ref w_2), (.ref w_2)])) _
            refine Jvm.RoadKit.acmp (g := (mkF m 89 #[.val (.int p0), .val (.int p1), .val (.ref b35), .val (.int (p0 &&& (3 : Int32))), .val (.int (p1 &&& (3 : Int32))), .val (.ref w_2), .val (.ref w_2), .val (.ref w_2)] [(.ref w_2), (.ref w_2)])) X151 hx rfl rfl rfl (pc0 := 89) (pc' := 92) (same := true) rfl (hb hby at_89) rfl (decide_eq_true (congrArg Value.ref rfl)) (by decide) (by decide) ?_
            show Steps p.tables e below (T151.setTop (mkF m 92 #[.val (.int p0), .val (.int p1), .val (.ref b35), .val (.int (p0 &&& (3 : Int32))), .val (.int (p1 &&& (3 : Int32))), .val (.ref w_2), .val (.ref w_2), .val (.ref w_2)] [])) _
            refine XS.iconst X151.here hx rfl (hb hby at_92) ?_
            show Steps p.tables e below (T151.setTop (mkF m 93 #[.val (.int p0), .val (.int p1), .val (.ref b35), .val (.int (p0 &&& (3 : Int32))), .val (.int (p1 &&& (3 : Int32))), .val (.ref w_2), .val (.ref w_2), .val (.ref w_2)] [(.int (1 : Int32))])) _
            refine XS.goto X151.here hx rfl (pc0 := 93) (pc' := 97) rfl (hb hby at_93) (by decide) (by decide) ?_
            show Steps p.tables e below (T151.setTop (mkF m 97 #[.val (.int p0), .val (.int p1), .val (.ref b35), .val (.int (p0 &&& (3 : Int32))), .val (.int (p1 &&& (3 : Int32))), .val (.ref w_2), .val (.ref w_2), .val (.ref w_2)] [(.int (1 : Int32))])) _
            exact retN X151 hx (t := .boolean) Bd.returns (by simp) (hb hby at_97) hr
          · show Q0 Z w_1 w_2 w_3 w_4 w_5 k_5 p0 p1 h0 n0 _ T151.heap _
            rw [e151]
            exact ⟨by unfold sp0; rw [if_neg hc49, if_pos hc121, if_neg hc124, if_pos hc135], N151, trivial⟩
        · by_cases hc152 : (p1 &&& (3 : Int32)) = (2 : Int32)
          · obtain ⟨cl153, Ar153, qa153, Sa153, Ma153, Ha153, Ga153⟩ := id V_b35_47
            have hin153 : ¬ ((p1 &&& (3 : Int32)) < 0 ∨ cl153.slots.size ≤ ((p1 &&& (3 : Int32))).toNatClampNeg) := by rw [hc152]; exact inb_of Sa153 ⟨by decide, by decide⟩
            have hat153 : cl153.slots[((p1 &&& (3 : Int32))).toNatClampNeg]? = some (.ref w_3) := Has.at Ha153 hin153 (by rw [hc152]; rfl)
            obtain ⟨cq168, kq168, q168a, q168b, q168c⟩ := isOf hZ e47 (E_2.ext O47.2)
            obtain ⟨_, _, ⟨T168, L168, k168, n168⟩, -, X168, ⟨Lc168, hQ168, l168, y168, z168⟩, st168⟩ := X47.virtualBack hx (y := Y2) (z := Y2) hown (mvT hZ (hw _ (tk 12 rfl))) (mvT hZ (hw _ (tk 13 rfl))) (notFace_of_selects (args := #[]) (mvT hZ (hw _ (tk 15 rfl)))) (mvT hZ (hw _ (tk 15 rfl))) (mvT hZ (hw _ (tk 14 rfl))) (by decide) (backOf (W := 0) (rm1x7 l Z a0 hw [] w_1 w_2 w_3 w_4 w_5 k_5 hS0 h47 n0 O47) hZ (hw _ (tk 16 rfl)) (hw _ (tk 3 rfl)) (by decide) (by decide)) q168a q168c (g := (mkF m 84 #[.val (.int p0), .val (.int p1), .val (.ref b35), .val (.int (p0 &&& (3 : Int32))), .val (.int (p1 &&& (3 : Int32))), .val (.ref w_2), .val (.ref w_3), .val (.ref w_3)] [(.ref w_3), (.ref w_2)])) rfl (by rw [hml]; rfl) (Steps.refl _) (argsL := [(.ref w_3)]) (rest := []) (lenOf pd_1 rfl) rfl (by show 2 * 0 + _ ≤ _; exact Nat.le_of_eq rfl) (hb hby at_84) (fun _ _ => ⟨rfl, e47, (by decide : 1 + 0 ≤ _), (by decide : 4 + 0 ≤ _)⟩)
            dsimp only [Pt.U, Pt.locs, Pt.cells, Pt.slots] at X168 l168 y168 z168 st168 hQ168
            subst l168 y168 z168
            obtain ⟨rv168, N168q, e168⟩ := hQ168
            rw [show sp1x7 w_3 = (.ref w_3) from by unfold sp1x7; rfl] at rv168
            subst rv168
            have N168 := Fr.app N47 N168q
            obtain ⟨fs, hr, hrun, hended, hW, hsame⟩ := X168.leave (v := some (.int (1 : Int32))) (fun h => by rw [Bd.returns] at h; cases h)
            refine ⟨_, _, pre123 _ ?_, hrun, hended, _, _, rfl, ?_, ⟨_, rfl⟩, hW, hsame.mono (by decide) (by decide)⟩
            · show Steps p.tables e below (T47.setTop (mkF m 46 #[.val (.int p0), .val (.int p1), .val (.ref b35), .val (.int (p0 &&& (3 : Int32))), .val (.int (p1 &&& (3 : Int32))), .val (.ref w_2), .unset, .unset] [(.int (p1 &&& (3 : Int32))), (.ref b35)])) _
              refine X47.aaload hx (j := (p1 &&& (3 : Int32))) (v := (.ref w_3)) (by rw [e47]; exact Ar153.1) (State.isArrayOf_alike hZ.alike Ar153.2.1) rfl Ar153.2.2 hin153 hat153 (g := (mkF m 46 #[.val (.int p0), .val (.int p1), .val (.ref b35), .val (.int (p0 &&& (3 : Int32))), .val (.int (p1 &&& (3 : Int32))), .val (.ref w_2), .unset, .unset] [(.int (p1 &&& (3 : Int32))), (.ref b35)])) rfl rfl (hb hby at_46) _ ?_
              show Steps p.tables e below (T47.setTop (mkF m 47 #[.val (.int p0), .val (.int p1), .val (.ref b35), .val (.int (p0 &&& (3 : Int32))), .val (.int (p1 &&& (3 : Int32))), .val (.ref w_2), .unset, .unset] [(.ref w_3)])) _
              refine XS.astore X47.here hx rfl (hb hby at_47) rfl rfl (l' := #[.val (.int p0), .val (.int p1), .val (.ref b35), .val (.int (p0 &&& (3 : Int32))), .val (.int (p1 &&& (3 : Int32))), .val (.ref w_2), .val (.ref w_3), .unset]) rfl ?_
              show Steps p.tables e below (T47.setTop (mkF m 49 #[.val (.int p0), .val (.int p1), .val (.ref b35), .val (.int (p0 &&& (3 : Int32))), .val (.int (p1 &&& (3 : Int32))), .val (.ref w_2), .val (.ref w_3), .unset] [])) _
              refine XS.iload X47.here hx rfl (hb hby at_49) rfl ?_
              show Steps p.tables e below (T47.setTop (mkF m 51 #[.val (.int p0), .val (.int p1), .val (.ref b35), .val (.int (p0 &&& (3 : Int32))), .val (.int (p1 &&& (3 : Int32))), .val (.ref w_2), .val (.ref w_3), .unset] [(.int (p1 &&& (3 : Int32)))])) _
              refine XS.iconst X47.here hx rfl (hb hby at_51) ?_
              show Steps p.tables e below (T47.setTop (mkF m 52 #[.val (.int p0), .val (.int p1), .val (.ref b35), .val (.int (p0 &&& (3 : Int32))), .val (.int (p1 &&& (3 : Int32))), .val (.ref w_2), .val (.ref w_3), .unset] [(.int (2 : Int32)), (.int (p1 &&& (3 : Int32)))])) _
              refine XS.icmpNo X47.here hx rfl (hb hby at_52) rfl (flt (by rw [hc152] <;> decide : ¬ ((p1 &&& (3 : Int32)) < (2 : Int32)))).1 ?_
              show Steps p.tables e below (T47.setTop (mkF m 55 #[.val (.int p0), .val (.int p1), .val (.ref b35), .val (.int (p0 &&& (3 : Int32))), .val (.int (p1 &&& (3 : Int32))), .val (.ref w_2), .val (.ref w_3), .unset] [])) _
              refine XS.aload X47.here hx rfl (hb hby at_55) rfl rfl ?_
              show Steps p.tables e below (T47.setTop (mkF m 57 #[.val (.int p0), .val (.int p1), .val (.ref b35), .val (.int (p0 &&& (3 : Int32))), .val (.int (p1 &&& (3 : Int32))), .val (.ref w_2), .val (.ref w_3), .unset] [(.ref w_3)])) _
              refine XS.astore X47.here hx rfl (hb hby at_57) rfl rfl (l' := #[.val (.int p0), .val (.int p1), .val (.ref b35), .val (.int (p0 &&& (3 : Int32))), .val (.int (p1 &&& (3 : Int32))), .val (.ref w_2), .val (.ref w_3), .val (.ref w_3)]) rfl ?_
              show Steps p.tables e below (T47.setTop (mkF m 59 #[.val (.int p0), .val (.int p1), .val (.ref b35), .val (.int (p0 &&& (3 : Int32))), .val (.int (p1 &&& (3 : Int32))), .val (.ref w_2), .val (.ref w_3), .val (.ref w_3)] [])) _
              refine XS.goto X47.here hx rfl (pc0 := 59) (pc' := 80) rfl (hb hby at_59) (by decide) (by decide) ?_
              show Steps p.tables e below (T47.setTop (mkF m 80 #[.val (.int p0), .val (.int p1), .val (.ref b35), .val (.int (p0 &&& (3 : Int32))), .val (.int (p1 &&& (3 : Int32))), .val (.ref w_2), .val (.ref w_3), .val (.ref w_3)] [])) _
              refine XS.aload X47.here hx rfl (hb hby at_80) rfl rfl ?_
              show Steps p.tables e below (T47.setTop (mkF m 82 #[.val (.int p0), .val (.int p1), .val (.ref b35), .val (.int (p0 &&& (3 : Int32))), .val (.int (p1 &&& (3 : Int32))), .val (.ref w_2), .val (.ref w_3), .val (.ref w_3)] [(.ref w_2)])) _
              refine XS.aload X47.here hx rfl (hb hby at_82) rfl rfl ?_
              show Steps p.tables e below (T47.setTop (mkF m 84 #[.val (.int p0), .val (.int p1), .val (.ref b35), .val (.int (p0 &&& (3 : Int32))), .val (.int (p1 &&& (3 : Int32))), .val (.ref w_2), .val (.ref w_3), .val (.ref w_3)] [(.ref w_3), (.ref w_2)])) _
              refine st168.trans ?_
              show Steps p.tables e below (T168.setTop (mkF m 87 #[.val (.int p0), .val (.int p1), .val (.ref b35), .val (.int (p0 &&& (3 : Int32))), .val (.int (p1 &&& (3 : Int32))), .val (.ref w_2), .val (.ref w_3), .val (.ref w_3)] [(.ref w_3)])) _
              refine XS.aload X168.here hx rfl (hb hby at_87) rfl rfl ?_
              show Steps p.tables e below (T168.setTop (mkF m 89 #[.val (.int p0), .val (.int p1), .val (.ref b35), .val (.int (p0 &&& (3 : Int32))), .val (.int (p1 &&& (3 : Int32))), .val (.ref w_2), .val (.ref w_3), .val (.ref w_3)] [(.ref w_3), (.ref w_3)])) _
              refine Jvm.RoadKit.acmp (g := (mkF m 89 #[.val (.int p0), .val (.int p1), .val (.ref b35), .val (.int (p0 &&& (3 : Int32))), .val (.int (p1 &&& (3 : Int32))), .val (.ref w_2), .val (.ref w_3), .val (.ref w_3)] [(.ref w_3), (.ref w_3)])) X168 hx rfl rfl rfl (pc0 := 89) (pc' := 92) (same := true) rfl (hb hby at_89) rfl (decide_eq_true (congrArg Value.ref rfl)) (by decide) (by decide) ?_
              show Steps p.tables e below (T168.setTop (mkF m 92 #[.val (.int p0), .val (.int p1), .val (.ref b35), .val (.int (p0 &&& (3 : Int32))), .val (.int (p1 &&& (3 : Int32))), .val (.ref w_2), .val (.ref w_3), .val (.ref w_3)] [])) _
              refine XS.iconst X168.here hx rfl (hb hby at_92) ?_
              show Steps p.tables e below (T168.setTop (mkF m 93 #[.val (.int p0), .val (.int p1), .val (.ref b35), .val (.int (p0 &&& (3 : Int32))), .val (.int (p1 &&& (3 : Int32))), .val (.ref w_2), .val (.ref w_3), .val (.ref w_3)] [(.int (1 : Int32))])) _
              refine XS.goto X168.here hx rfl (pc0 := 93) (pc' := 97) rfl (hb hby at_93) (by decide) (by decide) ?_
              show Steps p.tables e below (T168.setTop (mkF m 97 #[.val (.int p0), .val (.int p1), .val (.ref b35), .val (.int (p0 &&& (3 : Int32))), .val (.int (p1 &&& (3 : Int32))), .val (.ref w_2), .val (.ref w_3), .val (.ref w_3)] [(.int (1 : Int32))])) _
              exact retN X168 hx (t := .boolean) Bd.returns (by simp) (hb hby at_97) hr
            · show Q0 Z w_1 w_2 w_3 w_4 w_5 k_5 p0 p1 h0 n0 _ T168.heap _
              rw [e168]
              exact ⟨by unfold sp0; rw [if_neg hc49, if_pos hc121, if_neg hc124, if_neg hc135, if_pos hc152], N168, trivial⟩
          · have hL169 : (p1 &&& (3 : Int32)) = (3 : Int32) := by
              have r : 0 ≤ ((p1 &&& (3 : Int32))).toInt ∧ ((p1 &&& (3 : Int32))).toInt < 4 := (own_rand p1 (3 : Int32) 4 (by decide) (by decide))
              have q0 := own_ne hc124 (n := 0) (by decide)
              have q1 := own_ne hc135 (n := 1) (by decide)
              have q2 := own_ne hc152 (n := 2) (by decide)
              exact own_eq (n := 3) (by decide) (by omega)
            obtain ⟨cl170, Ar170, qa170, Sa170, Ma170, Ha170, Ga170⟩ := id V_b35_47
            have hin170 : ¬ ((p1 &&& (3 : Int32)) < 0 ∨ cl170.slots.size ≤ ((p1 &&& (3 : Int32))).toNatClampNeg) := by rw [hL169]; exact inb_of Sa170 ⟨by decide, by decide⟩
            have hat170 : cl170.slots[((p1 &&& (3 : Int32))).toNatClampNeg]? = some (.ref w_4) := Has.at Ha170 hin170 (by rw [hL169]; rfl)
            obtain ⟨cq185, kq185, q185a, q185b, q185c⟩ := isOf hZ e47 (E_2.ext O47.2)
            obtain ⟨_, _, ⟨T185, L185, k185, n185⟩, -, X185, ⟨Lc185, hQ185, l185, y185, z185⟩, st185⟩ := X47.virtualBack hx (y := Y2) (z := Y2) hown (mvT hZ (hw _ (tk 12 rfl))) (mvT hZ (hw _ (tk 13 rfl))) (notFace_of_selects (args := #[]) (mvT hZ (hw _ (tk 15 rfl)))) (mvT hZ (hw _ (tk 15 rfl))) (mvT hZ (hw _ (tk 14 rfl))) (by decide) (backOf (W := 0) (rm1x8 l Z a0 hw [] w_1 w_2 w_3 w_4 w_5 k_5 hS0 h47 n0 O47) hZ (hw _ (tk 16 rfl)) (hw _ (tk 3 rfl)) (by decide) (by decide)) q185a q185c (g := (mkF m 84 #[.val (.int p0), .val (.int p1), .val (.ref b35), .val (.int (p0 &&& (3 : Int32))), .val (.int (p1 &&& (3 : Int32))), .val (.ref w_2), .val (.ref w_4), .val (.ref w_4)] [(.ref w_4), (.ref w_2)])) rfl (by rw [hml]; rfl) (Steps.refl _) (argsL := [(.ref w_4)]) (rest := []) (lenOf pd_1 rfl) rfl (by show 2 * 0 + _ ≤ _; exact Nat.le_of_eq rfl) (hb hby at_84) (fun _ _ => ⟨rfl, e47, (by decide : 1 + 0 ≤ _), (by decide : 4 + 0 ≤ _)⟩)
            dsimp only [Pt.U, Pt.locs, Pt.cells, Pt.slots] at X185 l185 y185 z185 st185 hQ185
            subst l185 y185 z185
            obtain ⟨rv185, N185q, e185⟩ := hQ185
            rw [show sp1x8 w_4 = (.ref w_4) from by unfold sp1x8; rfl] at rv185
            subst rv185
            have N185 := Fr.app N47 N185q
            obtain ⟨fs, hr, hrun, hended, hW, hsame⟩ := X185.leave (v := some (.int (1 : Int32))) (fun h => by rw [Bd.returns] at h; cases h)
            refine ⟨_, _, pre123 _ ?_, hrun, hended, _, _, rfl, ?_, ⟨_, rfl⟩, hW, hsame.mono (by decide) (by decide)⟩
            · show Steps p.tables e below (T47.setTop (mkF m 46 #[.val (.int p0), .val (.int p1), .val (.ref b35), .val (.int (p0 &&& (3 : Int32))), .val (.int (p1 &&& (3 : Int32))), .val (.ref w_2), .unset, .unset] [(.int (p1 &&& (3 : Int32))), (.ref b35)])) _
              refine X47.aaload hx (j := (p1 &&& (3 : Int32))) (v := (.ref w_4)) (by rw [e47]; exact Ar170.1) (State.isArrayOf_alike hZ.alike Ar170.2.1) rfl Ar170.2.2 hin170 hat170 (g := (mkF m 46 #[.val (.int p0), .val (.int p1), .val (.ref b35), .val (.int (p0 &&& (3 : Int32))), .val (.int (p1 &&& (3 : Int32))), .val (.ref w_2), .unset, .unset] [(.int (p1 &&& (3 : Int32))), (.ref b35)])) rfl rfl (hb hby at_46) _ ?_
              show Steps p.tables e below (T47.setTop (mkF m 47 #[.val (.int p0), .val (.int p1), .val (.ref b35), .val (.int (p0 &&& (3 : Int32))), .val (.int (p1 &&& (3 : Int32))), .val (.ref w_2), .unset, .unset] [(.ref w_4)])) _
              refine XS.astore X47.here hx rfl (hb hby at_47) rfl rfl (l' := #[.val (.int p0), .val (.int p1), .val (.ref b35), .val (.int (p0 &&& (3 : Int32))), .val (.int (p1 &&& (3 : Int32))), .val (.ref w_2), .val (.ref w_4), .unset]) rfl ?_
              show Steps p.tables e below (T47.setTop (mkF m 49 #[.val (.int p0), .val (.int p1), .val (.ref b35), .val (.int (p0 &&& (3 : Int32))), .val (.int (p1 &&& (3 : Int32))), .val (.ref w_2), .val (.ref w_4), .unset] [])) _
              refine XS.iload X47.here hx rfl (hb hby at_49) rfl ?_
              show Steps p.tables e below (T47.setTop (mkF m 51 #[.val (.int p0), .val (.int p1), .val (.ref b35), .val (.int (p0 &&& (3 : Int32))), .val (.int (p1 &&& (3 : Int32))), .val (.ref w_2), .val (.ref w_4), .unset] [(.int (p1 &&& (3 : Int32)))])) _
              refine XS.iconst X47.here hx rfl (hb hby at_51) ?_
              show Steps p.tables e below (T47.setTop (mkF m 52 #[.val (.int p0), .val (.int p1), .val (.ref b35), .val (.int (p0 &&& (3 : Int32))), .val (.int (p1 &&& (3 : Int32))), .val (.ref w_2), .val (.ref w_4), .unset] [(.int (2 : Int32)), (.int (p1 &&& (3 : Int32)))])) _
              refine XS.icmpNo X47.here hx rfl (hb hby at_52) rfl (flt (by rw [hL169] <;> decide : ¬ ((p1 &&& (3 : Int32)) < (2 : Int32)))).1 ?_
              show Steps p.tables e below (T47.setTop (mkF m 55 #[.val (.int p0), .val (.int p1), .val (.ref b35), .val (.int (p0 &&& (3 : Int32))), .val (.int (p1 &&& (3 : Int32))), .val (.ref w_2), .val (.ref w_4), .unset] [])) _
              refine XS.aload X47.here hx rfl (hb hby at_55) rfl rfl ?_
              show Steps p.tables e below (T47.setTop (mkF m 57 #[.val (.int p0), .val (.int p1), .val (.ref b35), .val (.int (p0 &&& (3 : Int32))), .val (.int (p1 &&& (3 : Int32))), .val (.ref w_2), .val (.ref w_4), .unset] [(.ref w_4)])) _
              refine XS.astore X47.here hx rfl (hb hby at_57) rfl rfl (l' := #[.val (.int p0), .val (.int p1), .val (.ref b35), .val (.int (p0 &&& (3 : Int32))), .val (.int (p1 &&& (3 : Int32))), .val (.ref w_2), .val (.ref w_4), .val (.ref w_4)]) rfl ?_
              show Steps p.tables e below (T47.setTop (mkF m 59 #[.val (.int p0), .val (.int p1), .val (.ref b35), .val (.int (p0 &&& (3 : Int32))), .val (.int (p1 &&& (3 : Int32))), .val (.ref w_2), .val (.ref w_4), .val (.ref w_4)] [])) _
              refine XS.goto X47.here hx rfl (pc0 := 59) (pc' := 80) rfl (hb hby at_59) (by decide) (by decide) ?_
              show Steps p.tables e below (T47.setTop (mkF m 80 #[.val (.int p0), .val (.int p1), .val (.ref b35), .val (.int (p0 &&& (3 : Int32))), .val (.int (p1 &&& (3 : Int32))), .val (.ref w_2), .val (.ref w_4), .val (.ref w_4)] [])) _
              refine XS.aload X47.here hx rfl (hb hby at_80) rfl rfl ?_
              show Steps p.tables e below (T47.setTop (mkF m 82 #[.val (.int p0), .val (.int p1), .val (.ref b35), .val (.int (p0 &&& (3 : Int32))), .val (.int (p1 &&& (3 : Int32))), .val (.ref w_2), .val (.ref w_4), .val (.ref w_4)] [(.ref w_2)])) _
              refine XS.aload X47.here hx rfl (hb hby at_82) rfl rfl ?_
              show Steps p.tables e below (T47.setTop (mkF m 84 #[.val (.int p0), .val (.int p1), .val (.ref b35), .val (.int (p0 &&& (3 : Int32))), .val (.int (p1 &&& (3 : Int32))), .val (.ref w_2), .val (.ref w_4), .val (.ref w_4)] [(.ref w_4), (.ref w_2)])) _
              refine st185.trans ?_
              show Steps p.tables e below (T185.setTop (mkF m 87 #[.val (.int p0), .val (.int p1), .val (.ref b35), .val (.int (p0 &&& (3 : Int32))), .val (.int (p1 &&& (3 : Int32))), .val (.ref w_2), .val (.ref w_4), .val (.ref w_4)] [(.ref w_4)])) _
              refine XS.aload X185.here hx rfl (hb hby at_87) rfl rfl ?_
              show Steps p.tables e below (T185.setTop (mkF m 89 #[.val (.int p0), .val (.int p1), .val (.ref b35), .val (.int (p0 &&& (3 : Int32))), .val (.int (p1 &&& (3 : Int32))), .val (.ref w_2), .val (.ref w_4), .val (.ref w_4)] [(.ref w_4), (.ref w_4)])) _
              refine Jvm.RoadKit.acmp (g := (mkF m 89 #[.val (.int p0), .val (.int p1), .val (.ref b35), .val (.int (p0 &&& (3 : Int32))), .val (.int (p1 &&& (3 : Int32))), .val (.ref w_2), .val (.ref w_4), .val (.ref w_4)] [(.ref w_4), (.ref w_4)])) X185 hx rfl rfl rfl (pc0 := 89) (pc' := 92) (same := true) rfl (hb hby at_89) rfl (decide_eq_true (congrArg Value.ref rfl)) (by decide) (by decide) ?_
              show Steps p.tables e below (T185.setTop (mkF m 92 #[.val (.int p0), .val (.int p1), .val (.ref b35), .val (.int (p0 &&& (3 : Int32))), .val (.int (p1 &&& (3 : Int32))), .val (.ref w_2), .val (.ref w_4), .val (.ref w_4)] [])) _
              refine XS.iconst X185.here hx rfl (hb hby at_92) ?_
              show Steps p.tables e below (T185.setTop (mkF m 93 #[.val (.int p0), .val (.int p1), .val (.ref b35), .val (.int (p0 &&& (3 : Int32))), .val (.int (p1 &&& (3 : Int32))), .val (.ref w_2), .val (.ref w_4), .val (.ref w_4)] [(.int (1 : Int32))])) _
              refine XS.goto X185.here hx rfl (pc0 := 93) (pc' := 97) rfl (hb hby at_93) (by decide) (by decide) ?_
              show Steps p.tables e below (T185.setTop (mkF m 97 #[.val (.int p0), .val (.int p1), .val (.ref b35), .val (.int (p0 &&& (3 : Int32))), .val (.int (p1 &&& (3 : Int32))), .val (.ref w_2), .val (.ref w_4), .val (.ref w_4)] [(.int (1 : Int32))])) _
              exact retN X185 hx (t := .boolean) Bd.returns (by simp) (hb hby at_97) hr
            · show Q0 Z w_1 w_2 w_3 w_4 w_5 k_5 p0 p1 h0 n0 _ T185.heap _
              rw [e185]
              exact ⟨by unfold sp0; rw [if_neg hc49, if_pos hc121, if_neg hc124, if_neg hc135, if_neg hc152], N185, trivial⟩
    · by_cases hc186 : (p0 &&& (3 : Int32)) = (2 : Int32)
      · obtain ⟨cl187, Ar187, qa187, Sa187, Ma187, Ha187, Ga187⟩ := id V_b35_47
        have hin187 : ¬ ((p0 &&& (3 : Int32)) < 0 ∨ cl187.slots.size ≤ ((p0 &&& (3 : Int32))).toNatClampNeg) := by rw [hc186]; exact inb_of Sa187 ⟨by decide, by decide⟩
        have hat187 : cl187.slots[((p0 &&& (3 : Int32))).toNatClampNeg]? = some (.ref w_3) := Has.at Ha187 hin187 (by rw [hc186]; rfl)
        have pre188 : ∀ t, Steps p.tables e below (T47.setTop (mkF m 46 #[.val (.int p0), .val (.int p1), .val (.ref b35), .val (.int (p0 &&& (3 : Int32))), .val (.int (p1 &&& (3 : Int32))), .val (.ref w_3), .unset, .unset] [(.int (p1 &&& (3 : Int32))), (.ref b35)])) t → Steps p.tables e below (s₁.setTop (entryFrame m #[(.int p0), (.int p1)] maxLocals)) t := fun t kt => by
          refine pre48 t ?_
          show Steps p.tables e below (T47.setTop (mkF m 40 #[.val (.int p0), .val (.int p1), .val (.ref b35), .val (.int (p0 &&& (3 : Int32))), .val (.int (p1 &&& (3 : Int32))), .unset, .unset, .unset] [(.int (p0 &&& (3 : Int32))), (.ref b35)])) _
          refine X47.aaload hx (j := (p0 &&& (3 : Int32))) (v := (.ref w_3)) (by rw [e47]; exact Ar187.1) (State.isArrayOf_alike hZ.alike Ar187.2.1) rfl Ar187.2.2 hin187 hat187 (g := (mkF m 40 #[.val (.int p0), .val (.int p1), .val (.ref b35), .val (.int (p0 &&& (3 : Int32))), .val (.int (p1 &&& (3 : Int32))), .unset, .unset, .unset] [(.int (p0 &&& (3 : Int32))), (.ref b35)])) rfl rfl (hb hby at_40) _ ?_
          show Steps p.tables e below (T47.setTop (mkF m 41 #[.val (.int p0), .val (.int p1), .val (.ref b35), .val (.int (p0 &&& (3 : Int32))), .val (.int (p1 &&& (3 : Int32))), .unset, .unset, .unset] [(.ref w_3)])) _
          refine XS.astore X47.here hx rfl (hb hby at_41) rfl rfl (l' := #[.val (.int p0), .val (.int p1), .val (.ref b35), .val (.int (p0 &&& (3 : Int32))), .val (.int (p1 &&& (3 : Int32))), .val (.ref w_3), .unset, .unset]) rfl ?_
          show Steps p.tables e below (T47.setTop (mkF m 43 #[.val (.int p0), .val (.int p1), .val (.ref b35), .val (.int (p0 &&& (3 : Int32))), .val (.int (p1 &&& (3 : Int32))), .val (.ref w_3), .unset, .unset] [])) _
          refine XS.aloadN X47.here hx rfl (hb hby at_43) rfl rfl ?_
          show Steps p.tables e below (T47.setTop (mkF m 44 #[.val (.int p0), .val (.int p1), .val (.ref b35), .val (.int (p0 &&& (3 : Int32))), .val (.int (p1 &&& (3 : Int32))), .val (.ref w_3), .unset, .unset] [(.ref b35)])) _
          refine XS.iload X47.here hx rfl (hb hby at_44) rfl ?_
          show Steps p.tables e below (T47.setTop (mkF m 46 #[.val (.int p0), .val (.int p1), .val (.ref b35), .val (.int (p0 &&& (3 : Int32))), .val (.int (p1 &&& (3 : Int32))), .val (.ref w_3), .unset, .unset] [(.int (p1 &&& (3 : Int32))), (.ref b35)])) _
          exact kt
        by_cases hc189 : (p1 &&& (3 : Int32)) = (0 : Int32)
        · obtain ⟨cl190, Ar190, qa190, Sa190, Ma190, Ha190, Ga190⟩ := id V_b35_47
          have hin190 : ¬ ((p1 &&& (3 : Int32)) < 0 ∨ cl190.slots.size ≤ ((p1 &&& (3 : Int32))).toNatClampNeg) := by rw [hc189]; exact inb_of Sa190 ⟨by decide, by decide⟩
          have hat190 : cl190.slots[((p1 &&& (3 : Int32))).toNatClampNeg]? = some (.ref w_1) := Has.at Ha190 hin190 (by rw [hc189]; rfl)
          obtain ⟨T191, X191, e191, st191⟩ := getS2 X47 hx hZ hown (host := "") (Or.inl (hw _ (tk 8 rfl))) Via.refl e47 (S_3.ext O47.2) (g := (mkF m 75 #[.val (.int p0), .val (.int p1), .val (.ref b35), .val (.int (p0 &&& (3 : Int32))), .val (.int (p1 &&& (3 : Int32))), .val (.ref w_3), .val (.ref w_1), .unset] [])) rfl (hb hby at_75)
          obtain ⟨cq199, kq199, q199a, q199b, q199c⟩ := isOf hZ e191 (E_3.ext O47.2)
          obtain ⟨_, _, ⟨T199, L199, k199, n199⟩, -, X199, ⟨Lc199, hQ199, l199, y199, z199⟩, st199⟩ := X191.virtualBack hx (y := Y2) (z := Y2) hown (mvT hZ (hw _ (tk 12 rfl))) (mvT hZ (hw _ (tk 13 rfl))) (notFace_of_selects (args := #[]) (mvT hZ (hw _ (tk 15 rfl)))) (mvT hZ (hw _ (tk 15 rfl))) (mvT hZ (hw _ (tk 14 rfl))) (by decide) (backOf (W := 0) (rm1x9 l Z a0 hw [] w_1 w_2 w_3 w_4 w_5 k_5 hS0 h47 n0 O47) hZ (hw _ (tk 16 rfl)) (hw _ (tk 3 rfl)) (by decide) (by decide)) q199a q199c (g := (mkF m 84 #[.val (.int p0), .val (.int p1), .val (.ref b35), .val (.int (p0 &&& (3 : Int32))), .val (.int (p1 &&& (3 : Int32))), .val (.ref w_3), .val (.ref w_1), .val (.ref w_3)] [(.ref w_1), (.ref w_3)])) rfl (by rw [hml]; rfl) (Steps.refl _) (argsL := [(.ref w_1)]) (rest := []) (lenOf pd_1 rfl) rfl (by show 2 * 0 + _ ≤ _; exact Nat.le_of_eq rfl) (hb hby at_84) (fun _ _ => ⟨rfl, e191, (by decide : 1 + 0 ≤ _), (by decide : 4 + 0 ≤ _)⟩)
          dsimp only [Pt.U, Pt.locs, Pt.cells, Pt.slots] at X199 l199 y199 z199 st199 hQ199
          subst l199 y199 z199
          obtain ⟨rv199, N199q, e199⟩ := hQ199
          rw [show sp1x9 w_3 = (.ref w_3) from by unfold sp1x9; rfl] at rv199
          subst rv199
          have N199 := Fr.app N47 N199q
          obtain ⟨fs, hr, hrun, hended, hW, hsame⟩ := X199.leave (v := some (.int (1 : Int32))) (fun h => by rw [Bd.returns] at h; cases h)
          refine ⟨_, _, pre188 _ ?_, hrun, hended, _, _, rfl, ?_, ⟨_, rfl⟩, hW, hsame.mono (by decide) (by decide)⟩
          · show Steps p.tables e below (T47.setTop (mkF m 46 #[.val (.int p0), .val (.int p1), .val (.ref b35), .val (.int (p0 &&& (3 : Int32))), .val (.int (p1 &&& (3 : Int32))), .val (.ref w_3), .unset, .unset] [(.int (p1 &&& (3 : Int32))), (.ref b35)])) _
            refine X47.aaload hx (j := (p1 &&& (3 : Int32))) (v := (.ref w_1)) (by rw [e47]; exact Ar190.1) (State.isArrayOf_alike hZ.alike Ar190.2.1) rfl Ar190.2.2 hin190 hat190 (g := (mkF m 46 #[.val (.int p0), .val (.int p1), .val (.ref b35), .val (.int (p0 &&& (3 : Int32))), .val (.int (p1 &&& (3 : Int32))), .val (.ref w_3), .unset, .unset] [(.int (p1 &&& (3 : Int32))), (.ref b35)])) rfl rfl (hb hby at_46) _ ?_
            show Steps p.tables e below (T47.setTop (mkF m 47 #[.val (.int p0), .val (.int p1), .val (.ref b35), .val (.int (p0 &&& (3 : Int32))), .val (.int (p1 &&& (3 : Int32))), .val (.ref w_3), .unset, .unset] [(.ref w_1)])) _
            refine XS.astore X47.here hx rfl (hb hby at_47) rfl rfl (l' := #[.val (.int p0), .val (.int p1), .val (.ref b35), .val (.int (p0 &&& (3 : Int32))), .val (.int (p1 &&& (3 : Int32))), .val (.ref w_3), .val (.ref w_1), .unset]) rfl ?_
            show Steps p.tables e below (T47.setTop (mkF m 49 #[.val (.int p0), .val (.int p1), .val (.ref b35), .val (.int (p0 &&& (3 : Int32))), .val (.int (p1 &&& (3 : Int32))), .val (.ref w_3), .val (.ref w_1), .unset] [])) _
            refine XS.iload X47.here hx rfl (hb hby at_49) rfl ?_
            show Steps p.tables e below (T47.setTop (mkF m 51 #[.val (.int p0), .val (.int p1), .val (.ref b35), .val (.int (p0 &&& (3 : Int32))), .val (.int (p1 &&& (3 : Int32))), .val (.ref w_3), .val (.ref w_1), .unset] [(.int (p1 &&& (3 : Int32)))])) _
            refine XS.iconst X47.here hx rfl (hb hby at_51) ?_
            show Steps p.tables e below (T47.setTop (mkF m 52 #[.val (.int p0), .val (.int p1), .val (.ref b35), .val (.int (p0 &&& (3 : Int32))), .val (.int (p1 &&& (3 : Int32))), .val (.ref w_3), .val (.ref w_1), .unset] [(.int (2 : Int32)), (.int (p1 &&& (3 : Int32)))])) _
            refine XS.icmpYes X47.here hx rfl (pc0 := 52) (pc' := 62) rfl (hb hby at_52) rfl (tlt (by rw [hc189] <;> decide : ((p1 &&& (3 : Int32)) < (2 : Int32)))).1 (by decide) (by decide) ?_
            show Steps p.tables e below (T47.setTop (mkF m 62 #[.val (.int p0), .val (.int p1), .val (.ref b35), .val (.int (p0 &&& (3 : Int32))), .val (.int (p1 &&& (3 : Int32))), .val (.ref w_3), .val (.ref w_1), .unset] [])) _
            refine XS.iloadN X47.here hx rfl (hb hby at_62) rfl ?_
            show Steps p.tables e below (T47.setTop (mkF m 63 #[.val (.int p0), .val (.int p1), .val (.ref b35), .val (.int (p0 &&& (3 : Int32))), .val (.int (p1 &&& (3 : Int32))), .val (.ref w_3), .val (.ref w_1), .unset] [(.int (p0 &&& (3 : Int32)))])) _
            refine XS.iload X47.here hx rfl (hb hby at_63) rfl ?_
            show Steps p.tables e below (T47.setTop (mkF m 65 #[.val (.int p0), .val (.int p1), .val (.ref b35), .val (.int (p0 &&& (3 : Int32))), .val (.int (p1 &&& (3 : Int32))), .val (.ref w_3), .val (.ref w_1), .unset] [(.int (p1 &&& (3 : Int32))), (.int (p0 &&& (3 : Int32)))])) _
            refine XS.icmpYes X47.here hx rfl (pc0 := 65) (pc' := 75) rfl (hb hby at_65) rfl (feq (by rw [hc186, hc189] <;> decide : ¬ ((p0 &&& (3 : Int32)) = (p1 &&& (3 : Int32))))).2 (by decide) (by decide) ?_
            show Steps p.tables e below (T47.setTop (mkF m 75 #[.val (.int p0), .val (.int p1), .val (.ref b35), .val (.int (p0 &&& (3 : Int32))), .val (.int (p1 &&& (3 : Int32))), .val (.ref w_3), .val (.ref w_1), .unset] [])) _
            refine st191 _ ?_
            show Steps p.tables e below (T191.setTop (mkF m 78 #[.val (.int p0), .val (.int p1), .val (.ref b35), .val (.int (p0 &&& (3 : Int32))), .val (.int (p1 &&& (3 : Int32))), .val (.ref w_3), .val (.ref w_1), .unset] [(.ref w_3)])) _
            refine XS.astore X191.here hx rfl (hb hby at_78) rfl rfl (l' := #[.val (.int p0), .val (.int p1), .val (.ref b35), .val (.int (p0 &&& (3 : Int32))), .val (.int (p1 &&& (3 : Int32))), .val (.ref w_3), .val (.ref w_1), .val (.ref w_3)]) rfl ?_
            show Steps p.tables e below (T191.setTop (mkF m 80 #[.val (.int p0), .val (.int p1), .val (.ref b35), .val (.int (p0 &&& (3 : Int32))), .val (.int (p1 &&& (3 : Int32))), .val (.ref w_3), .val (.ref w_1), .val (.ref w_3)] [])) _
            refine XS.aload X191.here hx rfl (hb hby at_80) rfl rfl ?_
            show Steps p.tables e below (T191.setTop (mkF m 82 #[.val (.int p0), .val (.int p1), .val (.ref b35), .val (.int (p0 &&& (3 : Int32))), .val (.int (p1 &&& (3 : Int32))), .val (.ref w_3), .val (.ref w_1), .val (.ref w_3)] [(.ref w_3)])) _
            refine XS.aload X191.here hx rfl (hb hby at_82) rfl rfl ?_
            show Steps p.tables e below (T191.setTop (mkF m 84 #[.val (.int p0), .val (.int p1), .val (.ref b35), .val (.int (p0 &&& (3 : Int32))), .val (.int (p1 &&& (3 : Int32))), .val (.ref w_3), .val (.ref w_1), .val (.ref w_3)] [(.ref w_1), (.ref w_3)])) _
            refine st199.trans ?_
            show Steps p.tables e below (T199.setTop (mkF m 87 #[.val (.int p0), .val (.int p1), .val (.ref b35), .val (.int (p0 &&& (3 : Int32))), .val (.int (p1 &&& (3 : Int32))), .val (.ref w_3), .val (.ref w_1), .val (.ref w_3)] [(.ref w_3)])) _
            refine XS.aload X199.here hx rfl (hb hby at_87) rfl rfl ?_
            show Steps p.tables e below (T199.setTop (mkF m 89 #[.val (.int p0), .val (.int p1), .val (.ref b35), .val (.int (p0 &&& (3 : Int32))), .val (.int (p1 &&& (3 : Int32))), .val (.ref w_3), .val (.ref w_1), .val (.ref w_3)] [(.ref w_3), (.ref w_3)])) _
            refine Jvm.RoadKit.acmp (g := (mkF m 89 #[.val (.int p0), .val (.int p1), .val (.ref b35), .val (.int (p0 &&& (3 : Int32))), .val (.int (p1 &&& (3 : Int32))), .val (.ref w_3), .val (.ref w_1), .val (.ref w_3)] [(.ref w_3), (.ref w_3)])) X199 hx rfl rfl rfl (pc0 := 89) (pc' := 92) (same := true) rfl (hb hby at_89) rfl (decide_eq_true (congrArg Value.ref rfl)) (by decide) (by decide) ?_
            show Steps p.tables e below (T199.setTop (mkF m 92 #[.val (.int p0), .val (.int p1), .val (.ref b35), .val (.int (p0 &&& (3 : Int32))), .val (.int (p1 &&& (3 : Int32))), .val (.ref w_3), .val (.ref w_1), .val (.ref w_3)] [])) _
            refine XS.iconst X199.here hx rfl (hb hby at_92) ?_
            show Steps p.tables e below (T199.setTop (mkF m 93 #[.val (.int p0), .val (.int p1), .val (.ref b35), .val (.int (p0 &&& (3 : Int32))), .val (.int (p1 &&& (3 : Int32))), .val (.ref w_3), .val (.ref w_1), .val (.ref w_3)] [(.int (1 : Int32))])) _
            refine XS.goto X199.here hx rfl (pc0 := 93) (pc' := 97) rfl (hb hby at_93) (by decide) (by decide) ?_
            show Steps p.tables e below (T199.setTop (mkF m 97 #[.val (.int p0), .val (.int p1), .val (.ref b35), .val (.int (p0 &&& (3 : Int32))), .val (.int (p1 &&& (3 : Int32))), .val (.ref w_3), .val (.ref w_1), .val (.ref w_3)] [(.int (1 : Int32))])) _
            exact retN X199 hx (t := .boolean) Bd.returns (by simp) (hb hby at_97) hr
          · show Q0 Z w_1 w_2 w_3 w_4 w_5 k_5 p0 p1 h0 n0 _ T199.heap _
            rw [e199]
            exact ⟨by unfold sp0; rw [if_neg hc49, if_neg hc121, if_pos hc186, if_pos hc189], N199, trivial⟩
        · by_cases hc200 : (p1 &&& (3 : Int32)) = (1 : Int32)
          · obtain ⟨cl201, Ar201, qa201, Sa201, Ma201, Ha201, Ga201⟩ := id V_b35_47
            have hin201 : ¬ ((p1 &&& (3 : Int32)) < 0 ∨ cl201.slots.size ≤ ((p1 &&& (3 : Int32))).toNatClampNeg) := by rw [hc200]; exact inb_of Sa201 ⟨by decide, by decide⟩
            have hat201 : cl201.slots[((p1 &&& (3 : Int32))).toNatClampNeg]? = some (.ref w_2) := Has.at Ha201 hin201 (by rw [hc200]; rfl)
            obtain ⟨T202, X202, e202, st202⟩ := getS2 X47 hx hZ hown (host := "") (Or.inl (hw _ (tk 8 rfl))) Via.refl e47 (S_3.ext O47.2) (g := (mkF m 75 #[.val (.int p0), .val (.int p1), .val (.ref b35), .val (.int (p0 &&& (3 : Int32))), .val (.int (p1 &&& (3 : Int32))), .val (.ref w_3), .val (.ref w_2), .unset] [])) rfl (hb hby at_75)
            obtain ⟨cq213, kq213, q213a, q213b, q213c⟩ := isOf hZ e202 (E_3.ext O47.2)
            obtain ⟨_, _, ⟨T213, L213, k213, n213⟩, -, X213, ⟨Lc213, hQ213, l213, y213, z213⟩, st213⟩ := X202.virtualBack hx (y := Y2) (z := Y2) hown (mvT hZ (hw _ (tk 12 rfl))) (mvT hZ (hw _ (tk 13 rfl))) (notFace_of_selects (args := #[]) (mvT hZ (hw _ (tk 15 rfl)))) (mvT hZ (hw _ (tk 15 rfl))) (mvT hZ (hw _ (tk 14 rfl))) (by decide) (backOf (W := 0) (rm1x10 l Z a0 hw [] w_1 w_2 w_3 w_4 w_5 k_5 hS0 h47 n0 O47) hZ (hw _ (tk 16 rfl)) (hw _ (tk 3 rfl)) (by decide) (by decide)) q213a q213c (g := (mkF m 84 #[.val (.int p0), .val (.int p1), .val (.ref b35), .val (.int (p0 &&& (3 : Int32))), .val (.int (p1 &&& (3 : Int32))), .val (.ref w_3), .val (.ref w_2), .val (.ref w_3)] [(.ref w_2), (.ref w_3)])) rfl (by rw [hml]; rfl) (Steps.refl _) (argsL := [(.ref w_2)]) (rest := []) (lenOf pd_1 rfl) rfl (by show 2 * 0 + _ ≤ _; exact Nat.le_of_eq rfl) (hb hby at_84) (fun _ _ => ⟨rfl, e202, (by decide : 1 + 0 ≤ _), (by decide : 4 + 0 ≤ _)⟩)
            dsimp only [Pt.U, Pt.locs, Pt.cells, Pt.slots] at X213 l213 y213 z213 st213 hQ213
            subst l213 y213 z213
            obtain ⟨rv213, N213q, e213⟩ := hQ213
            rw [show sp1x10 w_3 = (.ref w_3) from by unfold sp1x10; rfl] at rv213
            subst rv213
            have N213 := Fr.app N47 N213q
            obtain ⟨fs, hr, hrun, hended, hW, hsame⟩ := X213.leave (v := some (.int (1 : Int32))) (fun h => by rw [Bd.returns] at h; cases h)
            refine ⟨_, _, pre188 _ ?_, hrun, hended, _, _, rfl, ?_, ⟨_, rfl⟩, hW, hsame.mono (by decide) (by decide)⟩
            · show Steps p.tables e below (T47.setTop (mkF m 46 #[.val (.int p0), .val (.int p1), .val (.ref b35), .val (.int (p0 &&& (3 : Int32))), .val (.int (p1 &&& (3 : Int32))), .val (.ref w_3), .unset, .unset] [(.int (p1 &&& (3 : Int32))), (.ref b35)])) _
              refine X47.aaload hx (j := (p1 &&& (3 : Int32))) (v := (.ref w_2)) (by rw [e47]; exact Ar201.1) (State.isArrayOf_alike hZ.alike Ar201.2.1) rfl Ar201.2.2 hin201 hat201 (g := (mkF m 46 #[.val (.int p0), .val (.int p1), .val (.ref b35), .val (.int (p0 &&& (3 : Int32))), .val (.int (p1 &&& (3 : Int32))), .val (.ref w_3), .unset, .unset] [(.int (p1 &&& (3 : Int32))), (.ref b35)])) rfl rfl (hb hby at_46) _ ?_
              show Steps p.tables e below (T47.setTop (mkF m 47 #[.val (.int p0), .val (.int p1), .val (.ref b35), .val (.int (p0 &&& (3 : Int32))), .val (.int (p1 &&& (3 : Int32))), .val (.ref w_3), .unset, .unset] [(.ref w_2)])) _
              refine XS.astore X47.here hx rfl (hb hby at_47) rfl rfl (l' := #[.val (.int p0), .val (.int p1), .val (.ref b35), .val (.int (p0 &&& (3 : Int32))), .val (.int (p1 &&& (3 : Int32))), .val (.ref w_3), .val (.ref w_2), .unset]) rfl ?_
              show Steps p.tables e below (T47.setTop (mkF m 49 #[.val (.int p0), .val (.int p1), .val (.ref b35), .val (.int (p0 &&& (3 : Int32))), .val (.int (p1 &&& (3 : Int32))), .val (.ref w_3), .val (.ref w_2), .unset] [])) _
              refine XS.iload X47.here hx rfl (hb hby at_49) rfl ?_
              show Steps p.tables e below (T47.setTop (mkF m 51 #[.val (.int p0), .val (.int p1), .val (.ref b35), .val (.int (p0 &&& (3 : Int32))), .val (.int (p1 &&& (3 : Int32))), .val (.ref w_3), .val (.ref w_2), .unset] [(.int (p1 &&& (3 : Int32)))])) _
              refine XS.iconst X47.here hx rfl (hb hby at_51) ?_
              show Steps p.tables e below (T47.setTop (mkF m 52 #[.val (.int p0), .val (.int p1), .val (.ref b35), .val (.int (p0 &&& (3 : Int32))), .val (.int (p1 &&& (3 : Int32))), .val (.ref w_3), .val (.ref w_2), .unset] [(.int (2 : Int32)), (.int (p1 &&& (3 : Int32)))])) _
              refine XS.icmpYes X47.here hx rfl (pc0 := 52) (pc' := 62) rfl (hb hby at_52) rfl (tlt (by rw [hc200] <;> decide : ((p1 &&& (3 : Int32)) < (2 : Int32)))).1 (by decide) (by decide) ?_
              show Steps p.tables e below (T47.setTop (mkF m 62 #[.val (.int p0), .val (.int p1), .val (.ref b35), .val (.int (p0 &&& (3 : Int32))), .val (.int (p1 &&& (3 : Int32))), .val (.ref w_3), .val (.ref w_2), .unset] [])) _
              refine XS.iloadN X47.here hx rfl (hb hby at_62) rfl ?_
              show Steps p.tables e below (T47.setTop (mkF m 63 #[.val (.int p0), .val (.int p1), .val (.ref b35), .val (.int (p0 &&& (3 : Int32))), .val (.int (p1 &&& (3 : Int32))), .val (.ref w_3), .val (.ref w_2), .unset] [(.int (p0 &&& (3 : Int32)))])) _
              refine XS.iload X47.here hx rfl (hb hby at_63) rfl ?_
              show Steps p.tables e below (T47.setTop (mkF m 65 #[.val (.int p0), .val (.int p1), .val (.ref b35), .val (.int (p0 &&& (3 : Int32))), .val (.int (p1 &&& (3 : Int32))), .val (.ref w_3), .val (.ref w_2), .unset] [(.int (p1 &&& (3 : Int32))), (.int (p0 &&& (3 : Int32)))])) _
              refine XS.icmpYes X47.here hx rfl (pc0 := 65) (pc' := 75) rfl (hb hby at_65) rfl (feq (by rw [hc186, hc200] <;> decide : ¬ ((p0 &&& (3 : Int32)) = (p1 &&& (3 : Int32))))).2 (by decide) (by decide) ?_
              show Steps p.tables e below (T47.setTop (mkF m 75 #[.val (.int p0), .val (.int p1), .val (.ref b35), .val (.int (p0 &&& (3 : Int32))), .val (.int (p1 &&& (3 : Int32))), .val (.ref w_3), .val (.ref w_2), .unset] [])) _
              refine st202 _ ?_
              show Steps p.tables e below (T202.setTop (mkF m 78 #[.val (.int p0), .val (.int p1), .val (.ref b35), .val (.int (p0 &&& (3 : Int32))), .val (.int (p1 &&& (3 : Int32))), .val (.ref w_3), .val (.ref w_2), .unset] [(.ref w_3)])) _
              refine XS.astore X202.here hx rfl (hb hby at_78) rfl rfl (l' := #[.val (.int p0), .val (.int p1), .val (.ref b35), .val (.int (p0 &&& (3 : Int32))), .val (.int (p1 &&& (3 : Int32))), .val (.ref w_3), .val (.ref w_2), .val (.ref w_3)]) rfl ?_
              show Steps p.tables e below (T202.setTop (mkF m 80 #[.val (.int p0), .val (.int p1), .val (.ref b35), .val (.int (p0 &&& (3 : Int32))), .val (.int (p1 &&& (3 : Int32))), .val (.ref w_3), .val (.ref w_2), .val (.ref w_3)] [])) _
              refine XS.aload X202.here hx rfl (hb hby at_80) rfl rfl ?_
              show Steps p.tables e below (T202.setTop (mkF m 82 #[.val (.int p0), .val (.int p1), .val (.ref b35), .val (.int (p0 &&& (3 : Int32))), .val (.int (p1 &&& (3 : Int32))), .val (.ref w_3), .val (.ref w_2), .val (.ref w_3)] [(.ref w_3)])) _
              refine XS.aload X202.here hx rfl (hb hby at_82) rfl rfl ?_
              show Steps p.tables e below (T202.setTop (mkF m 84 #[.val (.int p0), .val (.int p1), .val (.ref b35), .val (.int (p0 &&& (3 : Int32))), .val (.int (p1 &&& (3 : Int32))), .val (.ref w_3), .val (.ref w_2), .val (.ref w_3)] [(.ref w_2), (.ref w_3)])) _
              refine st213.trans ?_
              show Steps p.tables e below (T213.setTop (mkF m 87 #[.val (.int p0), .val (.int p1), .val (.ref b35), .val (.int (p0 &&& (3 : Int32))), .val (.int (p1 &&& (3 : Int32))), .val (.ref w_3), .val (.ref w_2), .val (.ref w_3)] [(.ref w_3)])) _
              refine XS.aload X213.here hx rfl (hb hby at_87) rfl rfl ?_
              show Steps p.tables e below (T213.setTop (mkF m 89 #[.val (.int p0), .val (.int p1), .val (.ref b35), .val (.int (p0 &&& (3 : Int32))), .val (.int (p1 &&& (3 : Int32))), .val (.ref w_3), .val (.ref w_2), .val (.ref w_3)] [(.ref w_3), (.ref w_3)])) _
              refine Jvm.RoadKit.acmp (g := (mkF m 89 #[.val (.int p0), .val (.int p1), .val (.ref b35), .val (.int (p0 &&& (3 : Int32))), .val (.int (p1 &&& (3 : Int32))), .val (.ref w_3), .val (.ref w_2), .val (.ref w_3)] [(.ref w_3), (.ref w_3)])) X213 hx rfl rfl rfl (pc0 := 89) (pc' := 92) (same := true) rfl (hb hby at_89) rfl (decide_eq_true (congrArg Value.ref rfl)) (by decide) (by decide) ?_
              show Steps p.tables e below (T213.setTop (mkF m 92 #[.val (.int p0), .val (.int p1), .val (.ref b35), .val (.int (p0 &&& (3 : Int32))), .val (.int (p1 &&& (3 : Int32))), .val (.ref w_3), .val (.ref w_2), .val (.ref w_3)] [])) _
              refine XS.iconst X213.here hx rfl (hb hby at_92) ?_
              show Steps p.tables e below (T213.setTop (mkF m 93 #[.val (.int p0), .val (.int p1), .val (.ref b35), .val (.int (p0 &&& (3 : Int32))), .val (.int (p1 &&& (3 : Int32))), .val (.ref w_3), .val (.ref w_2), .val (.ref w_3)] [(.int (1 : Int32))])) _
              refine XS.goto X213.here hx rfl (pc0 := 93) (pc' := 97) rfl (hb hby at_93) (by decide) (by decide) ?_
              show Steps p.tables e below (T213.setTop (mkF m 97 #[.val (.int p0), .val (.int p1), .val (.ref b35), .val (.int (p0 &&& (3 : Int32))), .val (.int (p1 &&& (3 : Int32))), .val (.ref w_3), .val (.ref w_2), .val (.ref w_3)] [(.int (1 : Int32))])) _
              exact retN X213 hx (t := .boolean) Bd.returns (by simp) (hb hby at_97) hr
            · show Q0 Z w_1 w_2 w_3 w_4 w_5 k_5 p0 p1 h0 n0 _ T213.heap _
              rw [e213]
              exact ⟨by unfold sp0; rw [if_neg hc49, if_neg hc121, if_pos hc186, if_neg hc189, if_pos hc200], N213, trivial⟩
          · by_cases hc214 : (p1 &&& (3 : Int32)) = (2 : Int32)
            · obtain ⟨cl215, Ar215, qa215, Sa215, Ma215, Ha215, Ga215⟩ := id V_b35_47
              have hin215 : ¬ ((p1 &&& (3 : Int32)) < 0 ∨ cl215.slots.size ≤ ((p1 &&& (3 : Int32))).toNatClampNeg) := by rw [hc214]; exact inb_of Sa215 ⟨by decide, by decide⟩
              have hat215 : cl215.slots[((p1 &&& (3 : Int32))).toNatClampNeg]? = some (.ref w_3) := Has.at Ha215 hin215 (by rw [hc214]; rfl)
              obtain ⟨cq231, kq231, q231a, q231b, q231c⟩ := isOf hZ e47 (E_3.ext O47.2)
              obtain ⟨_, _, ⟨T231, L231, k231, n231⟩, -, X231, ⟨Lc231, hQ231, l231, y231, z231⟩, st231⟩ := X47.virtualBack hx (y := Y2) (z := Y2) hown (mvT hZ (hw _ (tk 12 rfl))) (mvT hZ (hw _ (tk 13 rfl))) (notFace_of_selects (args := #[]) (mvT hZ (hw _ (tk 15 rfl)))) (mvT hZ (hw _ (tk 15 rfl))) (mvT hZ (hw _ (tk 14 rfl))) (by decide) (backOf (W := 0) (rm1x11 l Z a0 hw [] w_1 w_2 w_3 w_4 w_5 k_5 hS0 h47 n0 O47) hZ (hw _ (tk 16 rfl)) (hw _ (tk 3 rfl)) (by decide) (by decide)) q231a q231c (g := (mkF m 84 #[.val (.int p0), .val (.int p1), .val (.ref b35), .val (.int (p0 &&& (3 : Int32))), .val (.int (p1 &&& (3 : Int32))), .val (.ref w_3), .val (.ref w_3), .val (.ref w_3)] [(.ref w_3), (.ref w_3)])) rfl (by rw [hml]; rfl) (Steps.refl _) (argsL := [(.ref w_3)]) (rest := []) (lenOf pd_1 rfl) rfl (by show 2 * 0 + _ ≤ _; exact Nat.le_of_eq rfl) (hb hby at_84) (fun _ _ => ⟨rfl, e47, (by decide : 1 + 0 ≤ _), (by decide : 4 + 0 ≤ _)⟩)
              dsimp only [Pt.U, Pt.locs, Pt.cells, Pt.slots] at X231 l231 y231 z231 st231 hQ231
              subst l231 y231 z231
              obtain ⟨rv231, N231q, e231⟩ := hQ231
              rw [show sp1x11 w_3 = (.ref w_3) from by unfold sp1x11; rfl] at rv231
              subst rv231
              have N231 := Fr.app N47 N231q
              obtain ⟨fs, hr, hrun, hended, hW, hsame⟩ := X231.leave (v := some (.int (1 : Int32))) (fun h => by rw [Bd.returns] at h; cases h)
              refine ⟨_, _, pre188 _ ?_, hrun, hended, _, _, rfl, ?_, ⟨_, rfl⟩, hW, hsame.mono (by decide) (by decide)⟩
              · show Steps p.tables e below (T47.setTop (mkF m 46 #[.val (.int p0), .val (.int p1), .val (.ref b35), .val (.int (p0 &&& (3 : Int32))), .val (.int (p1 &&& (3 : Int32))), .val (.ref w_3), .unset, .unset] [(.int (p1 &&& (3 : Int32))), (.ref b35)])) _
                refine X47.aaload hx (j := (p1 &&& (3 : Int32))) (v := (.ref w_3)) (by rw [e47]; exact Ar215.1) (State.isArrayOf_alike hZ.alike Ar215.2.1) rfl Ar215.2.2 hin215 hat215 (g := (mkF m 46 #[.val (.int p0), .val (.int p1), .val (.ref b35), .val (.int (p0 &&& (3 : Int32))), .val (.int (p1 &&& (3 : Int32))), .val (.ref w_3), .unset, .unset] [(.int (p1 &&& (3 : Int32))), (.ref b35)])) rfl rfl (hb hby at_46) _ ?_
                show Steps p.tables e below (T47.setTop (mkF m 47 #[.val (.int p0), .val (.int p1), .val (.ref b35), .val (.int (p0 &&& (3 : Int32))), .val (.int (p1 &&& (3 : Int32))), .val (.ref w_3), .unset, .unset] [(.ref w_3)])) _
                refine XS.astore X47.here hx rfl (hb hby at_47) rfl rfl (l' := #[.val (.int p0), .val (.int p1), .val (.ref b35), .val (.int (p0 &&& (3 : Int32))), .val (.int (p1 &&& (3 : Int32))), .val (.ref w_3), .val (.ref w_3), .unset]) rfl ?_
                show Steps p.tables e below (T47.setTop (mkF m 49 #[.val (.int p0), .val (.int p1), .val (.ref b35), .val (.int (p0 &&& (3 : Int32))), .val (.int (p1 &&& (3 : Int32))), .val (.ref w_3), .val (.ref w_3), .unset] [])) _
                refine XS.iload X47.here hx rfl (hb hby at_49) rfl ?_
                show Steps p.tables e below (T47.setTop (mkF m 51 #[.val (.int p0), .val (.int p1), .val (.ref b35), .val (.int (p0 &&& (3 : Int32))), .val (.int (p1 &&& (3 : Int32))), .val (.ref w_3), .val (.ref w_3), .unset] [(.int (p1 &&& (3 : Int32)))])) _
                refine XS.iconst X47.here hx rfl (hb hby at_51) ?_
                show Steps p.tables e below (T47.setTop (mkF m 52 #[.val (.int p0), .val (.int p1), .val (.ref b35), .val (.int (p0 &&& (3 : Int32))), .val (.int (p1 &&& (3 : Int32))), .val (.ref w_3), .val (.ref w_3), .unset] [(.int (2 : Int32)), (.int (p1 &&& (3 : Int32)))])) _
                refine XS.icmpNo X47.here hx rfl (hb hby at_52) rfl (flt (by rw [hc214] <;> decide : ¬ ((p1 &&& (3 : Int32)) < (2 : Int32)))).1 ?_
                show Steps p.tables e below (T47.setTop (mkF m 55 #[.val (.int p0), .val (.int p1), .val (.ref b35), .val (.int (p0 &&& (3 : Int32))), .val (.int (p1 &&& (3 : Int32))), .val (.ref w_3), .val (.ref w_3), .unset] [])) _
                refine XS.aload X47.here hx rfl (hb hby at_55) rfl rfl ?_
                show Steps p.tables e below (T47.setTop (mkF m 57 #[.val (.int p0), .val (.int p1), .val (.ref b35), .val (.int (p0 &&& (3 : Int32))), .val (.int (p1 &&& (3 : Int32))), .val (.ref w_3), .val (.ref w_3), .unset] [(.ref w_3)])) _
                refine XS.astore X47.here hx rfl (hb hby at_57) rfl rfl (l' := #[.val (.int p0), .val (.int p1), .val (.ref b35), .val (.int (p0 &&& (3 : Int32))), .val (.int (p1 &&& (3 : Int32))), .val (.ref w_3), .val (.ref w_3), .val (.ref w_3)]) rfl ?_
                show Steps p.tables e below (T47.setTop (mkF m 59 #[.val (.int p0), .val (.int p1), .val (.ref b35), .val (.int (p0 &&& (3 : Int32))), .val (.int (p1 &&& (3 : Int32))), .val (.ref w_3), .val (.ref w_3), .val (.ref w_3)] [])) _
                refine XS.goto X47.here hx rfl (pc0 := 59) (pc' := 80) rfl (hb hby at_59) (by decide) (by decide) ?_
                show Steps p.tables e below (T47.setTop (mkF m 80 #[.val (.int p0), .val (.int p1), .val (.ref b35), .val (.int (p0 &&& (3 : Int32))), .val (.int (p1 &&& (3 : Int32))), .val (.ref w_3), .val (.ref w_3), .val (.ref w_3)] [])) _
                refine XS.aload X47.here hx rfl (hb hby at_80) rfl rfl ?_
                show Steps p.tables e below (T47.setTop (mkF m 82 #[.val (.int p0), .val (.int p1), .val (.ref b35), .val (.int (p0 &&& (3 : Int32))), .val (.int (p1 &&& (3 : Int32))), .val (.ref w_3), .val (.ref w_3), .val (.ref w_3)] [(.ref w_3)])) _
                refine XS.aload X47.here hx rfl (hb hby at_82) rfl rfl ?_
                show Steps p.tables e below (T47.setTop (mkF m 84 #[.val (.int p0), .val (.int p1), .val (.ref b35), .val (.int (p0 &&& (3 : Int32))), .val (.int (p1 &&& (3 : Int32))), .val (.ref w_3), .val (.ref w_3), .val (.ref w_3)] [(.ref w_3), (.ref w_3)])) _
                refine st231.trans ?_
                show Steps p.tables e below (T231.setTop (mkF m 87 #[.val (.int p0), .val (.int p1), .val (.ref b35), .val (.int (p0 &&& (3 : Int32))), .val (.int (p1 &&& (3 : Int32))), .val (.ref w_3), .val (.ref w_3), .val (.ref w_3)] [(.ref w_3)])) _
                refine XS.aload X231.here hx rfl (hb hby at_87) rfl rfl ?_
                show Steps p.tables e below (T231.setTop (mkF m 89 #[.val (.int p0), .val (.int p1), .val (.ref b35), .val (.int (p0 &&& (3 : Int32))), .val (.int (p1 &&& (3 : Int32))), .val (.ref w_3), .val (.ref w_3), .val (.ref w_3)] [(.ref w_3), (.ref w_3)])) _
                refine Jvm.RoadKit.acmp (g := (mkF m 89 #[.val (.int p0), .val (.int p1), .val (.ref b35), .val (.int (p0 &&& (3 : Int32))), .val (.int (p1 &&& (3 : Int32))), .val (.ref w_3), .val (.ref w_3), .val (.ref w_3)] [(.ref w_3), (.ref w_3)])) X231 hx rfl rfl rfl (pc0 := 89) (pc' := 92) (same := true) rfl (hb hby at_89) rfl (decide_eq_true (congrArg Value.ref rfl)) (by decide) (by decide) ?_
                show Steps p.tables e below (T231.setTop (mkF m 92 #[.val (.int p0), .val (.int p1), .val (.ref b35), .val (.int (p0 &&& (3 : Int32))), .val (.int (p1 &&& (3 : Int32))), .val (.ref w_3), .val (.ref w_3), .val (.ref w_3)] [])) _
                refine XS.iconst X231.here hx rfl (hb hby at_92) ?_
                show Steps p.tables e below (T231.setTop (mkF m 93 #[.val (.int p0), .val (.int p1), .val (.ref b35), .val (.int (p0 &&& (3 : Int32))), .val (.int (p1 &&& (3 : Int32))), .val (.ref w_3), .val (.ref w_3), .val (.ref w_3)] [(.int (1 : Int32))])) _
                refine XS.goto X231.here hx rfl (pc0 := 93) (pc' := 97) rfl (hb hby at_93) (by decide) (by decide) ?_
                show Steps p.tables e below (T231.setTop (mkF m 97 #[.val (.int p0), .val (.int p1), .val (.ref b35), .val (.int (p0 &&& (3 : Int32))), .val (.int (p1 &&& (3 : Int32))), .val (.ref w_3), .val (.ref w_3), .val (.ref w_3)] [(.int (1 : Int32))])) _
                exact retN X231 hx (t := .boolean) Bd.returns (by simp) (hb hby at_97) hr
              · show Q0 Z w_1 w_2 w_3 w_4 w_5 k_5 p0 p1 h0 n0 _ T231.heap _
                rw [e231]
                exact ⟨by unfold sp0; rw [if_neg hc49, if_neg hc121, if_pos hc186, if_neg hc189, if_neg hc200, if_pos hc214], N231, trivial⟩
            · have hL232 : (p1 &&& (3 : Int32)) = (3 : Int32) := by
                have r : 0 ≤ ((p1 &&& (3 : Int32))).toInt ∧ ((p1 &&& (3 : Int32))).toInt < 4 := (own_rand p1 (3 : Int32) 4 (by decide) (by decide))
                have q0 := own_ne hc189 (n := 0) (by decide)
                have q1 := own_ne hc200 (n := 1) (by decide)
                have q2 := own_ne hc214 (n := 2) (by decide)
                exact own_eq (n := 3) (by decide) (by omega)
              obtain ⟨cl233, Ar233, qa233, Sa233, Ma233, Ha233, Ga233⟩ := id V_b35_47
              have hin233 : ¬ ((p1 &&& (3 : Int32)) < 0 ∨ cl233.slots.size ≤ ((p1 &&& (3 : Int32))).toNatClampNeg) := by rw [hL232]; exact inb_of Sa233 ⟨by decide, by decide⟩
              have hat233 : cl233.slots[((p1 &&& (3 : Int32))).toNatClampNeg]? = some (.ref w_4) := Has.at Ha233 hin233 (by rw [hL232]; rfl)
              obtain ⟨cq249, kq249, q249a, q249b, q249c⟩ := isOf hZ e47 (E_3.ext O47.2)
              obtain ⟨_, _, ⟨T249, L249, k249, n249⟩, -, X249, ⟨Lc249, hQ249, l249, y249, z249⟩, st249⟩ := X47.virtualBack hx (y := Y2) (z := Y2) hown (mvT hZ (hw _ (tk 12 rfl))) (mvT hZ (hw _ (tk 13 rfl))) (notFace_of_selects (args := #[]) (mvT hZ (hw _ (tk 15 rfl)))) (mvT hZ (hw _ (tk 15 rfl))) (mvT hZ (hw _ (tk 14 rfl))) (by decide) (backOf (W := 0) (rm1x12 l Z a0 hw [] w_1 w_2 w_3 w_4 w_5 k_5 hS0 h47 n0 O47) hZ (hw _ (tk 16 rfl)) (hw _ (tk 3 rfl)) (by decide) (by decide)) q249a q249c (g := (mkF m 84 #[.val (.int p0), .val (.int p1), .val (.ref b35), .val (.int (p0 &&& (3 : Int32))), .val (.int (p1 &&& (3 : Int32))), .val (.ref w_3), .val (.ref w_4), .val (.ref w_4)] [(.ref w_4), (.ref w_3)])) rfl (by rw [hml]; rfl) (Steps.refl _) (argsL := [(.ref w_4)]) (rest := []) (lenOf pd_1 rfl) rfl (by show 2 * 0 + _ ≤ _; exact Nat.le_of_eq rfl) (hb hby at_84) (fun _ _ => ⟨rfl, e47, (by decide : 1 + 0 ≤ _), (by decide : 4 + 0 ≤ _)⟩)
              dsimp only [Pt.U, Pt.locs, Pt.cells, Pt.slots] at X249 l249 y249 z249 st249 hQ249
              subst l249 y249 z249
              obtain ⟨rv249, N249q, e249⟩ := hQ249
              rw [show sp1x12 w_4 = (.ref w_4) from by unfold sp1x12; rfl] at rv249
              subst rv249
              have N249 := Fr.app N47 N249q
              obtain ⟨fs, hr, hrun, hended, hW, hsame⟩ := X249.leave (v := some (.int (1 : Int32))) (fun h => by rw [Bd.returns] at h; cases h)
              refine ⟨_, _, pre188 _ ?_, hrun, hended, _, _, rfl, ?_, ⟨_, rfl⟩, hW, hsame.mono (by decide) (by decide)⟩
              · show Steps p.tables e below (T47.setTop (mkF m 46 #[.val (.int p0), .val (.int p1), .val (.ref b35), .val (.int (p0 &&& (3 : Int32))), .val (.int (p1 &&& (3 : Int32))), .val (.ref w_3), .unset, .unset] [(.int (p1 &&& (3 : Int32))), (.ref b35)])) _
                refine X47.aaload hx (j := (p1 &&& (3 : Int32))) (v := (.ref w_4)) (by rw [e47]; exact Ar233.1) (State.isArrayOf_alike hZ.alike Ar233.2.1) rfl Ar233.2.2 hin233 hat233 (g := (mkF m 46 #[.val (.int p0), .val (.int p1), .val (.ref b35), .val (.int (p0 &&& (3 : Int32))), .val (.int (p1 &&& (3 : Int32))), .val (.ref w_3), .unset, .unset] [(.int (p1 &&& (3 : Int32))), (.ref b35)])) rfl rfl (hb hby at_46) _ ?_
                show Steps p.tables e below (T47.setTop (mkF m 47 #[.val (.int p0), .val (.int p1), .val (.ref b35), .val (.int (p0 &&& (3 : Int32))), .val (.int (p1 &&& (3 : Int32))), .val (.ref w_3), .unset, .unset] [(.ref w_4)])) _
                refine XS.astore X47.here hx rfl (hb hby at_47) rfl rfl (l' := #[.val (.int p0), .val (.int p1), .val (.ref b35), .val (.int (p0 &&& (3 : Int32))), .val (.int (p1 &&& (3 : Int32))), .val (.ref w_3), .val (.ref w_4), .unset]) rfl ?_
                show Steps p.tables e below (T47.setTop (mkF m 49 #[.val (.int p0), .val (.int p1), .val (.ref b35), .val (.int (p0 &&& (3 : Int32))), .val (.int (p1 &&& (3 : Int32))), .val (.ref w_3), .val (.ref w_4), .unset] [])) _
                refine XS.iload X47.here hx rfl (hb hby at_49) rfl ?_
                show Steps p.tables e below (T47.setTop (mkF m 51 #[.val (.int p0), .val (.int p1), .val (.ref b35), .val (.int (p0 &&& (3 : Int32))), .val (.int (p1 &&& (3 : Int32))), .val (.ref w_3), .val (.ref w_4), .unset] [(.int (p1 &&& (3 : Int32)))])) _
                refine XS.iconst X47.here hx rfl (hb hby at_51) ?_
                show Steps p.tables e below (T47.setTop (mkF m 52 #[.val (.int p0), .val (.int p1), .val (.ref b35), .val (.int (p0 &&& (3 : Int32))), .val (.int (p1 &&& (3 : Int32))), .val (.ref w_3), .val (.ref w_4), .unset] [(.int (2 : Int32)), (.int (p1 &&& (3 : Int32)))])) _
                refine XS.icmpNo X47.here hx rfl (hb hby at_52) rfl (flt (by rw [hL232] <;> decide : ¬ ((p1 &&& (3 : Int32)) < (2 : Int32)))).1 ?_
                show Steps p.tables e below (T47.setTop (mkF m 55 #[.val (.int p0), .val (.int p1), .val (.ref b35), .val (.int (p0 &&& (3 : Int32))), .val (.int (p1 &&& (3 : Int32))), .val (.ref w_3), .val (.ref w_4), .unset] [])) _
                refine XS.aload X47.here hx rfl (hb hby at_55) rfl rfl ?_
                show Steps p.tables e below (T47.setTop (mkF m 57 #[.val (.int p0), .val (.int p1), .val (.ref b35), .val (.int (p0 &&& (3 : Int32))), .val (.int (p1 &&& (3 : Int32))), .val (.ref w_3), .val (.ref w_4), .unset] [(.ref w_4)])) _
                refine XS.astore X47.here hx rfl (hb hby at_57) rfl rfl (l' := #[.val (.int p0), .val (.int p1), .val (.ref b35), .val (.int (p0 &&& (3 : Int32))), .val (.int (p1 &&& (3 : Int32))), .val (.ref w_3), .val (.ref w_4), .val (.ref w_4)]) rfl ?_
                show Steps p.tables e below (T47.setTop (mkF m 59 #[.val (.int p0), .val (.int p1), .val (.ref b35), .val (.int (p0 &&& (3 : Int32))), .val (.int (p1 &&& (3 : Int32))), .val (.ref w_3), .val (.ref w_4), .val (.ref w_4)] [])) _
                refine XS.goto X47.here hx rfl (pc0 := 59) (pc' := 80) rfl (hb hby at_59) (by decide) (by decide) ?_
                show Steps p.tables e below (T47.setTop (mkF m 80 #[.val (.int p0), .val (.int p1), .val (.ref b35), .val (.int (p0 &&& (3 : Int32))), .val (.int (p1 &&& (3 : Int32))), .val (.ref w_3), .val (.ref w_4), .val (.ref w_4)] [])) _
                refine XS.aload X47.here hx rfl (hb hby at_80) rfl rfl ?_
                show Steps p.tables e below (T47.setTop (mkF m 82 #[.val (.int p0), .val (.int p1), .val (.ref b35), .val (.int (p0 &&& (3 : Int32))), .val (.int (p1 &&& (3 : Int32))), .val (.ref w_3), .val (.ref w_4), .val (.ref w_4)] [(.ref w_3)])) _
                refine XS.aload X47.here hx rfl (hb hby at_82) rfl rfl ?_
                show Steps p.tables e below (T47.setTop (mkF m 84 #[.val (.int p0), .val (.int p1), .val (.ref b35), .val (.int (p0 &&& (3 : Int32))), .val (.int (p1 &&& (3 : Int32))), .val (.ref w_3), .val (.ref w_4), .val (.ref w_4)] [(.ref w_4), (.ref w_3)])) _
                refine st249.trans ?_
                show Steps p.tables e below (T249.setTop (mkF m 87 #[.val (.int p0), .val (.int p1), .val (.ref b35), .val (.int (p0 &&& (3 : Int32))), .val (.int (p1 &&& (3 : Int32))), .val (.ref w_3), .val (.ref w_4), .val (.ref w_4)] [(.ref w_4)])) _
                refine XS.aload X249.here hx rfl (hb hby at_87) rfl rfl ?_
                show Steps p.tables e below (T249.setTop (mkF m 89 #[.val (.int p0), .val (.int p1), .val (.ref b35), .val (.int (p0 &&& (3 : Int32))), .val (.int (p1 &&& (3 : Int32))), .val (.ref w_3), .val (.ref w_4), .val (.ref w_4)] [(.ref w_4), (.ref w_4)])) _
                refine Jvm.RoadKit.acmp (g := (mkF m 89 #[.val (.int p0), .val (.int p1), .val (.ref b35), .val (.int (p0 &&& (3 : Int32))), .val (.int (p1 &&& (3 : Int32))), .val (.ref w_3), .val (.ref w_4), .val (.ref w_4)] [(.ref w_4), (.ref w_4)])) X249 hx rfl rfl rfl (pc0 := 89) (pc' := 92) (same := true) rfl (hb hby at_89) rfl (decide_eq_true (congrArg Value.ref rfl)) (by decide) (by decide) ?_
                show Steps p.tables e below (T249.setTop (mkF m 92 #[.val (.int p0), .val (.int p1), .val (.ref b35), .val (.int (p0 &&& (3 : Int32))), .val (.int (p1 &&& (3 : Int32))), .val (.ref w_3), .val (.ref w_4), .val (.ref w_4)] [])) _
                refine XS.iconst X249.here hx rfl (hb hby at_92) ?_
                show Steps p.tables e below (T249.setTop (mkF m 93 #[.val (.int p0), .val (.int p1), .val (.ref b35), .val (.int (p0 &&& (3 : Int32))), .val (.int (p1 &&& (3 : Int32))), .val (.ref w_3), .val (.ref w_4), .val (.ref w_4)] [(.int (1 : Int32))])) _
                refine XS.goto X249.here hx rfl (pc0 := 93) (pc' := 97) rfl (hb hby at_93) (by decide) (by decide) ?_
                show Steps p.tables e below (T249.setTop (mkF m 97 #[.val (.int p0), .val (.int p1), .val (.ref b35), .val (.int (p0 &&& (3 : Int32))), .val (.int (p1 &&& (3 : Int32))), .val (.ref w_3), .val (.ref w_4), .val (.ref w_4)] [(.int (1 : Int32))])) _
                exact retN X249 hx (t := .boolean) Bd.returns (by simp) (hb hby at_97) hr
              · show Q0 Z w_1 w_2 w_3 w_4 w_5 k_5 p0 p1 h0 n0 _ T249.heap _
                rw [e249]
                exact ⟨by unfold sp0; rw [if_neg hc49, if_neg hc121, if_pos hc186, if_neg hc189, if_neg hc200, if_neg hc214], N249, trivial⟩
      · have hL250 : (p0 &&& (3 : Int32)) = (3 : Int32) := by
          have r : 0 ≤ ((p0 &&& (3 : Int32))).toInt ∧ ((p0 &&& (3 : Int32))).toInt < 4 := (own_rand p0 (3 : Int32) 4 (by decide) (by decide))
          have q0 := own_ne hc49 (n := 0) (by decide)
          have q1 := own_ne hc121 (n := 1) (by decide)
          have q2 := own_ne hc186 (n := 2) (by decide)
          exact own_eq (n := 3) (by decide) (by omega)
        obtain ⟨cl251, Ar251, qa251, Sa251, Ma251, Ha251, Ga251⟩ := id V_b35_47
        have hin251 : ¬ ((p0 &&& (3 : Int32)) < 0 ∨ cl251.slots.size ≤ ((p0 &&& (3 : Int32))).toNatClampNeg) := by rw [hL250]; exact inb_of Sa251 ⟨by decide, by decide⟩
        have hat251 : cl251.slots[((p0 &&& (3 : Int32))).toNatClampNeg]? = some (.ref w_4) := Has.at Ha251 hin251 (by rw [hL250]; rfl)
        have pre252 : ∀ t, Steps p.tables e below (T47.setTop (mkF m 46 #[.val (.int p0), .val (.int p1), .val (.ref b35), .val (.int (p0 &&& (3 : Int32))), .val (.int (p1 &&& (3 : Int32))), .val (.ref w_4), .unset, .unset] [(.int (p1 &&& (3 : Int32))), (.ref b35)])) t → Steps p.tables e below (s₁.setTop (entryFrame m #[(.int p0), (.int p1)] maxLocals)) t := fun t kt => by
          refine pre48 t ?_
          show Steps p.tables e below (T47.setTop (mkF m 40 #[.val (.int p0), .val (.int p1), .val (.ref b35), .val (.int (p0 &&& (3 : Int32))), .val (.int (p1 &&& (3 : Int32))), .unset, .unset, .unset] [(.int (p0 &&& (3 : Int32))), (.ref b35)])) _
          refine X47.aaload hx (j := (p0 &&& (3 : Int32))) (v := (.ref w_4)) (by rw [e47]; exact Ar251.1) (State.isArrayOf_alike hZ.alike Ar251.2.1) rfl Ar251.2.2 hin251 hat251 (g := (mkF m 40 #[.val (.int p0), .val (.int p1), .val (.ref b35), .val (.int (p0 &&& (3 : Int32))), .val (.int (p1 &&& (3 : Int32))), .unset, .unset, .unset] [(.int (p0 &&& (3 : Int32))), (.ref b35)])) rfl rfl (hb hby at_40) _ ?_
          show Steps p.tables e below (T47.setTop (mkF m 41 #[.val (.int p0), .val (.int p1), .val (.ref b35), .val (.int (p0 &&& (3 : Int32))), .val (.int (p1 &&& (3 : Int32))), .unset, .unset, .unset] [(.ref w_4)])) _
          refine XS.astore X47.here hx rfl (hb hby at_41) rfl rfl (l' := #[.val (.int p0), .val (.int p1), .val (.ref b35), .val (.int (p0 &&& (3 : Int32))), .val (.int (p1 &&& (3 : Int32))), .val (.ref w_4), .unset, .unset]) rfl ?_
          show Steps p.tables e below (T47.setTop (mkF m 43 #[.val (.int p0), .val (.int p1), .val (.ref b35), .val (.int (p0 &&& (3 : Int32))), .val (.int (p1 &&& (3 : Int32))), .val (.ref w_4), .unset, .unset] [])) _
          refine XS.aloadN X47.here hx rfl (hb hby at_43) rfl rfl ?_
          show Steps p.tables e below (T47.setTop (mkF m 44 #[.val (.int p0), .val (.int p1), .val (.ref b35), .val (.int (p0 &&& (3 : Int32))), .val (.int (p1 &&& (3 : Int32))), .val (.ref w_4), .unset, .unset] [(.ref b35)])) _
          refine XS.iload X47.here hx rfl (hb hby at_44) rfl ?_
          show Steps p.tables e below (T47.setTop (mkF m 46 #[.val (.int p0), .val (.int p1), .val (.ref b35), .val (.int (p0 &&& (3 : Int32))), .val (.int (p1 &&& (3 : Int32))), .val (.ref w_4), .unset, .unset] [(.int (p1 &&& (3 : Int32))), (.ref b35)])) _
          exact kt
        by_cases hc253 : (p1 &&& (3 : Int32)) = (0 : Int32)
        · obtain ⟨cl254, Ar254, qa254, Sa254, Ma254, Ha254, Ga254⟩ := id V_b35_47
          have hin254 : ¬ ((p1 &&& (3 : Int32)) < 0 ∨ cl254.slots.size ≤ ((p1 &&& (3 : Int32))).toNatClampNeg) := by rw [hc253]; exact inb_of Sa254 ⟨by decide, by decide⟩
          have hat254 : cl254.slots[((p1 &&& (3 : Int32))).toNatClampNeg]? = some (.ref w_1) := Has.at Ha254 hin254 (by rw [hc253]; rfl)
          obtain ⟨T255, X255, e255, st255⟩ := getS2 X47 hx hZ hown (host := "") (Or.inl (hw _ (tk 8 rfl))) Via.refl e47 (S_3.ext O47.2) (g := (mkF m 75 #[.val (.int p0), .val (.int p1), .val (.ref b35), .val (.int (p0 &&& (3 : Int32))), .val (.int (p1 &&& (3 : Int32))), .val (.ref w_4), .val (.ref w_1), .unset] [])) rfl (hb hby at_75)
          obtain ⟨cq263, kq263, q263a, q263b, q263c⟩ := isOf hZ e255 (E_4.ext O47.2)
          obtain ⟨_, _, ⟨T263, L263, k263, n263⟩, -, X263, ⟨Lc263, hQ263, l263, y263, z263⟩, st263⟩ := X255.virtualBack hx (y := Y2) (z := Y2) hown (mvT hZ (hw _ (tk 12 rfl))) (mvT hZ (hw _ (tk 13 rfl))) (notFace_of_selects (args := #[]) (mvT hZ (hw _ (tk 15 rfl)))) (mvT hZ (hw _ (tk 15 rfl))) (mvT hZ (hw _ (tk 14 rfl))) (by decide) (backOf (W := 0) (rm1x13 l Z a0 hw [] w_1 w_2 w_3 w_4 w_5 k_5 hS0 h47 n0 O47) hZ (hw _ (tk 16 rfl)) (hw _ (tk 3 rfl)) (by decide) (by decide)) q263a q263c (g := (mkF m 84 #[.val (.int p0), .val (.int p1), .val (.ref b35), .val (.int (p0 &&& (3 : Int32))), .val (.int (p1 &&& (3 : Int32))), .val (.ref w_4), .val (.ref w_1), .val (.ref w_3)] [(.ref w_1), (.ref w_4)])) rfl (by rw [hml]; rfl) (Steps.refl _) (argsL := [(.ref w_1)]) (rest := []) (lenOf pd_1 rfl) rfl (by show 2 * 0 + _ ≤ _; exact Nat.le_of_eq rfl) (hb hby at_84) (fun _ _ => ⟨rfl, e255, (by decide : 1 + 0 ≤ _), (by decide : 4 + 0 ≤ _)⟩)
          dsimp only [Pt.U, Pt.locs, Pt.cells, Pt.slots] at X263 l263 y263 z263 st263 hQ263
          subst l263 y263 z263
          obtain ⟨rv263, N263q, e263⟩ := hQ263
          rw [show sp1x13 w_3 = (.ref w_3) from by unfold sp1x13; rfl] at rv263
          subst rv263
          have N263 := Fr.app N47 N263q
          obtain ⟨fs, hr, hrun, hended, hW, hsame⟩ := X263.leave (v := some (.int (1 : Int32))) (fun h => by rw [Bd.returns] at h; cases h)
          refine ⟨_, _, pre252 _ ?_, hrun, hended, _, _, rfl, ?_, ⟨_, rfl⟩, hW, hsame.mono (by decide) (by decide)⟩
          · show Steps p.tables e below (T47.setTop (mkF m 46 #[.val (.int p0), .val (.int p1), .val (.ref b35), .val (.int (p0 &&& (3 : Int32))), .val (.int (p1 &&& (3 : Int32))), .val (.ref w_4), .unset, .unset] [(.int (p1 &&& (3 : Int32))), (.ref b35)])) _
            refine X47.aaload hx (j := (p1 &&& (3 : Int32))) (v := (.ref w_1)) (by rw [e47]; exact Ar254.1) (State.isArrayOf_alike hZ.alike Ar254.2.1) rfl Ar254.2.2 hin254 hat254 (g := (mkF m 46 #[.val (.int p0), .val (.int p1), .val (.ref b35), .val (.int (p0 &&& (3 : Int32))), .val (.int (p1 &&& (3 : Int32))), .val (.ref w_4), .unset, .unset] [(.int (p1 &&& (3 : Int32))), (.ref b35)])) rfl rfl (hb hby at_46) _ ?_
            show Steps p.tables e below (T47.setTop (mkF m 47 #[.val (.int p0), .val (.int p1), .val (.ref b35), .val (.int (p0 &&& (3 : Int32))), .val (.int (p1 &&& (3 : Int32))), .val (.ref w_4), .unset, .unset] [(.ref w_1)])) _
            refine XS.astore X47.here hx rfl (hb hby at_47) rfl rfl (l' := #[.val (.int p0), .val (.int p1), .val (.ref b35), .val (.int (p0 &&& (3 : Int32))), .val (.int (p1 &&& (3 : Int32))), .val (.ref w_4), .val (.ref w_1), .unset]) rfl ?_
            show Steps p.tables e below (T47.setTop (mkF m 49 #[.val (.int p0), .val (.int p1), .val (.ref b35), .val (.int (p0 &&& (3 : Int32))), .val (.int (p1 &&& (3 : Int32))), .val (.ref w_4), .val (.ref w_1), .unset] [])) _
            refine XS.iload X47.here hx rfl (hb hby at_49) rfl ?_
            show Steps p.tables e below (T47.setTop (mkF m 51 #[.val (.int p0), .val (.int p1), .val (.ref b35), .val (.int (p0 &&& (3 : Int32))), .val (.int (p1 &&& (3 : Int32))), .val (.ref w_4), .val (.ref w_1), .unset] [(.int (p1 &&& (3 : Int32)))])) _
            refine XS.iconst X47.here hx rfl (hb hby at_51) ?_
            show Steps p.tables e below (T47.setTop (mkF m 52 #[.val (.int p0), .val (.int p1), .val (.ref b35), .val (.int (p0 &&& (3 : Int32))), .val (.int (p1 &&& (3 : Int32))), .val (.ref w_4), .val (.ref w_1), .unset] [(.int (2 : Int32)), (.int (p1 &&& (3 : Int32)))])) _
            refine XS.icmpYes X47.here hx rfl (pc0 := 52) (pc' := 62) rfl (hb hby at_52) rfl (tlt (by rw [hc253] <;> decide : ((p1 &&& (3 : Int32)) < (2 : Int32)))).1 (by decide) (by decide) ?_
            show Steps p.tables e below (T47.setTop (mkF m 62 #[.val (.int p0), .val (.int p1), .val (.ref b35), .val (.int (p0 &&& (3 : Int32))), .val (.int (p1 &&& (3 : Int32))), .val (.ref w_4), .val (.ref w_1), .unset] [])) _
            refine XS.iloadN X47.here hx rfl (hb hby at_62) rfl ?_
            show Steps p.tables e below (T47.setTop (mkF m 63 #[.val (.int p0), .val (.int p1), .val (.ref b35), .val (.int (p0 &&& (3 : Int32))), .val (.int (p1 &&& (3 : Int32))), .val (.ref w_4), .val (.ref w_1), .unset] [(.int (p0 &&& (3 : Int32)))])) _
            refine XS.iload X47.here hx rfl (hb hby at_63) rfl ?_
            show Steps p.tables e below (T47.setTop (mkF m 65 #[.val (.int p0), .val (.int p1), .val (.ref b35), .val (.int (p0 &&& (3 : Int32))), .val (.int (p1 &&& (3 : Int32))), .val (.ref w_4), .val (.ref w_1), .unset] [(.int (p1 &&& (3 : Int32))), (.int (p0 &&& (3 : Int32)))])) _
            refine XS.icmpYes X47.here hx rfl (pc0 := 65) (pc' := 75) rfl (hb hby at_65) rfl (feq (by rw [hL250, hc253] <;> decide : ¬ ((p0 &&& (3 : Int32)) = (p1 &&& (3 : Int32))))).2 (by decide) (by decide) ?_
            show Steps p.tables e below (T47.setTop (mkF m 75 #[.val (.int p0), .val (.int p1), .val (.ref b35), .val (.int (p0 &&& (3 : Int32))), .val (.int (p1 &&& (3 : Int32))), .val (.ref w_4), .val (.ref w_1), .unset] [])) _
            refine st255 _ ?_
            show Steps p.tables e below (T255.setTop (mkF m 78 #[.val (.int p0), .val (.int p1), .val (.ref b35), .val (.int (p0 &&& (3 : Int32))), .val (.int (p1 &&& (3 : Int32))), .val (.ref w_4), .val (.ref w_1), .unset] [(.ref w_3)])) _
            refine XS.astore X255.here hx rfl (hb hby at_78) rfl rfl (l' := #[.val (.int p0), .val (.int p1), .val (.ref b35), .val (.int (p0 &&& (3 : Int32))), .val (.int (p1 &&& (3 : Int32))), .val (.ref w_4), .val (.ref w_1), .val (.ref w_3)]) rfl ?_
            show Steps p.tables e below (T255.setTop (mkF m 80 #[.val (.int p0), .val (.int p1), .val (.ref b35), .val (.int (p0 &&& (3 : Int32))), .val (.int (p1 &&& (3 : Int32))), .val (.ref w_4), .val (.ref w_1), .val (.ref w_3)] [])) _
            refine XS.aload X255.here hx rfl (hb hby at_80) rfl rfl ?_
            show Steps p.tables e below (T255.setTop (mkF m 82 #[.val (.int p0), .val (.int p1), .val (.ref b35), .val (.int (p0 &&& (3 : Int32))), .val (.int (p1 &&& (3 : Int32))), .val (.ref w_4), .val (.ref w_1), .val (.ref w_3)] [(.ref w_4)])) _
            refine XS.aload X255.here hx rfl (hb hby at_82) rfl rfl ?_
            show Steps p.tables e below (T255.setTop (mkF m 84 #[.val (.int p0), .val (.int p1), .val (.ref b35), .val (.int (p0 &&& (3 : Int32))), .val (.int (p1 &&& (3 : Int32))), .val (.ref w_4), .val (.ref w_1), .val (.ref w_3)] [(.ref w_1), (.ref w_4)])) _
            refine st263.trans ?_
            show Steps p.tables e below (T263.setTop (mkF m 87 #[.val (.int p0), .val (.int p1), .val (.ref b35), .val (.int (p0 &&& (3 : Int32))), .val (.int (p1 &&& (3 : Int32))), .val (.ref w_4), .val (.ref w_1), .val (.ref w_3)] [(.ref w_3)])) _
            refine XS.aload X263.here hx rfl (hb hby at_87) rfl rfl ?_
            show Steps p.tables e below (T263.setTop (mkF m 89 #[.val (.int p0), .val (.int p1), .val (.ref b35), .val (.int (p0 &&& (3 : Int32))), .val (.int (p1 &&& (3 : Int32))), .val (.ref w_4), .val (.ref w_1), .val (.ref w_3)] [(.ref w_3), (.ref w_3)])) _
            refine Jvm.RoadKit.acmp (g := (mkF m 89 #[.val (.int p0), .val (.int p1), .val (.ref b35), .val (.int (p0 &&& (3 : Int32))), .val (.int (p1 &&& (3 : Int32))), .val (.ref w_4), .val (.ref w_1), .val (.ref w_3)] [(.ref w_3), (.ref w_3)])) X263 hx rfl rfl rfl (pc0 := 89) (pc' := 92) (same := true) rfl (hb hby at_89) rfl (decide_eq_true (congrArg Value.ref rfl)) (by decide) (by decide) ?_
            show Steps p.tables e below (T263.setTop (mkF m 92 #[.val (.int p0), .val (.int p1), .val (.ref b35), .val (.int (p0 &&& (3 : Int32))), .val (.int (p1 &&& (3 : Int32))), .val (.ref w_4), .val (.ref w_1), .val (.ref w_3)] [])) _
            refine XS.iconst X263.here hx rfl (hb hby at_92) ?_
            show Steps p.tables e below (T263.setTop (mkF m 93 #[.val (.int p0), .val (.int p1), .val (.ref b35), .val (.int (p0 &&& (3 : Int32))), .val (.int (p1 &&& (3 : Int32))), .val (.ref w_4), .val (.ref w_1), .val (.ref w_3)] [(.int (1 : Int32))])) _
            refine XS.goto X263.here hx rfl (pc0 := 93) (pc' := 97) rfl (hb hby at_93) (by decide) (by decide) ?_
            show Steps p.tables e below (T263.setTop (mkF m 97 #[.val (.int p0), .val (.int p1), .val (.ref b35), .val (.int (p0 &&& (3 : Int32))), .val (.int (p1 &&& (3 : Int32))), .val (.ref w_4), .val (.ref w_1), .val (.ref w_3)] [(.int (1 : Int32))])) _
            exact retN X263 hx (t := .boolean) Bd.returns (by simp) (hb hby at_97) hr
          · show Q0 Z w_1 w_2 w_3 w_4 w_5 k_5 p0 p1 h0 n0 _ T263.heap _
            rw [e263]
            exact ⟨by unfold sp0; rw [if_neg hc49, if_neg hc121, if_neg hc186, if_pos hc253], N263, trivial⟩
        · by_cases hc264 : (p1 &&& (3 : Int32)) = (1 : Int32)
          · obtain ⟨cl265, Ar265, qa265, Sa265, Ma265, Ha265, Ga265⟩ := id V_b35_47
            have hin265 : ¬ ((p1 &&& (3 : Int32)) < 0 ∨ cl265.slots.size ≤ ((p1 &&& (3 : Int32))).toNatClampNeg) := by rw [hc264]; exact inb_of Sa265 ⟨by decide, by decide⟩
            have hat265 : cl265.slots[((p1 &&& (3 : Int32))).toNatClampNeg]? = some (.ref w_2) := Has.at Ha265 hin265 (by rw [hc264]; rfl)
            obtain ⟨T266, X266, e266, st266⟩ := getS2 X47 hx hZ hown (host := "") (Or.inl (hw _ (tk 8 rfl))) Via.refl e47 (S_3.ext O47.2) (g := (mkF m 75 #[.val (.int p0), .val (.int p1), .val (.ref b35), .val (.int (p0 &&& (3 : Int32))), .val (.int (p1 &&& (3 : Int32))), .val (.ref w_4), .val (.ref w_2), .unset] [])) rfl (hb hby at_75)
            obtain ⟨cq277, kq277, q277a, q277b, q277c⟩ := isOf hZ e266 (E_4.ext O47.2)
            obtain ⟨_, _, ⟨T277, L277, k277, n277⟩, -, X277, ⟨Lc277, hQ277, l277, y277, z277⟩, st277⟩ := X266.virtualBack hx (y := Y2) (z := Y2) hown (mvT hZ (hw _ (tk 12 rfl))) (mvT hZ (hw _ (tk 13 rfl))) (notFace_of_selects (args := #[]) (mvT hZ (hw _ (tk 15 rfl)))) (mvT hZ (hw _ (tk 15 rfl))) (mvT hZ (hw _ (tk 14 rfl))) (by decide) (backOf (W := 0) (rm1x14 l Z a0 hw [] w_1 w_2 w_3 w_4 w_5 k_5 hS0 h47 n0 O47) hZ (hw _ (tk 16 rfl)) (hw _ (tk 3 rfl)) (by decide) (by decide)) q277a q277c (g := (mkF m 84 #[.val (.int p0), .val (.int p1), .val (.ref b35), .val (.int (p0 &&& (3 : Int32))), .val (.int (p1 &&& (3 : Int32))), .val (.ref w_4), .val (.ref w_2), .val (.ref w_3)] [(.ref w_2), (.ref w_4)])) rfl (by rw [hml]; rfl) (Steps.refl _) (argsL := [(.ref w_2)]) (rest := []) (lenOf pd_1 rfl) rfl (by show 2 * 0 + _ ≤ _; exact Nat.le_of_eq rfl) (hb hby at_84) (fun _ _ => ⟨rfl, e266, (by decide : 1 + 0 ≤ _), (by decide : 4 + 0 ≤ _)⟩)
            dsimp only [Pt.U, Pt.locs, Pt.cells, Pt.slots] at X277 l277 y277 z277 st277 hQ277
            subst l277 y277 z277
            obtain ⟨rv277, N277q, e277⟩ := hQ277
            rw [show sp1x14 w_3 = (.ref w_3) from by unfold sp1x14; rfl] at rv277
            subst rv277
            have N277 := Fr.app N47 N277q
            obtain ⟨fs, hr, hrun, hended, hW, hsame⟩ := X277.leave (v := some (.int (1 : Int32))) (fun h => by rw [Bd.returns] at h; cases h)
            refine ⟨_, _, pre252 _ ?_, hrun, hended, _, _, rfl, ?_, ⟨_, rfl⟩, hW, hsame.mono (by decide) (by decide)⟩
            · show Steps p.tables e below (T47.setTop (mkF m 46 #[.val (.int p0), .val (.int p1), .val (.ref b35), .val (.int (p0 &&& (3 : Int32))), .val (.int (p1 &&& (3 : Int32))), .val (.ref w_4), .unset, .unset] [(.int (p1 &&& (3 : Int32))), (.ref b35)])) _
              refine X47.aaload hx (j := (p1 &&& (3 : Int32))) (v := (.ref w_2)) (by rw [e47]; exact Ar265.1) (State.isArrayOf_alike hZ.alike Ar265.2.1) rfl Ar265.2.2 hin265 hat265 (g := (mkF m 46 #[.val (.int p0), .val (.int p1), .val (.ref b35), .val (.int (p0 &&& (3 : Int32))), .val (.int (p1 &&& (3 : Int32))), .val (.ref w_4), .unset, .unset] [(.int (p1 &&& (3 : Int32))), (.ref b35)])) rfl rfl (hb hby at_46) _ ?_
              show Steps p.tables e below (T47.setTop (mkF m 47 #[.val (.int p0), .val (.int p1), .val (.ref b35), .val (.int (p0 &&& (3 : Int32))), .val (.int (p1 &&& (3 : Int32))), .val (.ref w_4), .unset, .unset] [(.ref w_2)])) _
              refine XS.astore X47.here hx rfl (hb hby at_47) rfl rfl (l' := #[.val (.int p0), .val (.int p1), .val (.ref b35), .val (.int (p0 &&& (3 : Int32))), .val (.int (p1 &&& (3 : Int32))), .val (.ref w_4), .val (.ref w_2), .unset]) rfl ?_
              show Steps p.tables e below (T47.setTop (mkF m 49 #[.val (.int p0), .val (.int p1), .val (.ref b35), .val (.int (p0 &&& (3 : Int32))), .val (.int (p1 &&& (3 : Int32))), .val (.ref w_4), .val (.ref w_2), .unset] [])) _
              refine XS.iload X47.here hx rfl (hb hby at_49) rfl ?_
              show Steps p.tables e below (T47.setTop (mkF m 51 #[.val (.int p0), .val (.int p1), .val (.ref b35), .val (.int (p0 &&& (3 : Int32))), .val (.int (p1 &&& (3 : Int32))), .val (.ref w_4), .val (.ref w_2), .unset] [(.int (p1 &&& (3 : Int32)))])) _
              refine XS.iconst X47.here hx rfl (hb hby at_51) ?_
              show Steps p.tables e below (T47.setTop (mkF m 52 #[.val (.int p0), .val (.int p1), .val (.ref b35), .val (.int (p0 &&& (3 : Int32))), .val (.int (p1 &&& (3 : Int32))), .val (.ref w_4), .val (.ref w_2), .unset] [(.int (2 : Int32)), (.int (p1 &&& (3 : Int32)))])) _
              refine XS.icmpYes X47.here hx rfl (pc0 := 52) (pc' := 62) rfl (hb hby at_52) rfl (tlt (by rw [hc264] <;> decide : ((p1 &&& (3 : Int32)) < (2 : Int32)))).1 (by decide) (by decide) ?_
              show Steps p.tables e below (T47.setTop (mkF m 62 #[.val (.int p0), .val (.int p1), .val (.ref b35), .val (.int (p0 &&& (3 : Int32))), .val (.int (p1 &&& (3 : Int32))), .val (.ref w_4), .val (.ref w_2), .unset] [])) _
              refine XS.iloadN X47.here hx rfl (hb hby at_62) rfl ?_
              show Steps p.tables e below (T47.setTop (mkF m 63 #[.val (.int p0), .val (.int p1), .val (.ref b35), .val (.int (p0 &&& (3 : Int32))), .val (.int (p1 &&& (3 : Int32))), .val (.ref w_4), .val (.ref w_2), .unset] [(.int (p0 &&& (3 : Int32)))])) _
              refine XS.iload X47.here hx rfl (hb hby at_63) rfl ?_
              show Steps p.tables e below (T47.setTop (mkF m 65 #[.val (.int p0), .val (.int p1), .val (.ref b35), .val (.int (p0 &&& (3 : Int32))), .val (.int (p1 &&& (3 : Int32))), .val (.ref w_4), .val (.ref w_2), .unset] [(.int (p1 &&& (3 : Int32))), (.int (p0 &&& (3 : Int32)))])) _
              refine XS.icmpYes X47.here hx rfl (pc0 := 65) (pc' := 75) rfl (hb hby at_65) rfl (feq (by rw [hL250, hc264] <;> decide : ¬ ((p0 &&& (3 : Int32)) = (p1 &&& (3 : Int32))))).2 (by decide) (by decide) ?_
              show Steps p.tables e below (T47.setTop (mkF m 75 #[.val (.int p0), .val (.int p1), .val (.ref b35), .val (.int (p0 &&& (3 : Int32))), .val (.int (p1 &&& (3 : Int32))), .val (.ref w_4), .val (.ref w_2), .unset] [])) _
              refine st266 _ ?_
              show Steps p.tables e below (T266.setTop (mkF m 78 #[.val (.int p0), .val (.int p1), .val (.ref b35), .val (.int (p0 &&& (3 : Int32))), .val (.int (p1 &&& (3 : Int32))), .val (.ref w_4), .val (.ref w_2), .unset] [(.ref w_3)])) _
              refine XS.astore X266.here hx rfl (hb hby at_78) rfl rfl (l' := #[.val (.int p0), .val (.int p1), .val (.ref b35), .val (.int (p0 &&& (3 : Int32))), .val (.int (p1 &&& (3 : Int32))), .val (.ref w_4), .val (.ref w_2), .val (.ref w_3)]) rfl ?_
              show Steps p.tables e below (T266.setTop (mkF m 80 #[.val (.int p0), .val (.int p1), .val (.ref b35), .val (.int (p0 &&& (3 : Int32))), .val (.int (p1 &&& (3 : Int32))), .val (.ref w_4), .val (.ref w_2), .val (.ref w_3)] [])) _
              refine XS.aload X266.here hx rfl (hb hby at_80) rfl rfl ?_
              show Steps p.tables e below (T266.setTop (mkF m 82 #[.val (.int p0), .val (.int p1), .val (.ref b35), .val (.int (p0 &&& (3 : Int32))), .val (.int (p1 &&& (3 : Int32))), .val (.ref w_4), .val (.ref w_2), .val (.ref w_3)] [(.ref w_4)])) _
              refine XS.aload X266.here hx rfl (hb hby at_82) rfl rfl ?_
              show Steps p.tables e below (T266.setTop (mkF m 84 #[.val (.int p0), .val (.int p1), .val (.ref b35), .val (.int (p0 &&& (3 : Int32))), .val (.int (p1 &&& (3 : Int32))), .val (.ref w_4), .val (.ref w_2), .val (.ref w_3)] [(.ref w_2), (.ref w_4)])) _
              refine st277.trans ?_
              show Steps p.tables e below (T277.setTop (mkF m 87 #[.val (.int p0), .val (.int p1), .val (.ref b35), .val (.int (p0 &&& (3 : Int32))), .val (.int (p1 &&& (3 : Int32))), .val (.ref w_4), .val (.ref w_2), .val (.ref w_3)] [(.ref w_3)])) _
              refine XS.aload X277.here hx rfl (hb hby at_87) rfl rfl ?_
              show Steps p.tables e below (T277.setTop (mkF m 89 #[.val (.int p0), .val (.int p1), .val (.ref b35), .val (.int (p0 &&& (3 : Int32))), .val (.int (p1 &&& (3 : Int32))), .val (.ref w_4), .val (.ref w_2), .val (.ref w_3)] [(.ref w_3), (.ref w_3)])) _
              refine Jvm.RoadKit.acmp (g := (mkF m 89 #[.val (.int p0), .val (.int p1), .val (.ref b35), .val (.int (p0 &&& (3 : Int32))), .val (.int (p1 &&& (3 : Int32))), .val (.ref w_4), .val (.ref w_2), .val (.ref w_3)] [(.ref w_3), (.ref w_3)])) X277 hx rfl rfl rfl (pc0 := 89) (pc' := 92) (same := true) rfl (hb hby at_89) rfl (decide_eq_true (congrArg Value.ref rfl)) (by decide) (by decide) ?_
              show Steps p.tables e below (T277.setTop (mkF m 92 #[.val (.int p0), .val (.int p1), .val (.ref b35), .val (.int (p0 &&& (3 : Int32))), .val (.int (p1 &&& (3 : Int32))), .val (.ref w_4), .val (.ref w_2), .val (.ref w_3)] [])) _
              refine XS.iconst X277.here hx rfl (hb hby at_92) ?_
              show Steps p.tables e below (T277.setTop (mkF m 93 #[.val (.int p0), .val (.int p1), .val (.ref b35), .val (.int (p0 &&& (3 : Int32))), .val (.int (p1 &&& (3 : Int32))), .val (.ref w_4), .val (.ref w_2), .val (.ref w_3)] [(.int (1 : Int32))])) _
              refine XS.goto X277.here hx rfl (pc0 := 93) (pc' := 97) rfl (hb hby at_93) (by decide) (by decide) ?_
              show Steps p.tables e below (T277.setTop (mkF m 97 #[.val (.int p0), .val (.int p1), .val (.ref b35), .val (.int (p0 &&& (3 : Int32))), .val (.int (p1 &&& (3 : Int32))), .val (.ref w_4), .val (.ref w_2), .val (.ref w_3)] [(.int (1 : Int32))])) _
              exact retN X277 hx (t := .boolean) Bd.returns (by simp) (hb hby at_97) hr
            · show Q0 Z w_1 w_2 w_3 w_4 w_5 k_5 p0 p1 h0 n0 _ T277.heap _
              rw [e277]
              exact ⟨by unfold sp0; rw [if_neg hc49, if_neg hc121, if_neg hc186, if_neg hc253, if_pos hc264], N277, trivial⟩
          · by_cases hc278 : (p1 &&& (3 : Int32)) = (2 : Int32)
            · obtain ⟨cl279, Ar279, qa279, Sa279, Ma279, Ha279, Ga279⟩ := id V_b35_47
              have hin279 : ¬ ((p1 &&& (3 : Int32)) < 0 ∨ cl279.slots.size ≤ ((p1 &&& (3 : Int32))).toNatClampNeg) := by rw [hc278]; exact inb_of Sa279 ⟨by decide, by decide⟩
              have hat279 : cl279.slots[((p1 &&& (3 : Int32))).toNatClampNeg]? = some (.ref w_3) := Has.at Ha279 hin279 (by rw [hc278]; rfl)
              obtain ⟨cq295, kq295, q295a, q295b, q295c⟩ := isOf hZ e47 (E_4.ext O47.2)
              obtain ⟨_, _, ⟨T295, L295, k295, n295⟩, -, X295, ⟨Lc295, hQ295, l295, y295, z295⟩, st295⟩ := X47.virtualBack hx (y := Y2) (z := Y2) hown (mvT hZ (hw _ (tk 12 rfl))) (mvT hZ (hw _ (tk 13 rfl))) (notFace_of_selects (args := #[]) (mvT hZ (hw _ (tk 15 rfl)))) (mvT hZ (hw _ (tk 15 rfl))) (mvT hZ (hw _ (tk 14 rfl))) (by decide) (backOf (W := 0) (rm1x15 l Z a0 hw [] w_1 w_2 w_3 w_4 w_5 k_5 hS0 h47 n0 O47) hZ (hw _ (tk 16 rfl)) (hw _ (tk 3 rfl)) (by decide) (by decide)) q295a q295c (g := (mkF m 84 #[.val (.int p0), .val (.int p1), .val (.ref b35), .val (.int (p0 &&& (3 : Int32))), .val (.int (p1 &&& (3 : Int32))), .val (.ref w_4), .val (.ref w_3), .val (.ref w_3)] [(.ref w_3), (.ref w_4)])) rfl (by rw [hml]; rfl) (Steps.refl _) (argsL := [(.ref w_3)]) (rest := []) (lenOf pd_1 rfl) rfl (by show 2 * 0 + _ ≤ _; exact Nat.le_of_eq rfl) (hb hby at_84) (fun _ _ => ⟨rfl, e47, (by decide : 1 + 0 ≤ _), (by decide : 4 + 0 ≤ _)⟩)
              dsimp only [Pt.U, Pt.locs, Pt.cells, Pt.slots] at X295 l295 y295 z295 st295 hQ295
              subst l295 y295 z295
              obtain ⟨rv295, N295q, e295⟩ := hQ295
              rw [show sp1x15 w_3 = (.ref w_3) from by unfold sp1x15; rfl] at rv295
              subst rv295
              have N295 := Fr.app N47 N295q
              obtain ⟨fs, hr, hrun, hended, hW, hsame⟩ := X295.leave (v := some (.int (1 : Int32))) (fun h => by rw [Bd.returns] at h; cases h)
              refine ⟨_, _, pre252 _ ?_, hrun, hended, _, _, rfl, ?_, ⟨_, rfl⟩, hW, hsame.mono (by decide) (by decide)⟩
              · show Steps p.tables e below (T47.setTop (mkF m 46 #[.val (.int p0), .val (.int p1), .val (.ref b35), .val (.int (p0 &&& (3 : Int32))), .val (.int (p1 &&& (3 : Int32))), .val (.ref w_4), .unset, .unset] [(.int (p1 &&& (3 : Int32))), (.ref b35)])) _
                refine X47.aaload hx (j := (p1 &&& (3 : Int32))) (v := (.ref w_3)) (by rw [e47]; exact Ar279.1) (State.isArrayOf_alike hZ.alike Ar279.2.1) rfl Ar279.2.2 hin279 hat279 (g := (mkF m 46 #[.val (.int p0), .val (.int p1), .val (.ref b35), .val (.int (p0 &&& (3 : Int32))), .val (.int (p1 &&& (3 : Int32))), .val (.ref w_4), .unset, .unset] [(.int (p1 &&& (3 : Int32))), (.ref b35)])) rfl rfl (hb hby at_46) _ ?_
                show Steps p.tables e below (T47.setTop (mkF m 47 #[.val (.int p0), .val (.int p1), .val (.ref b35), .val (.int (p0 &&& (3 : Int32))), .val (.int (p1 &&& (3 : Int32))), .val (.ref w_4), .unset, .unset] [(.ref w_3)])) _
                refine XS.astore X47.here hx rfl (hb hby at_47) rfl rfl (l' := #[.val (.int p0), .val (.int p1), .val (.ref b35), .val (.int (p0 &&& (3 : Int32))), .val (.int (p1 &&& (3 : Int32))), .val (.ref w_4), .val (.ref w_3), .unset]) rfl ?_
                show Steps p.tables e below (T47.setTop (mkF m 49 #[.val (.int p0), .val (.int p1), .val (.ref b35), .val (.int (p0 &&& (3 : Int32))), .val (.int (p1 &&& (3 : Int32))), .val (.ref w_4), .val (.ref w_3), .unset] [])) _
                refine XS.iload X47.here hx rfl (hb hby at_49) rfl ?_
                show Steps p.tables e below (T47.setTop (mkF m 51 #[.val (.int p0), .val (.int p1), .val (.ref b35), .val (.int (p0 &&& (3 : Int32))), .val (.int (p1 &&& (3 : Int32))), .val (.ref w_4), .val (.ref w_3), .unset] [(.int (p1 &&& (3 : Int32)))])) _
                refine XS.iconst X47.here hx rfl (hb hby at_51) ?_
                show Steps p.tables e below (T47.setTop (mkF m 52 #[.val (.int p0), .val (.int p1), .val (.ref b35), .val (.int (p0 &&& (3 : Int32))), .val (.int (p1 &&& (3 : Int32))), .val (.ref w_4), .val (.ref w_3), .unset] [(.int (2 : Int32)), (.int (p1 &&& (3 : Int32)))])) _
                refine XS.icmpNo X47.here hx rfl (hb hby at_52) rfl (flt (by rw [hc278] <;> decide : ¬ ((p1 &&& (3 : Int32)) < (2 : Int32)))).1 ?_
                show Steps p.tables e below (T47.setTop (mkF m 55 #[.val (.int p0), .val (.int p1), .val (.ref b35), .val (.int (p0 &&& (3 : Int32))), .val (.int (p1 &&& (3 : Int32))), .val (.ref w_4), .val (.ref w_3), .unset] [])) _
                refine XS.aload X47.here hx rfl (hb hby at_55) rfl rfl ?_
                show Steps p.tables e below (T47.setTop (mkF m 57 #[.val (.int p0), .val (.int p1), .val (.ref b35), .val (.int (p0 &&& (3 : Int32))), .val (.int (p1 &&& (3 : Int32))), .val (.ref w_4), .val (.ref w_3), .unset] [(.ref w_3)])) _
                refine XS.astore X47.here hx rfl (hb hby at_57) rfl rfl (l' := #[.val (.int p0), .val (.int p1), .val (.ref b35), .val (.int (p0 &&& (3 : Int32))), .val (.int (p1 &&& (3 : Int32))), .val (.ref w_4), .val (.ref w_3), .val (.ref w_3)]) rfl ?_
                show Steps p.tables e below (T47.setTop (mkF m 59 #[.val (.int p0), .val (.int p1), .val (.ref b35), .val (.int (p0 &&& (3 : Int32))), .val (.int (p1 &&& (3 : Int32))), .val (.ref w_4), .val (.ref w_3), .val (.ref w_3)] [])) _
                refine XS.goto X47.here hx rfl (pc0 := 59) (pc' := 80) rfl (hb hby at_59) (by decide) (by decide) ?_
                show Steps p.tables e below (T47.setTop (mkF m 80 #[.val (.int p0), .val (.int p1), .val (.ref b35), .val (.int (p0 &&& (3 : Int32))), .val (.int (p1 &&& (3 : Int32))), .val (.ref w_4), .val (.ref w_3), .val (.ref w_3)] [])) _
                refine XS.aload X47.here hx rfl (hb hby at_80) rfl rfl ?_
                show Steps p.tables e below (T47.setTop (mkF m 82 #[.val (.int p0), .val (.int p1), .val (.ref b35), .val (.int (p0 &&& (3 : Int32))), .val (.int (p1 &&& (3 : Int32))), .val (.ref w_4), .val (.ref w_3), .val (.ref w_3)] [(.ref w_4)])) _
                refine XS.aload X47.here hx rfl (hb hby at_82) rfl rfl ?_
                show Steps p.tables e below (T47.setTop (mkF m 84 #[.val (.int p0), .val (.int p1), .val (.ref b35), .val (.int (p0 &&& (3 : Int32))), .val (.int (p1 &&& (3 : Int32))), .val (.ref w_4), .val (.ref w_3), .val (.ref w_3)] [(.ref w_3), (.ref w_4)])) _
                refine st295.trans ?_
                show Steps p.tables e below (T295.setTop (mkF m 87 #[.val (.int p0), .val (.int p1), .val (.ref b35), .val (.int (p0 &&& (3 : Int32))), .val (.int (p1 &&& (3 : Int32))), .val (.ref w_4), .val (.ref w_3), .val (.ref w_3)] [(.ref w_3)])) _
                refine XS.aload X295.here hx rfl (hb hby at_87) rfl rfl ?_
                show Steps p.tables e below (T295.setTop (mkF m 89 #[.val (.int p0), .val (.int p1), .val (.ref b35), .val (.int (p0 &&& (3 : Int32))), .val (.int (p1 &&& (3 : Int32))), .val (.ref w_4), .val (.ref w_3), .val (.ref w_3)] [(.ref w_3), (.ref w_3)])) _
                refine Jvm.RoadKit.acmp (g := (mkF m 89 #[.val (.int p0), .val (.int p1), .val (.ref b35), .val (.int (p0 &&& (3 : Int32))), .val (.int (p1 &&& (3 : Int32))), .val (.ref w_4), .val (.ref w_3), .val (.ref w_3)] [(.ref w_3), (.ref w_3)])) X295 hx rfl rfl rfl (pc0 := 89) (pc' := 92) (same := true) rfl (hb hby at_89) rfl (decide_eq_true (congrArg Value.ref rfl)) (by decide) (by decide) ?_
                show Steps p.tables e below (T295.setTop (mkF m 92 #[.val (.int p0), .val (.int p1), .val (.ref b35), .val (.int (p0 &&& (3 : Int32))), .val (.int (p1 &&& (3 : Int32))), .val (.ref w_4), .val (.ref w_3), .val (.ref w_3)] [])) _
                refine XS.iconst X295.here hx rfl (hb hby at_92) ?_
                show Steps p.tables e below (T295.setTop (mkF m 93 #[.val (.int p0), .val (.int p1), .val (.ref b35), .val (.int (p0 &&& (3 : Int32))), .val (.int (p1 &&& (3 : Int32))), .val (.ref w_4), .val (.ref w_3), .val (.ref w_3)] [(.int (1 : Int32))])) _
                refine XS.goto X295.here hx rfl (pc0 := 93) (pc' := 97) rfl (hb hby at_93) (by decide) (by decide) ?_
                show Steps p.tables e below (T295.setTop (mkF m 97 #[.val (.int p0), .val (.int p1), .val (.ref b35), .val (.int (p0 &&& (3 : Int32))), .val (.int (p1 &&& (3 : Int32))), .val (.ref w_4), .val (.ref w_3), .val (.ref w_3)] [(.int (1 : Int32))])) _
                exact retN X295 hx (t := .boolean) Bd.returns (by simp) (hb hby at_97) hr
              · show Q0 Z w_1 w_2 w_3 w_4 w_5 k_5 p0 p1 h0 n0 _ T295.heap _
                rw [e295]
                exact ⟨by unfold sp0; rw [if_neg hc49, if_neg hc121, if_neg hc186, if_neg hc253, if_neg hc264, if_pos hc278], N295, trivial⟩
            · have hL296 : (p1 &&& (3 : Int32)) = (3 : Int32) := by
                have r : 0 ≤ ((p1 &&& (3 : Int32))).toInt ∧ ((p1 &&& (3 : Int32))).toInt < 4 := (own_rand p1 (3 : Int32) 4 (by decide) (by decide))
                have q0 := own_ne hc253 (n := 0) (by decide)
                have q1 := own_ne hc264 (n := 1) (by decide)
                have q2 := own_ne hc278 (n := 2) (by decide)
                exact own_eq (n := 3) (by decide) (by omega)
              obtain ⟨cl297, Ar297, qa297, Sa297, Ma297, Ha297, Ga297⟩ := id V_b35_47
              have hin297 : ¬ ((p1 &&& (3 : Int32)) < 0 ∨ cl297.slots.size ≤ ((p1 &&& (3 : Int32))).toNatClampNeg) := by rw [hL296]; exact inb_of Sa297 ⟨by decide, by decide⟩
              have hat297 : cl297.slots[((p1 &&& (3 : Int32))).toNatClampNeg]? = some (.ref w_4) := Has.at Ha297 hin297 (by rw [hL296]; rfl)
              obtain ⟨cq313, kq313, q313a, q313b, q313c⟩ := isOf hZ e47 (E_4.ext O47.2)
              obtain ⟨_, _, ⟨T313, L313, k313, n313⟩, -, X313, ⟨Lc313, hQ313, l313, y313, z313⟩, st313⟩ := X47.virtualBack hx (y := Y2) (z := Y2) hown (mvT hZ (hw _ (tk 12 rfl))) (mvT hZ (hw _ (tk 13 rfl))) (notFace_of_selects (args := #[]) (mvT hZ (hw _ (tk 15 rfl)))) (mvT hZ (hw _ (tk 15 rfl))) (mvT hZ (hw _ (tk 14 rfl))) (by decide) (backOf (W := 0) (rm1x16 l Z a0 hw [] w_1 w_2 w_3 w_4 w_5 k_5 hS0 h47 n0 O47) hZ (hw _ (tk 16 rfl)) (hw _ (tk 3 rfl)) (by decide) (by decide)) q313a q313c (g := (mkF m 84 #[.val (.int p0), .val (.int p1), .val (.ref b35), .val (.int (p0 &&& (3 : Int32))), .val (.int (p1 &&& (3 : Int32))), .val (.ref w_4), .val (.ref w_4), .val (.ref w_4)] [(.ref w_4), (.ref w_4)])) rfl (by rw [hml]; rfl) (Steps.refl _) (argsL := [(.ref w_4)]) (rest := []) (lenOf pd_1 rfl) rfl (by show 2 * 0 + _ ≤ _; exact Nat.le_of_eq rfl) (hb hby at_84) (fun _ _ => ⟨rfl, e47, (by decide : 1 + 0 ≤ _), (by decide : 4 + 0 ≤ _)⟩)
              dsimp only [Pt.U, Pt.locs, Pt.cells, Pt.slots] at X313 l313 y313 z313 st313 hQ313
              subst l313 y313 z313
              obtain ⟨rv313, N313q, e313⟩ := hQ313
              rw [show sp1x16 w_4 = (.ref w_4) from by unfold sp1x16; rfl] at rv313
              subst rv313
              have N313 := Fr.app N47 N313q
              obtain ⟨fs, hr, hrun, hended, hW, hsame⟩ := X313.leave (v := some (.int (1 : Int32))) (fun h => by rw [Bd.returns] at h; cases h)
              refine ⟨_, _, pre252 _ ?_, hrun, hended, _, _, rfl, ?_, ⟨_, rfl⟩, hW, hsame.mono (by decide) (by decide)⟩
              · show Steps p.tables e below (T47.setTop (mkF m 46 #[.val (.int p0), .val (.int p1), .val (.ref b35), .val (.int (p0 &&& (3 : Int32))), .val (.int (p1 &&& (3 : Int32))), .val (.ref w_4), .unset, .unset] [(.int (p1 &&& (3 : Int32))), (.ref b35)])) _
                refine X47.aaload hx (j := (p1 &&& (3 : Int32))) (v := (.ref w_4)) (by rw [e47]; exact Ar297.1) (State.isArrayOf_alike hZ.alike Ar297.2.1) rfl Ar297.2.2 hin297 hat297 (g := (mkF m 46 #[.val (.int p0), .val (.int p1), .val (.ref b35), .val (.int (p0 &&& (3 : Int32))), .val (.int (p1 &&& (3 : Int32))), .val (.ref w_4), .unset, .unset] [(.int (p1 &&& (3 : Int32))), (.ref b35)])) rfl rfl (hb hby at_46) _ ?_
                show Steps p.tables e below (T47.setTop (mkF m 47 #[.val (.int p0), .val (.int p1), .val (.ref b35), .val (.int (p0 &&& (3 : Int32))), .val (.int (p1 &&& (3 : Int32))), .val (.ref w_4), .unset, .unset] [(.ref w_4)])) _
                refine XS.astore X47.here hx rfl (hb hby at_47) rfl rfl (l' := #[.val (.int p0), .val (.int p1), .val (.ref b35), .val (.int (p0 &&& (3 : Int32))), .val (.int (p1 &&& (3 : Int32))), .val (.ref w_4), .val (.ref w_4), .unset]) rfl ?_
                show Steps p.tables e below (T47.setTop (mkF m 49 #[.val (.int p0), .val (.int p1), .val (.ref b35), .val (.int (p0 &&& (3 : Int32))), .val (.int (p1 &&& (3 : Int32))), .val (.ref w_4), .val (.ref w_4), .unset] [])) _
                refine XS.iload X47.here hx rfl (hb hby at_49) rfl ?_
                show Steps p.tables e below (T47.setTop (mkF m 51 #[.val (.int p0), .val (.int p1), .val (.ref b35), .val (.int (p0 &&& (3 : Int32))), .val (.int (p1 &&& (3 : Int32))), .val (.ref w_4), .val (.ref w_4), .unset] [(.int (p1 &&& (3 : Int32)))])) _
                refine XS.iconst X47.here hx rfl (hb hby at_51) ?_
                show Steps p.tables e below (T47.setTop (mkF m 52 #[.val (.int p0), .val (.int p1), .val (.ref b35), .val (.int (p0 &&& (3 : Int32))), .val (.int (p1 &&& (3 : Int32))), .val (.ref w_4), .val (.ref w_4), .unset] [(.int (2 : Int32)), (.int (p1 &&& (3 : Int32)))])) _
                refine XS.icmpNo X47.here hx rfl (hb hby at_52) rfl (flt (by rw [hL296] <;> decide : ¬ ((p1 &&& (3 : Int32)) < (2 : Int32)))).1 ?_
                show Steps p.tables e below (T47.setTop (mkF m 55 #[.val (.int p0), .val (.int p1), .val (.ref b35), .val (.int (p0 &&& (3 : Int32))), .val (.int (p1 &&& (3 : Int32))), .val (.ref w_4), .val (.ref w_4), .unset] [])) _
                refine XS.aload X47.here hx rfl (hb hby at_55) rfl rfl ?_
                show Steps p.tables e below (T47.setTop (mkF m 57 #[.val (.int p0), .val (.int p1), .val (.ref b35), .val (.int (p0 &&& (3 : Int32))), .val (.int (p1 &&& (3 : Int32))), .val (.ref w_4), .val (.ref w_4), .unset] [(.ref w_4)])) _
                refine XS.astore X47.here hx rfl (hb hby at_57) rfl rfl (l' := #[.val (.int p0), .val (.int p1), .val (.ref b35), .val (.int (p0 &&& (3 : Int32))), .val (.int (p1 &&& (3 : Int32))), .val (.ref w_4), .val (.ref w_4), .val (.ref w_4)]) rfl ?_
                show Steps p.tables e below (T47.setTop (mkF m 59 #[.val (.int p0), .val (.int p1), .val (.ref b35), .val (.int (p0 &&& (3 : Int32))), .val (.int (p1 &&& (3 : Int32))), .val (.ref w_4), .val (.ref w_4), .val (.ref w_4)] [])) _
                refine XS.goto X47.here hx rfl (pc0 := 59) (pc' := 80) rfl (hb hby at_59) (by decide) (by decide) ?_
                show Steps p.tables e below (T47.setTop (mkF m 80 #[.val (.int p0), .val (.int p1), .val (.ref b35), .val (.int (p0 &&& (3 : Int32))), .val (.int (p1 &&& (3 : Int32))), .val (.ref w_4), .val (.ref w_4), .val (.ref w_4)] [])) _
                refine XS.aload X47.here hx rfl (hb hby at_80) rfl rfl ?_
                show Steps p.tables e below (T47.setTop (mkF m 82 #[.val (.int p0), .val (.int p1), .val (.ref b35), .val (.int (p0 &&& (3 : Int32))), .val (.int (p1 &&& (3 : Int32))), .val (.ref w_4), .val (.ref w_4), .val (.ref w_4)] [(.ref w_4)])) _
                refine XS.aload X47.here hx rfl (hb hby at_82) rfl rfl ?_
                show Steps p.tables e below (T47.setTop (mkF m 84 #[.val (.int p0), .val (.int p1), .val (.ref b35), .val (.int (p0 &&& (3 : Int32))), .val (.int (p1 &&& (3 : Int32))), .val (.ref w_4), .val (.ref w_4), .val (.ref w_4)] [(.ref w_4), (.ref w_4)])) _
                refine st313.trans ?_
                show Steps p.tables e below (T313.setTop (mkF m 87 #[.val (.int p0), .val (.int p1), .val (.ref b35), .val (.int (p0 &&& (3 : Int32))), .val (.int (p1 &&& (3 : Int32))), .val (.ref w_4), .val (.ref w_4), .val (.ref w_4)] [(.ref w_4)])) _
                refine XS.aload X313.here hx rfl (hb hby at_87) rfl rfl ?_
                show Steps p.tables e below (T313.setTop (mkF m 89 #[.val (.int p0), .val (.int p1), .val (.ref b35), .val (.int (p0 &&& (3 : Int32))), .val (.int (p1 &&& (3 : Int32))), .val (.ref w_4), .val (.ref w_4), .val (.ref w_4)] [(.ref w_4), (.ref w_4)])) _
                refine Jvm.RoadKit.acmp (g := (mkF m 89 #[.val (.int p0), .val (.int p1), .val (.ref b35), .val (.int (p0 &&& (3 : Int32))), .val (.int (p1 &&& (3 : Int32))), .val (.ref w_4), .val (.ref w_4), .val (.ref w_4)] [(.ref w_4), (.ref w_4)])) X313 hx rfl rfl rfl (pc0 := 89) (pc' := 92) (same := true) rfl (hb hby at_89) rfl (decide_eq_true (congrArg Value.ref rfl)) (by decide) (by decide) ?_
                show Steps p.tables e below (T313.setTop (mkF m 92 #[.val (.int p0), .val (.int p1), .val (.ref b35), .val (.int (p0 &&& (3 : Int32))), .val (.int (p1 &&& (3 : Int32))), .val (.ref w_4), .val (.ref w_4), .val (.ref w_4)] [])) _
                refine XS.iconst X313.here hx rfl (hb hby at_92) ?_
                show Steps p.tables e below (T313.setTop (mkF m 93 #[.val (.int p0), .val (.int p1), .val (.ref b35), .val (.int (p0 &&& (3 : Int32))), .val (.int (p1 &&& (3 : Int32))), .val (.ref w_4), .val (.ref w_4), .val (.ref w_4)] [(.int (1 : Int32))])) _
                refine XS.goto X313.here hx rfl (pc0 := 93) (pc' := 97) rfl (hb hby at_93) (by decide) (by decide) ?_
                show Steps p.tables e below (T313.setTop (mkF m 97 #[.val (.int p0), .val (.int p1), .val (.ref b35), .val (.int (p0 &&& (3 : Int32))), .val (.int (p1 &&& (3 : Int32))), .val (.ref w_4), .val (.ref w_4), .val (.ref w_4)] [(.int (1 : Int32))])) _
                exact retN X313 hx (t := .boolean) Bd.returns (by simp) (hb hby at_97) hr
              · show Q0 Z w_1 w_2 w_3 w_4 w_5 k_5 p0 p1 h0 n0 _ T313.heap _
                rw [e313]
                exact ⟨by unfold sp0; rw [if_neg hc49, if_neg hc121, if_neg hc186, if_neg hc253, if_neg hc264, if_neg hc278], N313, trivial⟩

theorem own_plain (p0 : Int32) (p1 : Int32) : sp0 p0 p1 = (1 : Int32) := by
  unfold sp0
  simp only [ite_self]
set_option maxRecDepth 65536 in
set_option maxHeartbeats 40000000 in
theorem comes_1 {Post : Tables → Env → Array Value → State → Outcome → State → Prop} (hpost : ∀ tb e args s v u, (limb_1_1.after args s (.returned v) u = true ∧ limb_1_2.after args s (.returned v) u = true ∧ True) → FrameEnd s (.returned v) u (Jvm.fieldLocs frame_1_writes args s ++ Jvm.arrayLocs frame_1_arrays args s ++ Jvm.staticLocs frame_1_statics s) 16 128 → Post tb e args s (.returned v) u) :
    ArmFor flags0 classFile x code maxLocals ret World_1 tables_1 room_1 Calls_1 rest_1 Pre_1 Post := by
  intro l hfl _ _ p e ha hc hk s m args below hf hA hF happ hP
  obtain ⟨hcalls, hrest, hpre⟩ := hP
  obtain ⟨-, -, -, hnamed, -, -, -, hat⟩ := (Spec.applies_iff hf).mp happ
  obtain ⟨hg, hn⟩ := and_e (Cond.before_iff.mp (show (Jvm.Cond.and given_1 narrow_1).before args s = true from hpre))
  obtain ⟨g314, g315⟩ := and_e hg
  obtain ⟨g316, g317⟩ := and_e g315
  obtain ⟨w0, w1, rfl⟩ : ∃ w0 w1 : Value, args = #[w0, w1] := by
    have hs : args.size = 2 := by simpa [Cond.value, given_1] using g314
    obtain ⟨L⟩ := args
    match L, hs with
    | [w0, w1], _ => exact ⟨w0, w1, rfl⟩
  have hw := fun d (hd : d ∈ tables_1) => atoms_spec (ws := Jvm.Cond.code x code maxLocals ret :: tables_1) hat d (List.mem_cons_of_mem _ hd)
  have hfit : Fit s := fun {y c} hc i hi => by
    obtain ⟨ha, rfl⟩ := Array.getElem?_eq_some_iff.mp hc
    have q := List.all_eq_true.mp ((Array.all_eq_true_iff_forall_mem.mp hF) _ (Array.getElem_mem ha)) i (List.mem_range.mpr hi)
    simpa [Array.getElem?_eq_getElem hi] using q
  obtain ⟨i0, ei0⟩ := is_v g316
  obtain rfl : w0 = (.int i0) := Option.some.inj ei0
  obtain ⟨i1, ei1⟩ := is_v g317
  obtain rfl : w1 = (.int i1) := Option.some.inj ei1
  obtain ⟨n1, n2⟩ := and_e hn
  obtain ⟨n3, n4⟩ := and_e n2
  obtain ⟨n5, n6⟩ := and_e n4
  obtain ⟨n7, n8⟩ := and_e n6
  obtain ⟨n9, n10⟩ := and_e n8
  obtain ⟨n11, n12⟩ := and_e n10
  obtain ⟨n13, n14⟩ := and_e n12
  obtain ⟨n15, n16⟩ := and_e n14
  obtain ⟨n17, n18⟩ := and_e n16
  obtain ⟨n19, n20⟩ := and_e n18
  obtain ⟨n21, n22⟩ := and_e n20
  obtain ⟨n23, n24⟩ := and_e n22
  obtain ⟨n25, n26⟩ := and_e n24
  obtain ⟨n27, n28⟩ := and_e n26
  obtain ⟨n29, n30⟩ := and_e n28
  obtain ⟨n31, n32⟩ := and_e n30
  obtain ⟨n33, n34⟩ := and_e n32
  obtain ⟨w_1, ew_1⟩ := exa_v n1
  have S_1 : Sta s s.heap "com/example/lucid_locks/lucidlocks/locks/LockMode" "READER_SHARED" "Lcom/example/lucid_locks/lucidlocks/locks/LockMode;" (.ref w_1) := Sta.start ew_1 (Or.inr ⟨(hw _ (tk 3 rfl)), (hw _ (tk 4 rfl))⟩)
  have E_1 : Exa s s.heap w_1 "com/example/lucid_locks/lucidlocks/locks/LockMode" := Exa.start ew_1 n1
  obtain ⟨w_2, ew_2⟩ := exa_v n3
  have S_2 : Sta s s.heap "com/example/lucid_locks/lucidlocks/locks/LockMode" "WRITER_SHARED" "Lcom/example/lucid_locks/lucidlocks/locks/LockMode;" (.ref w_2) := Sta.start ew_2 (Or.inr ⟨(hw _ (tk 3 rfl)), (hw _ (tk 7 rfl))⟩)
  have E_2 : Exa s s.heap w_2 "com/example/lucid_locks/lucidlocks/locks/LockMode" := Exa.start ew_2 n3
  obtain ⟨w_3, ew_3⟩ := exa_v n5
  have S_3 : Sta s s.heap "com/example/lucid_locks/lucidlocks/locks/LockMode" "EXCLUSIVE" "Lcom/example/lucid_locks/lucidlocks/locks/LockMode;" (.ref w_3) := Sta.start ew_3 (Or.inr ⟨(hw _ (tk 3 rfl)), (hw _ (tk 9 rfl))⟩)
  have E_3 : Exa s s.heap w_3 "com/example/lucid_locks/lucidlocks/locks/LockMode" := Exa.start ew_3 n5
  obtain ⟨w_4, ew_4⟩ := exa_v n7
  have S_4 : Sta s s.heap "com/example/lucid_locks/lucidlocks/locks/LockMode" "WRITER_SHARED_TIMESTAMP" "Lcom/example/lucid_locks/lucidlocks/locks/LockMode;" (.ref w_4) := Sta.start ew_4 (Or.inr ⟨(hw _ (tk 3 rfl)), (hw _ (tk 11 rfl))⟩)
  have E_4 : Exa s s.heap w_4 "com/example/lucid_locks/lucidlocks/locks/LockMode" := Exa.start ew_4 n7
  obtain ⟨w_5, ew_5⟩ := arr_v n9
  have S_5 : Sta s s.heap "com/example/lucid_locks/lucidlocks/locks/LockMode" "MODES" "[Lcom/example/lucid_locks/lucidlocks/locks/LockMode;" (.ref w_5) := Sta.start ew_5 (Or.inr ⟨(hw _ (tk 3 rfl)), (hw _ (tk 23 rfl))⟩)
  have F_1_sharedWithItself : Fld s s.heap w_1 "com/example/lucid_locks/lucidlocks/locks/LockMode" "sharedWithItself" "Z" (.int (1 : Int32)) := own_fld ew_1 n15
  have F_1_ordinal : Fld s s.heap w_1 "java/lang/Enum" "ordinal" "I" (.int (0 : Int32)) := own_fld ew_1 n19
  have F_2_ordinal : Fld s s.heap w_2 "java/lang/Enum" "ordinal" "I" (.int (1 : Int32)) := own_fld ew_2 n21
  have F_4_ordinal : Fld s s.heap w_4 "java/lang/Enum" "ordinal" "I" (.int (3 : Int32)) := own_fld ew_4 n23
  have F_3_ordinal : Fld s s.heap w_3 "java/lang/Enum" "ordinal" "I" (.int (2 : Int32)) := own_fld ew_3 n27
  have F_4_sharedWithItself : Fld s s.heap w_4 "com/example/lucid_locks/lucidlocks/locks/LockMode" "sharedWithItself" "Z" (.int (0 : Int32)) := own_fld ew_4 n31
  have F_2_sharedWithItself : Fld s s.heap w_2 "com/example/lucid_locks/lucidlocks/locks/LockMode" "sharedWithItself" "Z" (.int (1 : Int32)) := own_fld ew_2 n33
  have F_3_sharedWithItself : Fld s s.heap w_3 "com/example/lucid_locks/lucidlocks/locks/LockMode" "sharedWithItself" "Z" (.int (0 : Int32)) := own_fld ew_3 n34
  obtain ⟨cl_5, A_5⟩ := Arr.start ew_5 n9
  have L_5 := own_len ew_5 A_5 n11
  have V_5 : Arv s s.heap w_5 cl_5.cls (.object "com/example/lucid_locks/lucidlocks/locks/LockMode") (4 : Int32) [(.ref w_1), (.ref w_2), (.ref w_3), (.ref w_4)] .null := Arv.start hfit A_5 L_5.1 L_5.2 (by decide) rfl ⟨own_elem ew_5 A_5.1 ew_1 n13, own_elem ew_5 A_5.1 ew_2 n17, own_elem ew_5 A_5.1 ew_3 n25, own_elem ew_5 A_5.1 ew_4 n29, trivial⟩
  obtain ⟨k_5, hk_5⟩ : ∃ z, z = cl_5.cls := ⟨_, rfl⟩
  rw [← hk_5] at V_5
  have hS : StF s w_1 w_2 w_3 w_4 w_5 k_5 := ⟨S_1, E_1, S_2, E_2, S_3, E_3, S_4, E_4, S_5, F_1_sharedWithItself, F_1_ordinal, F_2_ordinal, F_4_ordinal, F_3_ordinal, F_4_sharedWithItself, F_2_sharedWithItself, F_3_sharedWithItself, V_5⟩
  obtain ⟨n, o, h1, h2, h3, _, L, rfl, ⟨hv, N, -⟩, hq⟩ := rm0 l s _ hw tables_1 w_1 w_2 w_3 w_4 w_5 k_5 hS i0 i1 s.heap s.heap.size (Old.start s) p e ha hc hk s m _ below hf ((Spec.applies_iff_loose hf).mp happ).1 ⟨rfl, State.Warmed39.refl s, rfl⟩ trivial
  rw [own_plain i0 i1] at hv
  subst hv
  refine ⟨n, _, h1, h2, h3, hpost _ _ _ _ _ _ ⟨Cond.after_iff.mpr rfl, Cond.after_iff.mpr (eq_i res_at (Term.int_eval (1)) rfl), trivial⟩ ⟨hq.1, hq.2.1, (hq.2.2.sift fun y hy => Or.inr (N y hy)).mono (by decide) (by decide)⟩⟩
theorem main_1_1 : Claimed_1_1 := comes_1 fun _ _ _ _ _ _ h hF => ⟨h.1, hF⟩
theorem main_1_2 : Claimed_1_2 := comes_1 fun _ _ _ _ _ _ h hF => ⟨h.2.1, hF⟩
end Jvm.Pilot.@@N@@
namespace Jvm.Pilot.@@N@@
open Jvm Jvm.ClassFile Sem Op Lib Jvm.Free Jvm.Stand Jvm.Pilot.@@N@@.Jvm.D
/-! MADE BY PROGRAM (witnessworld.py) out of the Statement's table words and the real class files: 13 classes; the members and pool entries that the words name. The judged class is class 1, her method 1. -/
namespace start1
open Jvm.ClassFile
def u (s : String) : CpInfo := .utf8 (stringToUtf16 s)
/-- a pool by its gaps: so many unusable entries, then the entry; so many at the end -/
def gap : Nat → List CpInfo → List CpInfo
  | 0, r => r
  | n + 1, r => .unusable :: gap n r
def poolList (es : List (Nat × CpInfo)) (last : Nat) : List CpInfo := es.foldr (fun e r => gap e.1 (e.2 :: r)) (gap last [])
def pool (es : List (Nat × CpInfo)) (last : Nat) : Array CpInfo := ⟨poolList es last⟩
def fileOf (pool : Array CpInfo) (this : Nat) (attrs : Array Attribute := #[]) (ms : Array MethodInfo := #[]) (fl : Nat := 33) (sup : Nat := 0) (ifs : Array Nat := #[]) (fds : Array FieldInfo := #[]) : ClassFile where
  minorVersion := 0
  majorVersion := 65
  constantPool := pool
  accessFlags := fl
  thisClass := this
  superClass := sup
  interfaces := ifs
  fields := fds
  methods := ms
  attributes := attrs
def plain (name : String) (sup : Option ClassId) : Class where
  name := name
  kind := .ordinary
  loader := none
  accessFlags := 33
  super := sup
  interfaces := #[]
  cf := none
  fields := #[]
  methods := #[]
  instanceTypes := #[]
  staticTypes := #[]
  resolved := #[]
  callSites := []
  init := .initialized
  statics := none
  mirror := none

def pool0 : Array CpInfo := pool [(5, u "<init>"), (0, u "()V"), (1, .class_ 10), (1, u "java/lang/Object")] 113

def k0m0 : Method := { name := "<init>", desc := "()V", sig := { parameters := [], returnType := none }, accessFlags := 1, code := none }
/-- java/lang/Object -/
def k0 : Class := { plain "java/lang/Object" none with
  accessFlags := 33
  interfaces := #[]
  cf := some (fileOf pool0 8 #[] #[{ accessFlags := 1, nameIndex := 5, descriptorIndex := 6, attributes := #[] }] 33 0 #[] #[])
  fields := #[]
  methods := #[k0m0]
  instanceTypes := #[]
  staticTypes := #[]
  resolved := Array.replicate 124 none
  statics := none }

def pool1 : Array CpInfo := pool [(2, .class_ 4), (1, u "java/lang/Object"), (0, u "<init>"), (0, u "()V"), (0, .class_ 8), (0, u "com/example/lucid_locks/lucidlocks/locks/LockMode"), (0, .fieldref 7 10), (0, .nameAndType 11 12), (0, u "READER_SHARED"), (0, u "Lcom/example/lucid_locks/lucidlocks/locks/LockMode;"), (0, .fieldref 7 14), (0, .nameAndType 15 12), (0, u "WRITER_SHARED"), (0, .fieldref 7 17), (0, .nameAndType 18 12), (0, u "EXCLUSIVE"), (0, .fieldref 7 20), (0, .nameAndType 21 12), (0, u "WRITER_SHARED_TIMESTAMP"), (0, .methodref 7 23), (0, .nameAndType 24 25), (0, u "combinedWith"), (0, u "(Lcom/example/lucid_locks/lucidlocks/locks/LockMode;)Lcom/example/lucid_locks/lucidlocks/locks/LockMode;"), (0, .class_ 27), (0, u "com/example/lucid_locks/lucidlocks/locks/LockModeCombinedWithPinLaw"), (2, u "law"), (0, u "(II)Z")] 5

def k1m0 : Method := { name := "<init>", desc := "()V", sig := { parameters := [], returnType := none }, accessFlags := 1, code := none }
def k1c1 : Code := { maxStack := 4, maxLocals := 8, code := code, exceptionTable := #[], attributes := #[] }
def k1m1 : Method := { name := "law", desc := "(II)Z", sig := { parameters := [.int, .int], returnType := some .boolean }, accessFlags := 9, code := some k1c1 }
/-- com/example/lucid_locks/lucidlocks/locks/LockModeCombinedWithPinLaw -/
def k1 : Class := { plain "com/example/lucid_locks/lucidlocks/locks/LockModeCombinedWithPinLaw" (some 0) with
  accessFlags := 49
  interfaces := #[]
  cf := some (fileOf pool1 26 #[] #[{ accessFlags := 1, nameIndex := 5, descriptorIndex := 6, attributes := #[] }, { accessFlags := 9, nameIndex := 30, descriptorIndex := 31, attributes := #[] }] 49 2 #[] #[])
  fields := #[]
  methods := #[k1m0, k1m1]
  instanceTypes := #[]
  staticTypes := #[]
  resolved := Array.replicate 37 none
  statics := none }

def pool2 : Array CpInfo := pool [(1, .class_ 2), (0, u "java/lang/constant/Constable"), (0, .class_ 4), (0, u "java/lang/Object")] 6

/-- java/lang/constant/Constable -/
def k2 : Class := { plain "java/lang/constant/Constable" (some 0) with
  accessFlags := 1537
  interfaces := #[]
  cf := some (fileOf pool2 1 #[] #[] 1537 3 #[] #[])
  fields := #[]
  methods := #[]
  instanceTypes := #[]
  staticTypes := #[]
  resolved := Array.replicate 11 none
  statics := none }

def pool3 : Array CpInfo := pool [(1, .class_ 2), (0, u "java/lang/Comparable"), (0, .class_ 4), (0, u "java/lang/Object")] 7

/-- java/lang/Comparable -/
def k3 : Class := { plain "java/lang/Comparable" (some 0) with
  accessFlags := 1537
  interfaces := #[]
  cf := some (fileOf pool3 1 #[] #[] 1537 3 #[] #[])
  fields := #[]
  methods := #[]
  instanceTypes := #[]
  staticTypes := #[]
  resolved := Array.replicate 12 none
  statics := none }

def pool4 : Array CpInfo := pool [(1, .class_ 2), (0, u "java/io/Serializable"), (0, .class_ 4), (0, u "java/lang/Object")] 2

/-- java/io/Serializable -/
def k4 : Class := { plain "java/io/Serializable" (some 0) with
  accessFlags := 1537
  interfaces := #[]
  cf := some (fileOf pool4 1 #[] #[] 1537 3 #[] #[])
  fields := #[]
  methods := #[]
  instanceTypes := #[]
  staticTypes := #[]
  resolved := Array.replicate 7 none
  statics := none }

def pool5 : Array CpInfo := pool [(2, .class_ 4), (1, u "java/lang/Enum"), (0, u "name"), (0, u "Ljava/lang/String;"), (2, u "ordinal"), (0, u "I"), (1, .class_ 14), (1, u "java/lang/Object"), (4, u "hash"), (86, .class_ 108), (1, u "java/lang/Enum$EnumDesc"), (2, .class_ 112), (0, u "java/lang/constant/Constable"), (0, .class_ 114), (0, u "java/lang/Comparable"), (0, .class_ 116), (0, u "java/io/Serializable")] 87

/-- java/lang/Enum -/
def k5 : Class := { plain "java/lang/Enum" (some 0) with
  accessFlags := 1057
  interfaces := #[2, 3, 4]
  cf := some (fileOf pool5 2 #[.nestMembers #[106]] #[] 1057 12 #[111, 113, 115] #[{ accessFlags := 18, nameIndex := 5, descriptorIndex := 6, attributes := #[] }, { accessFlags := 18, nameIndex := 9, descriptorIndex := 10, attributes := #[] }, { accessFlags := 2, nameIndex := 19, descriptorIndex := 10, attributes := #[] }])
  fields := #[{ name := "name", type := (.object "java/lang/String"), accessFlags := 18, slot := 0, constantValue := 0 }, { name := "ordinal", type := .int, accessFlags := 18, slot := 1, constantValue := 0 }, { name := "hash", type := .int, accessFlags := 2, slot := 2, constantValue := 0 }]
  methods := #[]
  instanceTypes := #[(.object "java/lang/String"), .int, .int]
  staticTypes := #[]
  resolved := Array.replicate 204 none
  statics := none }

def pool6 : Array CpInfo := pool [(1, .class_ 2), (0, u "com/example/lucid_locks/lucidlocks/locks/LockMode"), (2, u "READER_SHARED"), (0, u "Lcom/example/lucid_locks/lucidlocks/locks/LockMode;"), (2, u "WRITER_SHARED"), (0, .fieldref 1 11), (0, .nameAndType 12 6), (0, u "EXCLUSIVE"), (2, u "WRITER_SHARED_TIMESTAMP"), (2, u "$VALUES"), (0, u "[Lcom/example/lucid_locks/lucidlocks/locks/LockMode;"), (6, .class_ 28), (1, u "java/lang/Enum"), (8, u "displayName"), (0, u "Ljava/lang/String;"), (0, .fieldref 1 40), (0, .nameAndType 41 42), (0, u "sharedWithItself"), (0, u "Z"), (0, .methodref 1 44), (0, .nameAndType 45 46), (0, u "covers"), (0, u "(Lcom/example/lucid_locks/lucidlocks/locks/LockMode;)Z"), (0, .fieldref 1 48), (0, .nameAndType 49 19), (0, u "MODES"), (0, .methodref 1 51), (0, .nameAndType 52 46), (0, u "conflictsWith"), (30, u "combinedWith"), (0, u "(Lcom/example/lucid_locks/lucidlocks/locks/LockMode;)Lcom/example/lucid_locks/lucidlocks/locks/LockMode;")] 5

def k6c0 : Code := { maxStack := 2, maxLocals := 2, code := prog_17_method_5_code, exceptionTable := #[], attributes := #[] }
def k6m0 : Method := { name := "conflictsWith", desc := "(Lcom/example/lucid_locks/lucidlocks/locks/LockMode;)Z", sig := { parameters := [(.object "com/example/lucid_locks/lucidlocks/locks/LockMode")], returnType := some .boolean }, accessFlags := 1, code := some k6c0 }
def k6c1 : Code := { maxStack := 2, maxLocals := 2, code := prog_17_method_6_code, exceptionTable := #[], attributes := #[] }
def k6m1 : Method := { name := "combinedWith", desc := "(Lcom/example/lucid_locks/lucidlocks/locks/LockMode;)Lcom/example/lucid_locks/lucidlocks/locks/LockMode;", sig := { parameters := [(.object "com/example/lucid_locks/lucidlocks/locks/LockMode")], returnType := some (.object "com/example/lucid_locks/lucidlocks/locks/LockMode") }, accessFlags := 1, code := some k6c1 }
def k6c2 : Code := { maxStack := 2, maxLocals := 6, code := prog_17_method_7_code, exceptionTable := #[], attributes := #[] }
def k6m2 : Method := { name := "covers", desc := "(Lcom/example/lucid_locks/lucidlocks/locks/LockMode;)Z", sig := { parameters := [(.object "com/example/lucid_locks/lucidlocks/locks/LockMode")], returnType := some .boolean }, accessFlags := 1, code := some k6c2 }
/-- com/example/lucid_locks/lucidlocks/locks/LockMode -/
def k6 : Class := { plain "com/example/lucid_locks/lucidlocks/locks/LockMode" (some 5) with
  accessFlags := 16433
  interfaces := #[]
  cf := some (fileOf pool6 1 #[] #[{ accessFlags := 1, nameIndex := 52, descriptorIndex := 46, attributes := #[] }, { accessFlags := 1, nameIndex := 83, descriptorIndex := 84, attributes := #[] }, { accessFlags := 1, nameIndex := 45, descriptorIndex := 46, attributes := #[] }] 16433 26 #[] #[{ accessFlags := 16409, nameIndex := 5, descriptorIndex := 6, attributes := #[] }, { accessFlags := 16409, nameIndex := 9, descriptorIndex := 6, attributes := #[] }, { accessFlags := 16409, nameIndex := 12, descriptorIndex := 6, attributes := #[] }, { accessFlags := 16409, nameIndex := 15, descriptorIndex := 6, attributes := #[] }, { accessFlags := 26, nameIndex := 49, descriptorIndex := 19, attributes := #[] }, { accessFlags := 18, nameIndex := 37, descriptorIndex := 38, attributes := #[] }, { accessFlags := 18, nameIndex := 41, descriptorIndex := 42, attributes := #[] }, { accessFlags := 4122, nameIndex := 18, descriptorIndex := 19, attributes := #[] }])
  fields := #[{ name := "READER_SHARED", type := (.object "com/example/lucid_locks/lucidlocks/locks/LockMode"), accessFlags := 16409, slot := 0, constantValue := 0 }, { name := "WRITER_SHARED", type := (.object "com/example/lucid_locks/lucidlocks/locks/LockMode"), accessFlags := 16409, slot := 1, constantValue := 0 }, { name := "EXCLUSIVE", type := (.object "com/example/lucid_locks/lucidlocks/locks/LockMode"), accessFlags := 16409, slot := 2, constantValue := 0 }, { name := "WRITER_SHARED_TIMESTAMP", type := (.object "com/example/lucid_locks/lucidlocks/locks/LockMode"), accessFlags := 16409, slot := 3, constantValue := 0 }, { name := "MODES", type := (.array (.object "com/example/lucid_locks/lucidlocks/locks/LockMode")), accessFlags := 26, slot := 4, constantValue := 0 }, { name := "displayName", type := (.object "java/lang/String"), accessFlags := 18, slot := 3, constantValue := 0 }, { name := "sharedWithItself", type := .boolean, accessFlags := 18, slot := 4, constantValue := 0 }, { name := "$VALUES", type := (.array (.object "com/example/lucid_locks/lucidlocks/locks/LockMode")), accessFlags := 4122, slot := 5, constantValue := 0 }]
  methods := #[k6m0, k6m1, k6m2]
  instanceTypes := #[(.object "java/lang/String"), .int, .int, (.object "java/lang/String"), .boolean]
  staticTypes := #[(.object "com/example/lucid_locks/lucidlocks/locks/LockMode"), (.object "com/example/lucid_locks/lucidlocks/locks/LockMode"), (.object "com/example/lucid_locks/lucidlocks/locks/LockMode"), (.object "com/example/lucid_locks/lucidlocks/locks/LockMode"), (.array (.object "com/example/lucid_locks/lucidlocks/locks/LockMode")), (.array (.object "com/example/lucid_locks/lucidlocks/locks/LockMode"))]
  resolved := Array.replicate 90 none
  statics := some 0 }

def pool7 : Array CpInfo := pool [(1, u "java/lang/Cloneable"), (0, .class_ 1), (0, u "java/lang/Object"), (0, .class_ 3)] 3

/-- java/lang/Cloneable -/
def k7 : Class := { plain "java/lang/Cloneable" (some 0) with
  accessFlags := 1537
  interfaces := #[]
  cf := some (fileOf pool7 2 #[] #[] 1537 4 #[] #[])
  fields := #[]
  methods := #[]
  instanceTypes := #[]
  staticTypes := #[]
  resolved := Array.replicate 8 none
  statics := none }

/-- the primitive byte -/
def k8 : Class := { plain "byte" none with kind := .primitive 'B', accessFlags := 0x411 }
/-- [B -/
def k9 : Class := { plain "[B" (some 0) with kind := .array 8 .byte, interfaces := #[7, 4], accessFlags := 1041 }

/-- the primitive int -/
def k10 : Class := { plain "int" none with kind := .primitive 'I', accessFlags := 0x411 }
/-- [I -/
def k11 : Class := { plain "[I" (some 0) with kind := .array 10 .int, interfaces := #[7, 4], accessFlags := 1041 }

/-- [Lcom/example/lucid_locks/lucidlocks/locks/LockMode; -/
def k12 : Class := { plain "[Lcom/example/lucid_locks/lucidlocks/locks/LockMode;" (some 0) with kind := .array 6 (.object "com/example/lucid_locks/lucidlocks/locks/LockMode"), interfaces := #[7, 4], accessFlags := 1041 }

def heap : Heap := #[{ cls := 6, slots := #[.ref 2, .ref 3, .ref 4, .ref 5, .ref 1, .null], vm := .statics 6 },
  { cls := 12, slots := #[.ref 2, .ref 3, .ref 4, .ref 5], vm := .none },
  { cls := 6, slots := #[.null, .int 0, .int 0, .null, .int 1], vm := .none },
  { cls := 6, slots := #[.null, .int 1, .int 0, .null, .int 1], vm := .none },
  { cls := 6, slots := #[.null, .int 2, .int 0, .null, .int 0], vm := .none },
  { cls := 6, slots := #[.null, .int 3, .int 0, .null, .int 0], vm := .none }]
def classes : Array Class := #[k0, k1, k2, k3, k4, k5, k6, k7, k8, k9, k10, k11, k12]
def interned : List (Array UInt16 × Addr) := []
def slotsUsed : Nat := 30
def theMethod : MethodId := ⟨1, 1⟩
def args0 : Array Value := #[.int 5, .int 7]
def aboutOver (below : List Frame) : State where
  vm := { classes := classes, interned := interned.toArray }
  heap := heap
  slotsUsed := slotsUsed
  threads := #[{ frames := .invoking theMethod args0 :: below }]
def below0 : List Frame := [.native { method := ⟨0, 0⟩, args := #[] }]
def about1 : State := aboutOver below0
def p0 : Program := .bare "" "" ""
def e0 : Env := launch0.env 0 0 0
theorem w_frames : about1.frames = Frame.invoking theMethod args0 :: below0 := rfl
set_option maxRecDepth 65536 in
theorem w_args : argsFit about1.vm theMethod args0 = true := by decide +kernel
set_option maxRecDepth 65536 in
theorem w_heap : heapFits about1 = true := by decide +kernel
set_option maxRecDepth 65536 in
theorem w_runnable : about1.curStatus? = some .runnable := by decide +kernel
set_option maxRecDepth 65536 in
theorem w_alone : about1.alone = true := by decide +kernel
set_option maxRecDepth 65536 in
theorem w_named : about1.methodNamed? x = some theMethod := by decide +kernel
set_option maxRecDepth 65536 in
theorem w_hears : about1.hears theMethod below0 = true := by decide +kernel
set_option maxRecDepth 65536 in
theorem w_ripe : about1.ripe theMethod args0 below0 = true := by decide +kernel
theorem w_running : about1.status = .running := rfl
set_option maxRecDepth 65536 in
theorem w_room : about1.hasRoom e0.platform room_1 = true :=
  launch0.hasRoom_least _ room_1 (by decide +kernel) (by decide +kernel) (by decide +kernel) (by decide +kernel) (by decide +kernel) (by decide +kernel)
theorem allAtoms_all (ts : List Jvm.Cond) (a : Array Jvm.Value) (st : Jvm.State) : (allAtoms ts).before a st = ts.all (fun c => c.before a st) := by
  induction ts with
  | nil => rfl
  | cons c t ih =>
    show (Jvm.Cond.and c (allAtoms t)).before a st = _
    rw [Jvm.Cond.before_and, ih, List.all_cons]
def words1 : List Jvm.Cond := Jvm.Cond.code x code maxLocals ret :: tables_1
/-- a 'code' word, met by the world's own term for the bytes: nothing is compared byte by byte -/
theorem code_word {y : MethodName} {bytes : ByteArray} {mx : Nat} {rt : Option FieldType} {a : Array Value} {s : State} {m : MethodId} {meth : Method} {c : Code} (h1 : s.methodNamed? y = some m) (h2 : s.vm.method? m = some meth) (h3 : meth.code = some c) (h4 : c.code = bytes)
    (h5 : (c.maxLocals == mx && c.exceptionTable.isEmpty && decide (c.maxStack ≤ mostOperands) && decide (meth.sig.returnType = rt) && !meth.locks && decide (parseMethodDescriptor y.desc = some meth.sig)) = true) : (Jvm.Cond.code y bytes mx rt).before a s = true := by
  simp only [Bool.and_eq_true, beq_iff_eq, Bool.not_eq_true', decide_eq_true_eq] at h5
  obtain ⟨⟨⟨⟨⟨g1, g2⟩, g3⟩, g4⟩, g5⟩, g6⟩ := h5
  simp [Cond.before, Cond.holds, Cond.value, h1, h2, h3, h4, g1, g2, g3, g4, g5, g6]
def isCode : Jvm.Cond → Bool
  | .code _ _ _ _ => true
  | _ => false
theorem all_split {L : List Jvm.Cond} {P : Jvm.Cond → Bool} (h1 : L.all (fun c => isCode c || P c) = true) (h2 : ∀ c ∈ L.filter isCode, P c = true) : L.all P = true := by
  refine List.all_eq_true.mpr fun c hc => ?_
  have h := List.all_eq_true.mp h1 c hc
  rcases Bool.eq_false_or_eq_true (isCode c) with hi | hi
  · exact h2 c (List.mem_filter.mpr ⟨hc, hi⟩)
  · simpa [hi] using h
set_option maxRecDepth 65536 in
theorem w_c0 : (Jvm.Cond.code x code maxLocals ret).before args0 about1 = true := code_word (m := ⟨1, 1⟩) (meth := k1m1) (c := k1c1) (by decide +kernel) rfl rfl rfl (by decide +kernel)
set_option maxRecDepth 65536 in
theorem w_c1 : (Jvm.Cond.code ({ cls := "com/example/lucid_locks/lucidlocks/locks/LockMode", name := "combinedWith", desc := "(Lcom/example/lucid_locks/lucidlocks/locks/LockMode;)Lcom/example/lucid_locks/lucidlocks/locks/LockMode;" } : Jvm.MethodName) prog_17_method_6_code (2 : Nat) (Option.some (Jvm.ClassFile.FieldType.object "com/example/lucid_locks/lucidlocks/locks/LockMode"))).before args0 about1 = true := code_word (m := ⟨6, 1⟩) (meth := k6m1) (c := k6c1) (by decide +kernel) rfl rfl rfl (by decide +kernel)
set_option maxRecDepth 65536 in
theorem w_c2 : (Jvm.Cond.code ({ cls := "com/example/lucid_locks/lucidlocks/locks/LockMode", name := "covers", desc := "(Lcom/example/lucid_locks/lucidlocks/locks/LockMode;)Z" } : Jvm.MethodName) prog_17_method_7_code (6 : Nat) (Option.some Jvm.ClassFile.FieldType.boolean)).before args0 about1 = true := code_word (m := ⟨6, 2⟩) (meth := k6m2) (c := k6c2) (by decide +kernel) rfl rfl rfl (by decide +kernel)
set_option maxRecDepth 65536 in
theorem w_c3 : (Jvm.Cond.code ({ cls := "com/example/lucid_locks/lucidlocks/locks/LockMode", name := "conflictsWith", desc := "(Lcom/example/lucid_locks/lucidlocks/locks/LockMode;)Z" } : Jvm.MethodName) prog_17_method_5_code (2 : Nat) (Option.some Jvm.ClassFile.FieldType.boolean)).before args0 about1 = true := code_word (m := ⟨6, 0⟩) (meth := k6m0) (c := k6c0) (by decide +kernel) rfl rfl rfl (by decide +kernel)
def codes1 : List Jvm.Cond := [Jvm.Cond.code x code maxLocals ret, Jvm.Cond.code ({ cls := "com/example/lucid_locks/lucidlocks/locks/LockMode", name := "combinedWith", desc := "(Lcom/example/lucid_locks/lucidlocks/locks/LockMode;)Lcom/example/lucid_locks/lucidlocks/locks/LockMode;" } : Jvm.MethodName) prog_17_method_6_code (2 : Nat) (Option.some (Jvm.ClassFile.FieldType.object "com/example/lucid_locks/lucidlocks/locks/LockMode")), Jvm.Cond.code ({ cls := "com/example/lucid_locks/lucidlocks/locks/LockMode", name := "covers", desc := "(Lcom/example/lucid_locks/lucidlocks/locks/LockMode;)Z" } : Jvm.MethodName) prog_17_method_7_code (6 : Nat) (Option.some Jvm.ClassFile.FieldType.boolean), Jvm.Cond.code ({ cls := "com/example/lucid_locks/lucidlocks/locks/LockMode", name := "conflictsWith", desc := "(Lcom/example/lucid_locks/lucidlocks/locks/LockMode;)Z" } : Jvm.MethodName) prog_17_method_5_code (2 : Nat) (Option.some Jvm.ClassFile.FieldType.boolean)]
set_option maxRecDepth 65536 in
theorem codes_eq : words1.filter isCode = codes1 := rfl
theorem w_codes : ∀ c ∈ words1.filter isCode, c.before args0 about1 = true := by
  rw [codes_eq]
  intro c hc
  simp only [codes1, List.mem_cons, List.not_mem_nil, or_false] at hc
  rcases hc with rfl | rfl | rfl | rfl
  · exact w_c0
  · exact w_c1
  · exact w_c2
  · exact w_c3
set_option maxRecDepth 65536 in
theorem w_t1 : (words1.take 24).all (fun c => isCode c || c.before args0 about1) = true := by decide +kernel
set_option maxRecDepth 65536 in
theorem w_t2 : (words1.drop 24).all (fun c => isCode c || c.before args0 about1) = true := by decide +kernel
theorem w_tables : (allAtoms (Jvm.Cond.code x code maxLocals ret :: tables_1)).before args0 about1 = true := by
  rw [allAtoms_all]
  show words1.all (fun c => c.before args0 about1) = true
  refine all_split ?_ w_codes
  rw [← List.take_append_drop 24 words1, List.all_append, w_t1, w_t2]
  rfl
set_option maxRecDepth 65536 in
theorem w_case : (Jvm.Cond.and given_1 narrow_1).before args0 about1 = true := by decide +kernel
theorem w_applies : (headSpec (Jvm.Cond.code x code maxLocals ret :: tables_1) room_1).applies x e0.platform about1 = true :=
  (Spec.applies_iff w_frames).mpr ⟨w_running, w_runnable, w_alone, w_named, w_hears, w_ripe, w_room, w_tables⟩
theorem atStart : AtStart classFile x code maxLocals ret World_1 tables_1 room_1 Calls_1 rest_1 Pre_1 launch0 p0 e0 about1 theMethod args0 below0 :=
  ⟨lists_1, trivial, launch0.admits_env _ _ _, launch0.least_env, fairChoices_fair.cas, fairChoices_fair.clock, w_frames, w_args, w_heap, w_applies, trivial, trivial, w_case⟩
end start1
theorem witness_1 : WitnessClaimed_1 := ⟨start1.p0, start1.e0, start1.about1, start1.theMethod, start1.args0, start1.below0, start1.atStart⟩
end Jvm.Pilot.@@N@@
