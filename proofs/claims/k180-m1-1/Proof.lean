import JvmDerived
import JvmDerived.Pilot.@@N@@Statement
import JvmDerived.Pilot.@@N@@Code
set_option linter.unusedVariables false
set_option linter.unusedSimpArgs false
namespace Jvm.RoadKit
open Sem ClassFile Op Lib Jvm.Stand Jvm.Free Jvm.LawKit
section New
variable {p : Program} {l : Launch} {e : Env} {R : Room} {s : State} {m : MethodId} {args : Array Value} {below : List Frame} {meth : Method} {c : Code} {T : State} {locs : List Loc} {cells slots : Nat}
theorem retI (X : Stand p l e R s m args below meth c T locs cells slots) (hx : p.tables.exec = Jvm.exec) {pc : Nat} {Ls : Array Slot} {z : Int32} {rest : List Value} (hret : meth.sig.returnType = some .int) (hd : decode c.code pc = .ok (.ireturn, 1)) {fs : List Frame}
    (hl : ∀ (f : JFrame) (acts : List Action), f.method = m → f.locked = none → f.entered = [] → (doReturn e (T.setTop f) acts (some (.int z))).1 = T.setFrames fs) : Steps p.tables e below (T.setTop (mkF m pc Ls (.int z :: rest))) (T.setFrames fs) := by
  have hm' : T.vm.method? m = some meth := X.method'
  have hn : narrow .int (.int z) = .int z := rfl
  show Steps p.tables e below (T.setTop { method := m, pc := pc, locals := Ls, stack := _ :: rest, locked := none }) _
  jvm_step X.here [X.here.top, hx, hd, hm', hret, hn]
  first | (intro acts; rw [hl _ acts rfl rfl rfl]) | rw [hl _ _ rfl rfl rfl]
  exact Steps.refl _
end New
end Jvm.RoadKit
namespace Jvm.Pilot.@@N@@
open Jvm Jvm.ClassFile Sem Op Lib Jvm.Free Jvm.Stand Jvm.LawKit Jvm.RoadKit Bundle Jvm.Pilot.@@N@@.Jvm.D
theorem tk {L : List Jvm.Cond} {d : Jvm.Cond} (i : Nat) (h : L[i]? = some d) : d ∈ L := List.mem_of_getElem? h
/-! own small facts: what the case says of a pinned static's field -/
theorem own_fld {args : Array Value} {s : State} {t : Term} {C n d : String} {w : Addr} {k : Int32} (ht : t.eval args s none [] s = some (.ref w)) (h : (Cond.eq (.field t C n d) (.int k)).value args s none s [] = some true) : Fld s s.heap w C n d (.int k) := by
  obtain ⟨x, y, hx, hy, -, kin⟩ := cmp_v (Or.inl h)
  obtain rfl : Value.int k = y := Option.some.inj hy
  obtain ⟨z, rfl⟩ := kin
  have e : z = k := by simpa [Cond.value, hx, hy] using h
  subst e
  exact Fld.start ((fld_at ht).symm.trans hx)
theorem own_fldN {args : Array Value} {s : State} {t : Term} {C n d : String} {w : Addr} (ht : t.eval args s none [] s = some (.ref w)) (h : (Cond.eq (.field t C n d) .null).value args s none s [] = some true) : Fld s s.heap w C n d .null :=
  Fld.start ((fld_at ht).symm.trans (null_v h))
theorem own_nsroot {Z : State} {a0 : Array Value} {O K : String} {n : Nat} (w : (Cond.noSuperclass O).before a0 Z = true) (wk : (Cond.instantiable K n).before a0 Z = true) (hn : O ≠ K) : NS Z O K := by
  obtain ⟨c, k, h1, h2, h3, -, -⟩ := Cond.noSuperclass_spec w
  obtain ⟨t, -, g1, -⟩ := Cond.instantiable_spec wk
  have ne := ids_ne h1 g1 hn
  refine ⟨c, t, h1, g1, fun fuel => ?_⟩
  cases fuel with
  | zero => rfl
  | succ f => simp [Vm.isSubclassAux, ne, h2, h3]
theorem own_nsno {Z : State} {a0 : Array Value} {C S K : String} {n : Nat} (w : (Cond.superclass C S).before a0 Z = true) (wk : (Cond.instantiable K n).before a0 Z = true) (ns : NS Z C K) (hn : C ≠ K) : ∃ c t, Z.vm.findClass C = some c ∧ Z.vm.findClass K = some t ∧ Z.vm.assignable c t = false := by
  obtain ⟨c, t, h0, g0, n3⟩ := ns
  obtain ⟨p, k, kp, h1, h2, h3, h4, h5, -, h7⟩ := Cond.superclass_spec h0 w
  obtain ⟨t', k', g1, g2, g3, g4, -⟩ := Cond.instantiable_spec wk
  cases g0.symm.trans g1
  have ne := ids_ne h0 g0 hn
  have g5 : k'.isInterface = false := (Bool.or_eq_false_iff.mp g4).1
  refine ⟨c, t, h0, g0, ?_⟩
  show Z.vm.assignableAux (255 + 1) c t = false
  simp [Vm.assignableAux, ne, h2, g2, h5, g3, g5, Vm.isSubclass, n3]
theorem own_nar {v : Value} {C : String} (h : v.isRef = true) : narrow (.object C) v = v := by rcases ref_cases h with rfl | ⟨a, rfl⟩ <;> rfl
theorem own_fit {v : Value} {C : String} (h : v.isRef = true) : fits (.object C) v = true := by rcases ref_cases h with rfl | ⟨a, rfl⟩ <;> rfl
theorem own_refof {v : Value} (h : v.isRef = true) (n : ¬ v = .null) : ∃ a, v = .ref a := (ref_cases h).elim (fun q => absurd q n) id
theorem own_sint {args : Array Value} {s : State} {t : Term} {k : Int32} (h : (Cond.eq t (.int k)).value args s none s [] = some true) : t.eval args s none [] s = some (.int k) := by
  obtain ⟨x, y, hx, hy, -, kin⟩ := cmp_v (Or.inl h)
  obtain rfl : Value.int k = y := Option.some.inj hy
  obtain ⟨z, rfl⟩ := kin
  have e : z = k := by simpa [Cond.value, hx, hy] using h
  subst e; exact hx
theorem own_snot {args : Array Value} {s : State} {t : Term} {k z : Int32} (ht : t.eval args s none [] s = some (.int z)) (h : (Cond.not (Cond.eq t (.int k))).value args s none s [] = some true) : ¬ z = k := by
  have := not_v h
  intro e
  subst e
  simp [Cond.value, ht, Term.eval] at this
theorem own_seq {args : Array Value} {s : State} {t u : Term} {a b : Addr} (ht : t.eval args s none [] s = some (.ref a)) (hu : u.eval args s none [] s = some (.ref b)) (h : (Cond.eq t u).value args s none s [] = some true) : b = a := by
  have e : a = b := by simpa [Cond.value, ht, hu] using h
  exact e.symm
theorem own_len {args : Array Value} {s : State} {t : Term} {a : Addr} {c : Cell} {ty : FieldType} {n : Int32} (ht : t.eval args s none [] s = some (.ref a)) (A : Arr s s.heap a c ty) (h : (Cond.eq (.length t) (.int n)).value args s none s [] = some true) : c.slots.size < 2 ^ 31 ∧ c.slots.size.toInt32 = n := by
  have e0 := own_sint h
  have hfin := A.fin (Vm.Alike.refl _)
  by_cases hl : c.slots.size < 2 ^ 31
  · rw [len_f ht hfin hl] at e0
    exact ⟨hl, Value.int.inj (Option.some.inj e0)⟩
  · exfalso
    simp [Term.eval, ht, hfin, hl] at e0
theorem own_elem {args : Array Value} {s : State} {t u : Term} {a w : Addr} {c : Cell} {i : Int32} (ht : t.eval args s none [] s = some (.ref a)) (hc : s.heap[a]? = some c) (hu : u.eval args s none [] s = some (.ref w)) (h : (Cond.eq (.elem t (.int i)) u).value args s none s [] = some true) : c.slots[i.toNatClampNeg]? = some (.ref w) := by
  obtain ⟨x, y, hx, hy, k1, k2⟩ := cmp_v (Or.inl h)
  obtain rfl : Value.ref w = y := Option.some.inj (hu.symm.trans hy)
  have e := gotT (eq_R hx hu k2.2 rfl) h
  rw [e] at hx
  exact (elem_in hx ht (Term.int_eval i) hc).2
theorem own_ldcF {p : Program} {l : Launch} {e : Env} {R : Room} {s : State} {m : MethodId} {args : Array Value} {below : List Frame} {meth : Method} {c : Code} {T : State} {locs : List Loc} {cells slots : Nat}
    (X : Stand p l e R s m args below meth c T locs cells slots) (hx : p.tables.exec = Jvm.exec) {own : String} {index : Nat} {b : UInt32} (hown : s.vm.findClass own = some m.cls) (w : (Cond.constantFloat own index b).before args s = true) {g : JFrame} (hg : g.method = m) (hd : decode c.code g.pc = .ok (.ldc index, 2)) :
    ∀ target, Steps p.tables e below (T.setTop { g with pc := g.pc + 2, stack := .float b :: g.stack }) target → Steps p.tables e below (T.setTop g) target := by
  obtain ⟨k, cf, h1, h2, h3⟩ := Cond.constantFloat_spec hown w
  exact X.ldcFloat hx h1 h2 h3 hg hd
theorem own_old {Z : State} {n0 : Nat} {h : Heap} (O : Old Z n0 h) : n0 ≤ h.size := O.1 ▸ O.2.1
theorem own_rand (x m : Int32) (n : Int) (h0 : 0 ≤ m.toInt) (h1 : m.toInt < n) : 0 ≤ (x &&& m).toInt ∧ (x &&& m).toInt < n := by
  have := c_and x m h0; omega
theorem own_rrem (x y : Int32) (n : Int) (h0 : 0 ≤ x.toInt) (hy : y.toInt = n) (hn : 0 < n) : 0 ≤ (x % y).toInt ∧ (x % y).toInt < n := by
  rw [(c_irem x y n hy).1 h0]; exact ⟨Int.emod_nonneg _ (by omega), Int.emod_lt_of_pos _ hn⟩
theorem own_rshr (x q : Int32) (k : Nat) (m : Int) {n : Int} (r : 0 ≤ x.toInt ∧ x.toInt < n) (hk : q.toBitVec.toNat % 32 = k) (hm : (n - 1) / ((2 ^ k : Nat) : Int) < m) : 0 ≤ (x >>> (q &&& 31)).toInt ∧ (x >>> (q &&& 31)).toInt < m := by
  rw [c_ishr x q k hk]
  have hp : (0 : Int) < ((2 ^ k : Nat) : Int) := by exact_mod_cast Nat.two_pow_pos k
  exact ⟨Int.ediv_nonneg r.1 (Int.le_of_lt hp), Int.lt_of_le_of_lt (Int.ediv_le_ediv hp (by omega)) hm⟩
theorem own_off {e c : Int32} {n : Int} (r : 0 ≤ e.toInt ∧ e.toInt < n) (h : decide (n ≤ c.toInt ∨ c.toInt < 0) = true) : ¬ e = c := fun z => by
  subst z
  have := of_decide_eq_true h
  omega
theorem own_below {e c : Int32} {n : Int} (r : 0 ≤ e.toInt ∧ e.toInt < n) (h : n ≤ c.toInt) : e < c := by rw [Int32.lt_iff_toInt_lt]; omega
theorem own_notbelow {e c : Int32} {n : Int} (r : 0 ≤ e.toInt ∧ e.toInt < n) (h : c.toInt ≤ 0) : ¬ e < c := by rw [Int32.lt_iff_toInt_lt]; omega
theorem own_notabove {e c : Int32} {n : Int} (r : 0 ≤ e.toInt ∧ e.toInt < n) (h : n - 1 ≤ c.toInt) : ¬ c < e := by rw [Int32.lt_iff_toInt_lt]; omega
theorem own_above {e c : Int32} {n : Int} (r : 0 ≤ e.toInt ∧ e.toInt < n) (h : c.toInt < 0) : c < e := by rw [Int32.lt_iff_toInt_lt]; omega
theorem own_lt {a b : Int32} {n : Int} (h : a < b) (e : b.toInt = n) : a.toInt < n := by rw [← e]; exact Int32.lt_iff_toInt_lt.mp h
theorem own_ne {a b : Int32} {n : Int} (h : ¬ a = b) (e : b.toInt = n) : a.toInt ≠ n := fun z => h (Int32.toInt_inj.mp (z.trans e.symm))
theorem own_eq {a b : Int32} {n : Int} (e : b.toInt = n) (h : a.toInt = n) : a = b := Int32.toInt_inj.mp (h.trans e.symm)
abbrev Y0 : MethodName := (⟨"com/example/lucid_locks/lucidlocks/locks/LockModeConflictsWithPinLaw", "mode", "(I)Lcom/example/lucid_locks/lucidlocks/locks/LockMode;"⟩ : MethodName)
abbrev Y1 : MethodName := (⟨"com/example/lucid_locks/lucidlocks/locks/LockMode", "conflictsWith", "(Lcom/example/lucid_locks/lucidlocks/locks/LockMode;)Z"⟩ : MethodName)

def StF (Z : State) (w_1 : Addr) (w_2 : Addr) (w_3 : Addr) (w_4 : Addr) : Prop :=
  Sta Z Z.heap "com/example/lucid_locks/lucidlocks/locks/LockMode" "READER_SHARED" "Lcom/example/lucid_locks/lucidlocks/locks/LockMode;" (.ref w_1) ∧
  Exa Z Z.heap w_1 "com/example/lucid_locks/lucidlocks/locks/LockMode" ∧
  Sta Z Z.heap "com/example/lucid_locks/lucidlocks/locks/LockMode" "WRITER_SHARED_TIMESTAMP" "Lcom/example/lucid_locks/lucidlocks/locks/LockMode;" (.ref w_2) ∧
  Exa Z Z.heap w_2 "com/example/lucid_locks/lucidlocks/locks/LockMode" ∧
  Sta Z Z.heap "com/example/lucid_locks/lucidlocks/locks/LockMode" "EXCLUSIVE" "Lcom/example/lucid_locks/lucidlocks/locks/LockMode;" (.ref w_3) ∧
  Exa Z Z.heap w_3 "com/example/lucid_locks/lucidlocks/locks/LockMode" ∧
  Sta Z Z.heap "com/example/lucid_locks/lucidlocks/locks/LockMode" "WRITER_SHARED" "Lcom/example/lucid_locks/lucidlocks/locks/LockMode;" (.ref w_4) ∧
  Exa Z Z.heap w_4 "com/example/lucid_locks/lucidlocks/locks/LockMode" ∧
  Fld Z Z.heap w_1 "java/lang/Enum" "ordinal" "I" (.int (0 : Int32)) ∧
  Fld Z Z.heap w_2 "java/lang/Enum" "ordinal" "I" (.int (3 : Int32)) ∧
  Fld Z Z.heap w_3 "java/lang/Enum" "ordinal" "I" (.int (2 : Int32)) ∧
  Fld Z Z.heap w_4 "java/lang/Enum" "ordinal" "I" (.int (1 : Int32)) ∧
  Fld Z Z.heap w_1 "com/example/lucid_locks/lucidlocks/locks/LockMode" "sharedWithItself" "Z" (.int (1 : Int32)) ∧
  Fld Z Z.heap w_4 "com/example/lucid_locks/lucidlocks/locks/LockMode" "sharedWithItself" "Z" (.int (1 : Int32)) ∧
  Fld Z Z.heap w_2 "com/example/lucid_locks/lucidlocks/locks/LockMode" "sharedWithItself" "Z" (.int (0 : Int32)) ∧
  Fld Z Z.heap w_3 "com/example/lucid_locks/lucidlocks/locks/LockMode" "sharedWithItself" "Z" (.int (0 : Int32))
theorem d1_0 : decode method_2_code 0 = .ok (.iload_n 0, 1) := by decide +kernel
theorem d1_1 : decode method_2_code 1 = .ok (.iconst 3, 1) := by decide +kernel
theorem d1_2 : decode method_2_code 2 = .ok (.iand, 1) := by decide +kernel
theorem d1_3 : decode method_2_code 3 = .ok (.istore_n 1, 1) := by decide +kernel
theorem d1_4 : decode method_2_code 4 = .ok (.iload_n 1, 1) := by decide +kernel
theorem d1_5 : decode method_2_code 5 = .ok (.ifCond .ne 7, 3) := by decide +kernel
theorem d1_8 : decode method_2_code 8 = .ok (.getstatic 7, 3) := by decide +kernel
theorem d1_11 : decode method_2_code 11 = .ok (.areturn, 1) := by decide +kernel
theorem d1_12 : decode method_2_code 12 = .ok (.iload_n 1, 1) := by decide +kernel
theorem d1_13 : decode method_2_code 13 = .ok (.iconst 1, 1) := by decide +kernel
theorem d1_14 : decode method_2_code 14 = .ok (.if_icmp .ne 7, 3) := by decide +kernel
theorem d1_17 : decode method_2_code 17 = .ok (.getstatic 13, 3) := by decide +kernel
theorem d1_20 : decode method_2_code 20 = .ok (.areturn, 1) := by decide +kernel
theorem d1_21 : decode method_2_code 21 = .ok (.iload_n 1, 1) := by decide +kernel
theorem d1_22 : decode method_2_code 22 = .ok (.iconst 2, 1) := by decide +kernel
theorem d1_23 : decode method_2_code 23 = .ok (.if_icmp .ne 7, 3) := by decide +kernel
theorem d1_26 : decode method_2_code 26 = .ok (.getstatic 16, 3) := by decide +kernel
theorem d1_29 : decode method_2_code 29 = .ok (.areturn, 1) := by decide +kernel
theorem d1_30 : decode method_2_code 30 = .ok (.getstatic 19, 3) := by decide +kernel
theorem d1_33 : decode method_2_code 33 = .ok (.areturn, 1) := by decide +kernel
theorem pn_1 : plainName "com/example/lucid_locks/lucidlocks/locks/LockModeConflictsWithPinLaw" = true := by first | (simp [plainName, overriddenIn]; done) | decide +kernel
theorem ef_1 (m : MethodId) (p0 : Int32) : entryFrame m #[(.int p0)] 2 = mkF m 0 #[.val (.int p0), .unset] [] := by first | (simp [entryFrame, mkF, argsToLocals, Value.category]; done) | rfl
def sp1 (w_1 : Addr) (w_2 : Addr) (w_3 : Addr) (w_4 : Addr) (p0 : Int32) : Value := (if (p0 &&& (3 : Int32)) = (0 : Int32) then (.ref w_1) else (if (p0 &&& (3 : Int32)) = (1 : Int32) then (.ref w_4) else (if (p0 &&& (3 : Int32)) = (2 : Int32) then (.ref w_3) else (.ref w_2))))
def Q1 (Z : State) (w_1 : Addr) (w_2 : Addr) (w_3 : Addr) (w_4 : Addr) (p0 : Int32) (h0 : Heap) (n0 : Nat) (v : Option Value) (h : Heap) (L : List Loc) : Prop := v = some (sp1 w_1 w_2 w_3 w_4 p0) ∧ Fr n0 L ∧ h = h0
set_option maxRecDepth 65536 in
set_option maxHeartbeats 40000000 in
theorem rm1 (l : Launch) (Z : State) (a0 : Array Value) (hw : ∀ d ∈ tables_1, d.before a0 Z = true) (ws : List Jvm.Cond) (w_1 : Addr) (w_2 : Addr) (w_3 : Addr) (w_4 : Addr) (hS : StF Z w_1 w_2 w_3 w_4) (p0 : Int32) (h0 : Heap) (n0 : Nat) (O0 : Old Z n0 h0) :
    MetFree l Y0 (head1 (Jvm.Cond.code Y0 method_2_code 2 (some (.object "com/example/lucid_locks/lucidlocks/locks/LockMode")) :: ws) ({ frames := 0, cells := 0, slots := 0, locals := 0 } : Room)) (fun a U => a = #[(.int p0)] ∧ Z.Warmed39 U.vm ∧ U.heap = h0) (fun _ _ _ _ _ => True) (fun _ U o U' => ∃ v L, o = .returned v ∧ Q1 Z w_1 w_2 w_3 w_4 p0 h0 n0 v U'.heap L ∧ FrameEnd U o U' L ({ frames := 0, cells := 0, slots := 0, locals := 0 } : Room).cells ({ frames := 0, cells := 0, slots := 0, locals := 0 } : Room).slots) := by
  refine MetFree.of_bodySF (plainFor_of_name pn_1) hisR ?_
  intro p e s m args below meth c s₁ Bd hml0 hP hK
  obtain ⟨rfl, hZ, hh⟩ := hP
  have hx := Bd.exec
  have hby := Bd.bytes
  have hml : c.maxLocals = 2 := hml0
  have hown : s.vm.findClass "com/example/lucid_locks/lucidlocks/locks/LockModeConflictsWithPinLaw" = some m.cls := findClass_of_methodNamed Bd.named
  have hnm := (name_of_methodNamed Bd.named Bd.method).1
  have X0 : Stand p l e ({ frames := 0, cells := 0, slots := 0, locals := 0 } : Room) s m #[(.int p0)] below meth c s₁ [] 0 0 := Stand.of_body Bd
  have e0 : s₁.heap = h0 := by rw [← hh, Bd.state]; rfl
  have N0 := Fr.nil n0
  have hS0 := hS
  obtain ⟨S_1, E_1, S_2, E_2, S_3, E_3, S_4, E_4, F_1_ordinal, F_2_ordinal, F_3_ordinal, F_4_ordinal, F_1_sharedWithItself, F_4_sharedWithItself, F_2_sharedWithItself, F_3_sharedWithItself⟩ := hS
  have pre0 : ∀ t, Steps p.tables e below (s₁.setTop (mkF m 0 #[.val (.int p0), .unset] [])) t → Steps p.tables e below (s₁.setTop (entryFrame m #[(.int p0)] 2)) t := fun t k => castTop (ef_1 m p0) k
  have pre29 : ∀ t, Steps p.tables e below (s₁.setTop (mkF m 5 #[.val (.int p0), .val (.int (p0 &&& (3 : Int32)))] [(.int (p0 &&& (3 : Int32)))])) t → Steps p.tables e below (s₁.setTop (entryFrame m #[(.int p0)] 2)) t := fun t kt => by
    refine pre0 t ?_
    show Steps p.tables e below (s₁.setTop (mkF m 0 #[.val (.int p0), .unset] [])) _
    refine XS.iloadN X0.here hx rfl (hb hby d1_0) rfl ?_
    show Steps p.tables e below (s₁.setTop (mkF m 1 #[.val (.int p0), .unset] [(.int p0)])) _
    refine XS.iconst X0.here hx rfl (hb hby d1_1) ?_
    show Steps p.tables e below (s₁.setTop (mkF m 2 #[.val (.int p0), .unset] [(.int (3 : Int32)), (.int p0)])) _
    refine XS.iand X0.here hx rfl (hb hby d1_2) rfl ?_
    show Steps p.tables e below (s₁.setTop (mkF m 3 #[.val (.int p0), .unset] [(.int (p0 &&& (3 : Int32)))])) _
    refine XS.istoreN X0.here hx rfl (hb hby d1_3) rfl (l' := #[.val (.int p0), .val (.int (p0 &&& (3 : Int32)))]) rfl ?_
    show Steps p.tables e below (s₁.setTop (mkF m 4 #[.val (.int p0), .val (.int (p0 &&& (3 : Int32)))] [])) _
    refine XS.iloadN X0.here hx rfl (hb hby d1_4) rfl ?_
    show Steps p.tables e below (s₁.setTop (mkF m 5 #[.val (.int p0), .val (.int (p0 &&& (3 : Int32)))] [(.int (p0 &&& (3 : Int32)))])) _
    exact kt
  by_cases hc30 : (p0 &&& (3 : Int32)) = (0 : Int32)
  · obtain ⟨T31, X31, e31, st31⟩ := getS2 X0 hx hZ hown (host := "") (Or.inl (hw _ (tk 4 rfl))) Via.refl e0 (S_1.ext O0.2) (g := (mkF m 8 #[.val (.int p0), .val (.int (p0 &&& (3 : Int32)))] [])) rfl (hb hby d1_8)
    obtain ⟨fs, hr, hrun, hended, hW, hsame⟩ := X31.leave (v := some (.ref w_1)) (fun h => by rw [Bd.returns] at h; cases h)
    refine ⟨_, _, pre29 _ ?_, hrun, hended, _, _, rfl, ?_, ⟨_, rfl⟩, hW, hsame.mono (by decide) (by decide)⟩
    · show Steps p.tables e below (s₁.setTop (mkF m 5 #[.val (.int p0), .val (.int (p0 &&& (3 : Int32)))] [(.int (p0 &&& (3 : Int32)))])) _
      refine XS.ifNo X0.here hx rfl (hb hby d1_5) rfl ((if0 _ _).trans (teq hc30).2) ?_
      show Steps p.tables e below (s₁.setTop (mkF m 8 #[.val (.int p0), .val (.int (p0 &&& (3 : Int32)))] [])) _
      refine st31 _ ?_
      show Steps p.tables e below (T31.setTop (mkF m 11 #[.val (.int p0), .val (.int (p0 &&& (3 : Int32)))] [(.ref w_1)])) _
      jvm_step X31.here [X31.here.top, hx, (hb hby d1_11), X31.method', Bd.returns, Value.isRef, FieldType.isReference]
      first | (intro acts; rw [hr _ acts rfl rfl rfl]) | rw [hr _ _ rfl rfl rfl]
      exact Steps.refl _
    · show Q1 Z w_1 w_2 w_3 w_4 p0 h0 n0 _ T31.heap _
      rw [e31]
      exact ⟨by unfold sp1; rw [if_pos hc30], N0, rfl⟩
  · have pre32 : ∀ t, Steps p.tables e below (s₁.setTop (mkF m 14 #[.val (.int p0), .val (.int (p0 &&& (3 : Int32)))] [(.int (1 : Int32)), (.int (p0 &&& (3 : Int32)))])) t → Steps p.tables e below (s₁.setTop (entryFrame m #[(.int p0)] 2)) t := fun t kt => by
      refine pre29 t ?_
      show Steps p.tables e below (s₁.setTop (mkF m 5 #[.val (.int p0), .val (.int (p0 &&& (3 : Int32)))] [(.int (p0 &&& (3 : Int32)))])) _
      refine XS.ifYes X0.here hx rfl (pc0 := 5) (pc' := 12) rfl (hb hby d1_5) rfl ((if0 _ _).trans (feq hc30).2) (by decide) (by decide) ?_
      show Steps p.tables e below (s₁.setTop (mkF m 12 #[.val (.int p0), .val (.int (p0 &&& (3 : Int32)))] [])) _
      refine XS.iloadN X0.here hx rfl (hb hby d1_12) rfl ?_
      show Steps p.tables e below (s₁.setTop (mkF m 13 #[.val (.int p0), .val (.int (p0 &&& (3 : Int32)))] [(.int (p0 &&& (3 : Int32)))])) _
      refine XS.iconst X0.here hx rfl (hb hby d1_13) ?_
      show Steps p.tables e below (s₁.setTop (mkF m 14 #[.val (.int p0), .val (.int (p0 &&& (3 : Int32)))] [(.int (1 : Int32)), (.int (p0 &&& (3 : Int32)))])) _
      exact kt
    by_cases hc33 : (p0 &&& (3 : Int32)) = (1 : Int32)
    · obtain ⟨T34, X34, e34, st34⟩ := getS2 X0 hx hZ hown (host := "") (Or.inl (hw _ (tk 16 rfl))) Via.refl e0 (S_4.ext O0.2) (g := (mkF m 17 #[.val (.int p0), .val (.int (p0 &&& (3 : Int32)))] [])) rfl (hb hby d1_17)
      obtain ⟨fs, hr, hrun, hended, hW, hsame⟩ := X34.leave (v := some (.ref w_4)) (fun h => by rw [Bd.returns] at h; cases h)
      refine ⟨_, _, pre32 _ ?_, hrun, hended, _, _, rfl, ?_, ⟨_, rfl⟩, hW, hsame.mono (by decide) (by decide)⟩
      · show Steps p.tables e below (s₁.setTop (mkF m 14 #[.val (.int p0), .val (.int (p0 &&& (3 : Int32)))] [(.int (1 : Int32)), (.int (p0 &&& (3 : Int32)))])) _
        refine XS.icmpNo X0.here hx rfl (hb hby d1_14) rfl (teq hc33).2 ?_
        show Steps p.tables e below (s₁.setTop (mkF m 17 #[.val (.int p0), .val (.int (p0 &&& (3 : Int32)))] [])) _
        refine st34 _ ?_
        show Steps p.tables e below (T34.setTop (mkF m 20 #[.val (.int p0), .val (.int (p0 &&& (3 : Int32)))] [(.ref w_4)])) _
        jvm_step X34.here [X34.here.top, hx, (hb hby d1_20), X34.method', Bd.returns, Value.isRef, FieldType.isReference]
        first | (intro acts; rw [hr _ acts rfl rfl rfl]) | rw [hr _ _ rfl rfl rfl]
        exact Steps.refl _
      · show Q1 Z w_1 w_2 w_3 w_4 p0 h0 n0 _ T34.heap _
        rw [e34]
        exact ⟨by unfold sp1; rw [if_neg hc30, if_pos hc33], N0, rfl⟩
    · have pre35 : ∀ t, Steps p.tables e below (s₁.setTop (mkF m 23 #[.val (.int p0), .val (.int (p0 &&& (3 : Int32)))] [(.int (2 : Int32)), (.int (p0 &&& (3 : Int32)))])) t → Steps p.tables e below (s₁.setTop (entryFrame m #[(.int p0)] 2)) t := fun t kt => by
        refine pre32 t ?_
        show Steps p.tables e below (s₁.setTop (mkF m 14 #[.val (.int p0), .val (.int (p0 &&& (3 : Int32)))] [(.int (1 : Int32)), (.int (p0 &&& (3 : Int32)))])) _
        refine XS.icmpYes X0.here hx rfl (pc0 := 14) (pc' := 21) rfl (hb hby d1_14) rfl (feq hc33).2 (by decide) (by decide) ?_
        show Steps p.tables e below (s₁.setTop (mkF m 21 #[.val (.int p0), .val (.int (p0 &&& (3 : Int32)))] [])) _
        refine XS.iloadN X0.here hx rfl (hb hby d1_21) rfl ?_
        show Steps p.tables e below (s₁.setTop (mkF m 22 #[.val (.int p0), .val (.int (p0 &&& (3 : Int32)))] [(.int (p0 &&& (3 : Int32)))])) _
        refine XS.iconst X0.here hx rfl (hb hby d1_22) ?_
        show Steps p.tables e below (s₁.setTop (mkF m 23 #[.val (.int p0), .val (.int (p0 &&& (3 : Int32)))] [(.int (2 : Int32)), (.int (p0 &&& (3 : Int32)))])) _
        exact kt
      by_cases hc36 : (p0 &&& (3 : Int32)) = (2 : Int32)
      · obtain ⟨T37, X37, e37, st37⟩ := getS2 X0 hx hZ hown (host := "") (Or.inl (hw _ (tk 14 rfl))) Via.refl e0 (S_3.ext O0.2) (g := (mkF m 26 #[.val (.int p0), .val (.int (p0 &&& (3 : Int32)))] [])) rfl (hb hby d1_26)
        obtain ⟨fs, hr, hrun, hended, hW, hsame⟩ := X37.leave (v := some (.ref w_3)) (fun h => by rw [Bd.returns] at h; cases h)
        refine ⟨_, _, pre35 _ ?_, hrun, hended, _, _, rfl, ?_, ⟨_, rfl⟩, hW, hsame.mono (by decide) (by decide)⟩
        · show Steps p.tables e below (s₁.setTop (mkF m 23 #[.val (.int p0), .val (.int (p0 &&& (3 : Int32)))] [(.int (2 : Int32)), (.int (p0 &&& (3 : Int32)))])) _
          refine XS.icmpNo X0.here hx rfl (hb hby d1_23) rfl (teq hc36).2 ?_
          show Steps p.tables e below (s₁.setTop (mkF m 26 #[.val (.int p0), .val (.int (p0 &&& (3 : Int32)))] [])) _
          refine st37 _ ?_
          show Steps p.tables e below (T37.setTop (mkF m 29 #[.val (.int p0), .val (.int (p0 &&& (3 : Int32)))] [(.ref w_3)])) _
          jvm_step X37.here [X37.here.top, hx, (hb hby d1_29), X37.method', Bd.returns, Value.isRef, FieldType.isReference]
          first | (intro acts; rw [hr _ acts rfl rfl rfl]) | rw [hr _ _ rfl rfl rfl]
          exact Steps.refl _
        · show Q1 Z w_1 w_2 w_3 w_4 p0 h0 n0 _ T37.heap _
          rw [e37]
          exact ⟨by unfold sp1; rw [if_neg hc30, if_neg hc33, if_pos hc36], N0, rfl⟩
      · obtain ⟨T38, X38, e38, st38⟩ := getS2 X0 hx hZ hown (host := "") (Or.inl (hw _ (tk 7 rfl))) Via.refl e0 (S_2.ext O0.2) (g := (mkF m 30 #[.val (.int p0), .val (.int (p0 &&& (3 : Int32)))] [])) rfl (hb hby d1_30)
        obtain ⟨fs, hr, hrun, hended, hW, hsame⟩ := X38.leave (v := some (.ref w_2)) (fun h => by rw [Bd.returns] at h; cases h)
        refine ⟨_, _, pre35 _ ?_, hrun, hended, _, _, rfl, ?_, ⟨_, rfl⟩, hW, hsame.mono (by decide) (by decide)⟩
        · show Steps p.tables e below (s₁.setTop (mkF m 23 #[.val (.int p0), .val (.int (p0 &&& (3 : Int32)))] [(.int (2 : Int32)), (.int (p0 &&& (3 : Int32)))])) _
          refine XS.icmpYes X0.here hx rfl (pc0 := 23) (pc' := 30) rfl (hb hby d1_23) rfl (feq hc36).2 (by decide) (by decide) ?_
          show Steps p.tables e below (s₁.setTop (mkF m 30 #[.val (.int p0), .val (.int (p0 &&& (3 : Int32)))] [])) _
          refine st38 _ ?_
          show Steps p.tables e below (T38.setTop (mkF m 33 #[.val (.int p0), .val (.int (p0 &&& (3 : Int32)))] [(.ref w_2)])) _
          jvm_step X38.here [X38.here.top, hx, (hb hby d1_33), X38.method', Bd.returns, Value.isRef, FieldType.isReference]
          first | (intro acts; rw [hr _ acts rfl rfl rfl]) | rw [hr _ _ rfl rfl rfl]
          exact Steps.refl _
        · show Q1 Z w_1 w_2 w_3 w_4 p0 h0 n0 _ T38.heap _
          rw [e38]
          exact ⟨by unfold sp1; rw [if_neg hc30, if_neg hc33, if_neg hc36], N0, rfl⟩
theorem d2_0 : decode prog_17_method_5_code 0 = .ok (.aload_n 0, 1) := by decide +kernel
theorem d2_1 : decode prog_17_method_5_code 1 = .ok (.aload_n 1, 1) := by decide +kernel
theorem d2_2 : decode prog_17_method_5_code 2 = .ok (.if_acmp .ne 10, 3) := by decide +kernel
theorem d2_5 : decode prog_17_method_5_code 5 = .ok (.aload_n 0, 1) := by decide +kernel
theorem d2_6 : decode prog_17_method_5_code 6 = .ok (.getfield 39, 3) := by decide +kernel
theorem d2_9 : decode prog_17_method_5_code 9 = .ok (.ifCond .ne 7, 3) := by decide +kernel
theorem d2_12 : decode prog_17_method_5_code 12 = .ok (.iconst 1, 1) := by decide +kernel
theorem d2_13 : decode prog_17_method_5_code 13 = .ok (.goto 4, 3) := by decide +kernel
theorem d2_17 : decode prog_17_method_5_code 17 = .ok (.ireturn, 1) := by decide +kernel
theorem d2_16 : decode prog_17_method_5_code 16 = .ok (.iconst 0, 1) := by decide +kernel
theorem pn_2 : plainName "com/example/lucid_locks/lucidlocks/locks/LockMode" = true := by first | (simp [plainName, overriddenIn]; done) | decide +kernel
theorem ef_2 (m : MethodId) (r0 : Addr) (r1 : Addr) : entryFrame m #[(.ref r0), (.ref r1)] 2 = mkF m 0 #[.val (.ref r0), .val (.ref r1)] [] := by first | (simp [entryFrame, mkF, argsToLocals, Value.category]; done) | rfl
def sp2 (r0 : Addr) (r1 : Addr) (f_sharedWithItself_r0 : Int32) : Int32 := (if r0 = r1 then (if f_sharedWithItself_r0 = (0 : Int32) then (1 : Int32) else (0 : Int32)) else (1 : Int32))
def Q2 (Z : State) (w_1 : Addr) (w_2 : Addr) (w_3 : Addr) (w_4 : Addr) (r0 : Addr) (r1 : Addr) (f_sharedWithItself_r0 : Int32) (h0 : Heap) (n0 : Nat) (v : Option Value) (h : Heap) (L : List Loc) : Prop := v = some (.int (sp2 r0 r1 f_sharedWithItself_r0)) ∧ Fr n0 L ∧ h = h0
set_option maxRecDepth 65536 in
set_option maxHeartbeats 40000000 in
theorem rm2 (l : Launch) (Z : State) (a0 : Array Value) (hw : ∀ d ∈ tables_1, d.before a0 Z = true) (ws : List Jvm.Cond) (w_1 : Addr) (w_2 : Addr) (w_3 : Addr) (w_4 : Addr) (hS : StF Z w_1 w_2 w_3 w_4) (r0 : Addr) (r1 : Addr) (f_sharedWithItself_r0 : Int32) (h0 : Heap) (n0 : Nat) (O0 : Old Z n0 h0) (F_sharedWithItself_r0 : Fld Z h0 r0 "com/example/lucid_locks/lucidlocks/locks/LockMode" "sharedWithItself" "Z" (.int f_sharedWithItself_r0)) :
    MetFree l Y1 (head1 (Jvm.Cond.code Y1 prog_17_method_5_code 2 (some .boolean) :: ws) ({ frames := 0, cells := 0, slots := 0, locals := 0 } : Room)) (fun a U => a = #[(.ref r0), (.ref r1)] ∧ Z.Warmed39 U.vm ∧ U.heap = h0) (fun _ _ _ _ _ => True) (fun _ U o U' => ∃ v L, o = .returned v ∧ Q2 Z w_1 w_2 w_3 w_4 r0 r1 f_sharedWithItself_r0 h0 n0 v U'.heap L ∧ FrameEnd U o U' L ({ frames := 0, cells := 0, slots := 0, locals := 0 } : Room).cells ({ frames := 0, cells := 0, slots := 0, locals := 0 } : Room).slots) := by
  refine MetFree.of_bodySF (plainFor_of_name pn_2) hisR ?_
  intro p e s m args below meth c s₁ Bd hml0 hP hK
  obtain ⟨rfl, hZ, hh⟩ := hP
  have hx := Bd.exec
  have hby := Bd.bytes
  have hml : c.maxLocals = 2 := hml0
  have hown : s.vm.findClass "com/example/lucid_locks/lucidlocks/locks/LockMode" = some m.cls := findClass_of_methodNamed Bd.named
  have hnm := (name_of_methodNamed Bd.named Bd.method).1
  have X0 : Stand p l e ({ frames := 0, cells := 0, slots := 0, locals := 0 } : Room) s m #[(.ref r0), (.ref r1)] below meth c s₁ [] 0 0 := Stand.of_body Bd
  have e0 : s₁.heap = h0 := by rw [← hh, Bd.state]; rfl
  have N0 := Fr.nil n0
  have hS0 := hS
  obtain ⟨S_1, E_1, S_2, E_2, S_3, E_3, S_4, E_4, F_1_ordinal, F_2_ordinal, F_3_ordinal, F_4_ordinal, F_1_sharedWithItself, F_4_sharedWithItself, F_2_sharedWithItself, F_3_sharedWithItself⟩ := hS
  have pre0 : ∀ t, Steps p.tables e below (s₁.setTop (mkF m 0 #[.val (.ref r0), .val (.ref r1)] [])) t → Steps p.tables e below (s₁.setTop (entryFrame m #[(.ref r0), (.ref r1)] 2)) t := fun t k => castTop (ef_2 m r0 r1) k
  have pre41 : ∀ t, Steps p.tables e below (s₁.setTop (mkF m 2 #[.val (.ref r0), .val (.ref r1)] [(.ref r1), (.ref r0)])) t → Steps p.tables e below (s₁.setTop (entryFrame m #[(.ref r0), (.ref r1)] 2)) t := fun t kt => by
    refine pre0 t ?_
    show Steps p.tables e below (s₁.setTop (mkF m 0 #[.val (.ref r0), .val (.ref r1)] [])) _
    refine XS.aloadN X0.here hx rfl (hb hby d2_0) rfl rfl ?_
    show Steps p.tables e below (s₁.setTop (mkF m 1 #[.val (.ref r0), .val (.ref r1)] [(.ref r0)])) _
    refine XS.aloadN X0.here hx rfl (hb hby d2_1) rfl rfl ?_
    show Steps p.tables e below (s₁.setTop (mkF m 2 #[.val (.ref r0), .val (.ref r1)] [(.ref r1), (.ref r0)])) _
    exact kt
  by_cases hc42 : r0 = r1
  · obtain ⟨T43, X43, e43, st43⟩ := getF X0 hx hZ hown (host := "") (Or.inl (hw _ (tk 18 rfl))) Via.refl e0 F_sharedWithItself_r0 (g := (mkF m 6 #[.val (.ref r0), .val (.ref r1)] [(.ref r0)])) rfl rfl (hb hby d2_6)
    have pre44 : ∀ t, Steps p.tables e below (T43.setTop (mkF m 9 #[.val (.ref r0), .val (.ref r1)] [(.int f_sharedWithItself_r0)])) t → Steps p.tables e below (s₁.setTop (entryFrame m #[(.ref r0), (.ref r1)] 2)) t := fun t kt => by
      refine pre41 t ?_
      show Steps p.tables e below (s₁.setTop (mkF m 2 #[.val (.ref r0), .val (.ref r1)] [(.ref r1), (.ref r0)])) _
      refine Jvm.RoadKit.acmp (g := (mkF m 2 #[.val (.ref r0), .val (.ref r1)] [(.ref r1), (.ref r0)])) X0 hx rfl rfl rfl (pc0 := 2) (pc' := 5) (same := true) rfl (hb hby d2_2) rfl (decide_eq_true (congrArg Value.ref hc42)) (by decide) (by decide) ?_
      show Steps p.tables e below (s₁.setTop (mkF m 5 #[.val (.ref r0), .val (.ref r1)] [])) _
      refine XS.aloadN X0.here hx rfl (hb hby d2_5) rfl rfl ?_
      show Steps p.tables e below (s₁.setTop (mkF m 6 #[.val (.ref r0), .val (.ref r1)] [(.ref r0)])) _
      refine st43 _ ?_
      show Steps p.tables e below (T43.setTop (mkF m 9 #[.val (.ref r0), .val (.ref r1)] [(.int f_sharedWithItself_r0)])) _
      exact kt
    by_cases hc45 : f_sharedWithItself_r0 = (0 : Int32)
    · obtain ⟨fs, hr, hrun, hended, hW, hsame⟩ := X43.leave (v := some (.int (1 : Int32))) (fun h => by rw [Bd.returns] at h; cases h)
      refine ⟨_, _, pre44 _ ?_, hrun, hended, _, _, rfl, ?_, ⟨_, rfl⟩, hW, hsame.mono (by decide) (by decide)⟩
      · show Steps p.tables e below (T43.setTop (mkF m 9 #[.val (.ref r0), .val (.ref r1)] [(.int f_sharedWithItself_r0)])) _
        refine XS.ifNo X43.here hx rfl (hb hby d2_9) rfl ((if0 _ _).trans (teq hc45).2) ?_
        show Steps p.tables e below (T43.setTop (mkF m 12 #[.val (.ref r0), .val (.ref r1)] [])) _
        refine XS.iconst X43.here hx rfl (hb hby d2_12) ?_
        show Steps p.tables e below (T43.setTop (mkF m 13 #[.val (.ref r0), .val (.ref r1)] [(.int (1 : Int32))])) _
        refine XS.goto X43.here hx rfl (pc0 := 13) (pc' := 17) rfl (hb hby d2_13) (by decide) (by decide) ?_
        show Steps p.tables e below (T43.setTop (mkF m 17 #[.val (.ref r0), .val (.ref r1)] [(.int (1 : Int32))])) _
        exact retN X43 hx (t := .boolean) Bd.returns (by simp) (hb hby d2_17) hr
      · show Q2 Z w_1 w_2 w_3 w_4 r0 r1 f_sharedWithItself_r0 h0 n0 _ T43.heap _
        rw [e43]
        exact ⟨by unfold sp2; rw [if_pos hc42, if_pos hc45], N0, rfl⟩
    · obtain ⟨fs, hr, hrun, hended, hW, hsame⟩ := X43.leave (v := some (.int (0 : Int32))) (fun h => by rw [Bd.returns] at h; cases h)
      refine ⟨_, _, pre44 _ ?_, hrun, hended, _, _, rfl, ?_, ⟨_, rfl⟩, hW, hsame.mono (by decide) (by decide)⟩
      · show Steps p.tables e below (T43.setTop (mkF m 9 #[.val (.ref r0), .val (.ref r1)] [(.int f_sharedWithItself_r0)])) _
        refine XS.ifYes X43.here hx rfl (pc0 := 9) (pc' := 16) rfl (hb hby d2_9) rfl ((if0 _ _).trans (feq hc45).2) (by decide) (by decide) ?_
        show Steps p.tables e below (T43.setTop (mkF m 16 #[.val (.ref r0), .val (.ref r1)] [])) _
        refine XS.iconst X43.here hx rfl (hb hby d2_16) ?_
        show Steps p.tables e below (T43.setTop (mkF m 17 #[.val (.ref r0), .val (.ref r1)] [(.int (0 : Int32))])) _
        exact retN X43 hx (t := .boolean) Bd.returns (by simp) (hb hby d2_17) hr
      · show Q2 Z w_1 w_2 w_3 w_4 r0 r1 f_sharedWithItself_r0 h0 n0 _ T43.heap _
        rw [e43]
        exact ⟨by unfold sp2; rw [if_pos hc42, if_neg hc45], N0, rfl⟩
  · obtain ⟨fs, hr, hrun, hended, hW, hsame⟩ := X0.leave (v := some (.int (1 : Int32))) (fun h => by rw [Bd.returns] at h; cases h)
    refine ⟨_, _, pre41 _ ?_, hrun, hended, _, _, rfl, ?_, ⟨_, rfl⟩, hW, hsame.mono (by decide) (by decide)⟩
    · show Steps p.tables e below (s₁.setTop (mkF m 2 #[.val (.ref r0), .val (.ref r1)] [(.ref r1), (.ref r0)])) _
      refine Jvm.RoadKit.acmp (g := (mkF m 2 #[.val (.ref r0), .val (.ref r1)] [(.ref r1), (.ref r0)])) X0 hx rfl rfl rfl (pc0 := 2) (pc' := 12) (same := false) rfl (hb hby d2_2) rfl (decide_eq_false fun q => hc42 (Value.ref.inj q)) (by decide) (by decide) ?_
      show Steps p.tables e below (s₁.setTop (mkF m 12 #[.val (.ref r0), .val (.ref r1)] [])) _
      refine XS.iconst X0.here hx rfl (hb hby d2_12) ?_
      show Steps p.tables e below (s₁.setTop (mkF m 13 #[.val (.ref r0), .val (.ref r1)] [(.int (1 : Int32))])) _
      refine XS.goto X0.here hx rfl (pc0 := 13) (pc' := 17) rfl (hb hby d2_13) (by decide) (by decide) ?_
      show Steps p.tables e below (s₁.setTop (mkF m 17 #[.val (.ref r0), .val (.ref r1)] [(.int (1 : Int32))])) _
      exact retN X0 hx (t := .boolean) Bd.returns (by simp) (hb hby d2_17) hr
    · show Q2 Z w_1 w_2 w_3 w_4 r0 r1 f_sharedWithItself_r0 h0 n0 _ s₁.heap _
      rw [e0]
      exact ⟨by unfold sp2; rw [if_neg hc42], N0, rfl⟩
theorem pd_0 : parseMethodDescriptor "(I)Lcom/example/lucid_locks/lucidlocks/locks/LockMode;" = some ⟨[.int], some (.object "com/example/lucid_locks/lucidlocks/locks/LockMode")⟩ := by decide +kernel
theorem pd_1 : parseMethodDescriptor "(Lcom/example/lucid_locks/lucidlocks/locks/LockMode;)Z" = some ⟨[(.object "com/example/lucid_locks/lucidlocks/locks/LockMode")], some .boolean⟩ := by decide +kernel
theorem pn_0 : plainName "com/example/lucid_locks/lucidlocks/locks/LockModeConflictsWithPinLaw" = true := by first | (simp [plainName, overriddenIn]; done) | decide +kernel
theorem ef_0 (m : MethodId) (p0 : Int32) (p1 : Int32) : entryFrame m #[(.int p0), (.int p1)] maxLocals = mkF m 0 #[.val (.int p0), .val (.int p1), .unset, .unset, .unset, .unset, .unset] [] := by first | (simp [entryFrame, mkF, argsToLocals, Value.category, maxLocals]; done) | rfl
def sp0 (p0 : Int32) (p1 : Int32) : Int32 := (if (p0 &&& (3 : Int32)) = (0 : Int32) then (if (p1 &&& (3 : Int32)) = (0 : Int32) then (1 : Int32) else (if (p1 &&& (3 : Int32)) = (1 : Int32) then (1 : Int32) else (if (p1 &&& (3 : Int32)) = (2 : Int32) then (1 : Int32) else (1 : Int32)))) else (if (p0 &&& (3 : Int32)) = (1 : Int32) then (if (p1 &&& (3 : Int32)) = (0 : Int32) then (1 : Int32) else (if (p1 &&& (3 : Int32)) = (1 : Int32) then (1 : Int32) else (if (p1 &&& (3 : Int32)) = (2 : Int32) then (1 : Int32) else (1 : Int32)))) else (if (p0 &&& (3 : Int32)) = (2 : Int32) then (if (p1 &&& (3 : Int32)) = (0 : Int32) then (1 : Int32) else (if (p1 &&& (3 : Int32)) = (1 : Int32) then (1 : Int32) else (if (p1 &&& (3 : Int32)) = (2 : Int32) then (1 : Int32) else (1 : Int32)))) else (if (p1 &&& (3 : Int32)) = (0 : Int32) then (1 : Int32) else (if (p1 &&& (3 : Int32)) = (1 : Int32) then (1 : Int32) else (if (p1 &&& (3 : Int32)) = (2 : Int32) then (1 : Int32) else (1 : Int32)))))))
def Q0 (Z : State) (w_1 : Addr) (w_2 : Addr) (w_3 : Addr) (w_4 : Addr) (p0 : Int32) (p1 : Int32) (h0 : Heap) (n0 : Nat) (v : Option Value) (h : Heap) (L : List Loc) : Prop := v = some (.int (sp0 p0 p1)) ∧ Fr n0 L ∧ h = h0
set_option maxRecDepth 65536 in
set_option maxHeartbeats 40000000 in
theorem rm0 (l : Launch) (Z : State) (a0 : Array Value) (hw : ∀ d ∈ tables_1, d.before a0 Z = true) (ws : List Jvm.Cond) (w_1 : Addr) (w_2 : Addr) (w_3 : Addr) (w_4 : Addr) (hS : StF Z w_1 w_2 w_3 w_4) (p0 : Int32) (p1 : Int32) (h0 : Heap) (n0 : Nat) (O0 : Old Z n0 h0) :
    MetFree l x (head1 (Jvm.Cond.code x code maxLocals ret :: ws) room_1) (fun a U => a = #[(.int p0), (.int p1)] ∧ Z.Warmed39 U.vm ∧ U.heap = h0) (fun _ _ _ _ _ => True) (fun _ U o U' => ∃ v L, o = .returned v ∧ Q0 Z w_1 w_2 w_3 w_4 p0 p1 h0 n0 v U'.heap L ∧ FrameEnd U o U' L room_1.cells room_1.slots) := by
  refine MetFree.of_bodySF (plainFor_of_name pn_0) hisR ?_
  intro p e s m args below meth c s₁ Bd hml0 hP hK
  obtain ⟨rfl, hZ, hh⟩ := hP
  have hx := Bd.exec
  have hby := Bd.bytes
  have hml : c.maxLocals = 7 := hml0
  have hown : s.vm.findClass "com/example/lucid_locks/lucidlocks/locks/LockModeConflictsWithPinLaw" = some m.cls := findClass_of_methodNamed Bd.named
  have hnm := (name_of_methodNamed Bd.named Bd.method).1
  have X0 : Stand p l e room_1 s m #[(.int p0), (.int p1)] below meth c s₁ [] 0 0 := Stand.of_body Bd
  have e0 : s₁.heap = h0 := by rw [← hh, Bd.state]; rfl
  have N0 := Fr.nil n0
  have hS0 := hS
  obtain ⟨S_1, E_1, S_2, E_2, S_3, E_3, S_4, E_4, F_1_ordinal, F_2_ordinal, F_3_ordinal, F_4_ordinal, F_1_sharedWithItself, F_4_sharedWithItself, F_2_sharedWithItself, F_3_sharedWithItself⟩ := hS
  have pre0 : ∀ t, Steps p.tables e below (s₁.setTop (mkF m 0 #[.val (.int p0), .val (.int p1), .unset, .unset, .unset, .unset, .unset] [])) t → Steps p.tables e below (s₁.setTop (entryFrame m #[(.int p0), (.int p1)] maxLocals)) t := fun t k => castTop (ef_0 m p0 p1) k
  by_cases hc23 : (p0 &&& (3 : Int32)) = (0 : Int32)
  · by_cases hc24 : (p1 &&& (3 : Int32)) = (0 : Int32)
    · have pre25 : ∀ t, Steps p.tables e below (s₁.setTop (mkF m 3 #[.val (.int p0), .val (.int p1), .unset, .unset, .unset, .unset, .unset] [(.int (p0 &&& (3 : Int32)))])) t → Steps p.tables e below (s₁.setTop (entryFrame m #[(.int p0), (.int p1)] maxLocals)) t := fun t kt => by
        refine pre0 t ?_
        show Steps p.tables e below (s₁.setTop (mkF m 0 #[.val (.int p0), .val (.int p1), .unset, .unset, .unset, .unset, .unset] [])) _
        refine XS.iloadN X0.here hx rfl (hb hby at_0) rfl ?_
        show Steps p.tables e below (s₁.setTop (mkF m 1 #[.val (.int p0), .val (.int p1), .unset, .unset, .unset, .unset, .unset] [(.int p0)])) _
        refine XS.iconst X0.here hx rfl (hb hby at_1) ?_
        show Steps p.tables e below (s₁.setTop (mkF m 2 #[.val (.int p0), .val (.int p1), .unset, .unset, .unset, .unset, .unset] [(.int (3 : Int32)), (.int p0)])) _
        refine XS.iand X0.here hx rfl (hb hby at_2) rfl ?_
        show Steps p.tables e below (s₁.setTop (mkF m 3 #[.val (.int p0), .val (.int p1), .unset, .unset, .unset, .unset, .unset] [(.int (p0 &&& (3 : Int32)))])) _
        exact kt
      have pre26 : ∀ t, Steps p.tables e below (s₁.setTop (mkF m 3 #[.val (.int p0), .val (.int p1), .unset, .unset, .unset, .unset, .unset] [(.int (0 : Int32))])) t → Steps p.tables e below (s₁.setTop (entryFrame m #[(.int p0), (.int p1)] maxLocals)) t := fun t kt => pre25 t (by rw [(by rw [hc23] <;> decide : (p0 &&& (3 : Int32)) = (0 : Int32))]; exact kt)
      have pre27 : ∀ t, Steps p.tables e below (s₁.setTop (mkF m 7 #[.val (.int p0), .val (.int p1), .val (.int (0 : Int32)), .unset, .unset, .unset, .unset] [(.int (p1 &&& (3 : Int32)))])) t → Steps p.tables e below (s₁.setTop (entryFrame m #[(.int p0), (.int p1)] maxLocals)) t := fun t kt => by
        refine pre26 t ?_
        show Steps p.tables e below (s₁.setTop (mkF m 3 #[.val (.int p0), .val (.int p1), .unset, .unset, .unset, .unset, .unset] [(.int (0 : Int32))])) _
        refine XS.istoreN X0.here hx rfl (hb hby at_3) rfl (l' := #[.val (.int p0), .val (.int p1), .val (.int (0 : Int32)), .unset, .unset, .unset, .unset]) rfl ?_
        show Steps p.tables e below (s₁.setTop (mkF m 4 #[.val (.int p0), .val (.int p1), .val (.int (0 : Int32)), .unset, .unset, .unset, .unset] [])) _
        refine XS.iloadN X0.here hx rfl (hb hby at_4) rfl ?_
        show Steps p.tables e below (s₁.setTop (mkF m 5 #[.val (.int p0), .val (.int p1), .val (.int (0 : Int32)), .unset, .unset, .unset, .unset] [(.int p1)])) _
        refine XS.iconst X0.here hx rfl (hb hby at_5) ?_
        show Steps p.tables e below (s₁.setTop (mkF m 6 #[.val (.int p0), .val (.int p1), .val (.int (0 : Int32)), .unset, .unset, .unset, .unset] [(.int (3 : Int32)), (.int p1)])) _
        refine XS.iand X0.here hx rfl (hb hby at_6) rfl ?_
        show Steps p.tables e below (s₁.setTop (mkF m 7 #[.val (.int p0), .val (.int p1), .val (.int (0 : Int32)), .unset, .unset, .unset, .unset] [(.int (p1 &&& (3 : Int32)))])) _
        exact kt
      have pre28 : ∀ t, Steps p.tables e below (s₁.setTop (mkF m 7 #[.val (.int p0), .val (.int p1), .val (.int (0 : Int32)), .unset, .unset, .unset, .unset] [(.int (0 : Int32))])) t → Steps p.tables e below (s₁.setTop (entryFrame m #[(.int p0), (.int p1)] maxLocals)) t := fun t kt => pre27 t (by rw [(by rw [hc24] <;> decide : (p1 &&& (3 : Int32)) = (0 : Int32))]; exact kt)
      obtain ⟨_, _, ⟨T39, L39, k39, n39⟩, -, X39, ⟨Lc39, hQ39, l39, y39, z39⟩, st39⟩ := Jvm.LawKit.callS X0 hx (y := Y0) hown (mvT hZ (hw _ (tk 0 rfl))) (mvT hZ (hw _ (tk 1 rfl))) (mvT hZ (hw _ (tk 2 rfl))) (mvT hZ (hw _ (tk 3 rfl))) (by decide) (backOf (W := 0) (rm1 l Z a0 hw [] w_1 w_2 w_3 w_4 hS0 (0 : Int32) h0 n0 O0) hZ (hw _ (tk 3 rfl)) (hw _ (tk 2 rfl)) (by decide) (by decide)) (g := (mkF m 9 #[.val (.int p0), .val (.int p1), .val (.int (0 : Int32)), .val (.int (0 : Int32)), .unset, .unset, .unset] [(.int (0 : Int32))])) rfl (by rw [hml]; rfl) (argsL := [(.int (0 : Int32))]) (rest := []) (lenOf pd_0 rfl) rfl (by show 2 * 0 + _ ≤ _; exact Nat.le_of_eq rfl) (hb hby at_9) (fun _ _ => ⟨rfl, e0, (by decide : 0 + 0 ≤ _), (by decide : 0 + 0 ≤ _)⟩)
      dsimp only [Pt.U, Pt.locs, Pt.cells, Pt.slots] at X39 l39 y39 z39 st39 hQ39
      subst l39 y39 z39
      obtain ⟨rv39, N39q, e39⟩ := hQ39
      rw [show sp1 w_1 w_2 w_3 w_4 (0 : Int32) = (.ref w_1) from by unfold sp1; rw [if_pos (by decide : (((0 : Int32) &&& (3 : Int32)) = (0 : Int32)))]] at rv39
      subst rv39
      have N39 := Fr.app N0 N39q
      obtain ⟨_, _, ⟨T40, L40, k40, n40⟩, -, X40, ⟨Lc40, hQ40, l40, y40, z40⟩, st40⟩ := Jvm.LawKit.callS X39 hx (y := Y0) hown (mvT hZ (hw _ (tk 0 rfl))) (mvT hZ (hw _ (tk 1 rfl))) (mvT hZ (hw _ (tk 2 rfl))) (mvT hZ (hw _ (tk 3 rfl))) (by decide) (backOf (W := 0) (rm1 l Z a0 hw [] w_1 w_2 w_3 w_4 hS0 (0 : Int32) h0 n0 O0) hZ (hw _ (tk 3 rfl)) (hw _ (tk 2 rfl)) (by decide) (by decide)) (g := (mkF m 15 #[.val (.int p0), .val (.int p1), .val (.int (0 : Int32)), .val (.int (0 : Int32)), .val (.ref w_1), .unset, .unset] [(.int (0 : Int32))])) rfl (by rw [hml]; rfl) (argsL := [(.int (0 : Int32))]) (rest := []) (lenOf pd_0 rfl) rfl (by show 2 * 0 + _ ≤ _; exact Nat.le_of_eq rfl) (hb hby at_15) (fun _ _ => ⟨rfl, e39, (by decide : 0 + 0 ≤ _), (by decide : 0 + 0 ≤ _)⟩)
      dsimp only [Pt.U, Pt.locs, Pt.cells, Pt.slots] at X40 l40 y40 z40 st40 hQ40
      subst l40 y40 z40
      obtain ⟨rv40, N40q, e40⟩ := hQ40
      rw [show sp1 w_1 w_2 w_3 w_4 (0 : Int32) = (.ref w_1) from by unfold sp1; rw [if_pos (by decide : (((0 : Int32) &&& (3 : Int32)) = (0 : Int32)))]] at rv40
      subst rv40
      have N40 := Fr.app N39 N40q
      obtain ⟨cq46, kq46, q46a, q46b, q46c⟩ := isOf hZ e40 (E_1.ext O0.2)
      obtain ⟨_, _, ⟨T46, L46, k46, n46⟩, -, X46, ⟨Lc46, hQ46, l46, y46, z46⟩, st46⟩ := X40.virtualBack hx (y := Y1) (z := Y1) hown (mvT hZ (hw _ (tk 9 rfl))) (mvT hZ (hw _ (tk 10 rfl))) (notFace_of_selects (args := #[]) (mvT hZ (hw _ (tk 12 rfl)))) (mvT hZ (hw _ (tk 12 rfl))) (mvT hZ (hw _ (tk 11 rfl))) (by decide) (backOf (W := 0) (rm2 l Z a0 hw [] w_1 w_2 w_3 w_4 hS0 w_1 w_1 (1 : Int32) h0 n0 O0 (F_1_sharedWithItself.ext O0.2)) hZ (hw _ (tk 13 rfl)) (hw _ (tk 5 rfl)) (by decide) (by decide)) q46a q46c (g := (mkF m 47 #[.val (.int p0), .val (.int p1), .val (.int (0 : Int32)), .val (.int (0 : Int32)), .val (.ref w_1), .val (.ref w_1), .val (.int (0 : Int32))] [(.ref w_1), (.ref w_1)])) rfl (by rw [hml]; rfl) (Steps.refl _) (argsL := [(.ref w_1)]) (rest := []) (lenOf pd_1 rfl) rfl (by show 2 * 0 + _ ≤ _; exact Nat.le_of_eq rfl) (hb hby at_47) (fun _ _ => ⟨rfl, e40, (by decide : 0 + 0 ≤ _), (by decide : 0 + 0 ≤ _)⟩)
      dsimp only [Pt.U, Pt.locs, Pt.cells, Pt.slots] at X46 l46 y46 z46 st46 hQ46
      subst l46 y46 z46
      obtain ⟨rv46, N46q, e46⟩ := hQ46
      rw [show sp2 w_1 w_1 (1 : Int32) = (0 : Int32) from by unfold sp2; rw [if_pos rfl, if_neg (by decide : ¬ ((1 : Int32) = (0 : Int32)))]] at rv46
      subst rv46
      have N46 := Fr.app N40 N46q
      obtain ⟨fs, hr, hrun, hended, hW, hsame⟩ := X46.leave (v := some (.int (1 : Int32))) (fun h => by rw [Bd.returns] at h; cases h)
      refine ⟨_, _, pre28 _ ?_, hrun, hended, _, _, rfl, ?_, ⟨_, rfl⟩, hW, hsame.mono (by decide) (by decide)⟩
      · show Steps p.tables e below (s₁.setTop (mkF m 7 #[.val (.int p0), .val (.int p1), .val (.int (0 : Int32)), .unset, .unset, .unset, .unset] [(.int (0 : Int32))])) _
        refine XS.istoreN X0.here hx rfl (hb hby at_7) rfl (l' := #[.val (.int p0), .val (.int p1), .val (.int (0 : Int32)), .val (.int (0 : Int32)), .unset, .unset, .unset]) rfl ?_
        show Steps p.tables e below (s₁.setTop (mkF m 8 #[.val (.int p0), .val (.int p1), .val (.int (0 : Int32)), .val (.int (0 : Int32)), .unset, .unset, .unset] [])) _
        refine XS.iloadN X0.here hx rfl (hb hby at_8) rfl ?_
        show Steps p.tables e below (s₁.setTop (mkF m 9 #[.val (.int p0), .val (.int p1), .val (.int (0 : Int32)), .val (.int (0 : Int32)), .unset, .unset, .unset] [(.int (0 : Int32))])) _
        refine st39 _ ?_
        show Steps p.tables e below (T39.setTop (mkF m 12 #[.val (.int p0), .val (.int p1), .val (.int (0 : Int32)), .val (.int (0 : Int32)), .unset, .unset, .unset] [(.ref w_1)])) _
        refine XS.astore X39.here hx rfl (hb hby at_12) rfl rfl (l' := #[.val (.int p0), .val (.int p1), .val (.int (0 : Int32)), .val (.int (0 : Int32)), .val (.ref w_1), .unset, .unset]) rfl ?_
        show Steps p.tables e below (T39.setTop (mkF m 14 #[.val (.int p0), .val (.int p1), .val (.int (0 : Int32)), .val (.int (0 : Int32)), .val (.ref w_1), .unset, .unset] [])) _
        refine XS.iloadN X39.here hx rfl (hb hby at_14) rfl ?_
        show Steps p.tables e below (T39.setTop (mkF m 15 #[.val (.int p0), .val (.int p1), .val (.int (0 : Int32)), .val (.int (0 : Int32)), .val (.ref w_1), .unset, .unset] [(.int (0 : Int32))])) _
        refine st40 _ ?_
        show Steps p.tables e below (T40.setTop (mkF m 18 #[.val (.int p0), .val (.int p1), .val (.int (0 : Int32)), .val (.int (0 : Int32)), .val (.ref w_1), .unset, .unset] [(.ref w_1)])) _
        refine XS.astore X40.here hx rfl (hb hby at_18) rfl rfl (l' := #[.val (.int p0), .val (.int p1), .val (.int (0 : Int32)), .val (.int (0 : Int32)), .val (.ref w_1), .val (.ref w_1), .unset]) rfl ?_
        show Steps p.tables e below (T40.setTop (mkF m 20 #[.val (.int p0), .val (.int p1), .val (.int (0 : Int32)), .val (.int (0 : Int32)), .val (.ref w_1), .val (.ref w_1), .unset] [])) _
        refine XS.iloadN X40.here hx rfl (hb hby at_20) rfl ?_
        show Steps p.tables e below (T40.setTop (mkF m 21 #[.val (.int p0), .val (.int p1), .val (.int (0 : Int32)), .val (.int (0 : Int32)), .val (.ref w_1), .val (.ref w_1), .unset] [(.int (0 : Int32))])) _
        refine XS.iloadN X40.here hx rfl (hb hby at_21) rfl ?_
        show Steps p.tables e below (T40.setTop (mkF m 22 #[.val (.int p0), .val (.int p1), .val (.int (0 : Int32)), .val (.int (0 : Int32)), .val (.ref w_1), .val (.ref w_1), .unset] [(.int (0 : Int32)), (.int (0 : Int32))])) _
        refine XS.icmpNo X40.here hx rfl (hb hby at_22) rfl (teq (by decide : ((0 : Int32) = (0 : Int32)))).2 ?_
        show Steps p.tables e below (T40.setTop (mkF m 25 #[.val (.int p0), .val (.int p1), .val (.int (0 : Int32)), .val (.int (0 : Int32)), .val (.ref w_1), .val (.ref w_1), .unset] [])) _
        refine XS.iloadN X40.here hx rfl (hb hby at_25) rfl ?_
        show Steps p.tables e below (T40.setTop (mkF m 26 #[.val (.int p0), .val (.int p1), .val (.int (0 : Int32)), .val (.int (0 : Int32)), .val (.ref w_1), .val (.ref w_1), .unset] [(.int (0 : Int32))])) _
        refine XS.ifYes X40.here hx rfl (pc0 := 26) (pc' := 34) rfl (hb hby at_26) rfl ((if0 _ _).trans (teq (by decide : ((0 : Int32) = (0 : Int32)))).1) (by decide) (by decide) ?_
        show Steps p.tables e below (T40.setTop (mkF m 34 #[.val (.int p0), .val (.int p1), .val (.int (0 : Int32)), .val (.int (0 : Int32)), .val (.ref w_1), .val (.ref w_1), .unset] [])) _
        refine XS.iconst X40.here hx rfl (hb hby at_34) ?_
        show Steps p.tables e below (T40.setTop (mkF m 35 #[.val (.int p0), .val (.int p1), .val (.int (0 : Int32)), .val (.int (0 : Int32)), .val (.ref w_1), .val (.ref w_1), .unset] [(.int (0 : Int32))])) _
        refine XS.istore X40.here hx rfl (hb hby at_35) rfl (l' := #[.val (.int p0), .val (.int p1), .val (.int (0 : Int32)), .val (.int (0 : Int32)), .val (.ref w_1), .val (.ref w_1), .val (.int (0 : Int32))]) rfl ?_
        show Steps p.tables e below (T40.setTop (mkF m 37 #[.val (.int p0), .val (.int p1), .val (.int (0 : Int32)), .val (.int (0 : Int32)), .val (.ref w_1), .val (.ref w_1), .val (.int (0 : Int32))] [])) _
        refine XS.goto X40.here hx rfl (pc0 := 37) (pc' := 43) rfl (hb hby at_37) (by decide) (by decide) ?_
        show Steps p.tables e below (T40.setTop (mkF m 43 #[.val (.int p0), .val (.int p1), .val (.int (0 : Int32)), .val (.int (0 : Int32)), .val (.ref w_1), .val (.ref w_1), .val (.int (0 : Int32))] [])) _
        refine XS.aload X40.here hx rfl (hb hby at_43) rfl rfl ?_
        show Steps p.tables e below (T40.setTop (mkF m 45 #[.val (.int p0), .val (.int p1), .val (.int (0 : Int32)), .val (.int (0 : Int32)), .val (.ref w_1), .val (.ref w_1), .val (.int (0 : Int32))] [(.ref w_1)])) _
        refine XS.aload X40.here hx rfl (hb hby at_45) rfl rfl ?_
        show Steps p.tables e below (T40.setTop (mkF m 47 #[.val (.int p0), .val (.int p1), .val (.int (0 : Int32)), .val (.int (0 : Int32)), .val (.ref w_1), .val (.ref w_1), .val (.int (0 : Int32))] [(.ref w_1), (.ref w_1)])) _
        refine st46.trans ?_
        show Steps p.tables e below (T46.setTop (mkF m 50 #[.val (.int p0), .val (.int p1), .val (.int (0 : Int32)), .val (.int (0 : Int32)), .val (.ref w_1), .val (.ref w_1), .val (.int (0 : Int32))] [(.int (0 : Int32))])) _
        refine XS.iload X46.here hx rfl (hb hby at_50) rfl ?_
        show Steps p.tables e below (T46.setTop (mkF m 52 #[.val (.int p0), .val (.int p1), .val (.int (0 : Int32)), .val (.int (0 : Int32)), .val (.ref w_1), .val (.ref w_1), .val (.int (0 : Int32))] [(.int (0 : Int32)), (.int (0 : Int32))])) _
        refine XS.icmpNo X46.here hx rfl (hb hby at_52) rfl (teq (by decide : ((0 : Int32) = (0 : Int32)))).2 ?_
        show Steps p.tables e below (T46.setTop (mkF m 55 #[.val (.int p0), .val (.int p1), .val (.int (0 : Int32)), .val (.int (0 : Int32)), .val (.ref w_1), .val (.ref w_1), .val (.int (0 : Int32))] [])) _
        refine XS.iconst X46.here hx rfl (hb hby at_55) ?_
        show Steps p.tables e below (T46.setTop (mkF m 56 #[.val (.int p0), .val (.int p1), .val (.int (0 : Int32)), .val (.int (0 : Int32)), .val (.ref w_1), .val (.ref w_1), .val (.int (0 : Int32))] [(.int (1 : Int32))])) _
        refine XS.goto X46.here hx rfl (pc0 := 56) (pc' := 60) rfl (hb hby at_56) (by decide) (by decide) ?_
        show Steps p.tables e below (T46.setTop (mkF m 60 #[.val (.int p0), .val (.int p1), .val (.int (0 : Int32)), .val (.int (0 : Int32)), .val (.ref w_1), .val (.ref w_1), .val (.int (0 : Int32))] [(.int (1 : Int32))])) _
        exact retN X46 hx (t := .boolean) Bd.returns (by simp) (hb hby at_60) hr
      · show Q0 Z w_1 w_2 w_3 w_4 p0 p1 h0 n0 _ T46.heap _
        rw [e46]
        exact ⟨by unfold sp0; rw [if_pos hc23, if_pos hc24], N46, rfl⟩
    · by_cases hc47 : (p1 &&& (3 : Int32)) = (1 : Int32)
      · have pre48 : ∀ t, Steps p.tables e below (s₁.setTop (mkF m 3 #[.val (.int p0), .val (.int p1), .unset, .unset, .unset, .unset, .unset] [(.int (p0 &&& (3 : Int32)))])) t → Steps p.tables e below (s₁.setTop (entryFrame m #[(.int p0), (.int p1)] maxLocals)) t := fun t kt => by
          refine pre0 t ?_
          show Steps p.tables e below (s₁.setTop (mkF m 0 #[.val (.int p0), .val (.int p1), .unset, .unset, .unset, .unset, .unset] [])) _
          refine XS.iloadN X0.here hx rfl (hb hby at_0) rfl ?_
          show Steps p.tables e below (s₁.setTop (mkF m 1 #[.val (.int p0), .val (.int p1), .unset, .unset, .unset, .unset, .unset] [(.int p0)])) _
          refine XS.iconst X0.here hx rfl (hb hby at_1) ?_
          show Steps p.tables e below (s₁.setTop (mkF m 2 #[.val (.int p0), .val (.int p1), .unset, .unset, .unset, .unset, .unset] [(.int (3 : Int32)), (.int p0)])) _
          refine XS.iand X0.here hx rfl (hb hby at_2) rfl ?_
          show Steps p.tables e below (s₁.setTop (mkF m 3 #[.val (.int p0), .val (.int p1), .unset, .unset, .unset, .unset, .unset] [(.int (p0 &&& (3 : Int32)))])) _
          exact kt
        have pre49 : ∀ t, Steps p.tables e below (s₁.setTop (mkF m 3 #[.val (.int p0), .val (.int p1), .unset, .unset, .unset, .unset, .unset] [(.int (0 : Int32))])) t → Steps p.tables e below (s₁.setTop (entryFrame m #[(.int p0), (.int p1)] maxLocals)) t := fun t kt => pre48 t (by rw [(by rw [hc23] <;> decide : (p0 &&& (3 : Int32)) = (0 : Int32))]; exact kt)
        have pre50 : ∀ t, Steps p.tables e below (s₁.setTop (mkF m 7 #[.val (.int p0), .val (.int p1), .val (.int (0 : Int32)), .unset, .unset, .unset, .unset] [(.int (p1 &&& (3 : Int32)))])) t → Steps p.tables e below (s₁.setTop (entryFrame m #[(.int p0), (.int p1)] maxLocals)) t := fun t kt => by
          refine pre49 t ?_
          show Steps p.tables e below (s₁.setTop (mkF m 3 #[.val (.int p0), .val (.int p1), .unset, .unset, .unset, .unset, .unset] [(.int (0 : Int32))])) _
          refine XS.istoreN X0.here hx rfl (hb hby at_3) rfl (l' := #[.val (.int p0), .val (.int p1), .val (.int (0 : Int32)), .unset, .unset, .unset, .unset]) rfl ?_
          show Steps p.tables e below (s₁.setTop (mkF m 4 #[.val (.int p0), .val (.int p1), .val (.int (0 : Int32)), .unset, .unset, .unset, .unset] [])) _
          refine XS.iloadN X0.here hx rfl (hb hby at_4) rfl ?_
          show Steps p.tables e below (s₁.setTop (mkF m 5 #[.val (.int p0), .val (.int p1), .val (.int (0 : Int32)), .unset, .unset, .unset, .unset] [(.int p1)])) _
          refine XS.iconst X0.here hx rfl (hb hby at_5) ?_
          show Steps p.tables e below (s₁.setTop (mkF m 6 #[.val (.int p0), .val (.int p1), .val (.int (0 : Int32)), .unset, .unset, .unset, .unset] [(.int (3 : Int32)), (.int p1)])) _
          refine XS.iand X0.here hx rfl (hb hby at_6) rfl ?_
          show Steps p.tables e below (s₁.setTop (mkF m 7 #[.val (.int p0), .val (.int p1), .val (.int (0 : Int32)), .unset, .unset, .unset, .unset] [(.int (p1 &&& (3 : Int32)))])) _
          exact kt
        have pre51 : ∀ t, Steps p.tables e below (s₁.setTop (mkF m 7 #[.val (.int p0), .val (.int p1), .val (.int (0 : Int32)), .unset, .unset, .unset, .unset] [(.int (1 : Int32))])) t → Steps p.tables e below (s₁.setTop (entryFrame m #[(.int p0), (.int p1)] maxLocals)) t := fun t kt => pre50 t (by rw [(by rw [hc47] <;> decide : (p1 &&& (3 : Int32)) = (1 : Int32))]; exact kt)
        obtain ⟨_, _, ⟨T52, L52, k52, n52⟩, -, X52, ⟨Lc52, hQ52, l52, y52, z52⟩, st52⟩ := Jvm.LawKit.callS X0 hx (y := Y0) hown (mvT hZ (hw _ (tk 0 rfl))) (mvT hZ (hw _ (tk 1 rfl))) (mvT hZ (hw _ (tk 2 rfl))) (mvT hZ (hw _ (tk 3 rfl))) (by decide) (backOf (W := 0) (rm1 l Z a0 hw [] w_1 w_2 w_3 w_4 hS0 (0 : Int32) h0 n0 O0) hZ (hw _ (tk 3 rfl)) (hw _ (tk 2 rfl)) (by decide) (by decide)) (g := (mkF m 9 #[.val (.int p0), .val (.int p1), .val (.int (0 : Int32)), .val (.int (1 : Int32)), .unset, .unset, .unset] [(.int (0 : Int32))])) rfl (by rw [hml]; rfl) (argsL := [(.int (0 : Int32))]) (rest := []) (lenOf pd_0 rfl) rfl (by show 2 * 0 + _ ≤ _; exact Nat.le_of_eq rfl) (hb hby at_9) (fun _ _ => ⟨rfl, e0, (by decide : 0 + 0 ≤ _), (by decide : 0 + 0 ≤ _)⟩)
        dsimp only [Pt.U, Pt.locs, Pt.cells, Pt.slots] at X52 l52 y52 z52 st52 hQ52
        subst l52 y52 z52
        obtain ⟨rv52, N52q, e52⟩ := hQ52
        rw [show sp1 w_1 w_2 w_3 w_4 (0 : Int32) = (.ref w_1) from by unfold sp1; rw [if_pos (by decide : (((0 : Int32) &&& (3 : Int32)) = (0 : Int32)))]] at rv52
        subst rv52
        have N52 := Fr.app N0 N52q
        obtain ⟨_, _, ⟨T53, L53, k53, n53⟩, -, X53, ⟨Lc53, hQ53, l53, y53, z53⟩, st53⟩ := Jvm.LawKit.callS X52 hx (y := Y0) hown (mvT hZ (hw _ (tk 0 rfl))) (mvT hZ (hw _ (tk 1 rfl))) (mvT hZ (hw _ (tk 2 rfl))) (mvT hZ (hw _ (tk 3 rfl))) (by decide) (backOf (W := 0) (rm1 l Z a0 hw [] w_1 w_2 w_3 w_4 hS0 (1 : Int32) h0 n0 O0) hZ (hw _ (tk 3 rfl)) (hw _ (tk 2 rfl)) (by decide) (by decide)) (g := (mkF m 15 #[.val (.int p0), .val (.int p1), .val (.int (0 : Int32)), .val (.int (1 : Int32)), .val (.ref w_1), .unset, .unset] [(.int (1 : Int32))])) rfl (by rw [hml]; rfl) (argsL := [(.int (1 : Int32))]) (rest := []) (lenOf pd_0 rfl) rfl (by show 2 * 0 + _ ≤ _; exact Nat.le_of_eq rfl) (hb hby at_15) (fun _ _ => ⟨rfl, e52, (by decide : 0 + 0 ≤ _), (by decide : 0 + 0 ≤ _)⟩)
        dsimp only [Pt.U, Pt.locs, Pt.cells, Pt.slots] at X53 l53 y53 z53 st53 hQ53
        subst l53 y53 z53
        obtain ⟨rv53, N53q, e53⟩ := hQ53
        rw [show sp1 w_1 w_2 w_3 w_4 (1 : Int32) = (.ref w_4) from by unfold sp1; rw [if_neg (by decide : ¬ (((1 : Int32) &&& (3 : Int32)) = (0 : Int32))), if_pos (by decide : (((1 : Int32) &&& (3 : Int32)) = (1 : Int32)))]] at rv53
        subst rv53
        have N53 := Fr.app N52 N53q
        obtain ⟨cq54, kq54, q54a, q54b, q54c⟩ := isOf hZ e53 (E_1.ext O0.2)
        obtain ⟨_, _, ⟨T54, L54, k54, n54⟩, -, X54, ⟨Lc54, hQ54, l54, y54, z54⟩, st54⟩ := X53.virtualBack hx (y := Y1) (z := Y1) hown (mvT hZ (hw _ (tk 9 rfl))) (mvT hZ (hw _ (tk 10 rfl))) (notFace_of_selects (args := #[]) (mvT hZ (hw _ (tk 12 rfl)))) (mvT hZ (hw _ (tk 12 rfl))) (mvT hZ (hw _ (tk 11 rfl))) (by decide) (backOf (W := 0) (rm2 l Z a0 hw [] w_1 w_2 w_3 w_4 hS0 w_1 w_4 (1 : Int32) h0 n0 O0 (F_1_sharedWithItself.ext O0.2)) hZ (hw _ (tk 13 rfl)) (hw _ (tk 5 rfl)) (by decide) (by decide)) q54a q54c (g := (mkF m 47 #[.val (.int p0), .val (.int p1), .val (.int (0 : Int32)), .val (.int (1 : Int32)), .val (.ref w_1), .val (.ref w_4), .val (.int (1 : Int32))] [(.ref w_4), (.ref w_1)])) rfl (by rw [hml]; rfl) (Steps.refl _) (argsL := [(.ref w_4)]) (rest := []) (lenOf pd_1 rfl) rfl (by show 2 * 0 + _ ≤ _; exact Nat.le_of_eq rfl) (hb hby at_47) (fun _ _ => ⟨rfl, e53, (by decide : 0 + 0 ≤ _), (by decide : 0 + 0 ≤ _)⟩)
        dsimp only [Pt.U, Pt.locs, Pt.cells, Pt.slots] at X54 l54 y54 z54 st54 hQ54
        subst l54 y54 z54
        obtain ⟨rv54, N54q, e54⟩ := hQ54
        rw [show sp2 w_1 w_4 (1 : Int32) = (1 : Int32) from by unfold sp2; rw [if_neg (Fld.ne F_1_ordinal F_4_ordinal (by decide))]] at rv54
        subst rv54
        have N54 := Fr.app N53 N54q
        obtain ⟨fs, hr, hrun, hended, hW, hsame⟩ := X54.leave (v := some (.int (1 : Int32))) (fun h => by rw [Bd.returns] at h; cases h)
        refine ⟨_, _, pre51 _ ?_, hrun, hended, _, _, rfl, ?_, ⟨_, rfl⟩, hW, hsame.mono (by decide) (by decide)⟩
        · show Steps p.tables e below (s₁.setTop (mkF m 7 #[.val (.int p0), .val (.int p1), .val (.int (0 : Int32)), .unset, .unset, .unset, .unset] [(.int (1 : Int32))])) _
          refine XS.istoreN X0.here hx rfl (hb hby at_7) rfl (l' := #[.val (.int p0), .val (.int p1), .val (.int (0 : Int32)), .val (.int (1 : Int32)), .unset, .unset, .unset]) rfl ?_
          show Steps p.tables e below (s₁.setTop (mkF m 8 #[.val (.int p0), .val (.int p1), .val (.int (0 : Int32)), .val (.int (1 : Int32)), .unset, .unset, .unset] [])) _
          refine XS.iloadN X0.here hx rfl (hb hby at_8) rfl ?_
          show Steps p.tables e below (s₁.setTop (mkF m 9 #[.val (.int p0), .val (.int p1), .val (.int (0 : Int32)), .val (.int (1 : Int32)), .unset, .unset, .unset] [(.int (0 : Int32))])) _
          refine st52 _ ?_
          show Steps p.tables e below (T52.setTop (mkF m 12 #[.val (.int p0), .val (.int p1), .val (.int (0 : Int32)), .val (.int (1 : Int32)), .unset, .unset, .unset] [(.ref w_1)])) _
          refine XS.astore X52.here hx rfl (hb hby at_12) rfl rfl (l' := #[.val (.int p0), .val (.int p1), .val (.int (0 : Int32)), .val (.int (1 : Int32)), .val (.ref w_1), .unset, .unset]) rfl ?_
          show Steps p.tables e below (T52.setTop (mkF m 14 #[.val (.int p0), .val (.int p1), .val (.int (0 : Int32)), .val (.int (1 : Int32)), .val (.ref w_1), .unset, .unset] [])) _
          refine XS.iloadN X52.here hx rfl (hb hby at_14) rfl ?_
          show Steps p.tables e below (T52.setTop (mkF m 15 #[.val (.int p0), .val (.int p1), .val (.int (0 : Int32)), .val (.int (1 : Int32)), .val (.ref w_1), .unset, .unset] [(.int (1 : Int32))])) _
          refine st53 _ ?_
          show Steps p.tables e below (T53.setTop (mkF m 18 #[.val (.int p0), .val (.int p1), .val (.int (0 : Int32)), .val (.int (1 : Int32)), .val (.ref w_1), .unset, .unset] [(.ref w_4)])) _
          refine XS.astore X53.here hx rfl (hb hby at_18) rfl rfl (l' := #[.val (.int p0), .val (.int p1), .val (.int (0 : Int32)), .val (.int (1 : Int32)), .val (.ref w_1), .val (.ref w_4), .unset]) rfl ?_
          show Steps p.tables e below (T53.setTop (mkF m 20 #[.val (.int p0), .val (.int p1), .val (.int (0 : Int32)), .val (.int (1 : Int32)), .val (.ref w_1), .val (.ref w_4), .unset] [])) _
          refine XS.iloadN X53.here hx rfl (hb hby at_20) rfl ?_
          show Steps p.tables e below (T53.setTop (mkF m 21 #[.val (.int p0), .val (.int p1), .val (.int (0 : Int32)), .val (.int (1 : Int32)), .val (.ref w_1), .val (.ref w_4), .unset] [(.int (0 : Int32))])) _
          refine XS.iloadN X53.here hx rfl (hb hby at_21) rfl ?_
          show Steps p.tables e below (T53.setTop (mkF m 22 #[.val (.int p0), .val (.int p1), .val (.int (0 : Int32)), .val (.int (1 : Int32)), .val (.ref w_1), .val (.ref w_4), .unset] [(.int (1 : Int32)), (.int (0 : Int32))])) _
          refine XS.icmpYes X53.here hx rfl (pc0 := 22) (pc' := 40) rfl (hb hby at_22) rfl (feq (by decide : ¬ ((0 : Int32) = (1 : Int32)))).2 (by decide) (by decide) ?_
          show Steps p.tables e below (T53.setTop (mkF m 40 #[.val (.int p0), .val (.int p1), .val (.int (0 : Int32)), .val (.int (1 : Int32)), .val (.ref w_1), .val (.ref w_4), .unset] [])) _
          refine XS.iconst X53.here hx rfl (hb hby at_40) ?_
          show Steps p.tables e below (T53.setTop (mkF m 41 #[.val (.int p0), .val (.int p1), .val (.int (0 : Int32)), .val (.int (1 : Int32)), .val (.ref w_1), .val (.ref w_4), .unset] [(.int (1 : Int32))])) _
          refine XS.istore X53.here hx rfl (hb hby at_41) rfl (l' := #[.val (.int p0), .val (.int p1), .val (.int (0 : Int32)), .val (.int (1 : Int32)), .val (.ref w_1), .val (.ref w_4), .val (.int (1 : Int32))]) rfl ?_
          show Steps p.tables e below (T53.setTop (mkF m 43 #[.val (.int p0), .val (.int p1), .val (.int (0 : Int32)), .val (.int (1 : Int32)), .val (.ref w_1), .val (.ref w_4), .val (.int (1 : Int32))] [])) _
          refine XS.aload X53.here hx rfl (hb hby at_43) rfl rfl ?_
          show Steps p.tables e below (T53.setTop (mkF m 45 #[.val (.int p0), .val (.int p1), .val (.int (0 : Int32)), .val (.int (1 : Int32)), .val (.ref w_1), .val (.ref w_4), .val (.int (1 : Int32))] [(.ref w_1)])) _
          refine XS.aload X53.here hx rfl (hb hby at_45) rfl rfl ?_
          show Steps p.tables e below (T53.setTop (mkF m 47 #[.val (.int p0), .val (.int p1), .val (.int (0 : Int32)), .val (.int (1 : Int32)), .val (.ref w_1), .val (.ref w_4), .val (.int (1 : Int32))] [(.ref w_4), (.ref w_1)])) _
          refine st54.trans ?_
          show Steps p.tables e below (T54.setTop (mkF m 50 #[.val (.int p0), .val (.int p1), .val (.int (0 : Int32)), .val (.int (1 : Int32)), .val (.ref w_1), .val (.ref w_4), .val (.int (1 : Int32))] [(.int (1 : Int32))])) _
          refine XS.iload X54.here hx rfl (hb hby at_50) rfl ?_
          show Steps p.tables e below (T54.setTop (mkF m 52 #[.val (.int p0), .val (.int p1), .val (.int (0 : Int32)), .val (.int (1 : Int32)), .val (.ref w_1), .val (.ref w_4), .val (.int (1 : Int32))] [(.int (1 : Int32)), (.int (1 : Int32))])) _
          refine XS.icmpNo X54.here hx rfl (hb hby at_52) rfl (teq (by decide : ((1 : Int32) = (1 : Int32)))).2 ?_
          show Steps p.tables e below (T54.setTop (mkF m 55 #[.val (.int p0), .val (.int p1), .val (.int (0 : Int32)), .val (.int (1 : Int32)), .val (.ref w_1), .val (.ref w_4), .val (.int (1 : Int32))] [])) _
          refine XS.iconst X54.here hx rfl (hb hby at_55) ?_
          show Steps p.tables e below (T54.setTop (mkF m 56 #[.val (.int p0), .val (.int p1), .val (.int (0 : Int32)), .val (.int (1 : Int32)), .val (.ref w_1), .val (.ref w_4), .val (.int (1 : Int32))] [(.int (1 : Int32))])) _
          refine XS.goto X54.here hx rfl (pc0 := 56) (pc' := 60) rfl (hb hby at_56) (by decide) (by decide) ?_
          show Steps p.tables e below (T54.setTop (mkF m 60 #[.val (.int p0), .val (.int p1), .val (.int (0 : Int32)), .val (.int (1 : Int32)), .val (.ref w_1), .val (.ref w_4), .val (.int (1 : Int32))] [(.int (1 : Int32))])) _
          exact retN X54 hx (t := .boolean) Bd.returns (by simp) (hb hby at_60) hr
        · show Q0 Z w_1 w_2 w_3 w_4 p0 p1 h0 n0 _ T54.heap _
          rw [e54]
          exact ⟨by unfold sp0; rw [if_pos hc23, if_neg hc24, if_pos hc47], N54, rfl⟩
      · by_cases hc55 : (p1 &&& (3 : Int32)) = (2 : Int32)
        · have pre56 : ∀ t, Steps p.tables e below (s₁.setTop (mkF m 3 #[.val (.int p0), .val (.int p1), .unset, .unset, .unset, .unset, .unset] [(.int (p0 &&& (3 : Int32)))])) t → Steps p.tables e below (s₁.setTop (entryFrame m #[(.int p0), (.int p1)] maxLocals)) t := fun t kt => by
            refine pre0 t ?_
            show Steps p.tables e below (s₁.setTop (mkF m 0 #[.val (.int p0), .val (.int p1), .unset, .unset, .unset, .unset, .unset] [])) _
            refine XS.iloadN X0.here hx rfl (hb hby at_0) rfl ?_
            show Steps p.tables e below (s₁.setTop (mkF m 1 #[.val (.int p0), .val (.int p1), .unset, .unset, .unset, .unset, .unset] [(.int p0)])) _
            refine XS.iconst X0.here hx rfl (hb hby at_1) ?_
            show Steps p.tables e below (s₁.setTop (mkF m 2 #[.val (.int p0), .val (.int p1), .unset, .unset, .unset, .unset, .unset] [(.int (3 : Int32)), (.int p0)])) _
            refine XS.iand X0.here hx rfl (hb hby at_2) rfl ?_
            show Steps p.tables e below (s₁.setTop (mkF m 3 #[.val (.int p0), .val (.int p1), .unset, .unset, .unset, .unset, .unset] [(.int (p0 &&& (3 : Int32)))])) _
            exact kt
          have pre57 : ∀ t, Steps p.tables e below (s₁.setTop (mkF m 3 #[.val (.int p0), .val (.int p1), .unset, .unset, .unset, .unset, .unset] [(.int (0 : Int32))])) t → Steps p.tables e below (s₁.setTop (entryFrame m #[(.int p0), (.int p1)] maxLocals)) t := fun t kt => pre56 t (by rw [(by rw [hc23] <;> decide : (p0 &&& (3 : Int32)) = (0 : Int32))]; exact kt)
          have pre58 : ∀ t, Steps p.tables e below (s₁.setTop (mkF m 7 #[.val (.int p0), .val (.int p1), .val (.int (0 : Int32)), .unset, .unset, .unset, .unset] [(.int (p1 &&& (3 : Int32)))])) t → Steps p.tables e below (s₁.setTop (entryFrame m #[(.int p0), (.int p1)] maxLocals)) t := fun t kt => by
            refine pre57 t ?_
            show Steps p.tables e below (s₁.setTop (mkF m 3 #[.val (.int p0), .val (.int p1), .unset, .unset, .unset, .unset, .unset] [(.int (0 : Int32))])) _
            refine XS.istoreN X0.here hx rfl (hb hby at_3) rfl (l' := #[.val (.int p0), .val (.int p1), .val (.int (0 : Int32)), .unset, .unset, .unset, .unset]) rfl ?_
            show Steps p.tables e below (s₁.setTop (mkF m 4 #[.val (.int p0), .val (.int p1), .val (.int (0 : Int32)), .unset, .unset, .unset, .unset] [])) _
            refine XS.iloadN X0.here hx rfl (hb hby at_4) rfl ?_
            show Steps p.tables e below (s₁.setTop (mkF m 5 #[.val (.int p0), .val (.int p1), .val (.int (0 : Int32)), .unset, .unset, .unset, .unset] [(.int p1)])) _
            refine XS.iconst X0.here hx rfl (hb hby at_5) ?_
            show Steps p.tables e below (s₁.setTop (mkF m 6 #[.val (.int p0), .val (.int p1), .val (.int (0 : Int32)), .unset, .unset, .unset, .unset] [(.int (3 : Int32)), (.int p1)])) _
            refine XS.iand X0.here hx rfl (hb hby at_6) rfl ?_
            show Steps p.tables e below (s₁.setTop (mkF m 7 #[.val (.int p0), .val (.int p1), .val (.int (0 : Int32)), .unset, .unset, .unset, .unset] [(.int (p1 &&& (3 : Int32)))])) _
            exact kt
          have pre59 : ∀ t, Steps p.tables e below (s₁.setTop (mkF m 7 #[.val (.int p0), .val (.int p1), .val (.int (0 : Int32)), .unset, .unset, .unset, .unset] [(.int (2 : Int32))])) t → Steps p.tables e below (s₁.setTop (entryFrame m #[(.int p0), (.int p1)] maxLocals)) t := fun t kt => pre58 t (by rw [(by rw [hc55] <;> decide : (p1 &&& (3 : Int32)) = (2 : Int32))]; exact kt)
          obtain ⟨_, _, ⟨T60, L60, k60, n60⟩, -, X60, ⟨Lc60, hQ60, l60, y60, z60⟩, st60⟩ := Jvm.LawKit.callS X0 hx (y := Y0) hown (mvT hZ (hw _ (tk 0 rfl))) (mvT hZ (hw _ (tk 1 rfl))) (mvT hZ (hw _ (tk 2 rfl))) (mvT hZ (hw _ (tk 3 rfl))) (by decide) (backOf (W := 0) (rm1 l Z a0 hw [] w_1 w_2 w_3 w_4 hS0 (0 : Int32) h0 n0 O0) hZ (hw _ (tk 3 rfl)) (hw _ (tk 2 rfl)) (by decide) (by decide)) (g := (mkF m 9 #[.val (.int p0), .val (.int p1), .val (.int (0 : Int32)), .val (.int (2 : Int32)), .unset, .unset, .unset] [(.int (0 : Int32))])) rfl (by rw [hml]; rfl) (argsL := [(.int (0 : Int32))]) (rest := []) (lenOf pd_0 rfl) rfl (by show 2 * 0 + _ ≤ _; exact Nat.le_of_eq rfl) (hb hby at_9) (fun _ _ => ⟨rfl, e0, (by decide : 0 + 0 ≤ _), (by decide : 0 + 0 ≤ _)⟩)
          dsimp only [Pt.U, Pt.locs, Pt.cells, Pt.slots] at X60 l60 y60 z60 st60 hQ60
          subst l60 y60 z60
          obtain ⟨rv60, N60q, e60⟩ := hQ60
          rw [show sp1 w_1 w_2 w_3 w_4 (0 : Int32) = (.ref w_1) from by unfold sp1; rw [if_pos (by decide : (((0 : Int32) &&& (3 : Int32)) = (0 : Int32)))]] at rv60
          subst rv60
          have N60 := Fr.app N0 N60q
          obtain ⟨_, _, ⟨T61, L61, k61, n61⟩, -, X61, ⟨Lc61, hQ61, l61, y61, z61⟩, st61⟩ := Jvm.LawKit.callS X60 hx (y := Y0) hown (mvT hZ (hw _ (tk 0 rfl))) (mvT hZ (hw _ (tk 1 rfl))) (mvT hZ (hw _ (tk 2 rfl))) (mvT hZ (hw _ (tk 3 rfl))) (by decide) (backOf (W := 0) (rm1 l Z a0 hw [] w_1 w_2 w_3 w_4 hS0 (2 : Int32) h0 n0 O0) hZ (hw _ (tk 3 rfl)) (hw _ (tk 2 rfl)) (by decide) (by decide)) (g := (mkF m 15 #[.val (.int p0), .val (.int p1), .val (.int (0 : Int32)), .val (.int (2 : Int32)), .val (.ref w_1), .unset, .unset] [(.int (2 : Int32))])) rfl (by rw [hml]; rfl) (argsL := [(.int (2 : Int32))]) (rest := []) (lenOf pd_0 rfl) rfl (by show 2 * 0 + _ ≤ _; exact Nat.le_of_eq rfl) (hb hby at_15) (fun _ _ => ⟨rfl, e60, (by decide : 0 + 0 ≤ _), (by decide : 0 + 0 ≤ _)⟩)
          dsimp only [Pt.U, Pt.locs, Pt.cells, Pt.slots] at X61 l61 y61 z61 st61 hQ61
          subst l61 y61 z61
          obtain ⟨rv61, N61q, e61⟩ := hQ61
          rw [show sp1 w_1 w_2 w_3 w_4 (2 : Int32) = (.ref w_3) from by unfold sp1; rw [if_neg (by decide : ¬ (((2 : Int32) &&& (3 : Int32)) = (0 : Int32))), if_neg (by decide : ¬ (((2 : Int32) &&& (3 : Int32)) = (1 : Int32))), if_pos (by decide : (((2 : Int32) &&& (3 : Int32)) = (2 : Int32)))]] at rv61
          subst rv61
          have N61 := Fr.app N60 N61q
          obtain ⟨cq62, kq62, q62a, q62b, q62c⟩ := isOf hZ e61 (E_1.ext O0.2)
          obtain ⟨_, _, ⟨T62, L62, k62, n62⟩, -, X62, ⟨Lc62, hQ62, l62, y62, z62⟩, st62⟩ := X61.virtualBack hx (y := Y1) (z := Y1) hown (mvT hZ (hw _ (tk 9 rfl))) (mvT hZ (hw _ (tk 10 rfl))) (notFace_of_selects (args := #[]) (mvT hZ (hw _ (tk 12 rfl)))) (mvT hZ (hw _ (tk 12 rfl))) (mvT hZ (hw _ (tk 11 rfl))) (by decide) (backOf (W := 0) (rm2 l Z a0 hw [] w_1 w_2 w_3 w_4 hS0 w_1 w_3 (1 : Int32) h0 n0 O0 (F_1_sharedWithItself.ext O0.2)) hZ (hw _ (tk 13 rfl)) (hw _ (tk 5 rfl)) (by decide) (by decide)) q62a q62c (g := (mkF m 47 #[.val (.int p0), .val (.int p1), .val (.int (0 : Int32)), .val (.int (2 : Int32)), .val (.ref w_1), .val (.ref w_3), .val (.int (1 : Int32))] [(.ref w_3), (.ref w_1)])) rfl (by rw [hml]; rfl) (Steps.refl _) (argsL := [(.ref w_3)]) (rest := []) (lenOf pd_1 rfl) rfl (by show 2 * 0 + _ ≤ _; exact Nat.le_of_eq rfl) (hb hby at_47) (fun _ _ => ⟨rfl, e61, (by decide : 0 + 0 ≤ _), (by decide : 0 + 0 ≤ _)⟩)
          dsimp only [Pt.U, Pt.locs, Pt.cells, Pt.slots] at X62 l62 y62 z62 st62 hQ62
          subst l62 y62 z62
          obtain ⟨rv62, N62q, e62⟩ := hQ62
          rw [show sp2 w_1 w_3 (1 : Int32) = (1 : Int32) from by unfold sp2; rw [if_neg (Fld.ne F_1_ordinal F_3_ordinal (by decide))]] at rv62
          subst rv62
          have N62 := Fr.app N61 N62q
          obtain ⟨fs, hr, hrun, hended, hW, hsame⟩ := X62.leave (v := some (.int (1 : Int32))) (fun h => by rw [Bd.returns] at h; cases h)
          refine ⟨_, _, pre59 _ ?_, hrun, hended, _, _, rfl, ?_, ⟨_, rfl⟩, hW, hsame.mono (by decide) (by decide)⟩
          · show Steps p.tables e below (s₁.setTop (mkF m 7 #[.val (.int p0), .val (.int p1), .val (.int (0 : Int32)), .unset, .unset, .unset, .unset] [(.int (2 : Int32))])) _
            refine XS.istoreN X0.here hx rfl (hb hby at_7) rfl (l' := #[.val (.int p0), .val (.int p1), .val (.int (0 : Int32)), .val (.int (2 : Int32)), .unset, .unset, .unset]) rfl ?_
            show Steps p.tables e below (s₁.setTop (mkF m 8 #[.val (.int p0), .val (.int p1), .val (.int (0 : Int32)), .val (.int (2 : Int32)), .unset, .unset, .unset] [])) _
            refine XS.iloadN X0.here hx rfl (hb hby at_8) rfl ?_
            show Steps p.tables e below (s₁.setTop (mkF m 9 #[.val (.int p0), .val (.int p1), .val (.int (0 : Int32)), .val (.int (2 : Int32)), .unset, .unset, .unset] [(.int (0 : Int32))])) _
            refine st60 _ ?_
            show Steps p.tables e below (T60.setTop (mkF m 12 #[.val (.int p0), .val (.int p1), .val (.int (0 : Int32)), .val (.int (2 : Int32)), .unset, .unset, .unset] [(.ref w_1)])) _
            refine XS.astore X60.here hx rfl (hb hby at_12) rfl rfl (l' := #[.val (.int p0), .val (.int p1), .val (.int (0 : Int32)), .val (.int (2 : Int32)), .val (.ref w_1), .unset, .unset]) rfl ?_
            show Steps p.tables e below (T60.setTop (mkF m 14 #[.val (.int p0), .val (.int p1), .val (.int (0 : Int32)), .val (.int (2 : Int32)), .val (.ref w_1), .unset, .unset] [])) _
            refine XS.iloadN X60.here hx rfl (hb hby at_14) rfl ?_
            show Steps p.tables e below (T60.setTop (mkF m 15 #[.val (.int p0), .val (.int p1), .val (.int (0 : Int32)), .val (.int (2 : Int32)), .val (.ref w_1), .unset, .unset] [(.int (2 : Int32))])) _
            refine st61 _ ?_
            show Steps p.tables e below (T61.setTop (mkF m 18 #[.val (.int p0), .val (.int p1), .val (.int (0 : Int32)), .val (.int (2 : Int32)), .val (.ref w_1), .unset, .unset] [(.ref w_3)])) _
            refine XS.astore X61.here hx rfl (hb hby at_18) rfl rfl (l' := #[.val (.int p0), .val (.int p1), .val (.int (0 : Int32)), .val (.int (2 : Int32)), .val (.ref w_1), .val (.ref w_3), .unset]) rfl ?_
            show Steps p.tables e below (T61.setTop (mkF m 20 #[.val (.int p0), .val (.int p1), .val (.int (0 : Int32)), .val (.int (2 : Int32)), .val (.ref w_1), .val (.ref w_3), .unset] [])) _
            refine XS.iloadN X61.here hx rfl (hb hby at_20) rfl ?_
            show Steps p.tables e below (T61.setTop (mkF m 21 #[.val (.int p0), .val (.int p1), .val (.int (0 : Int32)), .val (.int (2 : Int32)), .val (.ref w_1), .val (.ref w_3), .unset] [(.int (0 : Int32))])) _
            refine XS.iloadN X61.here hx rfl (hb hby at_21) rfl ?_
            show Steps p.tables e below (T61.setTop (mkF m 22 #[.val (.int p0), .val (.int p1), .val (.int (0 : Int32)), .val (.int (2 : Int32)), .val (.ref w_1), .val (.ref w_3), .unset] [(.int (2 : Int32)), (.int (0 : Int32))])) _
            refine XS.icmpYes X61.here hx rfl (pc0 := 22) (pc' := 40) rfl (hb hby at_22) rfl (feq (by decide : ¬ ((0 : Int32) = (2 : Int32)))).2 (by decide) (by decide) ?_
            show Steps p.tables e below (T61.setTop (mkF m 40 #[.val (.int p0), .val (.int p1), .val (.int (0 : Int32)), .val (.int (2 : Int32)), .val (.ref w_1), .val (.ref w_3), .unset] [])) _
            refine XS.iconst X61.here hx rfl (hb hby at_40) ?_
            show Steps p.tables e below (T61.setTop (mkF m 41 #[.val (.int p0), .val (.int p1), .val (.int (0 : Int32)), .val (.int (2 : Int32)), .val (.ref w_1), .val (.ref w_3), .unset] [(.int (1 : Int32))])) _
            refine XS.istore X61.here hx rfl (hb hby at_41) rfl (l' := #[.val (.int p0), .val (.int p1), .val (.int (0 : Int32)), .val (.int (2 : Int32)), .val (.ref w_1), .val (.ref w_3), .val (.int (1 : Int32))]) rfl ?_
            show Steps p.tables e below (T61.setTop (mkF m 43 #[.val (.int p0), .val (.int p1), .val (.int (0 : Int32)), .val (.int (2 : Int32)), .val (.ref w_1), .val (.ref w_3), .val (.int (1 : Int32))] [])) _
            refine XS.aload X61.here hx rfl (hb hby at_43) rfl rfl ?_
            show Steps p.tables e below (T61.setTop (mkF m 45 #[.val (.int p0), .val (.int p1), .val (.int (0 : Int32)), .val (.int (2 : Int32)), .val (.ref w_1), .val (.ref w_3), .val (.int (1 : Int32))] [(.ref w_1)])) _
            refine XS.aload X61.here hx rfl (hb hby at_45) rfl rfl ?_
            show Steps p.tables e below (T61.setTop (mkF m 47 #[.val (.int p0), .val (.int p1), .val (.int (0 : Int32)), .val (.int (2 : Int32)), .val (.ref w_1), .val (.ref w_3), .val (.int (1 : Int32))] [(.ref w_3), (.ref w_1)])) _
            refine st62.trans ?_
            show Steps p.tables e below (T62.setTop (mkF m 50 #[.val (.int p0), .val (.int p1), .val (.int (0 : Int32)), .val (.int (2 : Int32)), .val (.ref w_1), .val (.ref w_3), .val (.int (1 : Int32))] [(.int (1 : Int32))])) _
            refine XS.iload X62.here hx rfl (hb hby at_50) rfl ?_
            show Steps p.tables e below (T62.setTop (mkF m 52 #[.val (.int p0), .val (.int p1), .val (.int (0 : Int32)), .val (.int (2 : Int32)), .val (.ref w_1), .val (.ref w_3), .val (.int (1 : Int32))] [(.int (1 : Int32)), (.int (1 : Int32))])) _
            refine XS.icmpNo X62.here hx rfl (hb hby at_52) rfl (teq (by decide : ((1 : Int32) = (1 : Int32)))).2 ?_
            show Steps p.tables e below (T62.setTop (mkF m 55 #[.val (.int p0), .val (.int p1), .val (.int (0 : Int32)), .val (.int (2 : Int32)), .val (.ref w_1), .val (.ref w_3), .val (.int (1 : Int32))] [])) _
            refine XS.iconst X62.here hx rfl (hb hby at_55) ?_
            show Steps p.tables e below (T62.setTop (mkF m 56 #[.val (.int p0), .val (.int p1), .val (.int (0 : Int32)), .val (.int (2 : Int32)), .val (.ref w_1), .val (.ref w_3), .val (.int (1 : Int32))] [(.int (1 : Int32))])) _
            refine XS.goto X62.here hx rfl (pc0 := 56) (pc' := 60) rfl (hb hby at_56) (by decide) (by decide) ?_
            show Steps p.tables e below (T62.setTop (mkF m 60 #[.val (.int p0), .val (.int p1), .val (.int (0 : Int32)), .val (.int (2 : Int32)), .val (.ref w_1), .val (.ref w_3), .val (.int (1 : Int32))] [(.int (1 : Int32))])) _
            exact retN X62 hx (t := .boolean) Bd.returns (by simp) (hb hby at_60) hr
          · show Q0 Z w_1 w_2 w_3 w_4 p0 p1 h0 n0 _ T62.heap _
            rw [e62]
            exact ⟨by unfold sp0; rw [if_pos hc23, if_neg hc24, if_neg hc47, if_pos hc55], N62, rfl⟩
        · have hL63 : (p1 &&& (3 : Int32)) = (3 : Int32) := by
            have r : 0 ≤ ((p1 &&& (3 : Int32))).toInt ∧ ((p1 &&& (3 : Int32))).toInt < 4 := (own_rand p1 (3 : Int32) 4 (by decide) (by decide))
            have q0 := own_ne hc24 (n := 0) (by decide)
            have q1 := own_ne hc47 (n := 1) (by decide)
            have q2 := own_ne hc55 (n := 2) (by decide)
            exact own_eq (n := 3) (by decide) (by omega)
          have pre64 : ∀ t, Steps p.tables e below (s₁.setTop (mkF m 3 #[.val (.int p0), .val (.int p1), .unset, .unset, .unset, .unset, .unset] [(.int (p0 &&& (3 : Int32)))])) t → Steps p.tables e below (s₁.setTop (entryFrame m #[(.int p0), (.int p1)] maxLocals)) t := fun t kt => by
            refine pre0 t ?_
            show Steps p.tables e below (s₁.setTop (mkF m 0 #[.val (.int p0), .val (.int p1), .unset, .unset, .unset, .unset, .unset] [])) _
            refine XS.iloadN X0.here hx rfl (hb hby at_0) rfl ?_
            show Steps p.tables e below (s₁.setTop (mkF m 1 #[.val (.int p0), .val (.int p1), .unset, .unset, .unset, .unset, .unset] [(.int p0)])) _
            refine XS.iconst X0.here hx rfl (hb hby at_1) ?_
            show Steps p.tables e below (s₁.setTop (mkF m 2 #[.val (.int p0), .val (.int p1), .unset, .unset, .unset, .unset, .unset] [(.int (3 : Int32)), (.int p0)])) _
            refine XS.iand X0.here hx rfl (hb hby at_2) rfl ?_
            show Steps p.tables e below (s₁.setTop (mkF m 3 #[.val (.int p0), .val (.int p1), .unset, .unset, .unset, .unset, .unset] [(.int (p0 &&& (3 : Int32)))])) _
            exact kt
          have pre65 : ∀ t, Steps p.tables e below (s₁.setTop (mkF m 3 #[.val (.int p0), .val (.int p1), .unset, .unset, .unset, .unset, .unset] [(.int (0 : Int32))])) t → Steps p.tables e below (s₁.setTop (entryFrame m #[(.int p0), (.int p1)] maxLocals)) t := fun t kt => pre64 t (by rw [(by rw [hc23] <;> decide : (p0 &&& (3 : Int32)) = (0 : Int32))]; exact kt)
          have pre66 : ∀ t, Steps p.tables e below (s₁.setTop (mkF m 7 #[.val (.int p0), .val (.int p1), .val (.int (0 : Int32)), .unset, .unset, .unset, .unset] [(.int (p1 &&& (3 : Int32)))])) t → Steps p.tables e below (s₁.setTop (entryFrame m #[(.int p0), (.int p1)] maxLocals)) t := fun t kt => by
            refine pre65 t ?_
            show Steps p.tables e below (s₁.setTop (mkF m 3 #[.val (.int p0), .val (.int p1), .unset, .unset, .unset, .unset, .unset] [(.int (0 : Int32))])) _
            refine XS.istoreN X0.here hx rfl (hb hby at_3) rfl (l' := #[.val (.int p0), .val (.int p1), .val (.int (0 : Int32)), .unset, .unset, .unset, .unset]) rfl ?_
            show Steps p.tables e below (s₁.setTop (mkF m 4 #[.val (.int p0), .val (.int p1), .val (.int (0 : Int32)), .unset, .unset, .unset, .unset] [])) _
            refine XS.iloadN X0.here hx rfl (hb hby at_4) rfl ?_
            show Steps p.tables e below (s₁.setTop (mkF m 5 #[.val (.int p0), .val (.int p1), .val (.int (0 : Int32)), .unset, .unset, .unset, .unset] [(.int p1)])) _
            refine XS.iconst X0.here hx rfl (hb hby at_5) ?_
            show Steps p.tables e below (s₁.setTop (mkF m 6 #[.val (.int p0), .val (.int p1), .val (.int (0 : Int32)), .unset, .unset, .unset, .unset] [(.int (3 : Int32)), (.int p1)])) _
            refine XS.iand X0.here hx rfl (hb hby at_6) rfl ?_
            show Steps p.tables e below (s₁.setTop (mkF m 7 #[.val (.int p0), .val (.int p1), .val (.int (0 : Int32)), .unset, .unset, .unset, .unset] [(.int (p1 &&& (3 : Int32)))])) _
            exact kt
          have pre67 : ∀ t, Steps p.tables e below (s₁.setTop (mkF m 7 #[.val (.int p0), .val (.int p1), .val (.int (0 : Int32)), .unset, .unset, .unset, .unset] [(.int (3 : Int32))])) t → Steps p.tables e below (s₁.setTop (entryFrame m #[(.int p0), (.int p1)] maxLocals)) t := fun t kt => pre66 t (by rw [(by rw [hL63] <;> decide : (p1 &&& (3 : Int32)) = (3 : Int32))]; exact kt)
          obtain ⟨_, _, ⟨T68, L68, k68, n68⟩, -, X68, ⟨Lc68, hQ68, l68, y68, z68⟩, st68⟩ := Jvm.LawKit.callS X0 hx (y := Y0) hown (mvT hZ (hw _ (tk 0 rfl))) (mvT hZ (hw _ (tk 1 rfl))) (mvT hZ (hw _ (tk 2 rfl))) (mvT hZ (hw _ (tk 3 rfl))) (by decide) (backOf (W := 0) (rm1 l Z a0 hw [] w_1 w_2 w_3 w_4 hS0 (0 : Int32) h0 n0 O0) hZ (hw _ (tk 3 rfl)) (hw _ (tk 2 rfl)) (by decide) (by decide)) (g := (mkF m 9 #[.val (.int p0), .val (.int p1), .val (.int (0 : Int32)), .val (.int (3 : Int32)), .unset, .unset, .unset] [(.int (0 : Int32))])) rfl (by rw [hml]; rfl) (argsL := [(.int (0 : Int32))]) (rest := []) (lenOf pd_0 rfl) rfl (by show 2 * 0 + _ ≤ _; exact Nat.le_of_eq rfl) (hb hby at_9) (fun _ _ => ⟨rfl, e0, (by decide : 0 + 0 ≤ _), (by decide : 0 + 0 ≤ _)⟩)
          dsimp only [Pt.U, Pt.locs, Pt.cells, Pt.slots] at X68 l68 y68 z68 st68 hQ68
          subst l68 y68 z68
          obtain ⟨rv68, N68q, e68⟩ := hQ68
          rw [show sp1 w_1 w_2 w_3 w_4 (0 : Int32) = (.ref w_1) from by unfold sp1; rw [if_pos (by decide : (((0 : Int32) &&& (3 : Int32)) = (0 : Int32)))]] at rv68
          subst rv68
          have N68 := Fr.app N0 N68q
          obtain ⟨_, _, ⟨T69, L69, k69, n69⟩, -, X69, ⟨Lc69, hQ69, l69, y69, z69⟩, st69⟩ := Jvm.LawKit.callS X68 hx (y := Y0) hown (mvT hZ (hw _ (tk 0 rfl))) (mvT hZ (hw _ (tk 1 rfl))) (mvT hZ (hw _ (tk 2 rfl))) (mvT hZ (hw _ (tk 3 rfl))) (by decide) (backOf (W := 0) (rm1 l Z a0 hw [] w_1 w_2 w_3 w_4 hS0 (3 : Int32) h0 n0 O0) hZ (hw _ (tk 3 rfl)) (hw _ (tk 2 rfl)) (by decide) (by decide)) (g := (mkF m 15 #[.val (.int p0), .val (.int p1), .val (.int (0 : Int32)), .val (.int (3 : Int32)), .val (.ref w_1), .unset, .unset] [(.int (3 : Int32))])) rfl (by rw [hml]; rfl) (argsL := [(.int (3 : Int32))]) (rest := []) (lenOf pd_0 rfl) rfl (by show 2 * 0 + _ ≤ _; exact Nat.le_of_eq rfl) (hb hby at_15) (fun _ _ => ⟨rfl, e68, (by decide : 0 + 0 ≤ _), (by decide : 0 + 0 ≤ _)⟩)
          dsimp only [Pt.U, Pt.locs, Pt.cells, Pt.slots] at X69 l69 y69 z69 st69 hQ69
          subst l69 y69 z69
          obtain ⟨rv69, N69q, e69⟩ := hQ69
          rw [show sp1 w_1 w_2 w_3 w_4 (3 : Int32) = (.ref w_2) from by unfold sp1; rw [if_neg (by decide : ¬ (((3 : Int32) &&& (3 : Int32)) = (0 : Int32))), if_neg (by decide : ¬ (((3 : Int32) &&& (3 : Int32)) = (1 : Int32))), if_neg (by decide : ¬ (((3 : Int32) &&& (3 : Int32)) = (2 : Int32)))]] at rv69
          subst rv69
          have N69 := Fr.app N68 N69q
          obtain ⟨cq70, kq70, q70a, q70b, q70c⟩ := isOf hZ e69 (E_1.ext O0.2)
          obtain ⟨_, _, ⟨T70, L70, k70, n70⟩, -, X70, ⟨Lc70, hQ70, l70, y70, z70⟩, st70⟩ := X69.virtualBack hx (y := Y1) (z := Y1) hown (mvT hZ (hw _ (tk 9 rfl))) (mvT hZ (hw _ (tk 10 rfl))) (notFace_of_selects (args := #[]) (mvT hZ (hw _ (tk 12 rfl)))) (mvT hZ (hw _ (tk 12 rfl))) (mvT hZ (hw _ (tk 11 rfl))) (by decide) (backOf (W := 0) (rm2 l Z a0 hw [] w_1 w_2 w_3 w_4 hS0 w_1 w_2 (1 : Int32) h0 n0 O0 (F_1_sharedWithItself.ext O0.2)) hZ (hw _ (tk 13 rfl)) (hw _ (tk 5 rfl)) (by decide) (by decide)) q70a q70c (g := (mkF m 47 #[.val (.int p0), .val (.int p1), .val (.int (0 : Int32)), .val (.int (3 : Int32)), .val (.ref w_1), .val (.ref w_2), .val (.int (1 : Int32))] [(.ref w_2), (.ref w_1)])) rfl (by rw [hml]; rfl) (Steps.refl _) (argsL := [(.ref w_2)]) (rest := []) (lenOf pd_1 rfl) rfl (by show 2 * 0 + _ ≤ _; exact Nat.le_of_eq rfl) (hb hby at_47) (fun _ _ => ⟨rfl, e69, (by decide : 0 + 0 ≤ _), (by decide : 0 + 0 ≤ _)⟩)
          dsimp only [Pt.U, Pt.locs, Pt.cells, Pt.slots] at X70 l70 y70 z70 st70 hQ70
          subst l70 y70 z70
          obtain ⟨rv70, N70q, e70⟩ := hQ70
          rw [show sp2 w_1 w_2 (1 : Int32) = (1 : Int32) from by unfold sp2; rw [if_neg (Fld.ne F_1_ordinal F_2_ordinal (by decide))]] at rv70
          subst rv70
          have N70 := Fr.app N69 N70q
          obtain ⟨fs, hr, hrun, hended, hW, hsame⟩ := X70.leave (v := some (.int (1 : Int32))) (fun h => by rw [Bd.returns] at h; cases h)
          refine ⟨_, _, pre67 _ ?_, hrun, hended, _, _, rfl, ?_, ⟨_, rfl⟩, hW, hsame.mono (by decide) (by decide)⟩
          · show Steps p.tables e below (s₁.setTop (mkF m 7 #[.val (.int p0), .val (.int p1), .val (.int (0 : Int32)), .unset, .unset, .unset, .unset] [(.int (3 : Int32))])) _
            refine XS.istoreN X0.here hx rfl (hb hby at_7) rfl (l' := #[.val (.int p0), .val (.int p1), .val (.int (0 : Int32)), .val (.int (3 : Int32)), .unset, .unset, .unset]) rfl ?_
            show Steps p.tables e below (s₁.setTop (mkF m 8 #[.val (.int p0), .val (.int p1), .val (.int (0 : Int32)), .val (.int (3 : Int32)), .unset, .unset, .unset] [])) _
            refine XS.iloadN X0.here hx rfl (hb hby at_8) rfl ?_
            show Steps p.tables e below (s₁.setTop (mkF m 9 #[.val (.int p0), .val (.int p1), .val (.int (0 : Int32)), .val (.int (3 : Int32)), .unset, .unset, .unset] [(.int (0 : Int32))])) _
            refine st68 _ ?_
            show Steps p.tables e below (T68.setTop (mkF m 12 #[.val (.int p0), .val (.int p1), .val (.int (0 : Int32)), .val (.int (3 : Int32)), .unset, .unset, .unset] [(.ref w_1)])) _
            refine XS.astore X68.here hx rfl (hb hby at_12) rfl rfl (l' := #[.val (.int p0), .val (.int p1), .val (.int (0 : Int32)), .val (.int (3 : Int32)), .val (.ref w_1), .unset, .unset]) rfl ?_
            show Steps p.tables e below (T68.setTop (mkF m 14 #[.val (.int p0), .val (.int p1), .val (.int (0 : Int32)), .val (.int (3 : Int32)), .val (.ref w_1), .unset, .unset] [])) _
            refine XS.iloadN X68.here hx rfl (hb hby at_14) rfl ?_
            show Steps p.tables e below (T68.setTop (mkF m 15 #[.val (.int p0), .val (.int p1), .val (.int (0 : Int32)), .val (.int (3 : Int32)), .val (.ref w_1), .unset, .unset] [(.int (3 : Int32))])) _
            refine st69 _ ?_
            show Steps p.tables e below (T69.setTop (mkF m 18 #[.val (.int p0), .val (.int p1), .val (.int (0 : Int32)), .val (.int (3 : Int32)), .val (.ref w_1), .unset, .unset] [(.ref w_2)])) _
            refine XS.astore X69.here hx rfl (hb hby at_18) rfl rfl (l' := #[.val (.int p0), .val (.int p1), .val (.int (0 : Int32)), .val (.int (3 : Int32)), .val (.ref w_1), .val (.ref w_2), .unset]) rfl ?_
            show Steps p.tables e below (T69.setTop (mkF m 20 #[.val (.int p0), .val (.int p1), .val (.int (0 : Int32)), .val (.int (3 : Int32)), .val (.ref w_1), .val (.ref w_2), .unset] [])) _
            refine XS.iloadN X69.here hx rfl (hb hby at_20) rfl ?_
            show Steps p.tables e below (T69.setTop (mkF m 21 #[.val (.int p0), .val (.int p1), .val (.int (0 : Int32)), .val (.int (3 : Int32)), .val (.ref w_1), .val (.ref w_2), .unset] [(.int (0 : Int32))])) _
            refine XS.iloadN X69.here hx rfl (hb hby at_21) rfl ?_
            show Steps p.tables e below (T69.setTop (mkF m 22 #[.val (.int p0), .val (.int p1), .val (.int (0 : Int32)), .val (.int (3 : Int32)), .val (.ref w_1), .val (.ref w_2), .unset] [(.int (3 : Int32)), (.int (0 : Int32))])) _
            refine XS.icmpYes X69.here hx rfl (pc0 := 22) (pc' := 40) rfl (hb hby at_22) rfl (feq (by decide : ¬ ((0 : Int32) = (3 : Int32)))).2 (by decide) (by decide) ?_
            show Steps p.tables e below (T69.setTop (mkF m 40 #[.val (.int p0), .val (.int p1), .val (.int (0 : Int32)), .val (.int (3 : Int32)), .val (.ref w_1), .val (.ref w_2), .unset] [])) _
            refine XS.iconst X69.here hx rfl (hb hby at_40) ?_
            show Steps p.tables e below (T69.setTop (mkF m 41 #[.val (.int p0), .val (.int p1), .val (.int (0 : Int32)), .val (.int (3 : Int32)), .val (.ref w_1), .val (.ref w_2), .unset] [(.int (1 : Int32))])) _
            refine XS.istore X69.here hx rfl (hb hby at_41) rfl (l' := #[.val (.int p0), .val (.int p1), .val (.int (0 : Int32)), .val (.int (3 : Int32)), .val (.ref w_1), .val (.ref w_2), .val (.int (1 : Int32))]) rfl ?_
            show Steps p.tables e below (T69.setTop (mkF m 43 #[.val (.int p0), .val (.int p1), .val (.int (0 : Int32)), .val (.int (3 : Int32)), .val (.ref w_1), .val (.ref w_2), .val (.int (1 : Int32))] [])) _
            refine XS.aload X69.here hx rfl (hb hby at_43) rfl rfl ?_
            show Steps p.tables e below (T69.setTop (mkF m 45 #[.val (.int p0), .val (.int p1), .val (.int (0 : Int32)), .val (.int (3 : Int32)), .val (.ref w_1), .val (.ref w_2), .val (.int (1 : Int32))] [(.ref w_1)])) _
            refine XS.aload X69.here hx rfl (hb hby at_45) rfl rfl ?_
            show Steps p.tables e below (T69.setTop (mkF m 47 #[.val (.int p0), .val (.int p1), .val (.int (0 : Int32)), .val (.int (3 : Int32)), .val (.ref w_1), .val (.ref w_2), .val (.int (1 : Int32))] [(.ref w_2), (.ref w_1)])) _
            refine st70.trans ?_
            show Steps p.tables e below (T70.setTop (mkF m 50 #[.val (.int p0), .val (.int p1), .val (.int (0 : Int32)), .val (.int (3 : Int32)), .val (.ref w_1), .val (.ref w_2), .val (.int (1 : Int32))] [(.int (1 : Int32))])) _
            refine XS.iload X70.here hx rfl (hb hby at_50) rfl ?_
            show Steps p.tables e below (T70.setTop (mkF m 52 #[.val (.int p0), .val (.int p1), .val (.int (0 : Int32)), .val (.int (3 : Int32)), .val (.ref w_1), .val (.ref w_2), .val (.int (1 : Int32))] [(.int (1 : Int32)), (.int (1 : Int32))])) _
            refine XS.icmpNo X70.here hx rfl (hb hby at_52) rfl (teq (by decide : ((1 : Int32) = (1 : Int32)))).2 ?_
            show Steps p.tables e below (T70.setTop (mkF m 55 #[.val (.int p0), .val (.int p1), .val (.int (0 : Int32)), .val (.int (3 : Int32)), .val (.ref w_1), .val (.ref w_2), .val (.int (1 : Int32))] [])) _
            refine XS.iconst X70.here hx rfl (hb hby at_55) ?_
            show Steps p.tables e below (T70.setTop (mkF m 56 #[.val (.int p0), .val (.int p1), .val (.int (0 : Int32)), .val (.int (3 : Int32)), .val (.ref w_1), .val (.ref w_2), .val (.int (1 : Int32))] [(.int (1 : Int32))])) _
            refine XS.goto X70.here hx rfl (pc0 := 56) (pc' := 60) rfl (hb hby at_56) (by decide) (by decide) ?_
            show Steps p.tables e below (T70.setTop (mkF m 60 #[.val (.int p0), .val (.int p1), .val (.int (0 : Int32)), .val (.int (3 : Int32)), .val (.ref w_1), .val (.ref w_2), .val (.int (1 : Int32))] [(.int (1 : Int32))])) _
            exact retN X70 hx (t := .boolean) Bd.returns (by simp) (hb hby at_60) hr
          · show Q0 Z w_1 w_2 w_3 w_4 p0 p1 h0 n0 _ T70.heap _
            rw [e70]
            exact ⟨by unfold sp0; rw [if_pos hc23, if_neg hc24, if_neg hc47, if_neg hc55], N70, rfl⟩
  · by_cases hc71 : (p0 &&& (3 : Int32)) = (1 : Int32)
    · by_cases hc72 : (p1 &&& (3 : Int32)) = (0 : Int32)
      · have pre73 : ∀ t, Steps p.tables e below (s₁.setTop (mkF m 3 #[.val (.int p0), .val (.int p1), .unset, .unset, .unset, .unset, .unset] [(.int (p0 &&& (3 : Int32)))])) t → Steps p.tables e below (s₁.setTop (entryFrame m #[(.int p0), (.int p1)] maxLocals)) t := fun t kt => by
          refine pre0 t ?_
          show Steps p.tables e below (s₁.setTop (mkF m 0 #[.val (.int p0), .val (.int p1), .unset, .unset, .unset, .unset, .unset] [])) _
          refine XS.iloadN X0.here hx rfl (hb hby at_0) rfl ?_
          show Steps p.tables e below (s₁.setTop (mkF m 1 #[.val (.int p0), .val (.int p1), .unset, .unset, .unset, .unset, .unset] [(.int p0)])) _
          refine XS.iconst X0.here hx rfl (hb hby at_1) ?_
          show Steps p.tables e below (s₁.setTop (mkF m 2 #[.val (.int p0), .val (.int p1), .unset, .unset, .unset, .unset, .unset] [(.int (3 : Int32)), (.int p0)])) _
          refine XS.iand X0.here hx rfl (hb hby at_2) rfl ?_
          show Steps p.tables e below (s₁.setTop (mkF m 3 #[.val (.int p0), .val (.int p1), .unset, .unset, .unset, .unset, .unset] [(.int (p0 &&& (3 : Int32)))])) _
          exact kt
        have pre74 : ∀ t, Steps p.tables e below (s₁.setTop (mkF m 3 #[.val (.int p0), .val (.int p1), .unset, .unset, .unset, .unset, .unset] [(.int (1 : Int32))])) t → Steps p.tables e below (s₁.setTop (entryFrame m #[(.int p0), (.int p1)] maxLocals)) t := fun t kt => pre73 t (by rw [(by rw [hc71] <;> decide : (p0 &&& (3 : Int32)) = (1 : Int32))]; exact kt)
        have pre75 : ∀ t, Steps p.tables e below (s₁.setTop (mkF m 7 #[.val (.int p0), .val (.int p1), .val (.int (1 : Int32)), .unset, .unset, .unset, .unset] [(.int (p1 &&& (3 : Int32)))])) t → Steps p.tables e below (s₁.setTop (entryFrame m #[(.int p0), (.int p1)] maxLocals)) t := fun t kt => by
          refine pre74 t ?_
          show Steps p.tables e below (s₁.setTop (mkF m 3 #[.val (.int p0), .val (.int p1), .unset, .unset, .unset, .unset, .unset] [(.int (1 : Int32))])) _
          refine XS.istoreN X0.here hx rfl (hb hby at_3) rfl (l' := #[.val (.int p0), .val (.int p1), .val (.int (1 : Int32)), .unset, .unset, .unset, .unset]) rfl ?_
          show Steps p.tables e below (s₁.setTop (mkF m 4 #[.val (.int p0), .val (.int p1), .val (.int (1 : Int32)), .unset, .unset, .unset, .unset] [])) _
          refine XS.iloadN X0.here hx rfl (hb hby at_4) rfl ?_
          show Steps p.tables e below (s₁.setTop (mkF m 5 #[.val (.int p0), .val (.int p1), .val (.int (1 : Int32)), .unset, .unset, .unset, .unset] [(.int p1)])) _
          refine XS.iconst X0.here hx rfl (hb hby at_5) ?_
          show Steps p.tables e below (s₁.setTop (mkF m 6 #[.val (.int p0), .val (.int p1), .val (.int (1 : Int32)), .unset, .unset, .unset, .unset] [(.int (3 : Int32)), (.int p1)])) _
          refine XS.iand X0.here hx rfl (hb hby at_6) rfl ?_
          show Steps p.tables e below (s₁.setTop (mkF m 7 #[.val (.int p0), .val (.int p1), .val (.int (1 : Int32)), .unset, .unset, .unset, .unset] [(.int (p1 &&& (3 : Int32)))])) _
          exact kt
        have pre76 : ∀ t, Steps p.tables e below (s₁.setTop (mkF m 7 #[.val (.int p0), .val (.int p1), .val (.int (1 : Int32)), .unset, .unset, .unset, .unset] [(.int (0 : Int32))])) t → Steps p.tables e below (s₁.setTop (entryFrame m #[(.int p0), (.int p1)] maxLocals)) t := fun t kt => pre75 t (by rw [(by rw [hc72] <;> decide : (p1 &&& (3 : Int32)) = (0 : Int32))]; exact kt)
        obtain ⟨_, _, ⟨T77, L77, k77, n77⟩, -, X77, ⟨Lc77, hQ77, l77, y77, z77⟩, st77⟩ := Jvm.LawKit.callS X0 hx (y := Y0) hown (mvT hZ (hw _ (tk 0 rfl))) (mvT hZ (hw _ (tk 1 rfl))) (mvT hZ (hw _ (tk 2 rfl))) (mvT hZ (hw _ (tk 3 rfl))) (by decide) (backOf (W := 0) (rm1 l Z a0 hw [] w_1 w_2 w_3 w_4 hS0 (1 : Int32) h0 n0 O0) hZ (hw _ (tk 3 rfl)) (hw _ (tk 2 rfl)) (by decide) (by decide)) (g := (mkF m 9 #[.val (.int p0), .val (.int p1), .val (.int (1 : Int32)), .val (.int (0 : Int32)), .unset, .unset, .unset] [(.int (1 : Int32))])) rfl (by rw [hml]; rfl) (argsL := [(.int (1 : Int32))]) (rest := []) (lenOf pd_0 rfl) rfl (by show 2 * 0 + _ ≤ _; exact Nat.le_of_eq rfl) (hb hby at_9) (fun _ _ => ⟨rfl, e0, (by decide : 0 + 0 ≤ _), (by decide : 0 + 0 ≤ _)⟩)
        dsimp only [Pt.U, Pt.locs, Pt.cells, Pt.slots] at X77 l77 y77 z77 st77 hQ77
        subst l77 y77 z77
        obtain ⟨rv77, N77q, e77⟩ := hQ77
        rw [show sp1 w_1 w_2 w_3 w_4 (1 : Int32) = (.ref w_4) from by unfold sp1; rw [if_neg (by decide : ¬ (((1 : Int32) &&& (3 : Int32)) = (0 : Int32))), if_pos (by decide : (((1 : Int32) &&& (3 : Int32)) = (1 : Int32)))]] at rv77
        subst rv77
        have N77 := Fr.app N0 N77q
        obtain ⟨_, _, ⟨T78, L78, k78, n78⟩, -, X78, ⟨Lc78, hQ78, l78, y78, z78⟩, st78⟩ := Jvm.LawKit.callS X77 hx (y := Y0) hown (mvT hZ (hw _ (tk 0 rfl))) (mvT hZ (hw _ (tk 1 rfl))) (mvT hZ (hw _ (tk 2 rfl))) (mvT hZ (hw _ (tk 3 rfl))) (by decide) (backOf (W := 0) (rm1 l Z a0 hw [] w_1 w_2 w_3 w_4 hS0 (0 : Int32) h0 n0 O0) hZ (hw _ (tk 3 rfl)) (hw _ (tk 2 rfl)) (by decide) (by decide)) (g := (mkF m 15 #[.val (.int p0), .val (.int p1), .val (.int (1 : Int32)), .val (.int (0 : Int32)), .val (.ref w_4), .unset, .unset] [(.int (0 : Int32))])) rfl (by rw [hml]; rfl) (argsL := [(.int (0 : Int32))]) (rest := []) (lenOf pd_0 rfl) rfl (by show 2 * 0 + _ ≤ _; exact Nat.le_of_eq rfl) (hb hby at_15) (fun _ _ => ⟨rfl, e77, (by decide : 0 + 0 ≤ _), (by decide : 0 + 0 ≤ _)⟩)
        dsimp only [Pt.U, Pt.locs, Pt.cells, Pt.slots] at X78 l78 y78 z78 st78 hQ78
        subst l78 y78 z78
        obtain ⟨rv78, N78q, e78⟩ := hQ78
        rw [show sp1 w_1 w_2 w_3 w_4 (0 : Int32) = (.ref w_1) from by unfold sp1; rw [if_pos (by decide : (((0 : Int32) &&& (3 : Int32)) = (0 : Int32)))]] at rv78
        subst rv78
        have N78 := Fr.app N77 N78q
        obtain ⟨cq79, kq79, q79a, q79b, q79c⟩ := isOf hZ e78 (E_4.ext O0.2)
        obtain ⟨_, _, ⟨T79, L79, k79, n79⟩, -, X79, ⟨Lc79, hQ79, l79, y79, z79⟩, st79⟩ := X78.virtualBack hx (y := Y1) (z := Y1) hown (mvT hZ (hw _ (tk 9 rfl))) (mvT hZ (hw _ (tk 10 rfl))) (notFace_of_selects (args := #[]) (mvT hZ (hw _ (tk 12 rfl)))) (mvT hZ (hw _ (tk 12 rfl))) (mvT hZ (hw _ (tk 11 rfl))) (by decide) (backOf (W := 0) (rm2 l Z a0 hw [] w_1 w_2 w_3 w_4 hS0 w_4 w_1 (1 : Int32) h0 n0 O0 (F_4_sharedWithItself.ext O0.2)) hZ (hw _ (tk 13 rfl)) (hw _ (tk 5 rfl)) (by decide) (by decide)) q79a q79c (g := (mkF m 47 #[.val (.int p0), .val (.int p1), .val (.int (1 : Int32)), .val (.int (0 : Int32)), .val (.ref w_4), .val (.ref w_1), .val (.int (1 : Int32))] [(.ref w_1), (.ref w_4)])) rfl (by rw [hml]; rfl) (Steps.refl _) (argsL := [(.ref w_1)]) (rest := []) (lenOf pd_1 rfl) rfl (by show 2 * 0 + _ ≤ _; exact Nat.le_of_eq rfl) (hb hby at_47) (fun _ _ => ⟨rfl, e78, (by decide : 0 + 0 ≤ _), (by decide : 0 + 0 ≤ _)⟩)
        dsimp only [Pt.U, Pt.locs, Pt.cells, Pt.slots] at X79 l79 y79 z79 st79 hQ79
        subst l79 y79 z79
        obtain ⟨rv79, N79q, e79⟩ := hQ79
        rw [show sp2 w_4 w_1 (1 : Int32) = (1 : Int32) from by unfold sp2; rw [if_neg (Fld.ne F_4_ordinal F_1_ordinal (by decide))]] at rv79
        subst rv79
        have N79 := Fr.app N78 N79q
        obtain ⟨fs, hr, hrun, hended, hW, hsame⟩ := X79.leave (v := some (.int (1 : Int32))) (fun h => by rw [Bd.returns] at h; cases h)
        refine ⟨_, _, pre76 _ ?_, hrun, hended, _, _, rfl, ?_, ⟨_, rfl⟩, hW, hsame.mono (by decide) (by decide)⟩
        · show Steps p.tables e below (s₁.setTop (mkF m 7 #[.val (.int p0), .val (.int p1), .val (.int (1 : Int32)), .unset, .unset, .unset, .unset] [(.int (0 : Int32))])) _
          refine XS.istoreN X0.here hx rfl (hb hby at_7) rfl (l' := #[.val (.int p0), .val (.int p1), .val (.int (1 : Int32)), .val (.int (0 : Int32)), .unset, .unset, .unset]) rfl ?_
          show Steps p.tables e below (s₁.setTop (mkF m 8 #[.val (.int p0), .val (.int p1), .val (.int (1 : Int32)), .val (.int (0 : Int32)), .unset, .unset, .unset] [])) _
          refine XS.iloadN X0.here hx rfl (hb hby at_8) rfl ?_
          show Steps p.tables e below (s₁.setTop (mkF m 9 #[.val (.int p0), .val (.int p1), .val (.int (1 : Int32)), .val (.int (0 : Int32)), .unset, .unset, .unset] [(.int (1 : Int32))])) _
          refine st77 _ ?_
          show Steps p.tables e below (T77.setTop (mkF m 12 #[.val (.int p0), .val (.int p1), .val (.int (1 : Int32)), .val (.int (0 : Int32)), .unset, .unset, .unset] [(.ref w_4)])) _
          refine XS.astore X77.here hx rfl (hb hby at_12) rfl rfl (l' := #[.val (.int p0), .val (.int p1), .val (.int (1 : Int32)), .val (.int (0 : Int32)), .val (.ref w_4), .unset, .unset]) rfl ?_
          show Steps p.tables e below (T77.setTop (mkF m 14 #[.val (.int p0), .val (.int p1), .val (.int (1 : Int32)), .val (.int (0 : Int32)), .val (.ref w_4), .unset, .unset] [])) _
          refine XS.iloadN X77.here hx rfl (hb hby at_14) rfl ?_
          show Steps p.tables e below (T77.setTop (mkF m 15 #[.val (.int p0), .val (.int p1), .val (.int (1 : Int32)), .val (.int (0 : Int32)), .val (.ref w_4), .unset, .unset] [(.int (0 : Int32))])) _
          refine st78 _ ?_
          show Steps p.tables e below (T78.setTop (mkF m 18 #[.val (.int p0), .val (.int p1), .val (.int (1 : Int32)), .val (.int (0 : Int32)), .val (.ref w_4), .unset, .unset] [(.ref w_1)])) _
          refine XS.astore X78.here hx rfl (hb hby at_18) rfl rfl (l' := #[.val (.int p0), .val (.int p1), .val (.int (1 : Int32)), .val (.int (0 : Int32)), .val (.ref w_4), .val (.ref w_1), .unset]) rfl ?_
          show Steps p.tables e below (T78.setTop (mkF m 20 #[.val (.int p0), .val (.int p1), .val (.int (1 : Int32)), .val (.int (0 : Int32)), .val (.ref w_4), .val (.ref w_1), .unset] [])) _
          refine XS.iloadN X78.here hx rfl (hb hby at_20) rfl ?_
          show Steps p.tables e below (T78.setTop (mkF m 21 #[.val (.int p0), .val (.int p1), .val (.int (1 : Int32)), .val (.int (0 : Int32)), .val (.ref w_4), .val (.ref w_1), .unset] [(.int (1 : Int32))])) _
          refine XS.iloadN X78.here hx rfl (hb hby at_21) rfl ?_
          show Steps p.tables e below (T78.setTop (mkF m 22 #[.val (.int p0), .val (.int p1), .val (.int (1 : Int32)), .val (.int (0 : Int32)), .val (.ref w_4), .val (.ref w_1), .unset] [(.int (0 : Int32)), (.int (1 : Int32))])) _
          refine XS.icmpYes X78.here hx rfl (pc0 := 22) (pc' := 40) rfl (hb hby at_22) rfl (feq (by decide : ¬ ((1 : Int32) = (0 : Int32)))).2 (by decide) (by decide) ?_
          show Steps p.tables e below (T78.setTop (mkF m 40 #[.val (.int p0), .val (.int p1), .val (.int (1 : Int32)), .val (.int (0 : Int32)), .val (.ref w_4), .val (.ref w_1), .unset] [])) _
          refine XS.iconst X78.here hx rfl (hb hby at_40) ?_
          show Steps p.tables e below (T78.setTop (mkF m 41 #[.val (.int p0), .val (.int p1), .val (.int (1 : Int32)), .val (.int (0 : Int32)), .val (.ref w_4), .val (.ref w_1), .unset] [(.int (1 : Int32))])) _
          refine XS.istore X78.here hx rfl (hb hby at_41) rfl (l' := #[.val (.int p0), .val (.int p1), .val (.int (1 : Int32)), .val (.int (0 : Int32)), .val (.ref w_4), .val (.ref w_1), .val (.int (1 : Int32))]) rfl ?_
          show Steps p.tables e below (T78.setTop (mkF m 43 #[.val (.int p0), .val (.int p1), .val (.int (1 : Int32)), .val (.int (0 : Int32)), .val (.ref w_4), .val (.ref w_1), .val (.int (1 : Int32))] [])) _
          refine XS.aload X78.here hx rfl (hb hby at_43) rfl rfl ?_
          show Steps p.tables e below (T78.setTop (mkF m 45 #[.val (.int p0), .val (.int p1), .val (.int (1 : Int32)), .val (.int (0 : Int32)), .val (.ref w_4), .val (.ref w_1), .val (.int (1 : Int32))] [(.ref w_4)])) _
          refine XS.aload X78.here hx rfl (hb hby at_45) rfl rfl ?_
          show Steps p.tables e below (T78.setTop (mkF m 47 #[.val (.int p0), .val (.int p1), .val (.int (1 : Int32)), .val (.int (0 : Int32)), .val (.ref w_4), .val (.ref w_1), .val (.int (1 : Int32))] [(.ref w_1), (.ref w_4)])) _
          refine st79.trans ?_
          show Steps p.tables e below (T79.setTop (mkF m 50 #[.val (.int p0), .val (.int p1), .val (.int (1 : Int32)), .val (.int (0 : Int32)), .val (.ref w_4), .val (.ref w_1), .val (.int (1 : Int32))] [(.int (1 : Int32))])) _
          refine XS.iload X79.here hx rfl (hb hby at_50) rfl ?_
          show Steps p.tables e below (T79.setTop (mkF m 52 #[.val (.int p0), .val (.int p1), .val (.int (1 : Int32)), .val (.int (0 : Int32)), .val (.ref w_4), .val (.ref w_1), .val (.int (1 : Int32))] [(.int (1 : Int32)), (.int (1 : Int32))])) _
          refine XS.icmpNo X79.here hx rfl (hb hby at_52) rfl (teq (by decide : ((1 : Int32) = (1 : Int32)))).2 ?_
          show Steps p.tables e below (T79.setTop (mkF m 55 #[.val (.int p0), .val (.int p1), .val (.int (1 : Int32)), .val (.int (0 : Int32)), .val (.ref w_4), .val (.ref w_1), .val (.int (1 : Int32))] [])) _
          refine XS.iconst X79.here hx rfl (hb hby at_55) ?_
          show Steps p.tables e below (T79.setTop (mkF m 56 #[.val (.int p0), .val (.int p1), .val (.int (1 : Int32)), .val (.int (0 : Int32)), .val (.ref w_4), .val (.ref w_1), .val (.int (1 : Int32))] [(.int (1 : Int32))])) _
          refine XS.goto X79.here hx rfl (pc0 := 56) (pc' := 60) rfl (hb hby at_56) (by decide) (by decide) ?_
          show Steps p.tables e below (T79.setTop (mkF m 60 #[.val (.int p0), .val (.int p1), .val (.int (1 : Int32)), .val (.int (0 : Int32)), .val (.ref w_4), .val (.ref w_1), .val (.int (1 : Int32))] [(.int (1 : Int32))])) _
          exact retN X79 hx (t := .boolean) Bd.returns (by simp) (hb hby at_60) hr
        · show Q0 Z w_1 w_2 w_3 w_4 p0 p1 h0 n0 _ T79.heap _
          rw [e79]
          exact ⟨by unfold sp0; rw [if_neg hc23, if_pos hc71, if_pos hc72], N79, rfl⟩
      · by_cases hc80 : (p1 &&& (3 : Int32)) = (1 : Int32)
        · have pre81 : ∀ t, Steps p.tables e below (s₁.setTop (mkF m 3 #[.val (.int p0), .val (.int p1), .unset, .unset, .unset, .unset, .unset] [(.int (p0 &&& (3 : Int32)))])) t → Steps p.tables e below (s₁.setTop (entryFrame m #[(.int p0), (.int p1)] maxLocals)) t := fun t kt => by
            refine pre0 t ?_
            show Steps p.tables e below (s₁.setTop (mkF m 0 #[.val (.int p0), .val (.int p1), .unset, .unset, .unset, .unset, .unset] [])) _
            refine XS.iloadN X0.here hx rfl (hb hby at_0) rfl ?_
            show Steps p.tables e below (s₁.setTop (mkF m 1 #[.val (.int p0), .val (.int p1), .unset, .unset, .unset, .unset, .unset] [(.int p0)])) _
            refine XS.iconst X0.here hx rfl (hb hby at_1) ?_
            show Steps p.tables e below (s₁.setTop (mkF m 2 #[.val (.int p0), .val (.int p1), .unset, .unset, .unset, .unset, .unset] [(.int (3 : Int32)), (.int p0)])) _
            refine XS.iand X0.here hx rfl (hb hby at_2) rfl ?_
            show Steps p.tables e below (s₁.setTop (mkF m 3 #[.val (.int p0), .val (.int p1), .unset, .unset, .unset, .unset, .unset] [(.int (p0 &&& (3 : Int32)))])) _
            exact kt
          have pre82 : ∀ t, Steps p.tables e below (s₁.setTop (mkF m 3 #[.val (.int p0), .val (.int p1), .unset, .unset, .unset, .unset, .unset] [(.int (1 : Int32))])) t → Steps p.tables e below (s₁.setTop (entryFrame m #[(.int p0), (.int p1)] maxLocals)) t := fun t kt => pre81 t (by rw [(by rw [hc71] <;> decide : (p0 &&& (3 : Int32)) = (1 : Int32))]; exact kt)
          have pre83 : ∀ t, Steps p.tables e below (s₁.setTop (mkF m 7 #[.val (.int p0), .val (.int p1), .val (.int (1 : Int32)), .unset, .unset, .unset, .unset] [(.int (p1 &&& (3 : Int32)))])) t → Steps p.tables e below (s₁.setTop (entryFrame m #[(.int p0), (.int p1)] maxLocals)) t := fun t kt => by
            refine pre82 t ?_
            show Steps p.tables e below (s₁.setTop (mkF m 3 #[.val (.int p0), .val (.int p1), .unset, .unset, .unset, .unset, .unset] [(.int (1 : Int32))])) _
            refine XS.istoreN X0.here hx rfl (hb hby at_3) rfl (l' := #[.val (.int p0), .val (.int p1), .val (.int (1 : Int32)), .unset, .unset, .unset, .unset]) rfl ?_
            show Steps p.tables e below (s₁.setTop (mkF m 4 #[.val (.int p0), .val (.int p1), .val (.int (1 : Int32)), .unset, .unset, .unset, .unset] [])) _
            refine XS.iloadN X0.here hx rfl (hb hby at_4) rfl ?_
            show Steps p.tables e below (s₁.setTop (mkF m 5 #[.val (.int p0), .val (.int p1), .val (.int (1 : Int32)), .unset, .unset, .unset, .unset] [(.int p1)])) _
            refine XS.iconst X0.here hx rfl (hb hby at_5) ?_
            show Steps p.tables e below (s₁.setTop (mkF m 6 #[.val (.int p0), .val (.int p1), .val (.int (1 : Int32)), .unset, .unset, .unset, .unset] [(.int (3 : Int32)), (.int p1)])) _
            refine XS.iand X0.here hx rfl (hb hby at_6) rfl ?_
            show Steps p.tables e below (s₁.setTop (mkF m 7 #[.val (.int p0), .val (.int p1), .val (.int (1 : Int32)), .unset, .unset, .unset, .unset] [(.int (p1 &&& (3 : Int32)))])) _
            exact kt
          have pre84 : ∀ t, Steps p.tables e below (s₁.setTop (mkF m 7 #[.val (.int p0), .val (.int p1), .val (.int (1 : Int32)), .unset, .unset, .unset, .unset] [(.int (1 : Int32))])) t → Steps p.tables e below (s₁.setTop (entryFrame m #[(.int p0), (.int p1)] maxLocals)) t := fun t kt => pre83 t (by rw [(by rw [hc80] <;> decide : (p1 &&& (3 : Int32)) = (1 : Int32))]; exact kt)
          obtain ⟨_, _, ⟨T85, L85, k85, n85⟩, -, X85, ⟨Lc85, hQ85, l85, y85, z85⟩, st85⟩ := Jvm.LawKit.callS X0 hx (y := Y0) hown (mvT hZ (hw _ (tk 0 rfl))) (mvT hZ (hw _ (tk 1 rfl))) (mvT hZ (hw _ (tk 2 rfl))) (mvT hZ (hw _ (tk 3 rfl))) (by decide) (backOf (W := 0) (rm1 l Z a0 hw [] w_1 w_2 w_3 w_4 hS0 (1 : Int32) h0 n0 O0) hZ (hw _ (tk 3 rfl)) (hw _ (tk 2 rfl)) (by decide) (by decide)) (g := (mkF m 9 #[.val (.int p0), .val (.int p1), .val (.int (1 : Int32)), .val (.int (1 : Int32)), .unset, .unset, .unset] [(.int (1 : Int32))])) rfl (by rw [hml]; rfl) (argsL := [(.int (1 : Int32))]) (rest := []) (lenOf pd_0 rfl) rfl (by show 2 * 0 + _ ≤ _; exact Nat.le_of_eq rfl) (hb hby at_9) (fun _ _ => ⟨rfl, e0, (by decide : 0 + 0 ≤ _), (by decide : 0 + 0 ≤ _)⟩)
          dsimp only [Pt.U, Pt.locs, Pt.cells, Pt.slots] at X85 l85 y85 z85 st85 hQ85
          subst l85 y85 z85
          obtain ⟨rv85, N85q, e85⟩ := hQ85
          rw [show sp1 w_1 w_2 w_3 w_4 (1 : Int32) = (.ref w_4) from by unfold sp1; rw [if_neg (by decide : ¬ (((1 : Int32) &&& (3 : Int32)) = (0 : Int32))), if_pos (by decide : (((1 : Int32) &&& (3 : Int32)) = (1 : Int32)))]] at rv85
          subst rv85
          have N85 := Fr.app N0 N85q
          obtain ⟨_, _, ⟨T86, L86, k86, n86⟩, -, X86, ⟨Lc86, hQ86, l86, y86, z86⟩, st86⟩ := Jvm.LawKit.callS X85 hx (y := Y0) hown (mvT hZ (hw _ (tk 0 rfl))) (mvT hZ (hw _ (tk 1 rfl))) (mvT hZ (hw _ (tk 2 rfl))) (mvT hZ (hw _ (tk 3 rfl))) (by decide) (backOf (W := 0) (rm1 l Z a0 hw [] w_1 w_2 w_3 w_4 hS0 (1 : Int32) h0 n0 O0) hZ (hw _ (tk 3 rfl)) (hw _ (tk 2 rfl)) (by decide) (by decide)) (g := (mkF m 15 #[.val (.int p0), .val (.int p1), .val (.int (1 : Int32)), .val (.int (1 : Int32)), .val (.ref w_4), .unset, .unset] [(.int (1 : Int32))])) rfl (by rw [hml]; rfl) (argsL := [(.int (1 : Int32))]) (rest := []) (lenOf pd_0 rfl) rfl (by show 2 * 0 + _ ≤ _; exact Nat.le_of_eq rfl) (hb hby at_15) (fun _ _ => ⟨rfl, e85, (by decide : 0 + 0 ≤ _), (by decide : 0 + 0 ≤ _)⟩)
          dsimp only [Pt.U, Pt.locs, Pt.cells, Pt.slots] at X86 l86 y86 z86 st86 hQ86
          subst l86 y86 z86
          obtain ⟨rv86, N86q, e86⟩ := hQ86
          rw [show sp1 w_1 w_2 w_3 w_4 (1 : Int32) = (.ref w_4) from by unfold sp1; rw [if_neg (by decide : ¬ (((1 : Int32) &&& (3 : Int32)) = (0 : Int32))), if_pos (by decide : (((1 : Int32) &&& (3 : Int32)) = (1 : Int32)))]] at rv86
          subst rv86
          have N86 := Fr.app N85 N86q
          obtain ⟨cq87, kq87, q87a, q87b, q87c⟩ := isOf hZ e86 (E_4.ext O0.2)
          obtain ⟨_, _, ⟨T87, L87, k87, n87⟩, -, X87, ⟨Lc87, hQ87, l87, y87, z87⟩, st87⟩ := X86.virtualBack hx (y := Y1) (z := Y1) hown (mvT hZ (hw _ (tk 9 rfl))) (mvT hZ (hw _ (tk 10 rfl))) (notFace_of_selects (args := #[]) (mvT hZ (hw _ (tk 12 rfl)))) (mvT hZ (hw _ (tk 12 rfl))) (mvT hZ (hw _ (tk 11 rfl))) (by decide) (backOf (W := 0) (rm2 l Z a0 hw [] w_1 w_2 w_3 w_4 hS0 w_4 w_4 (1 : Int32) h0 n0 O0 (F_4_sharedWithItself.ext O0.2)) hZ (hw _ (tk 13 rfl)) (hw _ (tk 5 rfl)) (by decide) (by decide)) q87a q87c (g := (mkF m 47 #[.val (.int p0), .val (.int p1), .val (.int (1 : Int32)), .val (.int (1 : Int32)), .val (.ref w_4), .val (.ref w_4), .val (.int (0 : Int32))] [(.ref w_4), (.ref w_4)])) rfl (by rw [hml]; rfl) (Steps.refl _) (argsL := [(.ref w_4)]) (rest := []) (lenOf pd_1 rfl) rfl (by show 2 * 0 + _ ≤ _; exact Nat.le_of_eq rfl) (hb hby at_47) (fun _ _ => ⟨rfl, e86, (by decide : 0 + 0 ≤ _), (by decide : 0 + 0 ≤ _)⟩)
          dsimp only [Pt.U, Pt.locs, Pt.cells, Pt.slots] at X87 l87 y87 z87 st87 hQ87
          subst l87 y87 z87
          obtain ⟨rv87, N87q, e87⟩ := hQ87
          rw [show sp2 w_4 w_4 (1 : Int32) = (0 : Int32) from by unfold sp2; rw [if_pos rfl, if_neg (by decide : ¬ ((1 : Int32) = (0 : Int32)))]] at rv87
          subst rv87
          have N87 := Fr.app N86 N87q
          obtain ⟨fs, hr, hrun, hended, hW, hsame⟩ := X87.leave (v := some (.int (1 : Int32))) (fun h => by rw [Bd.returns] at h; cases h)
          refine ⟨_, _, pre84 _ ?_, hrun, hended, _, _, rfl, ?_, ⟨_, rfl⟩, hW, hsame.mono (by decide) (by decide)⟩
          · show Steps p.tables e below (s₁.setTop (mkF m 7 #[.val (.int p0), .val (.int p1), .val (.int (1 : Int32)), .unset, .unset, .unset, .unset] [(.int (1 : Int32))])) _
            refine XS.istoreN X0.here hx rfl (hb hby at_7) rfl (l' := #[.val (.int p0), .val (.int p1), .val (.int (1 : Int32)), .val (.int (1 : Int32)), .unset, .unset, .unset]) rfl ?_
            show Steps p.tables e below (s₁.setTop (mkF m 8 #[.val (.int p0), .val (.int p1), .val (.int (1 : Int32)), .val (.int (1 : Int32)), .unset, .unset, .unset] [])) _
            refine XS.iloadN X0.here hx rfl (hb hby at_8) rfl ?_
            show Steps p.tables e below (s₁.setTop (mkF m 9 #[.val (.int p0), .val (.int p1), .val (.int (1 : Int32)), .val (.int (1 : Int32)), .unset, .unset, .unset] [(.int (1 : Int32))])) _
            refine st85 _ ?_
            show Steps p.tables e below (T85.setTop (mkF m 12 #[.val (.int p0), .val (.int p1), .val (.int (1 : Int32)), .val (.int (1 : Int32)), .unset, .unset, .unset] [(.ref w_4)])) _
            refine XS.astore X85.here hx rfl (hb hby at_12) rfl rfl (l' := #[.val (.int p0), .val (.int p1), .val (.int (1 : Int32)), .val (.int (1 : Int32)), .val (.ref w_4), .unset, .unset]) rfl ?_
            show Steps p.tables e below (T85.setTop (mkF m 14 #[.val (.int p0), .val (.int p1), .val (.int (1 : Int32)), .val (.int (1 : Int32)), .val (.ref w_4), .unset, .unset] [])) _
            refine XS.iloadN X85.here hx rfl (hb hby at_14) rfl ?_
            show Steps p.tables e below (T85.setTop (mkF m 15 #[.val (.int p0), .val (.int p1), .val (.int (1 : Int32)), .val (.int (1 : Int32)), .val (.ref w_4), .unset, .unset] [(.int (1 : Int32))])) _
            refine st86 _ ?_
            show Steps p.tables e below (T86.setTop (mkF m 18 #[.val (.int p0), .val (.int p1), .val (.int (1 : Int32)), .val (.int (1 : Int32)), .val (.ref w_4), .unset, .unset] [(.ref w_4)])) _
            refine XS.astore X86.here hx rfl (hb hby at_18) rfl rfl (l' := #[.val (.int p0), .val (.int p1), .val (.int (1 : Int32)), .val (.int (1 : Int32)), .val (.ref w_4), .val (.ref w_4), .unset]) rfl ?_
            show Steps p.tables e below (T86.setTop (mkF m 20 #[.val (.int p0), .val (.int p1), .val (.int (1 : Int32)), .val (.int (1 : Int32)), .val (.ref w_4), .val (.ref w_4), .unset] [])) _
            refine XS.iloadN X86.here hx rfl (hb hby at_20) rfl ?_
            show Steps p.tables e below (T86.setTop (mkF m 21 #[.val (.int p0), .val (.int p1), .val (.int (1 : Int32)), .val (.int (1 : Int32)), .val (.ref w_4), .val (.ref w_4), .unset] [(.int (1 : Int32))])) _
            refine XS.iloadN X86.here hx rfl (hb hby at_21) rfl ?_
            show Steps p.tables e below (T86.setTop (mkF m 22 #[.val (.int p0), .val (.int p1), .val (.int (1 : Int32)), .val (.int (1 : Int32)), .val (.ref w_4), .val (.ref w_4), .unset] [(.int (1 : Int32)), (.int (1 : Int32))])) _
            refine XS.icmpNo X86.here hx rfl (hb hby at_22) rfl (teq (by decide : ((1 : Int32) = (1 : Int32)))).2 ?_
            show Steps p.tables e below (T86.setTop (mkF m 25 #[.val (.int p0), .val (.int p1), .val (.int (1 : Int32)), .val (.int (1 : Int32)), .val (.ref w_4), .val (.ref w_4), .unset] [])) _
            refine XS.iloadN X86.here hx rfl (hb hby at_25) rfl ?_
            show Steps p.tables e below (T86.setTop (mkF m 26 #[.val (.int p0), .val (.int p1), .val (.int (1 : Int32)), .val (.int (1 : Int32)), .val (.ref w_4), .val (.ref w_4), .unset] [(.int (1 : Int32))])) _
            refine XS.ifNo X86.here hx rfl (hb hby at_26) rfl ((if0 _ _).trans (feq (by decide : ¬ ((1 : Int32) = (0 : Int32)))).1) ?_
            show Steps p.tables e below (T86.setTop (mkF m 29 #[.val (.int p0), .val (.int p1), .val (.int (1 : Int32)), .val (.int (1 : Int32)), .val (.ref w_4), .val (.ref w_4), .unset] [])) _
            refine XS.iloadN X86.here hx rfl (hb hby at_29) rfl ?_
            show Steps p.tables e below (T86.setTop (mkF m 30 #[.val (.int p0), .val (.int p1), .val (.int (1 : Int32)), .val (.int (1 : Int32)), .val (.ref w_4), .val (.ref w_4), .unset] [(.int (1 : Int32))])) _
            refine XS.iconst X86.here hx rfl (hb hby at_30) ?_
            show Steps p.tables e below (T86.setTop (mkF m 31 #[.val (.int p0), .val (.int p1), .val (.int (1 : Int32)), .val (.int (1 : Int32)), .val (.ref w_4), .val (.ref w_4), .unset] [(.int (1 : Int32)), (.int (1 : Int32))])) _
            refine XS.icmpNo X86.here hx rfl (hb hby at_31) rfl (teq (by decide : ((1 : Int32) = (1 : Int32)))).2 ?_
            show Steps p.tables e below (T86.setTop (mkF m 34 #[.val (.int p0), .val (.int p1), .val (.int (1 : Int32)), .val (.int (1 : Int32)), .val (.ref w_4), .val (.ref w_4), .unset] [])) _
            refine XS.iconst X86.here hx rfl (hb hby at_34) ?_
            show Steps p.tables e below (T86.setTop (mkF m 35 #[.val (.int p0), .val (.int p1), .val (.int (1 : Int32)), .val (.int (1 : Int32)), .val (.ref w_4), .val (.ref w_4), .unset] [(.int (0 : Int32))])) _
            refine XS.istore X86.here hx rfl (hb hby at_35) rfl (l' := #[.val (.int p0), .val (.int p1), .val (.int (1 : Int32)), .val (.int (1 : Int32)), .val (.ref w_4), .val (.ref w_4), .val (.int (0 : Int32))]) rfl ?_
            show Steps p.tables e below (T86.setTop (mkF m 37 #[.val (.int p0), .val (.int p1), .val (.int (1 : Int32)), .val (.int (1 : Int32)), .val (.ref w_4), .val (.ref w_4), .val (.int (0 : Int32))] [])) _
            refine XS.goto X86.here hx rfl (pc0 := 37) (pc' := 43) rfl (hb hby at_37) (by decide) (by decide) ?_
            show Steps p.tables e below (T86.setTop (mkF m 43 #[.val (.int p0), .val (.int p1), .val (.int (1 : Int32)), .val (.int (1 : Int32)), .val (.ref w_4), .val (.ref w_4), .val (.int (0 : Int32))] [])) _
            refine XS.aload X86.here hx rfl (hb hby at_43) rfl rfl ?_
            show Steps p.tables e below (T86.setTop (mkF m 45 #[.val (.int p0), .val (.int p1), .val (.int (1 : Int32)), .val (.int (1 : Int32)), .val (.ref w_4), .val (.ref w_4), .val (.int (0 : Int32))] [(.ref w_4)])) _
            refine XS.aload X86.here hx rfl (hb hby at_45) rfl rfl ?_
            show Steps p.tables e below (T86.setTop (mkF m 47 #[.val (.int p0), .val (.int p1), .val (.int (1 : Int32)), .val (.int (1 : Int32)), .val (.ref w_4), .val (.ref w_4), .val (.int (0 : Int32))] [(.ref w_4), (.ref w_4)])) _
            refine st87.trans ?_
            show Steps p.tables e below (T87.setTop (mkF m 50 #[.val (.int p0), .val (.int p1), .val (.int (1 : Int32)), .val (.int (1 : Int32)), .val (.ref w_4), .val (.ref w_4), .val (.int (0 : Int32))] [(.int (0 : Int32))])) _
            refine XS.iload X87.here hx rfl (hb hby at_50) rfl ?_
            show Steps p.tables e below (T87.setTop (mkF m 52 #[.val (.int p0), .val (.int p1), .val (.int (1 : Int32)), .val (.int (1 : Int32)), .val (.ref w_4), .val (.ref w_4), .val (.int (0 : Int32))] [(.int (0 : Int32)), (.int (0 : Int32))])) _
            refine XS.icmpNo X87.here hx rfl (hb hby at_52) rfl (teq (by decide : ((0 : Int32) = (0 : Int32)))).2 ?_
            show Steps p.tables e below (T87.setTop (mkF m 55 #[.val (.int p0), .val (.int p1), .val (.int (1 : Int32)), .val (.int (1 : Int32)), .val (.ref w_4), .val (.ref w_4), .val (.int (0 : Int32))] [])) _
            refine XS.iconst X87.here hx rfl (hb hby at_55) ?_
            show Steps p.tables e below (T87.setTop (mkF m 56 #[.val (.int p0), .val (.int p1), .val (.int (1 : Int32)), .val (.int (1 : Int32)), .val (.ref w_4), .val (.ref w_4), .val (.int (0 : Int32))] [(.int (1 : Int32))])) _
            refine XS.goto X87.here hx rfl (pc0 := 56) (pc' := 60) rfl (hb hby at_56) (by decide) (by decide) ?_
            show Steps p.tables e below (T87.setTop (mkF m 60 #[.val (.int p0), .val (.int p1), .val (.int (1 : Int32)), .val (.int (1 : Int32)), .val (.ref w_4), .val (.ref w_4), .val (.int (0 : Int32))] [(.int (1 : Int32))])) _
            exact retN X87 hx (t := .boolean) Bd.returns (by simp) (hb hby at_60) hr
          · show Q0 Z w_1 w_2 w_3 w_4 p0 p1 h0 n0 _ T87.heap _
            rw [e87]
            exact ⟨by unfold sp0; rw [if_neg hc23, if_pos hc71, if_neg hc72, if_pos hc80], N87, rfl⟩
        · by_cases hc88 : (p1 &&& (3 : Int32)) = (2 : Int32)
          · have pre89 : ∀ t, Steps p.tables e below (s₁.setTop (mkF m 3 #[.val (.int p0), .val (.int p1), .unset, .unset, .unset, .unset, .unset] [(.int (p0 &&& (3 : Int32)))])) t → Steps p.tables e below (s₁.setTop (entryFrame m #[(.int p0), (.int p1)] maxLocals)) t := fun t kt => by
              refine pre0 t ?_
              show Steps p.tables e below (s₁.setTop (mkF m 0 #[.val (.int p0), .val (.int p1), .unset, .unset, .unset, .unset, .unset] [])) _
              refine XS.iloadN X0.here hx rfl (hb hby at_0) rfl ?_
              show Steps p.tables e below (s₁.setTop (mkF m 1 #[.val (.int p0), .val (.int p1), .unset, .unset, .unset, .unset, .unset] [(.int p0)])) _
              refine XS.iconst X0.here hx rfl (hb hby at_1) ?_
              show Steps p.tables e below (s₁.setTop (mkF m 2 #[.val (.int p0), .val (.int p1), .unset, .unset, .unset, .unset, .unset] [(.int (3 : Int32)), (.int p0)])) _
              refine XS.iand X0.here hx rfl (hb hby at_2) rfl ?_
              show Steps p.tables e below (s₁.setTop (mkF m 3 #[.val (.int p0), .val (.int p1), .unset, .unset, .unset, .unset, .unset] [(.int (p0 &&& (3 : Int32)))])) _
              exact kt
            have pre90 : ∀ t, Steps p.tables e below (s₁.setTop (mkF m 3 #[.val (.int p0), .val (.int p1), .unset, .unset, .unset, .unset, .unset] [(.int (1 : Int32))])) t → Steps p.tables e below (s₁.setTop (entryFrame m #[(.int p0), (.int p1)] maxLocals)) t := fun t kt => pre89 t (by rw [(by rw [hc71] <;> decide : (p0 &&& (3 : Int32)) = (1 : Int32))]; exact kt)
            have pre91 : ∀ t, Steps p.tables e below (s₁.setTop (mkF m 7 #[.val (.int p0), .val (.int p1), .val (.int (1 : Int32)), .unset, .unset, .unset, .unset] [(.int (p1 &&& (3 : Int32)))])) t → Steps p.tables e below (s₁.setTop (entryFrame m #[(.int p0), (.int p1)] maxLocals)) t := fun t kt => by
              refine pre90 t ?_
              show Steps p.tables e below (s₁.setTop (mkF m 3 #[.val (.int p0), .val (.int p1), .unset, .unset, .unset, .unset, .unset] [(.int (1 : Int32))])) _
              refine XS.istoreN X0.here hx rfl (hb hby at_3) rfl (l' := #[.val (.int p0), .val (.int p1), .val (.int (1 : Int32)), .unset, .unset, .unset, .unset]) rfl ?_
              show Steps p.tables e below (s₁.setTop (mkF m 4 #[.val (.int p0), .val (.int p1), .val (.int (1 : Int32)), .unset, .unset, .unset, .unset] [])) _
              refine XS.iloadN X0.here hx rfl (hb hby at_4) rfl ?_
              show Steps p.tables e below (s₁.setTop (mkF m 5 #[.val (.int p0), .val (.int p1), .val (.int (1 : Int32)), .unset, .unset, .unset, .unset] [(.int p1)])) _
              refine XS.iconst X0.here hx rfl (hb hby at_5) ?_
              show Steps p.tables e below (s₁.setTop (mkF m 6 #[.val (.int p0), .val (.int p1), .val (.int (1 : Int32)), .unset, .unset, .unset, .unset] [(.int (3 : Int32)), (.int p1)])) _
              refine XS.iand X0.here hx rfl (hb hby at_6) rfl ?_
              show Steps p.tables e below (s₁.setTop (mkF m 7 #[.val (.int p0), .val (.int p1), .val (.int (1 : Int32)), .unset, .unset, .unset, .unset] [(.int (p1 &&& (3 : Int32)))])) _
              exact kt
            have pre92 : ∀ t, Steps p.tables e below (s₁.setTop (mkF m 7 #[.val (.int p0), .val (.int p1), .val (.int (1 : Int32)), .unset, .unset, .unset, .unset] [(.int (2 : Int32))])) t → Steps p.tables e below (s₁.setTop (entryFrame m #[(.int p0), (.int p1)] maxLocals)) t := fun t kt => pre91 t (by rw [(by rw [hc88] <;> decide : (p1 &&& (3 : Int32)) = (2 : Int32))]; exact kt)
            obtain ⟨_, _, ⟨T93, L93, k93, n93⟩, -, X93, ⟨Lc93, hQ93, l93, y93, z93⟩, st93⟩ := Jvm.LawKit.callS X0 hx (y := Y0) hown (mvT hZ (hw _ (tk 0 rfl))) (mvT hZ (hw _ (tk 1 rfl))) (mvT hZ (hw _ (tk 2 rfl))) (mvT hZ (hw _ (tk 3 rfl))) (by decide) (backOf (W := 0) (rm1 l Z a0 hw [] w_1 w_2 w_3 w_4 hS0 (1 : Int32) h0 n0 O0) hZ (hw _ (tk 3 rfl)) (hw _ (tk 2 rfl)) (by decide) (by decide)) (g := (mkF m 9 #[.val (.int p0), .val (.int p1), .val (.int (1 : Int32)), .val (.int (2 : Int32)), .unset, .unset, .unset] [(.int (1 : Int32))])) rfl (by rw [hml]; rfl) (argsL := [(.int (1 : Int32))]) (rest := []) (lenOf pd_0 rfl) rfl (by show 2 * 0 + _ ≤ _; exact Nat.le_of_eq rfl) (hb hby at_9) (fun _ _ => ⟨rfl, e0, (by decide : 0 + 0 ≤ _), (by decide : 0 + 0 ≤ _)⟩)
            dsimp only [Pt.U, Pt.locs, Pt.cells, Pt.slots] at X93 l93 y93 z93 st93 hQ93
            subst l93 y93 z93
            obtain ⟨rv93, N93q, e93⟩ := hQ93
            rw [show sp1 w_1 w_2 w_3 w_4 (1 : Int32) = (.ref w_4) from by unfold sp1; rw [if_neg (by decide : ¬ (((1 : Int32) &&& (3 : Int32)) = (0 : Int32))), if_pos (by decide : (((1 : Int32) &&& (3 : Int32)) = (1 : Int32)))]] at rv93
            subst rv93
            have N93 := Fr.app N0 N93q
            obtain ⟨_, _, ⟨T94, L94, k94, n94⟩, -, X94, ⟨Lc94, hQ94, l94, y94, z94⟩, st94⟩ := Jvm.LawKit.callS X93 hx (y := Y0) hown (mvT hZ (hw _ (tk 0 rfl))) (mvT hZ (hw _ (tk 1 rfl))) (mvT hZ (hw _ (tk 2 rfl))) (mvT hZ (hw _ (tk 3 rfl))) (by decide) (backOf (W := 0) (rm1 l Z a0 hw [] w_1 w_2 w_3 w_4 hS0 (2 : Int32) h0 n0 O0) hZ (hw _ (tk 3 rfl)) (hw _ (tk 2 rfl)) (by decide) (by decide)) (g := (mkF m 15 #[.val (.int p0), .val (.int p1), .val (.int (1 : Int32)), .val (.int (2 : Int32)), .val (.ref w_4), .unset, .unset] [(.int (2 : Int32))])) rfl (by rw [hml]; rfl) (argsL := [(.int (2 : Int32))]) (rest := []) (lenOf pd_0 rfl) rfl (by show 2 * 0 + _ ≤ _; exact Nat.le_of_eq rfl) (hb hby at_15) (fun _ _ => ⟨rfl, e93, (by decide : 0 + 0 ≤ _), (by decide : 0 + 0 ≤ _)⟩)
            dsimp only [Pt.U, Pt.locs, Pt.cells, Pt.slots] at X94 l94 y94 z94 st94 hQ94
            subst l94 y94 z94
            obtain ⟨rv94, N94q, e94⟩ := hQ94
            rw [show sp1 w_1 w_2 w_3 w_4 (2 : Int32) = (.ref w_3) from by unfold sp1; rw [if_neg (by decide : ¬ (((2 : Int32) &&& (3 : Int32)) = (0 : Int32))), if_neg (by decide : ¬ (((2 : Int32) &&& (3 : Int32)) = (1 : Int32))), if_pos (by decide : (((2 : Int32) &&& (3 : Int32)) = (2 : Int32)))]] at rv94
            subst rv94
            have N94 := Fr.app N93 N94q
            obtain ⟨cq95, kq95, q95a, q95b, q95c⟩ := isOf hZ e94 (E_4.ext O0.2)
            obtain ⟨_, _, ⟨T95, L95, k95, n95⟩, -, X95, ⟨Lc95, hQ95, l95, y95, z95⟩, st95⟩ := X94.virtualBack hx (y := Y1) (z := Y1) hown (mvT hZ (hw _ (tk 9 rfl))) (mvT hZ (hw _ (tk 10 rfl))) (notFace_of_selects (args := #[]) (mvT hZ (hw _ (tk 12 rfl)))) (mvT hZ (hw _ (tk 12 rfl))) (mvT hZ (hw _ (tk 11 rfl))) (by decide) (backOf (W := 0) (rm2 l Z a0 hw [] w_1 w_2 w_3 w_4 hS0 w_4 w_3 (1 : Int32) h0 n0 O0 (F_4_sharedWithItself.ext O0.2)) hZ (hw _ (tk 13 rfl)) (hw _ (tk 5 rfl)) (by decide) (by decide)) q95a q95c (g := (mkF m 47 #[.val (.int p0), .val (.int p1), .val (.int (1 : Int32)), .val (.int (2 : Int32)), .val (.ref w_4), .val (.ref w_3), .val (.int (1 : Int32))] [(.ref w_3), (.ref w_4)])) rfl (by rw [hml]; rfl) (Steps.refl _) (argsL := [(.ref w_3)]) (rest := []) (lenOf pd_1 rfl) rfl (by show 2 * 0 + _ ≤ _; exact Nat.le_of_eq rfl) (hb hby at_47) (fun _ _ => ⟨rfl, e94, (by decide : 0 + 0 ≤ _), (by decide : 0 + 0 ≤ _)⟩)
            dsimp only [Pt.U, Pt.locs, Pt.cells, Pt.slots] at X95 l95 y95 z95 st95 hQ95
            subst l95 y95 z95
            obtain ⟨rv95, N95q, e95⟩ := hQ95
            rw [show sp2 w_4 w_3 (1 : Int32) = (1 : Int32) from by unfold sp2; rw [if_neg (Fld.ne F_4_ordinal F_3_ordinal (by decide))]] at rv95
            subst rv95
            have N95 := Fr.app N94 N95q
            obtain ⟨fs, hr, hrun, hended, hW, hsame⟩ := X95.leave (v := some (.int (1 : Int32))) (fun h => by rw [Bd.returns] at h; cases h)
            refine ⟨_, _, pre92 _ ?_, hrun, hended, _, _, rfl, ?_, ⟨_, rfl⟩, hW, hsame.mono (by decide) (by decide)⟩
            · show Steps p.tables e below (s₁.setTop (mkF m 7 #[.val (.int p0), .val (.int p1), .val (.int (1 : Int32)), .unset, .unset, .unset, .unset] [(.int (2 : Int32))])) _
              refine XS.istoreN X0.here hx rfl (hb hby at_7) rfl (l' := #[.val (.int p0), .val (.int p1), .val (.int (1 : Int32)), .val (.int (2 : Int32)), .unset, .unset, .unset]) rfl ?_
              show Steps p.tables e below (s₁.setTop (mkF m 8 #[.val (.int p0), .val (.int p1), .val (.int (1 : Int32)), .val (.int (2 : Int32)), .unset, .unset, .unset] [])) _
              refine XS.iloadN X0.here hx rfl (hb hby at_8) rfl ?_
              show Steps p.tables e below (s₁.setTop (mkF m 9 #[.val (.int p0), .val (.int p1), .val (.int (1 : Int32)), .val (.int (2 : Int32)), .unset, .unset, .unset] [(.int (1 : Int32))])) _
              refine st93 _ ?_
              show Steps p.tables e below (T93.setTop (mkF m 12 #[.val (.int p0), .val (.int p1), .val (.int (1 : Int32)), .val (.int (2 : Int32)), .unset, .unset, .unset] [(.ref w_4)])) _
              refine XS.astore X93.here hx rfl (hb hby at_12) rfl rfl (l' := #[.val (.int p0), .val (.int p1), .val (.int (1 : Int32)), .val (.int (2 : Int32)), .val (.ref w_4), .unset, .unset]) rfl ?_
              show Steps p.tables e below (T93.setTop (mkF m 14 #[.val (.int p0), .val (.int p1), .val (.int (1 : Int32)), .val (.int (2 : Int32)), .val (.ref w_4), .unset, .unset] [])) _
              refine XS.iloadN X93.here hx rfl (hb hby at_14) rfl ?_
              show Steps p.tables e below (T93.setTop (mkF m 15 #[.val (.int p0), .val (.int p1), .val (.int (1 : Int32)), .val (.int (2 : Int32)), .val (.ref w_4), .unset, .unset] [(.int (2 : Int32))])) _
              refine st94 _ ?_
              show Steps p.tables e below (T94.setTop (mkF m 18 #[.val (.int p0), .val (.int p1), .val (.int (1 : Int32)), .val (.int (2 : Int32)), .val (.ref w_4), .unset, .unset] [(.ref w_3)])) _
              refine XS.astore X94.here hx rfl (hb hby at_18) rfl rfl (l' := #[.val (.int p0), .val (.int p1), .val (.int (1 : Int32)), .val (.int (2 : Int32)), .val (.ref w_4), .val (.ref w_3), .unset]) rfl ?_
              show Steps p.tables e below (T94.setTop (mkF m 20 #[.val (.int p0), .val (.int p1), .val (.int (1 : Int32)), .val (.int (2 : Int32)), .val (.ref w_4), .val (.ref w_3), .unset] [])) _
              refine XS.iloadN X94.here hx rfl (hb hby at_20) rfl ?_
              show Steps p.tables e below (T94.setTop (mkF m 21 #[.val (.int p0), .val (.int p1), .val (.int (1 : Int32)), .val (.int (2 : Int32)), .val (.ref w_4), .val (.ref w_3), .unset] [(.int (1 : Int32))])) _
              refine XS.iloadN X94.here hx rfl (hb hby at_21) rfl ?_
              show Steps p.tables e below (T94.setTop (mkF m 22 #[.val (.int p0), .val (.int p1), .val (.int (1 : Int32)), .val (.int (2 : Int32)), .val (.ref w_4), .val (.ref w_3), .unset] [(.int (2 : Int32)), (.int (1 : Int32))])) _
              refine XS.icmpYes X94.here hx rfl (pc0 := 22) (pc' := 40) rfl (hb hby at_22) rfl (feq (by decide : ¬ ((1 : Int32) = (2 : Int32)))).2 (by decide) (by decide) ?_
              show Steps p.tables e below (T94.setTop (mkF m 40 #[.val (.int p0), .val (.int p1), .val (.int (1 : Int32)), .val (.int (2 : Int32)), .val (.ref w_4), .val (.ref w_3), .unset] [])) _
              refine XS.iconst X94.here hx rfl (hb hby at_40) ?_
              show Steps p.tables e below (T94.setTop (mkF m 41 #[.val (.int p0), .val (.int p1), .val (.int (1 : Int32)), .val (.int (2 : Int32)), .val (.ref w_4), .val (.ref w_3), .unset] [(.int (1 : Int32))])) _
              refine XS.istore X94.here hx rfl (hb hby at_41) rfl (l' := #[.val (.int p0), .val (.int p1), .val (.int (1 : Int32)), .val (.int (2 : Int32)), .val (.ref w_4), .val (.ref w_3), .val (.int (1 : Int32))]) rfl ?_
              show Steps p.tables e below (T94.setTop (mkF m 43 #[.val (.int p0), .val (.int p1), .val (.int (1 : Int32)), .val (.int (2 : Int32)), .val (.ref w_4), .val (.ref w_3), .val (.int (1 : Int32))] [])) _
              refine XS.aload X94.here hx rfl (hb hby at_43) rfl rfl ?_
              show Steps p.tables e below (T94.setTop (mkF m 45 #[.val (.int p0), .val (.int p1), .val (.int (1 : Int32)), .val (.int (2 : Int32)), .val (.ref w_4), .val (.ref w_3), .val (.int (1 : Int32))] [(.ref w_4)])) _
              refine XS.aload X94.here hx rfl (hb hby at_45) rfl rfl ?_
              show Steps p.tables e below (T94.setTop (mkF m 47 #[.val (.int p0), .val (.int p1), .val (.int (1 : Int32)), .val (.int (2 : Int32)), .val (.ref w_4), .val (.ref w_3), .val (.int (1 : Int32))] [(.ref w_3), (.ref w_4)])) _
              refine st95.trans ?_
              show Steps p.tables e below (T95.setTop (mkF m 50 #[.val (.int p0), .val (.int p1), .val (.int (1 : Int32)), .val (.int (2 : Int32)), .val (.ref w_4), .val (.ref w_3), .val (.int (1 : Int32))] [(.int (1 : Int32))])) _
              refine XS.iload X95.here hx rfl (hb hby at_50) rfl ?_
              show Steps p.tables e below (T95.setTop (mkF m 52 #[.val (.int p0), .val (.int p1), .val (.int (1 : Int32)), .val (.int (2 : Int32)), .val (.ref w_4), .val (.ref w_3), .val (.int (1 : Int32))] [(.int (1 : Int32)), (.int (1 : Int32))])) _
              refine XS.icmpNo X95.here hx rfl (hb hby at_52) rfl (teq (by decide : ((1 : Int32) = (1 : Int32)))).2 ?_
              show Steps p.tables e below (T95.setTop (mkF m 55 #[.val (.int p0), .val (.int p1), .val (.int (1 : Int32)), .val (.int (2 : Int32)), .val (.ref w_4), .val (.ref w_3), .val (.int (1 : Int32))] [])) _
              refine XS.iconst X95.here hx rfl (hb hby at_55) ?_
              show Steps p.tables e below (T95.setTop (mkF m 56 #[.val (.int p0), .val (.int p1), .val (.int (1 : Int32)), .val (.int (2 : Int32)), .val (.ref w_4), .val (.ref w_3), .val (.int (1 : Int32))] [(.int (1 : Int32))])) _
              refine XS.goto X95.here hx rfl (pc0 := 56) (pc' := 60) rfl (hb hby at_56) (by decide) (by decide) ?_
              show Steps p.tables e below (T95.setTop (mkF m 60 #[.val (.int p0), .val (.int p1), .val (.int (1 : Int32)), .val (.int (2 : Int32)), .val (.ref w_4), .val (.ref w_3), .val (.int (1 : Int32))] [(.int (1 : Int32))])) _
              exact retN X95 hx (t := .boolean) Bd.returns (by simp) (hb hby at_60) hr
            · show Q0 Z w_1 w_2 w_3 w_4 p0 p1 h0 n0 _ T95.heap _
              rw [e95]
              exact ⟨by unfold sp0; rw [if_neg hc23, if_pos hc71, if_neg hc72, if_neg hc80, if_pos hc88], N95, rfl⟩
          · have hL96 : (p1 &&& (3 : Int32)) = (3 : Int32) := by
              have r : 0 ≤ ((p1 &&& (3 : Int32))).toInt ∧ ((p1 &&& (3 : Int32))).toInt < 4 := (own_rand p1 (3 : Int32) 4 (by decide) (by decide))
              have q0 := own_ne hc72 (n := 0) (by decide)
              have q1 := own_ne hc80 (n := 1) (by decide)
              have q2 := own_ne hc88 (n := 2) (by decide)
              exact own_eq (n := 3) (by decide) (by omega)
            have pre97 : ∀ t, Steps p.tables e below (s₁.setTop (mkF m 3 #[.val (.int p0), .val (.int p1), .unset, .unset, .unset, .unset, .unset] [(.int (p0 &&& (3 : Int32)))])) t → Steps p.tables e below (s₁.setTop (entryFrame m #[(.int p0), (.int p1)] maxLocals)) t := fun t kt => by
              refine pre0 t ?_
              show Steps p.tables e below (s₁.setTop (mkF m 0 #[.val (.int p0), .val (.int p1), .unset, .unset, .unset, .unset, .unset] [])) _
              refine XS.iloadN X0.here hx rfl (hb hby at_0) rfl ?_
              show Steps p.tables e below (s₁.setTop (mkF m 1 #[.val (.int p0), .val (.int p1), .unset, .unset, .unset, .unset, .unset] [(.int p0)])) _
              refine XS.iconst X0.here hx rfl (hb hby at_1) ?_
              show Steps p.tables e below (s₁.setTop (mkF m 2 #[.val (.int p0), .val (.int p1), .unset, .unset, .unset, .unset, .unset] [(.int (3 : Int32)), (.int p0)])) _
              refine XS.iand X0.here hx rfl (hb hby at_2) rfl ?_
              show Steps p.tables e below (s₁.setTop (mkF m 3 #[.val (.int p0), .val (.int p1), .unset, .unset, .unset, .unset, .unset] [(.int (p0 &&& (3 : Int32)))])) _
              exact kt
            have pre98 : ∀ t, Steps p.tables e below (s₁.setTop (mkF m 3 #[.val (.int p0), .val (.int p1), .unset, .unset, .unset, .unset, .unset] [(.int (1 : Int32))])) t → Steps p.tables e below (s₁.setTop (entryFrame m #[(.int p0), (.int p1)] maxLocals)) t := fun t kt => pre97 t (by rw [(by rw [hc71] <;> decide : (p0 &&& (3 : Int32)) = (1 : Int32))]; exact kt)
            have pre99 : ∀ t, Steps p.tables e below (s₁.setTop (mkF m 7 #[.val (.int p0), .val (.int p1), .val (.int (1 : Int32)), .unset, .unset, .unset, .unset] [(.int (p1 &&& (3 : Int32)))])) t → Steps p.tables e below (s₁.setTop (entryFrame m #[(.int p0), (.int p1)] maxLocals)) t := fun t kt => by
              refine pre98 t ?_
              show Steps p.tables e below (s₁.setTop (mkF m 3 #[.val (.int p0), .val (.int p1), .unset, .unset, .unset, .unset, .unset] [(.int (1 : Int32))])) _
              refine XS.istoreN X0.here hx rfl (hb hby at_3) rfl (l' := #[.val (.int p0), .val (.int p1), .val (.int (1 : Int32)), .unset, .unset, .unset, .unset]) rfl ?_
              show Steps p.tables e below (s₁.setTop (mkF m 4 #[.val (.int p0), .val (.int p1), .val (.int (1 : Int32)), .unset, .unset, .unset, .unset] [])) _
              refine XS.iloadN X0.here hx rfl (hb hby at_4) rfl ?_
              show Steps p.tables e below (s₁.setTop (mkF m 5 #[.val (.int p0), .val (.int p1), .val (.int (1 : Int32)), .unset, .unset, .unset, .unset] [(.int p1)])) _
              refine XS.iconst X0.here hx rfl (hb hby at_5) ?_
              show Steps p.tables e below (s₁.setTop (mkF m 6 #[.val (.int p0), .val (.int p1), .val (.int (1 : Int32)), .unset, .unset, .unset, .unset] [(.int (3 : Int32)), (.int p1)])) _
              refine XS.iand X0.here hx rfl (hb hby at_6) rfl ?_
              show Steps p.tables e below (s₁.setTop (mkF m 7 #[.val (.int p0), .val (.int p1), .val (.int (1 : Int32)), .unset, .unset, .unset, .unset] [(.int (p1 &&& (3 : Int32)))])) _
              exact kt
            have pre100 : ∀ t, Steps p.tables e below (s₁.setTop (mkF m 7 #[.val (.int p0), .val (.int p1), .val (.int (1 : Int32)), .unset, .unset, .unset, .unset] [(.int (3 : Int32))])) t → Steps p.tables e below (s₁.setTop (entryFrame m #[(.int p0), (.int p1)] maxLocals)) t := fun t kt => pre99 t (by rw [(by rw [hL96] <;> decide : (p1 &&& (3 : Int32)) = (3 : Int32))]; exact kt)
            obtain ⟨_, _, ⟨T101, L101, k101, n101⟩, -, X101, ⟨Lc101, hQ101, l101, y101, z101⟩, st101⟩ := Jvm.LawKit.callS X0 hx (y := Y0) hown (mvT hZ (hw _ (tk 0 rfl))) (mvT hZ (hw _ (tk 1 rfl))) (mvT hZ (hw _ (tk 2 rfl))) (mvT hZ (hw _ (tk 3 rfl))) (by decide) (backOf (W := 0) (rm1 l Z a0 hw [] w_1 w_2 w_3 w_4 hS0 (1 : Int32) h0 n0 O0) hZ (hw _ (tk 3 rfl)) (hw _ (tk 2 rfl)) (by decide) (by decide)) (g := (mkF m 9 #[.val (.int p0), .val (.int p1), .val (.int (1 : Int32)), .val (.int (3 : Int32)), .unset, .unset, .unset] [(.int (1 : Int32))])) rfl (by rw [hml]; rfl) (argsL := [(.int (1 : Int32))]) (rest := []) (lenOf pd_0 rfl) rfl (by show 2 * 0 + _ ≤ _; exact Nat.le_of_eq rfl) (hb hby at_9) (fun _ _ => ⟨rfl, e0, (by decide : 0 + 0 ≤ _), (by decide : 0 + 0 ≤ _)⟩)
            dsimp only [Pt.U, Pt.locs, Pt.cells, Pt.slots] at X101 l101 y101 z101 st101 hQ101
            subst l101 y101 z101
            obtain ⟨rv101, N101q, e101⟩ := hQ101
            rw [show sp1 w_1 w_2 w_3 w_4 (1 : Int32) = (.ref w_4) from by unfold sp1; rw [if_neg (by decide : ¬ (((1 : Int32) &&& (3 : Int32)) = (0 : Int32))), if_pos (by decide : (((1 : Int32) &&& (3 : Int32)) = (1 : Int32)))]] at rv101
            subst rv101
            have N101 := Fr.app N0 N101q
            obtain ⟨_, _, ⟨T102, L102, k102, n102⟩, -, X102, ⟨Lc102, hQ102, l102, y102, z102⟩, st102⟩ := Jvm.LawKit.callS X101 hx (y := Y0) hown (mvT hZ (hw _ (tk 0 rfl))) (mvT hZ (hw _ (tk 1 rfl))) (mvT hZ (hw _ (tk 2 rfl))) (mvT hZ (hw _ (tk 3 rfl))) (by decide) (backOf (W := 0) (rm1 l Z a0 hw [] w_1 w_2 w_3 w_4 hS0 (3 : Int32) h0 n0 O0) hZ (hw _ (tk 3 rfl)) (hw _ (tk 2 rfl)) (by decide) (by decide)) (g := (mkF m 15 #[.val (.int p0), .val (.int p1), .val (.int (1 : Int32)), .val (.int (3 : Int32)), .val (.ref w_4), .unset, .unset] [(.int (3 : Int32))])) rfl (by rw [hml]; rfl) (argsL := [(.int (3 : Int32))]) (rest := []) (lenOf pd_0 rfl) rfl (by show 2 * 0 + _ ≤ _; exact Nat.le_of_eq rfl) (hb hby at_15) (fun _ _ => ⟨rfl, e101, (by decide : 0 + 0 ≤ _), (by decide : 0 + 0 ≤ _)⟩)
            dsimp only [Pt.U, Pt.locs, Pt.cells, Pt.slots] at X102 l102 y102 z102 st102 hQ102
            subst l102 y102 z102
            obtain ⟨rv102, N102q, e102⟩ := hQ102
            rw [show sp1 w_1 w_2 w_3 w_4 (3 : Int32) = (.ref w_2) from by unfold sp1; rw [if_neg (by decide : ¬ (((3 : Int32) &&& (3 : Int32)) = (0 : Int32))), if_neg (by decide : ¬ (((3 : Int32) &&& (3 : Int32)) = (1 : Int32))), if_neg (by decide : ¬ (((3 : Int32) &&& (3 : Int32)) = (2 : Int32)))]] at rv102
            subst rv102
            have N102 := Fr.app N101 N102q
            obtain ⟨cq103, kq103, q103a, q103b, q103c⟩ := isOf hZ e102 (E_4.ext O0.2)
            obtain ⟨_, _, ⟨T103, L103, k103, n103⟩, -, X103, ⟨Lc103, hQ103, l103, y103, z103⟩, st103⟩ := X102.virtualBack hx (y := Y1) (z := Y1) hown (mvT hZ (hw _ (tk 9 rfl))) (mvT hZ (hw _ (tk 10 rfl))) (notFace_of_selects (args := #[]) (mvT hZ (hw _ (tk 12 rfl)))) (mvT hZ (hw _ (tk 12 rfl))) (mvT hZ (hw _ (tk 11 rfl))) (by decide) (backOf (W := 0) (rm2 l Z a0 hw [] w_1 w_2 w_3 w_4 hS0 w_4 w_2 (1 : Int32) h0 n0 O0 (F_4_sharedWithItself.ext O0.2)) hZ (hw _ (tk 13 rfl)) (hw _ (tk 5 rfl)) (by decide) (by decide)) q103a q103c (g := (mkF m 47 #[.val (.int p0), .val (.int p1), .val (.int (1 : Int32)), .val (.int (3 : Int32)), .val (.ref w_4), .val (.ref w_2), .val (.int (1 : Int32))] [(.ref w_2), (.ref w_4)])) rfl (by rw [hml]; rfl) (Steps.refl _) (argsL := [(.ref w_2)]) (rest := []) (lenOf pd_1 rfl) rfl (by show 2 * 0 + _ ≤ _; exact Nat.le_of_eq rfl) (hb hby at_47) (fun _ _ => ⟨rfl, e102, (by decide : 0 + 0 ≤ _), (by decide : 0 + 0 ≤ _)⟩)
            dsimp only [Pt.U, Pt.locs, Pt.cells, Pt.slots] at X103 l103 y103 z103 st103 hQ103
            subst l103 y103 z103
            obtain ⟨rv103, N103q, e103⟩ := hQ103
            rw [show sp2 w_4 w_2 (1 : Int32) = (1 : Int32) from by unfold sp2; rw [if_neg (Fld.ne F_4_ordinal F_2_ordinal (by decide))]] at rv103
            subst rv103
            have N103 := Fr.app N102 N103q
            obtain ⟨fs, hr, hrun, hended, hW, hsame⟩ := X103.leave (v := some (.int (1 : Int32))) (fun h => by rw [Bd.returns] at h; cases h)
            refine ⟨_, _, pre100 _ ?_, hrun, hended, _, _, rfl, ?_, ⟨_, rfl⟩, hW, hsame.mono (by decide) (by decide)⟩
            · show Steps p.tables e below (s₁.setTop (mkF m 7 #[.val (.int p0), .val (.int p1), .val (.int (1 : Int32)), .unset, .unset, .unset, .unset] [(.int (3 : Int32))])) _
              refine XS.istoreN X0.here hx rfl (hb hby at_7) rfl (l' := #[.val (.int p0), .val (.int p1), .val (.int (1 : Int32)), .val (.int (3 : Int32)), .unset, .unset, .unset]) rfl ?_
              show Steps p.tables e below (s₁.setTop (mkF m 8 #[.val (.int p0), .val (.int p1), .val (.int (1 : Int32)), .val (.int (3 : Int32)), .unset, .unset, .unset] [])) _
              refine XS.iloadN X0.here hx rfl (hb hby at_8) rfl ?_
              show Steps p.tables e below (s₁.setTop (mkF m 9 #[.val (.int p0), .val (.int p1), .val (.int (1 : Int32)), .val (.int (3 : Int32)), .unset, .unset, .unset] [(.int (1 : Int32))])) _
              refine st101 _ ?_
              show Steps p.tables e below (T101.setTop (mkF m 12 #[.val (.int p0), .val (.int p1), .val (.int (1 : Int32)), .val (.int (3 : Int32)), .unset, .unset, .unset] [(.ref w_4)])) _
              refine XS.astore X101.here hx rfl (hb hby at_12) rfl rfl (l' := #[.val (.int p0), .val (.int p1), .val (.int (1 : Int32)), .val (.int (3 : Int32)), .val (.ref w_4), .unset, .unset]) rfl ?_
              show Steps p.tables e below (T101.setTop (mkF m 14 #[.val (.int p0), .val (.int p1), .val (.int (1 : Int32)), .val (.int (3 : Int32)), .val (.ref w_4), .unset, .unset] [])) _
              refine XS.iloadN X101.here hx rfl (hb hby at_14) rfl ?_
              show Steps p.tables e below (T101.setTop (mkF m 15 #[.val (.int p0), .val (.int p1), .val (.int (1 : Int32)), .val (.int (3 : Int32)), .val (.ref w_4), .unset, .unset] [(.int (3 : Int32))])) _
              refine st102 _ ?_
              show Steps p.tables e below (T102.setTop (mkF m 18 #[.val (.int p0), .val (.int p1), .val (.int (1 : Int32)), .val (.int (3 : Int32)), .val (.ref w_4), .unset, .unset] [(.ref w_2)])) _
              refine XS.astore X102.here hx rfl (hb hby at_18) rfl rfl (l' := #[.val (.int p0), .val (.int p1), .val (.int (1 : Int32)), .val (.int (3 : Int32)), .val (.ref w_4), .val (.ref w_2), .unset]) rfl ?_
              show Steps p.tables e below (T102.setTop (mkF m 20 #[.val (.int p0), .val (.int p1), .val (.int (1 : Int32)), .val (.int (3 : Int32)), .val (.ref w_4), .val (.ref w_2), .unset] [])) _
              refine XS.iloadN X102.here hx rfl (hb hby at_20) rfl ?_
              show Steps p.tables e below (T102.setTop (mkF m 21 #[.val (.int p0), .val (.int p1), .val (.int (1 : Int32)), .val (.int (3 : Int32)), .val (.ref w_4), .val (.ref w_2), .unset] [(.int (1 : Int32))])) _
              refine XS.iloadN X102.here hx rfl (hb hby at_21) rfl ?_
              show Steps p.tables e below (T102.setTop (mkF m 22 #[.val (.int p0), .val (.int p1), .val (.int (1 : Int32)), .val (.int (3 : Int32)), .val (.ref w_4), .val (.ref w_2), .unset] [(.int (3 : Int32)), (.int (1 : Int32))])) _
              refine XS.icmpYes X102.here hx rfl (pc0 := 22) (pc' := 40) rfl (hb hby at_22) rfl (feq (by decide : ¬ ((1 : Int32) = (3 : Int32)))).2 (by decide) (by decide) ?_
              show Steps p.tables e below (T102.setTop (mkF m 40 #[.val (.int p0), .val (.int p1), .val (.int (1 : Int32)), .val (.int (3 : Int32)), .val (.ref w_4), .val (.ref w_2), .unset] [])) _
              refine XS.iconst X102.here hx rfl (hb hby at_40) ?_
              show Steps p.tables e below (T102.setTop (mkF m 41 #[.val (.int p0), .val (.int p1), .val (.int (1 : Int32)), .val (.int (3 : Int32)), .val (.ref w_4), .val (.ref w_2), .unset] [(.int (1 : Int32))])) _
              refine XS.istore X102.here hx rfl (hb hby at_41) rfl (l' := #[.val (.int p0), .val (.int p1), .val (.int (1 : Int32)), .val (.int (3 : Int32)), .val (.ref w_4), .val (.ref w_2), .val (.int (1 : Int32))]) rfl ?_
              show Steps p.tables e below (T102.setTop (mkF m 43 #[.val (.int p0), .val (.int p1), .val (.int (1 : Int32)), .val (.int (3 : Int32)), .val (.ref w_4), .val (.ref w_2), .val (.int (1 : Int32))] [])) _
              refine XS.aload X102.here hx rfl (hb hby at_43) rfl rfl ?_
              show Steps p.tables e below (T102.setTop (mkF m 45 #[.val (.int p0), .val (.int p1), .val (.int (1 : Int32)), .val (.int (3 : Int32)), .val (.ref w_4), .val (.ref w_2), .val (.int (1 : Int32))] [(.ref w_4)])) _
              refine XS.aload X102.here hx rfl (hb hby at_45) rfl rfl ?_
              show Steps p.tables e below (T102.setTop (mkF m 47 #[.val (.int p0), .val (.int p1), .val (.int (1 : Int32)), .val (.int (3 : Int32)), .val (.ref w_4), .val (.ref w_2), .val (.int (1 : Int32))] [(.ref w_2), (.ref w_4)])) _
              refine st103.trans ?_
              show Steps p.tables e below (T103.setTop (mkF m 50 #[.val (.int p0), .val (.int p1), .val (.int (1 : Int32)), .val (.int (3 : Int32)), .val (.ref w_4), .val (.ref w_2), .val (.int (1 : Int32))] [(.int (1 : Int32))])) _
              refine XS.iload X103.here hx rfl (hb hby at_50) rfl ?_
              show Steps p.tables e below (T103.setTop (mkF m 52 #[.val (.int p0), .val (.int p1), .val (.int (1 : Int32)), .val (.int (3 : Int32)), .val (.ref w_4), .val (.ref w_2), .val (.int (1 : Int32))] [(.int (1 : Int32)), (.int (1 : Int32))])) _
              refine XS.icmpNo X103.here hx rfl (hb hby at_52) rfl (teq (by decide : ((1 : Int32) = (1 : Int32)))).2 ?_
              show Steps p.tables e below (T103.setTop (mkF m 55 #[.val (.int p0), .val (.int p1), .val (.int (1 : Int32)), .val (.int (3 : Int32)), .val (.ref w_4), .val (.ref w_2), .val (.int (1 : Int32))] [])) _
              refine XS.iconst X103.here hx rfl (hb hby at_55) ?_
              show Steps p.tables e below (T103.setTop (mkF m 56 #[.val (.int p0), .val (.int p1), .val (.int (1 : Int32)), .val (.int (3 : Int32)), .val (.ref w_4), .val (.ref w_2), .val (.int (1 : Int32))] [(.int (1 : Int32))])) _
              refine XS.goto X103.here hx rfl (pc0 := 56) (pc' := 60) rfl (hb hby at_56) (by decide) (by decide) ?_
              show Steps p.tables e below (T103.setTop (mkF m 60 #[.val (.int p0), .val (.int p1), .val (.int (1 : Int32)), .val (.int (3 : Int32)), .val (.ref w_4), .val (.ref w_2), .val (.int (1 : Int32))] [(.int (1 : Int32))])) _
              exact retN X103 hx (t := .boolean) Bd.returns (by simp) (hb hby at_60) hr
            · show Q0 Z w_1 w_2 w_3 w_4 p0 p1 h0 n0 _ T103.heap _
              rw [e103]
              exact ⟨by unfold sp0; rw [if_neg hc23, if_pos hc71, if_neg hc72, if_neg hc80, if_neg hc88], N103, rfl⟩
    · by_cases hc104 : (p0 &&& (3 : Int32)) = (2 : Int32)
      · by_cases hc105 : (p1 &&& (3 : Int32)) = (0 : Int32)
        · have pre106 : ∀ t, Steps p.tables e below (s₁.setTop (mkF m 3 #[.val (.int p0), .val (.int p1), .unset, .unset, .unset, .unset, .unset] [(.int (p0 &&& (3 : Int32)))])) t → Steps p.tables e below (s₁.setTop (entryFrame m #[(.int p0), (.int p1)] maxLocals)) t := fun t kt => by
            refine pre0 t ?_
            show Steps p.tables e below (s₁.setTop (mkF m 0 #[.val (.int p0), .val (.int p1), .unset, .unset, .unset, .unset, .unset] [])) _
            refine XS.iloadN X0.here hx rfl (hb hby at_0) rfl ?_
            show Steps p.tables e below (s₁.setTop (mkF m 1 #[.val (.int p0), .val (.int p1), .unset, .unset, .unset, .unset, .unset] [(.int p0)])) _
            refine XS.iconst X0.here hx rfl (hb hby at_1) ?_
            show Steps p.tables e below (s₁.setTop (mkF m 2 #[.val (.int p0), .val (.int p1), .unset, .unset, .unset, .unset, .unset] [(.int (3 : Int32)), (.int p0)])) _
            refine XS.iand X0.here hx rfl (hb hby at_2) rfl ?_
            show Steps p.tables e below (s₁.setTop (mkF m 3 #[.val (.int p0), .val (.int p1), .unset, .unset, .unset, .unset, .unset] [(.int (p0 &&& (3 : Int32)))])) _
            exact kt
          have pre107 : ∀ t, Steps p.tables e below (s₁.setTop (mkF m 3 #[.val (.int p0), .val (.int p1), .unset, .unset, .unset, .unset, .unset] [(.int (2 : Int32))])) t → Steps p.tables e below (s₁.setTop (entryFrame m #[(.int p0), (.int p1)] maxLocals)) t := fun t kt => pre106 t (by rw [(by rw [hc104] <;> decide : (p0 &&& (3 : Int32)) = (2 : Int32))]; exact kt)
          have pre108 : ∀ t, Steps p.tables e below (s₁.setTop (mkF m 7 #[.val (.int p0), .val (.int p1), .val (.int (2 : Int32)), .unset, .unset, .unset, .unset] [(.int (p1 &&& (3 : Int32)))])) t → Steps p.tables e below (s₁.setTop (entryFrame m #[(.int p0), (.int p1)] maxLocals)) t := fun t kt => by
            refine pre107 t ?_
            show Steps p.tables e below (s₁.setTop (mkF m 3 #[.val (.int p0), .val (.int p1), .unset, .unset, .unset, .unset, .unset] [(.int (2 : Int32))])) _
            refine XS.istoreN X0.here hx rfl (hb hby at_3) rfl (l' := #[.val (.int p0), .val (.int p1), .val (.int (2 : Int32)), .unset, .unset, .unset, .unset]) rfl ?_
            show Steps p.tables e below (s₁.setTop (mkF m 4 #[.val (.int p0), .val (.int p1), .val (.int (2 : Int32)), .unset, .unset, .unset, .unset] [])) _
            refine XS.iloadN X0.here hx rfl (hb hby at_4) rfl ?_
            show Steps p.tables e below (s₁.setTop (mkF m 5 #[.val (.int p0), .val (.int p1), .val (.int (2 : Int32)), .unset, .unset, .unset, .unset] [(.int p1)])) _
            refine XS.iconst X0.here hx rfl (hb hby at_5) ?_
            show Steps p.tables e below (s₁.setTop (mkF m 6 #[.val (.int p0), .val (.int p1), .val (.int (2 : Int32)), .unset, .unset, .unset, .unset] [(.int (3 : Int32)), (.int p1)])) _
            refine XS.iand X0.here hx rfl (hb hby at_6) rfl ?_
            show Steps p.tables e below (s₁.setTop (mkF m 7 #[.val (.int p0), .val (.int p1), .val (.int (2 : Int32)), .unset, .unset, .unset, .unset] [(.int (p1 &&& (3 : Int32)))])) _
            exact kt
          have pre109 : ∀ t, Steps p.tables e below (s₁.setTop (mkF m 7 #[.val (.int p0), .val (.int p1), .val (.int (2 : Int32)), .unset, .unset, .unset, .unset] [(.int (0 : Int32))])) t → Steps p.tables e below (s₁.setTop (entryFrame m #[(.int p0), (.int p1)] maxLocals)) t := fun t kt => pre108 t (by rw [(by rw [hc105] <;> decide : (p1 &&& (3 : Int32)) = (0 : Int32))]; exact kt)
          obtain ⟨_, _, ⟨T110, L110, k110, n110⟩, -, X110, ⟨Lc110, hQ110, l110, y110, z110⟩, st110⟩ := Jvm.LawKit.callS X0 hx (y := Y0) hown (mvT hZ (hw _ (tk 0 rfl))) (mvT hZ (hw _ (tk 1 rfl))) (mvT hZ (hw _ (tk 2 rfl))) (mvT hZ (hw _ (tk 3 rfl))) (by decide) (backOf (W := 0) (rm1 l Z a0 hw [] w_1 w_2 w_3 w_4 hS0 (2 : Int32) h0 n0 O0) hZ (hw _ (tk 3 rfl)) (hw _ (tk 2 rfl)) (by decide) (by decide)) (g := (mkF m 9 #[.val (.int p0), .val (.int p1), .val (.int (2 : Int32)), .val (.int (0 : Int32)), .unset, .unset, .unset] [(.int (2 : Int32))])) rfl (by rw [hml]; rfl) (argsL := [(.int (2 : Int32))]) (rest := []) (lenOf pd_0 rfl) rfl (by show 2 * 0 + _ ≤ _; exact Nat.le_of_eq rfl) (hb hby at_9) (fun _ _ => ⟨rfl, e0, (by decide : 0 + 0 ≤ _), (by decide : 0 + 0 ≤ _)⟩)
          dsimp only [Pt.U, Pt.locs, Pt.cells, Pt.slots] at X110 l110 y110 z110 st110 hQ110
          subst l110 y110 z110
          obtain ⟨rv110, N110q, e110⟩ := hQ110
          rw [show sp1 w_1 w_2 w_3 w_4 (2 : Int32) = (.ref w_3) from by unfold sp1; rw [if_neg (by decide : ¬ (((2 : Int32) &&& (3 : Int32)) = (0 : Int32))), if_neg (by decide : ¬ (((2 : Int32) &&& (3 : Int32)) = (1 : Int32))), if_pos (by decide : (((2 : Int32) &&& (3 : Int32)) = (2 : Int32)))]] at rv110
          subst rv110
          have N110 := Fr.app N0 N110q
          obtain ⟨_, _, ⟨T111, L111, k111, n111⟩, -, X111, ⟨Lc111, hQ111, l111, y111, z111⟩, st111⟩ := Jvm.LawKit.callS X110 hx (y := Y0) hown (mvT hZ (hw _ (tk 0 rfl))) (mvT hZ (hw _ (tk 1 rfl))) (mvT hZ (hw _ (tk 2 rfl))) (mvT hZ (hw _ (tk 3 rfl))) (by decide) (backOf (W := 0) (rm1 l Z a0 hw [] w_1 w_2 w_3 w_4 hS0 (0 : Int32) h0 n0 O0) hZ (hw _ (tk 3 rfl)) (hw _ (tk 2 rfl)) (by decide) (by decide)) (g := (mkF m 15 #[.val (.int p0), .val (.int p1), .val (.int (2 : Int32)), .val (.int (0 : Int32)), .val (.ref w_3), .unset, .unset] [(.int (0 : Int32))])) rfl (by rw [hml]; rfl) (argsL := [(.int (0 : Int32))]) (rest := []) (lenOf pd_0 rfl) rfl (by show 2 * 0 + _ ≤ _; exact Nat.le_of_eq rfl) (hb hby at_15) (fun _ _ => ⟨rfl, e110, (by decide : 0 + 0 ≤ _), (by decide : 0 + 0 ≤ _)⟩)
          dsimp only [Pt.U, Pt.locs, Pt.cells, Pt.slots] at X111 l111 y111 z111 st111 hQ111
          subst l111 y111 z111
          obtain ⟨rv111, N111q, e111⟩ := hQ111
          rw [show sp1 w_1 w_2 w_3 w_4 (0 : Int32) = (.ref w_1) from by unfold sp1; rw [if_pos (by decide : (((0 : Int32) &&& (3 : Int32)) = (0 : Int32)))]] at rv111
          subst rv111
          have N111 := Fr.app N110 N111q
          obtain ⟨cq112, kq112, q112a, q112b, q112c⟩ := isOf hZ e111 (E_3.ext O0.2)
          obtain ⟨_, _, ⟨T112, L112, k112, n112⟩, -, X112, ⟨Lc112, hQ112, l112, y112, z112⟩, st112⟩ := X111.virtualBack hx (y := Y1) (z := Y1) hown (mvT hZ (hw _ (tk 9 rfl))) (mvT hZ (hw _ (tk 10 rfl))) (notFace_of_selects (args := #[]) (mvT hZ (hw _ (tk 12 rfl)))) (mvT hZ (hw _ (tk 12 rfl))) (mvT hZ (hw _ (tk 11 rfl))) (by decide) (backOf (W := 0) (rm2 l Z a0 hw [] w_1 w_2 w_3 w_4 hS0 w_3 w_1 (0 : Int32) h0 n0 O0 (F_3_sharedWithItself.ext O0.2)) hZ (hw _ (tk 13 rfl)) (hw _ (tk 5 rfl)) (by decide) (by decide)) q112a q112c (g := (mkF m 47 #[.val (.int p0), .val (.int p1), .val (.int (2 : Int32)), .val (.int (0 : Int32)), .val (.ref w_3), .val (.ref w_1), .val (.int (1 : Int32))] [(.ref w_1), (.ref w_3)])) rfl (by rw [hml]; rfl) (Steps.refl _) (argsL := [(.ref w_1)]) (rest := []) (lenOf pd_1 rfl) rfl (by show 2 * 0 + _ ≤ _; exact Nat.le_of_eq rfl) (hb hby at_47) (fun _ _ => ⟨rfl, e111, (by decide : 0 + 0 ≤ _), (by decide : 0 + 0 ≤ _)⟩)
          dsimp only [Pt.U, Pt.locs, Pt.cells, Pt.slots] at X112 l112 y112 z112 st112 hQ112
          subst l112 y112 z112
          obtain ⟨rv112, N112q, e112⟩ := hQ112
          rw [show sp2 w_3 w_1 (0 : Int32) = (1 : Int32) from by unfold sp2; rw [if_neg (Fld.ne F_3_ordinal F_1_ordinal (by decide))]] at rv112
          subst rv112
          have N112 := Fr.app N111 N112q
          obtain ⟨fs, hr, hrun, hended, hW, hsame⟩ := X112.leave (v := some (.int (1 : Int32))) (fun h => by rw [Bd.returns] at h; cases h)
          refine ⟨_, _, pre109 _ ?_, hrun, hended, _, _, rfl, ?_, ⟨_, rfl⟩, hW, hsame.mono (by decide) (by decide)⟩
          · show Steps p.tables e below (s₁.setTop (mkF m 7 #[.val (.int p0), .val (.int p1), .val (.int (2 : Int32)), .unset, .unset, .unset, .unset] [(.int (0 : Int32))])) _
            refine XS.istoreN X0.here hx rfl (hb hby at_7) rfl (l' := #[.val (.int p0), .val (.int p1), .val (.int (2 : Int32)), .val (.int (0 : Int32)), .unset, .unset, .unset]) rfl ?_
            show Steps p.tables e below (s₁.setTop (mkF m 8 #[.val (.int p0), .val (.int p1), .val (.int (2 : Int32)), .val (.int (0 : Int32)), .unset, .unset, .unset] [])) _
            refine XS.iloadN X0.here hx rfl (hb hby at_8) rfl ?_
            show Steps p.tables e below (s₁.setTop (mkF m 9 #[.val (.int p0), .val (.int p1), .val (.int (2 : Int32)), .val (.int (0 : Int32)), .unset, .unset, .unset] [(.int (2 : Int32))])) _
            refine st110 _ ?_
            show Steps p.tables e below (T110.setTop (mkF m 12 #[.val (.int p0), .val (.int p1), .val (.int (2 : Int32)), .val (.int (0 : Int32)), .unset, .unset, .unset] [(.ref w_3)])) _
            refine XS.astore X110.here hx rfl (hb hby at_12) rfl rfl (l' := #[.val (.int p0), .val (.int p1), .val (.int (2 : Int32)), .val (.int (0 : Int32)), .val (.ref w_3), .unset, .unset]) rfl ?_
            show Steps p.tables e below (T110.setTop (mkF m 14 #[.val (.int p0), .val (.int p1), .val (.int (2 : Int32)), .val (.int (0 : Int32)), .val (.ref w_3), .unset, .unset] [])) _
            refine XS.iloadN X110.here hx rfl (hb hby at_14) rfl ?_
            show Steps p.tables e below (T110.setTop (mkF m 15 #[.val (.int p0), .val (.int p1), .val (.int (2 : Int32)), .val (.int (0 : Int32)), .val (.ref w_3), .unset, .unset] [(.int (0 : Int32))])) _
            refine st111 _ ?_
            show Steps p.tables e below (T111.setTop (mkF m 18 #[.val (.int p0), .val (.int p1), .val (.int (2 : Int32)), .val (.int (0 : Int32)), .val (.ref w_3), .unset, .unset] [(.ref w_1)])) _
            refine XS.astore X111.here hx rfl (hb hby at_18) rfl rfl (l' := #[.val (.int p0), .val (.int p1), .val (.int (2 : Int32)), .val (.int (0 : Int32)), .val (.ref w_3), .val (.ref w_1), .unset]) rfl ?_
            show Steps p.tables e below (T111.setTop (mkF m 20 #[.val (.int p0), .val (.int p1), .val (.int (2 : Int32)), .val (.int (0 : Int32)), .val (.ref w_3), .val (.ref w_1), .unset] [])) _
            refine XS.iloadN X111.here hx rfl (hb hby at_20) rfl ?_
            show Steps p.tables e below (T111.setTop (mkF m 21 #[.val (.int p0), .val (.int p1), .val (.int (2 : Int32)), .val (.int (0 : Int32)), .val (.ref w_3), .val (.ref w_1), .unset] [(.int (2 : Int32))])) _
            refine XS.iloadN X111.here hx rfl (hb hby at_21) rfl ?_
            show Steps p.tables e below (T111.setTop (mkF m 22 #[.val (.int p0), .val (.int p1), .val (.int (2 : Int32)), .val (.int (0 : Int32)), .val (.ref w_3), .val (.ref w_1), .unset] [(.int (0 : Int32)), (.int (2 : Int32))])) _
            refine XS.icmpYes X111.here hx rfl (pc0 := 22) (pc' := 40) rfl (hb hby at_22) rfl (feq (by decide : ¬ ((2 : Int32) = (0 : Int32)))).2 (by decide) (by decide) ?_
            show Steps p.tables e below (T111.setTop (mkF m 40 #[.val (.int p0), .val (.int p1), .val (.int (2 : Int32)), .val (.int (0 : Int32)), .val (.ref w_3), .val (.ref w_1), .unset] [])) _
            refine XS.iconst X111.here hx rfl (hb hby at_40) ?_
            show Steps p.tables e below (T111.setTop (mkF m 41 #[.val (.int p0), .val (.int p1), .val (.int (2 : Int32)), .val (.int (0 : Int32)), .val (.ref w_3), .val (.ref w_1), .unset] [(.int (1 : Int32))])) _
            refine XS.istore X111.here hx rfl (hb hby at_41) rfl (l' := #[.val (.int p0), .val (.int p1), .val (.int (2 : Int32)), .val (.int (0 : Int32)), .val (.ref w_3), .val (.ref w_1), .val (.int (1 : Int32))]) rfl ?_
            show Steps p.tables e below (T111.setTop (mkF m 43 #[.val (.int p0), .val (.int p1), .val (.int (2 : Int32)), .val (.int (0 : Int32)), .val (.ref w_3), .val (.ref w_1), .val (.int (1 : Int32))] [])) _
            refine XS.aload X111.here hx rfl (hb hby at_43) rfl rfl ?_
            show Steps p.tables e below (T111.setTop (mkF m 45 #[.val (.int p0), .val (.int p1), .val (.int (2 : Int32)), .val (.int (0 : Int32)), .val (.ref w_3), .val (.ref w_1), .val (.int (1 : Int32))] [(.ref w_3)])) _
            refine XS.aload X111.here hx rfl (hb hby at_45) rfl rfl ?_
            show Steps p.tables e below (T111.setTop (mkF m 47 #[.val (.int p0), .val (.int p1), .val (.int (2 : Int32)), .val (.int (0 : Int32)), .val (.ref w_3), .val (.ref w_1), .val (.int (1 : Int32))] [(.ref w_1), (.ref w_3)])) _
            refine st112.trans ?_
            show Steps p.tables e below (T112.setTop (mkF m 50 #[.val (.int p0), .val (.int p1), .val (.int (2 : Int32)), .val (.int (0 : Int32)), .val (.ref w_3), .val (.ref w_1), .val (.int (1 : Int32))] [(.int (1 : Int32))])) _
            refine XS.iload X112.here hx rfl (hb hby at_50) rfl ?_
            show Steps p.tables e below (T112.setTop (mkF m 52 #[.val (.int p0), .val (.int p1), .val (.int (2 : Int32)), .val (.int (0 : Int32)), .val (.ref w_3), .val (.ref w_1), .val (.int (1 : Int32))] [(.int (1 : Int32)), (.int (1 : Int32))])) _
            refine XS.icmpNo X112.here hx rfl (hb hby at_52) rfl (teq (by decide : ((1 : Int32) = (1 : Int32)))).2 ?_
            show Steps p.tables e below (T112.setTop (mkF m 55 #[.val (.int p0), .val (.int p1), .val (.int (2 : Int32)), .val (.int (0 : Int32)), .val (.ref w_3), .val (.ref w_1), .val (.int (1 : Int32))] [])) _
            refine XS.iconst X112.here hx rfl (hb hby at_55) ?_
            show Steps p.tables e below (T112.setTop (mkF m 56 #[.val (.int p0), .val (.int p1), .val (.int (2 : Int32)), .val (.int (0 : Int32)), .val (.ref w_3), .val (.ref w_1), .val (.int (1 : Int32))] [(.int (1 : Int32))])) _
            refine XS.goto X112.here hx rfl (pc0 := 56) (pc' := 60) rfl (hb hby at_56) (by decide) (by decide) ?_
            show Steps p.tables e below (T112.setTop (mkF m 60 #[.val (.int p0), .val (.int p1), .val (.int (2 : Int32)), .val (.int (0 : Int32)), .val (.ref w_3), .val (.ref w_1), .val (.int (1 : Int32))] [(.int (1 : Int32))])) _
            exact retN X112 hx (t := .boolean) Bd.returns (by simp) (hb hby at_60) hr
          · show Q0 Z w_1 w_2 w_3 w_4 p0 p1 h0 n0 _ T112.heap _
            rw [e112]
            exact ⟨by unfold sp0; rw [if_neg hc23, if_neg hc71, if_pos hc104, if_pos hc105], N112, rfl⟩
        · by_cases hc113 : (p1 &&& (3 : Int32)) = (1 : Int32)
          · have pre114 : ∀ t, Steps p.tables e below (s₁.setTop (mkF m 3 #[.val (.int p0), .val (.int p1), .unset, .unset, .unset, .unset, .unset] [(.int (p0 &&& (3 : Int32)))])) t → Steps p.tables e below (s₁.setTop (entryFrame m #[(.int p0), (.int p1)] maxLocals)) t := fun t kt => by
              refine pre0 t ?_
              show Steps p.tables e below (s₁.setTop (mkF m 0 #[.val (.int p0), .val (.int p1), .unset, .unset, .unset, .unset, .unset] [])) _
              refine XS.iloadN X0.here hx rfl (hb hby at_0) rfl ?_
              show Steps p.tables e below (s₁.setTop (mkF m 1 #[.val (.int p0), .val (.int p1), .unset, .unset, .unset, .unset, .unset] [(.int p0)])) _
              refine XS.iconst X0.here hx rfl (hb hby at_1) ?_
              show Steps p.tables e below (s₁.setTop (mkF m 2 #[.val (.int p0), .val (.int p1), .unset, .unset, .unset, .unset, .unset] [(.int (3 : Int32)), (.int p0)])) _
              refine XS.iand X0.here hx rfl (hb hby at_2) rfl ?_
              show Steps p.tables e below (s₁.setTop (mkF m 3 #[.val (.int p0), .val (.int p1), .unset, .unset, .unset, .unset, .unset] [(.int (p0 &&& (3 : Int32)))])) _
              exact kt
            have pre115 : ∀ t, Steps p.tables e below (s₁.setTop (mkF m 3 #[.val (.int p0), .val (.int p1), .unset, .unset, .unset, .unset, .unset] [(.int (2 : Int32))])) t → Steps p.tables e below (s₁.setTop (entryFrame m #[(.int p0), (.int p1)] maxLocals)) t := fun t kt => pre114 t (by rw [(by rw [hc104] <;> decide : (p0 &&& (3 : Int32)) = (2 : Int32))]; exact kt)
            have pre116 : ∀ t, Steps p.tables e below (s₁.setTop (mkF m 7 #[.val (.int p0), .val (.int p1), .val (.int (2 : Int32)), .unset, .unset, .unset, .unset] [(.int (p1 &&& (3 : Int32)))])) t → Steps p.tables e below (s₁.setTop (entryFrame m #[(.int p0), (.int p1)] maxLocals)) t := fun t kt => by
              refine pre115 t ?_
              show Steps p.tables e below (s₁.setTop (mkF m 3 #[.val (.int p0), .val (.int p1), .unset, .unset, .unset, .unset, .unset] [(.int (2 : Int32))])) _
              refine XS.istoreN X0.here hx rfl (hb hby at_3) rfl (l' := #[.val (.int p0), .val (.int p1), .val (.int (2 : Int32)), .unset, .unset, .unset, .unset]) rfl ?_
              show Steps p.tables e below (s₁.setTop (mkF m 4 #[.val (.int p0), .val (.int p1), .val (.int (2 : Int32)), .unset, .unset, .unset, .unset] [])) _
              refine XS.iloadN X0.here hx rfl (hb hby at_4) rfl ?_
              show Steps p.tables e below (s₁.setTop (mkF m 5 #[.val (.int p0), .val (.int p1), .val (.int (2 : Int32)), .unset, .unset, .unset, .unset] [(.int p1)])) _
              refine XS.iconst X0.here hx rfl (hb hby at_5) ?_
              show Steps p.tables e below (s₁.setTop (mkF m 6 #[.val (.int p0), .val (.int p1), .val (.int (2 : Int32)), .unset, .unset, .unset, .unset] [(.int (3 : Int32)), (.int p1)])) _
              refine XS.iand X0.here hx rfl (hb hby at_6) rfl ?_
              show Steps p.tables e below (s₁.setTop (mkF m 7 #[.val (.int p0), .val (.int p1), .val (.int (2 : Int32)), .unset, .unset, .unset, .unset] [(.int (p1 &&& (3 : Int32)))])) _
              exact kt
            have pre117 : ∀ t, Steps p.tables e below (s₁.setTop (mkF m 7 #[.val (.int p0), .val (.int p1), .val (.int (2 : Int32)), .unset, .unset, .unset, .unset] [(.int (1 : Int32))])) t → Steps p.tables e below (s₁.setTop (entryFrame m #[(.int p0), (.int p1)] maxLocals)) t := fun t kt => pre116 t (by rw [(by rw [hc113] <;> decide : (p1 &&& (3 : Int32)) = (1 : Int32))]; exact kt)
            obtain ⟨_, _, ⟨T118, L118, k118, n118⟩, -, X118, ⟨Lc118, hQ118, l118, y118, z118⟩, st118⟩ := Jvm.LawKit.callS X0 hx (y := Y0) hown (mvT hZ (hw _ (tk 0 rfl))) (mvT hZ (hw _ (tk 1 rfl))) (mvT hZ (hw _ (tk 2 rfl))) (mvT hZ (hw _ (tk 3 rfl))) (by decide) (backOf (W := 0) (rm1 l Z a0 hw [] w_1 w_2 w_3 w_4 hS0 (2 : Int32) h0 n0 O0) hZ (hw _ (tk 3 rfl)) (hw _ (tk 2 rfl)) (by decide) (by decide)) (g := (mkF m 9 #[.val (.int p0), .val (.int p1), .val (.int (2 : Int32)), .val (.int (1 : Int32)), .unset, .unset, .unset] [(.int (2 : Int32))])) rfl (by rw [hml]; rfl) (argsL := [(.int (2 : Int32))]) (rest := []) (lenOf pd_0 rfl) rfl (by show 2 * 0 + _ ≤ _; exact Nat.le_of_eq rfl) (hb hby at_9) (fun _ _ => ⟨rfl, e0, (by decide : 0 + 0 ≤ _), (by decide : 0 + 0 ≤ _)⟩)
            dsimp only [Pt.U, Pt.locs, Pt.cells, Pt.slots] at X118 l118 y118 z118 st118 hQ118
            subst l118 y118 z118
            obtain ⟨rv118, N118q, e118⟩ := hQ118
            rw [show sp1 w_1 w_2 w_3 w_4 (2 : Int32) = (.ref w_3) from by unfold sp1; rw [if_neg (by decide : ¬ (((2 : Int32) &&& (3 : Int32)) = (0 : Int32))), if_neg (by decide : ¬ (((2 : Int32) &&& (3 : Int32)) = (1 : Int32))), if_pos (by decide : (((2 : Int32) &&& (3 : Int32)) = (2 : Int32)))]] at rv118
            subst rv118
            have N118 := Fr.app N0 N118q
            obtain ⟨_, _, ⟨T119, L119, k119, n119⟩, -, X119, ⟨Lc119, hQ119, l119, y119, z119⟩, st119⟩ := Jvm.LawKit.callS X118 hx (y := Y0) hown (mvT hZ (hw _ (tk 0 rfl))) (mvT hZ (hw _ (tk 1 rfl))) (mvT hZ (hw _ (tk 2 rfl))) (mvT hZ (hw _ (tk 3 rfl))) (by decide) (backOf (W := 0) (rm1 l Z a0 hw [] w_1 w_2 w_3 w_4 hS0 (1 : Int32) h0 n0 O0) hZ (hw _ (tk 3 rfl)) (hw _ (tk 2 rfl)) (by decide) (by decide)) (g := (mkF m 15 #[.val (.int p0), .val (.int p1), .val (.int (2 : Int32)), .val (.int (1 : Int32)), .val (.ref w_3), .unset, .unset] [(.int (1 : Int32))])) rfl (by rw [hml]; rfl) (argsL := [(.int (1 : Int32))]) (rest := []) (lenOf pd_0 rfl) rfl (by show 2 * 0 + _ ≤ _; exact Nat.le_of_eq rfl) (hb hby at_15) (fun _ _ => ⟨rfl, e118, (by decide : 0 + 0 ≤ _), (by decide : 0 + 0 ≤ _)⟩)
            dsimp only [Pt.U, Pt.locs, Pt.cells, Pt.slots] at X119 l119 y119 z119 st119 hQ119
            subst l119 y119 z119
            obtain ⟨rv119, N119q, e119⟩ := hQ119
            rw [show sp1 w_1 w_2 w_3 w_4 (1 : Int32) = (.ref w_4) from by unfold sp1; rw [if_neg (by decide : ¬ (((1 : Int32) &&& (3 : Int32)) = (0 : Int32))), if_pos (by decide : (((1 : Int32) &&& (3 : Int32)) = (1 : Int32)))]] at rv119
            subst rv119
            have N119 := Fr.app N118 N119q
            obtain ⟨cq120, kq120, q120a, q120b, q120c⟩ := isOf hZ e119 (E_3.ext O0.2)
            obtain ⟨_, _, ⟨T120, L120, k120, n120⟩, -, X120, ⟨Lc120, hQ120, l120, y120, z120⟩, st120⟩ := X119.virtualBack hx (y := Y1) (z := Y1) hown (mvT hZ (hw _ (tk 9 rfl))) (mvT hZ (hw _ (tk 10 rfl))) (notFace_of_selects (args := #[]) (mvT hZ (hw _ (tk 12 rfl)))) (mvT hZ (hw _ (tk 12 rfl))) (mvT hZ (hw _ (tk 11 rfl))) (by decide) (backOf (W := 0) (rm2 l Z a0 hw [] w_1 w_2 w_3 w_4 hS0 w_3 w_4 (0 : Int32) h0 n0 O0 (F_3_sharedWithItself.ext O0.2)) hZ (hw _ (tk 13 rfl)) (hw _ (tk 5 rfl)) (by decide) (by decide)) q120a q120c (g := (mkF m 47 #[.val (.int p0), .val (.int p1), .val (.int (2 : Int32)), .val (.int (1 : Int32)), .val (.ref w_3), .val (.ref w_4), .val (.int (1 : Int32))] [(.ref w_4), (.ref w_3)])) rfl (by rw [hml]; rfl) (Steps.refl _) (argsL := [(.ref w_4)]) (rest := []) (lenOf pd_1 rfl) rfl (by show 2 * 0 + _ ≤ _; exact Nat.le_of_eq rfl) (hb hby at_47) (fun _ _ => ⟨rfl, e119, (by decide : 0 + 0 ≤ _), (by decide : 0 + 0 ≤ _)⟩)
            dsimp only [Pt.U, Pt.locs, Pt.cells, Pt.slots] at X120 l120 y120 z120 st120 hQ120
            subst l120 y120 z120
            obtain ⟨rv120, N120q, e120⟩ := hQ120
            rw [show sp2 w_3 w_4 (0 : Int32) = (1 : Int32) from by unfold sp2; rw [if_neg (Fld.ne F_3_ordinal F_4_ordinal (by decide))]] at rv120
            subst rv120
            have N120 := Fr.app N119 N120q
            obtain ⟨fs, hr, hrun, hended, hW, hsame⟩ := X120.leave (v := some (.int (1 : Int32))) (fun h => by rw [Bd.returns] at h; cases h)
            refine ⟨_, _, pre117 _ ?_, hrun, hended, _, _, rfl, ?_, ⟨_, rfl⟩, hW, hsame.mono (by decide) (by decide)⟩
            · show Steps p.tables e below (s₁.setTop (mkF m 7 #[.val (.int p0), .val (.int p1), .val (.int (2 : Int32)), .unset, .unset, .unset, .unset] [(.int (1 : Int32))])) _
              refine XS.istoreN X0.here hx rfl (hb hby at_7) rfl (l' := #[.val (.int p0), .val (.int p1), .val (.int (2 : Int32)), .val (.int (1 : Int32)), .unset, .unset, .unset]) rfl ?_
              show Steps p.tables e below (s₁.setTop (mkF m 8 #[.val (.int p0), .val (.int p1), .val (.int (2 : Int32)), .val (.int (1 : Int32)), .unset, .unset, .unset] [])) _
              refine XS.iloadN X0.here hx rfl (hb hby at_8) rfl ?_
              show Steps p.tables e below (s₁.setTop (mkF m 9 #[.val (.int p0), .val (.int p1), .val (.int (2 : Int32)), .val (.int (1 : Int32)), .unset, .unset, .unset] [(.int (2 : Int32))])) _
              refine st118 _ ?_
              show Steps p.tables e below (T118.setTop (mkF m 12 #[.val (.int p0), .val (.int p1), .val (.int (2 : Int32)), .val (.int (1 : Int32)), .unset, .unset, .unset] [(.ref w_3)])) _
              refine XS.astore X118.here hx rfl (hb hby at_12) rfl rfl (l' := #[.val (.int p0), .val (.int p1), .val (.int (2 : Int32)), .val (.int (1 : Int32)), .val (.ref w_3), .unset, .unset]) rfl ?_
              show Steps p.tables e below (T118.setTop (mkF m 14 #[.val (.int p0), .val (.int p1), .val (.int (2 : Int32)), .val (.int (1 : Int32)), .val (.ref w_3), .unset, .unset] [])) _
              refine XS.iloadN X118.here hx rfl (hb hby at_14) rfl ?_
              show Steps p.tables e below (T118.setTop (mkF m 15 #[.val (.int p0), .val (.int p1), .val (.int (2 : Int32)), .val (.int (1 : Int32)), .val (.ref w_3), .unset, .unset] [(.int (1 : Int32))])) _
              refine st119 _ ?_
              show Steps p.tables e below (T119.setTop (mkF m 18 #[.val (.int p0), .val (.int p1), .val (.int (2 : Int32)), .val (.int (1 : Int32)), .val (.ref w_3), .unset, .unset] [(.ref w_4)])) _
              refine XS.astore X119.here hx rfl (hb hby at_18) rfl rfl (l' := #[.val (.int p0), .val (.int p1), .val (.int (2 : Int32)), .val (.int (1 : Int32)), .val (.ref w_3), .val (.ref w_4), .unset]) rfl ?_
              show Steps p.tables e below (T119.setTop (mkF m 20 #[.val (.int p0), .val (.int p1), .val (.int (2 : Int32)), .val (.int (1 : Int32)), .val (.ref w_3), .val (.ref w_4), .unset] [])) _
              refine XS.iloadN X119.here hx rfl (hb hby at_20) rfl ?_
              show Steps p.tables e below (T119.setTop (mkF m 21 #[.val (.int p0), .val (.int p1), .val (.int (2 : Int32)), .val (.int (1 : Int32)), .val (.ref w_3), .val (.ref w_4), .unset] [(.int (2 : Int32))])) _
              refine XS.iloadN X119.here hx rfl (hb hby at_21) rfl ?_
              show Steps p.tables e below (T119.setTop (mkF m 22 #[.val (.int p0), .val (.int p1), .val (.int (2 : Int32)), .val (.int (1 : Int32)), .val (.ref w_3), .val (.ref w_4), .unset] [(.int (1 : Int32)), (.int (2 : Int32))])) _
              refine XS.icmpYes X119.here hx rfl (pc0 := 22) (pc' := 40) rfl (hb hby at_22) rfl (feq (by decide : ¬ ((2 : Int32) = (1 : Int32)))).2 (by decide) (by decide) ?_
              show Steps p.tables e below (T119.setTop (mkF m 40 #[.val (.int p0), .val (.int p1), .val (.int (2 : Int32)), .val (.int (1 : Int32)), .val (.ref w_3), .val (.ref w_4), .unset] [])) _
              refine XS.iconst X119.here hx rfl (hb hby at_40) ?_
              show Steps p.tables e below (T119.setTop (mkF m 41 #[.val (.int p0), .val (.int p1), .val (.int (2 : Int32)), .val (.int (1 : Int32)), .val (.ref w_3), .val (.ref w_4), .unset] [(.int (1 : Int32))])) _
              refine XS.istore X119.here hx rfl (hb hby at_41) rfl (l' := #[.val (.int p0), .val (.int p1), .val (.int (2 : Int32)), .val (.int (1 : Int32)), .val (.ref w_3), .val (.ref w_4), .val (.int (1 : Int32))]) rfl ?_
              show Steps p.tables e below (T119.setTop (mkF m 43 #[.val (.int p0), .val (.int p1), .val (.int (2 : Int32)), .val (.int (1 : Int32)), .val (.ref w_3), .val (.ref w_4), .val (.int (1 : Int32))] [])) _
              refine XS.aload X119.here hx rfl (hb hby at_43) rfl rfl ?_
              show Steps p.tables e below (T119.setTop (mkF m 45 #[.val (.int p0), .val (.int p1), .val (.int (2 : Int32)), .val (.int (1 : Int32)), .val (.ref w_3), .val (.ref w_4), .val (.int (1 : Int32))] [(.ref w_3)])) _
              refine XS.aload X119.here hx rfl (hb hby at_45) rfl rfl ?_
              show Steps p.tables e below (T119.setTop (mkF m 47 #[.val (.int p0), .val (.int p1), .val (.int (2 : Int32)), .val (.int (1 : Int32)), .val (.ref w_3), .val (.ref w_4), .val (.int (1 : Int32))] [(.ref w_4), (.ref w_3)])) _
              refine st120.trans ?_
              show Steps p.tables e below (T120.setTop (mkF m 50 #[.val (.int p0), .val (.int p1), .val (.int (2 : Int32)), .val (.int (1 : Int32)), .val (.ref w_3), .val (.ref w_4), .val (.int (1 : Int32))] [(.int (1 : Int32))])) _
              refine XS.iload X120.here hx rfl (hb hby at_50) rfl ?_
              show Steps p.tables e below (T120.setTop (mkF m 52 #[.val (.int p0), .val (.int p1), .val (.int (2 : Int32)), .val (.int (1 : Int32)), .val (.ref w_3), .val (.ref w_4), .val (.int (1 : Int32))] [(.int (1 : Int32)), (.int (1 : Int32))])) _
              refine XS.icmpNo X120.here hx rfl (hb hby at_52) rfl (teq (by decide : ((1 : Int32) = (1 : Int32)))).2 ?_
              show Steps p.tables e below (T120.setTop (mkF m 55 #[.val (.int p0), .val (.int p1), .val (.int (2 : Int32)), .val (.int (1 : Int32)), .val (.ref w_3), .val (.ref w_4), .val (.int (1 : Int32))] [])) _
              refine XS.iconst X120.here hx rfl (hb hby at_55) ?_
              show Steps p.tables e below (T120.setTop (mkF m 56 #[.val (.int p0), .val (.int p1), .val (.int (2 : Int32)), .val (.int (1 : Int32)), .val (.ref w_3), .val (.ref w_4), .val (.int (1 : Int32))] [(.int (1 : Int32))])) _
              refine XS.goto X120.here hx rfl (pc0 := 56) (pc' := 60) rfl (hb hby at_56) (by decide) (by decide) ?_
              show Steps p.tables e below (T120.setTop (mkF m 60 #[.val (.int p0), .val (.int p1), .val (.int (2 : Int32)), .val (.int (1 : Int32)), .val (.ref w_3), .val (.ref w_4), .val (.int (1 : Int32))] [(.int (1 : Int32))])) _
              exact retN X120 hx (t := .boolean) Bd.returns (by simp) (hb hby at_60) hr
            · show Q0 Z w_1 w_2 w_3 w_4 p0 p1 h0 n0 _ T120.heap _
              rw [e120]
              exact ⟨by unfold sp0; rw [if_neg hc23, if_neg hc71, if_pos hc104, if_neg hc105, if_pos hc113], N120, rfl⟩
          · by_cases hc121 : (p1 &&& (3 : Int32)) = (2 : Int32)
            · have pre122 : ∀ t, Steps p.tables e below (s₁.setTop (mkF m 3 #[.val (.int p0), .val (.int p1), .unset, .unset, .unset, .unset, .unset] [(.int (p0 &&& (3 : Int32)))])) t → Steps p.tables e below (s₁.setTop (entryFrame m #[(.int p0), (.int p1)] maxLocals)) t := fun t kt => by
                refine pre0 t ?_
                show Steps p.tables e below (s₁.setTop (mkF m 0 #[.val (.int p0), .val (.int p1), .unset, .unset, .unset, .unset, .unset] [])) _
                refine XS.iloadN X0.here hx rfl (hb hby at_0) rfl ?_
                show Steps p.tables e below (s₁.setTop (mkF m 1 #[.val (.int p0), .val (.int p1), .unset, .unset, .unset, .unset, .unset] [(.int p0)])) _
                refine XS.iconst X0.here hx rfl (hb hby at_1) ?_
                show Steps p.tables e below (s₁.setTop (mkF m 2 #[.val (.int p0), .val (.int p1), .unset, .unset, .unset, .unset, .unset] [(.int (3 : Int32)), (.int p0)])) _
                refine XS.iand X0.here hx rfl (hb hby at_2) rfl ?_
                show Steps p.tables e below (s₁.setTop (mkF m 3 #[.val (.int p0), .val (.int p1), .unset, .unset, .unset, .unset, .unset] [(.int (p0 &&& (3 : Int32)))])) _
                exact kt
              have pre123 : ∀ t, Steps p.tables e below (s₁.setTop (mkF m 3 #[.val (.int p0), .val (.int p1), .unset, .unset, .unset, .unset, .unset] [(.int (2 : Int32))])) t → Steps p.tables e below (s₁.setTop (entryFrame m #[(.int p0), (.int p1)] maxLocals)) t := fun t kt => pre122 t (by rw [(by rw [hc104] <;> decide : (p0 &&& (3 : Int32)) = (2 : Int32))]; exact kt)
              have pre124 : ∀ t, Steps p.tables e below (s₁.setTop (mkF m 7 #[.val (.int p0), .val (.int p1), .val (.int (2 : Int32)), .unset, .unset, .unset, .unset] [(.int (p1 &&& (3 : Int32)))])) t → Steps p.tables e below (s₁.setTop (entryFrame m #[(.int p0), (.int p1)] maxLocals)) t := fun t kt => by
                refine pre123 t ?_
                show Steps p.tables e below (s₁.setTop (mkF m 3 #[.val (.int p0), .val (.int p1), .unset, .unset, .unset, .unset, .unset] [(.int (2 : Int32))])) _
                refine XS.istoreN X0.here hx rfl (hb hby at_3) rfl (l' := #[.val (.int p0), .val (.int p1), .val (.int (2 : Int32)), .unset, .unset, .unset, .unset]) rfl ?_
                show Steps p.tables e below (s₁.setTop (mkF m 4 #[.val (.int p0), .val (.int p1), .val (.int (2 : Int32)), .unset, .unset, .unset, .unset] [])) _
                refine XS.iloadN X0.here hx rfl (hb hby at_4) rfl ?_
                show Steps p.tables e below (s₁.setTop (mkF m 5 #[.val (.int p0), .val (.int p1), .val (.int (2 : Int32)), .unset, .unset, .unset, .unset] [(.int p1)])) _
                refine XS.iconst X0.here hx rfl (hb hby at_5) ?_
                show Steps p.tables e below (s₁.setTop (mkF m 6 #[.val (.int p0), .val (.int p1), .val (.int (2 : Int32)), .unset, .unset, .unset, .unset] [(.int (3 : Int32)), (.int p1)])) _
                refine XS.iand X0.here hx rfl (hb hby at_6) rfl ?_
                show Steps p.tables e below (s₁.setTop (mkF m 7 #[.val (.int p0), .val (.int p1), .val (.int (2 : Int32)), .unset, .unset, .unset, .unset] [(.int (p1 &&& (3 : Int32)))])) _
                exact kt
              have pre125 : ∀ t, Steps p.tables e below (s₁.setTop (mkF m 7 #[.val (.int p0), .val (.int p1), .val (.int (2 : Int32)), .unset, .unset, .unset, .unset] [(.int (2 : Int32))])) t → Steps p.tables e below (s₁.setTop (entryFrame m #[(.int p0), (.int p1)] maxLocals)) t := fun t kt => pre124 t (by rw [(by rw [hc121] <;> decide : (p1 &&& (3 : Int32)) = (2 : Int32))]; exact kt)
              obtain ⟨_, _, ⟨T126, L126, k126, n126⟩, -, X126, ⟨Lc126, hQ126, l126, y126, z126⟩, st126⟩ := Jvm.LawKit.callS X0 hx (y := Y0) hown (mvT hZ (hw _ (tk 0 rfl))) (mvT hZ (hw _ (tk 1 rfl))) (mvT hZ (hw _ (tk 2 rfl))) (mvT hZ (hw _ (tk 3 rfl))) (by decide) (backOf (W := 0) (rm1 l Z a0 hw [] w_1 w_2 w_3 w_4 hS0 (2 : Int32) h0 n0 O0) hZ (hw _ (tk 3 rfl)) (hw _ (tk 2 rfl)) (by decide) (by decide)) (g := (mkF m 9 #[.val (.int p0), .val (.int p1), .val (.int (2 : Int32)), .val (.int (2 : Int32)), .unset, .unset, .unset] [(.int (2 : Int32))])) rfl (by rw [hml]; rfl) (argsL := [(.int (2 : Int32))]) (rest := []) (lenOf pd_0 rfl) rfl (by show 2 * 0 + _ ≤ _; exact Nat.le_of_eq rfl) (hb hby at_9) (fun _ _ => ⟨rfl, e0, (by decide : 0 + 0 ≤ _), (by decide : 0 + 0 ≤ _)⟩)
              dsimp only [Pt.U, Pt.locs, Pt.cells, Pt.slots] at X126 l126 y126 z126 st126 hQ126
              subst l126 y126 z126
              obtain ⟨rv126, N126q, e126⟩ := hQ126
              rw [show sp1 w_1 w_2 w_3 w_4 (2 : Int32) = (.ref w_3) from by unfold sp1; rw [if_neg (by decide : ¬ (((2 : Int32) &&& (3 : Int32)) = (0 : Int32))), if_neg (by decide : ¬ (((2 : Int32) &&& (3 : Int32)) = (1 : Int32))), if_pos (by decide : (((2 : Int32) &&& (3 : Int32)) = (2 : Int32)))]] at rv126
              subst rv126
              have N126 := Fr.app N0 N126q
              obtain ⟨_, _, ⟨T127, L127, k127, n127⟩, -, X127, ⟨Lc127, hQ127, l127, y127, z127⟩, st127⟩ := Jvm.LawKit.callS X126 hx (y := Y0) hown (mvT hZ (hw _ (tk 0 rfl))) (mvT hZ (hw _ (tk 1 rfl))) (mvT hZ (hw _ (tk 2 rfl))) (mvT hZ (hw _ (tk 3 rfl))) (by decide) (backOf (W := 0) (rm1 l Z a0 hw [] w_1 w_2 w_3 w_4 hS0 (2 : Int32) h0 n0 O0) hZ (hw _ (tk 3 rfl)) (hw _ (tk 2 rfl)) (by decide) (by decide)) (g := (mkF m 15 #[.val (.int p0), .val (.int p1), .val (.int (2 : Int32)), .val (.int (2 : Int32)), .val (.ref w_3), .unset, .unset] [(.int (2 : Int32))])) rfl (by rw [hml]; rfl) (argsL := [(.int (2 : Int32))]) (rest := []) (lenOf pd_0 rfl) rfl (by show 2 * 0 + _ ≤ _; exact Nat.le_of_eq rfl) (hb hby at_15) (fun _ _ => ⟨rfl, e126, (by decide : 0 + 0 ≤ _), (by decide : 0 + 0 ≤ _)⟩)
              dsimp only [Pt.U, Pt.locs, Pt.cells, Pt.slots] at X127 l127 y127 z127 st127 hQ127
              subst l127 y127 z127
              obtain ⟨rv127, N127q, e127⟩ := hQ127
              rw [show sp1 w_1 w_2 w_3 w_4 (2 : Int32) = (.ref w_3) from by unfold sp1; rw [if_neg (by decide : ¬ (((2 : Int32) &&& (3 : Int32)) = (0 : Int32))), if_neg (by decide : ¬ (((2 : Int32) &&& (3 : Int32)) = (1 : Int32))), if_pos (by decide : (((2 : Int32) &&& (3 : Int32)) = (2 : Int32)))]] at rv127
              subst rv127
              have N127 := Fr.app N126 N127q
              obtain ⟨cq128, kq128, q128a, q128b, q128c⟩ := isOf hZ e127 (E_3.ext O0.2)
              obtain ⟨_, _, ⟨T128, L128, k128, n128⟩, -, X128, ⟨Lc128, hQ128, l128, y128, z128⟩, st128⟩ := X127.virtualBack hx (y := Y1) (z := Y1) hown (mvT hZ (hw _ (tk 9 rfl))) (mvT hZ (hw _ (tk 10 rfl))) (notFace_of_selects (args := #[]) (mvT hZ (hw _ (tk 12 rfl)))) (mvT hZ (hw _ (tk 12 rfl))) (mvT hZ (hw _ (tk 11 rfl))) (by decide) (backOf (W := 0) (rm2 l Z a0 hw [] w_1 w_2 w_3 w_4 hS0 w_3 w_3 (0 : Int32) h0 n0 O0 (F_3_sharedWithItself.ext O0.2)) hZ (hw _ (tk 13 rfl)) (hw _ (tk 5 rfl)) (by decide) (by decide)) q128a q128c (g := (mkF m 47 #[.val (.int p0), .val (.int p1), .val (.int (2 : Int32)), .val (.int (2 : Int32)), .val (.ref w_3), .val (.ref w_3), .val (.int (1 : Int32))] [(.ref w_3), (.ref w_3)])) rfl (by rw [hml]; rfl) (Steps.refl _) (argsL := [(.ref w_3)]) (rest := []) (lenOf pd_1 rfl) rfl (by show 2 * 0 + _ ≤ _; exact Nat.le_of_eq rfl) (hb hby at_47) (fun _ _ => ⟨rfl, e127, (by decide : 0 + 0 ≤ _), (by decide : 0 + 0 ≤ _)⟩)
              dsimp only [Pt.U, Pt.locs, Pt.cells, Pt.slots] at X128 l128 y128 z128 st128 hQ128
              subst l128 y128 z128
              obtain ⟨rv128, N128q, e128⟩ := hQ128
              rw [show sp2 w_3 w_3 (0 : Int32) = (1 : Int32) from by unfold sp2; rw [if_pos rfl, if_pos (by decide : ((0 : Int32) = (0 : Int32)))]] at rv128
              subst rv128
              have N128 := Fr.app N127 N128q
              obtain ⟨fs, hr, hrun, hended, hW, hsame⟩ := X128.leave (v := some (.int (1 : Int32))) (fun h => by rw [Bd.returns] at h; cases h)
              refine ⟨_, _, pre125 _ ?_, hrun, hended, _, _, rfl, ?_, ⟨_, rfl⟩, hW, hsame.mono (by decide) (by decide)⟩
              · show Steps p.tables e below (s₁.setTop (mkF m 7 #[.val (.int p0), .val (.int p1), .val (.int (2 : Int32)), .unset, .unset, .unset, .unset] [(.int (2 : Int32))])) _
                refine XS.istoreN X0.here hx rfl (hb hby at_7) rfl (l' := #[.val (.int p0), .val (.int p1), .val (.int (2 : Int32)), .val (.int (2 : Int32)), .unset, .unset, .unset]) rfl ?_
                show Steps p.tables e below (s₁.setTop (mkF m 8 #[.val (.int p0), .val (.int p1), .val (.int (2 : Int32)), .val (.int (2 : Int32)), .unset, .unset, .unset] [])) _
                refine XS.iloadN X0.here hx rfl (hb hby at_8) rfl ?_
                show Steps p.tables e below (s₁.setTop (mkF m 9 #[.val (.int p0), .val (.int p1), .val (.int (2 : Int32)), .val (.int (2 : Int32)), .unset, .unset, .unset] [(.int (2 : Int32))])) _
                refine st126 _ ?_
                show Steps p.tables e below (T126.setTop (mkF m 12 #[.val (.int p0), .val (.int p1), .val (.int (2 : Int32)), .val (.int (2 : Int32)), .unset, .unset, .unset] [(.ref w_3)])) _
                refine XS.astore X126.here hx rfl (hb hby at_12) rfl rfl (l' := #[.val (.int p0), .val (.int p1), .val (.int (2 : Int32)), .val (.int (2 : Int32)), .val (.ref w_3), .unset, .unset]) rfl ?_
                show Steps p.tables e below (T126.setTop (mkF m 14 #[.val (.int p0), .val (.int p1), .val (.int (2 : Int32)), .val (.int (2 : Int32)), .val (.ref w_3), .unset, .unset] [])) _
                refine XS.iloadN X126.here hx rfl (hb hby at_14) rfl ?_
                show Steps p.tables e below (T126.setTop (mkF m 15 #[.val (.int p0), .val (.int p1), .val (.int (2 : Int32)), .val (.int (2 : Int32)), .val (.ref w_3), .unset, .unset] [(.int (2 : Int32))])) _
                refine st127 _ ?_
                show Steps p.tables e below (T127.setTop (mkF m 18 #[.val (.int p0), .val (.int p1), .val (.int (2 : Int32)), .val (.int (2 : Int32)), .val (.ref w_3), .unset, .unset] [(.ref w_3)])) _
                refine XS.astore X127.here hx rfl (hb hby at_18) rfl rfl (l' := #[.val (.int p0), .val (.int p1), .val (.int (2 : Int32)), .val (.int (2 : Int32)), .val (.ref w_3), .val (.ref w_3), .unset]) rfl ?_
                show Steps p.tables e below (T127.setTop (mkF m 20 #[.val (.int p0), .val (.int p1), .val (.int (2 : Int32)), .val (.int (2 : Int32)), .val (.ref w_3), .val (.ref w_3), .unset] [])) _
                refine XS.iloadN X127.here hx rfl (hb hby at_20) rfl ?_
                show Steps p.tables e below (T127.setTop (mkF m 21 #[.val (.int p0), .val (.int p1), .val (.int (2 : Int32)), .val (.int (2 : Int32)), .val (.ref w_3), .val (.ref w_3), .unset] [(.int (2 : Int32))])) _
                refine XS.iloadN X127.here hx rfl (hb hby at_21) rfl ?_
                show Steps p.tables e below (T127.setTop (mkF m 22 #[.val (.int p0), .val (.int p1), .val (.int (2 : Int32)), .val (.int (2 : Int32)), .val (.ref w_3), .val (.ref w_3), .unset] [(.int (2 : Int32)), (.int (2 : Int32))])) _
                refine XS.icmpNo X127.here hx rfl (hb hby at_22) rfl (teq (by decide : ((2 : Int32) = (2 : Int32)))).2 ?_
                show Steps p.tables e below (T127.setTop (mkF m 25 #[.val (.int p0), .val (.int p1), .val (.int (2 : Int32)), .val (.int (2 : Int32)), .val (.ref w_3), .val (.ref w_3), .unset] [])) _
                refine XS.iloadN X127.here hx rfl (hb hby at_25) rfl ?_
                show Steps p.tables e below (T127.setTop (mkF m 26 #[.val (.int p0), .val (.int p1), .val (.int (2 : Int32)), .val (.int (2 : Int32)), .val (.ref w_3), .val (.ref w_3), .unset] [(.int (2 : Int32))])) _
                refine XS.ifNo X127.here hx rfl (hb hby at_26) rfl ((if0 _ _).trans (feq (by decide : ¬ ((2 : Int32) = (0 : Int32)))).1) ?_
                show Steps p.tables e below (T127.setTop (mkF m 29 #[.val (.int p0), .val (.int p1), .val (.int (2 : Int32)), .val (.int (2 : Int32)), .val (.ref w_3), .val (.ref w_3), .unset] [])) _
                refine XS.iloadN X127.here hx rfl (hb hby at_29) rfl ?_
                show Steps p.tables e below (T127.setTop (mkF m 30 #[.val (.int p0), .val (.int p1), .val (.int (2 : Int32)), .val (.int (2 : Int32)), .val (.ref w_3), .val (.ref w_3), .unset] [(.int (2 : Int32))])) _
                refine XS.iconst X127.here hx rfl (hb hby at_30) ?_
                show Steps p.tables e below (T127.setTop (mkF m 31 #[.val (.int p0), .val (.int p1), .val (.int (2 : Int32)), .val (.int (2 : Int32)), .val (.ref w_3), .val (.ref w_3), .unset] [(.int (1 : Int32)), (.int (2 : Int32))])) _
                refine XS.icmpYes X127.here hx rfl (pc0 := 31) (pc' := 40) rfl (hb hby at_31) rfl (feq (by decide : ¬ ((2 : Int32) = (1 : Int32)))).2 (by decide) (by decide) ?_
                show Steps p.tables e below (T127.setTop (mkF m 40 #[.val (.int p0), .val (.int p1), .val (.int (2 : Int32)), .val (.int (2 : Int32)), .val (.ref w_3), .val (.ref w_3), .unset] [])) _
                refine XS.iconst X127.here hx rfl (hb hby at_40) ?_
                show Steps p.tables e below (T127.setTop (mkF m 41 #[.val (.int p0), .val (.int p1), .val (.int (2 : Int32)), .val (.int (2 : Int32)), .val (.ref w_3), .val (.ref w_3), .unset] [(.int (1 : Int32))])) _
                refine XS.istore X127.here hx rfl (hb hby at_41) rfl (l' := #[.val (.int p0), .val (.int p1), .val (.int (2 : Int32)), .val (.int (2 : Int32)), .val (.ref w_3), .val (.ref w_3), .val (.int (1 : Int32))]) rfl ?_
                show Steps p.tables e below (T127.setTop (mkF m 43 #[.val (.int p0), .val (.int p1), .val (.int (2 : Int32)), .val (.int (2 : Int32)), .val (.ref w_3), .val (.ref w_3), .val (.int (1 : Int32))] [])) _
                refine XS.aload X127.here hx rfl (hb hby at_43) rfl rfl ?_
                show Steps p.tables e below (T127.setTop (mkF m 45 #[.val (.int p0), .val (.int p1), .val (.int (2 : Int32)), .val (.int (2 : Int32)), .val (.ref w_3), .val (.ref w_3), .val (.int (1 : Int32))] [(.ref w_3)])) _
                refine XS.aload X127.here hx rfl (hb hby at_45) rfl rfl ?_
                show Steps p.tables e below (T127.setTop (mkF m 47 #[.val (.int p0), .val (.int p1), .val (.int (2 : Int32)), .val (.int (2 : Int32)), .val (.ref w_3), .val (.ref w_3), .val (.int (1 : Int32))] [(.ref w_3), (.ref w_3)])) _
                refine st128.trans ?_
                show Steps p.tables e below (T128.setTop (mkF m 50 #[.val (.int p0), .val (.int p1), .val (.int (2 : Int32)), .val (.int (2 : Int32)), .val (.ref w_3), .val (.ref w_3), .val (.int (1 : Int32))] [(.int (1 : Int32))])) _
                refine XS.iload X128.here hx rfl (hb hby at_50) rfl ?_
                show Steps p.tables e below (T128.setTop (mkF m 52 #[.val (.int p0), .val (.int p1), .val (.int (2 : Int32)), .val (.int (2 : Int32)), .val (.ref w_3), .val (.ref w_3), .val (.int (1 : Int32))] [(.int (1 : Int32)), (.int (1 : Int32))])) _
                refine XS.icmpNo X128.here hx rfl (hb hby at_52) rfl (teq (by decide : ((1 : Int32) = (1 : Int32)))).2 ?_
                show Steps p.tables e below (T128.setTop (mkF m 55 #[.val (.int p0), .val (.int p1), .val (.int (2 : Int32)), .val (.int (2 : Int32)), .val (.ref w_3), .val (.ref w_3), .val (.int (1 : Int32))] [])) _
                refine XS.iconst X128.here hx rfl (hb hby at_55) ?_
                show Steps p.tables e below (T128.setTop (mkF m 56 #[.val (.int p0), .val (.int p1), .val (.int (2 : Int32)), .val (.int (2 : Int32)), .val (.ref w_3), .val (.ref w_3), .val (.int (1 : Int32))] [(.int (1 : Int32))])) _
                refine XS.goto X128.here hx rfl (pc0 := 56) (pc' := 60) rfl (hb hby at_56) (by decide) (by decide) ?_
                show Steps p.tables e below (T128.setTop (mkF m 60 #[.val (.int p0), .val (.int p1), .val (.int (2 : Int32)), .val (.int (2 : Int32)), .val (.ref w_3), .val (.ref w_3), .val (.int (1 : Int32))] [(.int (1 : Int32))])) _
                exact retN X128 hx (t := .boolean) Bd.returns (by simp) (hb hby at_60) hr
              · show Q0 Z w_1 w_2 w_3 w_4 p0 p1 h0 n0 _ T128.heap _
                rw [e128]
                exact ⟨by unfold sp0; rw [if_neg hc23, if_neg hc71, if_pos hc104, if_neg hc105, if_neg hc113, if_pos hc121], N128, rfl⟩
            · have hL129 : (p1 &&& (3 : Int32)) = (3 : Int32) := by
                have r : 0 ≤ ((p1 &&& (3 : Int32))).toInt ∧ ((p1 &&& (3 : Int32))).toInt < 4 := (own_rand p1 (3 : Int32) 4 (by decide) (by decide))
                have q0 := own_ne hc105 (n := 0) (by decide)
                have q1 := own_ne hc113 (n := 1) (by decide)
                have q2 := own_ne hc121 (n := 2) (by decide)
                exact own_eq (n := 3) (by decide) (by omega)
              have pre130 : ∀ t, Steps p.tables e below (s₁.setTop (mkF m 3 #[.val (.int p0), .val (.int p1), .unset, .unset, .unset, .unset, .unset] [(.int (p0 &&& (3 : Int32)))])) t → Steps p.tables e below (s₁.setTop (entryFrame m #[(.int p0), (.int p1)] maxLocals)) t := fun t kt => by
                refine pre0 t ?_
                show Steps p.tables e below (s₁.setTop (mkF m 0 #[.val (.int p0), .val (.int p1), .unset, .unset, .unset, .unset, .unset] [])) _
                refine XS.iloadN X0.here hx rfl (hb hby at_0) rfl ?_
                show Steps p.tables e below (s₁.setTop (mkF m 1 #[.val (.int p0), .val (.int p1), .unset, .unset, .unset, .unset, .unset] [(.int p0)])) _
                refine XS.iconst X0.here hx rfl (hb hby at_1) ?_
                show Steps p.tables e below (s₁.setTop (mkF m 2 #[.val (.int p0), .val (.int p1), .unset, .unset, .unset, .unset, .unset] [(.int (3 : Int32)), (.int p0)])) _
                refine XS.iand X0.here hx rfl (hb hby at_2) rfl ?_
                show Steps p.tables e below (s₁.setTop (mkF m 3 #[.val (.int p0), .val (.int p1), .unset, .unset, .unset, .unset, .unset] [(.int (p0 &&& (3 : Int32)))])) _
                exact kt
              have pre131 : ∀ t, Steps p.tables e below (s₁.setTop (mkF m 3 #[.val (.int p0), .val (.int p1), .unset, .unset, .unset, .unset, .unset] [(.int (2 : Int32))])) t → Steps p.tables e below (s₁.setTop (entryFrame m #[(.int p0), (.int p1)] maxLocals)) t := fun t kt => pre130 t (by rw [(by rw [hc104] <;> decide : (p0 &&& (3 : Int32)) = (2 : Int32))]; exact kt)
              have pre132 : ∀ t, Steps p.tables e below (s₁.setTop (mkF m 7 #[.val (.int p0), .val (.int p1), .val (.int (2 : Int32)), .unset, .unset, .unset, .unset] [(.int (p1 &&& (3 : Int32)))])) t → Steps p.tables e below (s₁.setTop (entryFrame m #[(.int p0), (.int p1)] maxLocals)) t := fun t kt => by
                refine pre131 t ?_
                show Steps p.tables e below (s₁.setTop (mkF m 3 #[.val (.int p0), .val (.int p1), .unset, .unset, .unset, .unset, .unset] [(.int (2 : Int32))])) _
                refine XS.istoreN X0.here hx rfl (hb hby at_3) rfl (l' := #[.val (.int p0), .val (.int p1), .val (.int (2 : Int32)), .unset, .unset, .unset, .unset]) rfl ?_
                show Steps p.tables e below (s₁.setTop (mkF m 4 #[.val (.int p0), .val (.int p1), .val (.int (2 : Int32)), .unset, .unset, .unset, .unset] [])) _
                refine XS.iloadN X0.here hx rfl (hb hby at_4) rfl ?_
                show Steps p.tables e below (s₁.setTop (mkF m 5 #[.val (.int p0), .val (.int p1), .val (.int (2 : Int32)), .unset, .unset, .unset, .unset] [(.int p1)])) _
                refine XS.iconst X0.here hx rfl (hb hby at_5) ?_
                show Steps p.tables e below (s₁.setTop (mkF m 6 #[.val (.int p0), .val (.int p1), .val (.int (2 : Int32)), .unset, .unset, .unset, .unset] [(.int (3 : Int32)), (.int p1)])) _
                refine XS.iand X0.here hx rfl (hb hby at_6) rfl ?_
                show Steps p.tables e below (s₁.setTop (mkF m 7 #[.val (.int p0), .val (.int p1), .val (.int (2 : Int32)), .unset, .unset, .unset, .unset] [(.int (p1 &&& (3 : Int32)))])) _
                exact kt
              have pre133 : ∀ t, Steps p.tables e below (s₁.setTop (mkF m 7 #[.val (.int p0), .val (.int p1), .val (.int (2 : Int32)), .unset, .unset, .unset, .unset] [(.int (3 : Int32))])) t → Steps p.tables e below (s₁.setTop (entryFrame m #[(.int p0), (.int p1)] maxLocals)) t := fun t kt => pre132 t (by rw [(by rw [hL129] <;> decide : (p1 &&& (3 : Int32)) = (3 : Int32))]; exact kt)
              obtain ⟨_, _, ⟨T134, L134, k134, n134⟩, -, X134, ⟨Lc134, hQ134, l134, y134, z134⟩, st134⟩ := Jvm.LawKit.callS X0 hx (y := Y0) hown (mvT hZ (hw _ (tk 0 rfl))) (mvT hZ (hw _ (tk 1 rfl))) (mvT hZ (hw _ (tk 2 rfl))) (mvT hZ (hw _ (tk 3 rfl))) (by decide) (backOf (W := 0) (rm1 l Z a0 hw [] w_1 w_2 w_3 w_4 hS0 (2 : Int32) h0 n0 O0) hZ (hw _ (tk 3 rfl)) (hw _ (tk 2 rfl)) (by decide) (by decide)) (g := (mkF m 9 #[.val (.int p0), .val (.int p1), .val (.int (2 : Int32)), .val (.int (3 : Int32)), .unset, .unset, .unset] [(.int (2 : Int32))])) rfl (by rw [hml]; rfl) (argsL := [(.int (2 : Int32))]) (rest := []) (lenOf pd_0 rfl) rfl (by show 2 * 0 + _ ≤ _; exact Nat.le_of_eq rfl) (hb hby at_9) (fun _ _ => ⟨rfl, e0, (by decide : 0 + 0 ≤ _), (by decide : 0 + 0 ≤ _)⟩)
              dsimp only [Pt.U, Pt.locs, Pt.cells, Pt.slots] at X134 l134 y134 z134 st134 hQ134
              subst l134 y134 z134
              obtain ⟨rv134, N134q, e134⟩ := hQ134
              rw [show sp1 w_1 w_2 w_3 w_4 (2 : Int32) = (.ref w_3) from by unfold sp1; rw [if_neg (by decide : ¬ (((2 : Int32) &&& (3 : Int32)) = (0 : Int32))), if_neg (by decide : ¬ (((2 : Int32) &&& (3 : Int32)) = (1 : Int32))), if_pos (by decide : (((2 : Int32) &&& (3 : Int32)) = (2 : Int32)))]] at rv134
              subst rv134
              have N134 := Fr.app N0 N134q
              obtain ⟨_, _, ⟨T135, L135, k135, n135⟩, -, X135, ⟨Lc135, hQ135, l135, y135, z135⟩, st135⟩ := Jvm.LawKit.callS X134 hx (y := Y0) hown (mvT hZ (hw _ (tk 0 rfl))) (mvT hZ (hw _ (tk 1 rfl))) (mvT hZ (hw _ (tk 2 rfl))) (mvT hZ (hw _ (tk 3 rfl))) (by decide) (backOf (W := 0) (rm1 l Z a0 hw [] w_1 w_2 w_3 w_4 hS0 (3 : Int32) h0 n0 O0) hZ (hw _ (tk 3 rfl)) (hw _ (tk 2 rfl)) (by decide) (by decide)) (g := (mkF m 15 #[.val (.int p0), .val (.int p1), .val (.int (2 : Int32)), .val (.int (3 : Int32)), .val (.ref w_3), .unset, .unset] [(.int (3 : Int32))])) rfl (by rw [hml]; rfl) (argsL := [(.int (3 : Int32))]) (rest := []) (lenOf pd_0 rfl) rfl (by show 2 * 0 + _ ≤ _; exact Nat.le_of_eq rfl) (hb hby at_15) (fun _ _ => ⟨rfl, e134, (by decide : 0 + 0 ≤ _), (by decide : 0 + 0 ≤ _)⟩)
              dsimp only [Pt.U, Pt.locs, Pt.cells, Pt.slots] at X135 l135 y135 z135 st135 hQ135
              subst l135 y135 z135
              obtain ⟨rv135, N135q, e135⟩ := hQ135
              rw [show sp1 w_1 w_2 w_3 w_4 (3 : Int32) = (.ref w_2) from by unfold sp1; rw [if_neg (by decide : ¬ (((3 : Int32) &&& (3 : Int32)) = (0 : Int32))), if_neg (by decide : ¬ (((3 : Int32) &&& (3 : Int32)) = (1 : Int32))), if_neg (by decide : ¬ (((3 : Int32) &&& (3 : Int32)) = (2 : Int32)))]] at rv135
              subst rv135
              have N135 := Fr.app N134 N135q
              obtain ⟨cq136, kq136, q136a, q136b, q136c⟩ := isOf hZ e135 (E_3.ext O0.2)
              obtain ⟨_, _, ⟨T136, L136, k136, n136⟩, -, X136, ⟨Lc136, hQ136, l136, y136, z136⟩, st136⟩ := X135.virtualBack hx (y := Y1) (z := Y1) hown (mvT hZ (hw _ (tk 9 rfl))) (mvT hZ (hw _ (tk 10 rfl))) (notFace_of_selects (args := #[]) (mvT hZ (hw _ (tk 12 rfl)))) (mvT hZ (hw _ (tk 12 rfl))) (mvT hZ (hw _ (tk 11 rfl))) (by decide) (backOf (W := 0) (rm2 l Z a0 hw [] w_1 w_2 w_3 w_4 hS0 w_3 w_2 (0 : Int32) h0 n0 O0 (F_3_sharedWithItself.ext O0.2)) hZ (hw _ (tk 13 rfl)) (hw _ (tk 5 rfl)) (by decide) (by decide)) q136a q136c (g := (mkF m 47 #[.val (.int p0), .val (.int p1), .val (.int (2 : Int32)), .val (.int (3 : Int32)), .val (.ref w_3), .val (.ref w_2), .val (.int (1 : Int32))] [(.ref w_2), (.ref w_3)])) rfl (by rw [hml]; rfl) (Steps.refl _) (argsL := [(.ref w_2)]) (rest := []) (lenOf pd_1 rfl) rfl (by show 2 * 0 + _ ≤ _; exact Nat.le_of_eq rfl) (hb hby at_47) (fun _ _ => ⟨rfl, e135, (by decide : 0 + 0 ≤ _), (by decide : 0 + 0 ≤ _)⟩)
              dsimp only [Pt.U, Pt.locs, Pt.cells, Pt.slots] at X136 l136 y136 z136 st136 hQ136
              subst l136 y136 z136
              obtain ⟨rv136, N136q, e136⟩ := hQ136
              rw [show sp2 w_3 w_2 (0 : Int32) = (1 : Int32) from by unfold sp2; rw [if_neg (Fld.ne F_3_ordinal F_2_ordinal (by decide))]] at rv136
              subst rv136
              have N136 := Fr.app N135 N136q
              obtain ⟨fs, hr, hrun, hended, hW, hsame⟩ := X136.leave (v := some (.int (1 : Int32))) (fun h => by rw [Bd.returns] at h; cases h)
              refine ⟨_, _, pre133 _ ?_, hrun, hended, _, _, rfl, ?_, ⟨_, rfl⟩, hW, hsame.mono (by decide) (by decide)⟩
              · show Steps p.tables e below (s₁.setTop (mkF m 7 #[.val (.int p0), .val (.int p1), .val (.int (2 : Int32)), .unset, .unset, .unset, .unset] [(.int (3 : Int32))])) _
                refine XS.istoreN X0.here hx rfl (hb hby at_7) rfl (l' := #[.val (.int p0), .val (.int p1), .val (.int (2 : Int32)), .val (.int (3 : Int32)), .unset, .unset, .unset]) rfl ?_
                show Steps p.tables e below (s₁.setTop (mkF m 8 #[.val (.int p0), .val (.int p1), .val (.int (2 : Int32)), .val (.int (3 : Int32)), .unset, .unset, .unset] [])) _
                refine XS.iloadN X0.here hx rfl (hb hby at_8) rfl ?_
                show Steps p.tables e below (s₁.setTop (mkF m 9 #[.val (.int p0), .val (.int p1), .val (.int (2 : Int32)), .val (.int (3 : Int32)), .unset, .unset, .unset] [(.int (2 : Int32))])) _
                refine st134 _ ?_
                show Steps p.tables e below (T134.setTop (mkF m 12 #[.val (.int p0), .val (.int p1), .val (.int (2 : Int32)), .val (.int (3 : Int32)), .unset, .unset, .unset] [(.ref w_3)])) _
                refine XS.astore X134.here hx rfl (hb hby at_12) rfl rfl (l' := #[.val (.int p0), .val (.int p1), .val (.int (2 : Int32)), .val (.int (3 : Int32)), .val (.ref w_3), .unset, .unset]) rfl ?_
                show Steps p.tables e below (T134.setTop (mkF m 14 #[.val (.int p0), .val (.int p1), .val (.int (2 : Int32)), .val (.int (3 : Int32)), .val (.ref w_3), .unset, .unset] [])) _
                refine XS.iloadN X134.here hx rfl (hb hby at_14) rfl ?_
                show Steps p.tables e below (T134.setTop (mkF m 15 #[.val (.int p0), .val (.int p1), .val (.int (2 : Int32)), .val (.int (3 : Int32)), .val (.ref w_3), .unset, .unset] [(.int (3 : Int32))])) _
                refine st135 _ ?_
                show Steps p.tables e below (T135.setTop (mkF m 18 #[.val (.int p0), .val (.int p1), .val (.int (2 : Int32)), .val (.int (3 : Int32)), .val (.ref w_3), .unset, .unset] [(.ref w_2)])) _
                refine XS.astore X135.here hx rfl (hb hby at_18) rfl rfl (l' := #[.val (.int p0), .val (.int p1), .val (.int (2 : Int32)), .val (.int (3 : Int32)), .val (.ref w_3), .val (.ref w_2), .unset]) rfl ?_
                show Steps p.tables e below (T135.setTop (mkF m 20 #[.val (.int p0), .val (.int p1), .val (.int (2 : Int32)), .val (.int (3 : Int32)), .val (.ref w_3), .val (.ref w_2), .unset] [])) _
                refine XS.iloadN X135.here hx rfl (hb hby at_20) rfl ?_
                show Steps p.tables e below (T135.setTop (mkF m 21 #[.val (.int p0), .val (.int p1), .val (.int (2 : Int32)), .val (.int (3 : Int32)), .val (.ref w_3), .val (.ref w_2), .unset] [(.int (2 : Int32))])) _
                refine XS.iloadN X135.here hx rfl (hb hby at_21) rfl ?_
                show Steps p.tables e below (T135.setTop (mkF m 22 #[.val (.int p0), .val (.int p1), .val (.int (2 : Int32)), .val (.int (3 : Int32)), .val (.ref w_3), .val (.ref w_2), .unset] [(.int (3 : Int32)), (.int (2 : Int32))])) _
                refine XS.icmpYes X135.here hx rfl (pc0 := 22) (pc' := 40) rfl (hb hby at_22) rfl (feq (by decide : ¬ ((2 : Int32) = (3 : Int32)))).2 (by decide) (by decide) ?_
                show Steps p.tables e below (T135.setTop (mkF m 40 #[.val (.int p0), .val (.int p1), .val (.int (2 : Int32)), .val (.int (3 : Int32)), .val (.ref w_3), .val (.ref w_2), .unset] [])) _
                refine XS.iconst X135.here hx rfl (hb hby at_40) ?_
                show Steps p.tables e below (T135.setTop (mkF m 41 #[.val (.int p0), .val (.int p1), .val (.int (2 : Int32)), .val (.int (3 : Int32)), .val (.ref w_3), .val (.ref w_2), .unset] [(.int (1 : Int32))])) _
                refine XS.istore X135.here hx rfl (hb hby at_41) rfl (l' := #[.val (.int p0), .val (.int p1), .val (.int (2 : Int32)), .val (.int (3 : Int32)), .val (.ref w_3), .val (.ref w_2), .val (.int (1 : Int32))]) rfl ?_
                show Steps p.tables e below (T135.setTop (mkF m 43 #[.val (.int p0), .val (.int p1), .val (.int (2 : Int32)), .val (.int (3 : Int32)), .val (.ref w_3), .val (.ref w_2), .val (.int (1 : Int32))] [])) _
                refine XS.aload X135.here hx rfl (hb hby at_43) rfl rfl ?_
                show Steps p.tables e below (T135.setTop (mkF m 45 #[.val (.int p0), .val (.int p1), .val (.int (2 : Int32)), .val (.int (3 : Int32)), .val (.ref w_3), .val (.ref w_2), .val (.int (1 : Int32))] [(.ref w_3)])) _
                refine XS.aload X135.here hx rfl (hb hby at_45) rfl rfl ?_
                show Steps p.tables e below (T135.setTop (mkF m 47 #[.val (.int p0), .val (.int p1), .val (.int (2 : Int32)), .val (.int (3 : Int32)), .val (.ref w_3), .val (.ref w_2), .val (.int (1 : Int32))] [(.ref w_2), (.ref w_3)])) _
                refine st136.trans ?_
                show Steps p.tables e below (T136.setTop (mkF m 50 #[.val (.int p0), .val (.int p1), .val (.int (2 : Int32)), .val (.int (3 : Int32)), .val (.ref w_3), .val (.ref w_2), .val (.int (1 : Int32))] [(.int (1 : Int32))])) _
                refine XS.iload X136.here hx rfl (hb hby at_50) rfl ?_
                show Steps p.tables e below (T136.setTop (mkF m 52 #[.val (.int p0), .val (.int p1), .val (.int (2 : Int32)), .val (.int (3 : Int32)), .val (.ref w_3), .val (.ref w_2), .val (.int (1 : Int32))] [(.int (1 : Int32)), (.int (1 : Int32))])) _
                refine XS.icmpNo X136.here hx rfl (hb hby at_52) rfl (teq (by decide : ((1 : Int32) = (1 : Int32)))).2 ?_
                show Steps p.tables e below (T136.setTop (mkF m 55 #[.val (.int p0), .val (.int p1), .val (.int (2 : Int32)), .val (.int (3 : Int32)), .val (.ref w_3), .val (.ref w_2), .val (.int (1 : Int32))] [])) _
                refine XS.iconst X136.here hx rfl (hb hby at_55) ?_
                show Steps p.tables e below (T136.setTop (mkF m 56 #[.val (.int p0), .val (.int p1), .val (.int (2 : Int32)), .val (.int (3 : Int32)), .val (.ref w_3), .val (.ref w_2), .val (.int (1 : Int32))] [(.int (1 : Int32))])) _
                refine XS.goto X136.here hx rfl (pc0 := 56) (pc' := 60) rfl (hb hby at_56) (by decide) (by decide) ?_
                show Steps p.tables e below (T136.setTop (mkF m 60 #[.val (.int p0), .val (.int p1), .val (.int (2 : Int32)), .val (.int (3 : Int32)), .val (.ref w_3), .val (.ref w_2), .val (.int (1 : Int32))] [(.int (1 : Int32))])) _
                exact retN X136 hx (t := .boolean) Bd.returns (by simp) (hb hby at_60) hr
              · show Q0 Z w_1 w_2 w_3 w_4 p0 p1 h0 n0 _ T136.heap _
                rw [e136]
                exact ⟨by unfold sp0; rw [if_neg hc23, if_neg hc71, if_pos hc104, if_neg hc105, if_neg hc113, if_neg hc121], N136, rfl⟩
      · have hL137 : (p0 &&& (3 : Int32)) = (3 : Int32) := by
          have r : 0 ≤ ((p0 &&& (3 : Int32))).toInt ∧ ((p0 &&& (3 : Int32))).toInt < 4 := (own_rand p0 (3 : Int32) 4 (by decide) (by decide))
          have q0 := own_ne hc23 (n := 0) (by decide)
          have q1 := own_ne hc71 (n := 1) (by decide)
          have q2 := own_ne hc104 (n := 2) (by decide)
          exact own_eq (n := 3) (by decide) (by omega)
        by_cases hc138 : (p1 &&& (3 : Int32)) = (0 : Int32)
        · have pre139 : ∀ t, Steps p.tables e below (s₁.setTop (mkF m 3 #[.val (.int p0), .val (.int p1), .unset, .unset, .unset, .unset, .unset] [(.int (p0 &&& (3 : Int32)))])) t → Steps p.tables e below (s₁.setTop (entryFrame m #[(.int p0), (.int p1)] maxLocals)) t := fun t kt => by
            refine pre0 t ?_
            show Steps p.tables e below (s₁.setTop (mkF m 0 #[.val (.int p0), .val (.int p1), .unset, .unset, .unset, .unset, .unset] [])) _
            refine XS.iloadN X0.here hx rfl (hb hby at_0) rfl ?_
            show Steps p.tables e below (s₁.setTop (mkF m 1 #[.val (.int p0), .val (.int p1), .unset, .unset, .unset, .unset, .unset] [(.int p0)])) _
            refine XS.iconst X0.here hx rfl (hb hby at_1) ?_
            show Steps p.tables e below (s₁.setTop (mkF m 2 #[.val (.int p0), .val (.int p1), .unset, .unset, .unset, .unset, .unset] [(.int (3 : Int32)), (.int p0)])) _
            refine XS.iand X0.here hx rfl (hb hby at_2) rfl ?_
            show Steps p.tables e below (s₁.setTop (mkF m 3 #[.val (.int p0), .val (.int p1), .unset, .unset, .unset, .unset, .unset] [(.int (p0 &&& (3 : Int32)))])) _
            exact kt
          have pre140 : ∀ t, Steps p.tables e below (s₁.setTop (mkF m 3 #[.val (.int p0), .val (.int p1), .unset, .unset, .unset, .unset, .unset] [(.int (3 : Int32))])) t → Steps p.tables e below (s₁.setTop (entryFrame m #[(.int p0), (.int p1)] maxLocals)) t := fun t kt => pre139 t (by rw [(by rw [hL137] <;> decide : (p0 &&& (3 : Int32)) = (3 : Int32))]; exact kt)
          have pre141 : ∀ t, Steps p.tables e below (s₁.setTop (mkF m 7 #[.val (.int p0), .val (.int p1), .val (.int (3 : Int32)), .unset, .unset, .unset, .unset] [(.int (p1 &&& (3 : Int32)))])) t → Steps p.tables e below (s₁.setTop (entryFrame m #[(.int p0), (.int p1)] maxLocals)) t := fun t kt => by
            refine pre140 t ?_
            show Steps p.tables e below (s₁.setTop (mkF m 3 #[.val (.int p0), .val (.int p1), .unset, .unset, .unset, .unset, .unset] [(.int (3 : Int32))])) _
            refine XS.istoreN X0.here hx rfl (hb hby at_3) rfl (l' := #[.val (.int p0), .val (.int p1), .val (.int (3 : Int32)), .unset, .unset, .unset, .unset]) rfl ?_
            show Steps p.tables e below (s₁.setTop (mkF m 4 #[.val (.int p0), .val (.int p1), .val (.int (3 : Int32)), .unset, .unset, .unset, .unset] [])) _
            refine XS.iloadN X0.here hx rfl (hb hby at_4) rfl ?_
            show Steps p.tables e below (s₁.setTop (mkF m 5 #[.val (.int p0), .val (.int p1), .val (.int (3 : Int32)), .unset, .unset, .unset, .unset] [(.int p1)])) _
            refine XS.iconst X0.here hx rfl (hb hby at_5) ?_
            show Steps p.tables e below (s₁.setTop (mkF m 6 #[.val (.int p0), .val (.int p1), .val (.int (3 : Int32)), .unset, .unset, .unset, .unset] [(.int (3 : Int32)), (.int p1)])) _
            refine XS.iand X0.here hx rfl (hb hby at_6) rfl ?_
            show Steps p.tables e below (s₁.setTop (mkF m 7 #[.val (.int p0), .val (.int p1), .val (.int (3 : Int32)), .unset, .unset, .unset, .unset] [(.int (p1 &&& (3 : Int32)))])) _
            exact kt
          have pre142 : ∀ t, Steps p.tables e below (s₁.setTop (mkF m 7 #[.val (.int p0), .val (.int p1), .val (.int (3 : Int32)), .unset, .unset, .unset, .unset] [(.int (0 : Int32))])) t → Steps p.tables e below (s₁.setTop (entryFrame m #[(.int p0), (.int p1)] maxLocals)) t := fun t kt => pre141 t (by rw [(by rw [hc138] <;> decide : (p1 &&& (3 : Int32)) = (0 : Int32))]; exact kt)
          obtain ⟨_, _, ⟨T143, L143, k143, n143⟩, -, X143, ⟨Lc143, hQ143, l143, y143, z143⟩, st143⟩ := Jvm.LawKit.callS X0 hx (y := Y0) hown (mvT hZ (hw _ (tk 0 rfl))) (mvT hZ (hw _ (tk 1 rfl))) (mvT hZ (hw _ (tk 2 rfl))) (mvT hZ (hw _ (tk 3 rfl))) (by decide) (backOf (W := 0) (rm1 l Z a0 hw [] w_1 w_2 w_3 w_4 hS0 (3 : Int32) h0 n0 O0) hZ (hw _ (tk 3 rfl)) (hw _ (tk 2 rfl)) (by decide) (by decide)) (g := (mkF m 9 #[.val (.int p0), .val (.int p1), .val (.int (3 : Int32)), .val (.int (0 : Int32)), .unset, .unset, .unset] [(.int (3 : Int32))])) rfl (by rw [hml]; rfl) (argsL := [(.int (3 : Int32))]) (rest := []) (lenOf pd_0 rfl) rfl (by show 2 * 0 + _ ≤ _; exact Nat.le_of_eq rfl) (hb hby at_9) (fun _ _ => ⟨rfl, e0, (by decide : 0 + 0 ≤ _), (by decide : 0 + 0 ≤ _)⟩)
          dsimp only [Pt.U, Pt.locs, Pt.cells, Pt.slots] at X143 l143 y143 z143 st143 hQ143
          subst l143 y143 z143
          obtain ⟨rv143, N143q, e143⟩ := hQ143
          rw [show sp1 w_1 w_2 w_3 w_4 (3 : Int32) = (.ref w_2) from by unfold sp1; rw [if_neg (by decide : ¬ (((3 : Int32) &&& (3 : Int32)) = (0 : Int32))), if_neg (by decide : ¬ (((3 : Int32) &&& (3 : Int32)) = (1 : Int32))), if_neg (by decide : ¬ (((3 : Int32) &&& (3 : Int32)) = (2 : Int32)))]] at rv143
          subst rv143
          have N143 := Fr.app N0 N143q
          obtain ⟨_, _, ⟨T144, L144, k144, n144⟩, -, X144, ⟨Lc144, hQ144, l144, y144, z144⟩, st144⟩ := Jvm.LawKit.callS X143 hx (y := Y0) hown (mvT hZ (hw _ (tk 0 rfl))) (mvT hZ (hw _ (tk 1 rfl))) (mvT hZ (hw _ (tk 2 rfl))) (mvT hZ (hw _ (tk 3 rfl))) (by decide) (backOf (W := 0) (rm1 l Z a0 hw [] w_1 w_2 w_3 w_4 hS0 (0 : Int32) h0 n0 O0) hZ (hw _ (tk 3 rfl)) (hw _ (tk 2 rfl)) (by decide) (by decide)) (g := (mkF m 15 #[.val (.int p0), .val (.int p1), .val (.int (3 : Int32)), .val (.int (0 : Int32)), .val (.ref w_2), .unset, .unset] [(.int (0 : Int32))])) rfl (by rw [hml]; rfl) (argsL := [(.int (0 : Int32))]) (rest := []) (lenOf pd_0 rfl) rfl (by show 2 * 0 + _ ≤ _; exact Nat.le_of_eq rfl) (hb hby at_15) (fun _ _ => ⟨rfl, e143, (by decide : 0 + 0 ≤ _), (by decide : 0 + 0 ≤ _)⟩)
          dsimp only [Pt.U, Pt.locs, Pt.cells, Pt.slots] at X144 l144 y144 z144 st144 hQ144
          subst l144 y144 z144
          obtain ⟨rv144, N144q, e144⟩ := hQ144
          rw [show sp1 w_1 w_2 w_3 w_4 (0 : Int32) = (.ref w_1) from by unfold sp1; rw [if_pos (by decide : (((0 : Int32) &&& (3 : Int32)) = (0 : Int32)))]] at rv144
          subst rv144
          have N144 := Fr.app N143 N144q
          obtain ⟨cq145, kq145, q145a, q145b, q145c⟩ := isOf hZ e144 (E_2.ext O0.2)
          obtain ⟨_, _, ⟨T145, L145, k145, n145⟩, -, X145, ⟨Lc145, hQ145, l145, y145, z145⟩, st145⟩ := X144.virtualBack hx (y := Y1) (z := Y1) hown (mvT hZ (hw _ (tk 9 rfl))) (mvT hZ (hw _ (tk 10 rfl))) (notFace_of_selects (args := #[]) (mvT hZ (hw _ (tk 12 rfl)))) (mvT hZ (hw _ (tk 12 rfl))) (mvT hZ (hw _ (tk 11 rfl))) (by decide) (backOf (W := 0) (rm2 l Z a0 hw [] w_1 w_2 w_3 w_4 hS0 w_2 w_1 (0 : Int32) h0 n0 O0 (F_2_sharedWithItself.ext O0.2)) hZ (hw _ (tk 13 rfl)) (hw _ (tk 5 rfl)) (by decide) (by decide)) q145a q145c (g := (mkF m 47 #[.val (.int p0), .val (.int p1), .val (.int (3 : Int32)), .val (.int (0 : Int32)), .val (.ref w_2), .val (.ref w_1), .val (.int (1 : Int32))] [(.ref w_1), (.ref w_2)])) rfl (by rw [hml]; rfl) (Steps.refl _) (argsL := [(.ref w_1)]) (rest := []) (lenOf pd_1 rfl) rfl (by show 2 * 0 + _ ≤ _; exact Nat.le_of_eq rfl) (hb hby at_47) (fun _ _ => ⟨rfl, e144, (by decide : 0 + 0 ≤ _), (by decide : 0 + 0 ≤ _)⟩)
          dsimp only [Pt.U, Pt.locs, Pt.cells, Pt.slots] at X145 l145 y145 z145 st145 hQ145
          subst l145 y145 z145
          obtain ⟨rv145, N145q, e145⟩ := hQ145
          rw [show sp2 w_2 w_1 (0 : Int32) = (1 : Int32) from by unfold sp2; rw [if_neg (Fld.ne F_2_ordinal F_1_ordinal (by decide))]] at rv145
          subst rv145
          have N145 := Fr.app N144 N145q
          obtain ⟨fs, hr, hrun, hended, hW, hsame⟩ := X145.leave (v := some (.int (1 : Int32))) (fun h => by rw [Bd.returns] at h; cases h)
          refine ⟨_, _, pre142 _ ?_, hrun, hended, _, _, rfl, ?_, ⟨_, rfl⟩, hW, hsame.mono (by decide) (by decide)⟩
          · show Steps p.tables e below (s₁.setTop (mkF m 7 #[.val (.int p0), .val (.int p1), .val (.int (3 : Int32)), .unset, .unset, .unset, .unset] [(.int (0 : Int32))])) _
            refine XS.istoreN X0.here hx rfl (hb hby at_7) rfl (l' := #[.val (.int p0), .val (.int p1), .val (.int (3 : Int32)), .val (.int (0 : Int32)), .unset, .unset, .unset]) rfl ?_
            show Steps p.tables e below (s₁.setTop (mkF m 8 #[.val (.int p0), .val (.int p1), .val (.int (3 : Int32)), .val (.int (0 : Int32)), .unset, .unset, .unset] [])) _
            refine XS.iloadN X0.here hx rfl (hb hby at_8) rfl ?_
            show Steps p.tables e below (s₁.setTop (mkF m 9 #[.val (.int p0), .val (.int p1), .val (.int (3 : Int32)), .val (.int (0 : Int32)), .unset, .unset, .unset] [(.int (3 : Int32))])) _
            refine st143 _ ?_
            show Steps p.tables e below (T143.setTop (mkF m 12 #[.val (.int p0), .val (.int p1), .val (.int (3 : Int32)), .val (.int (0 : Int32)), .unset, .unset, .unset] [(.ref w_2)])) _
            refine XS.astore X143.here hx rfl (hb hby at_12) rfl rfl (l' := #[.val (.int p0), .val (.int p1), .val (.int (3 : Int32)), .val (.int (0 : Int32)), .val (.ref w_2), .unset, .unset]) rfl ?_
            show Steps p.tables e below (T143.setTop (mkF m 14 #[.val (.int p0), .val (.int p1), .val (.int (3 : Int32)), .val (.int (0 : Int32)), .val (.ref w_2), .unset, .unset] [])) _
            refine XS.iloadN X143.here hx rfl (hb hby at_14) rfl ?_
            show Steps p.tables e below (T143.setTop (mkF m 15 #[.val (.int p0), .val (.int p1), .val (.int (3 : Int32)), .val (.int (0 : Int32)), .val (.ref w_2), .unset, .unset] [(.int (0 : Int32))])) _
            refine st144 _ ?_
            show Steps p.tables e below (T144.setTop (mkF m 18 #[.val (.int p0), .val (.int p1), .val (.int (3 : Int32)), .val (.int (0 : Int32)), .val (.ref w_2), .unset, .unset] [(.ref w_1)])) _
            refine XS.astore X144.here hx rfl (hb hby at_18) rfl rfl (l' := #[.val (.int p0), .val (.int p1), .val (.int (3 : Int32)), .val (.int (0 : Int32)), .val (.ref w_2), .val (.ref w_1), .unset]) rfl ?_
            show Steps p.tables e below (T144.setTop (mkF m 20 #[.val (.int p0), .val (.int p1), .val (.int (3 : Int32)), .val (.int (0 : Int32)), .val (.ref w_2), .val (.ref w_1), .unset] [])) _
            refine XS.iloadN X144.here hx rfl (hb hby at_20) rfl ?_
            show Steps p.tables e below (T144.setTop (mkF m 21 #[.val (.int p0), .val (.int p1), .val (.int (3 : Int32)), .val (.int (0 : Int32)), .val (.ref w_2), .val (.ref w_1), .unset] [(.int (3 : Int32))])) _
            refine XS.iloadN X144.here hx rfl (hb hby at_21) rfl ?_
            show Steps p.tables e below (T144.setTop (mkF m 22 #[.val (.int p0), .val (.int p1), .val (.int (3 : Int32)), .val (.int (0 : Int32)), .val (.ref w_2), .val (.ref w_1), .unset] [(.int (0 : Int32)), (.int (3 : Int32))])) _
            refine XS.icmpYes X144.here hx rfl (pc0 := 22) (pc' := 40) rfl (hb hby at_22) rfl (feq (by decide : ¬ ((3 : Int32) = (0 : Int32)))).2 (by decide) (by decide) ?_
            show Steps p.tables e below (T144.setTop (mkF m 40 #[.val (.int p0), .val (.int p1), .val (.int (3 : Int32)), .val (.int (0 : Int32)), .val (.ref w_2), .val (.ref w_1), .unset] [])) _
            refine XS.iconst X144.here hx rfl (hb hby at_40) ?_
            show Steps p.tables e below (T144.setTop (mkF m 41 #[.val (.int p0), .val (.int p1), .val (.int (3 : Int32)), .val (.int (0 : Int32)), .val (.ref w_2), .val (.ref w_1), .unset] [(.int (1 : Int32))])) _
            refine XS.istore X144.here hx rfl (hb hby at_41) rfl (l' := #[.val (.int p0), .val (.int p1), .val (.int (3 : Int32)), .val (.int (0 : Int32)), .val (.ref w_2), .val (.ref w_1), .val (.int (1 : Int32))]) rfl ?_
            show Steps p.tables e below (T144.setTop (mkF m 43 #[.val (.int p0), .val (.int p1), .val (.int (3 : Int32)), .val (.int (0 : Int32)), .val (.ref w_2), .val (.ref w_1), .val (.int (1 : Int32))] [])) _
            refine XS.aload X144.here hx rfl (hb hby at_43) rfl rfl ?_
            show Steps p.tables e below (T144.setTop (mkF m 45 #[.val (.int p0), .val (.int p1), .val (.int (3 : Int32)), .val (.int (0 : Int32)), .val (.ref w_2), .val (.ref w_1), .val (.int (1 : Int32))] [(.ref w_2)])) _
            refine XS.aload X144.here hx rfl (hb hby at_45) rfl rfl ?_
            show Steps p.tables e below (T144.setTop (mkF m 47 #[.val (.int p0), .val (.int p1), .val (.int (3 : Int32)), .val (.int (0 : Int32)), .val (.ref w_2), .val (.ref w_1), .val (.int (1 : Int32))] [(.ref w_1), (.ref w_2)])) _
            refine st145.trans ?_
            show Steps p.tables e below (T145.setTop (mkF m 50 #[.val (.int p0), .val (.int p1), .val (.int (3 : Int32)), .val (.int (0 : Int32)), .val (.ref w_2), .val (.ref w_1), .val (.int (1 : Int32))] [(.int (1 : Int32))])) _
            refine XS.iload X145.here hx rfl (hb hby at_50) rfl ?_
            show Steps p.tables e below (T145.setTop (mkF m 52 #[.val (.int p0), .val (.int p1), .val (.int (3 : Int32)), .val (.int (0 : Int32)), .val (.ref w_2), .val (.ref w_1), .val (.int (1 : Int32))] [(.int (1 : Int32)), (.int (1 : Int32))])) _
            refine XS.icmpNo X145.here hx rfl (hb hby at_52) rfl (teq (by decide : ((1 : Int32) = (1 : Int32)))).2 ?_
            show Steps p.tables e below (T145.setTop (mkF m 55 #[.val (.int p0), .val (.int p1), .val (.int (3 : Int32)), .val (.int (0 : Int32)), .val (.ref w_2), .val (.ref w_1), .val (.int (1 : Int32))] [])) _
            refine XS.iconst X145.here hx rfl (hb hby at_55) ?_
            show Steps p.tables e below (T145.setTop (mkF m 56 #[.val (.int p0), .val (.int p1), .val (.int (3 : Int32)), .val (.int (0 : Int32)), .val (.ref w_2), .val (.ref w_1), .val (.int (1 : Int32))] [(.int (1 : Int32))])) _
            refine XS.goto X145.here hx rfl (pc0 := 56) (pc' := 60) rfl (hb hby at_56) (by decide) (by decide) ?_
            show Steps p.tables e below (T145.setTop (mkF m 60 #[.val (.int p0), .val (.int p1), .val (.int (3 : Int32)), .val (.int (0 : Int32)), .val (.ref w_2), .val (.ref w_1), .val (.int (1 : Int32))] [(.int (1 : Int32))])) _
            exact retN X145 hx (t := .boolean) Bd.returns (by simp) (hb hby at_60) hr
          · show Q0 Z w_1 w_2 w_3 w_4 p0 p1 h0 n0 _ T145.heap _
            rw [e145]
            exact ⟨by unfold sp0; rw [if_neg hc23, if_neg hc71, if_neg hc104, if_pos hc138], N145, rfl⟩
        · by_cases hc146 : (p1 &&& (3 : Int32)) = (1 : Int32)
          · have pre147 : ∀ t, Steps p.tables e below (s₁.setTop (mkF m 3 #[.val (.int p0), .val (.int p1), .unset, .unset, .unset, .unset, .unset] [(.int (p0 &&& (3 : Int32)))])) t → Steps p.tables e below (s₁.setTop (entryFrame m #[(.int p0), (.int p1)] maxLocals)) t := fun t kt => by
              refine pre0 t ?_
              show Steps p.tables e below (s₁.setTop (mkF m 0 #[.val (.int p0), .val (.int p1), .unset, .unset, .unset, .unset, .unset] [])) _
              refine XS.iloadN X0.here hx rfl (hb hby at_0) rfl ?_
              show Steps p.tables e below (s₁.setTop (mkF m 1 #[.val (.int p0), .val (.int p1), .unset, .unset, .unset, .unset, .unset] [(.int p0)])) _
              refine XS.iconst X0.here hx rfl (hb hby at_1) ?_
              show Steps p.tables e below (s₁.setTop (mkF m 2 #[.val (.int p0), .val (.int p1), .unset, .unset, .unset, .unset, .unset] [(.int (3 : Int32)), (.int p0)])) _
              refine XS.iand X0.here hx rfl (hb hby at_2) rfl ?_
              show Steps p.tables e below (s₁.setTop (mkF m 3 #[.val (.int p0), .val (.int p1), .unset, .unset, .unset, .unset, .unset] [(.int (p0 &&& (3 : Int32)))])) _
              exact kt
            have pre148 : ∀ t, Steps p.tables e below (s₁.setTop (mkF m 3 #[.val (.int p0), .val (.int p1), .unset, .unset, .unset, .unset, .unset] [(.int (3 : Int32))])) t → Steps p.tables e below (s₁.setTop (entryFrame m #[(.int p0), (.int p1)] maxLocals)) t := fun t kt => pre147 t (by rw [(by rw [hL137] <;> decide : (p0 &&& (3 : Int32)) = (3 : Int32))]; exact kt)
            have pre149 : ∀ t, Steps p.tables e below (s₁.setTop (mkF m 7 #[.val (.int p0), .val (.int p1), .val (.int (3 : Int32)), .unset, .unset, .unset, .unset] [(.int (p1 &&& (3 : Int32)))])) t → Steps p.tables e below (s₁.setTop (entryFrame m #[(.int p0), (.int p1)] maxLocals)) t := fun t kt => by
              refine pre148 t ?_
              show Steps p.tables e below (s₁.setTop (mkF m 3 #[.val (.int p0), .val (.int p1), .unset, .unset, .unset, .unset, .unset] [(.int (3 : Int32))])) _
              refine XS.istoreN X0.here hx rfl (hb hby at_3) rfl (l' := #[.val (.int p0), .val (.int p1), .val (.int (3 : Int32)), .unset, .unset, .unset, .unset]) rfl ?_
              show Steps p.tables e below (s₁.setTop (mkF m 4 #[.val (.int p0), .val (.int p1), .val (.int (3 : Int32)), .unset, .unset, .unset, .unset] [])) _
              refine XS.iloadN X0.here hx rfl (hb hby at_4) rfl ?_
              show Steps p.tables e below (s₁.setTop (mkF m 5 #[.val (.int p0), .val (.int p1), .val (.int (3 : Int32)), .unset, .unset, .unset, .unset] [(.int p1)])) _
              refine XS.iconst X0.here hx rfl (hb hby at_5) ?_
              show Steps p.tables e below (s₁.setTop (mkF m 6 #[.val (.int p0), .val (.int p1), .val (.int (3 : Int32)), .unset, .unset, .unset, .unset] [(.int (3 : Int32)), (.int p1)])) _
              refine XS.iand X0.here hx rfl (hb hby at_6) rfl ?_
              show Steps p.tables e below (s₁.setTop (mkF m 7 #[.val (.int p0), .val (.int p1), .val (.int (3 : Int32)), .unset, .unset, .unset, .unset] [(.int (p1 &&& (3 : Int32)))])) _
              exact kt
            have pre150 : ∀ t, Steps p.tables e below (s₁.setTop (mkF m 7 #[.val (.int p0), .val (.int p1), .val (.int (3 : Int32)), .unset, .unset, .unset, .unset] [(.int (1 : Int32))])) t → Steps p.tables e below (s₁.setTop (entryFrame m #[(.int p0), (.int p1)] maxLocals)) t := fun t kt => pre149 t (by rw [(by rw [hc146] <;> decide : (p1 &&& (3 : Int32)) = (1 : Int32))]; exact kt)
            obtain ⟨_, _, ⟨T151, L151, k151, n151⟩, -, X151, ⟨Lc151, hQ151, l151, y151, z151⟩, st151⟩ := Jvm.LawKit.callS X0 hx (y := Y0) hown (mvT hZ (hw _ (tk 0 rfl))) (mvT hZ (hw _ (tk 1 rfl))) (mvT hZ (hw _ (tk 2 rfl))) (mvT hZ (hw _ (tk 3 rfl))) (by decide) (backOf (W := 0) (rm1 l Z a0 hw [] w_1 w_2 w_3 w_4 hS0 (3 : Int32) h0 n0 O0) hZ (hw _ (tk 3 rfl)) (hw _ (tk 2 rfl)) (by decide) (by decide)) (g := (mkF m 9 #[.val (.int p0), .val (.int p1), .val (.int (3 : Int32)), .val (.int (1 : Int32)), .unset, .unset, .unset] [(.int (3 : Int32))])) rfl (by rw [hml]; rfl) (argsL := [(.int (3 : Int32))]) (rest := []) (lenOf pd_0 rfl) rfl (by show 2 * 0 + _ ≤ _; exact Nat.le_of_eq rfl) (hb hby at_9) (fun _ _ => ⟨rfl, e0, (by decide : 0 + 0 ≤ _), (by decide : 0 + 0 ≤ _)⟩)
            dsimp only [Pt.U, Pt.locs, Pt.cells, Pt.slots] at X151 l151 y151 z151 st151 hQ151
            subst l151 y151 z151
            obtain ⟨rv151, N151q, e151⟩ := hQ151
            rw [show sp1 w_1 w_2 w_3 w_4 (3 : Int32) = (.ref w_2) from by unfold sp1; rw [if_neg (by decide : ¬ (((3 : Int32) &&& (3 : Int32)) = (0 : Int32))), if_neg (by decide : ¬ (((3 : Int32) &&& (3 : Int32)) = (1 : Int32))), if_neg (by decide : ¬ (((3 : Int32) &&& (3 : Int32)) = (2 : Int32)))]] at rv151
            subst rv151
            have N151 := Fr.app N0 N151q
            obtain ⟨_, _, ⟨T152, L152, k152, n152⟩, -, X152, ⟨Lc152, hQ152, l152, y152, z152⟩, st152⟩ := Jvm.LawKit.callS X151 hx (y := Y0) hown (mvT hZ (hw _ (tk 0 rfl))) (mvT hZ (hw _ (tk 1 rfl))) (mvT hZ (hw _ (tk 2 rfl))) (mvT hZ (hw _ (tk 3 rfl))) (by decide) (backOf (W := 0) (rm1 l Z a0 hw [] w_1 w_2 w_3 w_4 hS0 (1 : Int32) h0 n0 O0) hZ (hw _ (tk 3 rfl)) (hw _ (tk 2 rfl)) (by decide) (by decide)) (g := (mkF m 15 #[.val (.int p0), .val (.int p1), .val (.int (3 : Int32)), .val (.int (1 : Int32)), .val (.ref w_2), .unset, .unset] [(.int (1 : Int32))])) rfl (by rw [hml]; rfl) (argsL := [(.int (1 : Int32))]) (rest := []) (lenOf pd_0 rfl) rfl (by show 2 * 0 + _ ≤ _; exact Nat.le_of_eq rfl) (hb hby at_15) (fun _ _ => ⟨rfl, e151, (by decide : 0 + 0 ≤ _), (by decide : 0 + 0 ≤ _)⟩)
            dsimp only [Pt.U, Pt.locs, Pt.cells, Pt.slots] at X152 l152 y152 z152 st152 hQ152
            subst l152 y152 z152
            obtain ⟨rv152, N152q, e152⟩ := hQ152
            rw [show sp1 w_1 w_2 w_3 w_4 (1 : Int32) = (.ref w_4) from by unfold sp1; rw [if_neg (by decide : ¬ (((1 : Int32) &&& (3 : Int32)) = (0 : Int32))), if_pos (by decide : (((1 : Int32) &&& (3 : Int32)) = (1 : Int32)))]] at rv152
            subst rv152
            have N152 := Fr.app N151 N152q
            obtain ⟨cq153, kq153, q153a, q153b, q153c⟩ := isOf hZ e152 (E_2.ext O0.2)
            obtain ⟨_, _, ⟨T153, L153, k153, n153⟩, -, X153, ⟨Lc153, hQ153, l153, y153, z153⟩, st153⟩ := X152.virtualBack hx (y := Y1) (z := Y1) hown (mvT hZ (hw _ (tk 9 rfl))) (mvT hZ (hw _ (tk 10 rfl))) (notFace_of_selects (args := #[]) (mvT hZ (hw _ (tk 12 rfl)))) (mvT hZ (hw _ (tk 12 rfl))) (mvT hZ (hw _ (tk 11 rfl))) (by decide) (backOf (W := 0) (rm2 l Z a0 hw [] w_1 w_2 w_3 w_4 hS0 w_2 w_4 (0 : Int32) h0 n0 O0 (F_2_sharedWithItself.ext O0.2)) hZ (hw _ (tk 13 rfl)) (hw _ (tk 5 rfl)) (by decide) (by decide)) q153a q153c (g := (mkF m 47 #[.val (.int p0), .val (.int p1), .val (.int (3 : Int32)), .val (.int (1 : Int32)), .val (.ref w_2), .val (.ref w_4), .val (.int (1 : Int32))] [(.ref w_4), (.ref w_2)])) rfl (by rw [hml]; rfl) (Steps.refl _) (argsL := [(.ref w_4)]) (rest := []) (lenOf pd_1 rfl) rfl (by show 2 * 0 + _ ≤ _; exact Nat.le_of_eq rfl) (hb hby at_47) (fun _ _ => ⟨rfl, e152, (by decide : 0 + 0 ≤ _), (by decide : 0 + 0 ≤ _)⟩)
            dsimp only [Pt.U, Pt.locs, Pt.cells, Pt.slots] at X153 l153 y153 z153 st153 hQ153
            subst l153 y153 z153
            obtain ⟨rv153, N153q, e153⟩ := hQ153
            rw [show sp2 w_2 w_4 (0 : Int32) = (1 : Int32) from by unfold sp2; rw [if_neg (Fld.ne F_2_ordinal F_4_ordinal (by decide))]] at rv153
            subst rv153
            have N153 := Fr.app N152 N153q
            obtain ⟨fs, hr, hrun, hended, hW, hsame⟩ := X153.leave (v := some (.int (1 : Int32))) (fun h => by rw [Bd.returns] at h; cases h)
            refine ⟨_, _, pre150 _ ?_, hrun, hended, _, _, rfl, ?_, ⟨_, rfl⟩, hW, hsame.mono (by decide) (by decide)⟩
            · show Steps p.tables e below (s₁.setTop (mkF m 7 #[.val (.int p0), .val (.int p1), .val (.int (3 : Int32)), .unset, .unset, .unset, .unset] [(.int (1 : Int32))])) _
              refine XS.istoreN X0.here hx rfl (hb hby at_7) rfl (l' := #[.val (.int p0), .val (.int p1), .val (.int (3 : Int32)), .val (.int (1 : Int32)), .unset, .unset, .unset]) rfl ?_
              show Steps p.tables e below (s₁.setTop (mkF m 8 #[.val (.int p0), .val (.int p1), .val (.int (3 : Int32)), .val (.int (1 : Int32)), .unset, .unset, .unset] [])) _
              refine XS.iloadN X0.here hx rfl (hb hby at_8) rfl ?_
              show Steps p.tables e below (s₁.setTop (mkF m 9 #[.val (.int p0), .val (.int p1), .val (.int (3 : Int32)), .val (.int (1 : Int32)), .unset, .unset, .unset] [(.int (3 : Int32))])) _
              refine st151 _ ?_
              show Steps p.tables e below (T151.setTop (mkF m 12 #[.val (.int p0), .val (.int p1), .val (.int (3 : Int32)), .val (.int (1 : Int32)), .unset, .unset, .unset] [(.ref w_2)])) _
              refine XS.astore X151.here hx rfl (hb hby at_12) rfl rfl (l' := #[.val (.int p0), .val (.int p1), .val (.int (3 : Int32)), .val (.int (1 : Int32)), .val (.ref w_2), .unset, .unset]) rfl ?_
              show Steps p.tables e below (T151.setTop (mkF m 14 #[.val (.int p0), .val (.int p1), .val (.int (3 : Int32)), .val (.int (1 : Int32)), .val (.ref w_2), .unset, .unset] [])) _
              refine XS.iloadN X151.here hx rfl (hb hby at_14) rfl ?_
              show Steps p.tables e below (T151.setTop (mkF m 15 #[.val (.int p0), .val (.int p1), .val (.int (3 : Int32)), .val (.int (1 : Int32)), .val (.ref w_2), .unset, .unset] [(.int (1 : Int32))])) _
              refine st152 _ ?_
              show Steps p.tables e below (T152.setTop (mkF m 18 #[.val (.int p0), .val (.int p1), .val (.int (3 : Int32)), .val (.int (1 : Int32)), .val (.ref w_2), .unset, .unset] [(.ref w_4)])) _
              refine XS.astore X152.here hx rfl (hb hby at_18) rfl rfl (l' := #[.val (.int p0), .val (.int p1), .val (.int (3 : Int32)), .val (.int (1 : Int32)), .val (.ref w_2), .val (.ref w_4), .unset]) rfl ?_
              show Steps p.tables e below (T152.setTop (mkF m 20 #[.val (.int p0), .val (.int p1), .val (.int (3 : Int32)), .val (.int (1 : Int32)), .val (.ref w_2), .val (.ref w_4), .unset] [])) _
              refine XS.iloadN X152.here hx rfl (hb hby at_20) rfl ?_
              show Steps p.tables e below (T152.setTop (mkF m 21 #[.val (.int p0), .val (.int p1), .val (.int (3 : Int32)), .val (.int (1 : Int32)), .val (.ref w_2), .val (.ref w_4), .unset] [(.int (3 : Int32))])) _
              refine XS.iloadN X152.here hx rfl (hb hby at_21) rfl ?_
              show Steps p.tables e below (T152.setTop (mkF m 22 #[.val (.int p0), .val (.int p1), .val (.int (3 : Int32)), .val (.int (1 : Int32)), .val (.ref w_2), .val (.ref w_4), .unset] [(.int (1 : Int32)), (.int (3 : Int32))])) _
              refine XS.icmpYes X152.here hx rfl (pc0 := 22) (pc' := 40) rfl (hb hby at_22) rfl (feq (by decide : ¬ ((3 : Int32) = (1 : Int32)))).2 (by decide) (by decide) ?_
              show Steps p.tables e below (T152.setTop (mkF m 40 #[.val (.int p0), .val (.int p1), .val (.int (3 : Int32)), .val (.int (1 : Int32)), .val (.ref w_2), .val (.ref w_4), .unset] [])) _
              refine XS.iconst X152.here hx rfl (hb hby at_40) ?_
              show Steps p.tables e below (T152.setTop (mkF m 41 #[.val (.int p0), .val (.int p1), .val (.int (3 : Int32)), .val (.int (1 : Int32)), .val (.ref w_2), .val (.ref w_4), .unset] [(.int (1 : Int32))])) _
              refine XS.istore X152.here hx rfl (hb hby at_41) rfl (l' := #[.val (.int p0), .val (.int p1), .val (.int (3 : Int32)), .val (.int (1 : Int32)), .val (.ref w_2), .val (.ref w_4), .val (.int (1 : Int32))]) rfl ?_
              show Steps p.tables e below (T152.setTop (mkF m 43 #[.val (.int p0), .val (.int p1), .val (.int (3 : Int32)), .val (.int (1 : Int32)), .val (.ref w_2), .val (.ref w_4), .val (.int (1 : Int32))] [])) _
              refine XS.aload X152.here hx rfl (hb hby at_43) rfl rfl ?_
              show Steps p.tables e below (T152.setTop (mkF m 45 #[.val (.int p0), .val (.int p1), .val (.int (3 : Int32)), .val (.int (1 : Int32)), .val (.ref w_2), .val (.ref w_4), .val (.int (1 : Int32))] [(.ref w_2)])) _
              refine XS.aload X152.here hx rfl (hb hby at_45) rfl rfl ?_
              show Steps p.tables e below (T152.setTop (mkF m 47 #[.val (.int p0), .val (.int p1), .val (.int (3 : Int32)), .val (.int (1 : Int32)), .val (.ref w_2), .val (.ref w_4), .val (.int (1 : Int32))] [(.ref w_4), (.ref w_2)])) _
              refine st153.trans ?_
              show Steps p.tables e below (T153.setTop (mkF m 50 #[.val (.int p0), .val (.int p1), .val (.int (3 : Int32)), .val (.int (1 : Int32)), .val (.ref w_2), .val (.ref w_4), .val (.int (1 : Int32))] [(.int (1 : Int32))])) _
              refine XS.iload X153.here hx rfl (hb hby at_50) rfl ?_
              show Steps p.tables e below (T153.setTop (mkF m 52 #[.val (.int p0), .val (.int p1), .val (.int (3 : Int32)), .val (.int (1 : Int32)), .val (.ref w_2), .val (.ref w_4), .val (.int (1 : Int32))] [(.int (1 : Int32)), (.int (1 : Int32))])) _
              refine XS.icmpNo X153.here hx rfl (hb hby at_52) rfl (teq (by decide : ((1 : Int32) = (1 : Int32)))).2 ?_
              show Steps p.tables e below (T153.setTop (mkF m 55 #[.val (.int p0), .val (.int p1), .val (.int (3 : Int32)), .val (.int (1 : Int32)), .val (.ref w_2), .val (.ref w_4), .val (.int (1 : Int32))] [])) _
              refine XS.iconst X153.here hx rfl (hb hby at_55) ?_
              show Steps p.tables e below (T153.setTop (mkF m 56 #[.val (.int p0), .val (.int p1), .val (.int (3 : Int32)), .val (.int (1 : Int32)), .val (.ref w_2), .val (.ref w_4), .val (.int (1 : Int32))] [(.int (1 : Int32))])) _
              refine XS.goto X153.here hx rfl (pc0 := 56) (pc' := 60) rfl (hb hby at_56) (by decide) (by decide) ?_
              show Steps p.tables e below (T153.setTop (mkF m 60 #[.val (.int p0), .val (.int p1), .val (.int (3 : Int32)), .val (.int (1 : Int32)), .val (.ref w_2), .val (.ref w_4), .val (.int (1 : Int32))] [(.int (1 : Int32))])) _
              exact retN X153 hx (t := .boolean) Bd.returns (by simp) (hb hby at_60) hr
            · show Q0 Z w_1 w_2 w_3 w_4 p0 p1 h0 n0 _ T153.heap _
              rw [e153]
              exact ⟨by unfold sp0; rw [if_neg hc23, if_neg hc71, if_neg hc104, if_neg hc138, if_pos hc146], N153, rfl⟩
          · by_cases hc154 : (p1 &&& (3 : Int32)) = (2 : Int32)
            · have pre155 : ∀ t, Steps p.tables e below (s₁.setTop (mkF m 3 #[.val (.int p0), .val (.int p1), .unset, .unset, .unset, .unset, .unset] [(.int (p0 &&& (3 : Int32)))])) t → Steps p.tables e below (s₁.setTop (entryFrame m #[(.int p0), (.int p1)] maxLocals)) t := fun t kt => by
                refine pre0 t ?_
                show Steps p.tables e below (s₁.setTop (mkF m 0 #[.val (.int p0), .val (.int p1), .unset, .unset, .unset, .unset, .unset] [])) _
                refine XS.iloadN X0.here hx rfl (hb hby at_0) rfl ?_
                show Steps p.tables e below (s₁.setTop (mkF m 1 #[.val (.int p0), .val (.int p1), .unset, .unset, .unset, .unset, .unset] [(.int p0)])) _
                refine XS.iconst X0.here hx rfl (hb hby at_1) ?_
                show Steps p.tables e below (s₁.setTop (mkF m 2 #[.val (.int p0), .val (.int p1), .unset, .unset, .unset, .unset, .unset] [(.int (3 : Int32)), (.int p0)])) _
                refine XS.iand X0.here hx rfl (hb hby at_2) rfl ?_
                show Steps p.tables e below (s₁.setTop (mkF m 3 #[.val (.int p0), .val (.int p1), .unset, .unset, .unset, .unset, .unset] [(.int (p0 &&& (3 : Int32)))])) _
                exact kt
              have pre156 : ∀ t, Steps p.tables e below (s₁.setTop (mkF m 3 #[.val (.int p0), .val (.int p1), .unset, .unset, .unset, .unset, .unset] [(.int (3 : Int32))])) t → Steps p.tables e below (s₁.setTop (entryFrame m #[(.int p0), (.int p1)] maxLocals)) t := fun t kt => pre155 t (by rw [(by rw [hL137] <;> decide : (p0 &&& (3 : Int32)) = (3 : Int32))]; exact kt)
              have pre157 : ∀ t, Steps p.tables e below (s₁.setTop (mkF m 7 #[.val (.int p0), .val (.int p1), .val (.int (3 : Int32)), .unset, .unset, .unset, .unset] [(.int (p1 &&& (3 : Int32)))])) t → Steps p.tables e below (s₁.setTop (entryFrame m #[(.int p0), (.int p1)] maxLocals)) t := fun t kt => by
                refine pre156 t ?_
                show Steps p.tables e below (s₁.setTop (mkF m 3 #[.val (.int p0), .val (.int p1), .unset, .unset, .unset, .unset, .unset] [(.int (3 : Int32))])) _
                refine XS.istoreN X0.here hx rfl (hb hby at_3) rfl (l' := #[.val (.int p0), .val (.int p1), .val (.int (3 : Int32)), .unset, .unset, .unset, .unset]) rfl ?_
                show Steps p.tables e below (s₁.setTop (mkF m 4 #[.val (.int p0), .val (.int p1), .val (.int (3 : Int32)), .unset, .unset, .unset, .unset] [])) _
                refine XS.iloadN X0.here hx rfl (hb hby at_4) rfl ?_
                show Steps p.tables e below (s₁.setTop (mkF m 5 #[.val (.int p0), .val (.int p1), .val (.int (3 : Int32)), .unset, .unset, .unset, .unset] [(.int p1)])) _
                refine XS.iconst X0.here hx rfl (hb hby at_5) ?_
                show Steps p.tables e below (s₁.setTop (mkF m 6 #[.val (.int p0), .val (.int p1), .val (.int (3 : Int32)), .unset, .unset, .unset, .unset] [(.int (3 : Int32)), (.int p1)])) _
                refine XS.iand X0.here hx rfl (hb hby at_6) rfl ?_
                show Steps p.tables e below (s₁.setTop (mkF m 7 #[.val (.int p0), .val (.int p1), .val (.int (3 : Int32)), .unset, .unset, .unset, .unset] [(.int (p1 &&& (3 : Int32)))])) _
                exact kt
              have pre158 : ∀ t, Steps p.tables e below (s₁.setTop (mkF m 7 #[.val (.int p0), .val (.int p1), .val (.int (3 : Int32)), .unset, .unset, .unset, .unset] [(.int (2 : Int32))])) t → Steps p.tables e below (s₁.setTop (entryFrame m #[(.int p0), (.int p1)] maxLocals)) t := fun t kt => pre157 t (by rw [(by rw [hc154] <;> decide : (p1 &&& (3 : Int32)) = (2 : Int32))]; exact kt)
              obtain ⟨_, _, ⟨T159, L159, k159, n159⟩, -, X159, ⟨Lc159, hQ159, l159, y159, z159⟩, st159⟩ := Jvm.LawKit.callS X0 hx (y := Y0) hown (mvT hZ (hw _ (tk 0 rfl))) (mvT hZ (hw _ (tk 1 rfl))) (mvT hZ (hw _ (tk 2 rfl))) (mvT hZ (hw _ (tk 3 rfl))) (by decide) (backOf (W := 0) (rm1 l Z a0 hw [] w_1 w_2 w_3 w_4 hS0 (3 : Int32) h0 n0 O0) hZ (hw _ (tk 3 rfl)) (hw _ (tk 2 rfl)) (by decide) (by decide)) (g := (mkF m 9 #[.val (.int p0), .val (.int p1), .val (.int (3 : Int32)), .val (.int (2 : Int32)), .unset, .unset, .unset] [(.int (3 : Int32))])) rfl (by rw [hml]; rfl) (argsL := [(.int (3 : Int32))]) (rest := []) (lenOf pd_0 rfl) rfl (by show 2 * 0 + _ ≤ _; exact Nat.le_of_eq rfl) (hb hby at_9) (fun _ _ => ⟨rfl, e0, (by decide : 0 + 0 ≤ _), (by decide : 0 + 0 ≤ _)⟩)
              dsimp only [Pt.U, Pt.locs, Pt.cells, Pt.slots] at X159 l159 y159 z159 st159 hQ159
              subst l159 y159 z159
              obtain ⟨rv159, N159q, e159⟩ := hQ159
              rw [show sp1 w_1 w_2 w_3 w_4 (3 : Int32) = (.ref w_2) from by unfold sp1; rw [if_neg (by decide : ¬ (((3 : Int32) &&& (3 : Int32)) = (0 : Int32))), if_neg (by decide : ¬ (((3 : Int32) &&& (3 : Int32)) = (1 : Int32))), if_neg (by decide : ¬ (((3 : Int32) &&& (3 : Int32)) = (2 : Int32)))]] at rv159
              subst rv159
              have N159 := Fr.app N0 N159q
              obtain ⟨_, _, ⟨T160, L160, k160, n160⟩, -, X160, ⟨Lc160, hQ160, l160, y160, z160⟩, st160⟩ := Jvm.LawKit.callS X159 hx (y := Y0) hown (mvT hZ (hw _ (tk 0 rfl))) (mvT hZ (hw _ (tk 1 rfl))) (mvT hZ (hw _ (tk 2 rfl))) (mvT hZ (hw _ (tk 3 rfl))) (by decide) (backOf (W := 0) (rm1 l Z a0 hw [] w_1 w_2 w_3 w_4 hS0 (2 : Int32) h0 n0 O0) hZ (hw _ (tk 3 rfl)) (hw _ (tk 2 rfl)) (by decide) (by decide)) (g := (mkF m 15 #[.val (.int p0), .val (.int p1), .val (.int (3 : Int32)), .val (.int (2 : Int32)), .val (.ref w_2), .unset, .unset] [(.int (2 : Int32))])) rfl (by rw [hml]; rfl) (argsL := [(.int (2 : Int32))]) (rest := []) (lenOf pd_0 rfl) rfl (by show 2 * 0 + _ ≤ _; exact Nat.le_of_eq rfl) (hb hby at_15) (fun _ _ => ⟨rfl, e159, (by decide : 0 + 0 ≤ _), (by decide : 0 + 0 ≤ _)⟩)
              dsimp only [Pt.U, Pt.locs, Pt.cells, Pt.slots] at X160 l160 y160 z160 st160 hQ160
              subst l160 y160 z160
              obtain ⟨rv160, N160q, e160⟩ := hQ160
              rw [show sp1 w_1 w_2 w_3 w_4 (2 : Int32) = (.ref w_3) from by unfold sp1; rw [if_neg (by decide : ¬ (((2 : Int32) &&& (3 : Int32)) = (0 : Int32))), if_neg (by decide : ¬ (((2 : Int32) &&& (3 : Int32)) = (1 : Int32))), if_pos (by decide : (((2 : Int32) &&& (3 : Int32)) = (2 : Int32)))]] at rv160
              subst rv160
              have N160 := Fr.app N159 N160q
              obtain ⟨cq161, kq161, q161a, q161b, q161c⟩ := isOf hZ e160 (E_2.ext O0.2)
              obtain ⟨_, _, ⟨T161, L161, k161, n161⟩, -, X161, ⟨Lc161, hQ161, l161, y161, z161⟩, st161⟩ := X160.virtualBack hx (y := Y1) (z := Y1) hown (mvT hZ (hw _ (tk 9 rfl))) (mvT hZ (hw _ (tk 10 rfl))) (notFace_of_selects (args := #[]) (mvT hZ (hw _ (tk 12 rfl)))) (mvT hZ (hw _ (tk 12 rfl))) (mvT hZ (hw _ (tk 11 rfl))) (by decide) (backOf (W := 0) (rm2 l Z a0 hw [] w_1 w_2 w_3 w_4 hS0 w_2 w_3 (0 : Int32) h0 n0 O0 (F_2_sharedWithItself.ext O0.2)) hZ (hw _ (tk 13 rfl)) (hw _ (tk 5 rfl)) (by decide) (by decide)) q161a q161c (g := (mkF m 47 #[.val (.int p0), .val (.int p1), .val (.int (3 : Int32)), .val (.int (2 : Int32)), .val (.ref w_2), .val (.ref w_3), .val (.int (1 : Int32))] [(.ref w_3), (.ref w_2)])) rfl (by rw [hml]; rfl) (Steps.refl _) (argsL := [(.ref w_3)]) (rest := []) (lenOf pd_1 rfl) rfl (by show 2 * 0 + _ ≤ _; exact Nat.le_of_eq rfl) (hb hby at_47) (fun _ _ => ⟨rfl, e160, (by decide : 0 + 0 ≤ _), (by decide : 0 + 0 ≤ _)⟩)
              dsimp only [Pt.U, Pt.locs, Pt.cells, Pt.slots] at X161 l161 y161 z161 st161 hQ161
              subst l161 y161 z161
              obtain ⟨rv161, N161q, e161⟩ := hQ161
              rw [show sp2 w_2 w_3 (0 : Int32) = (1 : Int32) from by unfold sp2; rw [if_neg (Fld.ne F_2_ordinal F_3_ordinal (by decide))]] at rv161
              subst rv161
              have N161 := Fr.app N160 N161q
              obtain ⟨fs, hr, hrun, hended, hW, hsame⟩ := X161.leave (v := some (.int (1 : Int32))) (fun h => by rw [Bd.returns] at h; cases h)
              refine ⟨_, _, pre158 _ ?_, hrun, hended, _, _, rfl, ?_, ⟨_, rfl⟩, hW, hsame.mono (by decide) (by decide)⟩
              · show Steps p.tables e below (s₁.setTop (mkF m 7 #[.val (.int p0), .val (.int p1), .val (.int (3 : Int32)), .unset, .unset, .unset, .unset] [(.int (2 : Int32))])) _
                refine XS.istoreN X0.here hx rfl (hb hby at_7) rfl (l' := #[.val (.int p0), .val (.int p1), .val (.int (3 : Int32)), .val (.int (2 : Int32)), .unset, .unset, .unset]) rfl ?_
                show Steps p.tables e below (s₁.setTop (mkF m 8 #[.val (.int p0), .val (.int p1), .val (.int (3 : Int32)), .val (.int (2 : Int32)), .unset, .unset, .unset] [])) _
                refine XS.iloadN X0.here hx rfl (hb hby at_8) rfl ?_
                show Steps p.tables e below (s₁.setTop (mkF m 9 #[.val (.int p0), .val (.int p1), .val (.int (3 : Int32)), .val (.int (2 : Int32)), .unset, .unset, .unset] [(.int (3 : Int32))])) _
                refine st159 _ ?_
                show Steps p.tables e below (T159.setTop (mkF m 12 #[.val (.int p0), .val (.int p1), .val (.int (3 : Int32)), .val (.int (2 : Int32)), .unset, .unset, .unset] [(.ref w_2)])) _
                refine XS.astore X159.here hx rfl (hb hby at_12) rfl rfl (l' := #[.val (.int p0), .val (.int p1), .val (.int (3 : Int32)), .val (.int (2 : Int32)), .val (.ref w_2), .unset, .unset]) rfl ?_
                show Steps p.tables e below (T159.setTop (mkF m 14 #[.val (.int p0), .val (.int p1), .val (.int (3 : Int32)), .val (.int (2 : Int32)), .val (.ref w_2), .unset, .unset] [])) _
                refine XS.iloadN X159.here hx rfl (hb hby at_14) rfl ?_
                show Steps p.tables e below (T159.setTop (mkF m 15 #[.val (.int p0), .val (.int p1), .val (.int (3 : Int32)), .val (.int (2 : Int32)), .val (.ref w_2), .unset, .unset] [(.int (2 : Int32))])) _
                refine st160 _ ?_
                show Steps p.tables e below (T160.setTop (mkF m 18 #[.val (.int p0), .val (.int p1), .val (.int (3 : Int32)), .val (.int (2 : Int32)), .val (.ref w_2), .unset, .unset] [(.ref w_3)])) _
                refine XS.astore X160.here hx rfl (hb hby at_18) rfl rfl (l' := #[.val (.int p0), .val (.int p1), .val (.int (3 : Int32)), .val (.int (2 : Int32)), .val (.ref w_2), .val (.ref w_3), .unset]) rfl ?_
                show Steps p.tables e below (T160.setTop (mkF m 20 #[.val (.int p0), .val (.int p1), .val (.int (3 : Int32)), .val (.int (2 : Int32)), .val (.ref w_2), .val (.ref w_3), .unset] [])) _
                refine XS.iloadN X160.here hx rfl (hb hby at_20) rfl ?_
                show Steps p.tables e below (T160.setTop (mkF m 21 #[.val (.int p0), .val (.int p1), .val (.int (3 : Int32)), .val (.int (2 : Int32)), .val (.ref w_2), .val (.ref w_3), .unset] [(.int (3 : Int32))])) _
                refine XS.iloadN X160.here hx rfl (hb hby at_21) rfl ?_
                show Steps p.tables e below (T160.setTop (mkF m 22 #[.val (.int p0), .val (.int p1), .val (.int (3 : Int32)), .val (.int (2 : Int32)), .val (.ref w_2), .val (.ref w_3), .unset] [(.int (2 : Int32)), (.int (3 : Int32))])) _
                refine XS.icmpYes X160.here hx rfl (pc0 := 22) (pc' := 40) rfl (hb hby at_22) rfl (feq (by decide : ¬ ((3 : Int32) = (2 : Int32)))).2 (by decide) (by decide) ?_
                show Steps p.tables e below (T160.setTop (mkF m 40 #[.val (.int p0), .val (.int p1), .val (.int (3 : Int32)), .val (.int (2 : Int32)), .val (.ref w_2), .val (.ref w_3), .unset] [])) _
                refine XS.iconst X160.here hx rfl (hb hby at_40) ?_
                show Steps p.tables e below (T160.setTop (mkF m 41 #[.val (.int p0), .val (.int p1), .val (.int (3 : Int32)), .val (.int (2 : Int32)), .val (.ref w_2), .val (.ref w_3), .unset] [(.int (1 : Int32))])) _
                refine XS.istore X160.here hx rfl (hb hby at_41) rfl (l' := #[.val (.int p0), .val (.int p1), .val (.int (3 : Int32)), .val (.int (2 : Int32)), .val (.ref w_2), .val (.ref w_3), .val (.int (1 : Int32))]) rfl ?_
                show Steps p.tables e below (T160.setTop (mkF m 43 #[.val (.int p0), .val (.int p1), .val (.int (3 : Int32)), .val (.int (2 : Int32)), .val (.ref w_2), .val (.ref w_3), .val (.int (1 : Int32))] [])) _
                refine XS.aload X160.here hx rfl (hb hby at_43) rfl rfl ?_
                show Steps p.tables e below (T160.setTop (mkF m 45 #[.val (.int p0), .val (.int p1), .val (.int (3 : Int32)), .val (.int (2 : Int32)), .val (.ref w_2), .val (.ref w_3), .val (.int (1 : Int32))] [(.ref w_2)])) _
                refine XS.aload X160.here hx rfl (hb hby at_45) rfl rfl ?_
                show Steps p.tables e below (T160.setTop (mkF m 47 #[.val (.int p0), .val (.int p1), .val (.int (3 : Int32)), .val (.int (2 : Int32)), .val (.ref w_2), .val (.ref w_3), .val (.int (1 : Int32))] [(.ref w_3), (.ref w_2)])) _
                refine st161.trans ?_
                show Steps p.tables e below (T161.setTop (mkF m 50 #[.val (.int p0), .val (.int p1), .val (.int (3 : Int32)), .val (.int (2 : Int32)), .val (.ref w_2), .val (.ref w_3), .val (.int (1 : Int32))] [(.int (1 : Int32))])) _
                refine XS.iload X161.here hx rfl (hb hby at_50) rfl ?_
                show Steps p.tables e below (T161.setTop (mkF m 52 #[.val (.int p0), .val (.int p1), .val (.int (3 : Int32)), .val (.int (2 : Int32)), .val (.ref w_2), .val (.ref w_3), .val (.int (1 : Int32))] [(.int (1 : Int32)), (.int (1 : Int32))])) _
                refine XS.icmpNo X161.here hx rfl (hb hby at_52) rfl (teq (by decide : ((1 : Int32) = (1 : Int32)))).2 ?_
                show Steps p.tables e below (T161.setTop (mkF m 55 #[.val (.int p0), .val (.int p1), .val (.int (3 : Int32)), .val (.int (2 : Int32)), .val (.ref w_2), .val (.ref w_3), .val (.int (1 : Int32))] [])) _
                refine XS.iconst X161.here hx rfl (hb hby at_55) ?_
                show Steps p.tables e below (T161.setTop (mkF m 56 #[.val (.int p0), .val (.int p1), .val (.int (3 : Int32)), .val (.int (2 : Int32)), .val (.ref w_2), .val (.ref w_3), .val (.int (1 : Int32))] [(.int (1 : Int32))])) _
                refine XS.goto X161.here hx rfl (pc0 := 56) (pc' := 60) rfl (hb hby at_56) (by decide) (by decide) ?_
                show Steps p.tables e below (T161.setTop (mkF m 60 #[.val (.int p0), .val (.int p1), .val (.int (3 : Int32)), .val (.int (2 : Int32)), .val (.ref w_2), .val (.ref w_3), .val (.int (1 : Int32))] [(.int (1 : Int32))])) _
                exact retN X161 hx (t := .boolean) Bd.returns (by simp) (hb hby at_60) hr
              · show Q0 Z w_1 w_2 w_3 w_4 p0 p1 h0 n0 _ T161.heap _
                rw [e161]
                exact ⟨by unfold sp0; rw [if_neg hc23, if_neg hc71, if_neg hc104, if_neg hc138, if_neg hc146, if_pos hc154], N161, rfl⟩
            · have hL162 : (p1 &&& (3 : Int32)) = (3 : Int32) := by
                have r : 0 ≤ ((p1 &&& (3 : Int32))).toInt ∧ ((p1 &&& (3 : Int32))).toInt < 4 := (own_rand p1 (3 : Int32) 4 (by decide) (by decide))
                have q0 := own_ne hc138 (n := 0) (by decide)
                have q1 := own_ne hc146 (n := 1) (by decide)
                have q2 := own_ne hc154 (n := 2) (by decide)
                exact own_eq (n := 3) (by decide) (by omega)
              have pre163 : ∀ t, Steps p.tables e below (s₁.setTop (mkF m 3 #[.val (.int p0), .val (.int p1), .unset, .unset, .unset, .unset, .unset] [(.int (p0 &&& (3 : Int32)))])) t → Steps p.tables e below (s₁.setTop (entryFrame m #[(.int p0), (.int p1)] maxLocals)) t := fun t kt => by
                refine pre0 t ?_
                show Steps p.tables e below (s₁.setTop (mkF m 0 #[.val (.int p0), .val (.int p1), .unset, .unset, .unset, .unset, .unset] [])) _
                refine XS.iloadN X0.here hx rfl (hb hby at_0) rfl ?_
                show Steps p.tables e below (s₁.setTop (mkF m 1 #[.val (.int p0), .val (.int p1), .unset, .unset, .unset, .unset, .unset] [(.int p0)])) _
                refine XS.iconst X0.here hx rfl (hb hby at_1) ?_
                show Steps p.tables e below (s₁.setTop (mkF m 2 #[.val (.int p0), .val (.int p1), .unset, .unset, .unset, .unset, .unset] [(.int (3 : Int32)), (.int p0)])) _
                refine XS.iand X0.here hx rfl (hb hby at_2) rfl ?_
                show Steps p.tables e below (s₁.setTop (mkF m 3 #[.val (.int p0), .val (.int p1), .unset, .unset, .unset, .unset, .unset] [(.int (p0 &&& (3 : Int32)))])) _
                exact kt
              have pre164 : ∀ t, Steps p.tables e below (s₁.setTop (mkF m 3 #[.val (.int p0), .val (.int p1), .unset, .unset, .unset, .unset, .unset] [(.int (3 : Int32))])) t → Steps p.tables e below (s₁.setTop (entryFrame m #[(.int p0), (.int p1)] maxLocals)) t := fun t kt => pre163 t (by rw [(by rw [hL137] <;> decide : (p0 &&& (3 : Int32)) = (3 : Int32))]; exact kt)
              have pre165 : ∀ t, Steps p.tables e below (s₁.setTop (mkF m 7 #[.val (.int p0), .val (.int p1), .val (.int (3 : Int32)), .unset, .unset, .unset, .unset] [(.int (p1 &&& (3 : Int32)))])) t → Steps p.tables e below (s₁.setTop (entryFrame m #[(.int p0), (.int p1)] maxLocals)) t := fun t kt => by
                refine pre164 t ?_
                show Steps p.tables e below (s₁.setTop (mkF m 3 #[.val (.int p0), .val (.int p1), .unset, .unset, .unset, .unset, .unset] [(.int (3 : Int32))])) _
                refine XS.istoreN X0.here hx rfl (hb hby at_3) rfl (l' := #[.val (.int p0), .val (.int p1), .val (.int (3 : Int32)), .unset, .unset, .unset, .unset]) rfl ?_
                show Steps p.tables e below (s₁.setTop (mkF m 4 #[.val (.int p0), .val (.int p1), .val (.int (3 : Int32)), .unset, .unset, .unset, .unset] [])) _
                refine XS.iloadN X0.here hx rfl (hb hby at_4) rfl ?_
                show Steps p.tables e below (s₁.setTop (mkF m 5 #[.val (.int p0), .val (.int p1), .val (.int (3 : Int32)), .unset, .unset, .unset, .unset] [(.int p1)])) _
                refine XS.iconst X0.here hx rfl (hb hby at_5) ?_
                show Steps p.tables e below (s₁.setTop (mkF m 6 #[.val (.int p0), .val (.int p1), .val (.int (3 : Int32)), .unset, .unset, .unset, .unset] [(.int (3 : Int32)), (.int p1)])) _
                refine XS.iand X0.here hx rfl (hb hby at_6) rfl ?_
                show Steps p.tables e below (s₁.setTop (mkF m 7 #[.val (.int p0), .val (.int p1), .val (.int (3 : Int32)), .unset, .unset, .unset, .unset] [(.int (p1 &&& (3 : Int32)))])) _
                exact kt
              have pre166 : ∀ t, Steps p.tables e below (s₁.setTop (mkF m 7 #[.val (.int p0), .val (.int p1), .val (.int (3 : Int32)), .unset, .unset, .unset, .unset] [(.int (3 : Int32))])) t → Steps p.tables e below (s₁.setTop (entryFrame m #[(.int p0), (.int p1)] maxLocals)) t := fun t kt => pre165 t (by rw [(by rw [hL162] <;> decide : (p1 &&& (3 : Int32)) = (3 : Int32))]; exact kt)
              obtain ⟨_, _, ⟨T167, L167, k167, n167⟩, -, X167, ⟨Lc167, hQ167, l167, y167, z167⟩, st167⟩ := Jvm.LawKit.callS X0 hx (y := Y0) hown (mvT hZ (hw _ (tk 0 rfl))) (mvT hZ (hw _ (tk 1 rfl))) (mvT hZ (hw _ (tk 2 rfl))) (mvT hZ (hw _ (tk 3 rfl))) (by decide) (backOf (W := 0) (rm1 l Z a0 hw [] w_1 w_2 w_3 w_4 hS0 (3 : Int32) h0 n0 O0) hZ (hw _ (tk 3 rfl)) (hw _ (tk 2 rfl)) (by decide) (by decide)) (g := (mkF m 9 #[.val (.int p0), .val (.int p1), .val (.int (3 : Int32)), .val (.int (3 : Int32)), .unset, .unset, .unset] [(.int (3 : Int32))])) rfl (by rw [hml]; rfl) (argsL := [(.int (3 : Int32))]) (rest := []) (lenOf pd_0 rfl) rfl (by show 2 * 0 + _ ≤ _; exact Nat.le_of_eq rfl) (hb hby at_9) (fun _ _ => ⟨rfl, e0, (by decide : 0 + 0 ≤ _), (by decide : 0 + 0 ≤ _)⟩)
              dsimp only [Pt.U, Pt.locs, Pt.cells, Pt.slots] at X167 l167 y167 z167 st167 hQ167
              subst l167 y167 z167
              obtain ⟨rv167, N167q, e167⟩ := hQ167
              rw [show sp1 w_1 w_2 w_3 w_4 (3 : Int32) = (.ref w_2) from by unfold sp1; rw [if_neg (by decide : ¬ (((3 : Int32) &&& (3 : Int32)) = (0 : Int32))), if_neg (by decide : ¬ (((3 : Int32) &&& (3 : Int32)) = (1 : Int32))), if_neg (by decide : ¬ (((3 : Int32) &&& (3 : Int32)) = (2 : Int32)))]] at rv167
              subst rv167
              have N167 := Fr.app N0 N167q
              obtain ⟨_, _, ⟨T168, L168, k168, n168⟩, -, X168, ⟨Lc168, hQ168, l168, y168, z168⟩, st168⟩ := Jvm.LawKit.callS X167 hx (y := Y0) hown (mvT hZ (hw _ (tk 0 rfl))) (mvT hZ (hw _ (tk 1 rfl))) (mvT hZ (hw _ (tk 2 rfl))) (mvT hZ (hw _ (tk 3 rfl))) (by decide) (backOf (W := 0) (rm1 l Z a0 hw [] w_1 w_2 w_3 w_4 hS0 (3 : Int32) h0 n0 O0) hZ (hw _ (tk 3 rfl)) (hw _ (tk 2 rfl)) (by decide) (by decide)) (g := (mkF m 15 #[.val (.int p0), .val (.int p1), .val (.int (3 : Int32)), .val (.int (3 : Int32)), .val (.ref w_2), .unset, .unset] [(.int (3 : Int32))])) rfl (by rw [hml]; rfl) (argsL := [(.int (3 : Int32))]) (rest := []) (lenOf pd_0 rfl) rfl (by show 2 * 0 + _ ≤ _; exact Nat.le_of_eq rfl) (hb hby at_15) (fun _ _ => ⟨rfl, e167, (by decide : 0 + 0 ≤ _), (by decide : 0 + 0 ≤ _)⟩)
              dsimp only [Pt.U, Pt.locs, Pt.cells, Pt.slots] at X168 l168 y168 z168 st168 hQ168
              subst l168 y168 z168
              obtain ⟨rv168, N168q, e168⟩ := hQ168
              rw [show sp1 w_1 w_2 w_3 w_4 (3 : Int32) = (.ref w_2) from by unfold sp1; rw [if_neg (by decide : ¬ (((3 : Int32) &&& (3 : Int32)) = (0 : Int32))), if_neg (by decide : ¬ (((3 : Int32) &&& (3 : Int32)) = (1 : Int32))), if_neg (by decide : ¬ (((3 : Int32) &&& (3 : Int32)) = (2 : Int32)))]] at rv168
              subst rv168
              have N168 := Fr.app N167 N168q
              obtain ⟨cq169, kq169, q169a, q169b, q169c⟩ := isOf hZ e168 (E_2.ext O0.2)
              obtain ⟨_, _, ⟨T169, L169, k169, n169⟩, -, X169, ⟨Lc169, hQ169, l169, y169, z169⟩, st169⟩ := X168.virtualBack hx (y := Y1) (z := Y1) hown (mvT hZ (hw _ (tk 9 rfl))) (mvT hZ (hw _ (tk 10 rfl))) (notFace_of_selects (args := #[]) (mvT hZ (hw _ (tk 12 rfl)))) (mvT hZ (hw _ (tk 12 rfl))) (mvT hZ (hw _ (tk 11 rfl))) (by decide) (backOf (W := 0) (rm2 l Z a0 hw [] w_1 w_2 w_3 w_4 hS0 w_2 w_2 (0 : Int32) h0 n0 O0 (F_2_sharedWithItself.ext O0.2)) hZ (hw _ (tk 13 rfl)) (hw _ (tk 5 rfl)) (by decide) (by decide)) q169a q169c (g := (mkF m 47 #[.val (.int p0), .val (.int p1), .val (.int (3 : Int32)), .val (.int (3 : Int32)), .val (.ref w_2), .val (.ref w_2), .val (.int (1 : Int32))] [(.ref w_2), (.ref w_2)])) rfl (by rw [hml]; rfl) (Steps.refl _) (argsL := [(.ref w_2)]) (rest := []) (lenOf pd_1 rfl) rfl (by show 2 * 0 + _ ≤ _; exact Nat.le_of_eq rfl) (hb hby at_47) (fun _ _ => ⟨rfl, e168, (by decide : 0 + 0 ≤ _), (by decide : 0 + 0 ≤ _)⟩)
              dsimp only [Pt.U, Pt.locs, Pt.cells, Pt.slots] at X169 l169 y169 z169 st169 hQ169
              subst l169 y169 z169
              obtain ⟨rv169, N169q, e169⟩ := hQ169
              rw [show sp2 w_2 w_2 (0 : Int32) = (1 : Int32) from by unfold sp2; rw [if_pos rfl, if_pos (by decide : ((0 : Int32) = (0 : Int32)))]] at rv169
              subst rv169
              have N169 := Fr.app N168 N169q
              obtain ⟨fs, hr, hrun, hended, hW, hsame⟩ := X169.leave (v := some (.int (1 : Int32))) (fun h => by rw [Bd.returns] at h; cases h)
              refine ⟨_, _, pre166 _ ?_, hrun, hended, _, _, rfl, ?_, ⟨_, rfl⟩, hW, hsame.mono (by decide) (by decide)⟩
              · show Steps p.tables e below (s₁.setTop (mkF m 7 #[.val (.int p0), .val (.int p1), .val (.int (3 : Int32)), .unset, .unset, .unset, .unset] [(.int (3 : Int32))])) _
                refine XS.istoreN X0.here hx rfl (hb hby at_7) rfl (l' := #[.val (.int p0), .val (.int p1), .val (.int (3 : Int32)), .val (.int (3 : Int32)), .unset, .unset, .unset]) rfl ?_
                show Steps p.tables e below (s₁.setTop (mkF m 8 #[.val (.int p0), .val (.int p1), .val (.int (3 : Int32)), .val (.int (3 : Int32)), .unset, .unset, .unset] [])) _
                refine XS.iloadN X0.here hx rfl (hb hby at_8) rfl ?_
                show Steps p.tables e below (s₁.setTop (mkF m 9 #[.val (.int p0), .val (.int p1), .val (.int (3 : Int32)), .val (.int (3 : Int32)), .unset, .unset, .unset] [(.int (3 : Int32))])) _
                refine st167 _ ?_
                show Steps p.tables e below (T167.setTop (mkF m 12 #[.val (.int p0), .val (.int p1), .val (.int (3 : Int32)), .val (.int (3 : Int32)), .unset, .unset, .unset] [(.ref w_2)])) _
                refine XS.astore X167.here hx rfl (hb hby at_12) rfl rfl (l' := #[.val (.int p0), .val (.int p1), .val (.int (3 : Int32)), .val (.int (3 : Int32)), .val (.ref w_2), .unset, .unset]) rfl ?_
                show Steps p.tables e below (T167.setTop (mkF m 14 #[.val (.int p0), .val (.int p1), .val (.int (3 : Int32)), .val (.int (3 : Int32)), .val (.ref w_2), .unset, .unset] [])) _
                refine XS.iloadN X167.here hx rfl (hb hby at_14) rfl ?_
                show Steps p.tables e below (T167.setTop (mkF m 15 #[.val (.int p0), .val (.int p1), .val (.int (3 : Int32)), .val (.int (3 : Int32)), .val (.ref w_2), .unset, .unset] [(.int (3 : Int32))])) _
                refine st168 _ ?_
                show Steps p.tables e below (T168.setTop (mkF m 18 #[.val (.int p0), .val (.int p1), .val (.int (3 : Int32)), .val (.int (3 : Int32)), .val (.ref w_2), .unset, .unset] [(.ref w_2)])) _
                refine XS.astore X168.here hx rfl (hb hby at_18) rfl rfl (l' := #[.val (.int p0), .val (.int p1), .val (.int (3 : Int32)), .val (.int (3 : Int32)), .val (.ref w_2), .val (.ref w_2), .unset]) rfl ?_
                show Steps p.tables e below (T168.setTop (mkF m 20 #[.val (.int p0), .val (.int p1), .val (.int (3 : Int32)), .val (.int (3 : Int32)), .val (.ref w_2), .val (.ref w_2), .unset] [])) _
                refine XS.iloadN X168.here hx rfl (hb hby at_20) rfl ?_
                show Steps p.tables e below (T168.setTop (mkF m 21 #[.val (.int p0), .val (.int p1), .val (.int (3 : Int32)), .val (.int (3 : Int32)), .val (.ref w_2), .val (.ref w_2), .unset] [(.int (3 : Int32))])) _
                refine XS.iloadN X168.here hx rfl (hb hby at_21) rfl ?_
                show Steps p.tables e below (T168.setTop (mkF m 22 #[.val (.int p0), .val (.int p1), .val (.int (3 : Int32)), .val (.int (3 : Int32)), .val (.ref w_2), .val (.ref w_2), .unset] [(.int (3 : Int32)), (.int (3 : Int32))])) _
                refine XS.icmpNo X168.here hx rfl (hb hby at_22) rfl (teq (by decide : ((3 : Int32) = (3 : Int32)))).2 ?_
                show Steps p.tables e below (T168.setTop (mkF m 25 #[.val (.int p0), .val (.int p1), .val (.int (3 : Int32)), .val (.int (3 : Int32)), .val (.ref w_2), .val (.ref w_2), .unset] [])) _
                refine XS.iloadN X168.here hx rfl (hb hby at_25) rfl ?_
                show Steps p.tables e below (T168.setTop (mkF m 26 #[.val (.int p0), .val (.int p1), .val (.int (3 : Int32)), .val (.int (3 : Int32)), .val (.ref w_2), .val (.ref w_2), .unset] [(.int (3 : Int32))])) _
                refine XS.ifNo X168.here hx rfl (hb hby at_26) rfl ((if0 _ _).trans (feq (by decide : ¬ ((3 : Int32) = (0 : Int32)))).1) ?_
                show Steps p.tables e below (T168.setTop (mkF m 29 #[.val (.int p0), .val (.int p1), .val (.int (3 : Int32)), .val (.int (3 : Int32)), .val (.ref w_2), .val (.ref w_2), .unset] [])) _
                refine XS.iloadN X168.here hx rfl (hb hby at_29) rfl ?_
                show Steps p.tables e below (T168.setTop (mkF m 30 #[.val (.int p0), .val (.int p1), .val (.int (3 : Int32)), .val (.int (3 : Int32)), .val (.ref w_2), .val (.ref w_2), .unset] [(.int (3 : Int32))])) _
                refine XS.iconst X168.here hx rfl (hb hby at_30) ?_
                show Steps p.tables e below (T168.setTop (mkF m 31 #[.val (.int p0), .val (.int p1), .val (.int (3 : Int32)), .val (.int (3 : Int32)), .val (.ref w_2), .val (.ref w_2), .unset] [(.int (1 : Int32)), (.int (3 : Int32))])) _
                refine XS.icmpYes X168.here hx rfl (pc0 := 31) (pc' := 40) rfl (hb hby at_31) rfl (feq (by decide : ¬ ((3 : Int32) = (1 : Int32)))).2 (by decide) (by decide) ?_
                show Steps p.tables e below (T168.setTop (mkF m 40 #[.val (.int p0), .val (.int p1), .val (.int (3 : Int32)), .val (.int (3 : Int32)), .val (.ref w_2), .val (.ref w_2), .unset] [])) _
                refine XS.iconst X168.here hx rfl (hb hby at_40) ?_
                show Steps p.tables e below (T168.setTop (mkF m 41 #[.val (.int p0), .val (.int p1), .val (.int (3 : Int32)), .val (.int (3 : Int32)), .val (.ref w_2), .val (.ref w_2), .unset] [(.int (1 : Int32))])) _
                refine XS.istore X168.here hx rfl (hb hby at_41) rfl (l' := #[.val (.int p0), .val (.int p1), .val (.int (3 : Int32)), .val (.int (3 : Int32)), .val (.ref w_2), .val (.ref w_2), .val (.int (1 : Int32))]) rfl ?_
                show Steps p.tables e below (T168.setTop (mkF m 43 #[.val (.int p0), .val (.int p1), .val (.int (3 : Int32)), .val (.int (3 : Int32)), .val (.ref w_2), .val (.ref w_2), .val (.int (1 : Int32))] [])) _
                refine XS.aload X168.here hx rfl (hb hby at_43) rfl rfl ?_
                show Steps p.tables e below (T168.setTop (mkF m 45 #[.val (.int p0), .val (.int p1), .val (.int (3 : Int32)), .val (.int (3 : Int32)), .val (.ref w_2), .val (.ref w_2), .val (.int (1 : Int32))] [(.ref w_2)])) _
                refine XS.aload X168.here hx rfl (hb hby at_45) rfl rfl ?_
                show Steps p.tables e below (T168.setTop (mkF m 47 #[.val (.int p0), .val (.int p1), .val (.int (3 : Int32)), .val (.int (3 : Int32)), .val (.ref w_2), .val (.ref w_2), .val (.int (1 : Int32))] [(.ref w_2), (.ref w_2)])) _
                refine st169.trans ?_
                show Steps p.tables e below (T169.setTop (mkF m 50 #[.val (.int p0), .val (.int p1), .val (.int (3 : Int32)), .val (.int (3 : Int32)), .val (.ref w_2), .val (.ref w_2), .val (.int (1 : Int32))] [(.int (1 : Int32))])) _
                refine XS.iload X169.here hx rfl (hb hby at_50) rfl ?_
                show Steps p.tables e below (T169.setTop (mkF m 52 #[.val (.int p0), .val (.int p1), .val (.int (3 : Int32)), .val (.int (3 : Int32)), .val (.ref w_2), .val (.ref w_2), .val (.int (1 : Int32))] [(.int (1 : Int32)), (.int (1 : Int32))])) _
                refine XS.icmpNo X169.here hx rfl (hb hby at_52) rfl (teq (by decide : ((1 : Int32) = (1 : Int32)))).2 ?_
                show Steps p.tables e below (T169.setTop (mkF m 55 #[.val (.int p0), .val (.int p1), .val (.int (3 : Int32)), .val (.int (3 : Int32)), .val (.ref w_2), .val (.ref w_2), .val (.int (1 : Int32))] [])) _
                refine XS.iconst X169.here hx rfl (hb hby at_55) ?_
                show Steps p.tables e below (T169.setTop (mkF m 56 #[.val (.int p0), .val (.int p1), .val (.int (3 : Int32)), .val (.int (3 : Int32)), .val (.ref w_2), .val (.ref w_2), .val (.int (1 : Int32))] [(.int (1 : Int32))])) _
                refine XS.goto X169.here hx rfl (pc0 := 56) (pc' := 60) rfl (hb hby at_56) (by decide) (by decide) ?_
                show Steps p.tables e below (T169.setTop (mkF m 60 #[.val (.int p0), .val (.int p1), .val (.int (3 : Int32)), .val (.int (3 : Int32)), .val (.ref w_2), .val (.ref w_2), .val (.int (1 : Int32))] [(.int (1 : Int32))])) _
                exact retN X169 hx (t := .boolean) Bd.returns (by simp) (hb hby at_60) hr
              · show Q0 Z w_1 w_2 w_3 w_4 p0 p1 h0 n0 _ T169.heap _
                rw [e169]
                exact ⟨by unfold sp0; rw [if_neg hc23, if_neg hc71, if_neg hc104, if_neg hc138, if_neg hc146, if_neg hc154], N169, rfl⟩

theorem own_plain (p0 : Int32) (p1 : Int32) : sp0 p0 p1 = (1 : Int32) := by
  unfold sp0
  repeat' split
  all_goals rfl
set_option maxRecDepth 65536 in
set_option maxHeartbeats 40000000 in
theorem comes_1 {Post : Tables → Env → Array Value → State → Outcome → State → Prop} (hpost : ∀ tb e args s v u, (limb_1_1.after args s (.returned v) u = true ∧ limb_1_2.after args s (.returned v) u = true ∧ True) → FrameEnd s (.returned v) u (Jvm.fieldLocs frame_1_writes args s ++ Jvm.arrayLocs frame_1_arrays args s ++ Jvm.staticLocs frame_1_statics s) 0 0 → Post tb e args s (.returned v) u) :
    ArmFor flags0 classFile x code maxLocals ret World_1 tables_1 room_1 Calls_1 rest_1 Pre_1 Post := by
  intro l hfl _ _ p e ha hc hk s m args below hf hA hF happ hP
  obtain ⟨hcalls, hrest, hpre⟩ := hP
  obtain ⟨-, -, -, hnamed, -, -, -, hat⟩ := (Spec.applies_iff hf).mp happ
  obtain ⟨hg, hn⟩ := and_e (Cond.before_iff.mp (show (Jvm.Cond.and given_1 narrow_1).before args s = true from hpre))
  obtain ⟨g170, g171⟩ := and_e hg
  obtain ⟨g172, g173⟩ := and_e g171
  obtain ⟨w0, w1, rfl⟩ : ∃ w0 w1 : Value, args = #[w0, w1] := by
    have hs : args.size = 2 := by simpa [Cond.value, given_1] using g170
    obtain ⟨L⟩ := args
    match L, hs with
    | [w0, w1], _ => exact ⟨w0, w1, rfl⟩
  have hw := fun d (hd : d ∈ tables_1) => atoms_spec (ws := Jvm.Cond.code x code maxLocals ret :: tables_1) hat d (List.mem_cons_of_mem _ hd)
  have hfit : Fit s := fun {y c} hc i hi => by
    obtain ⟨ha, rfl⟩ := Array.getElem?_eq_some_iff.mp hc
    have q := List.all_eq_true.mp ((Array.all_eq_true_iff_forall_mem.mp hF) _ (Array.getElem_mem ha)) i (List.mem_range.mpr hi)
    simpa [Array.getElem?_eq_getElem hi] using q
  obtain ⟨i0, ei0⟩ := is_v g172
  obtain rfl : w0 = (.int i0) := Option.some.inj ei0
  obtain ⟨i1, ei1⟩ := is_v g173
  obtain rfl : w1 = (.int i1) := Option.some.inj ei1
  obtain ⟨n1, n2⟩ := and_e hn
  obtain ⟨n3, n4⟩ := and_e n2
  obtain ⟨n5, n6⟩ := and_e n4
  obtain ⟨n7, n8⟩ := and_e n6
  obtain ⟨n9, n10⟩ := and_e n8
  obtain ⟨n11, n12⟩ := and_e n10
  obtain ⟨n13, n14⟩ := and_e n12
  obtain ⟨n15, n16⟩ := and_e n14
  obtain ⟨n17, n18⟩ := and_e n16
  obtain ⟨n19, n20⟩ := and_e n18
  obtain ⟨n21, n22⟩ := and_e n20
  obtain ⟨w_1, ew_1⟩ := exa_v n1
  have S_1 : Sta s s.heap "com/example/lucid_locks/lucidlocks/locks/LockMode" "READER_SHARED" "Lcom/example/lucid_locks/lucidlocks/locks/LockMode;" (.ref w_1) := Sta.start ew_1 (Or.inr ⟨(hw _ (tk 5 rfl)), (hw _ (tk 6 rfl))⟩)
  have E_1 : Exa s s.heap w_1 "com/example/lucid_locks/lucidlocks/locks/LockMode" := Exa.start ew_1 n1
  obtain ⟨w_2, ew_2⟩ := exa_v n3
  have S_2 : Sta s s.heap "com/example/lucid_locks/lucidlocks/locks/LockMode" "WRITER_SHARED_TIMESTAMP" "Lcom/example/lucid_locks/lucidlocks/locks/LockMode;" (.ref w_2) := Sta.start ew_2 (Or.inr ⟨(hw _ (tk 5 rfl)), (hw _ (tk 8 rfl))⟩)
  have E_2 : Exa s s.heap w_2 "com/example/lucid_locks/lucidlocks/locks/LockMode" := Exa.start ew_2 n3
  obtain ⟨w_3, ew_3⟩ := exa_v n9
  have S_3 : Sta s s.heap "com/example/lucid_locks/lucidlocks/locks/LockMode" "EXCLUSIVE" "Lcom/example/lucid_locks/lucidlocks/locks/LockMode;" (.ref w_3) := Sta.start ew_3 (Or.inr ⟨(hw _ (tk 5 rfl)), (hw _ (tk 15 rfl))⟩)
  have E_3 : Exa s s.heap w_3 "com/example/lucid_locks/lucidlocks/locks/LockMode" := Exa.start ew_3 n9
  obtain ⟨w_4, ew_4⟩ := exa_v n11
  have S_4 : Sta s s.heap "com/example/lucid_locks/lucidlocks/locks/LockMode" "WRITER_SHARED" "Lcom/example/lucid_locks/lucidlocks/locks/LockMode;" (.ref w_4) := Sta.start ew_4 (Or.inr ⟨(hw _ (tk 5 rfl)), (hw _ (tk 17 rfl))⟩)
  have E_4 : Exa s s.heap w_4 "com/example/lucid_locks/lucidlocks/locks/LockMode" := Exa.start ew_4 n11
  have F_1_ordinal : Fld s s.heap w_1 "java/lang/Enum" "ordinal" "I" (.int (0 : Int32)) := own_fld ew_1 n5
  have F_2_ordinal : Fld s s.heap w_2 "java/lang/Enum" "ordinal" "I" (.int (3 : Int32)) := own_fld ew_2 n7
  have F_3_ordinal : Fld s s.heap w_3 "java/lang/Enum" "ordinal" "I" (.int (2 : Int32)) := own_fld ew_3 n13
  have F_4_ordinal : Fld s s.heap w_4 "java/lang/Enum" "ordinal" "I" (.int (1 : Int32)) := own_fld ew_4 n15
  have F_1_sharedWithItself : Fld s s.heap w_1 "com/example/lucid_locks/lucidlocks/locks/LockMode" "sharedWithItself" "Z" (.int (1 : Int32)) := own_fld ew_1 n17
  have F_4_sharedWithItself : Fld s s.heap w_4 "com/example/lucid_locks/lucidlocks/locks/LockMode" "sharedWithItself" "Z" (.int (1 : Int32)) := own_fld ew_4 n19
  have F_2_sharedWithItself : Fld s s.heap w_2 "com/example/lucid_locks/lucidlocks/locks/LockMode" "sharedWithItself" "Z" (.int (0 : Int32)) := own_fld ew_2 n21
  have F_3_sharedWithItself : Fld s s.heap w_3 "com/example/lucid_locks/lucidlocks/locks/LockMode" "sharedWithItself" "Z" (.int (0 : Int32)) := own_fld ew_3 n22
  have hS : StF s w_1 w_2 w_3 w_4 := ⟨S_1, E_1, S_2, E_2, S_3, E_3, S_4, E_4, F_1_ordinal, F_2_ordinal, F_3_ordinal, F_4_ordinal, F_1_sharedWithItself, F_4_sharedWithItself, F_2_sharedWithItself, F_3_sharedWithItself⟩
  obtain ⟨n, o, h1, h2, h3, _, L, rfl, ⟨hv, N, -⟩, hq⟩ := rm0 l s _ hw tables_1 w_1 w_2 w_3 w_4 hS i0 i1 s.heap s.heap.size (Old.start s) p e ha hc hk s m _ below hf ((Spec.applies_iff_loose hf).mp happ).1 ⟨rfl, State.Warmed39.refl s, rfl⟩ trivial
  rw [own_plain i0 i1] at hv
  subst hv
  refine ⟨n, _, h1, h2, h3, hpost _ _ _ _ _ _ ⟨Cond.after_iff.mpr rfl, Cond.after_iff.mpr (eq_i res_at (Term.int_eval (1)) rfl), trivial⟩ ⟨hq.1, hq.2.1, (hq.2.2.sift fun y hy => Or.inr (N y hy)).mono (by decide) (by decide)⟩⟩
theorem main_1_1 : Claimed_1_1 := comes_1 fun _ _ _ _ _ _ h hF => ⟨h.1, hF⟩
theorem main_1_2 : Claimed_1_2 := comes_1 fun _ _ _ _ _ _ h hF => ⟨h.2.1, hF⟩
end Jvm.Pilot.@@N@@
namespace Jvm.Pilot.@@N@@
open Jvm Jvm.ClassFile Sem Op Lib Jvm.Free Jvm.Stand Jvm.Pilot.@@N@@.Jvm.D
/-! MADE BY PROGRAM (witnessworld.py) out of the Statement's table words and the real class files: 12 classes; the members and pool entries that the words name. The judged class is class 1, her method 2. -/
namespace start1
open Jvm.ClassFile
def u (s : String) : CpInfo := .utf8 (stringToUtf16 s)
/-- a pool by its gaps: so many unusable entries, then the entry; so many at the end -/
def gap : Nat → List CpInfo → List CpInfo
  | 0, r => r
  | n + 1, r => .unusable :: gap n r
def poolList (es : List (Nat × CpInfo)) (last : Nat) : List CpInfo := es.foldr (fun e r => gap e.1 (e.2 :: r)) (gap last [])
def pool (es : List (Nat × CpInfo)) (last : Nat) : Array CpInfo := ⟨poolList es last⟩
def fileOf (pool : Array CpInfo) (this : Nat) (attrs : Array Attribute := #[]) (ms : Array MethodInfo := #[]) (fl : Nat := 33) (sup : Nat := 0) (ifs : Array Nat := #[]) (fds : Array FieldInfo := #[]) : ClassFile where
  minorVersion := 0
  majorVersion := 65
  constantPool := pool
  accessFlags := fl
  thisClass := this
  superClass := sup
  interfaces := ifs
  fields := fds
  methods := ms
  attributes := attrs
def plain (name : String) (sup : Option ClassId) : Class where
  name := name
  kind := .ordinary
  loader := none
  accessFlags := 33
  super := sup
  interfaces := #[]
  cf := none
  fields := #[]
  methods := #[]
  instanceTypes := #[]
  staticTypes := #[]
  resolved := #[]
  callSites := []
  init := .initialized
  statics := none
  mirror := none

def pool0 : Array CpInfo := pool [(5, u "<init>"), (0, u "()V"), (1, .class_ 10), (1, u "java/lang/Object")] 113

def k0m0 : Method := { name := "<init>", desc := "()V", sig := { parameters := [], returnType := none }, accessFlags := 1, code := none }
/-- java/lang/Object -/
def k0 : Class := { plain "java/lang/Object" none with
  accessFlags := 33
  interfaces := #[]
  cf := some (fileOf pool0 8 #[] #[{ accessFlags := 1, nameIndex := 5, descriptorIndex := 6, attributes := #[] }] 33 0 #[] #[])
  fields := #[]
  methods := #[k0m0]
  instanceTypes := #[]
  staticTypes := #[]
  resolved := Array.replicate 124 none
  statics := none }

def pool1 : Array CpInfo := pool [(2, .class_ 4), (1, u "java/lang/Object"), (0, u "<init>"), (0, u "()V"), (0, .fieldref 8 9), (0, .class_ 10), (0, .nameAndType 11 12), (0, u "com/example/lucid_locks/lucidlocks/locks/LockMode"), (0, u "READER_SHARED"), (0, u "Lcom/example/lucid_locks/lucidlocks/locks/LockMode;"), (0, .fieldref 8 14), (0, .nameAndType 15 12), (0, u "WRITER_SHARED"), (0, .fieldref 8 17), (0, .nameAndType 18 12), (0, u "EXCLUSIVE"), (0, .fieldref 8 20), (0, .nameAndType 21 12), (0, u "WRITER_SHARED_TIMESTAMP"), (0, .methodref 23 24), (0, .class_ 25), (0, .nameAndType 26 27), (0, u "com/example/lucid_locks/lucidlocks/locks/LockModeConflictsWithPinLaw"), (0, u "mode"), (0, u "(I)Lcom/example/lucid_locks/lucidlocks/locks/LockMode;"), (0, .methodref 8 29), (0, .nameAndType 30 31), (0, u "conflictsWith"), (0, u "(Lcom/example/lucid_locks/lucidlocks/locks/LockMode;)Z"), (3, u "law"), (0, u "(II)Z")] 2

def k1m0 : Method := { name := "<init>", desc := "()V", sig := { parameters := [], returnType := none }, accessFlags := 1, code := none }
def k1c1 : Code := { maxStack := 2, maxLocals := 2, code := method_2_code, exceptionTable := #[], attributes := #[] }
def k1m1 : Method := { name := "mode", desc := "(I)Lcom/example/lucid_locks/lucidlocks/locks/LockMode;", sig := { parameters := [.int], returnType := some (.object "com/example/lucid_locks/lucidlocks/locks/LockMode") }, accessFlags := 10, code := some k1c1 }
def k1c2 : Code := { maxStack := 2, maxLocals := 7, code := code, exceptionTable := #[], attributes := #[] }
def k1m2 : Method := { name := "law", desc := "(II)Z", sig := { parameters := [.int, .int], returnType := some .boolean }, accessFlags := 9, code := some k1c2 }
/-- com/example/lucid_locks/lucidlocks/locks/LockModeConflictsWithPinLaw -/
def k1 : Class := { plain "com/example/lucid_locks/lucidlocks/locks/LockModeConflictsWithPinLaw" (some 0) with
  accessFlags := 49
  interfaces := #[]
  cf := some (fileOf pool1 23 #[] #[{ accessFlags := 1, nameIndex := 5, descriptorIndex := 6, attributes := #[] }, { accessFlags := 10, nameIndex := 26, descriptorIndex := 27, attributes := #[] }, { accessFlags := 9, nameIndex := 35, descriptorIndex := 36, attributes := #[] }] 49 2 #[] #[])
  fields := #[]
  methods := #[k1m0, k1m1, k1m2]
  instanceTypes := #[]
  staticTypes := #[]
  resolved := Array.replicate 39 none
  statics := none }

def pool2 : Array CpInfo := pool [(1, .class_ 2), (0, u "java/lang/constant/Constable"), (0, .class_ 4), (0, u "java/lang/Object")] 6

/-- java/lang/constant/Constable -/
def k2 : Class := { plain "java/lang/constant/Constable" (some 0) with
  accessFlags := 1537
  interfaces := #[]
  cf := some (fileOf pool2 1 #[] #[] 1537 3 #[] #[])
  fields := #[]
  methods := #[]
  instanceTypes := #[]
  staticTypes := #[]
  resolved := Array.replicate 11 none
  statics := none }

def pool3 : Array CpInfo := pool [(1, .class_ 2), (0, u "java/lang/Comparable"), (0, .class_ 4), (0, u "java/lang/Object")] 7

/-- java/lang/Comparable -/
def k3 : Class := { plain "java/lang/Comparable" (some 0) with
  accessFlags := 1537
  interfaces := #[]
  cf := some (fileOf pool3 1 #[] #[] 1537 3 #[] #[])
  fields := #[]
  methods := #[]
  instanceTypes := #[]
  staticTypes := #[]
  resolved := Array.replicate 12 none
  statics := none }

def pool4 : Array CpInfo := pool [(1, .class_ 2), (0, u "java/io/Serializable"), (0, .class_ 4), (0, u "java/lang/Object")] 2

/-- java/io/Serializable -/
def k4 : Class := { plain "java/io/Serializable" (some 0) with
  accessFlags := 1537
  interfaces := #[]
  cf := some (fileOf pool4 1 #[] #[] 1537 3 #[] #[])
  fields := #[]
  methods := #[]
  instanceTypes := #[]
  staticTypes := #[]
  resolved := Array.replicate 7 none
  statics := none }

def pool5 : Array CpInfo := pool [(2, .class_ 4), (1, u "java/lang/Enum"), (0, u "name"), (0, u "Ljava/lang/String;"), (2, u "ordinal"), (0, u "I"), (1, .class_ 14), (1, u "java/lang/Object"), (4, u "hash"), (86, .class_ 108), (1, u "java/lang/Enum$EnumDesc"), (2, .class_ 112), (0, u "java/lang/constant/Constable"), (0, .class_ 114), (0, u "java/lang/Comparable"), (0, .class_ 116), (0, u "java/io/Serializable")] 87

/-- java/lang/Enum -/
def k5 : Class := { plain "java/lang/Enum" (some 0) with
  accessFlags := 1057
  interfaces := #[2, 3, 4]
  cf := some (fileOf pool5 2 #[.nestMembers #[106]] #[] 1057 12 #[111, 113, 115] #[{ accessFlags := 18, nameIndex := 5, descriptorIndex := 6, attributes := #[] }, { accessFlags := 18, nameIndex := 9, descriptorIndex := 10, attributes := #[] }, { accessFlags := 2, nameIndex := 19, descriptorIndex := 10, attributes := #[] }])
  fields := #[{ name := "name", type := (.object "java/lang/String"), accessFlags := 18, slot := 0, constantValue := 0 }, { name := "ordinal", type := .int, accessFlags := 18, slot := 1, constantValue := 0 }, { name := "hash", type := .int, accessFlags := 2, slot := 2, constantValue := 0 }]
  methods := #[]
  instanceTypes := #[(.object "java/lang/String"), .int, .int]
  staticTypes := #[]
  resolved := Array.replicate 204 none
  statics := none }

def pool6 : Array CpInfo := pool [(1, .class_ 2), (0, u "com/example/lucid_locks/lucidlocks/locks/LockMode"), (2, u "READER_SHARED"), (0, u "Lcom/example/lucid_locks/lucidlocks/locks/LockMode;"), (2, u "WRITER_SHARED"), (2, u "EXCLUSIVE"), (2, u "WRITER_SHARED_TIMESTAMP"), (2, u "$VALUES"), (0, u "[Lcom/example/lucid_locks/lucidlocks/locks/LockMode;"), (6, .class_ 28), (1, u "java/lang/Enum"), (8, u "displayName"), (0, u "Ljava/lang/String;"), (0, .fieldref 1 40), (0, .nameAndType 41 42), (0, u "sharedWithItself"), (0, u "Z"), (3, u "(Lcom/example/lucid_locks/lucidlocks/locks/LockMode;)Z"), (2, u "MODES"), (2, u "conflictsWith")] 37

def k6c0 : Code := { maxStack := 2, maxLocals := 2, code := prog_17_method_5_code, exceptionTable := #[], attributes := #[] }
def k6m0 : Method := { name := "conflictsWith", desc := "(Lcom/example/lucid_locks/lucidlocks/locks/LockMode;)Z", sig := { parameters := [(.object "com/example/lucid_locks/lucidlocks/locks/LockMode")], returnType := some .boolean }, accessFlags := 1, code := some k6c0 }
/-- com/example/lucid_locks/lucidlocks/locks/LockMode -/
def k6 : Class := { plain "com/example/lucid_locks/lucidlocks/locks/LockMode" (some 5) with
  accessFlags := 16433
  interfaces := #[]
  cf := some (fileOf pool6 1 #[] #[{ accessFlags := 1, nameIndex := 52, descriptorIndex := 46, attributes := #[] }] 16433 26 #[] #[{ accessFlags := 16409, nameIndex := 5, descriptorIndex := 6, attributes := #[] }, { accessFlags := 16409, nameIndex := 9, descriptorIndex := 6, attributes := #[] }, { accessFlags := 16409, nameIndex := 12, descriptorIndex := 6, attributes := #[] }, { accessFlags := 16409, nameIndex := 15, descriptorIndex := 6, attributes := #[] }, { accessFlags := 26, nameIndex := 49, descriptorIndex := 19, attributes := #[] }, { accessFlags := 18, nameIndex := 37, descriptorIndex := 38, attributes := #[] }, { accessFlags := 18, nameIndex := 41, descriptorIndex := 42, attributes := #[] }, { accessFlags := 4122, nameIndex := 18, descriptorIndex := 19, attributes := #[] }])
  fields := #[{ name := "READER_SHARED", type := (.object "com/example/lucid_locks/lucidlocks/locks/LockMode"), accessFlags := 16409, slot := 0, constantValue := 0 }, { name := "WRITER_SHARED", type := (.object "com/example/lucid_locks/lucidlocks/locks/LockMode"), accessFlags := 16409, slot := 1, constantValue := 0 }, { name := "EXCLUSIVE", type := (.object "com/example/lucid_locks/lucidlocks/locks/LockMode"), accessFlags := 16409, slot := 2, constantValue := 0 }, { name := "WRITER_SHARED_TIMESTAMP", type := (.object "com/example/lucid_locks/lucidlocks/locks/LockMode"), accessFlags := 16409, slot := 3, constantValue := 0 }, { name := "MODES", type := (.array (.object "com/example/lucid_locks/lucidlocks/locks/LockMode")), accessFlags := 26, slot := 4, constantValue := 0 }, { name := "displayName", type := (.object "java/lang/String"), accessFlags := 18, slot := 3, constantValue := 0 }, { name := "sharedWithItself", type := .boolean, accessFlags := 18, slot := 4, constantValue := 0 }, { name := "$VALUES", type := (.array (.object "com/example/lucid_locks/lucidlocks/locks/LockMode")), accessFlags := 4122, slot := 5, constantValue := 0 }]
  methods := #[k6m0]
  instanceTypes := #[(.object "java/lang/String"), .int, .int, (.object "java/lang/String"), .boolean]
  staticTypes := #[(.object "com/example/lucid_locks/lucidlocks/locks/LockMode"), (.object "com/example/lucid_locks/lucidlocks/locks/LockMode"), (.object "com/example/lucid_locks/lucidlocks/locks/LockMode"), (.object "com/example/lucid_locks/lucidlocks/locks/LockMode"), (.array (.object "com/example/lucid_locks/lucidlocks/locks/LockMode")), (.array (.object "com/example/lucid_locks/lucidlocks/locks/LockMode"))]
  resolved := Array.replicate 90 none
  statics := some 0 }

def pool7 : Array CpInfo := pool [(1, u "java/lang/Cloneable"), (0, .class_ 1), (0, u "java/lang/Object"), (0, .class_ 3)] 3

/-- java/lang/Cloneable -/
def k7 : Class := { plain "java/lang/Cloneable" (some 0) with
  accessFlags := 1537
  interfaces := #[]
  cf := some (fileOf pool7 2 #[] #[] 1537 4 #[] #[])
  fields := #[]
  methods := #[]
  instanceTypes := #[]
  staticTypes := #[]
  resolved := Array.replicate 8 none
  statics := none }

/-- the primitive byte -/
def k8 : Class := { plain "byte" none with kind := .primitive 'B', accessFlags := 0x411 }
/-- [B -/
def k9 : Class := { plain "[B" (some 0) with kind := .array 8 .byte, interfaces := #[7, 4], accessFlags := 1041 }

/-- the primitive int -/
def k10 : Class := { plain "int" none with kind := .primitive 'I', accessFlags := 0x411 }
/-- [I -/
def k11 : Class := { plain "[I" (some 0) with kind := .array 10 .int, interfaces := #[7, 4], accessFlags := 1041 }

def heap : Heap := #[{ cls := 6, slots := #[.ref 1, .ref 4, .ref 3, .ref 2, .null, .null], vm := .statics 6 },
  { cls := 6, slots := #[.null, .int 0, .int 0, .null, .int 1], vm := .none },
  { cls := 6, slots := #[.null, .int 3, .int 0, .null, .int 0], vm := .none },
  { cls := 6, slots := #[.null, .int 2, .int 0, .null, .int 0], vm := .none },
  { cls := 6, slots := #[.null, .int 1, .int 0, .null, .int 1], vm := .none }]
def classes : Array Class := #[k0, k1, k2, k3, k4, k5, k6, k7, k8, k9, k10, k11]
def interned : List (Array UInt16 × Addr) := []
def slotsUsed : Nat := 26
def theMethod : MethodId := ⟨1, 2⟩
def args0 : Array Value := #[.int 5, .int 7]
def aboutOver (below : List Frame) : State where
  vm := { classes := classes, interned := interned.toArray }
  heap := heap
  slotsUsed := slotsUsed
  threads := #[{ frames := .invoking theMethod args0 :: below }]
def below0 : List Frame := [.native { method := ⟨0, 0⟩, args := #[] }]
def about1 : State := aboutOver below0
def p0 : Program := .bare "" "" ""
def e0 : Env := launch0.env 0 0 0
theorem w_frames : about1.frames = Frame.invoking theMethod args0 :: below0 := rfl
set_option maxRecDepth 65536 in
theorem w_args : argsFit about1.vm theMethod args0 = true := by decide +kernel
set_option maxRecDepth 65536 in
theorem w_heap : heapFits about1 = true := by decide +kernel
set_option maxRecDepth 65536 in
theorem w_runnable : about1.curStatus? = some .runnable := by decide +kernel
set_option maxRecDepth 65536 in
theorem w_alone : about1.alone = true := by decide +kernel
set_option maxRecDepth 65536 in
theorem w_named : about1.methodNamed? x = some theMethod := by decide +kernel
set_option maxRecDepth 65536 in
theorem w_hears : about1.hears theMethod below0 = true := by decide +kernel
set_option maxRecDepth 65536 in
theorem w_ripe : about1.ripe theMethod args0 below0 = true := by decide +kernel
theorem w_running : about1.status = .running := rfl
set_option maxRecDepth 65536 in
theorem w_room : about1.hasRoom e0.platform room_1 = true :=
  launch0.hasRoom_least _ room_1 (by decide +kernel) (by decide +kernel) (by decide +kernel) (by decide +kernel) (by decide +kernel) (by decide +kernel)
theorem allAtoms_all (ts : List Jvm.Cond) (a : Array Jvm.Value) (st : Jvm.State) : (allAtoms ts).before a st = ts.all (fun c => c.before a st) := by
  induction ts with
  | nil => rfl
  | cons c t ih =>
    show (Jvm.Cond.and c (allAtoms t)).before a st = _
    rw [Jvm.Cond.before_and, ih, List.all_cons]
def words1 : List Jvm.Cond := Jvm.Cond.code x code maxLocals ret :: tables_1
/-- a 'code' word, met by the world's own term for the bytes: nothing is compared byte by byte -/
theorem code_word {y : MethodName} {bytes : ByteArray} {mx : Nat} {rt : Option FieldType} {a : Array Value} {s : State} {m : MethodId} {meth : Method} {c : Code} (h1 : s.methodNamed? y = some m) (h2 : s.vm.method? m = some meth) (h3 : meth.code = some c) (h4 : c.code = bytes)
    (h5 : (c.maxLocals == mx && c.exceptionTable.isEmpty && decide (c.maxStack ≤ mostOperands) && decide (meth.sig.returnType = rt) && !meth.locks && decide (parseMethodDescriptor y.desc = some meth.sig)) = true) : (Jvm.Cond.code y bytes mx rt).before a s = true := by
  simp only [Bool.and_eq_true, beq_iff_eq, Bool.not_eq_true', decide_eq_true_eq] at h5
  obtain ⟨⟨⟨⟨⟨g1, g2⟩, g3⟩, g4⟩, g5⟩, g6⟩ := h5
  simp [Cond.before, Cond.holds, Cond.value, h1, h2, h3, h4, g1, g2, g3, g4, g5, g6]
def isCode : Jvm.Cond → Bool
  | .code _ _ _ _ => true
  | _ => false
theorem all_split {L : List Jvm.Cond} {P : Jvm.Cond → Bool} (h1 : L.all (fun c => isCode c || P c) = true) (h2 : ∀ c ∈ L.filter isCode, P c = true) : L.all P = true := by
  refine List.all_eq_true.mpr fun c hc => ?_
  have h := List.all_eq_true.mp h1 c hc
  rcases Bool.eq_false_or_eq_true (isCode c) with hi | hi
  · exact h2 c (List.mem_filter.mpr ⟨hc, hi⟩)
  · simpa [hi] using h
set_option maxRecDepth 65536 in
theorem w_c0 : (Jvm.Cond.code x code maxLocals ret).before args0 about1 = true := code_word (m := ⟨1, 2⟩) (meth := k1m2) (c := k1c2) (by decide +kernel) rfl rfl rfl (by decide +kernel)
set_option maxRecDepth 65536 in
theorem w_c1 : (Jvm.Cond.code ({ cls := "com/example/lucid_locks/lucidlocks/locks/LockModeConflictsWithPinLaw", name := "mode", desc := "(I)Lcom/example/lucid_locks/lucidlocks/locks/LockMode;" } : Jvm.MethodName) method_2_code (2 : Nat) (Option.some (Jvm.ClassFile.FieldType.object "com/example/lucid_locks/lucidlocks/locks/LockMode"))).before args0 about1 = true := code_word (m := ⟨1, 1⟩) (meth := k1m1) (c := k1c1) (by decide +kernel) rfl rfl rfl (by decide +kernel)
set_option maxRecDepth 65536 in
theorem w_c2 : (Jvm.Cond.code ({ cls := "com/example/lucid_locks/lucidlocks/locks/LockMode", name := "conflictsWith", desc := "(Lcom/example/lucid_locks/lucidlocks/locks/LockMode;)Z" } : Jvm.MethodName) prog_17_method_5_code (2 : Nat) (Option.some Jvm.ClassFile.FieldType.boolean)).before args0 about1 = true := code_word (m := ⟨6, 0⟩) (meth := k6m0) (c := k6c0) (by decide +kernel) rfl rfl rfl (by decide +kernel)
def codes1 : List Jvm.Cond := [Jvm.Cond.code x code maxLocals ret, Jvm.Cond.code ({ cls := "com/example/lucid_locks/lucidlocks/locks/LockModeConflictsWithPinLaw", name := "mode", desc := "(I)Lcom/example/lucid_locks/lucidlocks/locks/LockMode;" } : Jvm.MethodName) method_2_code (2 : Nat) (Option.some (Jvm.ClassFile.FieldType.object "com/example/lucid_locks/lucidlocks/locks/LockMode")), Jvm.Cond.code ({ cls := "com/example/lucid_locks/lucidlocks/locks/LockMode", name := "conflictsWith", desc := "(Lcom/example/lucid_locks/lucidlocks/locks/LockMode;)Z" } : Jvm.MethodName) prog_17_method_5_code (2 : Nat) (Option.some Jvm.ClassFile.FieldType.boolean)]
set_option maxRecDepth 65536 in
theorem codes_eq : words1.filter isCode = codes1 := rfl
theorem w_codes : ∀ c ∈ words1.filter isCode, c.before args0 about1 = true := by
  rw [codes_eq]
  intro c hc
  simp only [codes1, List.mem_cons, List.not_mem_nil, or_false] at hc
  rcases hc with rfl | rfl | rfl
  · exact w_c0
  · exact w_c1
  · exact w_c2
set_option maxRecDepth 65536 in
theorem w_t1 : words1.all (fun c => isCode c || c.before args0 about1) = true := by decide +kernel
theorem w_tables : (allAtoms (Jvm.Cond.code x code maxLocals ret :: tables_1)).before args0 about1 = true := by
  rw [allAtoms_all]
  show words1.all (fun c => c.before args0 about1) = true
  refine all_split ?_ w_codes
  rw [w_t1]
set_option maxRecDepth 65536 in
theorem w_case : (Jvm.Cond.and given_1 narrow_1).before args0 about1 = true := by decide +kernel
theorem w_applies : (headSpec (Jvm.Cond.code x code maxLocals ret :: tables_1) room_1).applies x e0.platform about1 = true :=
  (Spec.applies_iff w_frames).mpr ⟨w_running, w_runnable, w_alone, w_named, w_hears, w_ripe, w_room, w_tables⟩
theorem atStart : AtStart classFile x code maxLocals ret World_1 tables_1 room_1 Calls_1 rest_1 Pre_1 launch0 p0 e0 about1 theMethod args0 below0 :=
  ⟨lists_1, trivial, launch0.admits_env _ _ _, launch0.least_env, fairChoices_fair.cas, fairChoices_fair.clock, w_frames, w_args, w_heap, w_applies, trivial, trivial, w_case⟩
end start1
theorem witness_1 : WitnessClaimed_1 := ⟨start1.p0, start1.e0, start1.about1, start1.theMethod, start1.args0, start1.below0, start1.atStart⟩
end Jvm.Pilot.@@N@@
