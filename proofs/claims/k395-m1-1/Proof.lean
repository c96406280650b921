import JvmDerived
import JvmDerived.Pilot.@@N@@Statement
import JvmDerived.Pilot.@@N@@Code
set_option linter.unusedVariables false
set_option linter.unusedSimpArgs false
namespace Jvm.RoadKit
open Sem ClassFile Op Lib Jvm.Stand Jvm.Free Jvm.LawKit
section New
variable {p : Program} {l : Launch} {e : Env} {R : Room} {s : State} {m : MethodId} {args : Array Value} {below : List Frame} {meth : Method} {c : Code} {T : State} {locs : List Loc} {cells slots : Nat}
theorem retI (X : Stand p l e R s m args below meth c T locs cells slots) (hx : p.tables.exec = Jvm.exec) {pc : Nat} {Ls : Array Slot} {z : Int32} {rest : List Value} (hret : meth.sig.returnType = some .int) (hd : decode c.code pc = .ok (.ireturn, 1)) {fs : List Frame}
    (hl : ∀ (f : JFrame) (acts : List Action), f.method = m → f.locked = none → f.entered = [] → (doReturn e (T.setTop f) acts (some (.int z))).1 = T.setFrames fs) : Steps p.tables e below (T.setTop (mkF m pc Ls (.int z :: rest))) (T.setFrames fs) := by
  have hm' : T.vm.method? m = some meth := X.method'
  have hn : narrow .int (.int z) = .int z := rfl
  show Steps p.tables e below (T.setTop { method := m, pc := pc, locals := Ls, stack := _ :: rest, locked := none }) _
  jvm_step X.here [X.here.top, hx, hd, hm', hret, hn]
  first | (intro acts; rw [hl _ acts rfl rfl rfl]) | rw [hl _ _ rfl rfl rfl]
  exact Steps.refl _
end New
end Jvm.RoadKit
namespace Jvm.Pilot.@@N@@
open Jvm Jvm.ClassFile Sem Op Lib Jvm.Free Jvm.Stand Jvm.LawKit Jvm.RoadKit Bundle Jvm.Pilot.@@N@@.Jvm.D
theorem tk {L : List Jvm.Cond} {d : Jvm.Cond} (i : Nat) (h : L[i]? = some d) : d ∈ L := List.mem_of_getElem? h
/-! own small facts: what the case says of a pinned static's field -/
theorem own_fld {args : Array Value} {s : State} {t : Term} {C n d : String} {w : Addr} {k : Int32} (ht : t.eval args s none [] s = some (.ref w)) (h : (Cond.eq (.field t C n d) (.int k)).value args s none s [] = some true) : Fld s s.heap w C n d (.int k) := by
  obtain ⟨x, y, hx, hy, -, kin⟩ := cmp_v (Or.inl h)
  obtain rfl : Value.int k = y := Option.some.inj hy
  obtain ⟨z, rfl⟩ := kin
  have e : z = k := by simpa [Cond.value, hx, hy] using h
  subst e
  exact Fld.start ((fld_at ht).symm.trans hx)
theorem own_fldN {args : Array Value} {s : State} {t : Term} {C n d : String} {w : Addr} (ht : t.eval args s none [] s = some (.ref w)) (h : (Cond.eq (.field t C n d) .null).value args s none s [] = some true) : Fld s s.heap w C n d .null :=
  Fld.start ((fld_at ht).symm.trans (null_v h))
theorem own_nsroot {Z : State} {a0 : Array Value} {O K : String} {n : Nat} (w : (Cond.noSuperclass O).before a0 Z = true) (wk : (Cond.instantiable K n).before a0 Z = true) (hn : O ≠ K) : NS Z O K := by
  obtain ⟨c, k, h1, h2, h3, -, -⟩ := Cond.noSuperclass_spec w
  obtain ⟨t, -, g1, -⟩ := Cond.instantiable_spec wk
  have ne := ids_ne h1 g1 hn
  refine ⟨c, t, h1, g1, fun fuel => ?_⟩
  cases fuel with
  | zero => rfl
  | succ f => simp [Vm.isSubclassAux, ne, h2, h3]
theorem own_nsno {Z : State} {a0 : Array Value} {C S K : String} {n : Nat} (w : (Cond.superclass C S).before a0 Z = true) (wk : (Cond.instantiable K n).before a0 Z = true) (ns : NS Z C K) (hn : C ≠ K) : ∃ c t, Z.vm.findClass C = some c ∧ Z.vm.findClass K = some t ∧ Z.vm.assignable c t = false := by
  obtain ⟨c, t, h0, g0, n3⟩ := ns
  obtain ⟨p, k, kp, h1, h2, h3, h4, h5, -, h7⟩ := Cond.superclass_spec h0 w
  obtain ⟨t', k', g1, g2, g3, g4, -⟩ := Cond.instantiable_spec wk
  cases g0.symm.trans g1
  have ne := ids_ne h0 g0 hn
  have g5 : k'.isInterface = false := (Bool.or_eq_false_iff.mp g4).1
  refine ⟨c, t, h0, g0, ?_⟩
  show Z.vm.assignableAux (255 + 1) c t = false
  simp [Vm.assignableAux, ne, h2, g2, h5, g3, g5, Vm.isSubclass, n3]
theorem own_nar {v : Value} {C : String} (h : v.isRef = true) : narrow (.object C) v = v := by rcases ref_cases h with rfl | ⟨a, rfl⟩ <;> rfl
theorem own_fit {v : Value} {C : String} (h : v.isRef = true) : fits (.object C) v = true := by rcases ref_cases h with rfl | ⟨a, rfl⟩ <;> rfl
theorem own_refof {v : Value} (h : v.isRef = true) (n : ¬ v = .null) : ∃ a, v = .ref a := (ref_cases h).elim (fun q => absurd q n) id
theorem own_sint {args : Array Value} {s : State} {t : Term} {k : Int32} (h : (Cond.eq t (.int k)).value args s none s [] = some true) : t.eval args s none [] s = some (.int k) := by
  obtain ⟨x, y, hx, hy, -, kin⟩ := cmp_v (Or.inl h)
  obtain rfl : Value.int k = y := Option.some.inj hy
  obtain ⟨z, rfl⟩ := kin
  have e : z = k := by simpa [Cond.value, hx, hy] using h
  subst e; exact hx
theorem own_snot {args : Array Value} {s : State} {t : Term} {k z : Int32} (ht : t.eval args s none [] s = some (.int z)) (h : (Cond.not (Cond.eq t (.int k))).value args s none s [] = some true) : ¬ z = k := by
  have := not_v h
  intro e
  subst e
  simp [Cond.value, ht, Term.eval] at this
theorem own_seq {args : Array Value} {s : State} {t u : Term} {a b : Addr} (ht : t.eval args s none [] s = some (.ref a)) (hu : u.eval args s none [] s = some (.ref b)) (h : (Cond.eq t u).value args s none s [] = some true) : b = a := by
  have e : a = b := by simpa [Cond.value, ht, hu] using h
  exact e.symm
theorem own_len {args : Array Value} {s : State} {t : Term} {a : Addr} {c : Cell} {ty : FieldType} {n : Int32} (ht : t.eval args s none [] s = some (.ref a)) (A : Arr s s.heap a c ty) (h : (Cond.eq (.length t) (.int n)).value args s none s [] = some true) : c.slots.size < 2 ^ 31 ∧ c.slots.size.toInt32 = n := by
  have e0 := own_sint h
  have hfin := A.fin (Vm.Alike.refl _)
  by_cases hl : c.slots.size < 2 ^ 31
  · rw [len_f ht hfin hl] at e0
    exact ⟨hl, Value.int.inj (Option.some.inj e0)⟩
  · exfalso
    simp [Term.eval, ht, hfin, hl] at e0
theorem own_elem {args : Array Value} {s : State} {t u : Term} {a w : Addr} {c : Cell} {i : Int32} (ht : t.eval args s none [] s = some (.ref a)) (hc : s.heap[a]? = some c) (hu : u.eval args s none [] s = some (.ref w)) (h : (Cond.eq (.elem t (.int i)) u).value args s none s [] = some true) : c.slots[i.toNatClampNeg]? = some (.ref w) := by
  obtain ⟨x, y, hx, hy, k1, k2⟩ := cmp_v (Or.inl h)
  obtain rfl : Value.ref w = y := Option.some.inj (hu.symm.trans hy)
  have e := gotT (eq_R hx hu k2.2 rfl) h
  rw [e] at hx
  exact (elem_in hx ht (Term.int_eval i) hc).2
theorem own_ldcF {p : Program} {l : Launch} {e : Env} {R : Room} {s : State} {m : MethodId} {args : Array Value} {below : List Frame} {meth : Method} {c : Code} {T : State} {locs : List Loc} {cells slots : Nat}
    (X : Stand p l e R s m args below meth c T locs cells slots) (hx : p.tables.exec = Jvm.exec) {own : String} {index : Nat} {b : UInt32} (hown : s.vm.findClass own = some m.cls) (w : (Cond.constantFloat own index b).before args s = true) {g : JFrame} (hg : g.method = m) (hd : decode c.code g.pc = .ok (.ldc index, 2)) :
    ∀ target, Steps p.tables e below (T.setTop { g with pc := g.pc + 2, stack := .float b :: g.stack }) target → Steps p.tables e below (T.setTop g) target := by
  obtain ⟨k, cf, h1, h2, h3⟩ := Cond.constantFloat_spec hown w
  exact X.ldcFloat hx h1 h2 h3 hg hd
theorem own_iteR {c : Prop} [Decidable c] {a b : Value} (ha : a.isRef = true) (hb : b.isRef = true) : (if c then a else b).isRef = true := by split <;> assumption
theorem own_iteE {c P : Prop} [Decidable c] {a b : Value} {x : Addr} (h : (if c then a else b) = .ref x) (ha : a = .ref x → P) (hb : b = .ref x → P) : P := by
  split at h
  · exact ha h
  · exact hb h
theorem own_old {Z : State} {n0 : Nat} {h : Heap} (O : Old Z n0 h) : n0 ≤ h.size := O.1 ▸ O.2.1
theorem own_rand (x m : Int32) (n : Int) (h0 : 0 ≤ m.toInt) (h1 : m.toInt < n) : 0 ≤ (x &&& m).toInt ∧ (x &&& m).toInt < n := by
  have := c_and x m h0; omega
theorem own_rrem (x y : Int32) (n : Int) (h0 : 0 ≤ x.toInt) (hy : y.toInt = n) (hn : 0 < n) : 0 ≤ (x % y).toInt ∧ (x % y).toInt < n := by
  rw [(c_irem x y n hy).1 h0]; exact ⟨Int.emod_nonneg _ (by omega), Int.emod_lt_of_pos _ hn⟩
theorem own_rshr (x q : Int32) (k : Nat) (m : Int) {n : Int} (r : 0 ≤ x.toInt ∧ x.toInt < n) (hk : q.toBitVec.toNat % 32 = k) (hm : (n - 1) / ((2 ^ k : Nat) : Int) < m) : 0 ≤ (x >>> (q &&& 31)).toInt ∧ (x >>> (q &&& 31)).toInt < m := by
  rw [c_ishr x q k hk]
  have hp : (0 : Int) < ((2 ^ k : Nat) : Int) := by exact_mod_cast Nat.two_pow_pos k
  exact ⟨Int.ediv_nonneg r.1 (Int.le_of_lt hp), Int.lt_of_le_of_lt (Int.ediv_le_ediv hp (by omega)) hm⟩
theorem own_off {e c : Int32} {n : Int} (r : 0 ≤ e.toInt ∧ e.toInt < n) (h : decide (n ≤ c.toInt ∨ c.toInt < 0) = true) : ¬ e = c := fun z => by
  subst z
  have := of_decide_eq_true h
  omega
theorem own_below {e c : Int32} {n : Int} (r : 0 ≤ e.toInt ∧ e.toInt < n) (h : n ≤ c.toInt) : e < c := by rw [Int32.lt_iff_toInt_lt]; omega
theorem own_notbelow {e c : Int32} {n : Int} (r : 0 ≤ e.toInt ∧ e.toInt < n) (h : c.toInt ≤ 0) : ¬ e < c := by rw [Int32.lt_iff_toInt_lt]; omega
theorem own_notabove {e c : Int32} {n : Int} (r : 0 ≤ e.toInt ∧ e.toInt < n) (h : n - 1 ≤ c.toInt) : ¬ c < e := by rw [Int32.lt_iff_toInt_lt]; omega
theorem own_above {e c : Int32} {n : Int} (r : 0 ≤ e.toInt ∧ e.toInt < n) (h : c.toInt < 0) : c < e := by rw [Int32.lt_iff_toInt_lt]; omega
theorem own_lt {a b : Int32} {n : Int} (h : a < b) (e : b.toInt = n) : a.toInt < n := by rw [← e]; exact Int32.lt_iff_toInt_lt.mp h
theorem own_ne {a b : Int32} {n : Int} (h : ¬ a = b) (e : b.toInt = n) : a.toInt ≠ n := fun z => h (Int32.toInt_inj.mp (z.trans e.symm))
theorem own_eq {a b : Int32} {n : Int} (e : b.toInt = n) (h : a.toInt = n) : a = b := Int32.toInt_inj.mp (h.trans e.symm)
abbrev Sp (p : Program) (e : Env) (below : List Frame) (T : State) (f : JFrame) (t : State) : Prop := Steps p.tables e below (T.setTop f) t
abbrev Cm (p : Program) (e : Env) (below : List Frame) (E a : State) : Prop := ∀ t, Steps p.tables e below a t → Steps p.tables e below E t
abbrev lt1 (a0 : Int32) (a1 : Int32) (a2 : Int32) (a3 : Int32) (a4 : Int32) (a5 : Int32) : Array Slot := #[.val (.int a0), .val (.int a1), .val (.int a2), .val (.int a3), .val (.int a4), .val (.int a5), .unset, .unset, .unset, .unset, .unset, .unset, .unset, .unset, .unset, .unset, .unset, .unset, .unset, .unset, .unset, .unset, .unset, .unset, .unset, .unset]
abbrev lt2 (a0 : Int32) (a1 : Int32) (a2 : Int32) (a3 : Int32) (a4 : Int32) (a5 : Int32) (a6 : Int32) : Array Slot := #[.val (.int a0), .val (.int a1), .val (.int a2), .val (.int a3), .val (.int a4), .val (.int a5), .val (.int a6), .unset, .unset, .unset, .unset, .unset, .unset, .unset, .unset, .unset, .unset, .unset, .unset, .unset, .unset, .unset, .unset, .unset, .unset, .unset]
abbrev lt3 (a0 : Int32) (a1 : Int32) (a2 : Int32) (a3 : Int32) (a4 : Int32) (a5 : Int32) (a6 : Int32) (a7 : Int32) : Array Slot := #[.val (.int a0), .val (.int a1), .val (.int a2), .val (.int a3), .val (.int a4), .val (.int a5), .val (.int a6), .val (.int a7), .unset, .unset, .unset, .unset, .unset, .unset, .unset, .unset, .unset, .unset, .unset, .unset, .unset, .unset, .unset, .unset, .unset, .unset]
abbrev lt4 (a0 : Int32) (a1 : Int32) (a2 : Int32) (a3 : Int32) (a4 : Int32) (a5 : Int32) (a6 : Int32) (a7 : Int32) (a8 : Int32) : Array Slot := #[.val (.int a0), .val (.int a1), .val (.int a2), .val (.int a3), .val (.int a4), .val (.int a5), .val (.int a6), .val (.int a7), .val (.int a8), .unset, .unset, .unset, .unset, .unset, .unset, .unset, .unset, .unset, .unset, .unset, .unset, .unset, .unset, .unset, .unset, .unset]
abbrev lt5 (a0 : Int32) (a1 : Int32) (a2 : Int32) (a3 : Int32) (a4 : Int32) (a5 : Int32) (a6 : Int32) (a7 : Int32) (a8 : Int32) (a9 : Int32) : Array Slot := #[.val (.int a0), .val (.int a1), .val (.int a2), .val (.int a3), .val (.int a4), .val (.int a5), .val (.int a6), .val (.int a7), .val (.int a8), .val (.int a9), .unset, .unset, .unset, .unset, .unset, .unset, .unset, .unset, .unset, .unset, .unset, .unset, .unset, .unset, .unset, .unset]
abbrev lt6 (a0 : Int32) (a1 : Int32) (a2 : Int32) (a3 : Int32) (a4 : Int32) (a5 : Int32) (a6 : Int32) (a7 : Int32) (a8 : Int32) (a9 : Int32) (a10 : Int32) : Array Slot := #[.val (.int a0), .val (.int a1), .val (.int a2), .val (.int a3), .val (.int a4), .val (.int a5), .val (.int a6), .val (.int a7), .val (.int a8), .val (.int a9), .val (.int a10), .unset, .unset, .unset, .unset, .unset, .unset, .unset, .unset, .unset, .unset, .unset, .unset, .unset, .unset, .unset]
abbrev lt7 (a0 : Int32) (a1 : Int32) (a2 : Int32) (a3 : Int32) (a4 : Int32) (a5 : Int32) (a6 : Int32) (a7 : Int32) (a8 : Int32) (a9 : Int32) (a10 : Int32) (a11 : Int32) : Array Slot := #[.val (.int a0), .val (.int a1), .val (.int a2), .val (.int a3), .val (.int a4), .val (.int a5), .val (.int a6), .val (.int a7), .val (.int a8), .val (.int a9), .val (.int a10), .val (.int a11), .unset, .unset, .unset, .unset, .unset, .unset, .unset, .unset, .unset, .unset, .unset, .unset, .unset, .unset]
abbrev lt8 (a0 : Int32) (a1 : Int32) (a2 : Int32) (a3 : Int32) (a4 : Int32) (a5 : Int32) (a6 : Int32) (a7 : Int32) (a8 : Int32) (a9 : Int32) (a10 : Int32) (a11 : Int32) (a12 : Int32) : Array Slot := #[.val (.int a0), .val (.int a1), .val (.int a2), .val (.int a3), .val (.int a4), .val (.int a5), .val (.int a6), .val (.int a7), .val (.int a8), .val (.int a9), .val (.int a10), .val (.int a11), .val (.int a12), .unset, .unset, .unset, .unset, .unset, .unset, .unset, .unset, .unset, .unset, .unset, .unset, .unset]
abbrev lt9 (a0 : Int32) (a1 : Int32) (a2 : Int32) (a3 : Int32) (a4 : Int32) (a5 : Int32) (a6 : Int32) (a7 : Int32) (a8 : Int32) (a9 : Int32) (a10 : Int32) (a11 : Int32) (a12 : Int32) (a13 : Int32) : Array Slot := #[.val (.int a0), .val (.int a1), .val (.int a2), .val (.int a3), .val (.int a4), .val (.int a5), .val (.int a6), .val (.int a7), .val (.int a8), .val (.int a9), .val (.int a10), .val (.int a11), .val (.int a12), .val (.int a13), .unset, .unset, .unset, .unset, .unset, .unset, .unset, .unset, .unset, .unset, .unset, .unset]
abbrev lt10 (a0 : Int32) (a1 : Int32) (a2 : Int32) (a3 : Int32) (a4 : Int32) (a5 : Int32) (a6 : Int32) (a7 : Int32) (a8 : Int32) (a9 : Int32) (a10 : Int32) (a11 : Int32) (a12 : Int32) (a13 : Int32) (a14 : Int32) : Array Slot := #[.val (.int a0), .val (.int a1), .val (.int a2), .val (.int a3), .val (.int a4), .val (.int a5), .val (.int a6), .val (.int a7), .val (.int a8), .val (.int a9), .val (.int a10), .val (.int a11), .val (.int a12), .val (.int a13), .val (.int a14), .unset, .unset, .unset, .unset, .unset, .unset, .unset, .unset, .unset, .unset, .unset]
abbrev lt11 (a0 : Int32) (a1 : Int32) (a2 : Int32) (a3 : Int32) (a4 : Int32) (a5 : Int32) (a6 : Int32) (a7 : Int32) (a8 : Int32) (a9 : Int32) (a10 : Int32) (a11 : Int32) (a12 : Int32) (a13 : Int32) (a14 : Int32) (a15 : Int32) : Array Slot := #[.val (.int a0), .val (.int a1), .val (.int a2), .val (.int a3), .val (.int a4), .val (.int a5), .val (.int a6), .val (.int a7), .val (.int a8), .val (.int a9), .val (.int a10), .val (.int a11), .val (.int a12), .val (.int a13), .val (.int a14), .val (.int a15), .unset, .unset, .unset, .unset, .unset, .unset, .unset, .unset, .unset, .unset]
abbrev lt12 (a0 : Slot) (a1 : Slot) (a2 : Slot) (a3 : Slot) (a4 : Slot) (a5 : Int32) (a6 : Int32) (a7 : Int32) (a8 : Int32) (a9 : Int32) (a10 : Int32) (a11 : Int32) (a12 : Int32) (a13 : Int32) (a14 : Int32) (a15 : Int32) : Array Slot := #[a0, a1, a2, a3, a4, .val (.int a5), .val (.int a6), .val (.int a7), .val (.int a8), .val (.int a9), .val (.int a10), .val (.int a11), .val (.int a12), .val (.int a13), .val (.int a14), .val (.int a15), .unset, .unset, .unset, .unset, .unset, .unset, .unset, .unset, .unset, .unset]
abbrev lt13 (a0 : Slot) (a1 : Slot) (a2 : Slot) (a3 : Slot) (a4 : Slot) (a5 : Int32) (a6 : Int32) (a7 : Int32) (a8 : Int32) (a9 : Int32) (a10 : Int32) (a11 : Int32) (a12 : Int32) (a13 : Int32) (a14 : Int32) (a15 : Int32) (a16 : Int32) : Array Slot := #[a0, a1, a2, a3, a4, .val (.int a5), .val (.int a6), .val (.int a7), .val (.int a8), .val (.int a9), .val (.int a10), .val (.int a11), .val (.int a12), .val (.int a13), .val (.int a14), .val (.int a15), .val (.int a16), .unset, .unset, .unset, .unset, .unset, .unset, .unset, .unset, .unset]
abbrev lt14 (a0 : Slot) (a1 : Slot) (a2 : Slot) (a3 : Slot) (a4 : Slot) (a5 : Int32) (a6 : Int32) (a7 : Int32) (a8 : Int32) (a9 : Int32) (a10 : Int32) (a11 : Int32) (a12 : Int32) (a13 : Int32) (a14 : Int32) (a15 : Int32) (a16 : Int32) (a17 : Int32) : Array Slot := #[a0, a1, a2, a3, a4, .val (.int a5), .val (.int a6), .val (.int a7), .val (.int a8), .val (.int a9), .val (.int a10), .val (.int a11), .val (.int a12), .val (.int a13), .val (.int a14), .val (.int a15), .val (.int a16), .val (.int a17), .unset, .unset, .unset, .unset, .unset, .unset, .unset, .unset]
abbrev lt15 (a0 : Slot) (a1 : Slot) (a2 : Slot) (a3 : Slot) (a4 : Slot) (a5 : Slot) (a6 : Int32) (a7 : Int32) (a8 : Int32) (a9 : Int32) (a10 : Int32) (a11 : Int32) (a12 : Int32) (a13 : Int32) (a14 : Int32) (a15 : Int32) (a16 : Int32) (a17 : Int32) : Array Slot := #[a0, a1, a2, a3, a4, a5, .val (.int a6), .val (.int a7), .val (.int a8), .val (.int a9), .val (.int a10), .val (.int a11), .val (.int a12), .val (.int a13), .val (.int a14), .val (.int a15), .val (.int a16), .val (.int a17), .unset, .unset, .unset, .unset, .unset, .unset, .unset, .unset]
abbrev kA5 : Int64 := (((5 : Int32).toInt64) * (((5 : Int32) - (1 : Int32)).toInt64))
abbrev kE5 : Int64 := ((((5 : Int32).toInt64) * (((5 : Int32) - (1 : Int32)).toInt64)) + ((6 : Int64) * ((5 : Int32).toInt64)))
abbrev kA6 : Int64 := (((6 : Int32).toInt64) * (((6 : Int32) - (1 : Int32)).toInt64))
abbrev kE6 : Int64 := ((((6 : Int32).toInt64) * (((6 : Int32) - (1 : Int32)).toInt64)) + ((6 : Int64) * ((6 : Int32).toInt64)))
abbrev D1 (p : Nat) := decode prog_7_method_1_code p
abbrev D2 (p : Nat) := decode prog_7_method_3_code p
abbrev D4 (p : Nat) := decode jdk_65_method_103_code p
abbrev D5 (p : Nat) := decode jdk_29_method_43_code p
abbrev D15 (p : Nat) := decode prog_7_method_13_code p
abbrev D14 (p : Nat) := decode prog_7_method_21_code p
abbrev D8 (p : Nat) := decode prog_7_method_25_code p
abbrev D9 (p : Nat) := decode prog_7_method_27_code p
abbrev D11 (p : Nat) := decode prog_7_method_22_code p
abbrev D12 (p : Nat) := decode prog_7_method_24_code p
abbrev D7 (p : Nat) := decode prog_7_method_20_code p
abbrev D10 (p : Nat) := decode prog_7_method_26_code p
abbrev D21 (p : Nat) := decode prog_7_method_23_code p
abbrev D6 (p : Nat) := decode prog_7_method_12_code p
abbrev D13 (p : Nat) := decode prog_7_method_18_code p
abbrev D16 (p : Nat) := decode prog_7_method_19_code p
abbrev D17 (p : Nat) := decode prog_7_method_4_code p
abbrev D18 (p : Nat) := decode prog_7_method_5_code p
abbrev D19 (p : Nat) := decode prog_7_method_9_code p
abbrev D20 (p : Nat) := decode prog_7_method_10_code p
theorem d1_0 : D1 0 = .ok (.aload_n 0, 1) := by decide +kernel
abbrev lt16 (a0 : Addr) (a1 : Int32) : Array Slot := #[.val (.ref a0), .val (.int a1)]
theorem d1_1 : D1 1 = .ok (.iload_n 1, 1) := by decide +kernel
theorem d1_2 : D1 2 = .ok (.aconst_null, 1) := by decide +kernel
theorem d1_3 : D1 3 = .ok (.invokespecial 5, 3) := by decide +kernel
theorem d2_0 : D2 0 = .ok (.aload_n 0, 1) := by decide +kernel
abbrev lt17 (a0 : Addr) (a1 : Int32) : Array Slot := #[.val (.ref a0), .val (.int a1), .val .null, .unset, .unset, .unset, .unset]
theorem d2_1 : D2 1 = .ok (.invokespecial 17, 3) := by decide +kernel
theorem d2_4 : D2 4 = .ok (.aload_n 0, 1) := by decide +kernel
theorem d2_5 : D2 5 = .ok (.iload_n 1, 1) := by decide +kernel
theorem d2_6 : D2 6 = .ok (.putfield 22, 3) := by decide +kernel
theorem d2_9 : D2 9 = .ok (.aload_n 0, 1) := by decide +kernel
theorem d2_10 : D2 10 = .ok (.aload_n 2, 1) := by decide +kernel
theorem d2_11 : D2 11 = .ok (.ifnonnull 10, 3) := by decide +kernel
theorem d2_14 : D2 14 = .ok (.iconst 0, 1) := by decide +kernel
theorem d2_15 : D2 15 = .ok (.anewarray 26, 3) := by decide +kernel
theorem d2_18 : D2 18 = .ok (.goto 7, 3) := by decide +kernel
theorem d2_25 : D2 25 = .ok (.putfield 32, 3) := by decide +kernel
theorem d2_28 : D2 28 = .ok (.aload_n 0, 1) := by decide +kernel
theorem d2_29 : D2 29 = .ok (.iload_n 1, 1) := by decide +kernel
theorem d2_30 : D2 30 = .ok (.iload_n 1, 1) := by decide +kernel
theorem d2_31 : D2 31 = .ok (.multianewarray 35 2, 4) := by decide +kernel
theorem d2_35 : D2 35 = .ok (.putfield 37, 3) := by decide +kernel
theorem d2_38 : D2 38 = .ok (.aload_n 0, 1) := by decide +kernel
theorem d2_39 : D2 39 = .ok (.iload_n 1, 1) := by decide +kernel
theorem d2_40 : D2 40 = .ok (.newarray .int, 2) := by decide +kernel
theorem d2_42 : D2 42 = .ok (.putfield 40, 3) := by decide +kernel
theorem d2_45 : D2 45 = .ok (.aload_n 0, 1) := by decide +kernel
theorem d2_46 : D2 46 = .ok (.iload_n 1, 1) := by decide +kernel
theorem d2_47 : D2 47 = .ok (.newarray .int, 2) := by decide +kernel
theorem d2_49 : D2 49 = .ok (.putfield 43, 3) := by decide +kernel
theorem d2_52 : D2 52 = .ok (.aload_n 0, 1) := by decide +kernel
theorem d2_53 : D2 53 = .ok (.getfield 43, 3) := by decide +kernel
theorem d2_56 : D2 56 = .ok (.iload_n 1, 1) := by decide +kernel
theorem d2_57 : D2 57 = .ok (.iconst 1, 1) := by decide +kernel
theorem d2_58 : D2 58 = .ok (.isub, 1) := by decide +kernel
theorem d2_59 : D2 59 = .ok (.invokestatic 46, 3) := by decide +kernel
theorem d4_0 : D4 0 = .ok (.iconst 0, 1) := by decide +kernel
abbrev lt18 (a0 : Addr) (a1 : Int32) : Array Slot := #[.val (.ref a0), .val (.int a1), .unset, .unset]
theorem d4_1 : D4 1 = .ok (.istore_n 2, 1) := by decide +kernel
abbrev lt19 (a0 : Addr) (a1 : Int32) (a2 : Int32) : Array Slot := #[.val (.ref a0), .val (.int a1), .val (.int a2), .unset]
theorem d4_2 : D4 2 = .ok (.aload_n 0, 1) := by decide +kernel
theorem d4_3 : D4 3 = .ok (.arraylength, 1) := by decide +kernel
theorem d4_4 : D4 4 = .ok (.istore_n 3, 1) := by decide +kernel
abbrev lt20 (a0 : Addr) (a1 : Int32) (a2 : Int32) (a3 : Int32) : Array Slot := #[.val (.ref a0), .val (.int a1), .val (.int a2), .val (.int a3)]
theorem d4_5 : D4 5 = .ok (.iload_n 2, 1) := by decide +kernel
theorem d4_6 : D4 6 = .ok (.iload_n 3, 1) := by decide +kernel
theorem d4_7 : D4 7 = .ok (.if_icmp .ge 13, 3) := by decide +kernel
theorem d4_10 : D4 10 = .ok (.aload_n 0, 1) := by decide +kernel
theorem d4_11 : D4 11 = .ok (.iload_n 2, 1) := by decide +kernel
theorem d4_12 : D4 12 = .ok (.iload_n 1, 1) := by decide +kernel
theorem d4_13 : D4 13 = .ok (.iastore, 1) := by decide +kernel
theorem d4_14 : D4 14 = .ok (.iinc 2 1, 3) := by decide +kernel
theorem d4_17 : D4 17 = .ok (.goto (-12), 3) := by decide +kernel
theorem d4_20 : D4 20 = .ok (.return_, 1) := by decide +kernel
abbrev Y20 : MethodName := (⟨"java/util/Arrays", "fill", "([II)V"⟩ : MethodName)
theorem pd_0 : parseMethodDescriptor "([II)V" = some ⟨[(.array .int), .int], none⟩ := by decide +kernel
theorem d2_62 : D2 62 = .ok (.iload_n 1, 1) := by decide +kernel
theorem d2_63 : D2 63 = .ok (.i2l, 1) := by decide +kernel
theorem d2_64 : D2 64 = .ok (.iload_n 1, 1) := by decide +kernel
theorem d2_65 : D2 65 = .ok (.iconst 1, 1) := by decide +kernel
theorem d2_66 : D2 66 = .ok (.isub, 1) := by decide +kernel
theorem d2_67 : D2 67 = .ok (.i2l, 1) := by decide +kernel
theorem d2_68 : D2 68 = .ok (.lmul, 1) := by decide +kernel
theorem d2_69 : D2 69 = .ok (.lstore_n 3, 1) := by decide +kernel
abbrev lt21 (a0 : Addr) (a1 : Int32) (a3 : Int64) : Array Slot := #[.val (.ref a0), .val (.int a1), .val .null, .val (.long a3), .second, .unset, .unset]
theorem d2_70 : D2 70 = .ok (.aload_n 2, 1) := by decide +kernel
theorem d2_71 : D2 71 = .ok (.ifnull 97, 3) := by decide +kernel
theorem d2_168 : D2 168 = .ok (.aload_n 0, 1) := by decide +kernel
theorem d2_169 : D2 169 = .ok (.lload_n 3, 1) := by decide +kernel
theorem d2_170 : D2 170 = .ok (.ldc2_w 58, 3) := by decide +kernel
theorem d2_173 : D2 173 = .ok (.iload_n 1, 1) := by decide +kernel
theorem d2_174 : D2 174 = .ok (.i2l, 1) := by decide +kernel
theorem d2_175 : D2 175 = .ok (.lmul, 1) := by decide +kernel
theorem d2_176 : D2 176 = .ok (.ladd, 1) := by decide +kernel
theorem d2_177 : D2 177 = .ok (.invokestatic 60, 3) := by decide +kernel
theorem d5_0 : D5 0 = .ok (.lload_n 0, 1) := by decide +kernel
abbrev lt22 (a0 : Int64) : Array Slot := #[.val (.long a0), .second]
theorem d5_1 : D5 1 = .ok (.l2i, 1) := by decide +kernel
theorem d5_2 : D5 2 = .ok (.i2l, 1) := by decide +kernel
theorem d5_3 : D5 3 = .ok (.lload_n 0, 1) := by decide +kernel
theorem d5_4 : D5 4 = .ok (.lcmp, 1) := by decide +kernel
theorem d5_5 : D5 5 = .ok (.ifCond .eq 13, 3) := by decide +kernel
theorem d5_18 : D5 18 = .ok (.lload_n 0, 1) := by decide +kernel
theorem d5_19 : D5 19 = .ok (.l2i, 1) := by decide +kernel
theorem d5_20 : D5 20 = .ok (.ireturn, 1) := by decide +kernel
abbrev Y23 : MethodName := (⟨"java/lang/Math", "toIntExact", "(J)I"⟩ : MethodName)
theorem pd_1 : parseMethodDescriptor "(J)I" = some ⟨[.long], some .int⟩ := by decide +kernel
theorem d2_180 : D2 180 = .ok (.newarray .int, 2) := by decide +kernel
theorem d2_182 : D2 182 = .ok (.putfield 66, 3) := by decide +kernel
theorem d2_185 : D2 185 = .ok (.aload_n 0, 1) := by decide +kernel
theorem d2_186 : D2 186 = .ok (.iload_n 1, 1) := by decide +kernel
theorem d2_187 : D2 187 = .ok (.newarray .int, 2) := by decide +kernel
theorem d2_189 : D2 189 = .ok (.putfield 69, 3) := by decide +kernel
theorem d2_192 : D2 192 = .ok (.aload_n 0, 1) := by decide +kernel
theorem d2_193 : D2 193 = .ok (.iload_n 1, 1) := by decide +kernel
theorem d2_194 : D2 194 = .ok (.newarray .int, 2) := by decide +kernel
theorem d2_196 : D2 196 = .ok (.putfield 72, 3) := by decide +kernel
theorem d2_199 : D2 199 = .ok (.iconst 0, 1) := by decide +kernel
theorem d2_200 : D2 200 = .ok (.istore 5, 2) := by decide +kernel
abbrev lt23 (a0 : Addr) (a1 : Int32) (a3 : Int64) (a5 : Int32) : Array Slot := #[.val (.ref a0), .val (.int a1), .val .null, .val (.long a3), .second, .val (.int a5), .unset]
theorem d2_202 : D2 202 = .ok (.iload 5, 2) := by decide +kernel
theorem d2_204 : D2 204 = .ok (.iload_n 1, 1) := by decide +kernel
theorem d2_205 : D2 205 = .ok (.if_icmp .ge 26, 3) := by decide +kernel
theorem d2_208 : D2 208 = .ok (.aload_n 0, 1) := by decide +kernel
theorem d2_209 : D2 209 = .ok (.getfield 69, 3) := by decide +kernel
theorem d2_212 : D2 212 = .ok (.iload 5, 2) := by decide +kernel
theorem d2_214 : D2 214 = .ok (.iload 5, 2) := by decide +kernel
theorem d2_216 : D2 216 = .ok (.iastore, 1) := by decide +kernel
theorem d2_217 : D2 217 = .ok (.aload_n 0, 1) := by decide +kernel
theorem d2_218 : D2 218 = .ok (.getfield 72, 3) := by decide +kernel
theorem d2_221 : D2 221 = .ok (.iload 5, 2) := by decide +kernel
theorem d2_223 : D2 223 = .ok (.iconst 1, 1) := by decide +kernel
theorem d2_224 : D2 224 = .ok (.iastore, 1) := by decide +kernel
theorem d2_225 : D2 225 = .ok (.iinc 5 1, 3) := by decide +kernel
theorem d2_228 : D2 228 = .ok (.goto (-26), 3) := by decide +kernel
theorem d2_231 : D2 231 = .ok (.aload_n 0, 1) := by decide +kernel
theorem d2_232 : D2 232 = .ok (.iload_n 1, 1) := by decide +kernel
theorem d2_233 : D2 233 = .ok (.newarray .int, 2) := by decide +kernel
theorem d2_235 : D2 235 = .ok (.putfield 75, 3) := by decide +kernel
theorem d2_238 : D2 238 = .ok (.aload_n 0, 1) := by decide +kernel
theorem d2_239 : D2 239 = .ok (.iload_n 1, 1) := by decide +kernel
theorem d2_240 : D2 240 = .ok (.newarray .boolean, 2) := by decide +kernel
theorem d2_242 : D2 242 = .ok (.putfield 78, 3) := by decide +kernel
theorem d2_245 : D2 245 = .ok (.aload_n 0, 1) := by decide +kernel
theorem d2_246 : D2 246 = .ok (.iload_n 1, 1) := by decide +kernel
theorem d2_247 : D2 247 = .ok (.iconst 1, 1) := by decide +kernel
theorem d2_248 : D2 248 = .ok (.iadd, 1) := by decide +kernel
theorem d2_249 : D2 249 = .ok (.newarray .int, 2) := by decide +kernel
theorem d2_251 : D2 251 = .ok (.putfield 82, 3) := by decide +kernel
theorem d2_254 : D2 254 = .ok (.aload_n 0, 1) := by decide +kernel
theorem d2_255 : D2 255 = .ok (.lload_n 3, 1) := by decide +kernel
theorem d2_256 : D2 256 = .ok (.invokestatic 60, 3) := by decide +kernel
theorem d2_259 : D2 259 = .ok (.newarray .int, 2) := by decide +kernel
theorem d2_261 : D2 261 = .ok (.putfield 85, 3) := by decide +kernel
theorem d2_264 : D2 264 = .ok (.return_, 1) := by decide +kernel
abbrev Y25 : MethodName := (⟨"com/example/onetree/onetree/EdgeStates", "<init>", "(ILcom/example/onetree/onetree/Instance;)V"⟩ : MethodName)
theorem pd_2 : parseMethodDescriptor "(ILcom/example/onetree/onetree/Instance;)V" = some ⟨[.int, (.object "com/example/onetree/onetree/Instance")], none⟩ := by decide +kernel
theorem d1_6 : D1 6 = .ok (.return_, 1) := by decide +kernel
abbrev Y26 : MethodName := (⟨"com/example/onetree/onetree/EdgeStates", "<init>", "(I)V"⟩ : MethodName)
theorem pd_3 : parseMethodDescriptor "(I)V" = some ⟨[.int], none⟩ := by decide +kernel
abbrev lt24 (a0 : Slot) (a1 : Slot) (a2 : Slot) (a3 : Slot) (a4 : Slot) (a5 : Slot) (a6 : Int32) (a7 : Int32) (a8 : Int32) (a9 : Int32) (a10 : Int32) (a11 : Int32) (a12 : Int32) (a13 : Int32) (a14 : Int32) (a15 : Int32) (a16 : Int32) (a17 : Int32) (a18 : Addr) : Array Slot := #[a0, a1, a2, a3, a4, a5, .val (.int a6), .val (.int a7), .val (.int a8), .val (.int a9), .val (.int a10), .val (.int a11), .val (.int a12), .val (.int a13), .val (.int a14), .val (.int a15), .val (.int a16), .val (.int a17), .val (.ref a18), .unset, .unset, .unset, .unset, .unset, .unset, .unset]
abbrev lt25 (a0 : Slot) (a1 : Slot) (a2 : Slot) (a3 : Slot) (a4 : Slot) (a5 : Slot) (a6 : Int32) (a7 : Int32) (a8 : Int32) (a9 : Int32) (a10 : Int32) (a11 : Int32) (a12 : Int32) (a13 : Int32) (a14 : Int32) (a15 : Int32) (a16 : Int32) (a17 : Int32) (a18 : Addr) (a19 : Slot) (a20 : Slot) (a21 : Slot) (a22 : Slot) (a23 : Slot) (a24 : Slot) (a25 : Slot) : Array Slot := #[a0, a1, a2, a3, a4, a5, .val (.int a6), .val (.int a7), .val (.int a8), .val (.int a9), .val (.int a10), .val (.int a11), .val (.int a12), .val (.int a13), .val (.int a14), .val (.int a15), .val (.int a16), .val (.int a17), .val (.ref a18), a19, a20, a21, a22, a23, a24, a25]
theorem d15_0 : D15 0 = .ok (.aload_n 0, 1) := by decide +kernel
abbrev lt26 (a0 : Addr) (a1 : Int32) (a2 : Int32) : Array Slot := #[.val (.ref a0), .val (.int a1), .val (.int a2)]
theorem d15_1 : D15 1 = .ok (.iload_n 1, 1) := by decide +kernel
theorem d15_2 : D15 2 = .ok (.iload_n 2, 1) := by decide +kernel
theorem d15_3 : D15 3 = .ok (.invokevirtual 112, 3) := by decide +kernel
theorem d14_0 : D14 0 = .ok (.aload_n 0, 1) := by decide +kernel
theorem d14_1 : D14 1 = .ok (.getfield 37, 3) := by decide +kernel
theorem d14_4 : D14 4 = .ok (.iload_n 1, 1) := by decide +kernel
theorem d14_5 : D14 5 = .ok (.aaload, 1) := by decide +kernel
theorem d14_6 : D14 6 = .ok (.iload_n 2, 1) := by decide +kernel
theorem d14_7 : D14 7 = .ok (.baload, 1) := by decide +kernel
theorem d14_8 : D14 8 = .ok (.istore_n 3, 1) := by decide +kernel
theorem d14_9 : D14 9 = .ok (.iload_n 3, 1) := by decide +kernel
theorem d14_10 : D14 10 = .ok (.ifCond .eq 14, 3) := by decide +kernel
theorem d14_24 : D14 24 = .ok (.aload_n 0, 1) := by decide +kernel
theorem d14_25 : D14 25 = .ok (.iload_n 1, 1) := by decide +kernel
theorem d14_26 : D14 26 = .ok (.iload_n 2, 1) := by decide +kernel
theorem d14_27 : D14 27 = .ok (.iconst 2, 1) := by decide +kernel
theorem d14_28 : D14 28 = .ok (.invokevirtual 122, 3) := by decide +kernel
theorem d8_0 : D8 0 = .ok (.aload_n 0, 1) := by decide +kernel
theorem d8_1 : D8 1 = .ok (.iconst 0, 1) := by decide +kernel
theorem d8_2 : D8 2 = .ok (.putfield 115, 3) := by decide +kernel
theorem d8_5 : D8 5 = .ok (.aload_n 0, 1) := by decide +kernel
theorem d8_6 : D8 6 = .ok (.getfield 66, 3) := by decide +kernel
theorem d8_9 : D8 9 = .ok (.aload_n 0, 1) := by decide +kernel
theorem d8_10 : D8 10 = .ok (.dup, 1) := by decide +kernel
theorem d8_11 : D8 11 = .ok (.getfield 119, 3) := by decide +kernel
theorem d8_14 : D8 14 = .ok (.dup_x1, 1) := by decide +kernel
theorem d8_15 : D8 15 = .ok (.iconst 1, 1) := by decide +kernel
theorem d8_16 : D8 16 = .ok (.iadd, 1) := by decide +kernel
theorem d8_17 : D8 17 = .ok (.putfield 119, 3) := by decide +kernel
theorem d8_20 : D8 20 = .ok (.iload_n 1, 1) := by decide +kernel
theorem d8_21 : D8 21 = .ok (.iastore, 1) := by decide +kernel
theorem d8_22 : D8 22 = .ok (.aload_n 0, 1) := by decide +kernel
theorem d8_23 : D8 23 = .ok (.getfield 66, 3) := by decide +kernel
theorem d8_26 : D8 26 = .ok (.aload_n 0, 1) := by decide +kernel
theorem d8_27 : D8 27 = .ok (.dup, 1) := by decide +kernel
theorem d8_28 : D8 28 = .ok (.getfield 119, 3) := by decide +kernel
theorem d8_31 : D8 31 = .ok (.dup_x1, 1) := by decide +kernel
theorem d8_32 : D8 32 = .ok (.iconst 1, 1) := by decide +kernel
theorem d8_33 : D8 33 = .ok (.iadd, 1) := by decide +kernel
theorem d8_34 : D8 34 = .ok (.putfield 119, 3) := by decide +kernel
theorem d8_37 : D8 37 = .ok (.iload_n 2, 1) := by decide +kernel
theorem d8_38 : D8 38 = .ok (.iastore, 1) := by decide +kernel
theorem d8_39 : D8 39 = .ok (.aload_n 0, 1) := by decide +kernel
theorem d8_40 : D8 40 = .ok (.getfield 37, 3) := by decide +kernel
theorem d8_43 : D8 43 = .ok (.iload_n 1, 1) := by decide +kernel
theorem d8_44 : D8 44 = .ok (.aaload, 1) := by decide +kernel
theorem d8_45 : D8 45 = .ok (.iload_n 2, 1) := by decide +kernel
theorem d8_46 : D8 46 = .ok (.iload_n 3, 1) := by decide +kernel
theorem d8_47 : D8 47 = .ok (.bastore, 1) := by decide +kernel
theorem d8_48 : D8 48 = .ok (.aload_n 0, 1) := by decide +kernel
theorem d8_49 : D8 49 = .ok (.getfield 37, 3) := by decide +kernel
theorem d8_52 : D8 52 = .ok (.iload_n 2, 1) := by decide +kernel
theorem d8_53 : D8 53 = .ok (.aaload, 1) := by decide +kernel
theorem d8_54 : D8 54 = .ok (.iload_n 1, 1) := by decide +kernel
theorem d8_55 : D8 55 = .ok (.iload_n 3, 1) := by decide +kernel
theorem d8_56 : D8 56 = .ok (.bastore, 1) := by decide +kernel
theorem d8_57 : D8 57 = .ok (.return_, 1) := by decide +kernel
abbrev Y30 : MethodName := (⟨"com/example/onetree/onetree/EdgeStates", "setState", "(IIB)V"⟩ : MethodName)
theorem pd_4 : parseMethodDescriptor "(IIB)V" = some ⟨[.int, .int, .byte], none⟩ := by decide +kernel
theorem d14_31 : D14 31 = .ok (.aload_n 0, 1) := by decide +kernel
theorem d14_32 : D14 32 = .ok (.getfield 43, 3) := by decide +kernel
theorem d14_35 : D14 35 = .ok (.iload_n 1, 1) := by decide +kernel
theorem d14_36 : D14 36 = .ok (.dup2, 1) := by decide +kernel
theorem d14_37 : D14 37 = .ok (.iaload, 1) := by decide +kernel
theorem d14_38 : D14 38 = .ok (.iconst 1, 1) := by decide +kernel
theorem d14_39 : D14 39 = .ok (.isub, 1) := by decide +kernel
theorem d14_40 : D14 40 = .ok (.iastore, 1) := by decide +kernel
theorem d14_41 : D14 41 = .ok (.aload_n 0, 1) := by decide +kernel
theorem d14_42 : D14 42 = .ok (.getfield 43, 3) := by decide +kernel
theorem d14_45 : D14 45 = .ok (.iload_n 2, 1) := by decide +kernel
theorem d14_46 : D14 46 = .ok (.dup2, 1) := by decide +kernel
theorem d14_47 : D14 47 = .ok (.iaload, 1) := by decide +kernel
theorem d14_48 : D14 48 = .ok (.iconst 1, 1) := by decide +kernel
theorem d14_49 : D14 49 = .ok (.isub, 1) := by decide +kernel
theorem d14_50 : D14 50 = .ok (.iastore, 1) := by decide +kernel
theorem d14_51 : D14 51 = .ok (.aload_n 0, 1) := by decide +kernel
theorem d14_52 : D14 52 = .ok (.iload_n 1, 1) := by decide +kernel
theorem d14_53 : D14 53 = .ok (.invokevirtual 104, 3) := by decide +kernel
theorem d9_0 : D9 0 = .ok (.aload_n 0, 1) := by decide +kernel
theorem d9_1 : D9 1 = .ok (.getfield 78, 3) := by decide +kernel
theorem d9_4 : D9 4 = .ok (.iload_n 1, 1) := by decide +kernel
theorem d9_5 : D9 5 = .ok (.baload, 1) := by decide +kernel
theorem d9_6 : D9 6 = .ok (.ifCond .ne 40, 3) := by decide +kernel
theorem d9_9 : D9 9 = .ok (.aload_n 0, 1) := by decide +kernel
theorem d9_10 : D9 10 = .ok (.getfield 78, 3) := by decide +kernel
theorem d9_13 : D9 13 = .ok (.iload_n 1, 1) := by decide +kernel
theorem d9_14 : D9 14 = .ok (.iconst 1, 1) := by decide +kernel
theorem d9_15 : D9 15 = .ok (.bastore, 1) := by decide +kernel
theorem d9_16 : D9 16 = .ok (.aload_n 0, 1) := by decide +kernel
theorem d9_17 : D9 17 = .ok (.getfield 75, 3) := by decide +kernel
theorem d9_20 : D9 20 = .ok (.aload_n 0, 1) := by decide +kernel
theorem d9_21 : D9 21 = .ok (.getfield 133, 3) := by decide +kernel
theorem d9_24 : D9 24 = .ok (.aload_n 0, 1) := by decide +kernel
theorem d9_25 : D9 25 = .ok (.getfield 130, 3) := by decide +kernel
theorem d9_28 : D9 28 = .ok (.iadd, 1) := by decide +kernel
theorem d9_29 : D9 29 = .ok (.aload_n 0, 1) := by decide +kernel
theorem d9_30 : D9 30 = .ok (.getfield 22, 3) := by decide +kernel
theorem d9_33 : D9 33 = .ok (.irem, 1) := by decide +kernel
theorem d9_34 : D9 34 = .ok (.iload_n 1, 1) := by decide +kernel
theorem d9_35 : D9 35 = .ok (.iastore, 1) := by decide +kernel
theorem d9_36 : D9 36 = .ok (.aload_n 0, 1) := by decide +kernel
theorem d9_37 : D9 37 = .ok (.dup, 1) := by decide +kernel
theorem d9_38 : D9 38 = .ok (.getfield 130, 3) := by decide +kernel
theorem d9_41 : D9 41 = .ok (.iconst 1, 1) := by decide +kernel
theorem d9_42 : D9 42 = .ok (.iadd, 1) := by decide +kernel
theorem d9_43 : D9 43 = .ok (.putfield 130, 3) := by decide +kernel
theorem d9_46 : D9 46 = .ok (.return_, 1) := by decide +kernel
abbrev Y31 : MethodName := (⟨"com/example/onetree/onetree/EdgeStates", "enqueue", "(I)V"⟩ : MethodName)
theorem d14_56 : D14 56 = .ok (.aload_n 0, 1) := by decide +kernel
theorem d14_57 : D14 57 = .ok (.iload_n 2, 1) := by decide +kernel
theorem d14_58 : D14 58 = .ok (.invokevirtual 104, 3) := by decide +kernel
theorem d14_61 : D14 61 = .ok (.iconst 1, 1) := by decide +kernel
theorem d14_62 : D14 62 = .ok (.ireturn, 1) := by decide +kernel
theorem d14_13 : D14 13 = .ok (.iload_n 3, 1) := by decide +kernel
theorem d14_14 : D14 14 = .ok (.iconst 2, 1) := by decide +kernel
theorem d14_15 : D14 15 = .ok (.if_icmp .ne 7, 3) := by decide +kernel
theorem d14_18 : D14 18 = .ok (.iconst 1, 1) := by decide +kernel
theorem d14_19 : D14 19 = .ok (.goto 4, 3) := by decide +kernel
theorem d14_23 : D14 23 = .ok (.ireturn, 1) := by decide +kernel
theorem d14_22 : D14 22 = .ok (.iconst 0, 1) := by decide +kernel
abbrev Y32 : MethodName := (⟨"com/example/onetree/onetree/EdgeStates", "setRemoved", "(II)Z"⟩ : MethodName)
theorem pd_5 : parseMethodDescriptor "(II)Z" = some ⟨[.int, .int], some .boolean⟩ := by decide +kernel
theorem d15_6 : D15 6 = .ok (.ifCond .eq 14, 3) := by decide +kernel
theorem d15_20 : D15 20 = .ok (.iconst 0, 1) := by decide +kernel
theorem d15_21 : D15 21 = .ok (.ireturn, 1) := by decide +kernel
theorem d15_9 : D15 9 = .ok (.aload_n 0, 1) := by decide +kernel
theorem d15_10 : D15 10 = .ok (.invokevirtual 108, 3) := by decide +kernel
abbrev lt27 (a0 : Addr) (a1 : Slot) : Array Slot := #[.val (.ref a0), a1]
theorem d11_0 : D11 0 = .ok (.aload_n 0, 1) := by decide +kernel
theorem d11_1 : D11 1 = .ok (.getfield 130, 3) := by decide +kernel
theorem d11_4 : D11 4 = .ok (.ifCond .le 62, 3) := by decide +kernel
theorem d11_7 : D11 7 = .ok (.aload_n 0, 1) := by decide +kernel
theorem d11_8 : D11 8 = .ok (.getfield 75, 3) := by decide +kernel
theorem d11_11 : D11 11 = .ok (.aload_n 0, 1) := by decide +kernel
theorem d11_12 : D11 12 = .ok (.getfield 133, 3) := by decide +kernel
theorem d11_15 : D11 15 = .ok (.iaload, 1) := by decide +kernel
theorem d11_16 : D11 16 = .ok (.istore_n 1, 1) := by decide +kernel
theorem d11_17 : D11 17 = .ok (.aload_n 0, 1) := by decide +kernel
theorem d11_18 : D11 18 = .ok (.aload_n 0, 1) := by decide +kernel
theorem d11_19 : D11 19 = .ok (.getfield 133, 3) := by decide +kernel
theorem d11_22 : D11 22 = .ok (.iconst 1, 1) := by decide +kernel
theorem d11_23 : D11 23 = .ok (.iadd, 1) := by decide +kernel
theorem d11_24 : D11 24 = .ok (.aload_n 0, 1) := by decide +kernel
theorem d11_25 : D11 25 = .ok (.getfield 22, 3) := by decide +kernel
theorem d11_28 : D11 28 = .ok (.irem, 1) := by decide +kernel
theorem d11_29 : D11 29 = .ok (.putfield 133, 3) := by decide +kernel
theorem d11_32 : D11 32 = .ok (.aload_n 0, 1) := by decide +kernel
theorem d11_33 : D11 33 = .ok (.dup, 1) := by decide +kernel
theorem d11_34 : D11 34 = .ok (.getfield 130, 3) := by decide +kernel
theorem d11_37 : D11 37 = .ok (.iconst 1, 1) := by decide +kernel
theorem d11_38 : D11 38 = .ok (.isub, 1) := by decide +kernel
theorem d11_39 : D11 39 = .ok (.putfield 130, 3) := by decide +kernel
theorem d11_42 : D11 42 = .ok (.aload_n 0, 1) := by decide +kernel
theorem d11_43 : D11 43 = .ok (.getfield 78, 3) := by decide +kernel
theorem d11_46 : D11 46 = .ok (.iload_n 1, 1) := by decide +kernel
theorem d11_47 : D11 47 = .ok (.iconst 0, 1) := by decide +kernel
theorem d11_48 : D11 48 = .ok (.bastore, 1) := by decide +kernel
theorem d11_49 : D11 49 = .ok (.aload_n 0, 1) := by decide +kernel
theorem d11_50 : D11 50 = .ok (.iload_n 1, 1) := by decide +kernel
theorem d11_51 : D11 51 = .ok (.invokevirtual 136, 3) := by decide +kernel
theorem d12_0 : D12 0 = .ok (.aload_n 0, 1) := by decide +kernel
abbrev lt28 (a0 : Addr) (a1 : Int32) : Array Slot := #[.val (.ref a0), .val (.int a1), .unset, .unset, .unset]
theorem d12_1 : D12 1 = .ok (.getfield 43, 3) := by decide +kernel
theorem d12_4 : D12 4 = .ok (.iload_n 1, 1) := by decide +kernel
theorem d12_5 : D12 5 = .ok (.iaload, 1) := by decide +kernel
theorem d12_6 : D12 6 = .ok (.iconst 2, 1) := by decide +kernel
theorem d12_7 : D12 7 = .ok (.if_icmp .ge 5, 3) := by decide +kernel
theorem d12_10 : D12 10 = .ok (.iconst 0, 1) := by decide +kernel
theorem d12_11 : D12 11 = .ok (.ireturn, 1) := by decide +kernel
theorem d12_12 : D12 12 = .ok (.aload_n 0, 1) := by decide +kernel
theorem d12_13 : D12 13 = .ok (.getfield 40, 3) := by decide +kernel
theorem d12_16 : D12 16 = .ok (.iload_n 1, 1) := by decide +kernel
theorem d12_17 : D12 17 = .ok (.iaload, 1) := by decide +kernel
theorem d12_18 : D12 18 = .ok (.iconst 2, 1) := by decide +kernel
theorem d12_19 : D12 19 = .ok (.if_icmp .ne 7, 3) := by decide +kernel
theorem d12_22 : D12 22 = .ok (.iconst 1, 1) := by decide +kernel
theorem d12_23 : D12 23 = .ok (.goto 4, 3) := by decide +kernel
theorem d12_27 : D12 27 = .ok (.istore_n 2, 1) := by decide +kernel
abbrev lt29 (a0 : Addr) (a1 : Int32) (a2 : Int32) : Array Slot := #[.val (.ref a0), .val (.int a1), .val (.int a2), .unset, .unset]
theorem d12_28 : D12 28 = .ok (.iload_n 2, 1) := by decide +kernel
theorem d12_29 : D12 29 = .ok (.aload_n 0, 1) := by decide +kernel
theorem d12_30 : D12 30 = .ok (.getfield 43, 3) := by decide +kernel
theorem d12_33 : D12 33 = .ok (.iload_n 1, 1) := by decide +kernel
theorem d12_34 : D12 34 = .ok (.iaload, 1) := by decide +kernel
theorem d12_35 : D12 35 = .ok (.iconst 2, 1) := by decide +kernel
theorem d12_36 : D12 36 = .ok (.if_icmp .ne 7, 3) := by decide +kernel
theorem d12_39 : D12 39 = .ok (.iconst 1, 1) := by decide +kernel
theorem d12_40 : D12 40 = .ok (.goto 4, 3) := by decide +kernel
theorem d12_44 : D12 44 = .ok (.if_icmp .ne 5, 3) := by decide +kernel
theorem d12_47 : D12 47 = .ok (.iconst 1, 1) := by decide +kernel
theorem d12_48 : D12 48 = .ok (.ireturn, 1) := by decide +kernel
theorem d12_43 : D12 43 = .ok (.iconst 0, 1) := by decide +kernel
theorem d12_49 : D12 49 = .ok (.iconst 0, 1) := by decide +kernel
theorem d12_50 : D12 50 = .ok (.istore_n 3, 1) := by decide +kernel
abbrev lt30 (a0 : Addr) (a1 : Int32) (a2 : Int32) (a3 : Int32) : Array Slot := #[.val (.ref a0), .val (.int a1), .val (.int a2), .val (.int a3), .unset]
theorem d12_26 : D12 26 = .ok (.iconst 0, 1) := by decide +kernel
abbrev lt31 (a0 : Addr) (a1 : Int32) (a2 : Int32) (a3 : Int32) (a4 : Slot) : Array Slot := #[.val (.ref a0), .val (.int a1), .val (.int a2), .val (.int a3), a4]
theorem d12_51 : D12 51 = .ok (.iload_n 3, 1) := by decide +kernel
theorem d12_52 : D12 52 = .ok (.aload_n 0, 1) := by decide +kernel
theorem d12_53 : D12 53 = .ok (.getfield 22, 3) := by decide +kernel
theorem d12_56 : D12 56 = .ok (.if_icmp .ge 53, 3) := by decide +kernel
theorem d12_59 : D12 59 = .ok (.iload_n 3, 1) := by decide +kernel
theorem d12_60 : D12 60 = .ok (.iload_n 1, 1) := by decide +kernel
theorem d12_61 : D12 61 = .ok (.if_icmp .eq 42, 3) := by decide +kernel
theorem d12_103 : D12 103 = .ok (.iinc 3 1, 3) := by decide +kernel
theorem d12_106 : D12 106 = .ok (.goto (-55), 3) := by decide +kernel
theorem d12_64 : D12 64 = .ok (.aload_n 0, 1) := by decide +kernel
theorem d12_65 : D12 65 = .ok (.getfield 37, 3) := by decide +kernel
theorem d12_68 : D12 68 = .ok (.iload_n 1, 1) := by decide +kernel
theorem d12_69 : D12 69 = .ok (.aaload, 1) := by decide +kernel
theorem d12_70 : D12 70 = .ok (.iload_n 3, 1) := by decide +kernel
theorem d12_71 : D12 71 = .ok (.baload, 1) := by decide +kernel
theorem d12_72 : D12 72 = .ok (.ifCond .ne 31, 3) := by decide +kernel
theorem d12_75 : D12 75 = .ok (.iload_n 2, 1) := by decide +kernel
theorem d12_76 : D12 76 = .ok (.ifCond .eq 12, 3) := by decide +kernel
theorem d12_88 : D12 88 = .ok (.aload_n 0, 1) := by decide +kernel
theorem d12_89 : D12 89 = .ok (.iload_n 1, 1) := by decide +kernel
theorem d12_90 : D12 90 = .ok (.iload_n 3, 1) := by decide +kernel
theorem d12_91 : D12 91 = .ok (.invokevirtual 98, 3) := by decide +kernel
theorem d7_0 : D7 0 = .ok (.aload_n 0, 1) := by decide +kernel
abbrev lt32 (a0 : Addr) (a1 : Int32) (a2 : Int32) : Array Slot := #[.val (.ref a0), .val (.int a1), .val (.int a2), .unset, .unset, .unset, .unset]
theorem d7_1 : D7 1 = .ok (.getfield 37, 3) := by decide +kernel
theorem d7_4 : D7 4 = .ok (.iload_n 1, 1) := by decide +kernel
theorem d7_5 : D7 5 = .ok (.aaload, 1) := by decide +kernel
theorem d7_6 : D7 6 = .ok (.iload_n 2, 1) := by decide +kernel
theorem d7_7 : D7 7 = .ok (.baload, 1) := by decide +kernel
theorem d7_8 : D7 8 = .ok (.istore_n 3, 1) := by decide +kernel
abbrev lt33 (a0 : Addr) (a1 : Int32) (a2 : Int32) (a3 : Int32) : Array Slot := #[.val (.ref a0), .val (.int a1), .val (.int a2), .val (.int a3), .unset, .unset, .unset]
theorem d7_9 : D7 9 = .ok (.iload_n 3, 1) := by decide +kernel
theorem d7_10 : D7 10 = .ok (.ifCond .eq 14, 3) := by decide +kernel
theorem d7_24 : D7 24 = .ok (.aload_n 0, 1) := by decide +kernel
theorem d7_25 : D7 25 = .ok (.getfield 40, 3) := by decide +kernel
theorem d7_28 : D7 28 = .ok (.iload_n 1, 1) := by decide +kernel
theorem d7_29 : D7 29 = .ok (.iaload, 1) := by decide +kernel
theorem d7_30 : D7 30 = .ok (.iconst 2, 1) := by decide +kernel
theorem d7_31 : D7 31 = .ok (.if_icmp .eq 13, 3) := by decide +kernel
theorem d7_44 : D7 44 = .ok (.iconst 0, 1) := by decide +kernel
theorem d7_45 : D7 45 = .ok (.ireturn, 1) := by decide +kernel
theorem d7_34 : D7 34 = .ok (.aload_n 0, 1) := by decide +kernel
theorem d7_35 : D7 35 = .ok (.getfield 40, 3) := by decide +kernel
theorem d7_38 : D7 38 = .ok (.iload_n 2, 1) := by decide +kernel
theorem d7_39 : D7 39 = .ok (.iaload, 1) := by decide +kernel
theorem d7_40 : D7 40 = .ok (.iconst 2, 1) := by decide +kernel
theorem d7_41 : D7 41 = .ok (.if_icmp .ne 5, 3) := by decide +kernel
theorem d7_46 : D7 46 = .ok (.aload_n 0, 1) := by decide +kernel
theorem d7_47 : D7 47 = .ok (.getfield 69, 3) := by decide +kernel
theorem d7_50 : D7 50 = .ok (.iload_n 1, 1) := by decide +kernel
theorem d7_51 : D7 51 = .ok (.iaload, 1) := by decide +kernel
theorem d7_52 : D7 52 = .ok (.istore 4, 2) := by decide +kernel
abbrev lt34 (a0 : Addr) (a1 : Int32) (a2 : Int32) (a3 : Int32) (a4 : Int32) : Array Slot := #[.val (.ref a0), .val (.int a1), .val (.int a2), .val (.int a3), .val (.int a4), .unset, .unset]
theorem d7_54 : D7 54 = .ok (.aload_n 0, 1) := by decide +kernel
theorem d7_55 : D7 55 = .ok (.getfield 69, 3) := by decide +kernel
theorem d7_58 : D7 58 = .ok (.iload_n 2, 1) := by decide +kernel
theorem d7_59 : D7 59 = .ok (.iaload, 1) := by decide +kernel
theorem d7_60 : D7 60 = .ok (.istore 5, 2) := by decide +kernel
abbrev lt35 (a0 : Addr) (a1 : Int32) (a2 : Int32) (a3 : Int32) (a4 : Int32) (a5 : Int32) : Array Slot := #[.val (.ref a0), .val (.int a1), .val (.int a2), .val (.int a3), .val (.int a4), .val (.int a5), .unset]
theorem d7_62 : D7 62 = .ok (.aload_n 0, 1) := by decide +kernel
theorem d7_63 : D7 63 = .ok (.iload_n 1, 1) := by decide +kernel
theorem d7_64 : D7 64 = .ok (.iload_n 2, 1) := by decide +kernel
theorem d7_65 : D7 65 = .ok (.iconst 1, 1) := by decide +kernel
theorem d7_66 : D7 66 = .ok (.invokevirtual 122, 3) := by decide +kernel
theorem d7_69 : D7 69 = .ok (.aload_n 0, 1) := by decide +kernel
theorem d7_70 : D7 70 = .ok (.getfield 40, 3) := by decide +kernel
theorem d7_73 : D7 73 = .ok (.iload_n 1, 1) := by decide +kernel
theorem d7_74 : D7 74 = .ok (.dup2, 1) := by decide +kernel
theorem d7_75 : D7 75 = .ok (.iaload, 1) := by decide +kernel
theorem d7_76 : D7 76 = .ok (.iconst 1, 1) := by decide +kernel
theorem d7_77 : D7 77 = .ok (.iadd, 1) := by decide +kernel
theorem d7_78 : D7 78 = .ok (.iastore, 1) := by decide +kernel
theorem d7_79 : D7 79 = .ok (.aload_n 0, 1) := by decide +kernel
theorem d7_80 : D7 80 = .ok (.getfield 40, 3) := by decide +kernel
theorem d7_83 : D7 83 = .ok (.iload_n 2, 1) := by decide +kernel
theorem d7_84 : D7 84 = .ok (.dup2, 1) := by decide +kernel
theorem d7_85 : D7 85 = .ok (.iaload, 1) := by decide +kernel
theorem d7_86 : D7 86 = .ok (.iconst 1, 1) := by decide +kernel
theorem d7_87 : D7 87 = .ok (.iadd, 1) := by decide +kernel
theorem d7_88 : D7 88 = .ok (.iastore, 1) := by decide +kernel
theorem d7_89 : D7 89 = .ok (.aload_n 0, 1) := by decide +kernel
theorem d7_90 : D7 90 = .ok (.iload_n 1, 1) := by decide +kernel
theorem d7_91 : D7 91 = .ok (.invokevirtual 104, 3) := by decide +kernel
theorem d7_94 : D7 94 = .ok (.aload_n 0, 1) := by decide +kernel
theorem d7_95 : D7 95 = .ok (.iload_n 2, 1) := by decide +kernel
theorem d7_96 : D7 96 = .ok (.invokevirtual 104, 3) := by decide +kernel
theorem d7_99 : D7 99 = .ok (.iload 4, 2) := by decide +kernel
theorem d7_101 : D7 101 = .ok (.iload_n 2, 1) := by decide +kernel
theorem d7_102 : D7 102 = .ok (.if_icmp .ne 5, 3) := by decide +kernel
theorem d7_105 : D7 105 = .ok (.iconst 1, 1) := by decide +kernel
theorem d7_106 : D7 106 = .ok (.ireturn, 1) := by decide +kernel
theorem d7_107 : D7 107 = .ok (.aload_n 0, 1) := by decide +kernel
theorem d7_108 : D7 108 = .ok (.getfield 72, 3) := by decide +kernel
theorem d7_111 : D7 111 = .ok (.iload_n 1, 1) := by decide +kernel
theorem d7_112 : D7 112 = .ok (.iaload, 1) := by decide +kernel
theorem d7_113 : D7 113 = .ok (.aload_n 0, 1) := by decide +kernel
theorem d7_114 : D7 114 = .ok (.getfield 72, 3) := by decide +kernel
theorem d7_117 : D7 117 = .ok (.iload_n 2, 1) := by decide +kernel
theorem d7_118 : D7 118 = .ok (.iaload, 1) := by decide +kernel
theorem d7_119 : D7 119 = .ok (.iadd, 1) := by decide +kernel
theorem d7_120 : D7 120 = .ok (.istore 6, 2) := by decide +kernel
abbrev lt36 (a0 : Addr) (a1 : Int32) (a2 : Int32) (a3 : Int32) (a4 : Int32) (a5 : Int32) (a6 : Int32) : Array Slot := #[.val (.ref a0), .val (.int a1), .val (.int a2), .val (.int a3), .val (.int a4), .val (.int a5), .val (.int a6)]
theorem d7_122 : D7 122 = .ok (.aload_n 0, 1) := by decide +kernel
theorem d7_123 : D7 123 = .ok (.iload 4, 2) := by decide +kernel
theorem d7_125 : D7 125 = .ok (.iload 5, 2) := by decide +kernel
theorem d7_127 : D7 127 = .ok (.iload 6, 2) := by decide +kernel
theorem d7_129 : D7 129 = .ok (.invokevirtual 126, 3) := by decide +kernel
theorem d10_0 : D10 0 = .ok (.aload_n 0, 1) := by decide +kernel
theorem d10_1 : D10 1 = .ok (.getfield 66, 3) := by decide +kernel
theorem d10_4 : D10 4 = .ok (.aload_n 0, 1) := by decide +kernel
theorem d10_5 : D10 5 = .ok (.dup, 1) := by decide +kernel
theorem d10_6 : D10 6 = .ok (.getfield 119, 3) := by decide +kernel
theorem d10_9 : D10 9 = .ok (.dup_x1, 1) := by decide +kernel
theorem d10_10 : D10 10 = .ok (.iconst 1, 1) := by decide +kernel
theorem d10_11 : D10 11 = .ok (.iadd, 1) := by decide +kernel
theorem d10_12 : D10 12 = .ok (.putfield 119, 3) := by decide +kernel
theorem d10_15 : D10 15 = .ok (.aload_n 0, 1) := by decide +kernel
theorem d10_16 : D10 16 = .ok (.getfield 69, 3) := by decide +kernel
theorem d10_19 : D10 19 = .ok (.iload_n 1, 1) := by decide +kernel
theorem d10_20 : D10 20 = .ok (.iaload, 1) := by decide +kernel
theorem d10_21 : D10 21 = .ok (.iastore, 1) := by decide +kernel
theorem d10_22 : D10 22 = .ok (.aload_n 0, 1) := by decide +kernel
theorem d10_23 : D10 23 = .ok (.getfield 66, 3) := by decide +kernel
theorem d10_26 : D10 26 = .ok (.aload_n 0, 1) := by decide +kernel
theorem d10_27 : D10 27 = .ok (.dup, 1) := by decide +kernel
theorem d10_28 : D10 28 = .ok (.getfield 119, 3) := by decide +kernel
theorem d10_31 : D10 31 = .ok (.dup_x1, 1) := by decide +kernel
theorem d10_32 : D10 32 = .ok (.iconst 1, 1) := by decide +kernel
theorem d10_33 : D10 33 = .ok (.iadd, 1) := by decide +kernel
theorem d10_34 : D10 34 = .ok (.putfield 119, 3) := by decide +kernel
theorem d10_37 : D10 37 = .ok (.aload_n 0, 1) := by decide +kernel
theorem d10_38 : D10 38 = .ok (.getfield 72, 3) := by decide +kernel
theorem d10_41 : D10 41 = .ok (.iload_n 1, 1) := by decide +kernel
theorem d10_42 : D10 42 = .ok (.iaload, 1) := by decide +kernel
theorem d10_43 : D10 43 = .ok (.iastore, 1) := by decide +kernel
theorem d10_44 : D10 44 = .ok (.aload_n 0, 1) := by decide +kernel
theorem d10_45 : D10 45 = .ok (.getfield 66, 3) := by decide +kernel
theorem d10_48 : D10 48 = .ok (.aload_n 0, 1) := by decide +kernel
theorem d10_49 : D10 49 = .ok (.dup, 1) := by decide +kernel
theorem d10_50 : D10 50 = .ok (.getfield 119, 3) := by decide +kernel
theorem d10_53 : D10 53 = .ok (.dup_x1, 1) := by decide +kernel
theorem d10_54 : D10 54 = .ok (.iconst 1, 1) := by decide +kernel
theorem d10_55 : D10 55 = .ok (.iadd, 1) := by decide +kernel
theorem d10_56 : D10 56 = .ok (.putfield 119, 3) := by decide +kernel
theorem d10_59 : D10 59 = .ok (.iload_n 1, 1) := by decide +kernel
theorem d10_60 : D10 60 = .ok (.iconst (-1), 1) := by decide +kernel
theorem d10_61 : D10 61 = .ok (.ixor, 1) := by decide +kernel
theorem d10_62 : D10 62 = .ok (.iastore, 1) := by decide +kernel
theorem d10_63 : D10 63 = .ok (.aload_n 0, 1) := by decide +kernel
theorem d10_64 : D10 64 = .ok (.getfield 69, 3) := by decide +kernel
theorem d10_67 : D10 67 = .ok (.iload_n 1, 1) := by decide +kernel
theorem d10_68 : D10 68 = .ok (.iload_n 2, 1) := by decide +kernel
theorem d10_69 : D10 69 = .ok (.iastore, 1) := by decide +kernel
theorem d10_70 : D10 70 = .ok (.aload_n 0, 1) := by decide +kernel
theorem d10_71 : D10 71 = .ok (.getfield 72, 3) := by decide +kernel
theorem d10_74 : D10 74 = .ok (.iload_n 1, 1) := by decide +kernel
theorem d10_75 : D10 75 = .ok (.iload_n 3, 1) := by decide +kernel
theorem d10_76 : D10 76 = .ok (.iastore, 1) := by decide +kernel
theorem d10_77 : D10 77 = .ok (.return_, 1) := by decide +kernel
abbrev Y43 : MethodName := (⟨"com/example/onetree/onetree/EdgeStates", "setPathEnd", "(III)V"⟩ : MethodName)
theorem pd_6 : parseMethodDescriptor "(III)V" = some ⟨[.int, .int, .int], none⟩ := by decide +kernel
theorem d7_132 : D7 132 = .ok (.aload_n 0, 1) := by decide +kernel
theorem d7_133 : D7 133 = .ok (.iload 5, 2) := by decide +kernel
theorem d7_135 : D7 135 = .ok (.iload 4, 2) := by decide +kernel
theorem d7_137 : D7 137 = .ok (.iload 6, 2) := by decide +kernel
theorem d7_139 : D7 139 = .ok (.invokevirtual 126, 3) := by decide +kernel
theorem d7_142 : D7 142 = .ok (.iload 6, 2) := by decide +kernel
theorem d7_144 : D7 144 = .ok (.aload_n 0, 1) := by decide +kernel
theorem d7_145 : D7 145 = .ok (.getfield 22, 3) := by decide +kernel
theorem d7_148 : D7 148 = .ok (.if_icmp .eq 20, 3) := by decide +kernel
theorem d7_168 : D7 168 = .ok (.iconst 1, 1) := by decide +kernel
theorem d7_169 : D7 169 = .ok (.goto 4, 3) := by decide +kernel
theorem d7_173 : D7 173 = .ok (.ireturn, 1) := by decide +kernel
theorem d7_151 : D7 151 = .ok (.iload 6, 2) := by decide +kernel
theorem d7_153 : D7 153 = .ok (.iconst 2, 1) := by decide +kernel
theorem d7_154 : D7 154 = .ok (.if_icmp .eq 14, 3) := by decide +kernel
theorem d7_157 : D7 157 = .ok (.aload_n 0, 1) := by decide +kernel
theorem d7_158 : D7 158 = .ok (.iload 4, 2) := by decide +kernel
theorem d7_160 : D7 160 = .ok (.iload 5, 2) := by decide +kernel
theorem d7_162 : D7 162 = .ok (.invokevirtual 112, 3) := by decide +kernel
theorem d7_165 : D7 165 = .ok (.ifCond .eq 7, 3) := by decide +kernel
theorem d7_172 : D7 172 = .ok (.iconst 0, 1) := by decide +kernel
theorem d7_13 : D7 13 = .ok (.iload_n 3, 1) := by decide +kernel
theorem d7_14 : D7 14 = .ok (.iconst 1, 1) := by decide +kernel
theorem d7_15 : D7 15 = .ok (.if_icmp .ne 7, 3) := by decide +kernel
theorem d7_18 : D7 18 = .ok (.iconst 1, 1) := by decide +kernel
theorem d7_19 : D7 19 = .ok (.goto 4, 3) := by decide +kernel
theorem d7_23 : D7 23 = .ok (.ireturn, 1) := by decide +kernel
theorem d7_22 : D7 22 = .ok (.iconst 0, 1) := by decide +kernel
abbrev Y44 : MethodName := (⟨"com/example/onetree/onetree/EdgeStates", "setForced", "(II)Z"⟩ : MethodName)
theorem d12_94 : D12 94 = .ok (.istore 4, 2) := by decide +kernel
theorem d12_96 : D12 96 = .ok (.iload 4, 2) := by decide +kernel
abbrev lt37 (a0 : Addr) (a1 : Int32) (a2 : Int32) (a3 : Int32) (a4 : Int32) : Array Slot := #[.val (.ref a0), .val (.int a1), .val (.int a2), .val (.int a3), .val (.int a4)]
theorem d12_98 : D12 98 = .ok (.ifCond .ne 5, 3) := by decide +kernel
theorem d12_101 : D12 101 = .ok (.iconst 0, 1) := by decide +kernel
theorem d12_102 : D12 102 = .ok (.ireturn, 1) := by decide +kernel
theorem d12_79 : D12 79 = .ok (.aload_n 0, 1) := by decide +kernel
theorem d12_80 : D12 80 = .ok (.iload_n 1, 1) := by decide +kernel
theorem d12_81 : D12 81 = .ok (.iload_n 3, 1) := by decide +kernel
theorem d12_82 : D12 82 = .ok (.invokevirtual 112, 3) := by decide +kernel
theorem d12_85 : D12 85 = .ok (.goto 9, 3) := by decide +kernel
theorem d12_109 : D12 109 = .ok (.iconst 1, 1) := by decide +kernel
theorem d12_110 : D12 110 = .ok (.ireturn, 1) := by decide +kernel
abbrev Y46 : MethodName := (⟨"com/example/onetree/onetree/EdgeStates", "applyDegreeRules", "(I)Z"⟩ : MethodName)
theorem pd_7 : parseMethodDescriptor "(I)Z" = some ⟨[.int], some .boolean⟩ := by decide +kernel
theorem d11_54 : D11 54 = .ok (.ifCond .ne 9, 3) := by decide +kernel
theorem d11_57 : D11 57 = .ok (.aload_n 0, 1) := by decide +kernel
theorem d11_58 : D11 58 = .ok (.invokevirtual 101, 3) := by decide +kernel
abbrev lt38 (a0 : Addr) : Array Slot := #[.val (.ref a0)]
theorem d21_0 : D21 0 = .ok (.aload_n 0, 1) := by decide +kernel
theorem d21_1 : D21 1 = .ok (.getfield 130, 3) := by decide +kernel
theorem d21_4 : D21 4 = .ok (.ifCond .le 46, 3) := by decide +kernel
theorem d21_7 : D21 7 = .ok (.aload_n 0, 1) := by decide +kernel
theorem d21_8 : D21 8 = .ok (.getfield 78, 3) := by decide +kernel
theorem d21_11 : D21 11 = .ok (.aload_n 0, 1) := by decide +kernel
theorem d21_12 : D21 12 = .ok (.getfield 75, 3) := by decide +kernel
theorem d21_15 : D21 15 = .ok (.aload_n 0, 1) := by decide +kernel
theorem d21_16 : D21 16 = .ok (.getfield 133, 3) := by decide +kernel
theorem d21_19 : D21 19 = .ok (.iaload, 1) := by decide +kernel
theorem d21_20 : D21 20 = .ok (.iconst 0, 1) := by decide +kernel
theorem d21_21 : D21 21 = .ok (.bastore, 1) := by decide +kernel
theorem d21_22 : D21 22 = .ok (.aload_n 0, 1) := by decide +kernel
theorem d21_23 : D21 23 = .ok (.aload_n 0, 1) := by decide +kernel
theorem d21_24 : D21 24 = .ok (.getfield 133, 3) := by decide +kernel
theorem d21_27 : D21 27 = .ok (.iconst 1, 1) := by decide +kernel
theorem d21_28 : D21 28 = .ok (.iadd, 1) := by decide +kernel
theorem d21_29 : D21 29 = .ok (.aload_n 0, 1) := by decide +kernel
theorem d21_30 : D21 30 = .ok (.getfield 22, 3) := by decide +kernel
theorem d21_33 : D21 33 = .ok (.irem, 1) := by decide +kernel
theorem d21_34 : D21 34 = .ok (.putfield 133, 3) := by decide +kernel
theorem d21_37 : D21 37 = .ok (.aload_n 0, 1) := by decide +kernel
theorem d21_38 : D21 38 = .ok (.dup, 1) := by decide +kernel
theorem d21_39 : D21 39 = .ok (.getfield 130, 3) := by decide +kernel
theorem d21_42 : D21 42 = .ok (.iconst 1, 1) := by decide +kernel
theorem d21_43 : D21 43 = .ok (.isub, 1) := by decide +kernel
theorem d21_44 : D21 44 = .ok (.putfield 130, 3) := by decide +kernel
theorem d21_47 : D21 47 = .ok (.goto (-47), 3) := by decide +kernel
theorem d21_50 : D21 50 = .ok (.return_, 1) := by decide +kernel
abbrev Y48 : MethodName := (⟨"com/example/onetree/onetree/EdgeStates", "clearPending", "()V"⟩ : MethodName)
theorem pd_8 : parseMethodDescriptor "()V" = some ⟨[], none⟩ := by decide +kernel
theorem d11_61 : D11 61 = .ok (.iconst 0, 1) := by decide +kernel
theorem d11_62 : D11 62 = .ok (.ireturn, 1) := by decide +kernel
theorem d11_63 : D11 63 = .ok (.goto (-63), 3) := by decide +kernel
theorem d11_66 : D11 66 = .ok (.iconst 1, 1) := by decide +kernel
theorem d11_67 : D11 67 = .ok (.ireturn, 1) := by decide +kernel
abbrev Y49 : MethodName := (⟨"com/example/onetree/onetree/EdgeStates", "propagate", "()Z"⟩ : MethodName)
theorem pd_9 : parseMethodDescriptor "()Z" = some ⟨[], some .boolean⟩ := by decide +kernel
theorem d15_13 : D15 13 = .ok (.ifCond .eq 7, 3) := by decide +kernel
theorem d15_16 : D15 16 = .ok (.iconst 1, 1) := by decide +kernel
theorem d15_17 : D15 17 = .ok (.goto 4, 3) := by decide +kernel
abbrev Y50 : MethodName := (⟨"com/example/onetree/onetree/EdgeStates", "remove", "(II)Z"⟩ : MethodName)
theorem d6_0 : D6 0 = .ok (.aload_n 0, 1) := by decide +kernel
theorem d6_1 : D6 1 = .ok (.iload_n 1, 1) := by decide +kernel
theorem d6_2 : D6 2 = .ok (.iload_n 2, 1) := by decide +kernel
theorem d6_3 : D6 3 = .ok (.invokevirtual 98, 3) := by decide +kernel
theorem d6_6 : D6 6 = .ok (.ifCond .eq 14, 3) := by decide +kernel
theorem d6_20 : D6 20 = .ok (.iconst 0, 1) := by decide +kernel
theorem d6_21 : D6 21 = .ok (.ireturn, 1) := by decide +kernel
theorem d6_9 : D6 9 = .ok (.aload_n 0, 1) := by decide +kernel
theorem d6_10 : D6 10 = .ok (.invokevirtual 108, 3) := by decide +kernel
theorem d6_13 : D6 13 = .ok (.ifCond .eq 7, 3) := by decide +kernel
theorem d6_16 : D6 16 = .ok (.iconst 1, 1) := by decide +kernel
theorem d6_17 : D6 17 = .ok (.goto 4, 3) := by decide +kernel
abbrev Y51 : MethodName := (⟨"com/example/onetree/onetree/EdgeStates", "force", "(II)Z"⟩ : MethodName)
theorem d13_0 : D13 0 = .ok (.aload_n 0, 1) := by decide +kernel
theorem d13_1 : D13 1 = .ok (.getfield 119, 3) := by decide +kernel
theorem d13_4 : D13 4 = .ok (.ireturn, 1) := by decide +kernel
abbrev Y52 : MethodName := (⟨"com/example/onetree/onetree/EdgeStates", "mark", "()I"⟩ : MethodName)
theorem pd_10 : parseMethodDescriptor "()I" = some ⟨[], some .int⟩ := by decide +kernel
abbrev lt39 (a0 : Slot) (a1 : Slot) (a2 : Slot) (a3 : Slot) (a4 : Slot) (a5 : Slot) (a6 : Int32) (a7 : Int32) (a8 : Int32) (a9 : Int32) (a10 : Int32) (a11 : Int32) (a12 : Int32) (a13 : Int32) (a14 : Int32) (a15 : Int32) (a16 : Int32) (a17 : Int32) (a18 : Addr) (a19 : Int32) (a20 : Slot) (a21 : Slot) (a22 : Slot) (a23 : Slot) (a24 : Slot) (a25 : Slot) : Array Slot := #[a0, a1, a2, a3, a4, a5, .val (.int a6), .val (.int a7), .val (.int a8), .val (.int a9), .val (.int a10), .val (.int a11), .val (.int a12), .val (.int a13), .val (.int a14), .val (.int a15), .val (.int a16), .val (.int a17), .val (.ref a18), .val (.int a19), a20, a21, a22, a23, a24, a25]
abbrev lt40 (a0 : Slot) (a1 : Slot) (a2 : Slot) (a3 : Slot) (a4 : Slot) (a5 : Slot) (a6 : Int32) (a7 : Int32) (a8 : Int32) (a9 : Slot) (a10 : Slot) (a11 : Int32) (a12 : Int32) (a13 : Int32) (a14 : Int32) (a15 : Int32) (a16 : Slot) (a17 : Int32) (a18 : Addr) (a19 : Int32) (a20 : Slot) (a21 : Slot) (a22 : Slot) (a23 : Slot) (a24 : Slot) (a25 : Slot) : Array Slot := #[a0, a1, a2, a3, a4, a5, .val (.int a6), .val (.int a7), .val (.int a8), a9, a10, .val (.int a11), .val (.int a12), .val (.int a13), .val (.int a14), .val (.int a15), a16, .val (.int a17), .val (.ref a18), .val (.int a19), a20, a21, a22, a23, a24, a25]
abbrev lt41 (a0 : Slot) (a1 : Slot) (a2 : Slot) (a3 : Slot) (a4 : Slot) (a5 : Slot) (a6 : Int32) (a7 : Int32) (a8 : Int32) (a9 : Slot) (a10 : Slot) (a11 : Slot) (a12 : Slot) (a13 : Int32) (a14 : Int32) (a15 : Int32) (a16 : Slot) (a17 : Slot) (a18 : Addr) (a19 : Int32) (a20 : Slot) (a21 : Slot) (a22 : Slot) (a23 : Slot) (a24 : Slot) (a25 : Slot) : Array Slot := #[a0, a1, a2, a3, a4, a5, .val (.int a6), .val (.int a7), .val (.int a8), a9, a10, a11, a12, .val (.int a13), .val (.int a14), .val (.int a15), a16, a17, .val (.ref a18), .val (.int a19), a20, a21, a22, a23, a24, a25]
abbrev lt42 (a0 : Addr) (a1 : Int32) (a2 : Slot) (a3 : Slot) (a4 : Slot) : Array Slot := #[.val (.ref a0), .val (.int a1), a2, a3, a4]
theorem d16_0 : D16 0 = .ok (.aload_n 0, 1) := by decide +kernel
theorem d16_1 : D16 1 = .ok (.getfield 119, 3) := by decide +kernel
theorem d16_4 : D16 4 = .ok (.iload_n 1, 1) := by decide +kernel
theorem d16_5 : D16 5 = .ok (.if_icmp .le 181, 3) := by decide +kernel
theorem d16_8 : D16 8 = .ok (.aload_n 0, 1) := by decide +kernel
theorem d16_9 : D16 9 = .ok (.getfield 66, 3) := by decide +kernel
theorem d16_12 : D16 12 = .ok (.aload_n 0, 1) := by decide +kernel
theorem d16_13 : D16 13 = .ok (.getfield 119, 3) := by decide +kernel
theorem d16_16 : D16 16 = .ok (.iconst 1, 1) := by decide +kernel
theorem d16_17 : D16 17 = .ok (.isub, 1) := by decide +kernel
theorem d16_18 : D16 18 = .ok (.iaload, 1) := by decide +kernel
theorem d16_19 : D16 19 = .ok (.istore_n 2, 1) := by decide +kernel
theorem d16_20 : D16 20 = .ok (.iload_n 2, 1) := by decide +kernel
abbrev lt43 (a0 : Addr) (a1 : Int32) (a2 : Int32) (a3 : Slot) (a4 : Slot) : Array Slot := #[.val (.ref a0), .val (.int a1), .val (.int a2), a3, a4]
theorem d16_21 : D16 21 = .ok (.ifCond .ge 54, 3) := by decide +kernel
theorem d16_24 : D16 24 = .ok (.iload_n 2, 1) := by decide +kernel
theorem d16_25 : D16 25 = .ok (.iconst (-1), 1) := by decide +kernel
theorem d16_26 : D16 26 = .ok (.ixor, 1) := by decide +kernel
theorem d16_27 : D16 27 = .ok (.istore_n 3, 1) := by decide +kernel
theorem d16_28 : D16 28 = .ok (.aload_n 0, 1) := by decide +kernel
theorem d16_29 : D16 29 = .ok (.getfield 69, 3) := by decide +kernel
theorem d16_32 : D16 32 = .ok (.iload_n 3, 1) := by decide +kernel
theorem d16_33 : D16 33 = .ok (.aload_n 0, 1) := by decide +kernel
theorem d16_34 : D16 34 = .ok (.getfield 66, 3) := by decide +kernel
theorem d16_37 : D16 37 = .ok (.aload_n 0, 1) := by decide +kernel
theorem d16_38 : D16 38 = .ok (.getfield 119, 3) := by decide +kernel
theorem d16_41 : D16 41 = .ok (.iconst 3, 1) := by decide +kernel
theorem d16_42 : D16 42 = .ok (.isub, 1) := by decide +kernel
theorem d16_43 : D16 43 = .ok (.iaload, 1) := by decide +kernel
theorem d16_44 : D16 44 = .ok (.iastore, 1) := by decide +kernel
theorem d16_45 : D16 45 = .ok (.aload_n 0, 1) := by decide +kernel
theorem d16_46 : D16 46 = .ok (.getfield 72, 3) := by decide +kernel
theorem d16_49 : D16 49 = .ok (.iload_n 3, 1) := by decide +kernel
theorem d16_50 : D16 50 = .ok (.aload_n 0, 1) := by decide +kernel
theorem d16_51 : D16 51 = .ok (.getfield 66, 3) := by decide +kernel
theorem d16_54 : D16 54 = .ok (.aload_n 0, 1) := by decide +kernel
theorem d16_55 : D16 55 = .ok (.getfield 119, 3) := by decide +kernel
theorem d16_58 : D16 58 = .ok (.iconst 2, 1) := by decide +kernel
theorem d16_59 : D16 59 = .ok (.isub, 1) := by decide +kernel
theorem d16_60 : D16 60 = .ok (.iaload, 1) := by decide +kernel
theorem d16_61 : D16 61 = .ok (.iastore, 1) := by decide +kernel
theorem d16_62 : D16 62 = .ok (.aload_n 0, 1) := by decide +kernel
theorem d16_63 : D16 63 = .ok (.dup, 1) := by decide +kernel
theorem d16_64 : D16 64 = .ok (.getfield 119, 3) := by decide +kernel
theorem d16_67 : D16 67 = .ok (.iconst 3, 1) := by decide +kernel
theorem d16_68 : D16 68 = .ok (.isub, 1) := by decide +kernel
theorem d16_69 : D16 69 = .ok (.putfield 119, 3) := by decide +kernel
theorem d16_72 : D16 72 = .ok (.goto (-72), 3) := by decide +kernel
theorem d16_75 : D16 75 = .ok (.aload_n 0, 1) := by decide +kernel
theorem d16_76 : D16 76 = .ok (.getfield 66, 3) := by decide +kernel
theorem d16_79 : D16 79 = .ok (.aload_n 0, 1) := by decide +kernel
theorem d16_80 : D16 80 = .ok (.getfield 119, 3) := by decide +kernel
theorem d16_83 : D16 83 = .ok (.iconst 2, 1) := by decide +kernel
theorem d16_84 : D16 84 = .ok (.isub, 1) := by decide +kernel
theorem d16_85 : D16 85 = .ok (.iaload, 1) := by decide +kernel
theorem d16_86 : D16 86 = .ok (.istore_n 3, 1) := by decide +kernel
theorem d16_87 : D16 87 = .ok (.iload_n 2, 1) := by decide +kernel
theorem d16_88 : D16 88 = .ok (.istore 4, 2) := by decide +kernel
theorem d16_90 : D16 90 = .ok (.aload_n 0, 1) := by decide +kernel
theorem d16_91 : D16 91 = .ok (.dup, 1) := by decide +kernel
theorem d16_92 : D16 92 = .ok (.getfield 119, 3) := by decide +kernel
theorem d16_95 : D16 95 = .ok (.iconst 2, 1) := by decide +kernel
theorem d16_96 : D16 96 = .ok (.isub, 1) := by decide +kernel
theorem d16_97 : D16 97 = .ok (.putfield 119, 3) := by decide +kernel
theorem d16_100 : D16 100 = .ok (.aload_n 0, 1) := by decide +kernel
theorem d16_101 : D16 101 = .ok (.iconst 0, 1) := by decide +kernel
theorem d16_102 : D16 102 = .ok (.putfield 115, 3) := by decide +kernel
theorem d16_105 : D16 105 = .ok (.aload_n 0, 1) := by decide +kernel
theorem d16_106 : D16 106 = .ok (.getfield 37, 3) := by decide +kernel
theorem d16_109 : D16 109 = .ok (.iload_n 3, 1) := by decide +kernel
theorem d16_110 : D16 110 = .ok (.aaload, 1) := by decide +kernel
theorem d16_111 : D16 111 = .ok (.iload 4, 2) := by decide +kernel
theorem d16_113 : D16 113 = .ok (.baload, 1) := by decide +kernel
theorem d16_114 : D16 114 = .ok (.iconst 1, 1) := by decide +kernel
theorem d16_115 : D16 115 = .ok (.if_icmp .ne 27, 3) := by decide +kernel
theorem d16_118 : D16 118 = .ok (.aload_n 0, 1) := by decide +kernel
theorem d16_119 : D16 119 = .ok (.getfield 40, 3) := by decide +kernel
theorem d16_122 : D16 122 = .ok (.iload_n 3, 1) := by decide +kernel
theorem d16_123 : D16 123 = .ok (.dup2, 1) := by decide +kernel
theorem d16_124 : D16 124 = .ok (.iaload, 1) := by decide +kernel
theorem d16_125 : D16 125 = .ok (.iconst 1, 1) := by decide +kernel
theorem d16_126 : D16 126 = .ok (.isub, 1) := by decide +kernel
theorem d16_127 : D16 127 = .ok (.iastore, 1) := by decide +kernel
theorem d16_128 : D16 128 = .ok (.aload_n 0, 1) := by decide +kernel
theorem d16_129 : D16 129 = .ok (.getfield 40, 3) := by decide +kernel
theorem d16_132 : D16 132 = .ok (.iload 4, 2) := by decide +kernel
theorem d16_134 : D16 134 = .ok (.dup2, 1) := by decide +kernel
theorem d16_135 : D16 135 = .ok (.iaload, 1) := by decide +kernel
theorem d16_136 : D16 136 = .ok (.iconst 1, 1) := by decide +kernel
theorem d16_137 : D16 137 = .ok (.isub, 1) := by decide +kernel
theorem d16_138 : D16 138 = .ok (.iastore, 1) := by decide +kernel
theorem d16_139 : D16 139 = .ok (.goto 24, 3) := by decide +kernel
theorem d16_163 : D16 163 = .ok (.aload_n 0, 1) := by decide +kernel
theorem d16_164 : D16 164 = .ok (.getfield 37, 3) := by decide +kernel
theorem d16_167 : D16 167 = .ok (.iload_n 3, 1) := by decide +kernel
theorem d16_168 : D16 168 = .ok (.aaload, 1) := by decide +kernel
theorem d16_169 : D16 169 = .ok (.iload 4, 2) := by decide +kernel
theorem d16_171 : D16 171 = .ok (.iconst 0, 1) := by decide +kernel
theorem d16_172 : D16 172 = .ok (.bastore, 1) := by decide +kernel
theorem d16_173 : D16 173 = .ok (.aload_n 0, 1) := by decide +kernel
theorem d16_174 : D16 174 = .ok (.getfield 37, 3) := by decide +kernel
theorem d16_177 : D16 177 = .ok (.iload 4, 2) := by decide +kernel
theorem d16_179 : D16 179 = .ok (.aaload, 1) := by decide +kernel
theorem d16_180 : D16 180 = .ok (.iload_n 3, 1) := by decide +kernel
theorem d16_181 : D16 181 = .ok (.iconst 0, 1) := by decide +kernel
theorem d16_182 : D16 182 = .ok (.bastore, 1) := by decide +kernel
theorem d16_183 : D16 183 = .ok (.goto (-183), 3) := by decide +kernel
theorem d16_142 : D16 142 = .ok (.aload_n 0, 1) := by decide +kernel
theorem d16_143 : D16 143 = .ok (.getfield 43, 3) := by decide +kernel
theorem d16_146 : D16 146 = .ok (.iload_n 3, 1) := by decide +kernel
theorem d16_147 : D16 147 = .ok (.dup2, 1) := by decide +kernel
theorem d16_148 : D16 148 = .ok (.iaload, 1) := by decide +kernel
theorem d16_149 : D16 149 = .ok (.iconst 1, 1) := by decide +kernel
theorem d16_150 : D16 150 = .ok (.iadd, 1) := by decide +kernel
theorem d16_151 : D16 151 = .ok (.iastore, 1) := by decide +kernel
theorem d16_152 : D16 152 = .ok (.aload_n 0, 1) := by decide +kernel
theorem d16_153 : D16 153 = .ok (.getfield 43, 3) := by decide +kernel
theorem d16_156 : D16 156 = .ok (.iload 4, 2) := by decide +kernel
theorem d16_158 : D16 158 = .ok (.dup2, 1) := by decide +kernel
theorem d16_159 : D16 159 = .ok (.iaload, 1) := by decide +kernel
theorem d16_160 : D16 160 = .ok (.iconst 1, 1) := by decide +kernel
theorem d16_161 : D16 161 = .ok (.iadd, 1) := by decide +kernel
theorem d16_162 : D16 162 = .ok (.iastore, 1) := by decide +kernel
theorem d16_186 : D16 186 = .ok (.return_, 1) := by decide +kernel
abbrev Y58 : MethodName := (⟨"com/example/onetree/onetree/EdgeStates", "undo", "(I)V"⟩ : MethodName)
abbrev lt44 (a0 : Slot) (a1 : Slot) (a2 : Slot) (a3 : Slot) (a4 : Slot) (a5 : Slot) (a6 : Int32) (a7 : Int32) (a8 : Int32) (a9 : Slot) (a10 : Slot) (a11 : Slot) (a12 : Slot) (a13 : Int32) (a14 : Int32) (a15 : Int32) (a16 : Slot) (a17 : Slot) (a18 : Addr) (a19 : Int32) (a20 : Int32) (a21 : Slot) (a22 : Slot) (a23 : Slot) (a24 : Slot) (a25 : Slot) : Array Slot := #[a0, a1, a2, a3, a4, a5, .val (.int a6), .val (.int a7), .val (.int a8), a9, a10, a11, a12, .val (.int a13), .val (.int a14), .val (.int a15), a16, a17, .val (.ref a18), .val (.int a19), .val (.int a20), a21, a22, a23, a24, a25]
abbrev lt45 (a0 : Slot) (a1 : Slot) (a2 : Slot) (a3 : Slot) (a4 : Slot) (a5 : Slot) (a6 : Int32) (a7 : Int32) (a8 : Int32) (a9 : Slot) (a10 : Slot) (a11 : Slot) (a12 : Slot) (a13 : Int32) (a14 : Int32) (a15 : Int32) (a16 : Slot) (a17 : Slot) (a18 : Addr) (a19 : Int32) (a20 : Int32) (a21 : Int32) (a22 : Slot) (a23 : Slot) (a24 : Slot) (a25 : Slot) : Array Slot := #[a0, a1, a2, a3, a4, a5, .val (.int a6), .val (.int a7), .val (.int a8), a9, a10, a11, a12, .val (.int a13), .val (.int a14), .val (.int a15), a16, a17, .val (.ref a18), .val (.int a19), .val (.int a20), .val (.int a21), a22, a23, a24, a25]
abbrev lt46 (a0 : Slot) (a1 : Slot) (a2 : Slot) (a3 : Slot) (a4 : Slot) (a5 : Slot) (a6 : Int32) (a7 : Int32) (a8 : Int32) (a9 : Slot) (a10 : Slot) (a11 : Slot) (a12 : Slot) (a13 : Int32) (a14 : Int32) (a15 : Int32) (a16 : Slot) (a17 : Slot) (a18 : Addr) (a19 : Int32) (a20 : Int32) (a21 : Int32) (a22 : Int32) (a23 : Slot) (a24 : Slot) (a25 : Slot) : Array Slot := #[a0, a1, a2, a3, a4, a5, .val (.int a6), .val (.int a7), .val (.int a8), a9, a10, a11, a12, .val (.int a13), .val (.int a14), .val (.int a15), a16, a17, .val (.ref a18), .val (.int a19), .val (.int a20), .val (.int a21), .val (.int a22), a23, a24, a25]
abbrev lt47 (a0 : Slot) (a1 : Slot) (a2 : Slot) (a3 : Slot) (a4 : Slot) (a5 : Slot) (a6 : Int32) (a7 : Int32) (a8 : Int32) (a9 : Slot) (a10 : Slot) (a11 : Slot) (a12 : Slot) (a13 : Int32) (a14 : Int32) (a15 : Int32) (a16 : Slot) (a17 : Slot) (a18 : Addr) (a19 : Int32) (a20 : Int32) (a21 : Slot) (a22 : Int32) (a23 : Slot) (a24 : Slot) (a25 : Slot) : Array Slot := #[a0, a1, a2, a3, a4, a5, .val (.int a6), .val (.int a7), .val (.int a8), a9, a10, a11, a12, .val (.int a13), .val (.int a14), .val (.int a15), a16, a17, .val (.ref a18), .val (.int a19), .val (.int a20), a21, .val (.int a22), a23, a24, a25]
abbrev lt48 (a0 : Slot) (a1 : Slot) (a2 : Slot) (a3 : Slot) (a4 : Slot) (a5 : Slot) (a6 : Int32) (a7 : Int32) (a8 : Int32) (a9 : Slot) (a10 : Slot) (a11 : Slot) (a12 : Slot) (a13 : Int32) (a14 : Int32) (a15 : Int32) (a16 : Slot) (a17 : Slot) (a18 : Addr) (a19 : Int32) (a20 : Int32) (a21 : Slot) (a22 : Int32) (a23 : Int32) (a24 : Slot) (a25 : Slot) : Array Slot := #[a0, a1, a2, a3, a4, a5, .val (.int a6), .val (.int a7), .val (.int a8), a9, a10, a11, a12, .val (.int a13), .val (.int a14), .val (.int a15), a16, a17, .val (.ref a18), .val (.int a19), .val (.int a20), a21, .val (.int a22), .val (.int a23), a24, a25]
abbrev lt49 (a0 : Slot) (a1 : Slot) (a2 : Slot) (a3 : Slot) (a4 : Slot) (a5 : Slot) (a6 : Slot) (a7 : Int32) (a8 : Int32) (a9 : Slot) (a10 : Slot) (a11 : Slot) (a12 : Slot) (a13 : Int32) (a14 : Int32) (a15 : Int32) (a16 : Slot) (a17 : Slot) (a18 : Addr) (a19 : Int32) (a20 : Int32) (a21 : Slot) (a22 : Int32) (a23 : Int32) (a24 : Slot) (a25 : Slot) : Array Slot := #[a0, a1, a2, a3, a4, a5, a6, .val (.int a7), .val (.int a8), a9, a10, a11, a12, .val (.int a13), .val (.int a14), .val (.int a15), a16, a17, .val (.ref a18), .val (.int a19), .val (.int a20), a21, .val (.int a22), .val (.int a23), a24, a25]
abbrev lt50 (a0 : Slot) (a1 : Slot) (a2 : Slot) (a3 : Slot) (a4 : Slot) (a5 : Slot) (a6 : Slot) (a7 : Int32) (a8 : Int32) (a9 : Slot) (a10 : Slot) (a11 : Slot) (a12 : Slot) (a13 : Int32) (a14 : Int32) (a15 : Int32) (a16 : Slot) (a17 : Slot) (a18 : Addr) (a19 : Int32) (a20 : Int32) (a21 : Slot) (a22 : Int32) (a23 : Int32) (a24 : Int32) (a25 : Slot) : Array Slot := #[a0, a1, a2, a3, a4, a5, a6, .val (.int a7), .val (.int a8), a9, a10, a11, a12, .val (.int a13), .val (.int a14), .val (.int a15), a16, a17, .val (.ref a18), .val (.int a19), .val (.int a20), a21, .val (.int a22), .val (.int a23), .val (.int a24), a25]
abbrev lt51 (a0 : Slot) (a1 : Slot) (a2 : Slot) (a3 : Slot) (a4 : Slot) (a5 : Slot) (a6 : Slot) (a7 : Int32) (a8 : Int32) (a9 : Slot) (a10 : Slot) (a11 : Slot) (a12 : Slot) (a13 : Int32) (a14 : Int32) (a15 : Int32) (a16 : Slot) (a17 : Slot) (a18 : Addr) (a19 : Int32) (a20 : Slot) (a21 : Slot) (a22 : Int32) (a23 : Int32) (a24 : Int32) (a25 : Slot) : Array Slot := #[a0, a1, a2, a3, a4, a5, a6, .val (.int a7), .val (.int a8), a9, a10, a11, a12, .val (.int a13), .val (.int a14), .val (.int a15), a16, a17, .val (.ref a18), .val (.int a19), a20, a21, .val (.int a22), .val (.int a23), .val (.int a24), a25]
abbrev lt52 (a0 : Slot) (a1 : Slot) (a2 : Slot) (a3 : Slot) (a4 : Slot) (a5 : Slot) (a6 : Slot) (a7 : Int32) (a8 : Int32) (a9 : Slot) (a10 : Slot) (a11 : Slot) (a12 : Slot) (a13 : Int32) (a14 : Int32) (a15 : Int32) (a16 : Slot) (a17 : Slot) (a18 : Addr) (a19 : Int32) (a20 : Slot) (a21 : Slot) (a22 : Int32) (a23 : Int32) (a24 : Int32) (a25 : Int32) : Array Slot := #[a0, a1, a2, a3, a4, a5, a6, .val (.int a7), .val (.int a8), a9, a10, a11, a12, .val (.int a13), .val (.int a14), .val (.int a15), a16, a17, .val (.ref a18), .val (.int a19), a20, a21, .val (.int a22), .val (.int a23), .val (.int a24), .val (.int a25)]
abbrev lt53 (a0 : Slot) (a1 : Slot) (a2 : Slot) (a3 : Slot) (a4 : Slot) (a5 : Slot) (a6 : Slot) (a7 : Slot) (a8 : Slot) (a9 : Slot) (a10 : Slot) (a11 : Slot) (a12 : Slot) (a13 : Int32) (a14 : Int32) (a15 : Slot) (a16 : Slot) (a17 : Slot) (a18 : Addr) (a19 : Int32) (a20 : Slot) (a21 : Slot) (a22 : Int32) (a23 : Int32) (a24 : Int32) (a25 : Int32) : Array Slot := #[a0, a1, a2, a3, a4, a5, a6, a7, a8, a9, a10, a11, a12, .val (.int a13), .val (.int a14), a15, a16, a17, .val (.ref a18), .val (.int a19), a20, a21, .val (.int a22), .val (.int a23), .val (.int a24), .val (.int a25)]
theorem d17_0 : D17 0 = .ok (.aload_n 0, 1) := by decide +kernel
theorem d17_1 : D17 1 = .ok (.getfield 37, 3) := by decide +kernel
theorem d17_4 : D17 4 = .ok (.iload_n 1, 1) := by decide +kernel
theorem d17_5 : D17 5 = .ok (.aaload, 1) := by decide +kernel
theorem d17_6 : D17 6 = .ok (.iload_n 2, 1) := by decide +kernel
theorem d17_7 : D17 7 = .ok (.baload, 1) := by decide +kernel
theorem d17_8 : D17 8 = .ok (.ireturn, 1) := by decide +kernel
abbrev Y69 : MethodName := (⟨"com/example/onetree/onetree/EdgeStates", "state", "(II)B"⟩ : MethodName)
theorem pd_11 : parseMethodDescriptor "(II)B" = some ⟨[.int, .int], some .byte⟩ := by decide +kernel
theorem d18_0 : D18 0 = .ok (.aload_n 0, 1) := by decide +kernel
theorem d18_1 : D18 1 = .ok (.getfield 43, 3) := by decide +kernel
theorem d18_4 : D18 4 = .ok (.iload_n 1, 1) := by decide +kernel
theorem d18_5 : D18 5 = .ok (.iaload, 1) := by decide +kernel
theorem d18_6 : D18 6 = .ok (.ireturn, 1) := by decide +kernel
abbrev Y70 : MethodName := (⟨"com/example/onetree/onetree/EdgeStates", "openDegree", "(I)I"⟩ : MethodName)
theorem pd_12 : parseMethodDescriptor "(I)I" = some ⟨[.int], some .int⟩ := by decide +kernel
theorem d19_0 : D19 0 = .ok (.aload_n 0, 1) := by decide +kernel
theorem d19_1 : D19 1 = .ok (.getfield 40, 3) := by decide +kernel
theorem d19_4 : D19 4 = .ok (.iload_n 1, 1) := by decide +kernel
theorem d19_5 : D19 5 = .ok (.iaload, 1) := by decide +kernel
theorem d19_6 : D19 6 = .ok (.ireturn, 1) := by decide +kernel
abbrev Y71 : MethodName := (⟨"com/example/onetree/onetree/EdgeStates", "forcedDegree", "(I)I"⟩ : MethodName)
theorem d20_0 : D20 0 = .ok (.aload_n 0, 1) := by decide +kernel
theorem d20_1 : D20 1 = .ok (.getfield 69, 3) := by decide +kernel
theorem d20_4 : D20 4 = .ok (.iload_n 1, 1) := by decide +kernel
theorem d20_5 : decode prog_7_method_10_code 5 = .ok (.iaload, 1) := by decide +kernel
theorem d20_6 : D20 6 = .ok (.ireturn, 1) := by decide +kernel
abbrev Y72 : MethodName := (⟨"com/example/onetree/onetree/EdgeStates", "otherEnd", "(I)I"⟩ : MethodName)

/-! an EdgeStates object as a list of rows of ints, its arrays by their rows' numbers (own): 0 forcedDegree, 1 openDegree, 2 otherEnd, 3 pathSize, 4 pending, 5 isPending, 6 trail, 7 listStart, 8 neighbours, 9 trailSize, 10 listed, 11 pendingHead, 12 pendingCount, 13 an array of the law's own, 14 + a: the states of city a. What is reckoned here is reckoned over Nat where it can be: the kernel is to run it. -/
abbrev MM := List (List Int32)
def getN {α : Type} (d : α) (n : Nat) : List α → α := Nat.rec (motive := fun _ => List α → α) (fun l => match l with | [] => d | a :: _ => a) (fun _ ih l => match l with | [] => d | _ :: t => ih t) n
def setN {α : Type} (v : α) (n : Nat) : List α → List α := Nat.rec (motive := fun _ => List α → List α) (fun l => match l with | [] => [] | _ :: t => v :: t) (fun _ ih l => match l with | [] => [] | a :: t => a :: ih t) n
theorem getN_eq {α : Type} (d : α) : ∀ (n : Nat) (l : List α), getN d n l = l.getD n d
  | 0, [] => rfl
  | 0, _ :: _ => rfl
  | _ + 1, [] => rfl
  | n + 1, _ :: t => getN_eq d n t
theorem setN_eq {α : Type} (v : α) : ∀ (n : Nat) (l : List α), setN v n l = l.set n v
  | 0, [] => rfl
  | 0, _ :: _ => rfl
  | _ + 1, [] => rfl
  | n + 1, a :: t => congrArg (a :: ·) (setN_eq v n t)
def ix (j : Int32) : Nat := j.toBitVec.toNat
def ld (M : MM) (r j : Nat) : Int32 := getN 0 j (getN [] r M)
def sto (M : MM) (r j : Nat) (v : Int32) : MM := setN (setN v j (getN [] r M)) r M
theorem ld_eq (M : MM) (r j : Nat) : ld M r j = (M.getD r []).getD j 0 := by unfold ld; rw [getN_eq, getN_eq]
theorem sto_eq (M : MM) (r j : Nat) (v : Int32) : sto M r j v = M.set r ((M.getD r []).set j v) := by unfold sto; rw [getN_eq, setN_eq, setN_eq]
def gd {α : Type} (b : Bool) (o : Option α) : Option α := match b with | true => o | false => none
def cnd {α : Type} (b : Bool) (o u : Option α) : Option α := match b with | true => o | false => u
def bnd {α β : Type} (o : Option (β × MM)) (k : β → MM → Option α) : Option α := match o with | none => none | some (v, m) => k v m
def inr (j : Int32) (n : Nat) : Bool := Nat.blt j.toBitVec.toNat n
def eqB (a b : Int32) : Bool := Nat.beq a.toBitVec.toNat b.toBitVec.toNat
def ltB (a b : Int32) : Bool := Nat.blt ((a.toBitVec.toNat + 2147483648) % 4294967296) ((b.toBitVec.toNat + 2147483648) % 4294967296)
theorem own_nat32 (a : Int32) : a.toInt = (((a.toBitVec.toNat + 2147483648) % 4294967296 : Nat) : Int) - 2147483648 := by
  have h := BitVec.toInt_eq_toNat_cond a.toBitVec
  have e : a.toBitVec.toInt = a.toInt := rfl
  have l : a.toBitVec.toNat < 4294967296 := a.toBitVec.isLt
  rw [e] at h
  split at h <;> omega
theorem own_eqT {α : Type} {a b : Int32} {o u : Option α} (h : a = b) : cnd (eqB a b) o u = o := by
  subst h; rw [show eqB a a = true from Nat.beq_refl _]; rfl
theorem own_eqF {α : Type} {a b : Int32} {o u : Option α} (h : ¬ a = b) : cnd (eqB a b) o u = u := by
  have : eqB a b = false := by
    rcases Bool.eq_false_or_eq_true (eqB a b) with q | q
    · exact absurd (Int32.toBitVec_inj.mp (BitVec.eq_of_toNat_eq (Nat.eq_of_beq_eq_true q))) h
    · exact q
  rw [this]; rfl
theorem own_ltT {α : Type} {a b : Int32} {o u : Option α} (h : a < b) : cnd (ltB a b) o u = o := by
  have : ltB a b = true := by
    rw [Int32.lt_iff_toInt_lt, own_nat32 a, own_nat32 b] at h
    exact Nat.ble_eq_true_of_le (by omega)
  rw [this]; rfl
theorem own_ltF {α : Type} {a b : Int32} {o u : Option α} (h : ¬ a < b) : cnd (ltB a b) o u = u := by
  have : ltB a b = false := by
    rcases Bool.eq_false_or_eq_true (ltB a b) with q | q
    · have := Nat.le_of_ble_eq_true q
      exact absurd (Int32.lt_iff_toInt_lt.mpr (by rw [own_nat32 a, own_nat32 b]; omega)) h
    · exact q
  rw [this]; rfl
theorem own_gd {α : Type} {b : Bool} {o : Option α} {z : α} (h : gd b o = some z) : b = true ∧ o = some z := by
  cases b with
  | true => exact ⟨rfl, h⟩
  | false => cases h
theorem own_bnd {α β : Type} {o : Option (β × MM)} {k : β → MM → Option α} {z : α} (h : bnd o k = some z) : ∃ v m, o = some (v, m) ∧ k v m = some z := by
  cases o with
  | none => cases h
  | some p => exact ⟨p.1, p.2, rfl, h⟩
def nam {α : Type} (M : MM) (k : MM → Option α) : Option α := k M
def nai {α : Type} (v : Int32) (k : Int32 → Option α) : Option α := k v
theorem own_nam {α : Type} {M : MM} {k : MM → Option α} {z : α} (h : nam M k = some z) : ∃ M', M' = M ∧ k M' = some z := ⟨M, rfl, h⟩
theorem own_nai {α : Type} {v : Int32} {k : Int32 → Option α} {z : α} (h : nai v k = some z) : ∃ v', v' = v ∧ k v' = some z := ⟨v, rfl, h⟩
theorem own_ret {a b : Int32} {m n : MM} (h : some (a, m) = some (b, n)) : a = b ∧ m = n := by cases h; exact ⟨rfl, rfl⟩
theorem own_inr {j : Int32} {n : Nat} (h : inr j n = true) (hn : n ≤ 1000000) : ¬ j < 0 ∧ j.toNatClampNeg < n ∧ j.toNatClampNeg = ix j := by
  have h : j.toBitVec.toNat + 1 ≤ n := Nat.le_of_ble_eq_true h
  have e := own_nat32 j
  have z : (0 : Int32).toInt = 0 := rfl
  have q : j.toInt = (j.toBitVec.toNat : Int) := by omega
  refine ⟨fun g => ?_, ?_, ?_⟩
  · rw [Int32.lt_iff_toInt_lt] at g; omega
  · simp only [Int32.toNatClampNeg]; omega
  · simp only [Int32.toNatClampNeg, ix]; omega
theorem own_gset (M : MM) (r s : Nat) (L : List Int32) : (M.set r L).getD s [] = if s = r ∧ r < M.length then L else M.getD s [] := by
  simp only [List.getD_eq_getElem?_getD, List.getElem?_set]
  by_cases e : r = s
  · subst e
    by_cases q : r < M.length
    · simp [q]
    · simp [q]
  · have e' : ¬ s = r := fun z => e z.symm
    simp [e, e']
theorem own_gsetN {M : MM} {r s : Nat} {L : List Int32} (h : s ≠ r) : (M.set r L).getD s [] = M.getD s [] := by rw [own_gset, if_neg (fun z => h z.1)]
theorem own_lset (L : List Int32) (i j : Nat) (v : Int32) (hi : i < L.length) : (L.set i v).getD j 0 = if j = i then v else L.getD j 0 := by
  simp only [List.getD_eq_getElem?_getD, List.getElem?_set]
  by_cases e : i = j
  · subst e; simp [hi]
  · have e' : ¬ j = i := fun z => e z.symm
    simp [e, e']
abbrev EC : String := "com/example/onetree/onetree/EdgeStates"
def tyR (r : Nat) : FieldType := if r = 5 then .boolean else if r < 14 then .int else .byte
def lnR (nc : Nat) (r : Nat) : Nat := match r with | 6 => nc * (nc - 1) + 6 * nc | 7 => nc + 1 | 8 => nc * (nc - 1) | 13 => 3 | _ => nc
def isA (ex : Bool) (nc : Nat) (r : Nat) : Prop := r < 9 ∨ (r = 13 ∧ ex = true) ∨ (14 ≤ r ∧ r < 14 + nc)
def Ari (Z : State) (h : Heap) (a : Addr) (k : ClassId) (ty : FieldType) (n : Nat) (L : List Int32) : Prop := ∃ c : Cell, Arr Z h a c ty ∧ c.cls = k ∧ c.slots.size = n ∧ (∀ i, i < c.slots.size → c.slots[i]? = some (.int (L.getD i 0))) ∧ (∀ i, i < c.slots.size → fits ty (.int (L.getD i 0)) = true) ∧ L.length = c.slots.size
def frefs (A : Nat → Addr) (S0 : Addr) (nc : Nat) : List (String × String × Value) := [("cities", "I", .int (Int32.ofNat nc)), ("states", "[[B", .ref S0), ("forcedDegree", "[I", .ref (A 0)), ("openDegree", "[I", .ref (A 1)), ("otherEnd", "[I", .ref (A 2)), ("pathSize", "[I", .ref (A 3)), ("pending", "[I", .ref (A 4)), ("isPending", "[Z", .ref (A 5)), ("trail", "[I", .ref (A 6)), ("listStart", "[I", .ref (A 7)), ("neighbours", "[I", .ref (A 8))]
def scal : List (String × String × Nat) := [("trailSize", "I", 9), ("listed", "Z", 10), ("pendingHead", "I", 11), ("pendingCount", "I", 12)]
def nmsE : List (String × String) := [("cities", "I"), ("states", "[[B"), ("forcedDegree", "[I"), ("openDegree", "[I"), ("otherEnd", "[I"), ("pathSize", "[I"), ("pending", "[I"), ("isPending", "[Z"), ("trail", "[I"), ("listStart", "[I"), ("neighbours", "[I"), ("trailSize", "I"), ("listed", "Z"), ("pendingHead", "I"), ("pendingCount", "I")]
def SlotsOK (Z : State) : Prop := ∀ p ∈ nmsE, ∀ q ∈ nmsE, p.1 ≠ q.1 → Jvm.RoadKit.slotOf Z EC p.1 p.2 ≠ Jvm.RoadKit.slotOf Z EC q.1 q.2
def EB (Z : State) (n0 : Nat) (ex : Bool) (h : Heap) (x : Addr) (A : Nat → Addr) (K : Nat → ClassId) (S0 : Addr) (nc : Nat) (M : MM) : Prop :=
  Exa Z h x EC ∧ (∀ r, isA ex nc r → Ari Z h (A r) (K r) (tyR r) (lnR nc r) (M.getD r [])) ∧ (∀ p ∈ frefs A S0 nc, Fld Z h x EC p.1 p.2.1 p.2.2) ∧ (∀ p ∈ scal, Fld Z h x EC p.1 p.2.1 (.int (ld M p.2.2 0)) ∧ (M.getD p.2.2 []).length = 1) ∧
  (∃ c : Cell, Arr Z h S0 c (.array .byte) ∧ c.slots.size = nc ∧ ∀ i, i < c.slots.size → c.slots[i]? = some (.ref (A (14 + i)))) ∧ (∀ r s, isA ex nc r → isA ex nc s → A r = A s → r = s) ∧ (∀ r, isA ex nc r → A r ≠ x ∧ A r ≠ S0 ∧ n0 ≤ A r) ∧ n0 ≤ x ∧ S0 ≠ x ∧ 14 + nc ≤ M.length ∧ 0 < nc ∧ nc ≤ 100
section EB
variable {Z : State} {n0 : Nat} {ex : Bool} {h h' : Heap} {x : Addr} {A : Nat → Addr} {K : Nat → ClassId} {S0 : Addr} {nc : Nat} {M : MM} {v w : Int32} {sl : Nat} {j : Int32} {b : Addr} {ws : List Addr}
theorem own_lnR (hn : nc ≤ 100) (r : Nat) : lnR nc r ≤ 1000000 := by
  have h1 : nc * (nc - 1) ≤ 100 * 100 := Nat.mul_le_mul hn (by omega)
  unfold lnR
  split <;> omega
theorem own_lnS (k : Nat) : lnR nc (14 + k) = nc := by
  unfold lnR
  split <;> first | rfl | omega
theorem Ari.other {a : Addr} {k : ClassId} {ty : FieldType} {n : Nat} {L : List Int32} {u : Value} (F : Ari Z h b k ty n L) (W : Wr h h' a sl u) (q : b ≠ a) : Ari Z h' b k ty n L := by obtain ⟨c, A, r⟩ := F; exact ⟨c, A.other W q, r⟩
theorem Ari.ext {k : ClassId} {ty : FieldType} {n : Nat} {L : List Int32} (F : Ari Z h b k ty n L) (E : Ext h h') : Ari Z h' b k ty n L := by obtain ⟨c, A, r⟩ := F; exact ⟨c, A.ext E, r⟩
theorem Ari.set {k : ClassId} {ty : FieldType} {n : Nat} {L : List Int32} {i : Nat} (F : Ari Z h b k ty n L) (W : Wr h h' b i (.int v)) (hi : i < n) (hv : fits ty (.int v) = true) : Ari Z h' b k ty n (L.set i v) := by
  obtain ⟨c, A, r1, r2, H, G, r5⟩ := F
  refine ⟨_, A.same W, r1, by rw [sz_set]; exact r2, fun y hy => ?_, fun y hy => ?_, by rw [List.length_set, r5, sz_set]⟩
  · rw [sz_set] at hy
    rw [own_lset L i y v (by omega)]
    split
    · rename_i e; subst e; simp [Cell.setSlot, hy]
    · rename_i e; simp only [Cell.setSlot]; rw [Array.getElem?_setIfInBounds_ne (Ne.symm e)]; exact H y hy
  · rw [sz_set] at hy
    rw [own_lset L i y v (by omega)]
    split
    · exact hv
    · exact G y hy
theorem EB.exa (B : EB Z n0 ex h x A K S0 nc M) : Exa Z h x EC := B.1
theorem EB.fld (B : EB Z n0 ex h x A K S0 nc M) (i : Nat) {p : String × String × Value} (hp : (frefs A S0 nc)[i]? = some p) : Fld Z h x EC p.1 p.2.1 p.2.2 := B.2.2.1 p (List.mem_of_getElem? hp)
theorem EB.sca (B : EB Z n0 ex h x A K S0 nc M) (i : Nat) {p : String × String × Nat} (hp : scal[i]? = some p) : Fld Z h x EC p.1 p.2.1 (.int (ld M p.2.2 0)) := (B.2.2.2.1 p (List.mem_of_getElem? hp)).1
theorem EB.old (B : EB Z n0 ex h x A K S0 nc M) (r : Nat) (hr : isA ex nc r) : n0 ≤ A r := (B.2.2.2.2.2.2.1 r hr).2.2
theorem EB.oldx (B : EB Z n0 ex h x A K S0 nc M) : n0 ≤ x := B.2.2.2.2.2.2.2.1
theorem EB.ncs (B : EB Z n0 ex h x A K S0 nc M) : 0 < nc ∧ nc ≤ 100 := B.2.2.2.2.2.2.2.2.2.2
theorem EB.ncz (B : EB Z n0 ex h x A K S0 nc M) : ¬ Int32.ofNat nc = 0 := fun e => by
  have := B.ncs
  have e := congrArg (fun z : Int32 => z.toBitVec.toNat) e
  simp at e
  omega
theorem EB.isS (B : EB Z n0 ex h x A K S0 nc M) (g : inr j nc = true) : isA ex nc (14 + ix j) := by
  have := B.ncs
  have g : j.toBitVec.toNat + 1 ≤ nc := Nat.le_of_ble_eq_true g
  refine Or.inr (Or.inr ⟨by omega, ?_⟩)
  simp only [ix]; omega
theorem EB.get (B : EB Z n0 ex h x A K S0 nc M) (r : Nat) (hr : isA ex nc r) (g : inr j (lnR nc r) = true) (e : v = ld M r (ix j)) : ∃ c : Cell, Arr Z h (A r) c (tyR r) ∧ ¬ (j < 0 ∨ c.slots.size ≤ j.toNatClampNeg) ∧ c.slots[j.toNatClampNeg]? = some (.int v) := by
  obtain ⟨c, R, -, r2, H, -, -⟩ := B.2.1 r hr
  obtain ⟨q1, q2, q3⟩ := own_inr g (own_lnR B.ncs.2 r)
  refine ⟨c, R, fun z => z.elim q1 fun y => by omega, ?_⟩
  rw [H _ (by omega), e, ld_eq, q3]
theorem EB.at (B : EB Z n0 ex h x A K S0 nc M) (r : Nat) (hr : isA ex nc r) (g : inr j (lnR nc r) = true) : ∃ c : Cell, Arr Z h (A r) c (tyR r) ∧ ¬ (j < 0 ∨ c.slots.size ≤ j.toNatClampNeg) := by
  obtain ⟨c, R, q, -⟩ := B.get r hr g rfl
  exact ⟨c, R, q⟩
theorem EB.getS (B : EB Z n0 ex h x A K S0 nc M) (g : inr j nc = true) : ∃ c : Cell, Arr Z h S0 c (.array .byte) ∧ ¬ (j < 0 ∨ c.slots.size ≤ j.toNatClampNeg) ∧ c.slots[j.toNatClampNeg]? = some (.ref (A (14 + ix j))) := by
  obtain ⟨c, R, r2, H⟩ := B.2.2.2.2.1
  obtain ⟨q1, q2, q3⟩ := own_inr g (by have := B.ncs; omega)
  refine ⟨c, R, fun z => z.elim q1 fun y => by omega, ?_⟩
  rw [H _ (by omega), q3]
theorem EB.ext (B : EB Z n0 ex h x A K S0 nc M) (E : Ext h h') : EB Z n0 ex h' x A K S0 nc M := by
  obtain ⟨b1, b2, b3, b4, ⟨c, c1, c2, c3⟩, r⟩ := B
  exact ⟨b1.ext E, fun r hr => (b2 r hr).ext E, fun p hp => (b3 p hp).ext E, fun p hp => ⟨(b4 p hp).1.ext E, (b4 p hp).2⟩, ⟨c, c1.ext E, c2, c3⟩, r⟩
theorem own_isn {r : Nat} (hr : isA ex nc r) (hl : 14 + nc ≤ M.length) : r < M.length ∧ ∀ p ∈ scal, p.2.2 ≠ r := by
  refine ⟨by rcases hr with q | ⟨q, -⟩ | ⟨q1, q2⟩ <;> omega, fun p hp e => ?_⟩
  have key : ∀ p ∈ scal, 9 ≤ p.2.2 ∧ p.2.2 < 13 := by decide +kernel
  have := key p hp
  rcases hr with q | ⟨q, -⟩ | ⟨q1, q2⟩ <;> omega
theorem EB.wr (B : EB Z n0 ex h x A K S0 nc M) (r : Nat) (hr : isA ex nc r) (g : inr j (lnR nc r) = true) (W : Wr h h' (A r) j.toNatClampNeg (.int v)) (hv : fits (tyR r) (.int v) = true) : EB Z n0 ex h' x A K S0 nc (sto M r (ix j) v) := by
  obtain ⟨q1, q2, q3⟩ := own_inr g (own_lnR B.ncs.2 r)
  rw [q3] at W q2
  obtain ⟨b1, b2, b3, b4, ⟨c, c1, c2, c3⟩, b6, b7, b8, b9, b10, b11⟩ := B
  obtain ⟨hrl, hr9⟩ := own_isn hr b10
  rw [sto_eq]
  refine ⟨b1.wr W, fun s hs => ?_, fun p hp => (b3 p hp).other W (Or.inl (b7 r hr).1.symm), fun p hp => ?_, ⟨c, c1.other W (b7 r hr).2.1.symm, c2, c3⟩, b6, b7, b8, b9, by rw [List.length_set]; exact b10, b11⟩
  · by_cases e : s = r
    · subst e
      rw [own_gset, if_pos ⟨rfl, hrl⟩]
      exact (b2 s hs).set W q2 hv
    · rw [own_gsetN e]
      exact (b2 s hs).other W fun z => e (b6 s r hs hr z)
  · rw [ld_eq, own_gsetN (hr9 p hp), ← ld_eq]
    exact ⟨(b4 p hp).1.other W (Or.inl (b7 r hr).1.symm), (b4 p hp).2⟩
theorem own_S {a b c d : String} (S : SlotsOK Z) (h1 : (a, b) ∈ nmsE) (h2 : (c, d) ∈ nmsE) (hn : a ≠ c) : Jvm.RoadKit.slotOf Z EC a b ≠ Jvm.RoadKit.slotOf Z EC c d := S (a, b) h1 (c, d) h2 hn
theorem EB.put (B : EB Z n0 ex h x A K S0 nc M) (S : SlotsOK Z) (i : Nat) {p : String × String × Nat} (hp : scal[i]? = some p) (W : Wr h h' x (Jvm.RoadKit.slotOf Z EC p.1 p.2.1) (.int v)) : EB Z n0 ex h' x A K S0 nc (sto M p.2.2 0 v) := by
  have hp := List.mem_of_getElem? hp
  obtain ⟨b1, b2, b3, b4, ⟨c, c1, c2, c3⟩, b6, b7, b8, b9, b10, b11⟩ := B
  have key : ∀ p ∈ scal, (p.1, p.2.1) ∈ nmsE ∧ 9 ≤ p.2.2 ∧ p.2.2 < 13 ∧ ∀ q ∈ scal, p = q ∨ (p.1 ≠ q.1 ∧ p.2.2 ≠ q.2.2) := by decide +kernel
  have keyr : ∀ q ∈ frefs A S0 nc, (q.1, q.2.1) ∈ nmsE ∧ ∀ p ∈ scal, q.1 ≠ p.1 := fun q hq => by
    simp only [frefs, List.mem_cons, List.not_mem_nil, or_false] at hq
    rcases hq with rfl | rfl | rfl | rfl | rfl | rfl | rfl | rfl | rfl | rfl | rfl <;> (dsimp only; exact ⟨by decide +kernel, by decide +kernel⟩)
  obtain ⟨k1, k2, k3, k4⟩ := key p hp
  have hrl : p.2.2 < M.length := by omega
  rw [sto_eq]
  refine ⟨b1.wr W, fun s hs => ?_, fun q hq => (b3 q hq).other W (Or.inr (own_S S (keyr q hq).1 k1 ((keyr q hq).2 p hp))), fun q hq => ?_, ⟨c, c1.other W b9, c2, c3⟩, b6, b7, b8, b9, by rw [List.length_set]; exact b10, b11⟩
  · rw [own_gsetN (Ne.symm ((own_isn hs b10).2 p hp))]
    exact (b2 s hs).other W (b7 s hs).1
  · rcases k4 q hq with e | ⟨e1, e2⟩
    · subst e
      have l1 := (b4 p hp).2
      rw [ld_eq, own_gset, if_pos ⟨rfl, hrl⟩, own_lset _ _ _ _ (by omega), if_pos rfl, List.length_set]
      exact ⟨Fld.same W (b4 p hp).1, l1⟩
    · rw [ld_eq, own_gsetN (Ne.symm e2), ← ld_eq]
      exact ⟨(b4 q hq).1.other W (Or.inr (own_S S (key q hq).1 k1 (Ne.symm e1))), (b4 q hq).2⟩
theorem own_tyS (k : Nat) : tyR (14 + k) = .byte := by unfold tyR; rw [if_neg (by omega), if_neg (by omega)]
theorem own_tyA {a : Addr} {c : Cell} {k : Nat} (R : Arr Z h a c (tyR (14 + k))) : Arr Z h a c .byte := by rw [own_tyS] at R; exact R
theorem own_fitS {k : Nat} {u : Value} (q : fits .byte u = true) : fits (tyR (14 + k)) u = true := by rw [own_tyS]; exact q
theorem own_rwF {n d : String} (e : v = w) (F : Fld Z h x EC n d (.int w)) : Fld Z h x EC n d (.int v) := e ▸ F
theorem own_gS {k : Nat} (g : inr j nc = true) : inr j (lnR nc (14 + k)) = true := by rw [own_lnS]; exact g
def upA {α : Type} (A : Nat → α) (b : α) : Nat → α := fun r => if r = 13 then b else A r
theorem upA_ne {α : Type} {A : Nat → α} {b : α} {r : Nat} (h : r ≠ 13) : upA A b r = A r := if_neg h
theorem EB.alloc {k : ClassId} (B : EB Z n0 false h x A K S0 nc M) (O : Old Z n0 h) (E : Ext h h') (R : Arr Z h' b (newA k .int 3) .int) (g : b = h.size) : EB Z n0 true h' x (upA A b) (upA K k) S0 nc (setN [0, 0, 0] 13 M) := by
  rw [setN_eq]
  obtain ⟨b1, b2, b3, b4, ⟨c, c1, c2, c3⟩, b6, b7, b8, b9, b10, b11⟩ := B
  have old : ∀ r, isA true nc r → r ≠ 13 → isA false nc r := fun r hr e => by
    rcases hr with q | ⟨q, -⟩ | q
    · exact Or.inl q
    · exact absurd q e
    · exact Or.inr (Or.inr q)
  have fresh : ∀ r, isA false nc r → A r ≠ b := fun r hr e => by
    obtain ⟨c', a', -⟩ := b2 r hr
    have := a'.lt
    rw [e, g] at this; exact Nat.lt_irrefl _ this
  refine ⟨b1.ext E, fun r hr => ?_, fun p hp => (b3 p hp).ext E, fun p hp => ?_, ⟨c, c1.ext E, c2, fun i hi => by rw [upA_ne (by omega)]; exact c3 i hi⟩, fun r s hr hs e => ?_, fun r hr => ?_, b8, b9, by rw [List.length_set]; exact b10, b11⟩
  · by_cases q : r = 13
    · subst q
      rw [own_gset, if_pos ⟨rfl, by omega⟩]
      refine ⟨_, R, rfl, by rw [sz_new]; rfl, fun i hi => ?_, fun i hi => rfl, by rw [sz_new]; rfl⟩
      rw [sz_new] at hi
      have hi : i < 3 := hi
      match i, hi with
      | 0, _ => simp [newA, defaultValue]
      | 1, _ => simp [newA, defaultValue]
      | 2, _ => simp [newA, defaultValue]
    · rw [own_gsetN q, upA_ne q, upA_ne q]
      exact (b2 r (old r hr q)).ext E
  · have key : ∀ p ∈ scal, p.2.2 ≠ 13 := by decide +kernel
    rw [ld_eq, own_gsetN (key p hp), ← ld_eq]
    exact ⟨(b4 p hp).1.ext E, (b4 p hp).2⟩
  · by_cases q : r = 13 <;> by_cases q' : s = 13
    · rw [q, q']
    · subst q
      rw [upA_ne q'] at e
      exact absurd e.symm (fresh s (old s hs q'))
    · subst q'
      rw [upA_ne q] at e
      exact absurd e (fresh r (old r hr q))
    · rw [upA_ne q, upA_ne q'] at e
      exact b6 r s (old r hr q) (old s hs q') e
  · by_cases q : r = 13
    · subst q
      show b ≠ x ∧ b ≠ S0 ∧ n0 ≤ b
      obtain ⟨cx, kx, x1, -⟩ := b1
      refine ⟨fun e => ?_, fun e => ?_, g ▸ own_old O⟩
      · have := (Array.getElem?_eq_some_iff.mp x1).1; rw [← e, g] at this; exact Nat.lt_irrefl _ this
      · have := c1.lt; rw [← e, g] at this; exact Nat.lt_irrefl _ this
    · rw [upA_ne q]; exact b7 r (old r hr q)
theorem EB.drop {k : ClassId} (B : EB Z n0 true h x (upA A b) (upA K k) S0 nc M) : EB Z n0 false h x A K S0 nc (setN [] 13 M) := by
  rw [setN_eq]
  obtain ⟨b1, b2, b3, b4, ⟨c, c1, c2, c3⟩, b6, b7, b8, b9, b10, b11⟩ := B
  have up : ∀ r, isA false nc r → isA true nc r ∧ r ≠ 13 := fun r hr => by
    rcases hr with q | ⟨-, q⟩ | q
    · exact ⟨Or.inl q, by omega⟩
    · cases q
    · exact ⟨Or.inr (Or.inr q), by omega⟩
  refine ⟨b1, fun r hr => ?_, b3, fun p hp => ?_, ⟨c, c1, c2, fun i hi => by have := c3 i hi; rwa [upA_ne (by omega)] at this⟩, fun r s hr hs e => ?_, fun r hr => ?_, b8, b9, by rw [List.length_set]; exact b10, b11⟩
  · have := b2 r (up r hr).1
    rw [upA_ne (up r hr).2, upA_ne (up r hr).2] at this
    rw [own_gsetN (up r hr).2]; exact this
  · have key : ∀ p ∈ scal, p.2.2 ≠ 13 := by decide +kernel
    rw [ld_eq, own_gsetN (key p hp), ← ld_eq]
    exact b4 p hp
  · exact b6 r s (up r hr).1 (up s hs).1 (by rw [upA_ne (up r hr).2, upA_ne (up s hs).2]; exact e)
  · have := b7 r (up r hr).1
    rwa [upA_ne (up r hr).2] at this
theorem own_selP {s : State} {args : Array Value} {C : String} {n : Nat} {y : MethodName} (hc : y.cls = C) (wi : (Cond.instantiable C n).before args s = true) (hpriv : s.PrivateAt y) (hinst : (Cond.instanceMethod y).before args s = true) (hy : y.cls ≠ "java/lang/invoke/MethodHandle" ∧ y.cls ≠ "java/lang/invoke/VarHandle") : (Cond.selects y.cls y y).before args s = true := by
  obtain ⟨t, k, g1, g2, -, g4, -⟩ := Cond.instantiable_spec wi
  exact selects_self_of_private (hc ▸ g1) g2 (Bool.or_eq_false_iff.mp g4).1 hpriv hinst hy
def iR (r : Nat) : Nat := if r < 9 then r else r - 5
def rI (i : Nat) : Nat := if i < 9 then i else i + 5
theorem own_ari {a : Addr} {k : ClassId} {ty : FieldType} {z : Int32} {vs : List Value} {d : Value} {n : Nat} (F : Arv Z h a k ty z vs d) (L : List Int32) (hv : vs = L.map Value.int) (hl : L.length = z.toNatClampNeg) (hn : z.toNatClampNeg = n) : Ari Z h a k ty n L := by
  obtain ⟨c, A, r1, r2, -, H, G⟩ := F
  have e : ∀ i, i < c.slots.size → vs.getD i d = .int (L.getD i 0) := fun i hi => by
    have hi' : i < L.length := by rw [hl, ← r2]; exact hi
    subst hv
    simp [List.getD_eq_getElem?_getD, List.getElem?_map, List.getElem?_eq_getElem hi']
  exact ⟨c, A, r1, by rw [r2]; exact hn, fun i hi => by rw [← e i hi]; exact H i hi, fun i hi => by rw [← e i hi]; exact G i hi, by rw [hl, r2]⟩
theorem own_ariH {a : Addr} {k : ClassId} {ty : FieldType} {z : Int32} {n : Nat} (F : Arh Z h a k ty z [] [] (.int (0 : Int32))) (L : List Int32) (hl : L = List.replicate z.toNatClampNeg 0) (hn : z.toNatClampNeg = n) : Ari Z h a k ty n L := by
  obtain ⟨c, A, r1, r2, -, H, G⟩ := F
  have e : ∀ i, getH [] [] (.int 0) i = .int (L.getD i 0) := fun i => by
    subst hl
    simp only [getH, List.getD_eq_getElem?_getD, List.getElem?_replicate]
    split <;> rfl
  exact ⟨c, A, r1, by rw [r2]; exact hn, fun i hi => by rw [← e i]; exact H i hi, fun i hi => by rw [← e i]; exact G i hi, by rw [hl, List.length_replicate, r2]⟩
theorem own_pwget {NL : List Addr} (hP : NL.Pairwise (· ≠ ·)) {i j : Nat} (hi : i < NL.length) (hj : j < NL.length) (e : NL.getD i 0 = NL.getD j 0) : i = j := by
  rw [List.getD_eq_getElem?_getD, List.getD_eq_getElem?_getD, List.getElem?_eq_getElem hi, List.getElem?_eq_getElem hj] at e
  have e : NL[i] = NL[j] := e
  rcases Nat.lt_trichotomy i j with q | q | q
  · exact absurd e (List.pairwise_iff_getElem.mp hP i j hi hj q)
  · exact q
  · exact absurd e.symm (List.pairwise_iff_getElem.mp hP j i hj hi q)
theorem own_mkEB {NL : List Addr} {KL : List ClassId} (hl : NL.length = 9 + nc) (hnc : 0 < nc ∧ nc ≤ 100) (E : Exa Z h x EC) (hA : ∀ i, i < NL.length → Ari Z h (NL.getD i 0) (KL.getD i 0) (tyR (rI i)) (lnR nc (rI i)) (M.getD (rI i) []))
    (hF : ∀ p ∈ frefs (fun r => NL.getD (iR r) 0) S0 nc, Fld Z h x EC p.1 p.2.1 p.2.2) (hS : ∀ p ∈ scal, Fld Z h x EC p.1 p.2.1 (.int (ld M p.2.2 0)) ∧ (M.getD p.2.2 []).length = 1)
    (hT : ∃ c : Cell, Arr Z h S0 c (.array .byte) ∧ c.slots.size = nc ∧ ∀ i, i < c.slots.size → c.slots[i]? = some (.ref (NL.getD (9 + i) 0))) (hP : NL.Pairwise (· ≠ ·)) (hN : ∀ b ∈ NL, b ≠ x ∧ b ≠ S0 ∧ n0 ≤ b) (hx : n0 ≤ x) (h0 : S0 ≠ x) (hM : 14 + nc ≤ M.length) :
    EB Z n0 false h x (fun r => NL.getD (iR r) 0) (fun r => KL.getD (iR r) 0) S0 nc M := by
  have ok : ∀ r, isA false nc r → iR r < NL.length ∧ rI (iR r) = r := fun r hr => by
    unfold iR rI
    rcases hr with q | ⟨-, q⟩ | ⟨q1, q2⟩
    · rw [if_pos q, if_pos q]; exact ⟨by omega, rfl⟩
    · cases q
    · rw [if_neg (by omega), if_neg (by omega)]; omega
  obtain ⟨c, c1, c2, c3⟩ := hT
  refine ⟨E, fun r hr => ?_, hF, hS, ⟨c, c1, c2, fun i hi => ?_⟩, fun r s hr hs e => ?_, fun r hr => ?_, hx, h0, hM, hnc⟩
  · have := hA (iR r) (ok r hr).1
    rw [(ok r hr).2] at this; exact this
  · rw [c3 i hi]
    have : iR (14 + i) = 9 + i := by unfold iR; rw [if_neg (by omega)]; omega
    show _ = some (Value.ref (NL.getD (iR (14 + i)) 0))
    rw [this]
  · have := own_pwget hP (ok r hr).1 (ok s hs).1 e
    rw [← (ok r hr).2, ← (ok s hs).2, this]
  · refine hN _ ?_
    show NL.getD (iR r) 0 ∈ NL
    rw [List.getD_eq_getElem?_getD, List.getElem?_eq_getElem (ok r hr).1]
    exact List.getElem_mem _
theorem own_slots {a0 : Array Value} (H : ∀ p ∈ nmsE, Laid Z a0 EC EC p.1 p.2) : SlotsOK Z := fun p hp q hq hn => by
  have key : ∀ p ∈ nmsE, ∃ t, parseFieldDescriptor p.2 = some t := by
    intro p hp
    simp only [nmsE, List.mem_cons, List.not_mem_nil, or_false] at hp
    rcases hp with rfl | rfl | rfl | rfl | rfl | rfl | rfl | rfl | rfl | rfl | rfl | rfl | rfl | rfl | rfl <;> exact ⟨_, by rfl⟩
  obtain ⟨t, ht⟩ := key p hp
  obtain ⟨t', ht'⟩ := key q hq
  exact slot_ne (H p hp) (H q hq) hn ht ht'
end EB
def nzB (v : Int32) : Bool := !eqB v 0
theorem own_nz {v : Int32} (h : nzB v = true) : ¬ v = 0 := fun e => by rw [e] at h; exact Bool.noConfusion h
def StF (Z : State) : Prop := True
theorem pn_4x1 : plainName "java/util/Arrays" = true := by first | (simp [plainName, overriddenIn]; done) | decide +kernel
theorem ef_4x1 (m : MethodId) (r0 : Addr) : entryFrame m #[(.ref r0), (.int ((5 : Int32) - (1 : Int32)))] 4 = mkF m 0 #[.val (.ref r0), .val (.int ((5 : Int32) - (1 : Int32))), .unset, .unset] [] := by first | (simp [entryFrame, mkF, argsToLocals, Value.category]; done) | rfl
def Q4x1 (Z : State) (r0 : Addr) (k_r0 : ClassId) (h0 : Heap) (n0 : Nat) (v : Option Value) (h : Heap) (L : List Loc) : Prop := v = none ∧ Fr n0 L ∧ Old Z n0 h ∧ Keep h0 h [r0] ∧ Arv Z h r0 k_r0 .int (5 : Int32) [(.int ((5 : Int32) - (1 : Int32))), (.int ((5 : Int32) - (1 : Int32))), (.int ((5 : Int32) - (1 : Int32))), (.int ((5 : Int32) - (1 : Int32))), (.int ((5 : Int32) - (1 : Int32)))] (.int (0 : Int32))
theorem own_ng {a b c : Nat} (h : a < c) (g : b = c) : a ≠ b := Nat.ne_of_lt (Nat.lt_of_lt_of_le h (Nat.le_of_eq g.symm))
theorem own_sn {Z : State} {a0 : Array Value} {C O n d O' n' d' : String} (L : Laid Z a0 C O n d) (L' : Laid Z a0 C O' n' d') (hq : (n != n' && (parseFieldDescriptor d).isSome && (parseFieldDescriptor d').isSome) = true) : Jvm.RoadKit.slotOf Z O n d ≠ Jvm.RoadKit.slotOf Z O' n' d' := by
  rw [Bool.and_eq_true, Bool.and_eq_true] at hq
  obtain ⟨⟨h1, h2⟩, h3⟩ := hq
  obtain ⟨t, e⟩ := Option.isSome_iff_exists.mp h2
  obtain ⟨t', e'⟩ := Option.isSome_iff_exists.mp h3
  exact slot_ne L L' (by simpa using h1) e e'
theorem sRR {Z : State} {a0 : Array Value} (hw : ∀ d ∈ tables_1, d.before a0 Z = true) {C O n d O' n' d' : String} (i j : Nat) (h1 : tables_1[i]? = some (Jvm.Cond.laysFinal C O n d)) (h2 : tables_1[j]? = some (Jvm.Cond.laysFinal C O' n' d')) (hq : (n != n' && (parseFieldDescriptor d).isSome && (parseFieldDescriptor d').isSome) = true) : Jvm.RoadKit.slotOf Z O n d ≠ Jvm.RoadKit.slotOf Z O' n' d' := own_sn (Or.inr (hw _ (tk i h1))) (Or.inr (hw _ (tk j h2))) hq
theorem sLR {Z : State} {a0 : Array Value} (hw : ∀ d ∈ tables_1, d.before a0 Z = true) {C O n d O' n' d' : String} (i j : Nat) (h1 : tables_1[i]? = some (Jvm.Cond.lays C O n d)) (h2 : tables_1[j]? = some (Jvm.Cond.laysFinal C O' n' d')) (hq : (n != n' && (parseFieldDescriptor d).isSome && (parseFieldDescriptor d').isSome) = true) : Jvm.RoadKit.slotOf Z O n d ≠ Jvm.RoadKit.slotOf Z O' n' d' := own_sn (Or.inl (hw _ (tk i h1))) (Or.inr (hw _ (tk j h2))) hq
set_option maxRecDepth 65536 in
set_option maxHeartbeats 40000000 in
theorem rm4x1 (l : Launch) (Z : State) (a0 : Array Value) (hw : ∀ d ∈ tables_1, d.before a0 Z = true) (ws : List Jvm.Cond) (hS : StF Z) (r0 : Addr) (k_r0 : ClassId) (h0 : Heap) (n0 : Nat) (O0 : Old Z n0 h0) (g_r0 : n0 ≤ r0) (V_r0 : Arv Z h0 r0 k_r0 .int (5 : Int32) [(.int (0 : Int32)), (.int (0 : Int32)), (.int (0 : Int32)), (.int (0 : Int32)), (.int (0 : Int32))] (.int (0 : Int32))) :
    MetFree l Y20 (head1 (Jvm.Cond.code Y20 jdk_65_method_103_code 4 none :: ws) ({ frames := 0, cells := 0, slots := 0, locals := 0 } : Room)) (fun a U => a = #[(.ref r0), (.int ((5 : Int32) - (1 : Int32)))] ∧ Z.Warmed39 U.vm ∧ U.heap = h0) (fun _ _ _ _ _ => True) (fun _ U o U' => ∃ v L, o = .returned v ∧ Q4x1 Z r0 k_r0 h0 n0 v U'.heap L ∧ FrameEnd U o U' L ({ frames := 0, cells := 0, slots := 0, locals := 0 } : Room).cells ({ frames := 0, cells := 0, slots := 0, locals := 0 } : Room).slots) := by
  refine MetFree.of_bodySF (plainFor_of_name pn_4x1) hisR ?_
  intro p e s m args below meth c s₁ Bd hml0 hP hK
  obtain ⟨rfl, hZ, hh⟩ := hP
  have hx := Bd.exec
  have hby := Bd.bytes
  have hml : c.maxLocals = 4 := hml0
  have hown : s.vm.findClass "java/util/Arrays" = some m.cls := findClass_of_methodNamed Bd.named
  have hnm := (name_of_methodNamed Bd.named Bd.method).1
  have X0 : Stand p l e ({ frames := 0, cells := 0, slots := 0, locals := 0 } : Room) s m #[(.ref r0), (.int ((5 : Int32) - 1))] below meth c s₁ [] 0 0 := Stand.of_body Bd
  have e0 : s₁.heap = h0 := by rw [← hh, Bd.state]; rfl
  have N0 := Fr.nil n0
  have hS0 := hS
  skip
  have pre0 : ∀ t, Steps p.tables e below (s₁.setTop (mkF m 0 #[.val (.ref r0), .val (.int ((5 : Int32) - 1)), .unset, .unset] [])) t → Steps p.tables e below (s₁.setTop (entryFrame m #[(.ref r0), (.int ((5 : Int32) - 1))] 4)) t := fun t k => castTop (ef_4x1 m r0) k
  generalize hE0 : s₁.setTop (entryFrame m #[(.ref r0), (.int ((5 : Int32) - 1))] 4) = E0 at pre0 ⊢
  obtain ⟨cl97, Ar97, qa97, Sa97, Ma97, Ha97, Ga97⟩ := id V_r0
  obtain ⟨cl98, Ar98, qa98, Sa98, Ma98, Ha98, Ga98⟩ := id V_r0
  have hin98 : ¬ ((0 : Int32) < 0 ∨ cl98.slots.size ≤ ((0 : Int32)).toNatClampNeg) := by exact inb_of Sa98 ⟨by decide, by decide⟩
  obtain ⟨T99, h99, X99, e99, W99, st99⟩ := stI X0 hx hZ e0 Ar98 (j := (0 : Int32)) hin98 (g := (mkF m 13 (lt20 r0 ((5 : Int32) - 1) 0 5) [(.int ((5 : Int32) - 1)), (.int 0), (.ref r0)])) rfl rfl (hb hby d4_13)
  have V_r0_99 : Arv Z h99 r0 k_r0 .int (5 : Int32) [(.int ((5 : Int32) - 1)), (.int 0), (.int 0), (.int 0), (.int 0)] (.int 0) := Arv.set Ar98 qa98 Sa98 Ma98 Ha98 Ga98 rfl W99 0 rfl (Nat.le_of_ble_eq_true rfl)
  have O99 := O0.wr W99 g_r0
  have N99 := Fr.snoc X99 N0 g_r0
  have K99 := (Keep.refl h0 [r0]).wr W99 (Or.inl (List.mem_of_getElem? (i := 0) rfl))
  obtain ⟨cl100, Ar100, qa100, Sa100, Ma100, Ha100, Ga100⟩ := id V_r0_99
  have hin100 : ¬ (((0 : Int32) + 1) < 0 ∨ cl100.slots.size ≤ (((0 : Int32) + 1)).toNatClampNeg) := by exact inb_of Sa100 ⟨by decide, by decide⟩
  obtain ⟨T101, h101, X101, e101, W101, st101⟩ := stI X99 hx hZ e99 Ar100 (j := ((0 : Int32) + 1)) hin100 (g := (mkF m 13 (lt20 r0 ((5 : Int32) - 1) ((0 : Int32) + 1) 5) [(.int ((5 : Int32) - 1)), (.int ((0 : Int32) + 1)), (.ref r0)])) rfl rfl (hb hby d4_13)
  have V_r0_101 : Arv Z h101 r0 k_r0 .int (5 : Int32) [(.int ((5 : Int32) - 1)), (.int ((5 : Int32) - 1)), (.int 0), (.int 0), (.int 0)] (.int 0) := Arv.set Ar100 qa100 Sa100 Ma100 Ha100 Ga100 rfl W101 1 rfl (Nat.le_of_ble_eq_true rfl)
  have O101 := O99.wr W101 g_r0
  have N101 := Fr.snoc X101 N99 g_r0
  have K101 := K99.wr W101 (Or.inl (List.mem_of_getElem? (i := 0) rfl))
  obtain ⟨cl102, Ar102, qa102, Sa102, Ma102, Ha102, Ga102⟩ := id V_r0_101
  have hin102 : ¬ ((((0 : Int32) + 1) + 1) < 0 ∨ cl102.slots.size ≤ ((((0 : Int32) + 1) + 1)).toNatClampNeg) := by exact inb_of Sa102 ⟨by decide, by decide⟩
  obtain ⟨T103, h103, X103, e103, W103, st103⟩ := stI X101 hx hZ e101 Ar102 (j := (((0 : Int32) + 1) + 1)) hin102 (g := (mkF m 13 (lt20 r0 ((5 : Int32) - 1) (((0 : Int32) + 1) + 1) 5) [(.int ((5 : Int32) - 1)), (.int (((0 : Int32) + 1) + 1)), (.ref r0)])) rfl rfl (hb hby d4_13)
  have V_r0_103 : Arv Z h103 r0 k_r0 .int (5 : Int32) [(.int ((5 : Int32) - 1)), (.int ((5 : Int32) - 1)), (.int ((5 : Int32) - 1)), (.int 0), (.int 0)] (.int 0) := Arv.set Ar102 qa102 Sa102 Ma102 Ha102 Ga102 rfl W103 2 rfl (Nat.le_of_ble_eq_true rfl)
  have O103 := O101.wr W103 g_r0
  have N103 := Fr.snoc X103 N101 g_r0
  have K103 := K101.wr W103 (Or.inl (List.mem_of_getElem? (i := 0) rfl))
  obtain ⟨cl104, Ar104, qa104, Sa104, Ma104, Ha104, Ga104⟩ := id V_r0_103
  have hin104 : ¬ (((((0 : Int32) + 1) + 1) + 1) < 0 ∨ cl104.slots.size ≤ (((((0 : Int32) + 1) + 1) + 1)).toNatClampNeg) := by exact inb_of Sa104 ⟨by decide, by decide⟩
  obtain ⟨T105, h105, X105, e105, W105, st105⟩ := stI X103 hx hZ e103 Ar104 (j := ((((0 : Int32) + 1) + 1) + 1)) hin104 (g := (mkF m 13 (lt20 r0 ((5 : Int32) - 1) ((((0 : Int32) + 1) + 1) + 1) 5) [(.int ((5 : Int32) - 1)), (.int ((((0 : Int32) + 1) + 1) + 1)), (.ref r0)])) rfl rfl (hb hby d4_13)
  have V_r0_105 : Arv Z h105 r0 k_r0 .int (5 : Int32) [(.int ((5 : Int32) - 1)), (.int ((5 : Int32) - 1)), (.int ((5 : Int32) - 1)), (.int ((5 : Int32) - 1)), (.int 0)] (.int 0) := Arv.set Ar104 qa104 Sa104 Ma104 Ha104 Ga104 rfl W105 3 rfl (Nat.le_of_ble_eq_true rfl)
  have O105 := O103.wr W105 g_r0
  have N105 := Fr.snoc X105 N103 g_r0
  have K105 := K103.wr W105 (Or.inl (List.mem_of_getElem? (i := 0) rfl))
  obtain ⟨cl106, Ar106, qa106, Sa106, Ma106, Ha106, Ga106⟩ := id V_r0_105
  have hin106 : ¬ ((((((0 : Int32) + 1) + 1) + 1) + 1) < 0 ∨ cl106.slots.size ≤ ((((((0 : Int32) + 1) + 1) + 1) + 1)).toNatClampNeg) := by exact inb_of Sa106 ⟨by decide, by decide⟩
  obtain ⟨T107, h107, X107, e107, W107, st107⟩ := stI X105 hx hZ e105 Ar106 (j := (((((0 : Int32) + 1) + 1) + 1) + 1)) hin106 (g := (mkF m 13 (lt20 r0 ((5 : Int32) - 1) (((((0 : Int32) + 1) + 1) + 1) + 1) 5) [(.int ((5 : Int32) - 1)), (.int (((((0 : Int32) + 1) + 1) + 1) + 1)), (.ref r0)])) rfl rfl (hb hby d4_13)
  have V_r0_107 : Arv Z h107 r0 k_r0 .int (5 : Int32) [(.int ((5 : Int32) - 1)), (.int ((5 : Int32) - 1)), (.int ((5 : Int32) - 1)), (.int ((5 : Int32) - 1)), (.int ((5 : Int32) - 1))] (.int 0) := Arv.set Ar106 qa106 Sa106 Ma106 Ha106 Ga106 rfl W107 4 rfl (Nat.le_of_ble_eq_true rfl)
  have O107 := O105.wr W107 g_r0
  have N107 := Fr.snoc X107 N105 g_r0
  have K107 := K105.wr W107 (Or.inl (List.mem_of_getElem? (i := 0) rfl))
  obtain ⟨fs, hr, hrun, hended, hW, hsame⟩ := X107.leave (v := none) (fun _ => rfl)
  refine ⟨_, _, pre0 _ ?_, hrun, hended, _, _, rfl, ?_, ⟨_, rfl⟩, hW, hsame.mono (by decide) (by decide)⟩
  · show Sp p e below s₁ (mkF m 0 (lt18 r0 ((5 : Int32) - 1)) []) _
    refine XS.iconst X0.here hx rfl (hb hby d4_0) ?_
    refine XS.istoreN X0.here hx rfl (hb hby d4_1) rfl (l' := (lt19 r0 ((5 : Int32) - 1) 0)) rfl ?_
    show Sp p e below s₁ (mkF m 2 (lt19 r0 ((5 : Int32) - 1) 0) []) _
    refine XS.aloadN X0.here hx rfl (hb hby d4_2) rfl rfl ?_
    show Sp p e below s₁ (mkF m 3 (lt19 r0 ((5 : Int32) - 1) 0) [(.ref r0)]) _
    refine X0.arraylength hx (by rw [e0]; exact Ar97.1) (State.isArrayOf_alike hZ.alike Ar97.2.1) (g := (mkF m 3 (lt19 r0 ((5 : Int32) - 1) 0) [(.ref r0)])) rfl rfl (hb hby d4_3) _ ?_
    rw [len_of Sa97 Ma97]
    show Sp p e below s₁ (mkF m 4 (lt19 r0 ((5 : Int32) - 1) 0) [(.int 5)]) _
    refine XS.istoreN X0.here hx rfl (hb hby d4_4) rfl (l' := (lt20 r0 ((5 : Int32) - 1) 0 5)) rfl ?_
    refine XS.iloadN X0.here hx rfl (hb hby d4_5) rfl ?_
    show Sp p e below s₁ (mkF m 6 (lt20 r0 ((5 : Int32) - 1) 0 5) [(.int 0)]) _
    refine XS.iloadN X0.here hx rfl (hb hby d4_6) rfl ?_
    show Sp p e below s₁ (mkF m 7 (lt20 r0 ((5 : Int32) - 1) 0 5) [(.int 5), (.int 0)]) _
    refine XS.icmpNo X0.here hx rfl (hb hby d4_7) rfl (tlt (by decide : ((0 : Int32) < (5 : Int32)))).2.1 ?_
    show Sp p e below s₁ (mkF m 10 (lt20 r0 ((5 : Int32) - 1) 0 5) []) _
    refine XS.aloadN X0.here hx rfl (hb hby d4_10) rfl rfl ?_
    refine XS.iloadN X0.here hx rfl (hb hby d4_11) rfl ?_
    show Sp p e below s₁ (mkF m 12 (lt20 r0 ((5 : Int32) - 1) 0 5) [(.int 0), (.ref r0)]) _
    refine XS.iloadN X0.here hx rfl (hb hby d4_12) rfl ?_
    show Sp p e below s₁ (mkF m 13 (lt20 r0 ((5 : Int32) - 1) 0 5) [(.int ((5 : Int32) - 1)), (.int 0), (.ref r0)]) _
    refine st99 _ ?_
    show Sp p e below T99 (mkF m 14 (lt20 r0 ((5 : Int32) - 1) 0 5) []) _
    refine XS.iinc X99.here hx rfl (hb hby d4_14) rfl (l' := (lt20 r0 ((5 : Int32) - 1) ((0 : Int32) + 1) 5)) rfl ?_
    show Sp p e below T99 (mkF m 17 (lt20 r0 ((5 : Int32) - 1) ((0 : Int32) + 1) 5) []) _
    refine XS.goto X99.here hx rfl (pc0 := 17) (pc' := 5) rfl (hb hby d4_17) (by decide) (by decide) ?_
    show Sp p e below T99 (mkF m 5 (lt20 r0 ((5 : Int32) - 1) ((0 : Int32) + 1) 5) []) _
    refine XS.iloadN X99.here hx rfl (hb hby d4_5) rfl ?_
    refine XS.iloadN X99.here hx rfl (hb hby d4_6) rfl ?_
    show Sp p e below T99 (mkF m 7 (lt20 r0 ((5 : Int32) - 1) ((0 : Int32) + 1) 5) [(.int 5), (.int ((0 : Int32) + 1))]) _
    refine XS.icmpNo X99.here hx rfl (hb hby d4_7) rfl (tlt (by decide : (((0 : Int32) + 1) < (5 : Int32)))).2.1 ?_
    show Sp p e below T99 (mkF m 10 (lt20 r0 ((5 : Int32) - 1) ((0 : Int32) + 1) 5) []) _
    refine XS.aloadN X99.here hx rfl (hb hby d4_10) rfl rfl ?_
    refine XS.iloadN X99.here hx rfl (hb hby d4_11) rfl ?_
    show Sp p e below T99 (mkF m 12 (lt20 r0 ((5 : Int32) - 1) ((0 : Int32) + 1) 5) [(.int ((0 : Int32) + 1)), (.ref r0)]) _
    refine XS.iloadN X99.here hx rfl (hb hby d4_12) rfl ?_
    show Sp p e below T99 (mkF m 13 (lt20 r0 ((5 : Int32) - 1) ((0 : Int32) + 1) 5) [(.int ((5 : Int32) - 1)), (.int ((0 : Int32) + 1)), (.ref r0)]) _
    refine st101 _ ?_
    show Sp p e below T101 (mkF m 14 (lt20 r0 ((5 : Int32) - 1) ((0 : Int32) + 1) 5) []) _
    refine XS.iinc X101.here hx rfl (hb hby d4_14) rfl (l' := (lt20 r0 ((5 : Int32) - 1) (((0 : Int32) + 1) + 1) 5)) rfl ?_
    show Sp p e below T101 (mkF m 17 (lt20 r0 ((5 : Int32) - 1) (((0 : Int32) + 1) + 1) 5) []) _
    refine XS.goto X101.here hx rfl (pc0 := 17) (pc' := 5) rfl (hb hby d4_17) (by decide) (by decide) ?_
    show Sp p e below T101 (mkF m 5 (lt20 r0 ((5 : Int32) - 1) (((0 : Int32) + 1) + 1) 5) []) _
    refine XS.iloadN X101.here hx rfl (hb hby d4_5) rfl ?_
    refine XS.iloadN X101.here hx rfl (hb hby d4_6) rfl ?_
    show Sp p e below T101 (mkF m 7 (lt20 r0 ((5 : Int32) - 1) (((0 : Int32) + 1) + 1) 5) [(.int 5), (.int (((0 : Int32) + 1) + 1))]) _
    refine XS.icmpNo X101.here hx rfl (hb hby d4_7) rfl (tlt (by decide : ((((0 : Int32) + 1) + 1) < (5 : Int32)))).2.1 ?_
    show Sp p e below T101 (mkF m 10 (lt20 r0 ((5 : Int32) - 1) (((0 : Int32) + 1) + 1) 5) []) _
    refine XS.aloadN X101.here hx rfl (hb hby d4_10) rfl rfl ?_
    refine XS.iloadN X101.here hx rfl (hb hby d4_11) rfl ?_
    show Sp p e below T101 (mkF m 12 (lt20 r0 ((5 : Int32) - 1) (((0 : Int32) + 1) + 1) 5) [(.int (((0 : Int32) + 1) + 1)), (.ref r0)]) _
    refine XS.iloadN X101.here hx rfl (hb hby d4_12) rfl ?_
    show Sp p e below T101 (mkF m 13 (lt20 r0 ((5 : Int32) - 1) (((0 : Int32) + 1) + 1) 5) [(.int ((5 : Int32) - 1)), (.int (((0 : Int32) + 1) + 1)), (.ref r0)]) _
    refine st103 _ ?_
    show Sp p e below T103 (mkF m 14 (lt20 r0 ((5 : Int32) - 1) (((0 : Int32) + 1) + 1) 5) []) _
    refine XS.iinc X103.here hx rfl (hb hby d4_14) rfl (l' := (lt20 r0 ((5 : Int32) - 1) ((((0 : Int32) + 1) + 1) + 1) 5)) rfl ?_
    show Sp p e below T103 (mkF m 17 (lt20 r0 ((5 : Int32) - 1) ((((0 : Int32) + 1) + 1) + 1) 5) []) _
    refine XS.goto X103.here hx rfl (pc0 := 17) (pc' := 5) rfl (hb hby d4_17) (by decide) (by decide) ?_
    show Sp p e below T103 (mkF m 5 (lt20 r0 ((5 : Int32) - 1) ((((0 : Int32) + 1) + 1) + 1) 5) []) _
    refine XS.iloadN X103.here hx rfl (hb hby d4_5) rfl ?_
    refine XS.iloadN X103.here hx rfl (hb hby d4_6) rfl ?_
    show Sp p e below T103 (mkF m 7 (lt20 r0 ((5 : Int32) - 1) ((((0 : Int32) + 1) + 1) + 1) 5) [(.int 5), (.int ((((0 : Int32) + 1) + 1) + 1))]) _
    refine XS.icmpNo X103.here hx rfl (hb hby d4_7) rfl (tlt (by decide : (((((0 : Int32) + 1) + 1) + 1) < (5 : Int32)))).2.1 ?_
    show Sp p e below T103 (mkF m 10 (lt20 r0 ((5 : Int32) - 1) ((((0 : Int32) + 1) + 1) + 1) 5) []) _
    refine XS.aloadN X103.here hx rfl (hb hby d4_10) rfl rfl ?_
    refine XS.iloadN X103.here hx rfl (hb hby d4_11) rfl ?_
    show Sp p e below T103 (mkF m 12 (lt20 r0 ((5 : Int32) - 1) ((((0 : Int32) + 1) + 1) + 1) 5) [(.int ((((0 : Int32) + 1) + 1) + 1)), (.ref r0)]) _
    refine XS.iloadN X103.here hx rfl (hb hby d4_12) rfl ?_
    show Sp p e below T103 (mkF m 13 (lt20 r0 ((5 : Int32) - 1) ((((0 : Int32) + 1) + 1) + 1) 5) [(.int ((5 : Int32) - 1)), (.int ((((0 : Int32) + 1) + 1) + 1)), (.ref r0)]) _
    refine st105 _ ?_
    show Sp p e below T105 (mkF m 14 (lt20 r0 ((5 : Int32) - 1) ((((0 : Int32) + 1) + 1) + 1) 5) []) _
    refine XS.iinc X105.here hx rfl (hb hby d4_14) rfl (l' := (lt20 r0 ((5 : Int32) - 1) (((((0 : Int32) + 1) + 1) + 1) + 1) 5)) rfl ?_
    show Sp p e below T105 (mkF m 17 (lt20 r0 ((5 : Int32) - 1) (((((0 : Int32) + 1) + 1) + 1) + 1) 5) []) _
    refine XS.goto X105.here hx rfl (pc0 := 17) (pc' := 5) rfl (hb hby d4_17) (by decide) (by decide) ?_
    show Sp p e below T105 (mkF m 5 (lt20 r0 ((5 : Int32) - 1) (((((0 : Int32) + 1) + 1) + 1) + 1) 5) []) _
    refine XS.iloadN X105.here hx rfl (hb hby d4_5) rfl ?_
    refine XS.iloadN X105.here hx rfl (hb hby d4_6) rfl ?_
    show Sp p e below T105 (mkF m 7 (lt20 r0 ((5 : Int32) - 1) (((((0 : Int32) + 1) + 1) + 1) + 1) 5) [(.int 5), (.int (((((0 : Int32) + 1) + 1) + 1) + 1))]) _
    refine XS.icmpNo X105.here hx rfl (hb hby d4_7) rfl (tlt (by decide : ((((((0 : Int32) + 1) + 1) + 1) + 1) < (5 : Int32)))).2.1 ?_
    show Sp p e below T105 (mkF m 10 (lt20 r0 ((5 : Int32) - 1) (((((0 : Int32) + 1) + 1) + 1) + 1) 5) []) _
    refine XS.aloadN X105.here hx rfl (hb hby d4_10) rfl rfl ?_
    refine XS.iloadN X105.here hx rfl (hb hby d4_11) rfl ?_
    show Sp p e below T105 (mkF m 12 (lt20 r0 ((5 : Int32) - 1) (((((0 : Int32) + 1) + 1) + 1) + 1) 5) [(.int (((((0 : Int32) + 1) + 1) + 1) + 1)), (.ref r0)]) _
    refine XS.iloadN X105.here hx rfl (hb hby d4_12) rfl ?_
    show Sp p e below T105 (mkF m 13 (lt20 r0 ((5 : Int32) - 1) (((((0 : Int32) + 1) + 1) + 1) + 1) 5) [(.int ((5 : Int32) - 1)), (.int (((((0 : Int32) + 1) + 1) + 1) + 1)), (.ref r0)]) _
    refine st107 _ ?_
    show Sp p e below T107 (mkF m 14 (lt20 r0 ((5 : Int32) - 1) (((((0 : Int32) + 1) + 1) + 1) + 1) 5) []) _
    refine XS.iinc X107.here hx rfl (hb hby d4_14) rfl (l' := (lt20 r0 ((5 : Int32) - 1) ((((((0 : Int32) + 1) + 1) + 1) + 1) + 1) 5)) rfl ?_
    show Sp p e below T107 (mkF m 17 (lt20 r0 ((5 : Int32) - 1) ((((((0 : Int32) + 1) + 1) + 1) + 1) + 1) 5) []) _
    refine XS.goto X107.here hx rfl (pc0 := 17) (pc' := 5) rfl (hb hby d4_17) (by decide) (by decide) ?_
    show Sp p e below T107 (mkF m 5 (lt20 r0 ((5 : Int32) - 1) ((((((0 : Int32) + 1) + 1) + 1) + 1) + 1) 5) []) _
    refine XS.iloadN X107.here hx rfl (hb hby d4_5) rfl ?_
    refine XS.iloadN X107.here hx rfl (hb hby d4_6) rfl ?_
    show Sp p e below T107 (mkF m 7 (lt20 r0 ((5 : Int32) - 1) ((((((0 : Int32) + 1) + 1) + 1) + 1) + 1) 5) [(.int 5), (.int ((((((0 : Int32) + 1) + 1) + 1) + 1) + 1))]) _
    refine XS.icmpYes X107.here hx rfl (pc0 := 7) (pc' := 20) rfl (hb hby d4_7) rfl (flt (by decide : ¬ (((((((0 : Int32) + 1) + 1) + 1) + 1) + 1) < (5 : Int32)))).2.1 (by decide) (by decide) ?_
    show Sp p e below T107 (mkF m 20 (lt20 r0 ((5 : Int32) - 1) ((((((0 : Int32) + 1) + 1) + 1) + 1) + 1) 5) []) _
    exact X107.returnOut hx Bd.returns (hb hby d4_20) hr
  · show Q4x1 Z r0 k_r0 h0 n0 _ T107.heap _
    rw [e107]
    exact ⟨rfl, N107, O107, K107, V_r0_107⟩
theorem ef_5x1 (m : MethodId)  : entryFrame m #[(.long kE5)] 2 = mkF m 0 #[.val (.long kE5), .second] [] := by first | (simp [entryFrame, mkF, argsToLocals, Value.category]; done) | rfl
def Q5x1 (Z : State) (h0 : Heap) (n0 : Nat) (v : Option Value) (h : Heap) (L : List Loc) : Prop := v = some (.int (kE5.toInt32)) ∧ Fr n0 L ∧ h = h0
set_option maxRecDepth 65536 in
set_option maxHeartbeats 40000000 in
theorem rm5x1 (l : Launch) (Z : State) (a0 : Array Value) (hw : ∀ d ∈ tables_1, d.before a0 Z = true) (ws : List Jvm.Cond) (hS : StF Z) (h0 : Heap) (n0 : Nat) (O0 : Old Z n0 h0) :
    MetFree l Y23 (head1 (Jvm.Cond.code Y23 jdk_29_method_43_code 2 (some .int) :: ws) ({ frames := 0, cells := 0, slots := 0, locals := 0 } : Room)) (fun a U => a = #[(.long kE5)] ∧ Z.Warmed39 U.vm ∧ U.heap = h0) (fun _ _ _ _ _ => True) (fun _ U o U' => ∃ v L, o = .returned v ∧ Q5x1 Z h0 n0 v U'.heap L ∧ FrameEnd U o U' L ({ frames := 0, cells := 0, slots := 0, locals := 0 } : Room).cells ({ frames := 0, cells := 0, slots := 0, locals := 0 } : Room).slots) := by
  refine MetFree.of_bodySF (Jvm.Free.JP.mathPlain rfl (by decide +kernel)) hisR ?_
  intro p e s m args below meth c s₁ Bd hml0 hP hK
  obtain ⟨rfl, hZ, hh⟩ := hP
  have hx := Bd.exec
  have hby := Bd.bytes
  have hml : c.maxLocals = 2 := hml0
  have hown : s.vm.findClass "java/lang/Math" = some m.cls := findClass_of_methodNamed Bd.named
  have hnm := (name_of_methodNamed Bd.named Bd.method).1
  have X0 : Stand p l e ({ frames := 0, cells := 0, slots := 0, locals := 0 } : Room) s m #[(.long kE5)] below meth c s₁ [] 0 0 := Stand.of_body Bd
  have e0 : s₁.heap = h0 := by rw [← hh, Bd.state]; rfl
  have N0 := Fr.nil n0
  have hS0 := hS
  skip
  have pre0 : ∀ t, Steps p.tables e below (s₁.setTop (mkF m 0 #[.val (.long kE5), .second] [])) t → Steps p.tables e below (s₁.setTop (entryFrame m #[(.long kE5)] 2)) t := fun t k => castTop (ef_5x1 m ) k
  generalize hE0 : s₁.setTop (entryFrame m #[(.long kE5)] 2) = E0 at pre0 ⊢
  obtain ⟨fs, hr, hrun, hended, hW, hsame⟩ := X0.leave (v := some (.int (kE5.toInt32))) (fun h => by rw [Bd.returns] at h; cases h)
  refine ⟨_, _, pre0 _ ?_, hrun, hended, _, _, rfl, ?_, ⟨_, rfl⟩, hW, hsame.mono (by decide) (by decide)⟩
  · show Sp p e below s₁ (mkF m 0 (lt22 kE5) []) _
    refine XS.lloadN X0.here hx rfl (hb hby d5_0) rfl ?_
    refine XS.l2i X0.here hx rfl (hb hby d5_1) rfl ?_
    show Sp p e below s₁ (mkF m 2 (lt22 kE5) [(.int (kE5.toInt32))]) _
    refine XS.i2l X0.here hx rfl (hb hby d5_2) rfl ?_
    refine XS.lloadN X0.here hx rfl (hb hby d5_3) rfl ?_
    show Sp p e below s₁ (mkF m 4 (lt22 kE5) [(.long kE5), (.long ((kE5.toInt32).toInt64))]) _
    refine XS.lcmp X0.here hx rfl (hb hby d5_4) rfl ?_
    show Sp p e below s₁ (mkF m 5 (lt22 kE5) [(.int (lcmpW ((kE5.toInt32).toInt64) kE5))]) _
    refine XS.ifYes X0.here hx rfl (pc0 := 5) (pc' := 18) rfl (hb hby d5_5) rfl ((if0 _ _).trans (teq (by decide : ((lcmpW ((kE5.toInt32).toInt64) kE5) = (0 : Int32)))).1) (by decide) (by decide) ?_
    show Sp p e below s₁ (mkF m 18 (lt22 kE5) []) _
    refine XS.lloadN X0.here hx rfl (hb hby d5_18) rfl ?_
    refine XS.l2i X0.here hx rfl (hb hby d5_19) rfl ?_
    show Sp p e below s₁ (mkF m 20 (lt22 kE5) [(.int (kE5.toInt32))]) _
    exact retI X0 hx Bd.returns (hb hby d5_20) hr
  · show Q5x1 Z h0 n0 _ s₁.heap _
    rw [e0]
    exact ⟨rfl, N0, rfl⟩
theorem ef_5x2 (m : MethodId)  : entryFrame m #[(.long kA5)] 2 = mkF m 0 #[.val (.long kA5), .second] [] := by first | (simp [entryFrame, mkF, argsToLocals, Value.category]; done) | rfl
def Q5x2 (Z : State) (h0 : Heap) (n0 : Nat) (v : Option Value) (h : Heap) (L : List Loc) : Prop := v = some (.int (kA5.toInt32)) ∧ Fr n0 L ∧ h = h0
set_option maxRecDepth 65536 in
set_option maxHeartbeats 40000000 in
theorem rm5x2 (l : Launch) (Z : State) (a0 : Array Value) (hw : ∀ d ∈ tables_1, d.before a0 Z = true) (ws : List Jvm.Cond) (hS : StF Z) (h0 : Heap) (n0 : Nat) (O0 : Old Z n0 h0) :
    MetFree l Y23 (head1 (Jvm.Cond.code Y23 jdk_29_method_43_code 2 (some .int) :: ws) ({ frames := 0, cells := 0, slots := 0, locals := 0 } : Room)) (fun a U => a = #[(.long kA5)] ∧ Z.Warmed39 U.vm ∧ U.heap = h0) (fun _ _ _ _ _ => True) (fun _ U o U' => ∃ v L, o = .returned v ∧ Q5x2 Z h0 n0 v U'.heap L ∧ FrameEnd U o U' L ({ frames := 0, cells := 0, slots := 0, locals := 0 } : Room).cells ({ frames := 0, cells := 0, slots := 0, locals := 0 } : Room).slots) := by
  refine MetFree.of_bodySF (Jvm.Free.JP.mathPlain rfl (by decide +kernel)) hisR ?_
  intro p e s m args below meth c s₁ Bd hml0 hP hK
  obtain ⟨rfl, hZ, hh⟩ := hP
  have hx := Bd.exec
  have hby := Bd.bytes
  have hml : c.maxLocals = 2 := hml0
  have hown : s.vm.findClass "java/lang/Math" = some m.cls := findClass_of_methodNamed Bd.named
  have hnm := (name_of_methodNamed Bd.named Bd.method).1
  have X0 : Stand p l e ({ frames := 0, cells := 0, slots := 0, locals := 0 } : Room) s m #[(.long kA5)] below meth c s₁ [] 0 0 := Stand.of_body Bd
  have e0 : s₁.heap = h0 := by rw [← hh, Bd.state]; rfl
  have N0 := Fr.nil n0
  have hS0 := hS
  skip
  have pre0 : ∀ t, Steps p.tables e below (s₁.setTop (mkF m 0 #[.val (.long kA5), .second] [])) t → Steps p.tables e below (s₁.setTop (entryFrame m #[(.long kA5)] 2)) t := fun t k => castTop (ef_5x2 m ) k
  generalize hE0 : s₁.setTop (entryFrame m #[(.long kA5)] 2) = E0 at pre0 ⊢
  obtain ⟨fs, hr, hrun, hended, hW, hsame⟩ := X0.leave (v := some (.int (kA5.toInt32))) (fun h => by rw [Bd.returns] at h; cases h)
  refine ⟨_, _, pre0 _ ?_, hrun, hended, _, _, rfl, ?_, ⟨_, rfl⟩, hW, hsame.mono (by decide) (by decide)⟩
  · show Sp p e below s₁ (mkF m 0 (lt22 kA5) []) _
    refine XS.lloadN X0.here hx rfl (hb hby d5_0) rfl ?_
    refine XS.l2i X0.here hx rfl (hb hby d5_1) rfl ?_
    show Sp p e below s₁ (mkF m 2 (lt22 kA5) [(.int (kA5.toInt32))]) _
    refine XS.i2l X0.here hx rfl (hb hby d5_2) rfl ?_
    refine XS.lloadN X0.here hx rfl (hb hby d5_3) rfl ?_
    show Sp p e below s₁ (mkF m 4 (lt22 kA5) [(.long kA5), (.long ((kA5.toInt32).toInt64))]) _
    refine XS.lcmp X0.here hx rfl (hb hby d5_4) rfl ?_
    show Sp p e below s₁ (mkF m 5 (lt22 kA5) [(.int (lcmpW ((kA5.toInt32).toInt64) kA5))]) _
    refine XS.ifYes X0.here hx rfl (pc0 := 5) (pc' := 18) rfl (hb hby d5_5) rfl ((if0 _ _).trans (teq (by decide : ((lcmpW ((kA5.toInt32).toInt64) kA5) = (0 : Int32)))).1) (by decide) (by decide) ?_
    show Sp p e below s₁ (mkF m 18 (lt22 kA5) []) _
    refine XS.lloadN X0.here hx rfl (hb hby d5_18) rfl ?_
    refine XS.l2i X0.here hx rfl (hb hby d5_19) rfl ?_
    show Sp p e below s₁ (mkF m 20 (lt22 kA5) [(.int (kA5.toInt32))]) _
    exact retI X0 hx Bd.returns (hb hby d5_20) hr
  · show Q5x2 Z h0 n0 _ s₁.heap _
    rw [e0]
    exact ⟨rfl, N0, rfl⟩
def M0_5 : MM := [[0, 0, 0, 0, 0], [4, 4, 4, 4, 4], [0, 1, 2, 3, 4], [1, 1, 1, 1, 1], [0, 0, 0, 0, 0], [0, 0, 0, 0, 0], List.replicate 50 0, [0, 0, 0, 0, 0, 0], [0, 0, 0, 0, 0, 0, 0, 0, 0, 0, 0, 0, 0, 0, 0, 0, 0, 0, 0, 0], [0], [0], [0], [0], [], [0, 0, 0, 0, 0], [0, 0, 0, 0, 0], [0, 0, 0, 0, 0], [0, 0, 0, 0, 0], [0, 0, 0, 0, 0]]
theorem pn_2n2x1 : plainName "com/example/onetree/onetree/EdgeStates" = true := by first | (simp [plainName, overriddenIn]; done) | decide +kernel
theorem ef_2n2x1 (m : MethodId) (r0 : Addr) : entryFrame m #[(.ref r0), (.int (5 : Int32)), .null] 7 = mkF m 0 #[.val (.ref r0), .val (.int (5 : Int32)), .val .null, .unset, .unset, .unset, .unset] [] := by first | (simp [entryFrame, mkF, argsToLocals, Value.category]; done) | rfl
def Q2n2x1 (Z : State) (r0 : Addr) (h0 : Heap) (n0 : Nat) (v : Option Value) (h : Heap) (L : List Loc) : Prop := ∃ (A : Nat → Addr) (K : Nat → ClassId) (S0 : Addr), v = none ∧ Fr n0 L ∧ Old Z n0 h ∧ EB Z n0 false h r0 A K S0 5 M0_5
set_option maxRecDepth 65536 in
set_option maxHeartbeats 40000000 in
theorem rm2n2x1 (l : Launch) (Z : State) (a0 : Array Value) (hw : ∀ d ∈ tables_1, d.before a0 Z = true) (ws : List Jvm.Cond) (hS : StF Z) (r0 : Addr) (h0 : Heap) (n0 : Nat) (O0 : Old Z n0 h0) (g_r0 : n0 ≤ r0) (E_r0 : Exa Z h0 r0 "com/example/onetree/onetree/EdgeStates") (F_cities_r0 : Fld Z h0 r0 "com/example/onetree/onetree/EdgeStates" "cities" "I" (.int (0 : Int32))) (F_fixedEdges_r0 : Fld Z h0 r0 "com/example/onetree/onetree/EdgeStates" "fixedEdges" "[[I" .null) (F_forcedDegree_r0 : Fld Z h0 r0 "com/example/onetree/onetree/EdgeStates" "forcedDegree" "[I" .null) (F_isPending_r0 : Fld Z h0 r0 "com/example/onetree/onetree/EdgeStates" "isPending" "[Z" .null) (F_listStart_r0 : Fld Z h0 r0 "com/example/onetree/onetree/EdgeStates" "listStart" "[I" .null) (F_listed_r0 : Fld Z h0 r0 "com/example/onetree/onetree/EdgeStates" "listed" "Z" (.int (0 : Int32))) (F_neighbours_r0 : Fld Z h0 r0 "com/example/onetree/onetree/EdgeStates" "neighbours" "[I" .null) (F_openDegree_r0 : Fld Z h0 r0 "com/example/onetree/onetree/EdgeStates" "openDegree" "[I" .null) (F_otherEnd_r0 : Fld Z h0 r0 "com/example/onetree/onetree/EdgeStates" "otherEnd" "[I" .null) (F_pathSize_r0 : Fld Z h0 r0 "com/example/onetree/onetree/EdgeStates" "pathSize" "[I" .null) (F_pending_r0 : Fld Z h0 r0 "com/example/onetree/onetree/EdgeStates" "pending" "[I" .null) (F_pendingCount_r0 : Fld Z h0 r0 "com/example/onetree/onetree/EdgeStates" "pendingCount" "I" (.int (0 : Int32))) (F_pendingHead_r0 : Fld Z h0 r0 "com/example/onetree/onetree/EdgeStates" "pendingHead" "I" (.int (0 : Int32))) (F_states_r0 : Fld Z h0 r0 "com/example/onetree/onetree/EdgeStates" "states" "[[B" .null) (F_trail_r0 : Fld Z h0 r0 "com/example/onetree/onetree/EdgeStates" "trail" "[I" .null) (F_trailSize_r0 : Fld Z h0 r0 "com/example/onetree/onetree/EdgeStates" "trailSize" "I" (.int (0 : Int32))) :
    MetFree l Y25 (head1 (Jvm.Cond.code Y25 prog_7_method_3_code 7 none :: ws) ({ frames := 1, cells := 16, slots := 136, locals := 15 } : Room)) (fun a U => a = #[(.ref r0), (.int (5 : Int32)), .null] ∧ Z.Warmed39 U.vm ∧ U.heap = h0) (fun _ _ _ _ _ => True) (fun _ U o U' => ∃ v L, o = .returned v ∧ Q2n2x1 Z r0 h0 n0 v U'.heap L ∧ FrameEnd U o U' L ({ frames := 1, cells := 16, slots := 136, locals := 15 } : Room).cells ({ frames := 1, cells := 16, slots := 136, locals := 15 } : Room).slots) := by
  refine MetFree.of_bodySF (plainFor_of_name pn_2n2x1) hisR ?_
  intro p e s m args below meth c s₁ Bd hml0 hP hK
  obtain ⟨rfl, hZ, hh⟩ := hP
  have hx := Bd.exec
  have hby := Bd.bytes
  have hml : c.maxLocals = 7 := hml0
  have hown : s.vm.findClass "com/example/onetree/onetree/EdgeStates" = some m.cls := findClass_of_methodNamed Bd.named
  have hnm := (name_of_methodNamed Bd.named Bd.method).1
  have X0 : Stand p l e ({ frames := 1, cells := 16, slots := 136, locals := 15 } : Room) s m #[(.ref r0), (.int 5), .null] below meth c s₁ [] 0 0 := Stand.of_body Bd
  have e0 : s₁.heap = h0 := by rw [← hh, Bd.state]; rfl
  have N0 := Fr.nil n0
  have hS0 := hS
  skip
  have pre0 : ∀ t, Steps p.tables e below (s₁.setTop (mkF m 0 #[.val (.ref r0), .val (.int 5), .val .null, .unset, .unset, .unset, .unset] [])) t → Steps p.tables e below (s₁.setTop (entryFrame m #[(.ref r0), (.int 5), .null] 7)) t := fun t k => castTop (ef_2n2x1 m r0) k
  generalize hE0 : s₁.setTop (entryFrame m #[(.ref r0), (.int 5), .null] 7) = E0 at pre0 ⊢
  obtain ⟨T56, X56, e56, st56⟩ := initO X0 hx hZ hown (hw _ (tk 10 rfl)) (hw _ (tk 11 rfl)) (hw _ (tk 12 rfl)) e0 (g := (mkF m 1 (lt17 r0 5) [(.ref r0)])) rfl (by rw [hml]; rfl) rfl (hb hby d2_1) (by decide) (W := 0) (by show 2 * 0 + _ ≤ _; exact Nat.le_of_eq rfl) (by decide)
  obtain ⟨T57, h57, X57, e57, W57, st57⟩ := putF X56 hx hZ hown (host := "") (Or.inl (hw _ (tk 13 rfl))) Via.refl e56 F_cities_r0 E_r0 (Or.inr ⟨(hw _ (tk 14 rfl)), rfl, hnm⟩) (hw _ (tk 2 rfl)) (ty := .int) (by decide) rfl rfl (g := (mkF m 6 (lt17 r0 5) [(.int 5), (.ref r0)])) rfl rfl (hb hby d2_6)
  have Fw57 := F_cities_r0.same W57
  have O57 := O0.wr W57 g_r0
  have N57 := Fr.snoc X57 N0 g_r0
  have K57 := (Keep.refl h0 [r0]).wr W57 (Or.inl (List.mem_of_getElem? (i := 0) rfl))
  have c58 := (E_r0.wr W57)
  obtain ⟨T59, h59, k59, X59, e59, E59, A59, EA59, OV59, st59⟩ := newRA X57 hx hZ hown (C := "[I") (ty := .int) rfl (hw _ (tk 15 rfl)) (hw _ (tk 16 rfl)) e57 (g := (mkF m 15 (lt17 r0 5) [(.int 0), (.ref r0)])) rfl (hb hby d2_15) rfl (by decide) (cap := 0) (by decide) (by decide) (by decide) (by decide) (ad := "[[I") rfl
  obtain ⟨b59, g59⟩ : ∃ z, z = h57.size := ⟨_, rfl⟩
  rw [← g59] at A59 EA59 st59
  have g_b59 : n0 ≤ b59 := Nat.le_trans (own_old O57) (Nat.le_of_eq g59.symm)
  have sz_b59 : h0.size ≤ b59 := Nat.le_trans K57.1 (Nat.le_of_eq g59.symm)
  have ne_r0_b59 := own_ng c58.lt g59
  have O59 := O57.ext E59
  have K59 := K57.ext E59
  have V_b59 : Arv Z h59 b59 k59 (.array .int) (0 : Int32) [] .null := Arv.new A59 (by decide)
  have c60 := (c58.ext E59)
  have c61 := ((F_fixedEdges_r0.other W57 (Or.inr (sRR hw 18 14 rfl rfl rfl))).ext E59)
  obtain ⟨T62, h62, X62, e62, W62, st62⟩ := putF X59 hx hZ hown (host := "") (Or.inl (hw _ (tk 17 rfl))) Via.refl e59 c61 c60 (Or.inr ⟨(hw _ (tk 18 rfl)), rfl, hnm⟩) (hw _ (tk 2 rfl)) (ty := (.array (.array .int))) (by decide) rfl rfl (g := (mkF m 25 (lt17 r0 5) [(.ref b59), (.ref r0)])) rfl rfl (hb hby d2_25)
  have Fw62 := c61.same W62
  have O62 := O59.wr W62 g_r0
  have N62 := Fr.snoc X62 N57 g_r0
  have K62 := K59.wr W62 (Or.inl (List.mem_of_getElem? (i := 0) rfl))
  have c63 := (c60.wr W62)
  have c64 := (V_b59.other W62 (Ne.symm ne_r0_b59))
  obtain ⟨T65, h65, k65, kc65, X65, e65, E65, VA65, OV65, EA65, Rw65, st65⟩ := gridM X62 hx hZ hown (C := "[B") (ad := "[[B") (ty := .byte) rfl rfl (hw _ (tk 19 rfl)) (hw _ (tk 20 rfl)) (hw _ (tk 21 rfl)) e62 (g := (mkF m 31 (lt17 r0 5) [(.int 5), (.int 5), (.ref r0)])) rfl (hb hby d2_31) rfl (by decide) (by decide) (N := 5) rfl rfl (cap := 5) (by decide) (by decide) (by decide) rfl rfl (by decide) (by decide)
  obtain ⟨b65r0, gb65r0⟩ : ∃ z, z = h62.size + 1 + 0 := ⟨_, rfl⟩
  obtain ⟨b65r1, gb65r1⟩ : ∃ z, z = h62.size + 1 + 1 := ⟨_, rfl⟩
  obtain ⟨b65r2, gb65r2⟩ : ∃ z, z = h62.size + 1 + 2 := ⟨_, rfl⟩
  obtain ⟨b65r3, gb65r3⟩ : ∃ z, z = h62.size + 1 + 3 := ⟨_, rfl⟩
  obtain ⟨b65r4, gb65r4⟩ : ∃ z, z = h62.size + 1 + 4 := ⟨_, rfl⟩
  have Ab65r0 : Arr Z h65 b65r0 (newA kc65 .byte (5 : Int32)) .byte := by rw [gb65r0]; exact (Rw65 0 _ rfl).1
  have Ab65r1 : Arr Z h65 b65r1 (newA kc65 .byte (5 : Int32)) .byte := by rw [gb65r1]; exact (Rw65 1 _ rfl).1
  have Ab65r2 : Arr Z h65 b65r2 (newA kc65 .byte (5 : Int32)) .byte := by rw [gb65r2]; exact (Rw65 2 _ rfl).1
  have Ab65r3 : Arr Z h65 b65r3 (newA kc65 .byte (5 : Int32)) .byte := by rw [gb65r3]; exact (Rw65 3 _ rfl).1
  have Ab65r4 : Arr Z h65 b65r4 (newA kc65 .byte (5 : Int32)) .byte := by rw [gb65r4]; exact (Rw65 4 _ rfl).1
  obtain ⟨b65, g65⟩ : ∃ z, z = h62.size := ⟨_, rfl⟩
  rw [← g65] at st65
  have g_b65 : n0 ≤ b65 := Nat.le_trans (own_old O62) (Nat.le_of_eq g65.symm)
  have sz_b65 : h0.size ≤ b65 := Nat.le_trans K62.1 (Nat.le_of_eq g65.symm)
  have ne_r0_b65 := own_ng c63.lt g65
  have ne_b59_b65 := own_ng c64.lt g65
  have VB65 : Arv Z h65 b65 k65 (.array .byte) (5 : Int32) [(.ref b65r0), (.ref b65r1), (.ref b65r2), (.ref b65r3), (.ref b65r4)] .null := by rw [g65, gb65r0, gb65r1, gb65r2, gb65r3, gb65r4]; exact VA65
  have le_b65r0 : h62.size ≤ b65r0 := by rw [gb65r0]; exact Nat.le_trans (Nat.le_add_right _ 1) (Nat.le_add_right _ _)
  have g_b65r0 : n0 ≤ b65r0 := Nat.le_trans (own_old O62) le_b65r0
  have sz_b65r0 : h0.size ≤ b65r0 := Nat.le_trans K62.1 le_b65r0
  have ne_r0_b65r0 : r0 ≠ b65r0 := Nat.ne_of_lt (Nat.lt_of_lt_of_le c63.lt le_b65r0)
  have ne_b59_b65r0 : b59 ≠ b65r0 := Nat.ne_of_lt (Nat.lt_of_lt_of_le c64.lt le_b65r0)
  have ne_b65_b65r0 : b65 ≠ b65r0 := Nat.ne_of_lt (by rw [g65, gb65r0]; exact Nat.lt_of_lt_of_le (Nat.lt_succ_self _) (Nat.le_add_right _ _))
  have le_b65r1 : h62.size ≤ b65r1 := by rw [gb65r1]; exact Nat.le_trans (Nat.le_add_right _ 1) (Nat.le_add_right _ _)
  have g_b65r1 : n0 ≤ b65r1 := Nat.le_trans (own_old O62) le_b65r1
  have sz_b65r1 : h0.size ≤ b65r1 := Nat.le_trans K62.1 le_b65r1
  have ne_r0_b65r1 : r0 ≠ b65r1 := Nat.ne_of_lt (Nat.lt_of_lt_of_le c63.lt le_b65r1)
  have ne_b59_b65r1 : b59 ≠ b65r1 := Nat.ne_of_lt (Nat.lt_of_lt_of_le c64.lt le_b65r1)
  have ne_b65_b65r1 : b65 ≠ b65r1 := Nat.ne_of_lt (by rw [g65, gb65r1]; exact Nat.lt_of_lt_of_le (Nat.lt_succ_self _) (Nat.le_add_right _ _))
  have ne_b65r0_b65r1 : b65r0 ≠ b65r1 := Nat.ne_of_lt (by rw [gb65r0, gb65r1]; exact Nat.add_lt_add_left (by decide) _)
  have le_b65r2 : h62.size ≤ b65r2 := by rw [gb65r2]; exact Nat.le_trans (Nat.le_add_right _ 1) (Nat.le_add_right _ _)
  have g_b65r2 : n0 ≤ b65r2 := Nat.le_trans (own_old O62) le_b65r2
  have sz_b65r2 : h0.size ≤ b65r2 := Nat.le_trans K62.1 le_b65r2
  have ne_r0_b65r2 : r0 ≠ b65r2 := Nat.ne_of_lt (Nat.lt_of_lt_of_le c63.lt le_b65r2)
  have ne_b59_b65r2 : b59 ≠ b65r2 := Nat.ne_of_lt (Nat.lt_of_lt_of_le c64.lt le_b65r2)
  have ne_b65_b65r2 : b65 ≠ b65r2 := Nat.ne_of_lt (by rw [g65, gb65r2]; exact Nat.lt_of_lt_of_le (Nat.lt_succ_self _) (Nat.le_add_right _ _))
  have ne_b65r0_b65r2 : b65r0 ≠ b65r2 := Nat.ne_of_lt (by rw [gb65r0, gb65r2]; exact Nat.add_lt_add_left (by decide) _)
  have ne_b65r1_b65r2 : b65r1 ≠ b65r2 := Nat.ne_of_lt (by rw [gb65r1, gb65r2]; exact Nat.add_lt_add_left (by decide) _)
  have le_b65r3 : h62.size ≤ b65r3 := by rw [gb65r3]; exact Nat.le_trans (Nat.le_add_right _ 1) (Nat.le_add_right _ _)
  have g_b65r3 : n0 ≤ b65r3 := Nat.le_trans (own_old O62) le_b65r3
  have sz_b65r3 : h0.size ≤ b65r3 := Nat.le_trans K62.1 le_b65r3
  have ne_r0_b65r3 : r0 ≠ b65r3 := Nat.ne_of_lt (Nat.lt_of_lt_of_le c63.lt le_b65r3)
  have ne_b59_b65r3 : b59 ≠ b65r3 := Nat.ne_of_lt (Nat.lt_of_lt_of_le c64.lt le_b65r3)
  have ne_b65_b65r3 : b65 ≠ b65r3 := Nat.ne_of_lt (by rw [g65, gb65r3]; exact Nat.lt_of_lt_of_le (Nat.lt_succ_self _) (Nat.le_add_right _ _))
  have ne_b65r0_b65r3 : b65r0 ≠ b65r3 := Nat.ne_of_lt (by rw [gb65r0, gb65r3]; exact Nat.add_lt_add_left (by decide) _)
  have ne_b65r1_b65r3 : b65r1 ≠ b65r3 := Nat.ne_of_lt (by rw [gb65r1, gb65r3]; exact Nat.add_lt_add_left (by decide) _)
  have ne_b65r2_b65r3 : b65r2 ≠ b65r3 := Nat.ne_of_lt (by rw [gb65r2, gb65r3]; exact Nat.add_lt_add_left (by decide) _)
  have le_b65r4 : h62.size ≤ b65r4 := by rw [gb65r4]; exact Nat.le_trans (Nat.le_add_right _ 1) (Nat.le_add_right _ _)
  have g_b65r4 : n0 ≤ b65r4 := Nat.le_trans (own_old O62) le_b65r4
  have sz_b65r4 : h0.size ≤ b65r4 := Nat.le_trans K62.1 le_b65r4
  have ne_r0_b65r4 : r0 ≠ b65r4 := Nat.ne_of_lt (Nat.lt_of_lt_of_le c63.lt le_b65r4)
  have ne_b59_b65r4 : b59 ≠ b65r4 := Nat.ne_of_lt (Nat.lt_of_lt_of_le c64.lt le_b65r4)
  have ne_b65_b65r4 : b65 ≠ b65r4 := Nat.ne_of_lt (by rw [g65, gb65r4]; exact Nat.lt_of_lt_of_le (Nat.lt_succ_self _) (Nat.le_add_right _ _))
  have ne_b65r0_b65r4 : b65r0 ≠ b65r4 := Nat.ne_of_lt (by rw [gb65r0, gb65r4]; exact Nat.add_lt_add_left (by decide) _)
  have ne_b65r1_b65r4 : b65r1 ≠ b65r4 := Nat.ne_of_lt (by rw [gb65r1, gb65r4]; exact Nat.add_lt_add_left (by decide) _)
  have ne_b65r2_b65r4 : b65r2 ≠ b65r4 := Nat.ne_of_lt (by rw [gb65r2, gb65r4]; exact Nat.add_lt_add_left (by decide) _)
  have ne_b65r3_b65r4 : b65r3 ≠ b65r4 := Nat.ne_of_lt (by rw [gb65r3, gb65r4]; exact Nat.add_lt_add_left (by decide) _)
  have O65 := O62.ext E65
  have K65 := K62.ext E65
  have V_b65r0 : Arv Z h65 b65r0 kc65 .byte (5 : Int32) [(.int 0), (.int 0), (.int 0), (.int 0), (.int 0)] (.int 0) := (Arv.new Ab65r0 (by decide)).pad (pad_rep [] (.int 0) 5)
  have V_b65r1 : Arv Z h65 b65r1 kc65 .byte (5 : Int32) [(.int 0), (.int 0), (.int 0), (.int 0), (.int 0)] (.int 0) := (Arv.new Ab65r1 (by decide)).pad (pad_rep [] (.int 0) 5)
  have V_b65r2 : Arv Z h65 b65r2 kc65 .byte (5 : Int32) [(.int 0), (.int 0), (.int 0), (.int 0), (.int 0)] (.int 0) := (Arv.new Ab65r2 (by decide)).pad (pad_rep [] (.int 0) 5)
  have V_b65r3 : Arv Z h65 b65r3 kc65 .byte (5 : Int32) [(.int 0), (.int 0), (.int 0), (.int 0), (.int 0)] (.int 0) := (Arv.new Ab65r3 (by decide)).pad (pad_rep [] (.int 0) 5)
  have V_b65r4 : Arv Z h65 b65r4 kc65 .byte (5 : Int32) [(.int 0), (.int 0), (.int 0), (.int 0), (.int 0)] (.int 0) := (Arv.new Ab65r4 (by decide)).pad (pad_rep [] (.int 0) 5)
  have c66 := (c63.ext E65)
  have c67 := ((((F_states_r0.other W57 (Or.inr (sRR hw 23 14 rfl rfl rfl))).ext E59).other W62 (Or.inr (sRR hw 23 18 rfl rfl rfl))).ext E65)
  obtain ⟨T68, h68, X68, e68, W68, st68⟩ := putF X65 hx hZ hown (host := "") (Or.inl (hw _ (tk 22 rfl))) Via.refl e65 c67 c66 (Or.inr ⟨(hw _ (tk 23 rfl)), rfl, hnm⟩) (hw _ (tk 2 rfl)) (ty := (.array (.array .byte))) (by decide) rfl rfl (g := (mkF m 35 (lt17 r0 5) [(.ref b65), (.ref r0)])) rfl rfl (hb hby d2_35)
  have Fw68 := c67.same W68
  have O68 := O65.wr W68 g_r0
  have N68 := Fr.snoc X68 N62 g_r0
  have K68 := K65.wr W68 (Or.inl (List.mem_of_getElem? (i := 0) rfl))
  have c69 := (c66.wr W68)
  have c70 := ((c64.ext E65).other W68 (Ne.symm ne_r0_b59))
  have c71 := (VB65.other W68 (Ne.symm ne_r0_b65))
  have c72 := (V_b65r0.other W68 (Ne.symm ne_r0_b65r0))
  have c73 := (V_b65r1.other W68 (Ne.symm ne_r0_b65r1))
  have c74 := (V_b65r2.other W68 (Ne.symm ne_r0_b65r2))
  have c75 := (V_b65r3.other W68 (Ne.symm ne_r0_b65r3))
  have c76 := (V_b65r4.other W68 (Ne.symm ne_r0_b65r4))
  obtain ⟨T77, h77, k77, X77, e77, E77, A77, st77⟩ := newP X68 hx hZ (hw _ (tk 24 rfl)) e68 (g := (mkF m 40 (lt17 r0 5) [(.int 5), (.ref r0)])) rfl (hb hby d2_40) rfl (by decide) (cap := 5) (by decide) (by decide) (by decide) (by decide)
  obtain ⟨b77, g77⟩ : ∃ z, z = h68.size := ⟨_, rfl⟩
  rw [← g77] at A77 st77
  have g_b77 : n0 ≤ b77 := Nat.le_trans (own_old O68) (Nat.le_of_eq g77.symm)
  have sz_b77 : h0.size ≤ b77 := Nat.le_trans K68.1 (Nat.le_of_eq g77.symm)
  have ne_r0_b77 := own_ng c69.lt g77
  have ne_b59_b77 := own_ng c70.lt g77
  have ne_b65_b77 := own_ng c71.lt g77
  have ne_b65r0_b77 := own_ng c72.lt g77
  have ne_b65r1_b77 := own_ng c73.lt g77
  have ne_b65r2_b77 := own_ng c74.lt g77
  have ne_b65r3_b77 := own_ng c75.lt g77
  have ne_b65r4_b77 := own_ng c76.lt g77
  have O77 := O68.ext E77
  have K77 := K68.ext E77
  have V_b77 : Arv Z h77 b77 k77 .int (5 : Int32) [(.int 0), (.int 0), (.int 0), (.int 0), (.int 0)] (.int 0) := (Arv.new A77 (by decide)).pad (pad_rep [] (.int 0) 5)
  have c78 := (c69.ext E77)
  have c79 := ((((F_forcedDegree_r0.other W57 (Or.inr (sRR hw 26 14 rfl rfl rfl))).ext E59).other W62 (Or.inr (sRR hw 26 18 rfl rfl rfl))).ext E65)
  have c80 := ((c79.other W68 (Or.inr (sRR hw 26 23 rfl rfl rfl))).ext E77)
  obtain ⟨T81, h81, X81, e81, W81, st81⟩ := putF X77 hx hZ hown (host := "") (Or.inl (hw _ (tk 25 rfl))) Via.refl e77 c80 c78 (Or.inr ⟨(hw _ (tk 26 rfl)), rfl, hnm⟩) (hw _ (tk 2 rfl)) (ty := (.array .int)) (by decide) rfl rfl (g := (mkF m 42 (lt17 r0 5) [(.ref b77), (.ref r0)])) rfl rfl (hb hby d2_42)
  have Fw81 := c80.same W81
  have O81 := O77.wr W81 g_r0
  have N81 := Fr.snoc X81 N68 g_r0
  have K81 := K77.wr W81 (Or.inl (List.mem_of_getElem? (i := 0) rfl))
  have c82 := (c78.wr W81)
  have c83 := ((c70.ext E77).other W81 (Ne.symm ne_r0_b59))
  have c84 := ((c71.ext E77).other W81 (Ne.symm ne_r0_b65))
  have c85 := ((c72.ext E77).other W81 (Ne.symm ne_r0_b65r0))
  have c86 := ((c73.ext E77).other W81 (Ne.symm ne_r0_b65r1))
  have c87 := ((c74.ext E77).other W81 (Ne.symm ne_r0_b65r2))
  have c88 := ((c75.ext E77).other W81 (Ne.symm ne_r0_b65r3))
  have c89 := ((c76.ext E77).other W81 (Ne.symm ne_r0_b65r4))
  have c90 := (V_b77.other W81 (Ne.symm ne_r0_b77))
  obtain ⟨T91, h91, k91, X91, e91, E91, A91, st91⟩ := newP X81 hx hZ (hw _ (tk 24 rfl)) e81 (g := (mkF m 47 (lt17 r0 5) [(.int 5), (.ref r0)])) rfl (hb hby d2_47) rfl (by decide) (cap := 5) (by decide) (by decide) (by decide) (by decide)
  obtain ⟨b91, g91⟩ : ∃ z, z = h81.size := ⟨_, rfl⟩
  rw [← g91] at A91 st91
  have g_b91 : n0 ≤ b91 := Nat.le_trans (own_old O81) (Nat.le_of_eq g91.symm)
  have sz_b91 : h0.size ≤ b91 := Nat.le_trans K81.1 (Nat.le_of_eq g91.symm)
  have ne_r0_b91 := own_ng c82.lt g91
  have ne_b59_b91 := own_ng c83.lt g91
  have ne_b65_b91 := own_ng c84.lt g91
  have ne_b65r0_b91 := own_ng c85.lt g91
  have ne_b65r1_b91 := own_ng c86.lt g91
  have ne_b65r2_b91 := own_ng c87.lt g91
  have ne_b65r3_b91 := own_ng c88.lt g91
  have ne_b65r4_b91 := own_ng c89.lt g91
  have ne_b77_b91 := own_ng c90.lt g91
  have O91 := O81.ext E91
  have K91 := K81.ext E91
  have V_b91 : Arv Z h91 b91 k91 .int (5 : Int32) [(.int 0), (.int 0), (.int 0), (.int 0), (.int 0)] (.int 0) := (Arv.new A91 (by decide)).pad (pad_rep [] (.int 0) 5)
  have c92 := (c82.ext E91)
  have c93 := ((((F_openDegree_r0.other W57 (Or.inr (sRR hw 28 14 rfl rfl rfl))).ext E59).other W62 (Or.inr (sRR hw 28 18 rfl rfl rfl))).ext E65)
  have c94 := ((((c93.other W68 (Or.inr (sRR hw 28 23 rfl rfl rfl))).ext E77).other W81 (Or.inr (sRR hw 28 26 rfl rfl rfl))).ext E91)
  obtain ⟨T95, h95, X95, e95, W95, st95⟩ := putF X91 hx hZ hown (host := "") (Or.inl (hw _ (tk 27 rfl))) Via.refl e91 c94 c92 (Or.inr ⟨(hw _ (tk 28 rfl)), rfl, hnm⟩) (hw _ (tk 2 rfl)) (ty := (.array .int)) (by decide) rfl rfl (g := (mkF m 49 (lt17 r0 5) [(.ref b91), (.ref r0)])) rfl rfl (hb hby d2_49)
  have Fw95 := c94.same W95
  have O95 := O91.wr W95 g_r0
  have N95 := Fr.snoc X95 N81 g_r0
  have K95 := K91.wr W95 (Or.inl (List.mem_of_getElem? (i := 0) rfl))
  obtain ⟨T96, X96, e96, st96⟩ := getF X95 hx hZ hown (host := "") (Or.inl (hw _ (tk 27 rfl))) Via.refl e95 Fw95 (g := (mkF m 53 (lt17 r0 5) [(.ref r0)])) rfl rfl (hb hby d2_53)
  have c108 := (V_b91.other W95 (Ne.symm ne_r0_b91))
  obtain ⟨_, _, ⟨T109, L109, k109, n109⟩, -, X109, ⟨Lc109, hQ109, l109, y109, z109⟩, st109⟩ := Jvm.LawKit.callS X96 hx (y := Y20) hown (mvT hZ (hw _ (tk 29 rfl))) (mvT hZ (hw _ (tk 30 rfl))) (mvT hZ (hw _ (tk 31 rfl))) (mvT hZ (hw _ (tk 32 rfl))) (by decide) (backOf (W := 0) (rm4x1 l Z a0 hw [] hS0 b91 k91 h95 n0 O95 g_b91 c108) hZ (hw _ (tk 32 rfl)) (hw _ (tk 31 rfl)) (by decide) (by decide)) (g := (mkF m 59 (lt17 r0 5) [(.int ((5 : Int32) - 1)), (.ref b91)])) rfl (by rw [hml]; rfl) (argsL := [(.ref b91), (.int ((5 : Int32) - 1))]) (rest := []) (lenOf pd_0 rfl) rfl (by show 2 * 0 + _ ≤ _; exact Nat.le_of_eq rfl) (hb hby d2_59) (fun _ _ => ⟨rfl, e96, (by decide : 9 + 0 ≤ _), (by decide : 40 + 0 ≤ _)⟩)
  dsimp only [Pt.U, Pt.locs, Pt.cells, Pt.slots] at X109 l109 y109 z109 st109 hQ109
  rw [l109, y109, z109] at X109
  obtain ⟨rv109, N109q, O109, K109c, Fe109_0⟩ := hQ109
  subst rv109
  have N109 := Fr.app N95 N109q
  have K109 : Keep h0 T109.heap [r0] := K95.trans K109c (allS (Or.inr sz_b91) all0)
  obtain ⟨_, _, ⟨T110, L110, k110, n110⟩, -, X110, ⟨Lc110, hQ110, l110, y110, z110⟩, st110⟩ := Jvm.LawKit.callS X109 hx (y := Y23) hown (mvT hZ (hw _ (tk 34 rfl))) (mvT hZ (hw _ (tk 35 rfl))) (mvT hZ (hw _ (tk 36 rfl))) (mvT hZ (hw _ (tk 37 rfl))) (by decide) (backOf (W := 1) (rm5x1 l Z a0 hw [] hS0 T109.heap n0 O109) hZ (hw _ (tk 37 rfl)) (hw _ (tk 36 rfl)) (by decide) (by decide)) (g := (mkF m 177 (lt21 r0 5 kA5) [(.long kE5), (.ref r0)])) rfl (by rw [hml]; rfl) (argsL := [(.long kE5)]) (rest := [(.ref r0)]) (lenOf pd_1 rfl) rfl (by show 2 * 0 + _ ≤ _; exact Nat.le_of_eq rfl) (hb hby d2_177) (fun _ _ => ⟨rfl, rfl, (by decide : 9 + 0 ≤ _), (by decide : 40 + 0 ≤ _)⟩)
  dsimp only [Pt.U, Pt.locs, Pt.cells, Pt.slots] at X110 l110 y110 z110 st110 hQ110
  rw [l110, y110, z110] at X110
  obtain ⟨rv110, N110q, e110⟩ := hQ110
  subst rv110
  have N110 := Fr.app N109 N110q
  have c111 := ((c92.wr W95).keep K109c)
  have c112 := (((c83.ext E91).other W95 (Ne.symm ne_r0_b59)).keep K109c (ninS ne_b59_b91 nin0))
  have c113 := (((c84.ext E91).other W95 (Ne.symm ne_r0_b65)).keep K109c (ninS ne_b65_b91 nin0))
  have c114 := (((c85.ext E91).other W95 (Ne.symm ne_r0_b65r0)).keep K109c (ninS ne_b65r0_b91 nin0))
  have c115 := (((c86.ext E91).other W95 (Ne.symm ne_r0_b65r1)).keep K109c (ninS ne_b65r1_b91 nin0))
  have c116 := (((c87.ext E91).other W95 (Ne.symm ne_r0_b65r2)).keep K109c (ninS ne_b65r2_b91 nin0))
  have c117 := (((c88.ext E91).other W95 (Ne.symm ne_r0_b65r3)).keep K109c (ninS ne_b65r3_b91 nin0))
  have c118 := (((c89.ext E91).other W95 (Ne.symm ne_r0_b65r4)).keep K109c (ninS ne_b65r4_b91 nin0))
  have c119 := (((c90.ext E91).other W95 (Ne.symm ne_r0_b77)).keep K109c (ninS ne_b77_b91 nin0))
  obtain ⟨T120, h120, k120, X120, e120, E120, A120, st120⟩ := newP X110 hx hZ (hw _ (tk 24 rfl)) e110 (g := (mkF m 180 (lt21 r0 5 kA5) [(.int (kE5.toInt32)), (.ref r0)])) rfl (hb hby d2_180) rfl (by decide) (cap := 50) (by decide) (by decide) (by decide) (by decide)
  obtain ⟨b120, g120⟩ : ∃ z, z = T109.heap.size := ⟨_, rfl⟩
  rw [← g120] at A120 st120
  have g_b120 : n0 ≤ b120 := Nat.le_trans (own_old O109) (Nat.le_of_eq g120.symm)
  have sz_b120 : h0.size ≤ b120 := Nat.le_trans K109.1 (Nat.le_of_eq g120.symm)
  have ne_r0_b120 := own_ng c111.lt g120
  have ne_b59_b120 := own_ng c112.lt g120
  have ne_b65_b120 := own_ng c113.lt g120
  have ne_b65r0_b120 := own_ng c114.lt g120
  have ne_b65r1_b120 := own_ng c115.lt g120
  have ne_b65r2_b120 := own_ng c116.lt g120
  have ne_b65r3_b120 := own_ng c117.lt g120
  have ne_b65r4_b120 := own_ng c118.lt g120
  have ne_b77_b120 := own_ng c119.lt g120
  have ne_b91_b120 := own_ng Fe109_0.lt g120
  have O120 := O109.ext E120
  have K120 := K109.ext E120
  have V_b120 : Arh Z h120 b120 k120 .int (kE5.toInt32) [] [] (.int 0) := (Arv.new A120 (by decide)).arh
  have c121 := (c111.ext E120)
  have c122 := ((((F_trail_r0.other W57 (Or.inr (sRR hw 39 14 rfl rfl rfl))).ext E59).other W62 (Or.inr (sRR hw 39 18 rfl rfl rfl))).ext E65)
  have c123 := (((((c122.other W68 (Or.inr (sRR hw 39 23 rfl rfl rfl))).ext E77).other W81 (Or.inr (sRR hw 39 26 rfl rfl rfl))).ext E91).other W95 (Or.inr (sRR hw 39 28 rfl rfl rfl)))
  have c124 := ((c123.keep K109c (ninS ne_r0_b91 nin0)).ext E120)
  obtain ⟨T125, h125, X125, e125, W125, st125⟩ := putF X120 hx hZ hown (host := "") (Or.inl (hw _ (tk 38 rfl))) Via.refl e120 c124 c121 (Or.inr ⟨(hw _ (tk 39 rfl)), rfl, hnm⟩) (hw _ (tk 2 rfl)) (ty := (.array .int)) (by decide) rfl rfl (g := (mkF m 182 (lt21 r0 5 kA5) [(.ref b120), (.ref r0)])) rfl rfl (hb hby d2_182)
  have Fw125 := c124.same W125
  have O125 := O120.wr W125 g_r0
  have N125 := Fr.snoc X125 N110 g_r0
  have K125 := K120.wr W125 (Or.inl (List.mem_of_getElem? (i := 0) rfl))
  have c126 := (c121.wr W125)
  have c127 := ((c112.ext E120).other W125 (Ne.symm ne_r0_b59))
  have c128 := ((c113.ext E120).other W125 (Ne.symm ne_r0_b65))
  have c129 := ((c114.ext E120).other W125 (Ne.symm ne_r0_b65r0))
  have c130 := ((c115.ext E120).other W125 (Ne.symm ne_r0_b65r1))
  have c131 := ((c116.ext E120).other W125 (Ne.symm ne_r0_b65r2))
  have c132 := ((c117.ext E120).other W125 (Ne.symm ne_r0_b65r3))
  have c133 := ((c118.ext E120).other W125 (Ne.symm ne_r0_b65r4))
  have c134 := ((c119.ext E120).other W125 (Ne.symm ne_r0_b77))
  have c135 := ((Fe109_0.ext E120).other W125 (Ne.symm ne_r0_b91))
  have c136 := (V_b120.other W125 (Ne.symm ne_r0_b120))
  obtain ⟨T137, h137, k137, X137, e137, E137, A137, st137⟩ := newP X125 hx hZ (hw _ (tk 24 rfl)) e125 (g := (mkF m 187 (lt21 r0 5 kA5) [(.int 5), (.ref r0)])) rfl (hb hby d2_187) rfl (by decide) (cap := 5) (by decide) (by decide) (by decide) (by decide)
  obtain ⟨b137, g137⟩ : ∃ z, z = h125.size := ⟨_, rfl⟩
  rw [← g137] at A137 st137
  have g_b137 : n0 ≤ b137 := Nat.le_trans (own_old O125) (Nat.le_of_eq g137.symm)
  have sz_b137 : h0.size ≤ b137 := Nat.le_trans K125.1 (Nat.le_of_eq g137.symm)
  have ne_r0_b137 := own_ng c126.lt g137
  have ne_b59_b137 := own_ng c127.lt g137
  have ne_b65_b137 := own_ng c128.lt g137
  have ne_b65r0_b137 := own_ng c129.lt g137
  have ne_b65r1_b137 := own_ng c130.lt g137
  have ne_b65r2_b137 := own_ng c131.lt g137
  have ne_b65r3_b137 := own_ng c132.lt g137
  have ne_b65r4_b137 := own_ng c133.lt g137
  have ne_b77_b137 := own_ng c134.lt g137
  have ne_b91_b137 := own_ng c135.lt g137
  have ne_b120_b137 := own_ng c136.lt g137
  have O137 := O125.ext E137
  have K137 := K125.ext E137
  have V_b137 : Arv Z h137 b137 k137 .int (5 : Int32) [(.int 0), (.int 0), (.int 0), (.int 0), (.int 0)] (.int 0) := (Arv.new A137 (by decide)).pad (pad_rep [] (.int 0) 5)
  have c138 := (c126.ext E137)
  have c139 := ((((F_otherEnd_r0.other W57 (Or.inr (sRR hw 41 14 rfl rfl rfl))).ext E59).other W62 (Or.inr (sRR hw 41 18 rfl rfl rfl))).ext E65)
  have c140 := (((((c139.other W68 (Or.inr (sRR hw 41 23 rfl rfl rfl))).ext E77).other W81 (Or.inr (sRR hw 41 26 rfl rfl rfl))).ext E91).other W95 (Or.inr (sRR hw 41 28 rfl rfl rfl)))
  have c141 := ((((c140.keep K109c (ninS ne_r0_b91 nin0)).ext E120).other W125 (Or.inr (sRR hw 41 39 rfl rfl rfl))).ext E137)
  obtain ⟨T142, h142, X142, e142, W142, st142⟩ := putF X137 hx hZ hown (host := "") (Or.inl (hw _ (tk 40 rfl))) Via.refl e137 c141 c138 (Or.inr ⟨(hw _ (tk 41 rfl)), rfl, hnm⟩) (hw _ (tk 2 rfl)) (ty := (.array .int)) (by decide) rfl rfl (g := (mkF m 189 (lt21 r0 5 kA5) [(.ref b137), (.ref r0)])) rfl rfl (hb hby d2_189)
  have Fw142 := c141.same W142
  have O142 := O137.wr W142 g_r0
  have N142 := Fr.snoc X142 N125 g_r0
  have K142 := K137.wr W142 (Or.inl (List.mem_of_getElem? (i := 0) rfl))
  have c143 := (c138.wr W142)
  have c144 := ((c127.ext E137).other W142 (Ne.symm ne_r0_b59))
  have c145 := ((c128.ext E137).other W142 (Ne.symm ne_r0_b65))
  have c146 := ((c129.ext E137).other W142 (Ne.symm ne_r0_b65r0))
  have c147 := ((c130.ext E137).other W142 (Ne.symm ne_r0_b65r1))
  have c148 := ((c131.ext E137).other W142 (Ne.symm ne_r0_b65r2))
  have c149 := ((c132.ext E137).other W142 (Ne.symm ne_r0_b65r3))
  have c150 := ((c133.ext E137).other W142 (Ne.symm ne_r0_b65r4))
  have c151 := ((c134.ext E137).other W142 (Ne.symm ne_r0_b77))
  have c152 := ((c135.ext E137).other W142 (Ne.symm ne_r0_b91))
  have c153 := ((c136.ext E137).other W142 (Ne.symm ne_r0_b120))
  have c154 := (V_b137.other W142 (Ne.symm ne_r0_b137))
  obtain ⟨T155, h155, k155, X155, e155, E155, A155, st155⟩ := newP X142 hx hZ (hw _ (tk 24 rfl)) e142 (g := (mkF m 194 (lt21 r0 5 kA5) [(.int 5), (.ref r0)])) rfl (hb hby d2_194) rfl (by decide) (cap := 5) (by decide) (by decide) (by decide) (by decide)
  obtain ⟨b155, g155⟩ : ∃ z, z = h142.size := ⟨_, rfl⟩
  rw [← g155] at A155 st155
  have g_b155 : n0 ≤ b155 := Nat.le_trans (own_old O142) (Nat.le_of_eq g155.symm)
  have sz_b155 : h0.size ≤ b155 := Nat.le_trans K142.1 (Nat.le_of_eq g155.symm)
  have ne_r0_b155 := own_ng c143.lt g155
  have ne_b59_b155 := own_ng c144.lt g155
  have ne_b65_b155 := own_ng c145.lt g155
  have ne_b65r0_b155 := own_ng c146.lt g155
  have ne_b65r1_b155 := own_ng c147.lt g155
  have ne_b65r2_b155 := own_ng c148.lt g155
  have ne_b65r3_b155 := own_ng c149.lt g155
  have ne_b65r4_b155 := own_ng c150.lt g155
  have ne_b77_b155 := own_ng c151.lt g155
  have ne_b91_b155 := own_ng c152.lt g155
  have ne_b120_b155 := own_ng c153.lt g155
  have ne_b137_b155 := own_ng c154.lt g155
  have O155 := O142.ext E155
  have K155 := K142.ext E155
  have V_b155 : Arv Z h155 b155 k155 .int (5 : Int32) [(.int 0), (.int 0), (.int 0), (.int 0), (.int 0)] (.int 0) := (Arv.new A155 (by decide)).pad (pad_rep [] (.int 0) 5)
  have c156 := (c143.ext E155)
  have c157 := ((((F_pathSize_r0.other W57 (Or.inr (sRR hw 43 14 rfl rfl rfl))).ext E59).other W62 (Or.inr (sRR hw 43 18 rfl rfl rfl))).ext E65)
  have c158 := (((((c157.other W68 (Or.inr (sRR hw 43 23 rfl rfl rfl))).ext E77).other W81 (Or.inr (sRR hw 43 26 rfl rfl rfl))).ext E91).other W95 (Or.inr (sRR hw 43 28 rfl rfl rfl)))
  have c159 := (((((c158.keep K109c (ninS ne_r0_b91 nin0)).ext E120).other W125 (Or.inr (sRR hw 43 39 rfl rfl rfl))).ext E137).other W142 (Or.inr (sRR hw 43 41 rfl rfl rfl)))
  have c160 := (c159.ext E155)
  obtain ⟨T161, h161, X161, e161, W161, st161⟩ := putF X155 hx hZ hown (host := "") (Or.inl (hw _ (tk 42 rfl))) Via.refl e155 c160 c156 (Or.inr ⟨(hw _ (tk 43 rfl)), rfl, hnm⟩) (hw _ (tk 2 rfl)) (ty := (.array .int)) (by decide) rfl rfl (g := (mkF m 196 (lt21 r0 5 kA5) [(.ref b155), (.ref r0)])) rfl rfl (hb hby d2_196)
  have Fw161 := c160.same W161
  have O161 := O155.wr W161 g_r0
  have N161 := Fr.snoc X161 N142 g_r0
  have K161 := K155.wr W161 (Or.inl (List.mem_of_getElem? (i := 0) rfl))
  have c162 := ((Fw142.ext E155).other W161 (Or.inr (sRR hw 41 43 rfl rfl rfl)))
  obtain ⟨T163, X163, e163, st163⟩ := getF X161 hx hZ hown (host := "") (Or.inl (hw _ (tk 40 rfl))) Via.refl e161 c162 (g := (mkF m 209 (lt23 r0 5 kA5 0) [(.ref r0)])) rfl rfl (hb hby d2_209)
  have c164 := ((c154.ext E155).other W161 (Ne.symm ne_r0_b137))
  obtain ⟨cl165, Ar165, qa165, Sa165, Ma165, Ha165, Ga165⟩ := id c164
  have hin165 : ¬ ((0 : Int32) < 0 ∨ cl165.slots.size ≤ ((0 : Int32)).toNatClampNeg) := by exact inb_of Sa165 ⟨by decide, by decide⟩
  obtain ⟨T166, h166, X166, e166, W166, st166⟩ := stI X163 hx hZ e163 Ar165 (j := (0 : Int32)) hin165 (g := (mkF m 216 (lt23 r0 5 kA5 0) [(.int 0), (.int 0), (.ref b137)])) rfl rfl (hb hby d2_216)
  have V_b137_166 : Arv Z h166 b137 k137 .int (5 : Int32) [(.int 0), (.int 0), (.int 0), (.int 0), (.int 0)] (.int 0) := Arv.set Ar165 qa165 Sa165 Ma165 Ha165 Ga165 rfl W166 0 rfl (Nat.le_of_ble_eq_true rfl)
  have O166 := O161.wr W166 g_b137
  have N166 := Fr.snoc X166 N161 g_b137
  have K166 := K161.wr W166 (Or.inr sz_b137)
  have c167 := (Fw161.other W166 (Or.inl ne_r0_b137))
  obtain ⟨T168, X168, e168, st168⟩ := getF X166 hx hZ hown (host := "") (Or.inl (hw _ (tk 42 rfl))) Via.refl e166 c167 (g := (mkF m 218 (lt23 r0 5 kA5 0) [(.ref r0)])) rfl rfl (hb hby d2_218)
  have c169 := ((V_b155.other W161 (Ne.symm ne_r0_b155)).other W166 (Ne.symm ne_b137_b155))
  obtain ⟨cl170, Ar170, qa170, Sa170, Ma170, Ha170, Ga170⟩ := id c169
  have hin170 : ¬ ((0 : Int32) < 0 ∨ cl170.slots.size ≤ ((0 : Int32)).toNatClampNeg) := by exact inb_of Sa170 ⟨by decide, by decide⟩
  obtain ⟨T171, h171, X171, e171, W171, st171⟩ := stI X168 hx hZ e168 Ar170 (j := (0 : Int32)) hin170 (g := (mkF m 224 (lt23 r0 5 kA5 0) [(.int 1), (.int 0), (.ref b155)])) rfl rfl (hb hby d2_224)
  have V_b155_171 : Arv Z h171 b155 k155 .int (5 : Int32) [(.int 1), (.int 0), (.int 0), (.int 0), (.int 0)] (.int 0) := Arv.set Ar170 qa170 Sa170 Ma170 Ha170 Ga170 rfl W171 0 rfl (Nat.le_of_ble_eq_true rfl)
  have O171 := O166.wr W171 g_b155
  have N171 := Fr.snoc X171 N166 g_b155
  have K171 := K166.wr W171 (Or.inr sz_b155)
  have c172 := ((c162.other W166 (Or.inl ne_r0_b137)).other W171 (Or.inl ne_r0_b155))
  obtain ⟨T173, X173, e173, st173⟩ := getF X171 hx hZ hown (host := "") (Or.inl (hw _ (tk 40 rfl))) Via.refl e171 c172 (g := (mkF m 209 (lt23 r0 5 kA5 ((0 : Int32) + 1)) [(.ref r0)])) rfl rfl (hb hby d2_209)
  have c174 := (V_b137_166.other W171 ne_b137_b155)
  obtain ⟨cl175, Ar175, qa175, Sa175, Ma175, Ha175, Ga175⟩ := id c174
  have hin175 : ¬ (((0 : Int32) + 1) < 0 ∨ cl175.slots.size ≤ (((0 : Int32) + 1)).toNatClampNeg) := by exact inb_of Sa175 ⟨by decide, by decide⟩
  obtain ⟨T176, h176, X176, e176, W176, st176⟩ := stI X173 hx hZ e173 Ar175 (j := ((0 : Int32) + 1)) hin175 (g := (mkF m 216 (lt23 r0 5 kA5 ((0 : Int32) + 1)) [(.int ((0 : Int32) + 1)), (.int ((0 : Int32) + 1)), (.ref b137)])) rfl rfl (hb hby d2_216)
  have V_b137_176 : Arv Z h176 b137 k137 .int (5 : Int32) [(.int 0), (.int ((0 : Int32) + 1)), (.int 0), (.int 0), (.int 0)] (.int 0) := Arv.set Ar175 qa175 Sa175 Ma175 Ha175 Ga175 rfl W176 1 rfl (Nat.le_of_ble_eq_true rfl)
  have O176 := O171.wr W176 g_b137
  have N176 := Fr.snoc X176 N171 g_b137
  have K176 := K171.wr W176 (Or.inr sz_b137)
  have c177 := ((c167.other W171 (Or.inl ne_r0_b155)).other W176 (Or.inl ne_r0_b137))
  obtain ⟨T178, X178, e178, st178⟩ := getF X176 hx hZ hown (host := "") (Or.inl (hw _ (tk 42 rfl))) Via.refl e176 c177 (g := (mkF m 218 (lt23 r0 5 kA5 ((0 : Int32) + 1)) [(.ref r0)])) rfl rfl (hb hby d2_218)
  have c179 := (V_b155_171.other W176 (Ne.symm ne_b137_b155))
  obtain ⟨cl180, Ar180, qa180, Sa180, Ma180, Ha180, Ga180⟩ := id c179
  have hin180 : ¬ (((0 : Int32) + 1) < 0 ∨ cl180.slots.size ≤ (((0 : Int32) + 1)).toNatClampNeg) := by exact inb_of Sa180 ⟨by decide, by decide⟩
  obtain ⟨T181, h181, X181, e181, W181, st181⟩ := stI X178 hx hZ e178 Ar180 (j := ((0 : Int32) + 1)) hin180 (g := (mkF m 224 (lt23 r0 5 kA5 ((0 : Int32) + 1)) [(.int 1), (.int ((0 : Int32) + 1)), (.ref b155)])) rfl rfl (hb hby d2_224)
  have V_b155_181 : Arv Z h181 b155 k155 .int (5 : Int32) [(.int 1), (.int 1), (.int 0), (.int 0), (.int 0)] (.int 0) := Arv.set Ar180 qa180 Sa180 Ma180 Ha180 Ga180 rfl W181 1 rfl (Nat.le_of_ble_eq_true rfl)
  have O181 := O176.wr W181 g_b155
  have N181 := Fr.snoc X181 N176 g_b155
  have K181 := K176.wr W181 (Or.inr sz_b155)
  have c182 := ((c172.other W176 (Or.inl ne_r0_b137)).other W181 (Or.inl ne_r0_b155))
  obtain ⟨T183, X183, e183, st183⟩ := getF X181 hx hZ hown (host := "") (Or.inl (hw _ (tk 40 rfl))) Via.refl e181 c182 (g := (mkF m 209 (lt23 r0 5 kA5 (((0 : Int32) + 1) + 1)) [(.ref r0)])) rfl rfl (hb hby d2_209)
  have c184 := (V_b137_176.other W181 ne_b137_b155)
  obtain ⟨cl185, Ar185, qa185, Sa185, Ma185, Ha185, Ga185⟩ := id c184
  have hin185 : ¬ ((((0 : Int32) + 1) + 1) < 0 ∨ cl185.slots.size ≤ ((((0 : Int32) + 1) + 1)).toNatClampNeg) := by exact inb_of Sa185 ⟨by decide, by decide⟩
  obtain ⟨T186, h186, X186, e186, W186, st186⟩ := stI X183 hx hZ e183 Ar185 (j := (((0 : Int32) + 1) + 1)) hin185 (g := (mkF m 216 (lt23 r0 5 kA5 (((0 : Int32) + 1) + 1)) [(.int (((0 : Int32) + 1) + 1)), (.int (((0 : Int32) + 1) + 1)), (.ref b137)])) rfl rfl (hb hby d2_216)
  have V_b137_186 : Arv Z h186 b137 k137 .int (5 : Int32) [(.int 0), (.int ((0 : Int32) + 1)), (.int (((0 : Int32) + 1) + 1)), (.int 0), (.int 0)] (.int 0) := Arv.set Ar185 qa185 Sa185 Ma185 Ha185 Ga185 rfl W186 2 rfl (Nat.le_of_ble_eq_true rfl)
  have O186 := O181.wr W186 g_b137
  have N186 := Fr.snoc X186 N181 g_b137
  have K186 := K181.wr W186 (Or.inr sz_b137)
  have c187 := ((c177.other W181 (Or.inl ne_r0_b155)).other W186 (Or.inl ne_r0_b137))
  obtain ⟨T188, X188, e188, st188⟩ := getF X186 hx hZ hown (host := "") (Or.inl (hw _ (tk 42 rfl))) Via.refl e186 c187 (g := (mkF m 218 (lt23 r0 5 kA5 (((0 : Int32) + 1) + 1)) [(.ref r0)])) rfl rfl (hb hby d2_218)
  have c189 := (V_b155_181.other W186 (Ne.symm ne_b137_b155))
  obtain ⟨cl190, Ar190, qa190, Sa190, Ma190, Ha190, Ga190⟩ := id c189
  have hin190 : ¬ ((((0 : Int32) + 1) + 1) < 0 ∨ cl190.slots.size ≤ ((((0 : Int32) + 1) + 1)).toNatClampNeg) := by exact inb_of Sa190 ⟨by decide, by decide⟩
  obtain ⟨T191, h191, X191, e191, W191, st191⟩ := stI X188 hx hZ e188 Ar190 (j := (((0 : Int32) + 1) + 1)) hin190 (g := (mkF m 224 (lt23 r0 5 kA5 (((0 : Int32) + 1) + 1)) [(.int 1), (.int (((0 : Int32) + 1) + 1)), (.ref b155)])) rfl rfl (hb hby d2_224)
  have V_b155_191 : Arv Z h191 b155 k155 .int (5 : Int32) [(.int 1), (.int 1), (.int 1), (.int 0), (.int 0)] (.int 0) := Arv.set Ar190 qa190 Sa190 Ma190 Ha190 Ga190 rfl W191 2 rfl (Nat.le_of_ble_eq_true rfl)
  have O191 := O186.wr W191 g_b155
  have N191 := Fr.snoc X191 N186 g_b155
  have K191 := K186.wr W191 (Or.inr sz_b155)
  have c192 := ((c182.other W186 (Or.inl ne_r0_b137)).other W191 (Or.inl ne_r0_b155))
  obtain ⟨T193, X193, e193, st193⟩ := getF X191 hx hZ hown (host := "") (Or.inl (hw _ (tk 40 rfl))) Via.refl e191 c192 (g := (mkF m 209 (lt23 r0 5 kA5 ((((0 : Int32) + 1) + 1) + 1)) [(.ref r0)])) rfl rfl (hb hby d2_209)
  have c194 := (V_b137_186.other W191 ne_b137_b155)
  obtain ⟨cl195, Ar195, qa195, Sa195, Ma195, Ha195, Ga195⟩ := id c194
  have hin195 : ¬ (((((0 : Int32) + 1) + 1) + 1) < 0 ∨ cl195.slots.size ≤ (((((0 : Int32) + 1) + 1) + 1)).toNatClampNeg) := by exact inb_of Sa195 ⟨by decide, by decide⟩
  obtain ⟨T196, h196, X196, e196, W196, st196⟩ := stI X193 hx hZ e193 Ar195 (j := ((((0 : Int32) + 1) + 1) + 1)) hin195 (g := (mkF m 216 (lt23 r0 5 kA5 ((((0 : Int32) + 1) + 1) + 1)) [(.int ((((0 : Int32) + 1) + 1) + 1)), (.int ((((0 : Int32) + 1) + 1) + 1)), (.ref b137)])) rfl rfl (hb hby d2_216)
  have V_b137_196 : Arv Z h196 b137 k137 .int (5 : Int32) [(.int 0), (.int ((0 : Int32) + 1)), (.int (((0 : Int32) + 1) + 1)), (.int ((((0 : Int32) + 1) + 1) + 1)), (.int 0)] (.int 0) := Arv.set Ar195 qa195 Sa195 Ma195 Ha195 Ga195 rfl W196 3 rfl (Nat.le_of_ble_eq_true rfl)
  have O196 := O191.wr W196 g_b137
  have N196 := Fr.snoc X196 N191 g_b137
  have K196 := K191.wr W196 (Or.inr sz_b137)
  have c197 := ((c187.other W191 (Or.inl ne_r0_b155)).other W196 (Or.inl ne_r0_b137))
  obtain ⟨T198, X198, e198, st198⟩ := getF X196 hx hZ hown (host := "") (Or.inl (hw _ (tk 42 rfl))) Via.refl e196 c197 (g := (mkF m 218 (lt23 r0 5 kA5 ((((0 : Int32) + 1) + 1) + 1)) [(.ref r0)])) rfl rfl (hb hby d2_218)
  have c199 := (V_b155_191.other W196 (Ne.symm ne_b137_b155))
  obtain ⟨cl200, Ar200, qa200, Sa200, Ma200, Ha200, Ga200⟩ := id c199
  have hin200 : ¬ (((((0 : Int32) + 1) + 1) + 1) < 0 ∨ cl200.slots.size ≤ (((((0 : Int32) + 1) + 1) + 1)).toNatClampNeg) := by exact inb_of Sa200 ⟨by decide, by decide⟩
  obtain ⟨T201, h201, X201, e201, W201, st201⟩ := stI X198 hx hZ e198 Ar200 (j := ((((0 : Int32) + 1) + 1) + 1)) hin200 (g := (mkF m 224 (lt23 r0 5 kA5 ((((0 : Int32) + 1) + 1) + 1)) [(.int 1), (.int ((((0 : Int32) + 1) + 1) + 1)), (.ref b155)])) rfl rfl (hb hby d2_224)
  have V_b155_201 : Arv Z h201 b155 k155 .int (5 : Int32) [(.int 1), (.int 1), (.int 1), (.int 1), (.int 0)] (.int 0) := Arv.set Ar200 qa200 Sa200 Ma200 Ha200 Ga200 rfl W201 3 rfl (Nat.le_of_ble_eq_true rfl)
  have O201 := O196.wr W201 g_b155
  have N201 := Fr.snoc X201 N196 g_b155
  have K201 := K196.wr W201 (Or.inr sz_b155)
  have c202 := ((c192.other W196 (Or.inl ne_r0_b137)).other W201 (Or.inl ne_r0_b155))
  obtain ⟨T203, X203, e203, st203⟩ := getF X201 hx hZ hown (host := "") (Or.inl (hw _ (tk 40 rfl))) Via.refl e201 c202 (g := (mkF m 209 (lt23 r0 5 kA5 (((((0 : Int32) + 1) + 1) + 1) + 1)) [(.ref r0)])) rfl rfl (hb hby d2_209)
  have c204 := (V_b137_196.other W201 ne_b137_b155)
  obtain ⟨cl205, Ar205, qa205, Sa205, Ma205, Ha205, Ga205⟩ := id c204
  have hin205 : ¬ ((((((0 : Int32) + 1) + 1) + 1) + 1) < 0 ∨ cl205.slots.size ≤ ((((((0 : Int32) + 1) + 1) + 1) + 1)).toNatClampNeg) := by exact inb_of Sa205 ⟨by decide, by decide⟩
  obtain ⟨T206, h206, X206, e206, W206, st206⟩ := stI X203 hx hZ e203 Ar205 (j := (((((0 : Int32) + 1) + 1) + 1) + 1)) hin205 (g := (mkF m 216 (lt23 r0 5 kA5 (((((0 : Int32) + 1) + 1) + 1) + 1)) [(.int (((((0 : Int32) + 1) + 1) + 1) + 1)), (.int (((((0 : Int32) + 1) + 1) + 1) + 1)), (.ref b137)])) rfl rfl (hb hby d2_216)
  have V_b137_206 : Arv Z h206 b137 k137 .int (5 : Int32) [(.int 0), (.int ((0 : Int32) + 1)), (.int (((0 : Int32) + 1) + 1)), (.int ((((0 : Int32) + 1) + 1) + 1)), (.int (((((0 : Int32) + 1) + 1) + 1) + 1))] (.int 0) := Arv.set Ar205 qa205 Sa205 Ma205 Ha205 Ga205 rfl W206 4 rfl (Nat.le_of_ble_eq_true rfl)
  have O206 := O201.wr W206 g_b137
  have N206 := Fr.snoc X206 N201 g_b137
  have K206 := K201.wr W206 (Or.inr sz_b137)
  have c207 := ((c197.other W201 (Or.inl ne_r0_b155)).other W206 (Or.inl ne_r0_b137))
  obtain ⟨T208, X208, e208, st208⟩ := getF X206 hx hZ hown (host := "") (Or.inl (hw _ (tk 42 rfl))) Via.refl e206 c207 (g := (mkF m 218 (lt23 r0 5 kA5 (((((0 : Int32) + 1) + 1) + 1) + 1)) [(.ref r0)])) rfl rfl (hb hby d2_218)
  have c209 := (V_b155_201.other W206 (Ne.symm ne_b137_b155))
  obtain ⟨cl210, Ar210, qa210, Sa210, Ma210, Ha210, Ga210⟩ := id c209
  have hin210 : ¬ ((((((0 : Int32) + 1) + 1) + 1) + 1) < 0 ∨ cl210.slots.size ≤ ((((((0 : Int32) + 1) + 1) + 1) + 1)).toNatClampNeg) := by exact inb_of Sa210 ⟨by decide, by decide⟩
  obtain ⟨T211, h211, X211, e211, W211, st211⟩ := stI X208 hx hZ e208 Ar210 (j := (((((0 : Int32) + 1) + 1) + 1) + 1)) hin210 (g := (mkF m 224 (lt23 r0 5 kA5 (((((0 : Int32) + 1) + 1) + 1) + 1)) [(.int 1), (.int (((((0 : Int32) + 1) + 1) + 1) + 1)), (.ref b155)])) rfl rfl (hb hby d2_224)
  have V_b155_211 : Arv Z h211 b155 k155 .int (5 : Int32) [(.int 1), (.int 1), (.int 1), (.int 1), (.int 1)] (.int 0) := Arv.set Ar210 qa210 Sa210 Ma210 Ha210 Ga210 rfl W211 4 rfl (Nat.le_of_ble_eq_true rfl)
  have O211 := O206.wr W211 g_b155
  have N211 := Fr.snoc X211 N206 g_b155
  have K211 := K206.wr W211 (Or.inr sz_b155)
  have c212 := ((((c156.wr W161).wr W166).wr W171).wr W176)
  have c213 := (((((c212.wr W181).wr W186).wr W191).wr W196).wr W201)
  have c214 := ((c213.wr W206).wr W211)
  have c215 := ((((c144.ext E155).other W161 (Ne.symm ne_r0_b59)).other W166 ne_b59_b137).other W171 ne_b59_b155)
  have c216 := (((((c215.other W176 ne_b59_b137).other W181 ne_b59_b155).other W186 ne_b59_b137).other W191 ne_b59_b155).other W196 ne_b59_b137)
  have c217 := (((c216.other W201 ne_b59_b155).other W206 ne_b59_b137).other W211 ne_b59_b155)
  have c218 := ((((c145.ext E155).other W161 (Ne.symm ne_r0_b65)).other W166 ne_b65_b137).other W171 ne_b65_b155)
  have c219 := (((((c218.other W176 ne_b65_b137).other W181 ne_b65_b155).other W186 ne_b65_b137).other W191 ne_b65_b155).other W196 ne_b65_b137)
  have c220 := (((c219.other W201 ne_b65_b155).other W206 ne_b65_b137).other W211 ne_b65_b155)
  have c221 := ((((c146.ext E155).other W161 (Ne.symm ne_r0_b65r0)).other W166 ne_b65r0_b137).other W171 ne_b65r0_b155)
  have c222 := (((((c221.other W176 ne_b65r0_b137).other W181 ne_b65r0_b155).other W186 ne_b65r0_b137).other W191 ne_b65r0_b155).other W196 ne_b65r0_b137)
  have c223 := (((c222.other W201 ne_b65r0_b155).other W206 ne_b65r0_b137).other W211 ne_b65r0_b155)
  have c224 := ((((c147.ext E155).other W161 (Ne.symm ne_r0_b65r1)).other W166 ne_b65r1_b137).other W171 ne_b65r1_b155)
  have c225 := (((((c224.other W176 ne_b65r1_b137).other W181 ne_b65r1_b155).other W186 ne_b65r1_b137).other W191 ne_b65r1_b155).other W196 ne_b65r1_b137)
  have c226 := (((c225.other W201 ne_b65r1_b155).other W206 ne_b65r1_b137).other W211 ne_b65r1_b155)
  have c227 := ((((c148.ext E155).other W161 (Ne.symm ne_r0_b65r2)).other W166 ne_b65r2_b137).other W171 ne_b65r2_b155)
  have c228 := (((((c227.other W176 ne_b65r2_b137).other W181 ne_b65r2_b155).other W186 ne_b65r2_b137).other W191 ne_b65r2_b155).other W196 ne_b65r2_b137)
  have c229 := (((c228.other W201 ne_b65r2_b155).other W206 ne_b65r2_b137).other W211 ne_b65r2_b155)
  have c230 := ((((c149.ext E155).other W161 (Ne.symm ne_r0_b65r3)).other W166 ne_b65r3_b137).other W171 ne_b65r3_b155)
  have c231 := (((((c230.other W176 ne_b65r3_b137).other W181 ne_b65r3_b155).other W186 ne_b65r3_b137).other W191 ne_b65r3_b155).other W196 ne_b65r3_b137)
  have c232 := (((c231.other W201 ne_b65r3_b155).other W206 ne_b65r3_b137).other W211 ne_b65r3_b155)
  have c233 := ((((c150.ext E155).other W161 (Ne.symm ne_r0_b65r4)).other W166 ne_b65r4_b137).other W171 ne_b65r4_b155)
  have c234 := (((((c233.other W176 ne_b65r4_b137).other W181 ne_b65r4_b155).other W186 ne_b65r4_b137).other W191 ne_b65r4_b155).other W196 ne_b65r4_b137)
  have c235 := (((c234.other W201 ne_b65r4_b155).other W206 ne_b65r4_b137).other W211 ne_b65r4_b155)
  have c236 := ((((c151.ext E155).other W161 (Ne.symm ne_r0_b77)).other W166 ne_b77_b137).other W171 ne_b77_b155)
  have c237 := (((((c236.other W176 ne_b77_b137).other W181 ne_b77_b155).other W186 ne_b77_b137).other W191 ne_b77_b155).other W196 ne_b77_b137)
  have c238 := (((c237.other W201 ne_b77_b155).other W206 ne_b77_b137).other W211 ne_b77_b155)
  have c239 := ((((c152.ext E155).other W161 (Ne.symm ne_r0_b91)).other W166 ne_b91_b137).other W171 ne_b91_b155)
  have c240 := (((((c239.other W176 ne_b91_b137).other W181 ne_b91_b155).other W186 ne_b91_b137).other W191 ne_b91_b155).other W196 ne_b91_b137)
  have c241 := (((c240.other W201 ne_b91_b155).other W206 ne_b91_b137).other W211 ne_b91_b155)
  have c242 := ((((c153.ext E155).other W161 (Ne.symm ne_r0_b120)).other W166 ne_b120_b137).other W171 ne_b120_b155)
  have c243 := (((((c242.other W176 ne_b120_b137).other W181 ne_b120_b155).other W186 ne_b120_b137).other W191 ne_b120_b155).other W196 ne_b120_b137)
  have c244 := (((c243.other W201 ne_b120_b155).other W206 ne_b120_b137).other W211 ne_b120_b155)
  have c245 := (V_b137_206.other W211 ne_b137_b155)
  obtain ⟨T246, h246, k246, X246, e246, E246, A246, st246⟩ := newP X211 hx hZ (hw _ (tk 24 rfl)) e211 (g := (mkF m 233 (lt23 r0 5 kA5 ((((((0 : Int32) + 1) + 1) + 1) + 1) + 1)) [(.int 5), (.ref r0)])) rfl (hb hby d2_233) rfl (by decide) (cap := 5) (by decide) (by decide) (by decide) (by decide)
  obtain ⟨b246, g246⟩ : ∃ z, z = h211.size := ⟨_, rfl⟩
  rw [← g246] at A246 st246
  have g_b246 : n0 ≤ b246 := Nat.le_trans (own_old O211) (Nat.le_of_eq g246.symm)
  have sz_b246 : h0.size ≤ b246 := Nat.le_trans K211.1 (Nat.le_of_eq g246.symm)
  have ne_r0_b246 := own_ng c214.lt g246
  have ne_b59_b246 := own_ng c217.lt g246
  have ne_b65_b246 := own_ng c220.lt g246
  have ne_b65r0_b246 := own_ng c223.lt g246
  have ne_b65r1_b246 := own_ng c226.lt g246
  have ne_b65r2_b246 := own_ng c229.lt g246
  have ne_b65r3_b246 := own_ng c232.lt g246
  have ne_b65r4_b246 := own_ng c235.lt g246
  have ne_b77_b246 := own_ng c238.lt g246
  have ne_b91_b246 := own_ng c241.lt g246
  have ne_b120_b246 := own_ng c244.lt g246
  have ne_b137_b246 := own_ng c245.lt g246
  have ne_b155_b246 := own_ng V_b155_211.lt g246
  have O246 := O211.ext E246
  have K246 := K211.ext E246
  have V_b246 : Arv Z h246 b246 k246 .int (5 : Int32) [(.int 0), (.int 0), (.int 0), (.int 0), (.int 0)] (.int 0) := (Arv.new A246 (by decide)).pad (pad_rep [] (.int 0) 5)
  have c247 := (c214.ext E246)
  have c248 := ((((F_pending_r0.other W57 (Or.inr (sRR hw 45 14 rfl rfl rfl))).ext E59).other W62 (Or.inr (sRR hw 45 18 rfl rfl rfl))).ext E65)
  have c249 := (((((c248.other W68 (Or.inr (sRR hw 45 23 rfl rfl rfl))).ext E77).other W81 (Or.inr (sRR hw 45 26 rfl rfl rfl))).ext E91).other W95 (Or.inr (sRR hw 45 28 rfl rfl rfl)))
  have c250 := (((((c249.keep K109c (ninS ne_r0_b91 nin0)).ext E120).other W125 (Or.inr (sRR hw 45 39 rfl rfl rfl))).ext E137).other W142 (Or.inr (sRR hw 45 41 rfl rfl rfl)))
  have c251 := (((((c250.ext E155).other W161 (Or.inr (sRR hw 45 43 rfl rfl rfl))).other W166 (Or.inl ne_r0_b137)).other W171 (Or.inl ne_r0_b155)).other W176 (Or.inl ne_r0_b137))
  have c252 := (((((c251.other W181 (Or.inl ne_r0_b155)).other W186 (Or.inl ne_r0_b137)).other W191 (Or.inl ne_r0_b155)).other W196 (Or.inl ne_r0_b137)).other W201 (Or.inl ne_r0_b155))
  have c253 := (((c252.other W206 (Or.inl ne_r0_b137)).other W211 (Or.inl ne_r0_b155)).ext E246)
  obtain ⟨T254, h254, X254, e254, W254, st254⟩ := putF X246 hx hZ hown (host := "") (Or.inl (hw _ (tk 44 rfl))) Via.refl e246 c253 c247 (Or.inr ⟨(hw _ (tk 45 rfl)), rfl, hnm⟩) (hw _ (tk 2 rfl)) (ty := (.array .int)) (by decide) rfl rfl (g := (mkF m 235 (lt23 r0 5 kA5 ((((((0 : Int32) + 1) + 1) + 1) + 1) + 1)) [(.ref b246), (.ref r0)])) rfl rfl (hb hby d2_235)
  have Fw254 := c253.same W254
  have O254 := O246.wr W254 g_r0
  have N254 := Fr.snoc X254 N211 g_r0
  have K254 := K246.wr W254 (Or.inl (List.mem_of_getElem? (i := 0) rfl))
  have c255 := (c247.wr W254)
  have c256 := ((c217.ext E246).other W254 (Ne.symm ne_r0_b59))
  have c257 := ((c220.ext E246).other W254 (Ne.symm ne_r0_b65))
  have c258 := ((c223.ext E246).other W254 (Ne.symm ne_r0_b65r0))
  have c259 := ((c226.ext E246).other W254 (Ne.symm ne_r0_b65r1))
  have c260 := ((c229.ext E246).other W254 (Ne.symm ne_r0_b65r2))
  have c261 := ((c232.ext E246).other W254 (Ne.symm ne_r0_b65r3))
  have c262 := ((c235.ext E246).other W254 (Ne.symm ne_r0_b65r4))
  have c263 := ((c238.ext E246).other W254 (Ne.symm ne_r0_b77))
  have c264 := ((c241.ext E246).other W254 (Ne.symm ne_r0_b91))
  have c265 := ((c244.ext E246).other W254 (Ne.symm ne_r0_b120))
  have c266 := ((c245.ext E246).other W254 (Ne.symm ne_r0_b137))
  have c267 := ((V_b155_211.ext E246).other W254 (Ne.symm ne_r0_b155))
  have c268 := (V_b246.other W254 (Ne.symm ne_r0_b246))
  obtain ⟨T269, h269, k269, X269, e269, E269, A269, st269⟩ := newP X254 hx hZ (hw _ (tk 46 rfl)) e254 (g := (mkF m 240 (lt23 r0 5 kA5 ((((((0 : Int32) + 1) + 1) + 1) + 1) + 1)) [(.int 5), (.ref r0)])) rfl (hb hby d2_240) rfl (by decide) (cap := 5) (by decide) (by decide) (by decide) (by decide)
  obtain ⟨b269, g269⟩ : ∃ z, z = h254.size := ⟨_, rfl⟩
  rw [← g269] at A269 st269
  have g_b269 : n0 ≤ b269 := Nat.le_trans (own_old O254) (Nat.le_of_eq g269.symm)
  have sz_b269 : h0.size ≤ b269 := Nat.le_trans K254.1 (Nat.le_of_eq g269.symm)
  have ne_r0_b269 := own_ng c255.lt g269
  have ne_b59_b269 := own_ng c256.lt g269
  have ne_b65_b269 := own_ng c257.lt g269
  have ne_b65r0_b269 := own_ng c258.lt g269
  have ne_b65r1_b269 := own_ng c259.lt g269
  have ne_b65r2_b269 := own_ng c260.lt g269
  have ne_b65r3_b269 := own_ng c261.lt g269
  have ne_b65r4_b269 := own_ng c262.lt g269
  have ne_b77_b269 := own_ng c263.lt g269
  have ne_b91_b269 := own_ng c264.lt g269
  have ne_b120_b269 := own_ng c265.lt g269
  have ne_b137_b269 := own_ng c266.lt g269
  have ne_b155_b269 := own_ng c267.lt g269
  have ne_b246_b269 := own_ng c268.lt g269
  have O269 := O254.ext E269
  have K269 := K254.ext E269
  have V_b269 : Arv Z h269 b269 k269 .boolean (5 : Int32) [(.int 0), (.int 0), (.int 0), (.int 0), (.int 0)] (.int 0) := (Arv.new A269 (by decide)).pad (pad_rep [] (.int 0) 5)
  have c270 := (c255.ext E269)
  have c271 := ((((F_isPending_r0.other W57 (Or.inr (sRR hw 48 14 rfl rfl rfl))).ext E59).other W62 (Or.inr (sRR hw 48 18 rfl rfl rfl))).ext E65)
  have c272 := (((((c271.other W68 (Or.inr (sRR hw 48 23 rfl rfl rfl))).ext E77).other W81 (Or.inr (sRR hw 48 26 rfl rfl rfl))).ext E91).other W95 (Or.inr (sRR hw 48 28 rfl rfl rfl)))
  have c273 := (((((c272.keep K109c (ninS ne_r0_b91 nin0)).ext E120).other W125 (Or.inr (sRR hw 48 39 rfl rfl rfl))).ext E137).other W142 (Or.inr (sRR hw 48 41 rfl rfl rfl)))
  have c274 := (((((c273.ext E155).other W161 (Or.inr (sRR hw 48 43 rfl rfl rfl))).other W166 (Or.inl ne_r0_b137)).other W171 (Or.inl ne_r0_b155)).other W176 (Or.inl ne_r0_b137))
  have c275 := (((((c274.other W181 (Or.inl ne_r0_b155)).other W186 (Or.inl ne_r0_b137)).other W191 (Or.inl ne_r0_b155)).other W196 (Or.inl ne_r0_b137)).other W201 (Or.inl ne_r0_b155))
  have c276 := (((((c275.other W206 (Or.inl ne_r0_b137)).other W211 (Or.inl ne_r0_b155)).ext E246).other W254 (Or.inr (sRR hw 48 45 rfl rfl rfl))).ext E269)
  obtain ⟨T277, h277, X277, e277, W277, st277⟩ := putF X269 hx hZ hown (host := "") (Or.inl (hw _ (tk 47 rfl))) Via.refl e269 c276 c270 (Or.inr ⟨(hw _ (tk 48 rfl)), rfl, hnm⟩) (hw _ (tk 2 rfl)) (ty := (.array .boolean)) (by decide) rfl rfl (g := (mkF m 242 (lt23 r0 5 kA5 ((((((0 : Int32) + 1) + 1) + 1) + 1) + 1)) [(.ref b269), (.ref r0)])) rfl rfl (hb hby d2_242)
  have Fw277 := c276.same W277
  have O277 := O269.wr W277 g_r0
  have N277 := Fr.snoc X277 N254 g_r0
  have K277 := K269.wr W277 (Or.inl (List.mem_of_getElem? (i := 0) rfl))
  have c278 := (c270.wr W277)
  have c279 := ((c256.ext E269).other W277 (Ne.symm ne_r0_b59))
  have c280 := ((c257.ext E269).other W277 (Ne.symm ne_r0_b65))
  have c281 := ((c258.ext E269).other W277 (Ne.symm ne_r0_b65r0))
  have c282 := ((c259.ext E269).other W277 (Ne.symm ne_r0_b65r1))
  have c283 := ((c260.ext E269).other W277 (Ne.symm ne_r0_b65r2))
  have c284 := ((c261.ext E269).other W277 (Ne.symm ne_r0_b65r3))
  have c285 := ((c262.ext E269).other W277 (Ne.symm ne_r0_b65r4))
  have c286 := ((c263.ext E269).other W277 (Ne.symm ne_r0_b77))
  have c287 := ((c264.ext E269).other W277 (Ne.symm ne_r0_b91))
  have c288 := ((c265.ext E269).other W277 (Ne.symm ne_r0_b120))
  have c289 := ((c266.ext E269).other W277 (Ne.symm ne_r0_b137))
  have c290 := ((c267.ext E269).other W277 (Ne.symm ne_r0_b155))
  have c291 := ((c268.ext E269).other W277 (Ne.symm ne_r0_b246))
  have c292 := (V_b269.other W277 (Ne.symm ne_r0_b269))
  obtain ⟨T293, h293, k293, X293, e293, E293, A293, st293⟩ := newP X277 hx hZ (hw _ (tk 24 rfl)) e277 (g := (mkF m 249 (lt23 r0 5 kA5 ((((((0 : Int32) + 1) + 1) + 1) + 1) + 1)) [(.int ((5 : Int32) + 1)), (.ref r0)])) rfl (hb hby d2_249) rfl (by decide) (cap := 6) (by decide) (by decide) (by decide) (by decide)
  obtain ⟨b293, g293⟩ : ∃ z, z = h277.size := ⟨_, rfl⟩
  rw [← g293] at A293 st293
  have g_b293 : n0 ≤ b293 := Nat.le_trans (own_old O277) (Nat.le_of_eq g293.symm)
  have sz_b293 : h0.size ≤ b293 := Nat.le_trans K277.1 (Nat.le_of_eq g293.symm)
  have ne_r0_b293 := own_ng c278.lt g293
  have ne_b59_b293 := own_ng c279.lt g293
  have ne_b65_b293 := own_ng c280.lt g293
  have ne_b65r0_b293 := own_ng c281.lt g293
  have ne_b65r1_b293 := own_ng c282.lt g293
  have ne_b65r2_b293 := own_ng c283.lt g293
  have ne_b65r3_b293 := own_ng c284.lt g293
  have ne_b65r4_b293 := own_ng c285.lt g293
  have ne_b77_b293 := own_ng c286.lt g293
  have ne_b91_b293 := own_ng c287.lt g293
  have ne_b120_b293 := own_ng c288.lt g293
  have ne_b137_b293 := own_ng c289.lt g293
  have ne_b155_b293 := own_ng c290.lt g293
  have ne_b246_b293 := own_ng c291.lt g293
  have ne_b269_b293 := own_ng c292.lt g293
  have O293 := O277.ext E293
  have K293 := K277.ext E293
  have V_b293 : Arv Z h293 b293 k293 .int ((5 : Int32) + 1) [(.int 0), (.int 0), (.int 0), (.int 0), (.int 0), (.int 0)] (.int 0) := (Arv.new A293 (by decide)).pad (pad_rep [] (.int 0) 6)
  have c294 := (c278.ext E293)
  have c295 := ((((F_listStart_r0.other W57 (Or.inr (sRR hw 50 14 rfl rfl rfl))).ext E59).other W62 (Or.inr (sRR hw 50 18 rfl rfl rfl))).ext E65)
  have c296 := (((((c295.other W68 (Or.inr (sRR hw 50 23 rfl rfl rfl))).ext E77).other W81 (Or.inr (sRR hw 50 26 rfl rfl rfl))).ext E91).other W95 (Or.inr (sRR hw 50 28 rfl rfl rfl)))
  have c297 := (((((c296.keep K109c (ninS ne_r0_b91 nin0)).ext E120).other W125 (Or.inr (sRR hw 50 39 rfl rfl rfl))).ext E137).other W142 (Or.inr (sRR hw 50 41 rfl rfl rfl)))
  have c298 := (((((c297.ext E155).other W161 (Or.inr (sRR hw 50 43 rfl rfl rfl))).other W166 (Or.inl ne_r0_b137)).other W171 (Or.inl ne_r0_b155)).other W176 (Or.inl ne_r0_b137))
  have c299 := (((((c298.other W181 (Or.inl ne_r0_b155)).other W186 (Or.inl ne_r0_b137)).other W191 (Or.inl ne_r0_b155)).other W196 (Or.inl ne_r0_b137)).other W201 (Or.inl ne_r0_b155))
  have c300 := (((((c299.other W206 (Or.inl ne_r0_b137)).other W211 (Or.inl ne_r0_b155)).ext E246).other W254 (Or.inr (sRR hw 50 45 rfl rfl rfl))).ext E269)
  have c301 := ((c300.other W277 (Or.inr (sRR hw 50 48 rfl rfl rfl))).ext E293)
  obtain ⟨T302, h302, X302, e302, W302, st302⟩ := putF X293 hx hZ hown (host := "") (Or.inl (hw _ (tk 49 rfl))) Via.refl e293 c301 c294 (Or.inr ⟨(hw _ (tk 50 rfl)), rfl, hnm⟩) (hw _ (tk 2 rfl)) (ty := (.array .int)) (by decide) rfl rfl (g := (mkF m 251 (lt23 r0 5 kA5 ((((((0 : Int32) + 1) + 1) + 1) + 1) + 1)) [(.ref b293), (.ref r0)])) rfl rfl (hb hby d2_251)
  have Fw302 := c301.same W302
  have O302 := O293.wr W302 g_r0
  have N302 := Fr.snoc X302 N277 g_r0
  have K302 := K293.wr W302 (Or.inl (List.mem_of_getElem? (i := 0) rfl))
  obtain ⟨_, _, ⟨T303, L303, k303, n303⟩, -, X303, ⟨Lc303, hQ303, l303, y303, z303⟩, st303⟩ := Jvm.LawKit.callS X302 hx (y := Y23) hown (mvT hZ (hw _ (tk 34 rfl))) (mvT hZ (hw _ (tk 35 rfl))) (mvT hZ (hw _ (tk 36 rfl))) (mvT hZ (hw _ (tk 37 rfl))) (by decide) (backOf (W := 1) (rm5x2 l Z a0 hw [] hS0 h302 n0 O302) hZ (hw _ (tk 37 rfl)) (hw _ (tk 36 rfl)) (by decide) (by decide)) (g := (mkF m 256 (lt23 r0 5 kA5 ((((((0 : Int32) + 1) + 1) + 1) + 1) + 1)) [(.long kA5), (.ref r0)])) rfl (by rw [hml]; rfl) (argsL := [(.long kA5)]) (rest := [(.ref r0)]) (lenOf pd_1 rfl) rfl (by show 2 * 0 + _ ≤ _; exact Nat.le_of_eq rfl) (hb hby d2_256) (fun _ _ => ⟨rfl, e302, (by decide : 15 + 0 ≤ _), (by decide : 116 + 0 ≤ _)⟩)
  dsimp only [Pt.U, Pt.locs, Pt.cells, Pt.slots] at X303 l303 y303 z303 st303 hQ303
  rw [l303, y303, z303] at X303
  obtain ⟨rv303, N303q, e303⟩ := hQ303
  subst rv303
  have N303 := Fr.app N302 N303q
  have c304 := (c294.wr W302)
  have c305 := ((c279.ext E293).other W302 (Ne.symm ne_r0_b59))
  have c306 := ((c280.ext E293).other W302 (Ne.symm ne_r0_b65))
  have c307 := ((c281.ext E293).other W302 (Ne.symm ne_r0_b65r0))
  have c308 := ((c282.ext E293).other W302 (Ne.symm ne_r0_b65r1))
  have c309 := ((c283.ext E293).other W302 (Ne.symm ne_r0_b65r2))
  have c310 := ((c284.ext E293).other W302 (Ne.symm ne_r0_b65r3))
  have c311 := ((c285.ext E293).other W302 (Ne.symm ne_r0_b65r4))
  have c312 := ((c286.ext E293).other W302 (Ne.symm ne_r0_b77))
  have c313 := ((c287.ext E293).other W302 (Ne.symm ne_r0_b91))
  have c314 := ((c288.ext E293).other W302 (Ne.symm ne_r0_b120))
  have c315 := ((c289.ext E293).other W302 (Ne.symm ne_r0_b137))
  have c316 := ((c290.ext E293).other W302 (Ne.symm ne_r0_b155))
  have c317 := ((c291.ext E293).other W302 (Ne.symm ne_r0_b246))
  have c318 := ((c292.ext E293).other W302 (Ne.symm ne_r0_b269))
  have c319 := (V_b293.other W302 (Ne.symm ne_r0_b293))
  obtain ⟨T320, h320, k320, X320, e320, E320, A320, st320⟩ := newP X303 hx hZ (hw _ (tk 24 rfl)) e303 (g := (mkF m 259 (lt23 r0 5 kA5 ((((((0 : Int32) + 1) + 1) + 1) + 1) + 1)) [(.int (kA5.toInt32)), (.ref r0)])) rfl (hb hby d2_259) rfl (by decide) (cap := 20) (by decide) (by decide) (by decide) (by decide)
  obtain ⟨b320, g320⟩ : ∃ z, z = h302.size := ⟨_, rfl⟩
  rw [← g320] at A320 st320
  have g_b320 : n0 ≤ b320 := Nat.le_trans (own_old O302) (Nat.le_of_eq g320.symm)
  have sz_b320 : h0.size ≤ b320 := Nat.le_trans K302.1 (Nat.le_of_eq g320.symm)
  have ne_r0_b320 := own_ng c304.lt g320
  have ne_b59_b320 := own_ng c305.lt g320
  have ne_b65_b320 := own_ng c306.lt g320
  have ne_b65r0_b320 := own_ng c307.lt g320
  have ne_b65r1_b320 := own_ng c308.lt g320
  have ne_b65r2_b320 := own_ng c309.lt g320
  have ne_b65r3_b320 := own_ng c310.lt g320
  have ne_b65r4_b320 := own_ng c311.lt g320
  have ne_b77_b320 := own_ng c312.lt g320
  have ne_b91_b320 := own_ng c313.lt g320
  have ne_b120_b320 := own_ng c314.lt g320
  have ne_b137_b320 := own_ng c315.lt g320
  have ne_b155_b320 := own_ng c316.lt g320
  have ne_b246_b320 := own_ng c317.lt g320
  have ne_b269_b320 := own_ng c318.lt g320
  have ne_b293_b320 := own_ng c319.lt g320
  have O320 := O302.ext E320
  have K320 := K302.ext E320
  have V_b320 : Arv Z h320 b320 k320 .int (kA5.toInt32) [(.int 0), (.int 0), (.int 0), (.int 0), (.int 0), (.int 0), (.int 0), (.int 0), (.int 0), (.int 0), (.int 0), (.int 0), (.int 0), (.int 0), (.int 0), (.int 0), (.int 0), (.int 0), (.int 0), (.int 0)] (.int 0) := (Arv.new A320 (by decide)).pad (pad_rep [] (.int 0) 20)
  have c321 := (c304.ext E320)
  have c322 := ((((F_neighbours_r0.other W57 (Or.inr (sRR hw 52 14 rfl rfl rfl))).ext E59).other W62 (Or.inr (sRR hw 52 18 rfl rfl rfl))).ext E65)
  have c323 := (((((c322.other W68 (Or.inr (sRR hw 52 23 rfl rfl rfl))).ext E77).other W81 (Or.inr (sRR hw 52 26 rfl rfl rfl))).ext E91).other W95 (Or.inr (sRR hw 52 28 rfl rfl rfl)))
  have c324 := (((((c323.keep K109c (ninS ne_r0_b91 nin0)).ext E120).other W125 (Or.inr (sRR hw 52 39 rfl rfl rfl))).ext E137).other W142 (Or.inr (sRR hw 52 41 rfl rfl rfl)))
  have c325 := (((((c324.ext E155).other W161 (Or.inr (sRR hw 52 43 rfl rfl rfl))).other W166 (Or.inl ne_r0_b137)).other W171 (Or.inl ne_r0_b155)).other W176 (Or.inl ne_r0_b137))
  have c326 := (((((c325.other W181 (Or.inl ne_r0_b155)).other W186 (Or.inl ne_r0_b137)).other W191 (Or.inl ne_r0_b155)).other W196 (Or.inl ne_r0_b137)).other W201 (Or.inl ne_r0_b155))
  have c327 := (((((c326.other W206 (Or.inl ne_r0_b137)).other W211 (Or.inl ne_r0_b155)).ext E246).other W254 (Or.inr (sRR hw 52 45 rfl rfl rfl))).ext E269)
  have c328 := ((((c327.other W277 (Or.inr (sRR hw 52 48 rfl rfl rfl))).ext E293).other W302 (Or.inr (sRR hw 52 50 rfl rfl rfl))).ext E320)
  obtain ⟨T329, h329, X329, e329, W329, st329⟩ := putF X320 hx hZ hown (host := "") (Or.inl (hw _ (tk 51 rfl))) Via.refl e320 c328 c321 (Or.inr ⟨(hw _ (tk 52 rfl)), rfl, hnm⟩) (hw _ (tk 2 rfl)) (ty := (.array .int)) (by decide) rfl rfl (g := (mkF m 261 (lt23 r0 5 kA5 ((((((0 : Int32) + 1) + 1) + 1) + 1) + 1)) [(.ref b320), (.ref r0)])) rfl rfl (hb hby d2_261)
  have Fw329 := c328.same W329
  have O329 := O320.wr W329 g_r0
  have N329 := Fr.snoc X329 N303 g_r0
  have K329 := K320.wr W329 (Or.inl (List.mem_of_getElem? (i := 0) rfl))
  have c330 := (c321.wr W329)
  have c331 := ((((Fw57.ext E59).other W62 (Or.inr (sRR hw 14 18 rfl rfl rfl))).ext E65).other W68 (Or.inr (sRR hw 14 23 rfl rfl rfl)))
  have c332 := (((((c331.ext E77).other W81 (Or.inr (sRR hw 14 26 rfl rfl rfl))).ext E91).other W95 (Or.inr (sRR hw 14 28 rfl rfl rfl))).keep K109c (ninS ne_r0_b91 nin0))
  have c333 := (((((c332.ext E120).other W125 (Or.inr (sRR hw 14 39 rfl rfl rfl))).ext E137).other W142 (Or.inr (sRR hw 14 41 rfl rfl rfl))).ext E155)
  have c334 := (((((c333.other W161 (Or.inr (sRR hw 14 43 rfl rfl rfl))).other W166 (Or.inl ne_r0_b137)).other W171 (Or.inl ne_r0_b155)).other W176 (Or.inl ne_r0_b137)).other W181 (Or.inl ne_r0_b155))
  have c335 := (((((c334.other W186 (Or.inl ne_r0_b137)).other W191 (Or.inl ne_r0_b155)).other W196 (Or.inl ne_r0_b137)).other W201 (Or.inl ne_r0_b155)).other W206 (Or.inl ne_r0_b137))
  have c336 := (((((c335.other W211 (Or.inl ne_r0_b155)).ext E246).other W254 (Or.inr (sRR hw 14 45 rfl rfl rfl))).ext E269).other W277 (Or.inr (sRR hw 14 48 rfl rfl rfl)))
  have c337 := ((((c336.ext E293).other W302 (Or.inr (sRR hw 14 50 rfl rfl rfl))).ext E320).other W329 (Or.inr (sRR hw 14 52 rfl rfl rfl)))
  have c338 := ((((Fw62.ext E65).other W68 (Or.inr (sRR hw 18 23 rfl rfl rfl))).ext E77).other W81 (Or.inr (sRR hw 18 26 rfl rfl rfl)))
  have c339 := (((((c338.ext E91).other W95 (Or.inr (sRR hw 18 28 rfl rfl rfl))).keep K109c (ninS ne_r0_b91 nin0)).ext E120).other W125 (Or.inr (sRR hw 18 39 rfl rfl rfl)))
  have c340 := (((((c339.ext E137).other W142 (Or.inr (sRR hw 18 41 rfl rfl rfl))).ext E155).other W161 (Or.inr (sRR hw 18 43 rfl rfl rfl))).other W166 (Or.inl ne_r0_b137))
  have c341 := (((((c340.other W171 (Or.inl ne_r0_b155)).other W176 (Or.inl ne_r0_b137)).other W181 (Or.inl ne_r0_b155)).other W186 (Or.inl ne_r0_b137)).other W191 (Or.inl ne_r0_b155))
  have c342 := (((((c341.other W196 (Or.inl ne_r0_b137)).other W201 (Or.inl ne_r0_b155)).other W206 (Or.inl ne_r0_b137)).other W211 (Or.inl ne_r0_b155)).ext E246)
  have c343 := (((((c342.other W254 (Or.inr (sRR hw 18 45 rfl rfl rfl))).ext E269).other W277 (Or.inr (sRR hw 18 48 rfl rfl rfl))).ext E293).other W302 (Or.inr (sRR hw 18 50 rfl rfl rfl)))
  have c344 := ((c343.ext E320).other W329 (Or.inr (sRR hw 18 52 rfl rfl rfl)))
  have c345 := ((((Fw81.ext E91).other W95 (Or.inr (sRR hw 26 28 rfl rfl rfl))).keep K109c (ninS ne_r0_b91 nin0)).ext E120)
  have c346 := (((((c345.other W125 (Or.inr (sRR hw 26 39 rfl rfl rfl))).ext E137).other W142 (Or.inr (sRR hw 26 41 rfl rfl rfl))).ext E155).other W161 (Or.inr (sRR hw 26 43 rfl rfl rfl)))
  have c347 := (((((c346.other W166 (Or.inl ne_r0_b137)).other W171 (Or.inl ne_r0_b155)).other W176 (Or.inl ne_r0_b137)).other W181 (Or.inl ne_r0_b155)).other W186 (Or.inl ne_r0_b137))
  have c348 := (((((c347.other W191 (Or.inl ne_r0_b155)).other W196 (Or.inl ne_r0_b137)).other W201 (Or.inl ne_r0_b155)).other W206 (Or.inl ne_r0_b137)).other W211 (Or.inl ne_r0_b155))
  have c349 := (((((c348.ext E246).other W254 (Or.inr (sRR hw 26 45 rfl rfl rfl))).ext E269).other W277 (Or.inr (sRR hw 26 48 rfl rfl rfl))).ext E293)
  have c350 := (((c349.other W302 (Or.inr (sRR hw 26 50 rfl rfl rfl))).ext E320).other W329 (Or.inr (sRR hw 26 52 rfl rfl rfl)))
  have c351 := ((((Fw277.ext E293).other W302 (Or.inr (sRR hw 48 50 rfl rfl rfl))).ext E320).other W329 (Or.inr (sRR hw 48 52 rfl rfl rfl)))
  have c352 := ((Fw302.ext E320).other W329 (Or.inr (sRR hw 50 52 rfl rfl rfl)))
  have c353 := ((((F_listed_r0.other W57 (Or.inr (sLR hw 67 14 rfl rfl rfl))).ext E59).other W62 (Or.inr (sLR hw 67 18 rfl rfl rfl))).ext E65)
  have c354 := (((((c353.other W68 (Or.inr (sLR hw 67 23 rfl rfl rfl))).ext E77).other W81 (Or.inr (sLR hw 67 26 rfl rfl rfl))).ext E91).other W95 (Or.inr (sLR hw 67 28 rfl rfl rfl)))
  have c355 := (((((c354.keep K109c (ninS ne_r0_b91 nin0)).ext E120).other W125 (Or.inr (sLR hw 67 39 rfl rfl rfl))).ext E137).other W142 (Or.inr (sLR hw 67 41 rfl rfl rfl)))
  have c356 := (((((c355.ext E155).other W161 (Or.inr (sLR hw 67 43 rfl rfl rfl))).other W166 (Or.inl ne_r0_b137)).other W171 (Or.inl ne_r0_b155)).other W176 (Or.inl ne_r0_b137))
  have c357 := (((((c356.other W181 (Or.inl ne_r0_b155)).other W186 (Or.inl ne_r0_b137)).other W191 (Or.inl ne_r0_b155)).other W196 (Or.inl ne_r0_b137)).other W201 (Or.inl ne_r0_b155))
  have c358 := (((((c357.other W206 (Or.inl ne_r0_b137)).other W211 (Or.inl ne_r0_b155)).ext E246).other W254 (Or.inr (sLR hw 67 45 rfl rfl rfl))).ext E269)
  have c359 := (((((c358.other W277 (Or.inr (sLR hw 67 48 rfl rfl rfl))).ext E293).other W302 (Or.inr (sLR hw 67 50 rfl rfl rfl))).ext E320).other W329 (Or.inr (sLR hw 67 52 rfl rfl rfl)))
  have c360 := ((((Fw95.keep K109c (ninS ne_r0_b91 nin0)).ext E120).other W125 (Or.inr (sRR hw 28 39 rfl rfl rfl))).ext E137)
  have c361 := (((((c360.other W142 (Or.inr (sRR hw 28 41 rfl rfl rfl))).ext E155).other W161 (Or.inr (sRR hw 28 43 rfl rfl rfl))).other W166 (Or.inl ne_r0_b137)).other W171 (Or.inl ne_r0_b155))
  have c362 := (((((c361.other W176 (Or.inl ne_r0_b137)).other W181 (Or.inl ne_r0_b155)).other W186 (Or.inl ne_r0_b137)).other W191 (Or.inl ne_r0_b155)).other W196 (Or.inl ne_r0_b137))
  have c363 := (((((c362.other W201 (Or.inl ne_r0_b155)).other W206 (Or.inl ne_r0_b137)).other W211 (Or.inl ne_r0_b155)).ext E246).other W254 (Or.inr (sRR hw 28 45 rfl rfl rfl)))
  have c364 := (((((c363.ext E269).other W277 (Or.inr (sRR hw 28 48 rfl rfl rfl))).ext E293).other W302 (Or.inr (sRR hw 28 50 rfl rfl rfl))).ext E320)
  have c365 := (c364.other W329 (Or.inr (sRR hw 28 52 rfl rfl rfl)))
  have c366 := ((((c202.other W206 (Or.inl ne_r0_b137)).other W211 (Or.inl ne_r0_b155)).ext E246).other W254 (Or.inr (sRR hw 41 45 rfl rfl rfl)))
  have c367 := (((((c366.ext E269).other W277 (Or.inr (sRR hw 41 48 rfl rfl rfl))).ext E293).other W302 (Or.inr (sRR hw 41 50 rfl rfl rfl))).ext E320)
  have c368 := (c367.other W329 (Or.inr (sRR hw 41 52 rfl rfl rfl)))
  have c369 := ((((c207.other W211 (Or.inl ne_r0_b155)).ext E246).other W254 (Or.inr (sRR hw 43 45 rfl rfl rfl))).ext E269)
  have c370 := (((((c369.other W277 (Or.inr (sRR hw 43 48 rfl rfl rfl))).ext E293).other W302 (Or.inr (sRR hw 43 50 rfl rfl rfl))).ext E320).other W329 (Or.inr (sRR hw 43 52 rfl rfl rfl)))
  have c371 := ((((Fw254.ext E269).other W277 (Or.inr (sRR hw 45 48 rfl rfl rfl))).ext E293).other W302 (Or.inr (sRR hw 45 50 rfl rfl rfl)))
  have c372 := ((c371.ext E320).other W329 (Or.inr (sRR hw 45 52 rfl rfl rfl)))
  have c373 := ((((F_pendingCount_r0.other W57 (Or.inr (sLR hw 77 14 rfl rfl rfl))).ext E59).other W62 (Or.inr (sLR hw 77 18 rfl rfl rfl))).ext E65)
  have c374 := (((((c373.other W68 (Or.inr (sLR hw 77 23 rfl rfl rfl))).ext E77).other W81 (Or.inr (sLR hw 77 26 rfl rfl rfl))).ext E91).other W95 (Or.inr (sLR hw 77 28 rfl rfl rfl)))
  have c375 := (((((c374.keep K109c (ninS ne_r0_b91 nin0)).ext E120).other W125 (Or.inr (sLR hw 77 39 rfl rfl rfl))).ext E137).other W142 (Or.inr (sLR hw 77 41 rfl rfl rfl)))
  have c376 := (((((c375.ext E155).other W161 (Or.inr (sLR hw 77 43 rfl rfl rfl))).other W166 (Or.inl ne_r0_b137)).other W171 (Or.inl ne_r0_b155)).other W176 (Or.inl ne_r0_b137))
  have c377 := (((((c376.other W181 (Or.inl ne_r0_b155)).other W186 (Or.inl ne_r0_b137)).other W191 (Or.inl ne_r0_b155)).other W196 (Or.inl ne_r0_b137)).other W201 (Or.inl ne_r0_b155))
  have c378 := (((((c377.other W206 (Or.inl ne_r0_b137)).other W211 (Or.inl ne_r0_b155)).ext E246).other W254 (Or.inr (sLR hw 77 45 rfl rfl rfl))).ext E269)
  have c379 := (((((c378.other W277 (Or.inr (sLR hw 77 48 rfl rfl rfl))).ext E293).other W302 (Or.inr (sLR hw 77 50 rfl rfl rfl))).ext E320).other W329 (Or.inr (sLR hw 77 52 rfl rfl rfl)))
  have c380 := ((((F_pendingHead_r0.other W57 (Or.inr (sLR hw 75 14 rfl rfl rfl))).ext E59).other W62 (Or.inr (sLR hw 75 18 rfl rfl rfl))).ext E65)
  have c381 := (((((c380.other W68 (Or.inr (sLR hw 75 23 rfl rfl rfl))).ext E77).other W81 (Or.inr (sLR hw 75 26 rfl rfl rfl))).ext E91).other W95 (Or.inr (sLR hw 75 28 rfl rfl rfl)))
  have c382 := (((((c381.keep K109c (ninS ne_r0_b91 nin0)).ext E120).other W125 (Or.inr (sLR hw 75 39 rfl rfl rfl))).ext E137).other W142 (Or.inr (sLR hw 75 41 rfl rfl rfl)))
  have c383 := (((((c382.ext E155).other W161 (Or.inr (sLR hw 75 43 rfl rfl rfl))).other W166 (Or.inl ne_r0_b137)).other W171 (Or.inl ne_r0_b155)).other W176 (Or.inl ne_r0_b137))
  have c384 := (((((c383.other W181 (Or.inl ne_r0_b155)).other W186 (Or.inl ne_r0_b137)).other W191 (Or.inl ne_r0_b155)).other W196 (Or.inl ne_r0_b137)).other W201 (Or.inl ne_r0_b155))
  have c385 := (((((c384.other W206 (Or.inl ne_r0_b137)).other W211 (Or.inl ne_r0_b155)).ext E246).other W254 (Or.inr (sLR hw 75 45 rfl rfl rfl))).ext E269)
  have c386 := (((((c385.other W277 (Or.inr (sLR hw 75 48 rfl rfl rfl))).ext E293).other W302 (Or.inr (sLR hw 75 50 rfl rfl rfl))).ext E320).other W329 (Or.inr (sLR hw 75 52 rfl rfl rfl)))
  have c387 := ((((Fw68.ext E77).other W81 (Or.inr (sRR hw 23 26 rfl rfl rfl))).ext E91).other W95 (Or.inr (sRR hw 23 28 rfl rfl rfl)))
  have c388 := (((((c387.keep K109c (ninS ne_r0_b91 nin0)).ext E120).other W125 (Or.inr (sRR hw 23 39 rfl rfl rfl))).ext E137).other W142 (Or.inr (sRR hw 23 41 rfl rfl rfl)))
  have c389 := (((((c388.ext E155).other W161 (Or.inr (sRR hw 23 43 rfl rfl rfl))).other W166 (Or.inl ne_r0_b137)).other W171 (Or.inl ne_r0_b155)).other W176 (Or.inl ne_r0_b137))
  have c390 := (((((c389.other W181 (Or.inl ne_r0_b155)).other W186 (Or.inl ne_r0_b137)).other W191 (Or.inl ne_r0_b155)).other W196 (Or.inl ne_r0_b137)).other W201 (Or.inl ne_r0_b155))
  have c391 := (((((c390.other W206 (Or.inl ne_r0_b137)).other W211 (Or.inl ne_r0_b155)).ext E246).other W254 (Or.inr (sRR hw 23 45 rfl rfl rfl))).ext E269)
  have c392 := (((((c391.other W277 (Or.inr (sRR hw 23 48 rfl rfl rfl))).ext E293).other W302 (Or.inr (sRR hw 23 50 rfl rfl rfl))).ext E320).other W329 (Or.inr (sRR hw 23 52 rfl rfl rfl)))
  have c393 := ((((Fw125.ext E137).other W142 (Or.inr (sRR hw 39 41 rfl rfl rfl))).ext E155).other W161 (Or.inr (sRR hw 39 43 rfl rfl rfl)))
  have c394 := (((((c393.other W166 (Or.inl ne_r0_b137)).other W171 (Or.inl ne_r0_b155)).other W176 (Or.inl ne_r0_b137)).other W181 (Or.inl ne_r0_b155)).other W186 (Or.inl ne_r0_b137))
  have c395 := (((((c394.other W191 (Or.inl ne_r0_b155)).other W196 (Or.inl ne_r0_b137)).other W201 (Or.inl ne_r0_b155)).other W206 (Or.inl ne_r0_b137)).other W211 (Or.inl ne_r0_b155))
  have c396 := (((((c395.ext E246).other W254 (Or.inr (sRR hw 39 45 rfl rfl rfl))).ext E269).other W277 (Or.inr (sRR hw 39 48 rfl rfl rfl))).ext E293)
  have c397 := (((c396.other W302 (Or.inr (sRR hw 39 50 rfl rfl rfl))).ext E320).other W329 (Or.inr (sRR hw 39 52 rfl rfl rfl)))
  have c398 := ((((F_trailSize_r0.other W57 (Or.inr (sLR hw 69 14 rfl rfl rfl))).ext E59).other W62 (Or.inr (sLR hw 69 18 rfl rfl rfl))).ext E65)
  have c399 := (((((c398.other W68 (Or.inr (sLR hw 69 23 rfl rfl rfl))).ext E77).other W81 (Or.inr (sLR hw 69 26 rfl rfl rfl))).ext E91).other W95 (Or.inr (sLR hw 69 28 rfl rfl rfl)))
  have c400 := (((((c399.keep K109c (ninS ne_r0_b91 nin0)).ext E120).other W125 (Or.inr (sLR hw 69 39 rfl rfl rfl))).ext E137).other W142 (Or.inr (sLR hw 69 41 rfl rfl rfl)))
  have c401 := (((((c400.ext E155).other W161 (Or.inr (sLR hw 69 43 rfl rfl rfl))).other W166 (Or.inl ne_r0_b137)).other W171 (Or.inl ne_r0_b155)).other W176 (Or.inl ne_r0_b137))
  have c402 := (((((c401.other W181 (Or.inl ne_r0_b155)).other W186 (Or.inl ne_r0_b137)).other W191 (Or.inl ne_r0_b155)).other W196 (Or.inl ne_r0_b137)).other W201 (Or.inl ne_r0_b155))
  have c403 := (((((c402.other W206 (Or.inl ne_r0_b137)).other W211 (Or.inl ne_r0_b155)).ext E246).other W254 (Or.inr (sLR hw 69 45 rfl rfl rfl))).ext E269)
  have c404 := (((((c403.other W277 (Or.inr (sLR hw 69 48 rfl rfl rfl))).ext E293).other W302 (Or.inr (sLR hw 69 50 rfl rfl rfl))).ext E320).other W329 (Or.inr (sLR hw 69 52 rfl rfl rfl)))
  have c405 := ((c305.ext E320).other W329 (Ne.symm ne_r0_b59))
  have c406 := ((c306.ext E320).other W329 (Ne.symm ne_r0_b65))
  have c407 := ((c307.ext E320).other W329 (Ne.symm ne_r0_b65r0))
  have c408 := ((c308.ext E320).other W329 (Ne.symm ne_r0_b65r1))
  have c409 := ((c309.ext E320).other W329 (Ne.symm ne_r0_b65r2))
  have c410 := ((c310.ext E320).other W329 (Ne.symm ne_r0_b65r3))
  have c411 := ((c311.ext E320).other W329 (Ne.symm ne_r0_b65r4))
  have c412 := ((c312.ext E320).other W329 (Ne.symm ne_r0_b77))
  have c413 := ((c313.ext E320).other W329 (Ne.symm ne_r0_b91))
  have c414 := ((c314.ext E320).other W329 (Ne.symm ne_r0_b120))
  have c415 := ((c315.ext E320).other W329 (Ne.symm ne_r0_b137))
  have c416 := ((c316.ext E320).other W329 (Ne.symm ne_r0_b155))
  have c417 := ((c317.ext E320).other W329 (Ne.symm ne_r0_b246))
  have c418 := ((c318.ext E320).other W329 (Ne.symm ne_r0_b269))
  have c419 := ((c319.ext E320).other W329 (Ne.symm ne_r0_b293))
  have c420 := (V_b320.other W329 (Ne.symm ne_r0_b320))
  have B421 : EB Z n0 false h329 r0 (fun r => ([b77, b91, b137, b155, b246, b269, b120, b293, b320, b65r0, b65r1, b65r2, b65r3, b65r4] : List Addr).getD (iR r) 0) (fun r => ([k77, k91, k137, k155, k246, k269, k120, k293, k320, kc65, kc65, kc65, kc65, kc65] : List ClassId).getD (iR r) 0) b65 5 M0_5 := by
    refine own_mkEB rfl (by decide) c330 (fun i hi => ?_) ?_ ?_ ?_ ?_ ?_ g_r0 (Ne.symm ne_r0_b65) (by decide)
    · match i, hi with
      | 0, _ => exact own_ari c412 [0, 0, 0, 0, 0] rfl rfl rfl
      | 1, _ => exact own_ari c413 [4, 4, 4, 4, 4] rfl rfl rfl
      | 2, _ => exact own_ari c415 [0, 1, 2, 3, 4] rfl rfl rfl
      | 3, _ => exact own_ari c416 [1, 1, 1, 1, 1] rfl rfl rfl
      | 4, _ => exact own_ari c417 [0, 0, 0, 0, 0] rfl rfl rfl
      | 5, _ => exact own_ari c418 [0, 0, 0, 0, 0] rfl rfl rfl
      | 6, _ => exact own_ariH c414 (List.replicate 50 0) rfl rfl
      | 7, _ => exact own_ari c419 [0, 0, 0, 0, 0, 0] rfl rfl rfl
      | 8, _ => exact own_ari c420 [0, 0, 0, 0, 0, 0, 0, 0, 0, 0, 0, 0, 0, 0, 0, 0, 0, 0, 0, 0] rfl rfl rfl
      | 9, _ => exact own_ari c407 [0, 0, 0, 0, 0] rfl rfl rfl
      | 10, _ => exact own_ari c408 [0, 0, 0, 0, 0] rfl rfl rfl
      | 11, _ => exact own_ari c409 [0, 0, 0, 0, 0] rfl rfl rfl
      | 12, _ => exact own_ari c410 [0, 0, 0, 0, 0] rfl rfl rfl
      | 13, _ => exact own_ari c411 [0, 0, 0, 0, 0] rfl rfl rfl
      | k + 14, h => exact absurd h (by simp)
    · intro p hp
      simp only [frefs, List.mem_cons, List.not_mem_nil, or_false] at hp
      rcases hp with rfl | rfl | rfl | rfl | rfl | rfl | rfl | rfl | rfl | rfl | rfl
      · exact c337
      · exact c392
      · exact c350
      · exact c365
      · exact c368
      · exact c370
      · exact c372
      · exact c351
      · exact c397
      · exact c352
      · exact Fw329
    · intro p hp
      simp only [scal, List.mem_cons, List.not_mem_nil, or_false] at hp
      rcases hp with rfl | rfl | rfl | rfl
      · exact ⟨c404, rfl⟩
      · exact ⟨c359, rfl⟩
      · exact ⟨c386, rfl⟩
      · exact ⟨c379, rfl⟩
    · obtain ⟨c, A1, -, A3, -, A5, -⟩ := c406
      refine ⟨c, A1, by rw [A3]; rfl, fun i hi => ?_⟩
      rw [A5 i hi]
      have hi : i < 5 := by rw [A3] at hi; exact hi
      match i, hi with
      | 0, _ => rfl
      | 1, _ => rfl
      | 2, _ => rfl
      | 3, _ => rfl
      | 4, _ => rfl
    · exact (List.Pairwise.cons (allS ne_b77_b91 (allS ne_b77_b137 (allS ne_b77_b155 (allS ne_b77_b246 (allS ne_b77_b269 (allS ne_b77_b120 (allS ne_b77_b293 (allS ne_b77_b320 (allS (Ne.symm ne_b65r0_b77) (allS (Ne.symm ne_b65r1_b77) (allS (Ne.symm ne_b65r2_b77) (allS (Ne.symm ne_b65r3_b77) (allS (Ne.symm ne_b65r4_b77) all0))))))))))))) (List.Pairwise.cons (allS ne_b91_b137 (allS ne_b91_b155 (allS ne_b91_b246 (allS ne_b91_b269 (allS ne_b91_b120 (allS ne_b91_b293 (allS ne_b91_b320 (allS (Ne.symm ne_b65r0_b91) (allS (Ne.symm ne_b65r1_b91) (allS (Ne.symm ne_b65r2_b91) (allS (Ne.symm ne_b65r3_b91) (allS (Ne.symm ne_b65r4_b91) all0)))))))))))) (List.Pairwise.cons (allS ne_b137_b155 (allS ne_b137_b246 (allS ne_b137_b269 (allS (Ne.symm ne_b120_b137) (allS ne_b137_b293 (allS ne_b137_b320 (allS (Ne.symm ne_b65r0_b137) (allS (Ne.symm ne_b65r1_b137) (allS (Ne.symm ne_b65r2_b137) (allS (Ne.symm ne_b65r3_b137) (allS (Ne.symm ne_b65r4_b137) all0))))))))))) (List.Pairwise.cons (allS ne_b155_b246 (allS ne_b155_b269 (allS (Ne.symm ne_b120_b155) (allS ne_b155_b293 (allS ne_b155_b320 (allS (Ne.symm ne_b65r0_b155) (allS (Ne.symm ne_b65r1_b155) (allS (Ne.symm ne_b65r2_b155) (allS (Ne.symm ne_b65r3_b155) (allS (Ne.symm ne_b65r4_b155) all0)))))))))) (List.Pairwise.cons (allS ne_b246_b269 (allS (Ne.symm ne_b120_b246) (allS ne_b246_b293 (allS ne_b246_b320 (allS (Ne.symm ne_b65r0_b246) (allS (Ne.symm ne_b65r1_b246) (allS (Ne.symm ne_b65r2_b246) (allS (Ne.symm ne_b65r3_b246) (allS (Ne.symm ne_b65r4_b246) all0))))))))) (List.Pairwise.cons (allS (Ne.symm ne_b120_b269) (allS ne_b269_b293 (allS ne_b269_b320 (allS (Ne.symm ne_b65r0_b269) (allS (Ne.symm ne_b65r1_b269) (allS (Ne.symm ne_b65r2_b269) (allS (Ne.symm ne_b65r3_b269) (allS (Ne.symm ne_b65r4_b269) all0)))))))) (List.Pairwise.cons (allS ne_b120_b293 (allS ne_b120_b320 (allS (Ne.symm ne_b65r0_b120) (allS (Ne.symm ne_b65r1_b120) (allS (Ne.symm ne_b65r2_b120) (allS (Ne.symm ne_b65r3_b120) (allS (Ne.symm ne_b65r4_b120) all0))))))) (List.Pairwise.cons (allS ne_b293_b320 (allS (Ne.symm ne_b65r0_b293) (allS (Ne.symm ne_b65r1_b293) (allS (Ne.symm ne_b65r2_b293) (allS (Ne.symm ne_b65r3_b293) (allS (Ne.symm ne_b65r4_b293) all0)))))) (List.Pairwise.cons (allS (Ne.symm ne_b65r0_b320) (allS (Ne.symm ne_b65r1_b320) (allS (Ne.symm ne_b65r2_b320) (allS (Ne.symm ne_b65r3_b320) (allS (Ne.symm ne_b65r4_b320) all0))))) (List.Pairwise.cons (allS ne_b65r0_b65r1 (allS ne_b65r0_b65r2 (allS ne_b65r0_b65r3 (allS ne_b65r0_b65r4 all0)))) (List.Pairwise.cons (allS ne_b65r1_b65r2 (allS ne_b65r1_b65r3 (allS ne_b65r1_b65r4 all0))) (List.Pairwise.cons (allS ne_b65r2_b65r3 (allS ne_b65r2_b65r4 all0)) (List.Pairwise.cons (allS ne_b65r3_b65r4 all0) (List.Pairwise.cons all0 List.Pairwise.nil))))))))))))))
    · exact (allS ⟨(Ne.symm ne_r0_b77), (Ne.symm ne_b65_b77), g_b77⟩ (allS ⟨(Ne.symm ne_r0_b91), (Ne.symm ne_b65_b91), g_b91⟩ (allS ⟨(Ne.symm ne_r0_b137), (Ne.symm ne_b65_b137), g_b137⟩ (allS ⟨(Ne.symm ne_r0_b155), (Ne.symm ne_b65_b155), g_b155⟩ (allS ⟨(Ne.symm ne_r0_b246), (Ne.symm ne_b65_b246), g_b246⟩ (allS ⟨(Ne.symm ne_r0_b269), (Ne.symm ne_b65_b269), g_b269⟩ (allS ⟨(Ne.symm ne_r0_b120), (Ne.symm ne_b65_b120), g_b120⟩ (allS ⟨(Ne.symm ne_r0_b293), (Ne.symm ne_b65_b293), g_b293⟩ (allS ⟨(Ne.symm ne_r0_b320), (Ne.symm ne_b65_b320), g_b320⟩ (allS ⟨(Ne.symm ne_r0_b65r0), (Ne.symm ne_b65_b65r0), g_b65r0⟩ (allS ⟨(Ne.symm ne_r0_b65r1), (Ne.symm ne_b65_b65r1), g_b65r1⟩ (allS ⟨(Ne.symm ne_r0_b65r2), (Ne.symm ne_b65_b65r2), g_b65r2⟩ (allS ⟨(Ne.symm ne_r0_b65r3), (Ne.symm ne_b65_b65r3), g_b65r3⟩ (allS ⟨(Ne.symm ne_r0_b65r4), (Ne.symm ne_b65_b65r4), g_b65r4⟩ all0))))))))))))))
  generalize hA421 : (fun r => ([b77, b91, b137, b155, b246, b269, b120, b293, b320, b65r0, b65r1, b65r2, b65r3, b65r4] : List Addr).getD (iR r) 0) = A at B421
  generalize hK421 : (fun r => ([k77, k91, k137, k155, k246, k269, k120, k293, k320, kc65, kc65, kc65, kc65, kc65] : List ClassId).getD (iR r) 0) = K at B421
  obtain ⟨fs, hr, hrun, hended, hW, hsame⟩ := X329.leave (v := none) (fun _ => rfl) (BodyLoose.notSynchronized Bd)
  refine ⟨_, _, pre0 _ ?_, hrun, hended, _, _, rfl, ?_, ⟨_, rfl⟩, hW, hsame.mono (by decide) (by decide)⟩
  · show Sp p e below s₁ (mkF m 0 (lt17 r0 5) []) _
    refine XS.aloadN X0.here hx rfl (hb hby d2_0) rfl rfl ?_
    show Sp p e below s₁ (mkF m 1 (lt17 r0 5) [(.ref r0)]) _
    refine st56 _ ?_
    show Sp p e below T56 (mkF m 4 (lt17 r0 5) []) _
    refine XS.aloadN X56.here hx rfl (hb hby d2_4) rfl rfl ?_
    refine XS.iloadN X56.here hx rfl (hb hby d2_5) rfl ?_
    show Sp p e below T56 (mkF m 6 (lt17 r0 5) [(.int 5), (.ref r0)]) _
    refine st57 _ ?_
    show Sp p e below T57 (mkF m 9 (lt17 r0 5) []) _
    refine XS.aloadN X57.here hx rfl (hb hby d2_9) rfl rfl ?_
    refine XS.aloadN X57.here hx rfl (hb hby d2_10) rfl rfl ?_
    show Sp p e below T57 (mkF m 11 (lt17 r0 5) [.null, (.ref r0)]) _
    refine XS.ifnonnullNo X57.here hx rfl (hb hby d2_11) rfl ?_
    show Sp p e below T57 (mkF m 14 (lt17 r0 5) [(.ref r0)]) _
    refine XS.iconst X57.here hx rfl (hb hby d2_14) ?_
    show Sp p e below T57 (mkF m 15 (lt17 r0 5) [(.int 0), (.ref r0)]) _
    refine st59 _ ?_
    show Sp p e below T59 (mkF m 18 (lt17 r0 5) [(.ref b59), (.ref r0)]) _
    refine XS.goto X59.here hx rfl (pc0 := 18) (pc' := 25) rfl (hb hby d2_18) (by decide) (by decide) ?_
    show Sp p e below T59 (mkF m 25 (lt17 r0 5) [(.ref b59), (.ref r0)]) _
    refine st62 _ ?_
    show Sp p e below T62 (mkF m 28 (lt17 r0 5) []) _
    refine XS.aloadN X62.here hx rfl (hb hby d2_28) rfl rfl ?_
    refine XS.iloadN X62.here hx rfl (hb hby d2_29) rfl ?_
    show Sp p e below T62 (mkF m 30 (lt17 r0 5) [(.int 5), (.ref r0)]) _
    refine XS.iloadN X62.here hx rfl (hb hby d2_30) rfl ?_
    show Sp p e below T62 (mkF m 31 (lt17 r0 5) [(.int 5), (.int 5), (.ref r0)]) _
    refine st65 _ ?_
    show Sp p e below T65 (mkF m 35 (lt17 r0 5) [(.ref b65), (.ref r0)]) _
    refine st68 _ ?_
    show Sp p e below T68 (mkF m 38 (lt17 r0 5) []) _
    refine XS.aloadN X68.here hx rfl (hb hby d2_38) rfl rfl ?_
    refine XS.iloadN X68.here hx rfl (hb hby d2_39) rfl ?_
    show Sp p e below T68 (mkF m 40 (lt17 r0 5) [(.int 5), (.ref r0)]) _
    refine st77 _ ?_
    show Sp p e below T77 (mkF m 42 (lt17 r0 5) [(.ref b77), (.ref r0)]) _
    refine st81 _ ?_
    show Sp p e below T81 (mkF m 45 (lt17 r0 5) []) _
    refine XS.aloadN X81.here hx rfl (hb hby d2_45) rfl rfl ?_
    refine XS.iloadN X81.here hx rfl (hb hby d2_46) rfl ?_
    show Sp p e below T81 (mkF m 47 (lt17 r0 5) [(.int 5), (.ref r0)]) _
    refine st91 _ ?_
    show Sp p e below T91 (mkF m 49 (lt17 r0 5) [(.ref b91), (.ref r0)]) _
    refine st95 _ ?_
    show Sp p e below T95 (mkF m 52 (lt17 r0 5) []) _
    refine XS.aloadN X95.here hx rfl (hb hby d2_52) rfl rfl ?_
    show Sp p e below T95 (mkF m 53 (lt17 r0 5) [(.ref r0)]) _
    refine st96 _ ?_
    show Sp p e below T96 (mkF m 56 (lt17 r0 5) [(.ref b91)]) _
    refine XS.iloadN X96.here hx rfl (hb hby d2_56) rfl ?_
    refine XS.iconst X96.here hx rfl (hb hby d2_57) ?_
    show Sp p e below T96 (mkF m 58 (lt17 r0 5) [(.int 1), (.int 5), (.ref b91)]) _
    refine XS.isub X96.here hx rfl (hb hby d2_58) rfl ?_
    show Sp p e below T96 (mkF m 59 (lt17 r0 5) [(.int ((5 : Int32) - 1)), (.ref b91)]) _
    refine st109 _ ?_
    show Sp p e below T109 (mkF m 62 (lt17 r0 5) []) _
    refine XS.iloadN X109.here hx rfl (hb hby d2_62) rfl ?_
    refine XS.i2l X109.here hx rfl (hb hby d2_63) rfl ?_
    show Sp p e below T109 (mkF m 64 (lt17 r0 5) [(.long ((5 : Int32).toInt64))]) _
    refine XS.iloadN X109.here hx rfl (hb hby d2_64) rfl ?_
    refine XS.iconst X109.here hx rfl (hb hby d2_65) ?_
    show Sp p e below T109 (mkF m 66 (lt17 r0 5) [(.int 1), (.int 5), (.long ((5 : Int32).toInt64))]) _
    refine XS.isub X109.here hx rfl (hb hby d2_66) rfl ?_
    refine XS.i2l X109.here hx rfl (hb hby d2_67) rfl ?_
    show Sp p e below T109 (mkF m 68 (lt17 r0 5) [(.long (((5 : Int32) - 1).toInt64)), (.long ((5 : Int32).toInt64))]) _
    refine XS.lmul X109.here hx rfl (hb hby d2_68) rfl ?_
    refine XS.lstoreN X109.here hx rfl (hb hby d2_69) rfl (l' := (lt21 r0 5 kA5)) rfl ?_
    show Sp p e below T109 (mkF m 70 (lt21 r0 5 kA5) []) _
    refine XS.aloadN X109.here hx rfl (hb hby d2_70) rfl rfl ?_
    show Sp p e below T109 (mkF m 71 (lt21 r0 5 kA5) [.null]) _
    refine XS.ifnullYes X109.here hx rfl (pc0 := 71) (pc' := 168) rfl (hb hby d2_71) rfl (by decide) (by decide) ?_
    show Sp p e below T109 (mkF m 168 (lt21 r0 5 kA5) []) _
    refine XS.aloadN X109.here hx rfl (hb hby d2_168) rfl rfl ?_
    refine XS.lloadN X109.here hx rfl (hb hby d2_169) rfl ?_
    show Sp p e below T109 (mkF m 170 (lt21 r0 5 kA5) [(.long kA5), (.ref r0)]) _
    refine X109.ldc2Long hx hown (mvT hZ (hw _ (tk 33 rfl))) (g := (mkF m 170 (lt21 r0 5 kA5) [(.long kA5), (.ref r0)])) rfl (hb hby d2_170) _ ?_
    show Sp p e below T109 (mkF m 173 (lt21 r0 5 kA5) [(.long (6 : Int64)), (.long kA5), (.ref r0)]) _
    refine XS.iloadN X109.here hx rfl (hb hby d2_173) rfl ?_
    refine XS.i2l X109.here hx rfl (hb hby d2_174) rfl ?_
    show Sp p e below T109 (mkF m 175 (lt21 r0 5 kA5) [(.long ((5 : Int32).toInt64)), (.long (6 : Int64)), (.long kA5), (.ref r0)]) _
    refine XS.lmul X109.here hx rfl (hb hby d2_175) rfl ?_
    refine XS.ladd X109.here hx rfl (hb hby d2_176) rfl ?_
    show Sp p e below T109 (mkF m 177 (lt21 r0 5 kA5) [(.long kE5), (.ref r0)]) _
    refine st110 _ ?_
    show Sp p e below T110 (mkF m 180 (lt21 r0 5 kA5) [(.int (kE5.toInt32)), (.ref r0)]) _
    refine st120 _ ?_
    show Sp p e below T120 (mkF m 182 (lt21 r0 5 kA5) [(.ref b120), (.ref r0)]) _
    refine st125 _ ?_
    show Sp p e below T125 (mkF m 185 (lt21 r0 5 kA5) []) _
    refine XS.aloadN X125.here hx rfl (hb hby d2_185) rfl rfl ?_
    refine XS.iloadN X125.here hx rfl (hb hby d2_186) rfl ?_
    show Sp p e below T125 (mkF m 187 (lt21 r0 5 kA5) [(.int 5), (.ref r0)]) _
    refine st137 _ ?_
    show Sp p e below T137 (mkF m 189 (lt21 r0 5 kA5) [(.ref b137), (.ref r0)]) _
    refine st142 _ ?_
    show Sp p e below T142 (mkF m 192 (lt21 r0 5 kA5) []) _
    refine XS.aloadN X142.here hx rfl (hb hby d2_192) rfl rfl ?_
    refine XS.iloadN X142.here hx rfl (hb hby d2_193) rfl ?_
    show Sp p e below T142 (mkF m 194 (lt21 r0 5 kA5) [(.int 5), (.ref r0)]) _
    refine st155 _ ?_
    show Sp p e below T155 (mkF m 196 (lt21 r0 5 kA5) [(.ref b155), (.ref r0)]) _
    refine st161 _ ?_
    show Sp p e below T161 (mkF m 199 (lt21 r0 5 kA5) []) _
    refine XS.iconst X161.here hx rfl (hb hby d2_199) ?_
    refine XS.istore X161.here hx rfl (hb hby d2_200) rfl (l' := (lt23 r0 5 kA5 0)) rfl ?_
    show Sp p e below T161 (mkF m 202 (lt23 r0 5 kA5 0) []) _
    refine XS.iload X161.here hx rfl (hb hby d2_202) rfl ?_
    refine XS.iloadN X161.here hx rfl (hb hby d2_204) rfl ?_
    show Sp p e below T161 (mkF m 205 (lt23 r0 5 kA5 0) [(.int 5), (.int 0)]) _
    refine XS.icmpNo X161.here hx rfl (hb hby d2_205) rfl (tlt (by decide : ((0 : Int32) < (5 : Int32)))).2.1 ?_
    show Sp p e below T161 (mkF m 208 (lt23 r0 5 kA5 0) []) _
    refine XS.aloadN X161.here hx rfl (hb hby d2_208) rfl rfl ?_
    show Sp p e below T161 (mkF m 209 (lt23 r0 5 kA5 0) [(.ref r0)]) _
    refine st163 _ ?_
    show Sp p e below T163 (mkF m 212 (lt23 r0 5 kA5 0) [(.ref b137)]) _
    refine XS.iload X163.here hx rfl (hb hby d2_212) rfl ?_
    refine XS.iload X163.here hx rfl (hb hby d2_214) rfl ?_
    show Sp p e below T163 (mkF m 216 (lt23 r0 5 kA5 0) [(.int 0), (.int 0), (.ref b137)]) _
    refine st166 _ ?_
    show Sp p e below T166 (mkF m 217 (lt23 r0 5 kA5 0) []) _
    refine XS.aloadN X166.here hx rfl (hb hby d2_217) rfl rfl ?_
    show Sp p e below T166 (mkF m 218 (lt23 r0 5 kA5 0) [(.ref r0)]) _
    refine st168 _ ?_
    show Sp p e below T168 (mkF m 221 (lt23 r0 5 kA5 0) [(.ref b155)]) _
    refine XS.iload X168.here hx rfl (hb hby d2_221) rfl ?_
    refine XS.iconst X168.here hx rfl (hb hby d2_223) ?_
    show Sp p e below T168 (mkF m 224 (lt23 r0 5 kA5 0) [(.int 1), (.int 0), (.ref b155)]) _
    refine st171 _ ?_
    show Sp p e below T171 (mkF m 225 (lt23 r0 5 kA5 0) []) _
    refine XS.iinc X171.here hx rfl (hb hby d2_225) rfl (l' := (lt23 r0 5 kA5 ((0 : Int32) + 1))) rfl ?_
    show Sp p e below T171 (mkF m 228 (lt23 r0 5 kA5 ((0 : Int32) + 1)) []) _
    refine XS.goto X171.here hx rfl (pc0 := 228) (pc' := 202) rfl (hb hby d2_228) (by decide) (by decide) ?_
    show Sp p e below T171 (mkF m 202 (lt23 r0 5 kA5 ((0 : Int32) + 1)) []) _
    refine XS.iload X171.here hx rfl (hb hby d2_202) rfl ?_
    refine XS.iloadN X171.here hx rfl (hb hby d2_204) rfl ?_
    show Sp p e below T171 (mkF m 205 (lt23 r0 5 kA5 ((0 : Int32) + 1)) [(.int 5), (.int ((0 : Int32) + 1))]) _
    refine XS.icmpNo X171.here hx rfl (hb hby d2_205) rfl (tlt (by decide : (((0 : Int32) + 1) < (5 : Int32)))).2.1 ?_
    show Sp p e below T171 (mkF m 208 (lt23 r0 5 kA5 ((0 : Int32) + 1)) []) _
    refine XS.aloadN X171.here hx rfl (hb hby d2_208) rfl rfl ?_
    show Sp p e below T171 (mkF m 209 (lt23 r0 5 kA5 ((0 : Int32) + 1)) [(.ref r0)]) _
    refine st173 _ ?_
    show Sp p e below T173 (mkF m 212 (lt23 r0 5 kA5 ((0 : Int32) + 1)) [(.ref b137)]) _
    refine XS.iload X173.here hx rfl (hb hby d2_212) rfl ?_
    refine XS.iload X173.here hx rfl (hb hby d2_214) rfl ?_
    show Sp p e below T173 (mkF m 216 (lt23 r0 5 kA5 ((0 : Int32) + 1)) [(.int ((0 : Int32) + 1)), (.int ((0 : Int32) + 1)), (.ref b137)]) _
    refine st176 _ ?_
    show Sp p e below T176 (mkF m 217 (lt23 r0 5 kA5 ((0 : Int32) + 1)) []) _
    refine XS.aloadN X176.here hx rfl (hb hby d2_217) rfl rfl ?_
    show Sp p e below T176 (mkF m 218 (lt23 r0 5 kA5 ((0 : Int32) + 1)) [(.ref r0)]) _
    refine st178 _ ?_
    show Sp p e below T178 (mkF m 221 (lt23 r0 5 kA5 ((0 : Int32) + 1)) [(.ref b155)]) _
    refine XS.iload X178.here hx rfl (hb hby d2_221) rfl ?_
    refine XS.iconst X178.here hx rfl (hb hby d2_223) ?_
    show Sp p e below T178 (mkF m 224 (lt23 r0 5 kA5 ((0 : Int32) + 1)) [(.int 1), (.int ((0 : Int32) + 1)), (.ref b155)]) _
    refine st181 _ ?_
    show Sp p e below T181 (mkF m 225 (lt23 r0 5 kA5 ((0 : Int32) + 1)) []) _
    refine XS.iinc X181.here hx rfl (hb hby d2_225) rfl (l' := (lt23 r0 5 kA5 (((0 : Int32) + 1) + 1))) rfl ?_
    show Sp p e below T181 (mkF m 228 (lt23 r0 5 kA5 (((0 : Int32) + 1) + 1)) []) _
    refine XS.goto X181.here hx rfl (pc0 := 228) (pc' := 202) rfl (hb hby d2_228) (by decide) (by decide) ?_
    show Sp p e below T181 (mkF m 202 (lt23 r0 5 kA5 (((0 : Int32) + 1) + 1)) []) _
    refine XS.iload X181.here hx rfl (hb hby d2_202) rfl ?_
    refine XS.iloadN X181.here hx rfl (hb hby d2_204) rfl ?_
    show Sp p e below T181 (mkF m 205 (lt23 r0 5 kA5 (((0 : Int32) + 1) + 1)) [(.int 5), (.int (((0 : Int32) + 1) + 1))]) _
    refine XS.icmpNo X181.here hx rfl (hb hby d2_205) rfl (tlt (by decide : ((((0 : Int32) + 1) + 1) < (5 : Int32)))).2.1 ?_
    show Sp p e below T181 (mkF m 208 (lt23 r0 5 kA5 (((0 : Int32) + 1) + 1)) []) _
    refine XS.aloadN X181.here hx rfl (hb hby d2_208) rfl rfl ?_
    show Sp p e below T181 (mkF m 209 (lt23 r0 5 kA5 (((0 : Int32) + 1) + 1)) [(.ref r0)]) _
    refine st183 _ ?_
    show Sp p e below T183 (mkF m 212 (lt23 r0 5 kA5 (((0 : Int32) + 1) + 1)) [(.ref b137)]) _
    refine XS.iload X183.here hx rfl (hb hby d2_212) rfl ?_
    refine XS.iload X183.here hx rfl (hb hby d2_214) rfl ?_
    show Sp p e below T183 (mkF m 216 (lt23 r0 5 kA5 (((0 : Int32) + 1) + 1)) [(.int (((0 : Int32) + 1) + 1)), (.int (((0 : Int32) + 1) + 1)), (.ref b137)]) _
    refine st186 _ ?_
    show Sp p e below T186 (mkF m 217 (lt23 r0 5 kA5 (((0 : Int32) + 1) + 1)) []) _
    refine XS.aloadN X186.here hx rfl (hb hby d2_217) rfl rfl ?_
    show Sp p e below T186 (mkF m 218 (lt23 r0 5 kA5 (((0 : Int32) + 1) + 1)) [(.ref r0)]) _
    refine st188 _ ?_
    show Sp p e below T188 (mkF m 221 (lt23 r0 5 kA5 (((0 : Int32) + 1) + 1)) [(.ref b155)]) _
    refine XS.iload X188.here hx rfl (hb hby d2_221) rfl ?_
    refine XS.iconst X188.here hx rfl (hb hby d2_223) ?_
    show Sp p e below T188 (mkF m 224 (lt23 r0 5 kA5 (((0 : Int32) + 1) + 1)) [(.int 1), (.int (((0 : Int32) + 1) + 1)), (.ref b155)]) _
    refine st191 _ ?_
    show Sp p e below T191 (mkF m 225 (lt23 r0 5 kA5 (((0 : Int32) + 1) + 1)) []) _
    refine XS.iinc X191.here hx rfl (hb hby d2_225) rfl (l' := (lt23 r0 5 kA5 ((((0 : Int32) + 1) + 1) + 1))) rfl ?_
    show Sp p e below T191 (mkF m 228 (lt23 r0 5 kA5 ((((0 : Int32) + 1) + 1) + 1)) []) _
    refine XS.goto X191.here hx rfl (pc0 := 228) (pc' := 202) rfl (hb hby d2_228) (by decide) (by decide) ?_
    show Sp p e below T191 (mkF m 202 (lt23 r0 5 kA5 ((((0 : Int32) + 1) + 1) + 1)) []) _
    refine XS.iload X191.here hx rfl (hb hby d2_202) rfl ?_
    refine XS.iloadN X191.here hx rfl (hb hby d2_204) rfl ?_
    show Sp p e below T191 (mkF m 205 (lt23 r0 5 kA5 ((((0 : Int32) + 1) + 1) + 1)) [(.int 5), (.int ((((0 : Int32) + 1) + 1) + 1))]) _
    refine XS.icmpNo X191.here hx rfl (hb hby d2_205) rfl (tlt (by decide : (((((0 : Int32) + 1) + 1) + 1) < (5 : Int32)))).2.1 ?_
    show Sp p e below T191 (mkF m 208 (lt23 r0 5 kA5 ((((0 : Int32) + 1) + 1) + 1)) []) _
    refine XS.aloadN X191.here hx rfl (hb hby d2_208) rfl rfl ?_
    show Sp p e below T191 (mkF m 209 (lt23 r0 5 kA5 ((((0 : Int32) + 1) + 1) + 1)) [(.ref r0)]) _
    refine st193 _ ?_
    show Sp p e below T193 (mkF m 212 (lt23 r0 5 kA5 ((((0 : Int32) + 1) + 1) + 1)) [(.ref b137)]) _
    refine XS.iload X193.here hx rfl (hb hby d2_212) rfl ?_
    refine XS.iload X193.here hx rfl (hb hby d2_214) rfl ?_
    show Sp p e below T193 (mkF m 216 (lt23 r0 5 kA5 ((((0 : Int32) + 1) + 1) + 1)) [(.int ((((0 : Int32) + 1) + 1) + 1)), (.int ((((0 : Int32) + 1) + 1) + 1)), (.ref b137)]) _
    refine st196 _ ?_
    show Sp p e below T196 (mkF m 217 (lt23 r0 5 kA5 ((((0 : Int32) + 1) + 1) + 1)) []) _
    refine XS.aloadN X196.here hx rfl (hb hby d2_217) rfl rfl ?_
    show Sp p e below T196 (mkF m 218 (lt23 r0 5 kA5 ((((0 : Int32) + 1) + 1) + 1)) [(.ref r0)]) _
    refine st198 _ ?_
    show Sp p e below T198 (mkF m 221 (lt23 r0 5 kA5 ((((0 : Int32) + 1) + 1) + 1)) [(.ref b155)]) _
    refine XS.iload X198.here hx rfl (hb hby d2_221) rfl ?_
    refine XS.iconst X198.here hx rfl (hb hby d2_223) ?_
    show Sp p e below T198 (mkF m 224 (lt23 r0 5 kA5 ((((0 : Int32) + 1) + 1) + 1)) [(.int 1), (.int ((((0 : Int32) + 1) + 1) + 1)), (.ref b155)]) _
    refine st201 _ ?_
    show Sp p e below T201 (mkF m 225 (lt23 r0 5 kA5 ((((0 : Int32) + 1) + 1) + 1)) []) _
    refine XS.iinc X201.here hx rfl (hb hby d2_225) rfl (l' := (lt23 r0 5 kA5 (((((0 : Int32) + 1) + 1) + 1) + 1))) rfl ?_
    show Sp p e below T201 (mkF m 228 (lt23 r0 5 kA5 (((((0 : Int32) + 1) + 1) + 1) + 1)) []) _
    refine XS.goto X201.here hx rfl (pc0 := 228) (pc' := 202) rfl (hb hby d2_228) (by decide) (by decide) ?_
    show Sp p e below T201 (mkF m 202 (lt23 r0 5 kA5 (((((0 : Int32) + 1) + 1) + 1) + 1)) []) _
    refine XS.iload X201.here hx rfl (hb hby d2_202) rfl ?_
    refine XS.iloadN X201.here hx rfl (hb hby d2_204) rfl ?_
    show Sp p e below T201 (mkF m 205 (lt23 r0 5 kA5 (((((0 : Int32) + 1) + 1) + 1) + 1)) [(.int 5), (.int (((((0 : Int32) + 1) + 1) + 1) + 1))]) _
    refine XS.icmpNo X201.here hx rfl (hb hby d2_205) rfl (tlt (by decide : ((((((0 : Int32) + 1) + 1) + 1) + 1) < (5 : Int32)))).2.1 ?_
    show Sp p e below T201 (mkF m 208 (lt23 r0 5 kA5 (((((0 : Int32) + 1) + 1) + 1) + 1)) []) _
    refine XS.aloadN X201.here hx rfl (hb hby d2_208) rfl rfl ?_
    show Sp p e below T201 (mkF m 209 (lt23 r0 5 kA5 (((((0 : Int32) + 1) + 1) + 1) + 1)) [(.ref r0)]) _
    refine st203 _ ?_
    show Sp p e below T203 (mkF m 212 (lt23 r0 5 kA5 (((((0 : Int32) + 1) + 1) + 1) + 1)) [(.ref b137)]) _
    refine XS.iload X203.here hx rfl (hb hby d2_212) rfl ?_
    refine XS.iload X203.here hx rfl (hb hby d2_214) rfl ?_
    show Sp p e below T203 (mkF m 216 (lt23 r0 5 kA5 (((((0 : Int32) + 1) + 1) + 1) + 1)) [(.int (((((0 : Int32) + 1) + 1) + 1) + 1)), (.int (((((0 : Int32) + 1) + 1) + 1) + 1)), (.ref b137)]) _
    refine st206 _ ?_
    show Sp p e below T206 (mkF m 217 (lt23 r0 5 kA5 (((((0 : Int32) + 1) + 1) + 1) + 1)) []) _
    refine XS.aloadN X206.here hx rfl (hb hby d2_217) rfl rfl ?_
    show Sp p e below T206 (mkF m 218 (lt23 r0 5 kA5 (((((0 : Int32) + 1) + 1) + 1) + 1)) [(.ref r0)]) _
    refine st208 _ ?_
    show Sp p e below T208 (mkF m 221 (lt23 r0 5 kA5 (((((0 : Int32) + 1) + 1) + 1) + 1)) [(.ref b155)]) _
    refine XS.iload X208.here hx rfl (hb hby d2_221) rfl ?_
    refine XS.iconst X208.here hx rfl (hb hby d2_223) ?_
    show Sp p e below T208 (mkF m 224 (lt23 r0 5 kA5 (((((0 : Int32) + 1) + 1) + 1) + 1)) [(.int 1), (.int (((((0 : Int32) + 1) + 1) + 1) + 1)), (.ref b155)]) _
    refine st211 _ ?_
    show Sp p e below T211 (mkF m 225 (lt23 r0 5 kA5 (((((0 : Int32) + 1) + 1) + 1) + 1)) []) _
    refine XS.iinc X211.here hx rfl (hb hby d2_225) rfl (l' := (lt23 r0 5 kA5 ((((((0 : Int32) + 1) + 1) + 1) + 1) + 1))) rfl ?_
    show Sp p e below T211 (mkF m 228 (lt23 r0 5 kA5 ((((((0 : Int32) + 1) + 1) + 1) + 1) + 1)) []) _
    refine XS.goto X211.here hx rfl (pc0 := 228) (pc' := 202) rfl (hb hby d2_228) (by decide) (by decide) ?_
    show Sp p e below T211 (mkF m 202 (lt23 r0 5 kA5 ((((((0 : Int32) + 1) + 1) + 1) + 1) + 1)) []) _
    refine XS.iload X211.here hx rfl (hb hby d2_202) rfl ?_
    refine XS.iloadN X211.here hx rfl (hb hby d2_204) rfl ?_
    show Sp p e below T211 (mkF m 205 (lt23 r0 5 kA5 ((((((0 : Int32) + 1) + 1) + 1) + 1) + 1)) [(.int 5), (.int ((((((0 : Int32) + 1) + 1) + 1) + 1) + 1))]) _
    refine XS.icmpYes X211.here hx rfl (pc0 := 205) (pc' := 231) rfl (hb hby d2_205) rfl (flt (by decide : ¬ (((((((0 : Int32) + 1) + 1) + 1) + 1) + 1) < (5 : Int32)))).2.1 (by decide) (by decide) ?_
    show Sp p e below T211 (mkF m 231 (lt23 r0 5 kA5 ((((((0 : Int32) + 1) + 1) + 1) + 1) + 1)) []) _
    refine XS.aloadN X211.here hx rfl (hb hby d2_231) rfl rfl ?_
    refine XS.iloadN X211.here hx rfl (hb hby d2_232) rfl ?_
    show Sp p e below T211 (mkF m 233 (lt23 r0 5 kA5 ((((((0 : Int32) + 1) + 1) + 1) + 1) + 1)) [(.int 5), (.ref r0)]) _
    refine st246 _ ?_
    show Sp p e below T246 (mkF m 235 (lt23 r0 5 kA5 ((((((0 : Int32) + 1) + 1) + 1) + 1) + 1)) [(.ref b246), (.ref r0)]) _
    refine st254 _ ?_
    show Sp p e below T254 (mkF m 238 (lt23 r0 5 kA5 ((((((0 : Int32) + 1) + 1) + 1) + 1) + 1)) []) _
    refine XS.aloadN X254.here hx rfl (hb hby d2_238) rfl rfl ?_
    refine XS.iloadN X254.here hx rfl (hb hby d2_239) rfl ?_
    show Sp p e below T254 (mkF m 240 (lt23 r0 5 kA5 ((((((0 : Int32) + 1) + 1) + 1) + 1) + 1)) [(.int 5), (.ref r0)]) _
    refine st269 _ ?_
    show Sp p e below T269 (mkF m 242 (lt23 r0 5 kA5 ((((((0 : Int32) + 1) + 1) + 1) + 1) + 1)) [(.ref b269), (.ref r0)]) _
    refine st277 _ ?_
    show Sp p e below T277 (mkF m 245 (lt23 r0 5 kA5 ((((((0 : Int32) + 1) + 1) + 1) + 1) + 1)) []) _
    refine XS.aloadN X277.here hx rfl (hb hby d2_245) rfl rfl ?_
    refine XS.iloadN X277.here hx rfl (hb hby d2_246) rfl ?_
    show Sp p e below T277 (mkF m 247 (lt23 r0 5 kA5 ((((((0 : Int32) + 1) + 1) + 1) + 1) + 1)) [(.int 5), (.ref r0)]) _
    refine XS.iconst X277.here hx rfl (hb hby d2_247) ?_
    refine XS.iadd X277.here hx rfl (hb hby d2_248) rfl ?_
    show Sp p e below T277 (mkF m 249 (lt23 r0 5 kA5 ((((((0 : Int32) + 1) + 1) + 1) + 1) + 1)) [(.int ((5 : Int32) + 1)), (.ref r0)]) _
    refine st293 _ ?_
    show Sp p e below T293 (mkF m 251 (lt23 r0 5 kA5 ((((((0 : Int32) + 1) + 1) + 1) + 1) + 1)) [(.ref b293), (.ref r0)]) _
    refine st302 _ ?_
    show Sp p e below T302 (mkF m 254 (lt23 r0 5 kA5 ((((((0 : Int32) + 1) + 1) + 1) + 1) + 1)) []) _
    refine XS.aloadN X302.here hx rfl (hb hby d2_254) rfl rfl ?_
    refine XS.lloadN X302.here hx rfl (hb hby d2_255) rfl ?_
    show Sp p e below T302 (mkF m 256 (lt23 r0 5 kA5 ((((((0 : Int32) + 1) + 1) + 1) + 1) + 1)) [(.long kA5), (.ref r0)]) _
    refine st303 _ ?_
    show Sp p e below T303 (mkF m 259 (lt23 r0 5 kA5 ((((((0 : Int32) + 1) + 1) + 1) + 1) + 1)) [(.int (kA5.toInt32)), (.ref r0)]) _
    refine st320 _ ?_
    show Sp p e below T320 (mkF m 261 (lt23 r0 5 kA5 ((((((0 : Int32) + 1) + 1) + 1) + 1) + 1)) [(.ref b320), (.ref r0)]) _
    refine st329 _ ?_
    show Sp p e below T329 (mkF m 264 (lt23 r0 5 kA5 ((((((0 : Int32) + 1) + 1) + 1) + 1) + 1)) []) _
    exact X329.returnOut hx Bd.returns (hb hby d2_264) hr
  · show Q2n2x1 Z r0 h0 n0 _ T329.heap _
    rw [e329]
    exact ⟨A, K, b65, rfl, N329, O329, B421⟩
theorem pn_1x1 : plainName "com/example/onetree/onetree/EdgeStates" = true := by first | (simp [plainName, overriddenIn]; done) | decide +kernel
theorem ef_1x1 (m : MethodId) (r0 : Addr) : entryFrame m #[(.ref r0), (.int (5 : Int32))] 2 = mkF m 0 #[.val (.ref r0), .val (.int (5 : Int32))] [] := by first | (simp [entryFrame, mkF, argsToLocals, Value.category]; done) | rfl
def Q1x1 (Z : State) (r0 : Addr) (h0 : Heap) (n0 : Nat) (v : Option Value) (h : Heap) (L : List Loc) : Prop := ∃ (A : Nat → Addr) (K : Nat → ClassId) (S0 : Addr), v = none ∧ Fr n0 L ∧ Old Z n0 h ∧ EB Z n0 false h r0 A K S0 5 M0_5
set_option maxRecDepth 65536 in
set_option maxHeartbeats 40000000 in
theorem rm1x1 (l : Launch) (Z : State) (a0 : Array Value) (hw : ∀ d ∈ tables_1, d.before a0 Z = true) (ws : List Jvm.Cond) (hS : StF Z) (r0 : Addr) (h0 : Heap) (n0 : Nat) (O0 : Old Z n0 h0) (g_r0 : n0 ≤ r0) (E_r0 : Exa Z h0 r0 "com/example/onetree/onetree/EdgeStates") (F_cities_r0 : Fld Z h0 r0 "com/example/onetree/onetree/EdgeStates" "cities" "I" (.int (0 : Int32))) (F_fixedEdges_r0 : Fld Z h0 r0 "com/example/onetree/onetree/EdgeStates" "fixedEdges" "[[I" .null) (F_forcedDegree_r0 : Fld Z h0 r0 "com/example/onetree/onetree/EdgeStates" "forcedDegree" "[I" .null) (F_isPending_r0 : Fld Z h0 r0 "com/example/onetree/onetree/EdgeStates" "isPending" "[Z" .null) (F_listStart_r0 : Fld Z h0 r0 "com/example/onetree/onetree/EdgeStates" "listStart" "[I" .null) (F_listed_r0 : Fld Z h0 r0 "com/example/onetree/onetree/EdgeStates" "listed" "Z" (.int (0 : Int32))) (F_neighbours_r0 : Fld Z h0 r0 "com/example/onetree/onetree/EdgeStates" "neighbours" "[I" .null) (F_openDegree_r0 : Fld Z h0 r0 "com/example/onetree/onetree/EdgeStates" "openDegree" "[I" .null) (F_otherEnd_r0 : Fld Z h0 r0 "com/example/onetree/onetree/EdgeStates" "otherEnd" "[I" .null) (F_pathSize_r0 : Fld Z h0 r0 "com/example/onetree/onetree/EdgeStates" "pathSize" "[I" .null) (F_pending_r0 : Fld Z h0 r0 "com/example/onetree/onetree/EdgeStates" "pending" "[I" .null) (F_pendingCount_r0 : Fld Z h0 r0 "com/example/onetree/onetree/EdgeStates" "pendingCount" "I" (.int (0 : Int32))) (F_pendingHead_r0 : Fld Z h0 r0 "com/example/onetree/onetree/EdgeStates" "pendingHead" "I" (.int (0 : Int32))) (F_states_r0 : Fld Z h0 r0 "com/example/onetree/onetree/EdgeStates" "states" "[[B" .null) (F_trail_r0 : Fld Z h0 r0 "com/example/onetree/onetree/EdgeStates" "trail" "[I" .null) (F_trailSize_r0 : Fld Z h0 r0 "com/example/onetree/onetree/EdgeStates" "trailSize" "I" (.int (0 : Int32))) :
    MetFree l Y26 (head1 (Jvm.Cond.code Y26 prog_7_method_1_code 2 none :: ws) ({ frames := 2, cells := 16, slots := 136, locals := 33 } : Room)) (fun a U => a = #[(.ref r0), (.int (5 : Int32))] ∧ Z.Warmed39 U.vm ∧ U.heap = h0) (fun _ _ _ _ _ => True) (fun _ U o U' => ∃ v L, o = .returned v ∧ Q1x1 Z r0 h0 n0 v U'.heap L ∧ FrameEnd U o U' L ({ frames := 2, cells := 16, slots := 136, locals := 33 } : Room).cells ({ frames := 2, cells := 16, slots := 136, locals := 33 } : Room).slots) := by
  refine MetFree.of_bodySF (plainFor_of_name pn_1x1) hisR ?_
  intro p e s m args below meth c s₁ Bd hml0 hP hK
  obtain ⟨rfl, hZ, hh⟩ := hP
  have hx := Bd.exec
  have hby := Bd.bytes
  have hml : c.maxLocals = 2 := hml0
  have hown : s.vm.findClass "com/example/onetree/onetree/EdgeStates" = some m.cls := findClass_of_methodNamed Bd.named
  have hnm := (name_of_methodNamed Bd.named Bd.method).1
  have X0 : Stand p l e ({ frames := 2, cells := 16, slots := 136, locals := 33 } : Room) s m #[(.ref r0), (.int 5)] below meth c s₁ [] 0 0 := Stand.of_body Bd
  have e0 : s₁.heap = h0 := by rw [← hh, Bd.state]; rfl
  have N0 := Fr.nil n0
  have hS0 := hS
  skip
  have pre0 : ∀ t, Steps p.tables e below (s₁.setTop (mkF m 0 #[.val (.ref r0), .val (.int 5)] [])) t → Steps p.tables e below (s₁.setTop (entryFrame m #[(.ref r0), (.int 5)] 2)) t := fun t k => castTop (ef_1x1 m r0) k
  generalize hE0 : s₁.setTop (entryFrame m #[(.ref r0), (.int 5)] 2) = E0 at pre0 ⊢
  obtain ⟨_, _, ⟨T422, L422, k422, n422⟩, -, X422, ⟨Lc422, hQ422, l422, y422, z422⟩, st422⟩ := X0.specialBack hx (y := Y25) rfl hown (mvT hZ (hw _ (tk 7 rfl))) (mvT hZ (hw _ (tk 8 rfl))) (mvT hZ (hw _ (tk 9 rfl))) (by decide) (backOf (W := 0) (rm2n2x1 l Z a0 hw [] hS0 r0 h0 n0 O0 g_r0 E_r0 F_cities_r0 F_fixedEdges_r0 F_forcedDegree_r0 F_isPending_r0 F_listStart_r0 F_listed_r0 F_neighbours_r0 F_openDegree_r0 F_otherEnd_r0 F_pathSize_r0 F_pending_r0 F_pendingCount_r0 F_pendingHead_r0 F_states_r0 F_trail_r0 F_trailSize_r0) hZ (hw _ (tk 9 rfl)) (hw _ (tk 3 rfl)) (by decide) (by decide)) (g := (mkF m 3 (lt16 r0 5) [.null, (.int 5), (.ref r0)])) rfl (by rw [hml]; rfl) (Steps.refl _) (a := r0) (argsL := [(.int 5), .null]) (rest := []) (lenOf pd_2 rfl) rfl (by show 2 * 0 + _ ≤ _; exact Nat.le_of_eq rfl) (hb hby d1_3) (fun _ _ => ⟨rfl, e0, (by decide : 0 + 16 ≤ _), (by decide : 0 + 136 ≤ _)⟩)
  dsimp only [Pt.U, Pt.locs, Pt.cells, Pt.slots] at X422 l422 y422 z422 st422 hQ422
  rw [l422, y422, z422] at X422
  obtain ⟨A, K, S0, rv422, N422q, O422, B422⟩ := hQ422
  subst rv422
  have N422 := Fr.app N0 N422q
  obtain ⟨fs, hr, hrun, hended, hW, hsame⟩ := X422.leave (v := none) (fun _ => rfl) (BodyLoose.notSynchronized Bd)
  refine ⟨_, _, pre0 _ ?_, hrun, hended, _, _, rfl, ?_, ⟨_, rfl⟩, hW, hsame.mono (by decide) (by decide)⟩
  · show Sp p e below s₁ (mkF m 0 (lt16 r0 5) []) _
    refine XS.aloadN X0.here hx rfl (hb hby d1_0) rfl rfl ?_
    refine XS.iloadN X0.here hx rfl (hb hby d1_1) rfl ?_
    show Sp p e below s₁ (mkF m 2 (lt16 r0 5) [(.int 5), (.ref r0)]) _
    refine XS.aconstNull X0.here hx rfl (hb hby d1_2) ?_
    show Sp p e below s₁ (mkF m 3 (lt16 r0 5) [.null, (.int 5), (.ref r0)]) _
    refine st422.trans ?_
    show Sp p e below T422 (mkF m 6 (lt16 r0 5) []) _
    exact X422.returnOut hx Bd.returns (hb hby d1_6) hr
  · show Q1x1 Z r0 h0 n0 _ T422.heap _
    exact ⟨A, K, S0, rfl, N422, O422, B422⟩
theorem pn_4x2 : plainName "java/util/Arrays" = true := by first | (simp [plainName, overriddenIn]; done) | decide +kernel
theorem ef_4x2 (m : MethodId) (r0 : Addr) : entryFrame m #[(.ref r0), (.int ((6 : Int32) - (1 : Int32)))] 4 = mkF m 0 #[.val (.ref r0), .val (.int ((6 : Int32) - (1 : Int32))), .unset, .unset] [] := by first | (simp [entryFrame, mkF, argsToLocals, Value.category]; done) | rfl
def Q4x2 (Z : State) (r0 : Addr) (k_r0 : ClassId) (h0 : Heap) (n0 : Nat) (v : Option Value) (h : Heap) (L : List Loc) : Prop := v = none ∧ Fr n0 L ∧ Old Z n0 h ∧ Keep h0 h [r0] ∧ Arv Z h r0 k_r0 .int (6 : Int32) [(.int ((6 : Int32) - (1 : Int32))), (.int ((6 : Int32) - (1 : Int32))), (.int ((6 : Int32) - (1 : Int32))), (.int ((6 : Int32) - (1 : Int32))), (.int ((6 : Int32) - (1 : Int32))), (.int ((6 : Int32) - (1 : Int32)))] (.int (0 : Int32))
set_option maxRecDepth 65536 in
set_option maxHeartbeats 40000000 in
theorem rm4x2 (l : Launch) (Z : State) (a0 : Array Value) (hw : ∀ d ∈ tables_1, d.before a0 Z = true) (ws : List Jvm.Cond) (hS : StF Z) (r0 : Addr) (k_r0 : ClassId) (h0 : Heap) (n0 : Nat) (O0 : Old Z n0 h0) (g_r0 : n0 ≤ r0) (V_r0 : Arv Z h0 r0 k_r0 .int (6 : Int32) [(.int (0 : Int32)), (.int (0 : Int32)), (.int (0 : Int32)), (.int (0 : Int32)), (.int (0 : Int32)), (.int (0 : Int32))] (.int (0 : Int32))) :
    MetFree l Y20 (head1 (Jvm.Cond.code Y20 jdk_65_method_103_code 4 none :: ws) ({ frames := 0, cells := 0, slots := 0, locals := 0 } : Room)) (fun a U => a = #[(.ref r0), (.int ((6 : Int32) - (1 : Int32)))] ∧ Z.Warmed39 U.vm ∧ U.heap = h0) (fun _ _ _ _ _ => True) (fun _ U o U' => ∃ v L, o = .returned v ∧ Q4x2 Z r0 k_r0 h0 n0 v U'.heap L ∧ FrameEnd U o U' L ({ frames := 0, cells := 0, slots := 0, locals := 0 } : Room).cells ({ frames := 0, cells := 0, slots := 0, locals := 0 } : Room).slots) := by
  refine MetFree.of_bodySF (plainFor_of_name pn_4x2) hisR ?_
  intro p e s m args below meth c s₁ Bd hml0 hP hK
  obtain ⟨rfl, hZ, hh⟩ := hP
  have hx := Bd.exec
  have hby := Bd.bytes
  have hml : c.maxLocals = 4 := hml0
  have hown : s.vm.findClass "java/util/Arrays" = some m.cls := findClass_of_methodNamed Bd.named
  have hnm := (name_of_methodNamed Bd.named Bd.method).1
  have X0 : Stand p l e ({ frames := 0, cells := 0, slots := 0, locals := 0 } : Room) s m #[(.ref r0), (.int ((6 : Int32) - 1))] below meth c s₁ [] 0 0 := Stand.of_body Bd
  have e0 : s₁.heap = h0 := by rw [← hh, Bd.state]; rfl
  have N0 := Fr.nil n0
  have hS0 := hS
  skip
  have pre0 : ∀ t, Steps p.tables e below (s₁.setTop (mkF m 0 #[.val (.ref r0), .val (.int ((6 : Int32) - 1)), .unset, .unset] [])) t → Steps p.tables e below (s₁.setTop (entryFrame m #[(.ref r0), (.int ((6 : Int32) - 1))] 4)) t := fun t k => castTop (ef_4x2 m r0) k
  generalize hE0 : s₁.setTop (entryFrame m #[(.ref r0), (.int ((6 : Int32) - 1))] 4) = E0 at pre0 ⊢
  obtain ⟨cl469, Ar469, qa469, Sa469, Ma469, Ha469, Ga469⟩ := id V_r0
  obtain ⟨cl470, Ar470, qa470, Sa470, Ma470, Ha470, Ga470⟩ := id V_r0
  have hin470 : ¬ ((0 : Int32) < 0 ∨ cl470.slots.size ≤ ((0 : Int32)).toNatClampNeg) := by exact inb_of Sa470 ⟨by decide, by decide⟩
  obtain ⟨T471, h471, X471, e471, W471, st471⟩ := stI X0 hx hZ e0 Ar470 (j := (0 : Int32)) hin470 (g := (mkF m 13 (lt20 r0 ((6 : Int32) - 1) 0 6) [(.int ((6 : Int32) - 1)), (.int 0), (.ref r0)])) rfl rfl (hb hby d4_13)
  have V_r0_471 : Arv Z h471 r0 k_r0 .int (6 : Int32) [(.int ((6 : Int32) - 1)), (.int 0), (.int 0), (.int 0), (.int 0), (.int 0)] (.int 0) := Arv.set Ar470 qa470 Sa470 Ma470 Ha470 Ga470 rfl W471 0 rfl (Nat.le_of_ble_eq_true rfl)
  have O471 := O0.wr W471 g_r0
  have N471 := Fr.snoc X471 N0 g_r0
  have K471 := (Keep.refl h0 [r0]).wr W471 (Or.inl (List.mem_of_getElem? (i := 0) rfl))
  obtain ⟨cl472, Ar472, qa472, Sa472, Ma472, Ha472, Ga472⟩ := id V_r0_471
  have hin472 : ¬ (((0 : Int32) + 1) < 0 ∨ cl472.slots.size ≤ (((0 : Int32) + 1)).toNatClampNeg) := by exact inb_of Sa472 ⟨by decide, by decide⟩
  obtain ⟨T473, h473, X473, e473, W473, st473⟩ := stI X471 hx hZ e471 Ar472 (j := ((0 : Int32) + 1)) hin472 (g := (mkF m 13 (lt20 r0 ((6 : Int32) - 1) ((0 : Int32) + 1) 6) [(.int ((6 : Int32) - 1)), (.int ((0 : Int32) + 1)), (.ref r0)])) rfl rfl (hb hby d4_13)
  have V_r0_473 : Arv Z h473 r0 k_r0 .int (6 : Int32) [(.int ((6 : Int32) - 1)), (.int ((6 : Int32) - 1)), (.int 0), (.int 0), (.int 0), (.int 0)] (.int 0) := Arv.set Ar472 qa472 Sa472 Ma472 Ha472 Ga472 rfl W473 1 rfl (Nat.le_of_ble_eq_true rfl)
  have O473 := O471.wr W473 g_r0
  have N473 := Fr.snoc X473 N471 g_r0
  have K473 := K471.wr W473 (Or.inl (List.mem_of_getElem? (i := 0) rfl))
  obtain ⟨cl474, Ar474, qa474, Sa474, Ma474, Ha474, Ga474⟩ := id V_r0_473
  have hin474 : ¬ ((((0 : Int32) + 1) + 1) < 0 ∨ cl474.slots.size ≤ ((((0 : Int32) + 1) + 1)).toNatClampNeg) := by exact inb_of Sa474 ⟨by decide, by decide⟩
  obtain ⟨T475, h475, X475, e475, W475, st475⟩ := stI X473 hx hZ e473 Ar474 (j := (((0 : Int32) + 1) + 1)) hin474 (g := (mkF m 13 (lt20 r0 ((6 : Int32) - 1) (((0 : Int32) + 1) + 1) 6) [(.int ((6 : Int32) - 1)), (.int (((0 : Int32) + 1) + 1)), (.ref r0)])) rfl rfl (hb hby d4_13)
  have V_r0_475 : Arv Z h475 r0 k_r0 .int (6 : Int32) [(.int ((6 : Int32) - 1)), (.int ((6 : Int32) - 1)), (.int ((6 : Int32) - 1)), (.int 0), (.int 0), (.int 0)] (.int 0) := Arv.set Ar474 qa474 Sa474 Ma474 Ha474 Ga474 rfl W475 2 rfl (Nat.le_of_ble_eq_true rfl)
  have O475 := O473.wr W475 g_r0
  have N475 := Fr.snoc X475 N473 g_r0
  have K475 := K473.wr W475 (Or.inl (List.mem_of_getElem? (i := 0) rfl))
  obtain ⟨cl476, Ar476, qa476, Sa476, Ma476, Ha476, Ga476⟩ := id V_r0_475
  have hin476 : ¬ (((((0 : Int32) + 1) + 1) + 1) < 0 ∨ cl476.slots.size ≤ (((((0 : Int32) + 1) + 1) + 1)).toNatClampNeg) := by exact inb_of Sa476 ⟨by decide, by decide⟩
  obtain ⟨T477, h477, X477, e477, W477, st477⟩ := stI X475 hx hZ e475 Ar476 (j := ((((0 : Int32) + 1) + 1) + 1)) hin476 (g := (mkF m 13 (lt20 r0 ((6 : Int32) - 1) ((((0 : Int32) + 1) + 1) + 1) 6) [(.int ((6 : Int32) - 1)), (.int ((((0 : Int32) + 1) + 1) + 1)), (.ref r0)])) rfl rfl (hb hby d4_13)
  have V_r0_477 : Arv Z h477 r0 k_r0 .int (6 : Int32) [(.int ((6 : Int32) - 1)), (.int ((6 : Int32) - 1)), (.int ((6 : Int32) - 1)), (.int ((6 : Int32) - 1)), (.int 0), (.int 0)] (.int 0) := Arv.set Ar476 qa476 Sa476 Ma476 Ha476 Ga476 rfl W477 3 rfl (Nat.le_of_ble_eq_true rfl)
  have O477 := O475.wr W477 g_r0
  have N477 := Fr.snoc X477 N475 g_r0
  have K477 := K475.wr W477 (Or.inl (List.mem_of_getElem? (i := 0) rfl))
  obtain ⟨cl478, Ar478, qa478, Sa478, Ma478, Ha478, Ga478⟩ := id V_r0_477
  have hin478 : ¬ ((((((0 : Int32) + 1) + 1) + 1) + 1) < 0 ∨ cl478.slots.size ≤ ((((((0 : Int32) + 1) + 1) + 1) + 1)).toNatClampNeg) := by exact inb_of Sa478 ⟨by decide, by decide⟩
  obtain ⟨T479, h479, X479, e479, W479, st479⟩ := stI X477 hx hZ e477 Ar478 (j := (((((0 : Int32) + 1) + 1) + 1) + 1)) hin478 (g := (mkF m 13 (lt20 r0 ((6 : Int32) - 1) (((((0 : Int32) + 1) + 1) + 1) + 1) 6) [(.int ((6 : Int32) - 1)), (.int (((((0 : Int32) + 1) + 1) + 1) + 1)), (.ref r0)])) rfl rfl (hb hby d4_13)
  have V_r0_479 : Arv Z h479 r0 k_r0 .int (6 : Int32) [(.int ((6 : Int32) - 1)), (.int ((6 : Int32) - 1)), (.int ((6 : Int32) - 1)), (.int ((6 : Int32) - 1)), (.int ((6 : Int32) - 1)), (.int 0)] (.int 0) := Arv.set Ar478 qa478 Sa478 Ma478 Ha478 Ga478 rfl W479 4 rfl (Nat.le_of_ble_eq_true rfl)
  have O479 := O477.wr W479 g_r0
  have N479 := Fr.snoc X479 N477 g_r0
  have K479 := K477.wr W479 (Or.inl (List.mem_of_getElem? (i := 0) rfl))
  obtain ⟨cl480, Ar480, qa480, Sa480, Ma480, Ha480, Ga480⟩ := id V_r0_479
  have hin480 : ¬ (((((((0 : Int32) + 1) + 1) + 1) + 1) + 1) < 0 ∨ cl480.slots.size ≤ (((((((0 : Int32) + 1) + 1) + 1) + 1) + 1)).toNatClampNeg) := by exact inb_of Sa480 ⟨by decide, by decide⟩
  obtain ⟨T481, h481, X481, e481, W481, st481⟩ := stI X479 hx hZ e479 Ar480 (j := ((((((0 : Int32) + 1) + 1) + 1) + 1) + 1)) hin480 (g := (mkF m 13 (lt20 r0 ((6 : Int32) - 1) ((((((0 : Int32) + 1) + 1) + 1) + 1) + 1) 6) [(.int ((6 : Int32) - 1)), (.int ((((((0 : Int32) + 1) + 1) + 1) + 1) + 1)), (.ref r0)])) rfl rfl (hb hby d4_13)
  have V_r0_481 : Arv Z h481 r0 k_r0 .int (6 : Int32) [(.int ((6 : Int32) - 1)), (.int ((6 : Int32) - 1)), (.int ((6 : Int32) - 1)), (.int ((6 : Int32) - 1)), (.int ((6 : Int32) - 1)), (.int ((6 : Int32) - 1))] (.int 0) := Arv.set Ar480 qa480 Sa480 Ma480 Ha480 Ga480 rfl W481 5 rfl (Nat.le_of_ble_eq_true rfl)
  have O481 := O479.wr W481 g_r0
  have N481 := Fr.snoc X481 N479 g_r0
  have K481 := K479.wr W481 (Or.inl (List.mem_of_getElem? (i := 0) rfl))
  obtain ⟨fs, hr, hrun, hended, hW, hsame⟩ := X481.leave (v := none) (fun _ => rfl)
  refine ⟨_, _, pre0 _ ?_, hrun, hended, _, _, rfl, ?_, ⟨_, rfl⟩, hW, hsame.mono (by decide) (by decide)⟩
  · show Sp p e below s₁ (mkF m 0 (lt18 r0 ((6 : Int32) - 1)) []) _
    refine XS.iconst X0.here hx rfl (hb hby d4_0) ?_
    refine XS.istoreN X0.here hx rfl (hb hby d4_1) rfl (l' := (lt19 r0 ((6 : Int32) - 1) 0)) rfl ?_
    show Sp p e below s₁ (mkF m 2 (lt19 r0 ((6 : Int32) - 1) 0) []) _
    refine XS.aloadN X0.here hx rfl (hb hby d4_2) rfl rfl ?_
    show Sp p e below s₁ (mkF m 3 (lt19 r0 ((6 : Int32) - 1) 0) [(.ref r0)]) _
    refine X0.arraylength hx (by rw [e0]; exact Ar469.1) (State.isArrayOf_alike hZ.alike Ar469.2.1) (g := (mkF m 3 (lt19 r0 ((6 : Int32) - 1) 0) [(.ref r0)])) rfl rfl (hb hby d4_3) _ ?_
    rw [len_of Sa469 Ma469]
    show Sp p e below s₁ (mkF m 4 (lt19 r0 ((6 : Int32) - 1) 0) [(.int 6)]) _
    refine XS.istoreN X0.here hx rfl (hb hby d4_4) rfl (l' := (lt20 r0 ((6 : Int32) - 1) 0 6)) rfl ?_
    refine XS.iloadN X0.here hx rfl (hb hby d4_5) rfl ?_
    show Sp p e below s₁ (mkF m 6 (lt20 r0 ((6 : Int32) - 1) 0 6) [(.int 0)]) _
    refine XS.iloadN X0.here hx rfl (hb hby d4_6) rfl ?_
    show Sp p e below s₁ (mkF m 7 (lt20 r0 ((6 : Int32) - 1) 0 6) [(.int 6), (.int 0)]) _
    refine XS.icmpNo X0.here hx rfl (hb hby d4_7) rfl (tlt (by decide : ((0 : Int32) < (6 : Int32)))).2.1 ?_
    show Sp p e below s₁ (mkF m 10 (lt20 r0 ((6 : Int32) - 1) 0 6) []) _
    refine XS.aloadN X0.here hx rfl (hb hby d4_10) rfl rfl ?_
    refine XS.iloadN X0.here hx rfl (hb hby d4_11) rfl ?_
    show Sp p e below s₁ (mkF m 12 (lt20 r0 ((6 : Int32) - 1) 0 6) [(.int 0), (.ref r0)]) _
    refine XS.iloadN X0.here hx rfl (hb hby d4_12) rfl ?_
    show Sp p e below s₁ (mkF m 13 (lt20 r0 ((6 : Int32) - 1) 0 6) [(.int ((6 : Int32) - 1)), (.int 0), (.ref r0)]) _
    refine st471 _ ?_
    show Sp p e below T471 (mkF m 14 (lt20 r0 ((6 : Int32) - 1) 0 6) []) _
    refine XS.iinc X471.here hx rfl (hb hby d4_14) rfl (l' := (lt20 r0 ((6 : Int32) - 1) ((0 : Int32) + 1) 6)) rfl ?_
    show Sp p e below T471 (mkF m 17 (lt20 r0 ((6 : Int32) - 1) ((0 : Int32) + 1) 6) []) _
    refine XS.goto X471.here hx rfl (pc0 := 17) (pc' := 5) rfl (hb hby d4_17) (by decide) (by decide) ?_
    show Sp p e below T471 (mkF m 5 (lt20 r0 ((6 : Int32) - 1) ((0 : Int32) + 1) 6) []) _
    refine XS.iloadN X471.here hx rfl (hb hby d4_5) rfl ?_
    refine XS.iloadN X471.here hx rfl (hb hby d4_6) rfl ?_
    show Sp p e below T471 (mkF m 7 (lt20 r0 ((6 : Int32) - 1) ((0 : Int32) + 1) 6) [(.int 6), (.int ((0 : Int32) + 1))]) _
    refine XS.icmpNo X471.here hx rfl (hb hby d4_7) rfl (tlt (by decide : (((0 : Int32) + 1) < (6 : Int32)))).2.1 ?_
    show Sp p e below T471 (mkF m 10 (lt20 r0 ((6 : Int32) - 1) ((0 : Int32) + 1) 6) []) _
    refine XS.aloadN X471.here hx rfl (hb hby d4_10) rfl rfl ?_
    refine XS.iloadN X471.here hx rfl (hb hby d4_11) rfl ?_
    show Sp p e below T471 (mkF m 12 (lt20 r0 ((6 : Int32) - 1) ((0 : Int32) + 1) 6) [(.int ((0 : Int32) + 1)), (.ref r0)]) _
    refine XS.iloadN X471.here hx rfl (hb hby d4_12) rfl ?_
    show Sp p e below T471 (mkF m 13 (lt20 r0 ((6 : Int32) - 1) ((0 : Int32) + 1) 6) [(.int ((6 : Int32) - 1)), (.int ((0 : Int32) + 1)), (.ref r0)]) _
    refine st473 _ ?_
    show Sp p e below T473 (mkF m 14 (lt20 r0 ((6 : Int32) - 1) ((0 : Int32) + 1) 6) []) _
    refine XS.iinc X473.here hx rfl (hb hby d4_14) rfl (l' := (lt20 r0 ((6 : Int32) - 1) (((0 : Int32) + 1) + 1) 6)) rfl ?_
    show Sp p e below T473 (mkF m 17 (lt20 r0 ((6 : Int32) - 1) (((0 : Int32) + 1) + 1) 6) []) _
    refine XS.goto X473.here hx rfl (pc0 := 17) (pc' := 5) rfl (hb hby d4_17) (by decide) (by decide) ?_
    show Sp p e below T473 (mkF m 5 (lt20 r0 ((6 : Int32) - 1) (((0 : Int32) + 1) + 1) 6) []) _
    refine XS.iloadN X473.here hx rfl (hb hby d4_5) rfl ?_
    refine XS.iloadN X473.here hx rfl (hb hby d4_6) rfl ?_
    show Sp p e below T473 (mkF m 7 (lt20 r0 ((6 : Int32) - 1) (((0 : Int32) + 1) + 1) 6) [(.int 6), (.int (((0 : Int32) + 1) + 1))]) _
    refine XS.icmpNo X473.here hx rfl (hb hby d4_7) rfl (tlt (by decide : ((((0 : Int32) + 1) + 1) < (6 : Int32)))).2.1 ?_
    show Sp p e below T473 (mkF m 10 (lt20 r0 ((6 : Int32) - 1) (((0 : Int32) + 1) + 1) 6) []) _
    refine XS.aloadN X473.here hx rfl (hb hby d4_10) rfl rfl ?_
    refine XS.iloadN X473.here hx rfl (hb hby d4_11) rfl ?_
    show Sp p e below T473 (mkF m 12 (lt20 r0 ((6 : Int32) - 1) (((0 : Int32) + 1) + 1) 6) [(.int (((0 : Int32) + 1) + 1)), (.ref r0)]) _
    refine XS.iloadN X473.here hx rfl (hb hby d4_12) rfl ?_
    show Sp p e below T473 (mkF m 13 (lt20 r0 ((6 : Int32) - 1) (((0 : Int32) + 1) + 1) 6) [(.int ((6 : Int32) - 1)), (.int (((0 : Int32) + 1) + 1)), (.ref r0)]) _
    refine st475 _ ?_
    show Sp p e below T475 (mkF m 14 (lt20 r0 ((6 : Int32) - 1) (((0 : Int32) + 1) + 1) 6) []) _
    refine XS.iinc X475.here hx rfl (hb hby d4_14) rfl (l' := (lt20 r0 ((6 : Int32) - 1) ((((0 : Int32) + 1) + 1) + 1) 6)) rfl ?_
    show Sp p e below T475 (mkF m 17 (lt20 r0 ((6 : Int32) - 1) ((((0 : Int32) + 1) + 1) + 1) 6) []) _
    refine XS.goto X475.here hx rfl (pc0 := 17) (pc' := 5) rfl (hb hby d4_17) (by decide) (by decide) ?_
    show Sp p e below T475 (mkF m 5 (lt20 r0 ((6 : Int32) - 1) ((((0 : Int32) + 1) + 1) + 1) 6) []) _
    refine XS.iloadN X475.here hx rfl (hb hby d4_5) rfl ?_
    refine XS.iloadN X475.here hx rfl (hb hby d4_6) rfl ?_
    show Sp p e below T475 (mkF m 7 (lt20 r0 ((6 : Int32) - 1) ((((0 : Int32) + 1) + 1) + 1) 6) [(.int 6), (.int ((((0 : Int32) + 1) + 1) + 1))]) _
    refine XS.icmpNo X475.here hx rfl (hb hby d4_7) rfl (tlt (by decide : (((((0 : Int32) + 1) + 1) + 1) < (6 : Int32)))).2.1 ?_
    show Sp p e below T475 (mkF m 10 (lt20 r0 ((6 : Int32) - 1) ((((0 : Int32) + 1) + 1) + 1) 6) []) _
    refine XS.aloadN X475.here hx rfl (hb hby d4_10) rfl rfl ?_
    refine XS.iloadN X475.here hx rfl (hb hby d4_11) rfl ?_
    show Sp p e below T475 (mkF m 12 (lt20 r0 ((6 : Int32) - 1) ((((0 : Int32) + 1) + 1) + 1) 6) [(.int ((((0 : Int32) + 1) + 1) + 1)), (.ref r0)]) _
    refine XS.iloadN X475.here hx rfl (hb hby d4_12) rfl ?_
    show Sp p e below T475 (mkF m 13 (lt20 r0 ((6 : Int32) - 1) ((((0 : Int32) + 1) + 1) + 1) 6) [(.int ((6 : Int32) - 1)), (.int ((((0 : Int32) + 1) + 1) + 1)), (.ref r0)]) _
    refine st477 _ ?_
    show Sp p e below T477 (mkF m 14 (lt20 r0 ((6 : Int32) - 1) ((((0 : Int32) + 1) + 1) + 1) 6) []) _
    refine XS.iinc X477.here hx rfl (hb hby d4_14) rfl (l' := (lt20 r0 ((6 : Int32) - 1) (((((0 : Int32) + 1) + 1) + 1) + 1) 6)) rfl ?_
    show Sp p e below T477 (mkF m 17 (lt20 r0 ((6 : Int32) - 1) (((((0 : Int32) + 1) + 1) + 1) + 1) 6) []) _
    refine XS.goto X477.here hx rfl (pc0 := 17) (pc' := 5) rfl (hb hby d4_17) (by decide) (by decide) ?_
    show Sp p e below T477 (mkF m 5 (lt20 r0 ((6 : Int32) - 1) (((((0 : Int32) + 1) + 1) + 1) + 1) 6) []) _
    refine XS.iloadN X477.here hx rfl (hb hby d4_5) rfl ?_
    refine XS.iloadN X477.here hx rfl (hb hby d4_6) rfl ?_
    show Sp p e below T477 (mkF m 7 (lt20 r0 ((6 : Int32) - 1) (((((0 : Int32) + 1) + 1) + 1) + 1) 6) [(.int 6), (.int (((((0 : Int32) + 1) + 1) + 1) + 1))]) _
    refine XS.icmpNo X477.here hx rfl (hb hby d4_7) rfl (tlt (by decide : ((((((0 : Int32) + 1) + 1) + 1) + 1) < (6 : Int32)))).2.1 ?_
    show Sp p e below T477 (mkF m 10 (lt20 r0 ((6 : Int32) - 1) (((((0 : Int32) + 1) + 1) + 1) + 1) 6) []) _
    refine XS.aloadN X477.here hx rfl (hb hby d4_10) rfl rfl ?_
    refine XS.iloadN X477.here hx rfl (hb hby d4_11) rfl ?_
    show Sp p e below T477 (mkF m 12 (lt20 r0 ((6 : Int32) - 1) (((((0 : Int32) + 1) + 1) + 1) + 1) 6) [(.int (((((0 : Int32) + 1) + 1) + 1) + 1)), (.ref r0)]) _
    refine XS.iloadN X477.here hx rfl (hb hby d4_12) rfl ?_
    show Sp p e below T477 (mkF m 13 (lt20 r0 ((6 : Int32) - 1) (((((0 : Int32) + 1) + 1) + 1) + 1) 6) [(.int ((6 : Int32) - 1)), (.int (((((0 : Int32) + 1) + 1) + 1) + 1)), (.ref r0)]) _
    refine st479 _ ?_
    show Sp p e below T479 (mkF m 14 (lt20 r0 ((6 : Int32) - 1) (((((0 : Int32) + 1) + 1) + 1) + 1) 6) []) _
    refine XS.iinc X479.here hx rfl (hb hby d4_14) rfl (l' := (lt20 r0 ((6 : Int32) - 1) ((((((0 : Int32) + 1) + 1) + 1) + 1) + 1) 6)) rfl ?_
    show Sp p e below T479 (mkF m 17 (lt20 r0 ((6 : Int32) - 1) ((((((0 : Int32) + 1) + 1) + 1) + 1) + 1) 6) []) _
    refine XS.goto X479.here hx rfl (pc0 := 17) (pc' := 5) rfl (hb hby d4_17) (by decide) (by decide) ?_
    show Sp p e below T479 (mkF m 5 (lt20 r0 ((6 : Int32) - 1) ((((((0 : Int32) + 1) + 1) + 1) + 1) + 1) 6) []) _
    refine XS.iloadN X479.here hx rfl (hb hby d4_5) rfl ?_
    refine XS.iloadN X479.here hx rfl (hb hby d4_6) rfl ?_
    show Sp p e below T479 (mkF m 7 (lt20 r0 ((6 : Int32) - 1) ((((((0 : Int32) + 1) + 1) + 1) + 1) + 1) 6) [(.int 6), (.int ((((((0 : Int32) + 1) + 1) + 1) + 1) + 1))]) _
    refine XS.icmpNo X479.here hx rfl (hb hby d4_7) rfl (tlt (by decide : (((((((0 : Int32) + 1) + 1) + 1) + 1) + 1) < (6 : Int32)))).2.1 ?_
    show Sp p e below T479 (mkF m 10 (lt20 r0 ((6 : Int32) - 1) ((((((0 : Int32) + 1) + 1) + 1) + 1) + 1) 6) []) _
    refine XS.aloadN X479.here hx rfl (hb hby d4_10) rfl rfl ?_
    refine XS.iloadN X479.here hx rfl (hb hby d4_11) rfl ?_
    show Sp p e below T479 (mkF m 12 (lt20 r0 ((6 : Int32) - 1) ((((((0 : Int32) + 1) + 1) + 1) + 1) + 1) 6) [(.int ((((((0 : Int32) + 1) + 1) + 1) + 1) + 1)), (.ref r0)]) _
    refine XS.iloadN X479.here hx rfl (hb hby d4_12) rfl ?_
    show Sp p e below T479 (mkF m 13 (lt20 r0 ((6 : Int32) - 1) ((((((0 : Int32) + 1) + 1) + 1) + 1) + 1) 6) [(.int ((6 : Int32) - 1)), (.int ((((((0 : Int32) + 1) + 1) + 1) + 1) + 1)), (.ref r0)]) _
    refine st481 _ ?_
    show Sp p e below T481 (mkF m 14 (lt20 r0 ((6 : Int32) - 1) ((((((0 : Int32) + 1) + 1) + 1) + 1) + 1) 6) []) _
    refine XS.iinc X481.here hx rfl (hb hby d4_14) rfl (l' := (lt20 r0 ((6 : Int32) - 1) (((((((0 : Int32) + 1) + 1) + 1) + 1) + 1) + 1) 6)) rfl ?_
    show Sp p e below T481 (mkF m 17 (lt20 r0 ((6 : Int32) - 1) (((((((0 : Int32) + 1) + 1) + 1) + 1) + 1) + 1) 6) []) _
    refine XS.goto X481.here hx rfl (pc0 := 17) (pc' := 5) rfl (hb hby d4_17) (by decide) (by decide) ?_
    show Sp p e below T481 (mkF m 5 (lt20 r0 ((6 : Int32) - 1) (((((((0 : Int32) + 1) + 1) + 1) + 1) + 1) + 1) 6) []) _
    refine XS.iloadN X481.here hx rfl (hb hby d4_5) rfl ?_
    refine XS.iloadN X481.here hx rfl (hb hby d4_6) rfl ?_
    show Sp p e below T481 (mkF m 7 (lt20 r0 ((6 : Int32) - 1) (((((((0 : Int32) + 1) + 1) + 1) + 1) + 1) + 1) 6) [(.int 6), (.int (((((((0 : Int32) + 1) + 1) + 1) + 1) + 1) + 1))]) _
    refine XS.icmpYes X481.here hx rfl (pc0 := 7) (pc' := 20) rfl (hb hby d4_7) rfl (flt (by decide : ¬ ((((((((0 : Int32) + 1) + 1) + 1) + 1) + 1) + 1) < (6 : Int32)))).2.1 (by decide) (by decide) ?_
    show Sp p e below T481 (mkF m 20 (lt20 r0 ((6 : Int32) - 1) (((((((0 : Int32) + 1) + 1) + 1) + 1) + 1) + 1) 6) []) _
    exact X481.returnOut hx Bd.returns (hb hby d4_20) hr
  · show Q4x2 Z r0 k_r0 h0 n0 _ T481.heap _
    rw [e481]
    exact ⟨rfl, N481, O481, K481, V_r0_481⟩
theorem ef_5x3 (m : MethodId)  : entryFrame m #[(.long kE6)] 2 = mkF m 0 #[.val (.long kE6), .second] [] := by first | (simp [entryFrame, mkF, argsToLocals, Value.category]; done) | rfl
def Q5x3 (Z : State) (h0 : Heap) (n0 : Nat) (v : Option Value) (h : Heap) (L : List Loc) : Prop := v = some (.int (kE6.toInt32)) ∧ Fr n0 L ∧ h = h0
set_option maxRecDepth 65536 in
set_option maxHeartbeats 40000000 in
theorem rm5x3 (l : Launch) (Z : State) (a0 : Array Value) (hw : ∀ d ∈ tables_1, d.before a0 Z = true) (ws : List Jvm.Cond) (hS : StF Z) (h0 : Heap) (n0 : Nat) (O0 : Old Z n0 h0) :
    MetFree l Y23 (head1 (Jvm.Cond.code Y23 jdk_29_method_43_code 2 (some .int) :: ws) ({ frames := 0, cells := 0, slots := 0, locals := 0 } : Room)) (fun a U => a = #[(.long kE6)] ∧ Z.Warmed39 U.vm ∧ U.heap = h0) (fun _ _ _ _ _ => True) (fun _ U o U' => ∃ v L, o = .returned v ∧ Q5x3 Z h0 n0 v U'.heap L ∧ FrameEnd U o U' L ({ frames := 0, cells := 0, slots := 0, locals := 0 } : Room).cells ({ frames := 0, cells := 0, slots := 0, locals := 0 } : Room).slots) := by
  refine MetFree.of_bodySF (Jvm.Free.JP.mathPlain rfl (by decide +kernel)) hisR ?_
  intro p e s m args below meth c s₁ Bd hml0 hP hK
  obtain ⟨rfl, hZ, hh⟩ := hP
  have hx := Bd.exec
  have hby := Bd.bytes
  have hml : c.maxLocals = 2 := hml0
  have hown : s.vm.findClass "java/lang/Math" = some m.cls := findClass_of_methodNamed Bd.named
  have hnm := (name_of_methodNamed Bd.named Bd.method).1
  have X0 : Stand p l e ({ frames := 0, cells := 0, slots := 0, locals := 0 } : Room) s m #[(.long kE6)] below meth c s₁ [] 0 0 := Stand.of_body Bd
  have e0 : s₁.heap = h0 := by rw [← hh, Bd.state]; rfl
  have N0 := Fr.nil n0
  have hS0 := hS
  skip
  have pre0 : ∀ t, Steps p.tables e below (s₁.setTop (mkF m 0 #[.val (.long kE6), .second] [])) t → Steps p.tables e below (s₁.setTop (entryFrame m #[(.long kE6)] 2)) t := fun t k => castTop (ef_5x3 m ) k
  generalize hE0 : s₁.setTop (entryFrame m #[(.long kE6)] 2) = E0 at pre0 ⊢
  obtain ⟨fs, hr, hrun, hended, hW, hsame⟩ := X0.leave (v := some (.int (kE6.toInt32))) (fun h => by rw [Bd.returns] at h; cases h)
  refine ⟨_, _, pre0 _ ?_, hrun, hended, _, _, rfl, ?_, ⟨_, rfl⟩, hW, hsame.mono (by decide) (by decide)⟩
  · show Sp p e below s₁ (mkF m 0 (lt22 kE6) []) _
    refine XS.lloadN X0.here hx rfl (hb hby d5_0) rfl ?_
    refine XS.l2i X0.here hx rfl (hb hby d5_1) rfl ?_
    show Sp p e below s₁ (mkF m 2 (lt22 kE6) [(.int (kE6.toInt32))]) _
    refine XS.i2l X0.here hx rfl (hb hby d5_2) rfl ?_
    refine XS.lloadN X0.here hx rfl (hb hby d5_3) rfl ?_
    show Sp p e below s₁ (mkF m 4 (lt22 kE6) [(.long kE6), (.long ((kE6.toInt32).toInt64))]) _
    refine XS.lcmp X0.here hx rfl (hb hby d5_4) rfl ?_
    show Sp p e below s₁ (mkF m 5 (lt22 kE6) [(.int (lcmpW ((kE6.toInt32).toInt64) kE6))]) _
    refine XS.ifYes X0.here hx rfl (pc0 := 5) (pc' := 18) rfl (hb hby d5_5) rfl ((if0 _ _).trans (teq (by decide : ((lcmpW ((kE6.toInt32).toInt64) kE6) = (0 : Int32)))).1) (by decide) (by decide) ?_
    show Sp p e below s₁ (mkF m 18 (lt22 kE6) []) _
    refine XS.lloadN X0.here hx rfl (hb hby d5_18) rfl ?_
    refine XS.l2i X0.here hx rfl (hb hby d5_19) rfl ?_
    show Sp p e below s₁ (mkF m 20 (lt22 kE6) [(.int (kE6.toInt32))]) _
    exact retI X0 hx Bd.returns (hb hby d5_20) hr
  · show Q5x3 Z h0 n0 _ s₁.heap _
    rw [e0]
    exact ⟨rfl, N0, rfl⟩
theorem ef_5x4 (m : MethodId)  : entryFrame m #[(.long kA6)] 2 = mkF m 0 #[.val (.long kA6), .second] [] := by first | (simp [entryFrame, mkF, argsToLocals, Value.category]; done) | rfl
def Q5x4 (Z : State) (h0 : Heap) (n0 : Nat) (v : Option Value) (h : Heap) (L : List Loc) : Prop := v = some (.int (kA6.toInt32)) ∧ Fr n0 L ∧ h = h0
set_option maxRecDepth 65536 in
set_option maxHeartbeats 40000000 in
theorem rm5x4 (l : Launch) (Z : State) (a0 : Array Value) (hw : ∀ d ∈ tables_1, d.before a0 Z = true) (ws : List Jvm.Cond) (hS : StF Z) (h0 : Heap) (n0 : Nat) (O0 : Old Z n0 h0) :
    MetFree l Y23 (head1 (Jvm.Cond.code Y23 jdk_29_method_43_code 2 (some .int) :: ws) ({ frames := 0, cells := 0, slots := 0, locals := 0 } : Room)) (fun a U => a = #[(.long kA6)] ∧ Z.Warmed39 U.vm ∧ U.heap = h0) (fun _ _ _ _ _ => True) (fun _ U o U' => ∃ v L, o = .returned v ∧ Q5x4 Z h0 n0 v U'.heap L ∧ FrameEnd U o U' L ({ frames := 0, cells := 0, slots := 0, locals := 0 } : Room).cells ({ frames := 0, cells := 0, slots := 0, locals := 0 } : Room).slots) := by
  refine MetFree.of_bodySF (Jvm.Free.JP.mathPlain rfl (by decide +kernel)) hisR ?_
  intro p e s m args below meth c s₁ Bd hml0 hP hK
  obtain ⟨rfl, hZ, hh⟩ := hP
  have hx := Bd.exec
  have hby := Bd.bytes
  have hml : c.maxLocals = 2 := hml0
  have hown : s.vm.findClass "java/lang/Math" = some m.cls := findClass_of_methodNamed Bd.named
  have hnm := (name_of_methodNamed Bd.named Bd.method).1
  have X0 : Stand p l e ({ frames := 0, cells := 0, slots := 0, locals := 0 } : Room) s m #[(.long kA6)] below meth c s₁ [] 0 0 := Stand.of_body Bd
  have e0 : s₁.heap = h0 := by rw [← hh, Bd.state]; rfl
  have N0 := Fr.nil n0
  have hS0 := hS
  skip
  have pre0 : ∀ t, Steps p.tables e below (s₁.setTop (mkF m 0 #[.val (.long kA6), .second] [])) t → Steps p.tables e below (s₁.setTop (entryFrame m #[(.long kA6)] 2)) t := fun t k => castTop (ef_5x4 m ) k
  generalize hE0 : s₁.setTop (entryFrame m #[(.long kA6)] 2) = E0 at pre0 ⊢
  obtain ⟨fs, hr, hrun, hended, hW, hsame⟩ := X0.leave (v := some (.int (kA6.toInt32))) (fun h => by rw [Bd.returns] at h; cases h)
  refine ⟨_, _, pre0 _ ?_, hrun, hended, _, _, rfl, ?_, ⟨_, rfl⟩, hW, hsame.mono (by decide) (by decide)⟩
  · show Sp p e below s₁ (mkF m 0 (lt22 kA6) []) _
    refine XS.lloadN X0.here hx rfl (hb hby d5_0) rfl ?_
    refine XS.l2i X0.here hx rfl (hb hby d5_1) rfl ?_
    show Sp p e below s₁ (mkF m 2 (lt22 kA6) [(.int (kA6.toInt32))]) _
    refine XS.i2l X0.here hx rfl (hb hby d5_2) rfl ?_
    refine XS.lloadN X0.here hx rfl (hb hby d5_3) rfl ?_
    show Sp p e below s₁ (mkF m 4 (lt22 kA6) [(.long kA6), (.long ((kA6.toInt32).toInt64))]) _
    refine XS.lcmp X0.here hx rfl (hb hby d5_4) rfl ?_
    show Sp p e below s₁ (mkF m 5 (lt22 kA6) [(.int (lcmpW ((kA6.toInt32).toInt64) kA6))]) _
    refine XS.ifYes X0.here hx rfl (pc0 := 5) (pc' := 18) rfl (hb hby d5_5) rfl ((if0 _ _).trans (teq (by decide : ((lcmpW ((kA6.toInt32).toInt64) kA6) = (0 : Int32)))).1) (by decide) (by decide) ?_
    show Sp p e below s₁ (mkF m 18 (lt22 kA6) []) _
    refine XS.lloadN X0.here hx rfl (hb hby d5_18) rfl ?_
    refine XS.l2i X0.here hx rfl (hb hby d5_19) rfl ?_
    show Sp p e below s₁ (mkF m 20 (lt22 kA6) [(.int (kA6.toInt32))]) _
    exact retI X0 hx Bd.returns (hb hby d5_20) hr
  · show Q5x4 Z h0 n0 _ s₁.heap _
    rw [e0]
    exact ⟨rfl, N0, rfl⟩
def M0_6 : MM := [[0, 0, 0, 0, 0, 0], [5, 5, 5, 5, 5, 5], [0, 1, 2, 3, 4, 5], [1, 1, 1, 1, 1, 1], [0, 0, 0, 0, 0, 0], [0, 0, 0, 0, 0, 0], List.replicate 66 0, [0, 0, 0, 0, 0, 0, 0], [0, 0, 0, 0, 0, 0, 0, 0, 0, 0, 0, 0, 0, 0, 0, 0, 0, 0, 0, 0, 0, 0, 0, 0, 0, 0, 0, 0, 0, 0], [0], [0], [0], [0], [], [0, 0, 0, 0, 0, 0], [0, 0, 0, 0, 0, 0], [0, 0, 0, 0, 0, 0], [0, 0, 0, 0, 0, 0], [0, 0, 0, 0, 0, 0], [0, 0, 0, 0, 0, 0]]
theorem pn_2n2x2 : plainName "com/example/onetree/onetree/EdgeStates" = true := by first | (simp [plainName, overriddenIn]; done) | decide +kernel
theorem ef_2n2x2 (m : MethodId) (r0 : Addr) : entryFrame m #[(.ref r0), (.int (6 : Int32)), .null] 7 = mkF m 0 #[.val (.ref r0), .val (.int (6 : Int32)), .val .null, .unset, .unset, .unset, .unset] [] := by first | (simp [entryFrame, mkF, argsToLocals, Value.category]; done) | rfl
def Q2n2x2 (Z : State) (r0 : Addr) (h0 : Heap) (n0 : Nat) (v : Option Value) (h : Heap) (L : List Loc) : Prop := ∃ (A : Nat → Addr) (K : Nat → ClassId) (S0 : Addr), v = none ∧ Fr n0 L ∧ Old Z n0 h ∧ EB Z n0 false h r0 A K S0 6 M0_6
set_option maxRecDepth 65536 in
set_option maxHeartbeats 40000000 in
theorem rm2n2x2 (l : Launch) (Z : State) (a0 : Array Value) (hw : ∀ d ∈ tables_1, d.before a0 Z = true) (ws : List Jvm.Cond) (hS : StF Z) (r0 : Addr) (h0 : Heap) (n0 : Nat) (O0 : Old Z n0 h0) (g_r0 : n0 ≤ r0) (E_r0 : Exa Z h0 r0 "com/example/onetree/onetree/EdgeStates") (F_cities_r0 : Fld Z h0 r0 "com/example/onetree/onetree/EdgeStates" "cities" "I" (.int (0 : Int32))) (F_fixedEdges_r0 : Fld Z h0 r0 "com/example/onetree/onetree/EdgeStates" "fixedEdges" "[[I" .null) (F_forcedDegree_r0 : Fld Z h0 r0 "com/example/onetree/onetree/EdgeStates" "forcedDegree" "[I" .null) (F_isPending_r0 : Fld Z h0 r0 "com/example/onetree/onetree/EdgeStates" "isPending" "[Z" .null) (F_listStart_r0 : Fld Z h0 r0 "com/example/onetree/onetree/EdgeStates" "listStart" "[I" .null) (F_listed_r0 : Fld Z h0 r0 "com/example/onetree/onetree/EdgeStates" "listed" "Z" (.int (0 : Int32))) (F_neighbours_r0 : Fld Z h0 r0 "com/example/onetree/onetree/EdgeStates" "neighbours" "[I" .null) (F_openDegree_r0 : Fld Z h0 r0 "com/example/onetree/onetree/EdgeStates" "openDegree" "[I" .null) (F_otherEnd_r0 : Fld Z h0 r0 "com/example/onetree/onetree/EdgeStates" "otherEnd" "[I" .null) (F_pathSize_r0 : Fld Z h0 r0 "com/example/onetree/onetree/EdgeStates" "pathSize" "[I" .null) (F_pending_r0 : Fld Z h0 r0 "com/example/onetree/onetree/EdgeStates" "pending" "[I" .null) (F_pendingCount_r0 : Fld Z h0 r0 "com/example/onetree/onetree/EdgeStates" "pendingCount" "I" (.int (0 : Int32))) (F_pendingHead_r0 : Fld Z h0 r0 "com/example/onetree/onetree/EdgeStates" "pendingHead" "I" (.int (0 : Int32))) (F_states_r0 : Fld Z h0 r0 "com/example/onetree/onetree/EdgeStates" "states" "[[B" .null) (F_trail_r0 : Fld Z h0 r0 "com/example/onetree/onetree/EdgeStates" "trail" "[I" .null) (F_trailSize_r0 : Fld Z h0 r0 "com/example/onetree/onetree/EdgeStates" "trailSize" "I" (.int (0 : Int32))) :
    MetFree l Y25 (head1 (Jvm.Cond.code Y25 prog_7_method_3_code 7 none :: ws) ({ frames := 1, cells := 17, slots := 181, locals := 15 } : Room)) (fun a U => a = #[(.ref r0), (.int (6 : Int32)), .null] ∧ Z.Warmed39 U.vm ∧ U.heap = h0) (fun _ _ _ _ _ => True) (fun _ U o U' => ∃ v L, o = .returned v ∧ Q2n2x2 Z r0 h0 n0 v U'.heap L ∧ FrameEnd U o U' L ({ frames := 1, cells := 17, slots := 181, locals := 15 } : Room).cells ({ frames := 1, cells := 17, slots := 181, locals := 15 } : Room).slots) := by
  refine MetFree.of_bodySF (plainFor_of_name pn_2n2x2) hisR ?_
  intro p e s m args below meth c s₁ Bd hml0 hP hK
  obtain ⟨rfl, hZ, hh⟩ := hP
  have hx := Bd.exec
  have hby := Bd.bytes
  have hml : c.maxLocals = 7 := hml0
  have hown : s.vm.findClass "com/example/onetree/onetree/EdgeStates" = some m.cls := findClass_of_methodNamed Bd.named
  have hnm := (name_of_methodNamed Bd.named Bd.method).1
  have X0 : Stand p l e ({ frames := 1, cells := 17, slots := 181, locals := 15 } : Room) s m #[(.ref r0), (.int 6), .null] below meth c s₁ [] 0 0 := Stand.of_body Bd
  have e0 : s₁.heap = h0 := by rw [← hh, Bd.state]; rfl
  have N0 := Fr.nil n0
  have hS0 := hS
  skip
  have pre0 : ∀ t, Steps p.tables e below (s₁.setTop (mkF m 0 #[.val (.ref r0), .val (.int 6), .val .null, .unset, .unset, .unset, .unset] [])) t → Steps p.tables e below (s₁.setTop (entryFrame m #[(.ref r0), (.int 6), .null] 7)) t := fun t k => castTop (ef_2n2x2 m r0) k
  generalize hE0 : s₁.setTop (entryFrame m #[(.ref r0), (.int 6), .null] 7) = E0 at pre0 ⊢
  obtain ⟨T426, X426, e426, st426⟩ := initO X0 hx hZ hown (hw _ (tk 10 rfl)) (hw _ (tk 11 rfl)) (hw _ (tk 12 rfl)) e0 (g := (mkF m 1 (lt17 r0 6) [(.ref r0)])) rfl (by rw [hml]; rfl) rfl (hb hby d2_1) (by decide) (W := 0) (by show 2 * 0 + _ ≤ _; exact Nat.le_of_eq rfl) (by decide)
  obtain ⟨T427, h427, X427, e427, W427, st427⟩ := putF X426 hx hZ hown (host := "") (Or.inl (hw _ (tk 13 rfl))) Via.refl e426 F_cities_r0 E_r0 (Or.inr ⟨(hw _ (tk 14 rfl)), rfl, hnm⟩) (hw _ (tk 2 rfl)) (ty := .int) (by decide) rfl rfl (g := (mkF m 6 (lt17 r0 6) [(.int 6), (.ref r0)])) rfl rfl (hb hby d2_6)
  have Fw427 := F_cities_r0.same W427
  have O427 := O0.wr W427 g_r0
  have N427 := Fr.snoc X427 N0 g_r0
  have K427 := (Keep.refl h0 [r0]).wr W427 (Or.inl (List.mem_of_getElem? (i := 0) rfl))
  have c428 := (E_r0.wr W427)
  obtain ⟨T429, h429, k429, X429, e429, E429, A429, EA429, OV429, st429⟩ := newRA X427 hx hZ hown (C := "[I") (ty := .int) rfl (hw _ (tk 15 rfl)) (hw _ (tk 16 rfl)) e427 (g := (mkF m 15 (lt17 r0 6) [(.int 0), (.ref r0)])) rfl (hb hby d2_15) rfl (by decide) (cap := 0) (by decide) (by decide) (by decide) (by decide) (ad := "[[I") rfl
  obtain ⟨b429, g429⟩ : ∃ z, z = h427.size := ⟨_, rfl⟩
  rw [← g429] at A429 EA429 st429
  have g_b429 : n0 ≤ b429 := Nat.le_trans (own_old O427) (Nat.le_of_eq g429.symm)
  have sz_b429 : h0.size ≤ b429 := Nat.le_trans K427.1 (Nat.le_of_eq g429.symm)
  have ne_r0_b429 := own_ng c428.lt g429
  have O429 := O427.ext E429
  have K429 := K427.ext E429
  have V_b429 : Arv Z h429 b429 k429 (.array .int) (0 : Int32) [] .null := Arv.new A429 (by decide)
  have c430 := (c428.ext E429)
  have c431 := ((F_fixedEdges_r0.other W427 (Or.inr (sRR hw 18 14 rfl rfl rfl))).ext E429)
  obtain ⟨T432, h432, X432, e432, W432, st432⟩ := putF X429 hx hZ hown (host := "") (Or.inl (hw _ (tk 17 rfl))) Via.refl e429 c431 c430 (Or.inr ⟨(hw _ (tk 18 rfl)), rfl, hnm⟩) (hw _ (tk 2 rfl)) (ty := (.array (.array .int))) (by decide) rfl rfl (g := (mkF m 25 (lt17 r0 6) [(.ref b429), (.ref r0)])) rfl rfl (hb hby d2_25)
  have Fw432 := c431.same W432
  have O432 := O429.wr W432 g_r0
  have N432 := Fr.snoc X432 N427 g_r0
  have K432 := K429.wr W432 (Or.inl (List.mem_of_getElem? (i := 0) rfl))
  have c433 := (c430.wr W432)
  have c434 := (V_b429.other W432 (Ne.symm ne_r0_b429))
  obtain ⟨T435, h435, k435, kc435, X435, e435, E435, VA435, OV435, EA435, Rw435, st435⟩ := gridM X432 hx hZ hown (C := "[B") (ad := "[[B") (ty := .byte) rfl rfl (hw _ (tk 19 rfl)) (hw _ (tk 20 rfl)) (hw _ (tk 21 rfl)) e432 (g := (mkF m 31 (lt17 r0 6) [(.int 6), (.int 6), (.ref r0)])) rfl (hb hby d2_31) rfl (by decide) (by decide) (N := 6) rfl rfl (cap := 6) (by decide) (by decide) (by decide) rfl rfl (by decide) (by decide)
  obtain ⟨b435r0, gb435r0⟩ : ∃ z, z = h432.size + 1 + 0 := ⟨_, rfl⟩
  obtain ⟨b435r1, gb435r1⟩ : ∃ z, z = h432.size + 1 + 1 := ⟨_, rfl⟩
  obtain ⟨b435r2, gb435r2⟩ : ∃ z, z = h432.size + 1 + 2 := ⟨_, rfl⟩
  obtain ⟨b435r3, gb435r3⟩ : ∃ z, z = h432.size + 1 + 3 := ⟨_, rfl⟩
  obtain ⟨b435r4, gb435r4⟩ : ∃ z, z = h432.size + 1 + 4 := ⟨_, rfl⟩
  obtain ⟨b435r5, gb435r5⟩ : ∃ z, z = h432.size + 1 + 5 := ⟨_, rfl⟩
  have Ab435r0 : Arr Z h435 b435r0 (newA kc435 .byte (6 : Int32)) .byte := by rw [gb435r0]; exact (Rw435 0 _ rfl).1
  have Ab435r1 : Arr Z h435 b435r1 (newA kc435 .byte (6 : Int32)) .byte := by rw [gb435r1]; exact (Rw435 1 _ rfl).1
  have Ab435r2 : Arr Z h435 b435r2 (newA kc435 .byte (6 : Int32)) .byte := by rw [gb435r2]; exact (Rw435 2 _ rfl).1
  have Ab435r3 : Arr Z h435 b435r3 (newA kc435 .byte (6 : Int32)) .byte := by rw [gb435r3]; exact (Rw435 3 _ rfl).1
  have Ab435r4 : Arr Z h435 b435r4 (newA kc435 .byte (6 : Int32)) .byte := by rw [gb435r4]; exact (Rw435 4 _ rfl).1
  have Ab435r5 : Arr Z h435 b435r5 (newA kc435 .byte (6 : Int32)) .byte := by rw [gb435r5]; exact (Rw435 5 _ rfl).1
  obtain ⟨b435, g435⟩ : ∃ z, z = h432.size := ⟨_, rfl⟩
  rw [← g435] at st435
  have g_b435 : n0 ≤ b435 := Nat.le_trans (own_old O432) (Nat.le_of_eq g435.symm)
  have sz_b435 : h0.size ≤ b435 := Nat.le_trans K432.1 (Nat.le_of_eq g435.symm)
  have ne_r0_b435 := own_ng c433.lt g435
  have ne_b429_b435 := own_ng c434.lt g435
  have VB435 : Arv Z h435 b435 k435 (.array .byte) (6 : Int32) [(.ref b435r0), (.ref b435r1), (.ref b435r2), (.ref b435r3), (.ref b435r4), (.ref b435r5)] .null := by rw [g435, gb435r0, gb435r1, gb435r2, gb435r3, gb435r4, gb435r5]; exact VA435
  have le_b435r0 : h432.size ≤ b435r0 := by rw [gb435r0]; exact Nat.le_trans (Nat.le_add_right _ 1) (Nat.le_add_right _ _)
  have g_b435r0 : n0 ≤ b435r0 := Nat.le_trans (own_old O432) le_b435r0
  have sz_b435r0 : h0.size ≤ b435r0 := Nat.le_trans K432.1 le_b435r0
  have ne_r0_b435r0 : r0 ≠ b435r0 := Nat.ne_of_lt (Nat.lt_of_lt_of_le c433.lt le_b435r0)
  have ne_b429_b435r0 : b429 ≠ b435r0 := Nat.ne_of_lt (Nat.lt_of_lt_of_le c434.lt le_b435r0)
  have ne_b435_b435r0 : b435 ≠ b435r0 := Nat.ne_of_lt (by rw [g435, gb435r0]; exact Nat.lt_of_lt_of_le (Nat.lt_succ_self _) (Nat.le_add_right _ _))
  have le_b435r1 : h432.size ≤ b435r1 := by rw [gb435r1]; exact Nat.le_trans (Nat.le_add_right _ 1) (Nat.le_add_right _ _)
  have g_b435r1 : n0 ≤ b435r1 := Nat.le_trans (own_old O432) le_b435r1
  have sz_b435r1 : h0.size ≤ b435r1 := Nat.le_trans K432.1 le_b435r1
  have ne_r0_b435r1 : r0 ≠ b435r1 := Nat.ne_of_lt (Nat.lt_of_lt_of_le c433.lt le_b435r1)
  have ne_b429_b435r1 : b429 ≠ b435r1 := Nat.ne_of_lt (Nat.lt_of_lt_of_le c434.lt le_b435r1)
  have ne_b435_b435r1 : b435 ≠ b435r1 := Nat.ne_of_lt (by rw [g435, gb435r1]; exact Nat.lt_of_lt_of_le (Nat.lt_succ_self _) (Nat.le_add_right _ _))
  have ne_b435r0_b435r1 : b435r0 ≠ b435r1 := Nat.ne_of_lt (by rw [gb435r0, gb435r1]; exact Nat.add_lt_add_left (by decide) _)
  have le_b435r2 : h432.size ≤ b435r2 := by rw [gb435r2]; exact Nat.le_trans (Nat.le_add_right _ 1) (Nat.le_add_right _ _)
  have g_b435r2 : n0 ≤ b435r2 := Nat.le_trans (own_old O432) le_b435r2
  have sz_b435r2 : h0.size ≤ b435r2 := Nat.le_trans K432.1 le_b435r2
  have ne_r0_b435r2 : r0 ≠ b435r2 := Nat.ne_of_lt (Nat.lt_of_lt_of_le c433.lt le_b435r2)
  have ne_b429_b435r2 : b429 ≠ b435r2 := Nat.ne_of_lt (Nat.lt_of_lt_of_le c434.lt le_b435r2)
  have ne_b435_b435r2 : b435 ≠ b435r2 := Nat.ne_of_lt (by rw [g435, gb435r2]; exact Nat.lt_of_lt_of_le (Nat.lt_succ_self _) (Nat.le_add_right _ _))
  have ne_b435r0_b435r2 : b435r0 ≠ b435r2 := Nat.ne_of_lt (by rw [gb435r0, gb435r2]; exact Nat.add_lt_add_left (by decide) _)
  have ne_b435r1_b435r2 : b435r1 ≠ b435r2 := Nat.ne_of_lt (by rw [gb435r1, gb435r2]; exact Nat.add_lt_add_left (by decide) _)
  have le_b435r3 : h432.size ≤ b435r3 := by rw [gb435r3]; exact Nat.le_trans (Nat.le_add_right _ 1) (Nat.le_add_right _ _)
  have g_b435r3 : n0 ≤ b435r3 := Nat.le_trans (own_old O432) le_b435r3
  have sz_b435r3 : h0.size ≤ b435r3 := Nat.le_trans K432.1 le_b435r3
  have ne_r0_b435r3 : r0 ≠ b435r3 := Nat.ne_of_lt (Nat.lt_of_lt_of_le c433.lt le_b435r3)
  have ne_b429_b435r3 : b429 ≠ b435r3 := Nat.ne_of_lt (Nat.lt_of_lt_of_le c434.lt le_b435r3)
  have ne_b435_b435r3 : b435 ≠ b435r3 := Nat.ne_of_lt (by rw [g435, gb435r3]; exact Nat.lt_of_lt_of_le (Nat.lt_succ_self _) (Nat.le_add_right _ _))
  have ne_b435r0_b435r3 : b435r0 ≠ b435r3 := Nat.ne_of_lt (by rw [gb435r0, gb435r3]; exact Nat.add_lt_add_left (by decide) _)
  have ne_b435r1_b435r3 : b435r1 ≠ b435r3 := Nat.ne_of_lt (by rw [gb435r1, gb435r3]; exact Nat.add_lt_add_left (by decide) _)
  have ne_b435r2_b435r3 : b435r2 ≠ b435r3 := Nat.ne_of_lt (by rw [gb435r2, gb435r3]; exact Nat.add_lt_add_left (by decide) _)
  have le_b435r4 : h432.size ≤ b435r4 := by rw [gb435r4]; exact Nat.le_trans (Nat.le_add_right _ 1) (Nat.le_add_right _ _)
  have g_b435r4 : n0 ≤ b435r4 := Nat.le_trans (own_old O432) le_b435r4
  have sz_b435r4 : h0.size ≤ b435r4 := Nat.le_trans K432.1 le_b435r4
  have ne_r0_b435r4 : r0 ≠ b435r4 := Nat.ne_of_lt (Nat.lt_of_lt_of_le c433.lt le_b435r4)
  have ne_b429_b435r4 : b429 ≠ b435r4 := Nat.ne_of_lt (Nat.lt_of_lt_of_le c434.lt le_b435r4)
  have ne_b435_b435r4 : b435 ≠ b435r4 := Nat.ne_of_lt (by rw [g435, gb435r4]; exact Nat.lt_of_lt_of_le (Nat.lt_succ_self _) (Nat.le_add_right _ _))
  have ne_b435r0_b435r4 : b435r0 ≠ b435r4 := Nat.ne_of_lt (by rw [gb435r0, gb435r4]; exact Nat.add_lt_add_left (by decide) _)
  have ne_b435r1_b435r4 : b435r1 ≠ b435r4 := Nat.ne_of_lt (by rw [gb435r1, gb435r4]; exact Nat.add_lt_add_left (by decide) _)
  have ne_b435r2_b435r4 : b435r2 ≠ b435r4 := Nat.ne_of_lt (by rw [gb435r2, gb435r4]; exact Nat.add_lt_add_left (by decide) _)
  have ne_b435r3_b435r4 : b435r3 ≠ b435r4 := Nat.ne_of_lt (by rw [gb435r3, gb435r4]; exact Nat.add_lt_add_left (by decide) _)
  have le_b435r5 : h432.size ≤ b435r5 := by rw [gb435r5]; exact Nat.le_trans (Nat.le_add_right _ 1) (Nat.le_add_right _ _)
  have g_b435r5 : n0 ≤ b435r5 := Nat.le_trans (own_old O432) le_b435r5
  have sz_b435r5 : h0.size ≤ b435r5 := Nat.le_trans K432.1 le_b435r5
  have ne_r0_b435r5 : r0 ≠ b435r5 := Nat.ne_of_lt (Nat.lt_of_lt_of_le c433.lt le_b435r5)
  have ne_b429_b435r5 : b429 ≠ b435r5 := Nat.ne_of_lt (Nat.lt_of_lt_of_le c434.lt le_b435r5)
  have ne_b435_b435r5 : b435 ≠ b435r5 := Nat.ne_of_lt (by rw [g435, gb435r5]; exact Nat.lt_of_lt_of_le (Nat.lt_succ_self _) (Nat.le_add_right _ _))
  have ne_b435r0_b435r5 : b435r0 ≠ b435r5 := Nat.ne_of_lt (by rw [gb435r0, gb435r5]; exact Nat.add_lt_add_left (by decide) _)
  have ne_b435r1_b435r5 : b435r1 ≠ b435r5 := Nat.ne_of_lt (by rw [gb435r1, gb435r5]; exact Nat.add_lt_add_left (by decide) _)
  have ne_b435r2_b435r5 : b435r2 ≠ b435r5 := Nat.ne_of_lt (by rw [gb435r2, gb435r5]; exact Nat.add_lt_add_left (by decide) _)
  have ne_b435r3_b435r5 : b435r3 ≠ b435r5 := Nat.ne_of_lt (by rw [gb435r3, gb435r5]; exact Nat.add_lt_add_left (by decide) _)
  have ne_b435r4_b435r5 : b435r4 ≠ b435r5 := Nat.ne_of_lt (by rw [gb435r4, gb435r5]; exact Nat.add_lt_add_left (by decide) _)
  have O435 := O432.ext E435
  have K435 := K432.ext E435
  have V_b435r0 : Arv Z h435 b435r0 kc435 .byte (6 : Int32) [(.int 0), (.int 0), (.int 0), (.int 0), (.int 0), (.int 0)] (.int 0) := (Arv.new Ab435r0 (by decide)).pad (pad_rep [] (.int 0) 6)
  have V_b435r1 : Arv Z h435 b435r1 kc435 .byte (6 : Int32) [(.int 0), (.int 0), (.int 0), (.int 0), (.int 0), (.int 0)] (.int 0) := (Arv.new Ab435r1 (by decide)).pad (pad_rep [] (.int 0) 6)
  have V_b435r2 : Arv Z h435 b435r2 kc435 .byte (6 : Int32) [(.int 0), (.int 0), (.int 0), (.int 0), (.int 0), (.int 0)] (.int 0) := (Arv.new Ab435r2 (by decide)).pad (pad_rep [] (.int 0) 6)
  have V_b435r3 : Arv Z h435 b435r3 kc435 .byte (6 : Int32) [(.int 0), (.int 0), (.int 0), (.int 0), (.int 0), (.int 0)] (.int 0) := (Arv.new Ab435r3 (by decide)).pad (pad_rep [] (.int 0) 6)
  have V_b435r4 : Arv Z h435 b435r4 kc435 .byte (6 : Int32) [(.int 0), (.int 0), (.int 0), (.int 0), (.int 0), (.int 0)] (.int 0) := (Arv.new Ab435r4 (by decide)).pad (pad_rep [] (.int 0) 6)
  have V_b435r5 : Arv Z h435 b435r5 kc435 .byte (6 : Int32) [(.int 0), (.int 0), (.int 0), (.int 0), (.int 0), (.int 0)] (.int 0) := (Arv.new Ab435r5 (by decide)).pad (pad_rep [] (.int 0) 6)
  have c436 := (c433.ext E435)
  have c437 := ((((F_states_r0.other W427 (Or.inr (sRR hw 23 14 rfl rfl rfl))).ext E429).other W432 (Or.inr (sRR hw 23 18 rfl rfl rfl))).ext E435)
  obtain ⟨T438, h438, X438, e438, W438, st438⟩ := putF X435 hx hZ hown (host := "") (Or.inl (hw _ (tk 22 rfl))) Via.refl e435 c437 c436 (Or.inr ⟨(hw _ (tk 23 rfl)), rfl, hnm⟩) (hw _ (tk 2 rfl)) (ty := (.array (.array .byte))) (by decide) rfl rfl (g := (mkF m 35 (lt17 r0 6) [(.ref b435), (.ref r0)])) rfl rfl (hb hby d2_35)
  have Fw438 := c437.same W438
  have O438 := O435.wr W438 g_r0
  have N438 := Fr.snoc X438 N432 g_r0
  have K438 := K435.wr W438 (Or.inl (List.mem_of_getElem? (i := 0) rfl))
  have c439 := (c436.wr W438)
  have c440 := ((c434.ext E435).other W438 (Ne.symm ne_r0_b429))
  have c441 := (VB435.other W438 (Ne.symm ne_r0_b435))
  have c442 := (V_b435r0.other W438 (Ne.symm ne_r0_b435r0))
  have c443 := (V_b435r1.other W438 (Ne.symm ne_r0_b435r1))
  have c444 := (V_b435r2.other W438 (Ne.symm ne_r0_b435r2))
  have c445 := (V_b435r3.other W438 (Ne.symm ne_r0_b435r3))
  have c446 := (V_b435r4.other W438 (Ne.symm ne_r0_b435r4))
  have c447 := (V_b435r5.other W438 (Ne.symm ne_r0_b435r5))
  obtain ⟨T448, h448, k448, X448, e448, E448, A448, st448⟩ := newP X438 hx hZ (hw _ (tk 24 rfl)) e438 (g := (mkF m 40 (lt17 r0 6) [(.int 6), (.ref r0)])) rfl (hb hby d2_40) rfl (by decide) (cap := 6) (by decide) (by decide) (by decide) (by decide)
  obtain ⟨b448, g448⟩ : ∃ z, z = h438.size := ⟨_, rfl⟩
  rw [← g448] at A448 st448
  have g_b448 : n0 ≤ b448 := Nat.le_trans (own_old O438) (Nat.le_of_eq g448.symm)
  have sz_b448 : h0.size ≤ b448 := Nat.le_trans K438.1 (Nat.le_of_eq g448.symm)
  have ne_r0_b448 := own_ng c439.lt g448
  have ne_b429_b448 := own_ng c440.lt g448
  have ne_b435_b448 := own_ng c441.lt g448
  have ne_b435r0_b448 := own_ng c442.lt g448
  have ne_b435r1_b448 := own_ng c443.lt g448
  have ne_b435r2_b448 := own_ng c444.lt g448
  have ne_b435r3_b448 := own_ng c445.lt g448
  have ne_b435r4_b448 := own_ng c446.lt g448
  have ne_b435r5_b448 := own_ng c447.lt g448
  have O448 := O438.ext E448
  have K448 := K438.ext E448
  have V_b448 : Arv Z h448 b448 k448 .int (6 : Int32) [(.int 0), (.int 0), (.int 0), (.int 0), (.int 0), (.int 0)] (.int 0) := (Arv.new A448 (by decide)).pad (pad_rep [] (.int 0) 6)
  have c449 := (c439.ext E448)
  have c450 := ((((F_forcedDegree_r0.other W427 (Or.inr (sRR hw 26 14 rfl rfl rfl))).ext E429).other W432 (Or.inr (sRR hw 26 18 rfl rfl rfl))).ext E435)
  have c451 := ((c450.other W438 (Or.inr (sRR hw 26 23 rfl rfl rfl))).ext E448)
  obtain ⟨T452, h452, X452, e452, W452, st452⟩ := putF X448 hx hZ hown (host := "") (Or.inl (hw _ (tk 25 rfl))) Via.refl e448 c451 c449 (Or.inr ⟨(hw _ (tk 26 rfl)), rfl, hnm⟩) (hw _ (tk 2 rfl)) (ty := (.array .int)) (by decide) rfl rfl (g := (mkF m 42 (lt17 r0 6) [(.ref b448), (.ref r0)])) rfl rfl (hb hby d2_42)
  have Fw452 := c451.same W452
  have O452 := O448.wr W452 g_r0
  have N452 := Fr.snoc X452 N438 g_r0
  have K452 := K448.wr W452 (Or.inl (List.mem_of_getElem? (i := 0) rfl))
  have c453 := (c449.wr W452)
  have c454 := ((c440.ext E448).other W452 (Ne.symm ne_r0_b429))
  have c455 := ((c441.ext E448).other W452 (Ne.symm ne_r0_b435))
  have c456 := ((c442.ext E448).other W452 (Ne.symm ne_r0_b435r0))
  have c457 := ((c443.ext E448).other W452 (Ne.symm ne_r0_b435r1))
  have c458 := ((c444.ext E448).other W452 (Ne.symm ne_r0_b435r2))
  have c459 := ((c445.ext E448).other W452 (Ne.symm ne_r0_b435r3))
  have c460 := ((c446.ext E448).other W452 (Ne.symm ne_r0_b435r4))
  have c461 := ((c447.ext E448).other W452 (Ne.symm ne_r0_b435r5))
  have c462 := (V_b448.other W452 (Ne.symm ne_r0_b448))
  obtain ⟨T463, h463, k463, X463, e463, E463, A463, st463⟩ := newP X452 hx hZ (hw _ (tk 24 rfl)) e452 (g := (mkF m 47 (lt17 r0 6) [(.int 6), (.ref r0)])) rfl (hb hby d2_47) rfl (by decide) (cap := 6) (by decide) (by decide) (by decide) (by decide)
  obtain ⟨b463, g463⟩ : ∃ z, z = h452.size := ⟨_, rfl⟩
  rw [← g463] at A463 st463
  have g_b463 : n0 ≤ b463 := Nat.le_trans (own_old O452) (Nat.le_of_eq g463.symm)
  have sz_b463 : h0.size ≤ b463 := Nat.le_trans K452.1 (Nat.le_of_eq g463.symm)
  have ne_r0_b463 := own_ng c453.lt g463
  have ne_b429_b463 := own_ng c454.lt g463
  have ne_b435_b463 := own_ng c455.lt g463
  have ne_b435r0_b463 := own_ng c456.lt g463
  have ne_b435r1_b463 := own_ng c457.lt g463
  have ne_b435r2_b463 := own_ng c458.lt g463
  have ne_b435r3_b463 := own_ng c459.lt g463
  have ne_b435r4_b463 := own_ng c460.lt g463
  have ne_b435r5_b463 := own_ng c461.lt g463
  have ne_b448_b463 := own_ng c462.lt g463
  have O463 := O452.ext E463
  have K463 := K452.ext E463
  have V_b463 : Arv Z h463 b463 k463 .int (6 : Int32) [(.int 0), (.int 0), (.int 0), (.int 0), (.int 0), (.int 0)] (.int 0) := (Arv.new A463 (by decide)).pad (pad_rep [] (.int 0) 6)
  have c464 := (c453.ext E463)
  have c465 := ((((F_openDegree_r0.other W427 (Or.inr (sRR hw 28 14 rfl rfl rfl))).ext E429).other W432 (Or.inr (sRR hw 28 18 rfl rfl rfl))).ext E435)
  have c466 := ((((c465.other W438 (Or.inr (sRR hw 28 23 rfl rfl rfl))).ext E448).other W452 (Or.inr (sRR hw 28 26 rfl rfl rfl))).ext E463)
  obtain ⟨T467, h467, X467, e467, W467, st467⟩ := putF X463 hx hZ hown (host := "") (Or.inl (hw _ (tk 27 rfl))) Via.refl e463 c466 c464 (Or.inr ⟨(hw _ (tk 28 rfl)), rfl, hnm⟩) (hw _ (tk 2 rfl)) (ty := (.array .int)) (by decide) rfl rfl (g := (mkF m 49 (lt17 r0 6) [(.ref b463), (.ref r0)])) rfl rfl (hb hby d2_49)
  have Fw467 := c466.same W467
  have O467 := O463.wr W467 g_r0
  have N467 := Fr.snoc X467 N452 g_r0
  have K467 := K463.wr W467 (Or.inl (List.mem_of_getElem? (i := 0) rfl))
  obtain ⟨T468, X468, e468, st468⟩ := getF X467 hx hZ hown (host := "") (Or.inl (hw _ (tk 27 rfl))) Via.refl e467 Fw467 (g := (mkF m 53 (lt17 r0 6) [(.ref r0)])) rfl rfl (hb hby d2_53)
  have c482 := (V_b463.other W467 (Ne.symm ne_r0_b463))
  obtain ⟨_, _, ⟨T483, L483, k483, n483⟩, -, X483, ⟨Lc483, hQ483, l483, y483, z483⟩, st483⟩ := Jvm.LawKit.callS X468 hx (y := Y20) hown (mvT hZ (hw _ (tk 29 rfl))) (mvT hZ (hw _ (tk 30 rfl))) (mvT hZ (hw _ (tk 31 rfl))) (mvT hZ (hw _ (tk 32 rfl))) (by decide) (backOf (W := 0) (rm4x2 l Z a0 hw [] hS0 b463 k463 h467 n0 O467 g_b463 c482) hZ (hw _ (tk 32 rfl)) (hw _ (tk 31 rfl)) (by decide) (by decide)) (g := (mkF m 59 (lt17 r0 6) [(.int ((6 : Int32) - 1)), (.ref b463)])) rfl (by rw [hml]; rfl) (argsL := [(.ref b463), (.int ((6 : Int32) - 1))]) (rest := []) (lenOf pd_0 rfl) rfl (by show 2 * 0 + _ ≤ _; exact Nat.le_of_eq rfl) (hb hby d2_59) (fun _ _ => ⟨rfl, e468, (by decide : 10 + 0 ≤ _), (by decide : 54 + 0 ≤ _)⟩)
  dsimp only [Pt.U, Pt.locs, Pt.cells, Pt.slots] at X483 l483 y483 z483 st483 hQ483
  rw [l483, y483, z483] at X483
  obtain ⟨rv483, N483q, O483, K483c, Fe483_0⟩ := hQ483
  subst rv483
  have N483 := Fr.app N467 N483q
  have K483 : Keep h0 T483.heap [r0] := K467.trans K483c (allS (Or.inr sz_b463) all0)
  obtain ⟨_, _, ⟨T484, L484, k484, n484⟩, -, X484, ⟨Lc484, hQ484, l484, y484, z484⟩, st484⟩ := Jvm.LawKit.callS X483 hx (y := Y23) hown (mvT hZ (hw _ (tk 34 rfl))) (mvT hZ (hw _ (tk 35 rfl))) (mvT hZ (hw _ (tk 36 rfl))) (mvT hZ (hw _ (tk 37 rfl))) (by decide) (backOf (W := 1) (rm5x3 l Z a0 hw [] hS0 T483.heap n0 O483) hZ (hw _ (tk 37 rfl)) (hw _ (tk 36 rfl)) (by decide) (by decide)) (g := (mkF m 177 (lt21 r0 6 kA6) [(.long kE6), (.ref r0)])) rfl (by rw [hml]; rfl) (argsL := [(.long kE6)]) (rest := [(.ref r0)]) (lenOf pd_1 rfl) rfl (by show 2 * 0 + _ ≤ _; exact Nat.le_of_eq rfl) (hb hby d2_177) (fun _ _ => ⟨rfl, rfl, (by decide : 10 + 0 ≤ _), (by decide : 54 + 0 ≤ _)⟩)
  dsimp only [Pt.U, Pt.locs, Pt.cells, Pt.slots] at X484 l484 y484 z484 st484 hQ484
  rw [l484, y484, z484] at X484
  obtain ⟨rv484, N484q, e484⟩ := hQ484
  subst rv484
  have N484 := Fr.app N483 N484q
  have c485 := ((c464.wr W467).keep K483c)
  have c486 := (((c454.ext E463).other W467 (Ne.symm ne_r0_b429)).keep K483c (ninS ne_b429_b463 nin0))
  have c487 := (((c455.ext E463).other W467 (Ne.symm ne_r0_b435)).keep K483c (ninS ne_b435_b463 nin0))
  have c488 := (((c456.ext E463).other W467 (Ne.symm ne_r0_b435r0)).keep K483c (ninS ne_b435r0_b463 nin0))
  have c489 := (((c457.ext E463).other W467 (Ne.symm ne_r0_b435r1)).keep K483c (ninS ne_b435r1_b463 nin0))
  have c490 := (((c458.ext E463).other W467 (Ne.symm ne_r0_b435r2)).keep K483c (ninS ne_b435r2_b463 nin0))
  have c491 := (((c459.ext E463).other W467 (Ne.symm ne_r0_b435r3)).keep K483c (ninS ne_b435r3_b463 nin0))
  have c492 := (((c460.ext E463).other W467 (Ne.symm ne_r0_b435r4)).keep K483c (ninS ne_b435r4_b463 nin0))
  have c493 := (((c461.ext E463).other W467 (Ne.symm ne_r0_b435r5)).keep K483c (ninS ne_b435r5_b463 nin0))
  have c494 := (((c462.ext E463).other W467 (Ne.symm ne_r0_b448)).keep K483c (ninS ne_b448_b463 nin0))
  obtain ⟨T495, h495, k495, X495, e495, E495, A495, st495⟩ := newP X484 hx hZ (hw _ (tk 24 rfl)) e484 (g := (mkF m 180 (lt21 r0 6 kA6) [(.int (kE6.toInt32)), (.ref r0)])) rfl (hb hby d2_180) rfl (by decide) (cap := 66) (by decide) (by decide) (by decide) (by decide)
  obtain ⟨b495, g495⟩ : ∃ z, z = T483.heap.size := ⟨_, rfl⟩
  rw [← g495] at A495 st495
  have g_b495 : n0 ≤ b495 := Nat.le_trans (own_old O483) (Nat.le_of_eq g495.symm)
  have sz_b495 : h0.size ≤ b495 := Nat.le_trans K483.1 (Nat.le_of_eq g495.symm)
  have ne_r0_b495 := own_ng c485.lt g495
  have ne_b429_b495 := own_ng c486.lt g495
  have ne_b435_b495 := own_ng c487.lt g495
  have ne_b435r0_b495 := own_ng c488.lt g495
  have ne_b435r1_b495 := own_ng c489.lt g495
  have ne_b435r2_b495 := own_ng c490.lt g495
  have ne_b435r3_b495 := own_ng c491.lt g495
  have ne_b435r4_b495 := own_ng c492.lt g495
  have ne_b435r5_b495 := own_ng c493.lt g495
  have ne_b448_b495 := own_ng c494.lt g495
  have ne_b463_b495 := own_ng Fe483_0.lt g495
  have O495 := O483.ext E495
  have K495 := K483.ext E495
  have V_b495 : Arh Z h495 b495 k495 .int (kE6.toInt32) [] [] (.int 0) := (Arv.new A495 (by decide)).arh
  have c496 := (c485.ext E495)
  have c497 := ((((F_trail_r0.other W427 (Or.inr (sRR hw 39 14 rfl rfl rfl))).ext E429).other W432 (Or.inr (sRR hw 39 18 rfl rfl rfl))).ext E435)
  have c498 := (((((c497.other W438 (Or.inr (sRR hw 39 23 rfl rfl rfl))).ext E448).other W452 (Or.inr (sRR hw 39 26 rfl rfl rfl))).ext E463).other W467 (Or.inr (sRR hw 39 28 rfl rfl rfl)))
  have c499 := ((c498.keep K483c (ninS ne_r0_b463 nin0)).ext E495)
  obtain ⟨T500, h500, X500, e500, W500, st500⟩ := putF X495 hx hZ hown (host := "") (Or.inl (hw _ (tk 38 rfl))) Via.refl e495 c499 c496 (Or.inr ⟨(hw _ (tk 39 rfl)), rfl, hnm⟩) (hw _ (tk 2 rfl)) (ty := (.array .int)) (by decide) rfl rfl (g := (mkF m 182 (lt21 r0 6 kA6) [(.ref b495), (.ref r0)])) rfl rfl (hb hby d2_182)
  have Fw500 := c499.same W500
  have O500 := O495.wr W500 g_r0
  have N500 := Fr.snoc X500 N484 g_r0
  have K500 := K495.wr W500 (Or.inl (List.mem_of_getElem? (i := 0) rfl))
  have c501 := (c496.wr W500)
  have c502 := ((c486.ext E495).other W500 (Ne.symm ne_r0_b429))
  have c503 := ((c487.ext E495).other W500 (Ne.symm ne_r0_b435))
  have c504 := ((c488.ext E495).other W500 (Ne.symm ne_r0_b435r0))
  have c505 := ((c489.ext E495).other W500 (Ne.symm ne_r0_b435r1))
  have c506 := ((c490.ext E495).other W500 (Ne.symm ne_r0_b435r2))
  have c507 := ((c491.ext E495).other W500 (Ne.symm ne_r0_b435r3))
  have c508 := ((c492.ext E495).other W500 (Ne.symm ne_r0_b435r4))
  have c509 := ((c493.ext E495).other W500 (Ne.symm ne_r0_b435r5))
  have c510 := ((c494.ext E495).other W500 (Ne.symm ne_r0_b448))
  have c511 := ((Fe483_0.ext E495).other W500 (Ne.symm ne_r0_b463))
  have c512 := (V_b495.other W500 (Ne.symm ne_r0_b495))
  obtain ⟨T513, h513, k513, X513, e513, E513, A513, st513⟩ := newP X500 hx hZ (hw _ (tk 24 rfl)) e500 (g := (mkF m 187 (lt21 r0 6 kA6) [(.int 6), (.ref r0)])) rfl (hb hby d2_187) rfl (by decide) (cap := 6) (by decide) (by decide) (by decide) (by decide)
  obtain ⟨b513, g513⟩ : ∃ z, z = h500.size := ⟨_, rfl⟩
  rw [← g513] at A513 st513
  have g_b513 : n0 ≤ b513 := Nat.le_trans (own_old O500) (Nat.le_of_eq g513.symm)
  have sz_b513 : h0.size ≤ b513 := Nat.le_trans K500.1 (Nat.le_of_eq g513.symm)
  have ne_r0_b513 := own_ng c501.lt g513
  have ne_b429_b513 := own_ng c502.lt g513
  have ne_b435_b513 := own_ng c503.lt g513
  have ne_b435r0_b513 := own_ng c504.lt g513
  have ne_b435r1_b513 := own_ng c505.lt g513
  have ne_b435r2_b513 := own_ng c506.lt g513
  have ne_b435r3_b513 := own_ng c507.lt g513
  have ne_b435r4_b513 := own_ng c508.lt g513
  have ne_b435r5_b513 := own_ng c509.lt g513
  have ne_b448_b513 := own_ng c510.lt g513
  have ne_b463_b513 := own_ng c511.lt g513
  have ne_b495_b513 := own_ng c512.lt g513
  have O513 := O500.ext E513
  have K513 := K500.ext E513
  have V_b513 : Arv Z h513 b513 k513 .int (6 : Int32) [(.int 0), (.int 0), (.int 0), (.int 0), (.int 0), (.int 0)] (.int 0) := (Arv.new A513 (by decide)).pad (pad_rep [] (.int 0) 6)
  have c514 := (c501.ext E513)
  have c515 := ((((F_otherEnd_r0.other W427 (Or.inr (sRR hw 41 14 rfl rfl rfl))).ext E429).other W432 (Or.inr (sRR hw 41 18 rfl rfl rfl))).ext E435)
  have c516 := (((((c515.other W438 (Or.inr (sRR hw 41 23 rfl rfl rfl))).ext E448).other W452 (Or.inr (sRR hw 41 26 rfl rfl rfl))).ext E463).other W467 (Or.inr (sRR hw 41 28 rfl rfl rfl)))
  have c517 := ((((c516.keep K483c (ninS ne_r0_b463 nin0)).ext E495).other W500 (Or.inr (sRR hw 41 39 rfl rfl rfl))).ext E513)
  obtain ⟨T518, h518, X518, e518, W518, st518⟩ := putF X513 hx hZ hown (host := "") (Or.inl (hw _ (tk 40 rfl))) Via.refl e513 c517 c514 (Or.inr ⟨(hw _ (tk 41 rfl)), rfl, hnm⟩) (hw _ (tk 2 rfl)) (ty := (.array .int)) (by decide) rfl rfl (g := (mkF m 189 (lt21 r0 6 kA6) [(.ref b513), (.ref r0)])) rfl rfl (hb hby d2_189)
  have Fw518 := c517.same W518
  have O518 := O513.wr W518 g_r0
  have N518 := Fr.snoc X518 N500 g_r0
  have K518 := K513.wr W518 (Or.inl (List.mem_of_getElem? (i := 0) rfl))
  have c519 := (c514.wr W518)
  have c520 := ((c502.ext E513).other W518 (Ne.symm ne_r0_b429))
  have c521 := ((c503.ext E513).other W518 (Ne.symm ne_r0_b435))
  have c522 := ((c504.ext E513).other W518 (Ne.symm ne_r0_b435r0))
  have c523 := ((c505.ext E513).other W518 (Ne.symm ne_r0_b435r1))
  have c524 := ((c506.ext E513).other W518 (Ne.symm ne_r0_b435r2))
  have c525 := ((c507.ext E513).other W518 (Ne.symm ne_r0_b435r3))
  have c526 := ((c508.ext E513).other W518 (Ne.symm ne_r0_b435r4))
  have c527 := ((c509.ext E513).other W518 (Ne.symm ne_r0_b435r5))
  have c528 := ((c510.ext E513).other W518 (Ne.symm ne_r0_b448))
  have c529 := ((c511.ext E513).other W518 (Ne.symm ne_r0_b463))
  have c530 := ((c512.ext E513).other W518 (Ne.symm ne_r0_b495))
  have c531 := (V_b513.other W518 (Ne.symm ne_r0_b513))
  obtain ⟨T532, h532, k532, X532, e532, E532, A532, st532⟩ := newP X518 hx hZ (hw _ (tk 24 rfl)) e518 (g := (mkF m 194 (lt21 r0 6 kA6) [(.int 6), (.ref r0)])) rfl (hb hby d2_194) rfl (by decide) (cap := 6) (by decide) (by decide) (by decide) (by decide)
  obtain ⟨b532, g532⟩ : ∃ z, z = h518.size := ⟨_, rfl⟩
  rw [← g532] at A532 st532
  have g_b532 : n0 ≤ b532 := Nat.le_trans (own_old O518) (Nat.le_of_eq g532.symm)
  have sz_b532 : h0.size ≤ b532 := Nat.le_trans K518.1 (Nat.le_of_eq g532.symm)
  have ne_r0_b532 := own_ng c519.lt g532
  have ne_b429_b532 := own_ng c520.lt g532
  have ne_b435_b532 := own_ng c521.lt g532
  have ne_b435r0_b532 := own_ng c522.lt g532
  have ne_b435r1_b532 := own_ng c523.lt g532
  have ne_b435r2_b532 := own_ng c524.lt g532
  have ne_b435r3_b532 := own_ng c525.lt g532
  have ne_b435r4_b532 := own_ng c526.lt g532
  have ne_b435r5_b532 := own_ng c527.lt g532
  have ne_b448_b532 := own_ng c528.lt g532
  have ne_b463_b532 := own_ng c529.lt g532
  have ne_b495_b532 := own_ng c530.lt g532
  have ne_b513_b532 := own_ng c531.lt g532
  have O532 := O518.ext E532
  have K532 := K518.ext E532
  have V_b532 : Arv Z h532 b532 k532 .int (6 : Int32) [(.int 0), (.int 0), (.int 0), (.int 0), (.int 0), (.int 0)] (.int 0) := (Arv.new A532 (by decide)).pad (pad_rep [] (.int 0) 6)
  have c533 := (c519.ext E532)
  have c534 := ((((F_pathSize_r0.other W427 (Or.inr (sRR hw 43 14 rfl rfl rfl))).ext E429).other W432 (Or.inr (sRR hw 43 18 rfl rfl rfl))).ext E435)
  have c535 := (((((c534.other W438 (Or.inr (sRR hw 43 23 rfl rfl rfl))).ext E448).other W452 (Or.inr (sRR hw 43 26 rfl rfl rfl))).ext E463).other W467 (Or.inr (sRR hw 43 28 rfl rfl rfl)))
  have c536 := (((((c535.keep K483c (ninS ne_r0_b463 nin0)).ext E495).other W500 (Or.inr (sRR hw 43 39 rfl rfl rfl))).ext E513).other W518 (Or.inr (sRR hw 43 41 rfl rfl rfl)))
  have c537 := (c536.ext E532)
  obtain ⟨T538, h538, X538, e538, W538, st538⟩ := putF X532 hx hZ hown (host := "") (Or.inl (hw _ (tk 42 rfl))) Via.refl e532 c537 c533 (Or.inr ⟨(hw _ (tk 43 rfl)), rfl, hnm⟩) (hw _ (tk 2 rfl)) (ty := (.array .int)) (by decide) rfl rfl (g := (mkF m 196 (lt21 r0 6 kA6) [(.ref b532), (.ref r0)])) rfl rfl (hb hby d2_196)
  have Fw538 := c537.same W538
  have O538 := O532.wr W538 g_r0
  have N538 := Fr.snoc X538 N518 g_r0
  have K538 := K532.wr W538 (Or.inl (List.mem_of_getElem? (i := 0) rfl))
  have c539 := ((Fw518.ext E532).other W538 (Or.inr (sRR hw 41 43 rfl rfl rfl)))
  obtain ⟨T540, X540, e540, st540⟩ := getF X538 hx hZ hown (host := "") (Or.inl (hw _ (tk 40 rfl))) Via.refl e538 c539 (g := (mkF m 209 (lt23 r0 6 kA6 0) [(.ref r0)])) rfl rfl (hb hby d2_209)
  have c541 := ((c531.ext E532).other W538 (Ne.symm ne_r0_b513))
  obtain ⟨cl542, Ar542, qa542, Sa542, Ma542, Ha542, Ga542⟩ := id c541
  have hin542 : ¬ ((0 : Int32) < 0 ∨ cl542.slots.size ≤ ((0 : Int32)).toNatClampNeg) := by exact inb_of Sa542 ⟨by decide, by decide⟩
  obtain ⟨T543, h543, X543, e543, W543, st543⟩ := stI X540 hx hZ e540 Ar542 (j := (0 : Int32)) hin542 (g := (mkF m 216 (lt23 r0 6 kA6 0) [(.int 0), (.int 0), (.ref b513)])) rfl rfl (hb hby d2_216)
  have V_b513_543 : Arv Z h543 b513 k513 .int (6 : Int32) [(.int 0), (.int 0), (.int 0), (.int 0), (.int 0), (.int 0)] (.int 0) := Arv.set Ar542 qa542 Sa542 Ma542 Ha542 Ga542 rfl W543 0 rfl (Nat.le_of_ble_eq_true rfl)
  have O543 := O538.wr W543 g_b513
  have N543 := Fr.snoc X543 N538 g_b513
  have K543 := K538.wr W543 (Or.inr sz_b513)
  have c544 := (Fw538.other W543 (Or.inl ne_r0_b513))
  obtain ⟨T545, X545, e545, st545⟩ := getF X543 hx hZ hown (host := "") (Or.inl (hw _ (tk 42 rfl))) Via.refl e543 c544 (g := (mkF m 218 (lt23 r0 6 kA6 0) [(.ref r0)])) rfl rfl (hb hby d2_218)
  have c546 := ((V_b532.other W538 (Ne.symm ne_r0_b532)).other W543 (Ne.symm ne_b513_b532))
  obtain ⟨cl547, Ar547, qa547, Sa547, Ma547, Ha547, Ga547⟩ := id c546
  have hin547 : ¬ ((0 : Int32) < 0 ∨ cl547.slots.size ≤ ((0 : Int32)).toNatClampNeg) := by exact inb_of Sa547 ⟨by decide, by decide⟩
  obtain ⟨T548, h548, X548, e548, W548, st548⟩ := stI X545 hx hZ e545 Ar547 (j := (0 : Int32)) hin547 (g := (mkF m 224 (lt23 r0 6 kA6 0) [(.int 1), (.int 0), (.ref b532)])) rfl rfl (hb hby d2_224)
  have V_b532_548 : Arv Z h548 b532 k532 .int (6 : Int32) [(.int 1), (.int 0), (.int 0), (.int 0), (.int 0), (.int 0)] (.int 0) := Arv.set Ar547 qa547 Sa547 Ma547 Ha547 Ga547 rfl W548 0 rfl (Nat.le_of_ble_eq_true rfl)
  have O548 := O543.wr W548 g_b532
  have N548 := Fr.snoc X548 N543 g_b532
  have K548 := K543.wr W548 (Or.inr sz_b532)
  have c549 := ((c539.other W543 (Or.inl ne_r0_b513)).other W548 (Or.inl ne_r0_b532))
  obtain ⟨T550, X550, e550, st550⟩ := getF X548 hx hZ hown (host := "") (Or.inl (hw _ (tk 40 rfl))) Via.refl e548 c549 (g := (mkF m 209 (lt23 r0 6 kA6 ((0 : Int32) + 1)) [(.ref r0)])) rfl rfl (hb hby d2_209)
  have c551 := (V_b513_543.other W548 ne_b513_b532)
  obtain ⟨cl552, Ar552, qa552, Sa552, Ma552, Ha552, Ga552⟩ := id c551
  have hin552 : ¬ (((0 : Int32) + 1) < 0 ∨ cl552.slots.size ≤ (((0 : Int32) + 1)).toNatClampNeg) := by exact inb_of Sa552 ⟨by decide, by decide⟩
  obtain ⟨T553, h553, X553, e553, W553, st553⟩ := stI X550 hx hZ e550 Ar552 (j := ((0 : Int32) + 1)) hin552 (g := (mkF m 216 (lt23 r0 6 kA6 ((0 : Int32) + 1)) [(.int ((0 : Int32) + 1)), (.int ((0 : Int32) + 1)), (.ref b513)])) rfl rfl (hb hby d2_216)
  have V_b513_553 : Arv Z h553 b513 k513 .int (6 : Int32) [(.int 0), (.int ((0 : Int32) + 1)), (.int 0), (.int 0), (.int 0), (.int 0)] (.int 0) := Arv.set Ar552 qa552 Sa552 Ma552 Ha552 Ga552 rfl W553 1 rfl (Nat.le_of_ble_eq_true rfl)
  have O553 := O548.wr W553 g_b513
  have N553 := Fr.snoc X553 N548 g_b513
  have K553 := K548.wr W553 (Or.inr sz_b513)
  have c554 := ((c544.other W548 (Or.inl ne_r0_b532)).other W553 (Or.inl ne_r0_b513))
  obtain ⟨T555, X555, e555, st555⟩ := getF X553 hx hZ hown (host := "") (Or.inl (hw _ (tk 42 rfl))) Via.refl e553 c554 (g := (mkF m 218 (lt23 r0 6 kA6 ((0 : Int32) + 1)) [(.ref r0)])) rfl rfl (hb hby d2_218)
  have c556 := (V_b532_548.other W553 (Ne.symm ne_b513_b532))
  obtain ⟨cl557, Ar557, qa557, Sa557, Ma557, Ha557, Ga557⟩ := id c556
  have hin557 : ¬ (((0 : Int32) + 1) < 0 ∨ cl557.slots.size ≤ (((0 : Int32) + 1)).toNatClampNeg) := by exact inb_of Sa557 ⟨by decide, by decide⟩
  obtain ⟨T558, h558, X558, e558, W558, st558⟩ := stI X555 hx hZ e555 Ar557 (j := ((0 : Int32) + 1)) hin557 (g := (mkF m 224 (lt23 r0 6 kA6 ((0 : Int32) + 1)) [(.int 1), (.int ((0 : Int32) + 1)), (.ref b532)])) rfl rfl (hb hby d2_224)
  have V_b532_558 : Arv Z h558 b532 k532 .int (6 : Int32) [(.int 1), (.int 1), (.int 0), (.int 0), (.int 0), (.int 0)] (.int 0) := Arv.set Ar557 qa557 Sa557 Ma557 Ha557 Ga557 rfl W558 1 rfl (Nat.le_of_ble_eq_true rfl)
  have O558 := O553.wr W558 g_b532
  have N558 := Fr.snoc X558 N553 g_b532
  have K558 := K553.wr W558 (Or.inr sz_b532)
  have c559 := ((c549.other W553 (Or.inl ne_r0_b513)).other W558 (Or.inl ne_r0_b532))
  obtain ⟨T560, X560, e560, st560⟩ := getF X558 hx hZ hown (host := "") (Or.inl (hw _ (tk 40 rfl))) Via.refl e558 c559 (g := (mkF m 209 (lt23 r0 6 kA6 (((0 : Int32) + 1) + 1)) [(.ref r0)])) rfl rfl (hb hby d2_209)
  have c561 := (V_b513_553.other W558 ne_b513_b532)
  obtain ⟨cl562, Ar562, qa562, Sa562, Ma562, Ha562, Ga562⟩ := id c561
  have hin562 : ¬ ((((0 : Int32) + 1) + 1) < 0 ∨ cl562.slots.size ≤ ((((0 : Int32) + 1) + 1)).toNatClampNeg) := by exact inb_of Sa562 ⟨by decide, by decide⟩
  obtain ⟨T563, h563, X563, e563, W563, st563⟩ := stI X560 hx hZ e560 Ar562 (j := (((0 : Int32) + 1) + 1)) hin562 (g := (mkF m 216 (lt23 r0 6 kA6 (((0 : Int32) + 1) + 1)) [(.int (((0 : Int32) + 1) + 1)), (.int (((0 : Int32) + 1) + 1)), (.ref b513)])) rfl rfl (hb hby d2_216)
  have V_b513_563 : Arv Z h563 b513 k513 .int (6 : Int32) [(.int 0), (.int ((0 : Int32) + 1)), (.int (((0 : Int32) + 1) + 1)), (.int 0), (.int 0), (.int 0)] (.int 0) := Arv.set Ar562 qa562 Sa562 Ma562 Ha562 Ga562 rfl W563 2 rfl (Nat.le_of_ble_eq_true rfl)
  have O563 := O558.wr W563 g_b513
  have N563 := Fr.snoc X563 N558 g_b513
  have K563 := K558.wr W563 (Or.inr sz_b513)
  have c564 := ((c554.other W558 (Or.inl ne_r0_b532)).other W563 (Or.inl ne_r0_b513))
  obtain ⟨T565, X565, e565, st565⟩ := getF X563 hx hZ hown (host := "") (Or.inl (hw _ (tk 42 rfl))) Via.refl e563 c564 (g := (mkF m 218 (lt23 r0 6 kA6 (((0 : Int32) + 1) + 1)) [(.ref r0)])) rfl rfl (hb hby d2_218)
  have c566 := (V_b532_558.other W563 (Ne.symm ne_b513_b532))
  obtain ⟨cl567, Ar567, qa567, Sa567, Ma567, Ha567, Ga567⟩ := id c566
  have hin567 : ¬ ((((0 : Int32) + 1) + 1) < 0 ∨ cl567.slots.size ≤ ((((0 : Int32) + 1) + 1)).toNatClampNeg) := by exact inb_of Sa567 ⟨by decide, by decide⟩
  obtain ⟨T568, h568, X568, e568, W568, st568⟩ := stI X565 hx hZ e565 Ar567 (j := (((0 : Int32) + 1) + 1)) hin567 (g := (mkF m 224 (lt23 r0 6 kA6 (((0 : Int32) + 1) + 1)) [(.int 1), (.int (((0 : Int32) + 1) + 1)), (.ref b532)])) rfl rfl (hb hby d2_224)
  have V_b532_568 : Arv Z h568 b532 k532 .int (6 : Int32) [(.int 1), (.int 1), (.int 1), (.int 0), (.int 0), (.int 0)] (.int 0) := Arv.set Ar567 qa567 Sa567 Ma567 Ha567 Ga567 rfl W568 2 rfl (Nat.le_of_ble_eq_true rfl)
  have O568 := O563.wr W568 g_b532
  have N568 := Fr.snoc X568 N563 g_b532
  have K568 := K563.wr W568 (Or.inr sz_b532)
  have c569 := ((c559.other W563 (Or.inl ne_r0_b513)).other W568 (Or.inl ne_r0_b532))
  obtain ⟨T570, X570, e570, st570⟩ := getF X568 hx hZ hown (host := "") (Or.inl (hw _ (tk 40 rfl))) Via.refl e568 c569 (g := (mkF m 209 (lt23 r0 6 kA6 ((((0 : Int32) + 1) + 1) + 1)) [(.ref r0)])) rfl rfl (hb hby d2_209)
  have c571 := (V_b513_563.other W568 ne_b513_b532)
  obtain ⟨cl572, Ar572, qa572, Sa572, Ma572, Ha572, Ga572⟩ := id c571
  have hin572 : ¬ (((((0 : Int32) + 1) + 1) + 1) < 0 ∨ cl572.slots.size ≤ (((((0 : Int32) + 1) + 1) + 1)).toNatClampNeg) := by exact inb_of Sa572 ⟨by decide, by decide⟩
  obtain ⟨T573, h573, X573, e573, W573, st573⟩ := stI X570 hx hZ e570 Ar572 (j := ((((0 : Int32) + 1) + 1) + 1)) hin572 (g := (mkF m 216 (lt23 r0 6 kA6 ((((0 : Int32) + 1) + 1) + 1)) [(.int ((((0 : Int32) + 1) + 1) + 1)), (.int ((((0 : Int32) + 1) + 1) + 1)), (.ref b513)])) rfl rfl (hb hby d2_216)
  have V_b513_573 : Arv Z h573 b513 k513 .int (6 : Int32) [(.int 0), (.int ((0 : Int32) + 1)), (.int (((0 : Int32) + 1) + 1)), (.int ((((0 : Int32) + 1) + 1) + 1)), (.int 0), (.int 0)] (.int 0) := Arv.set Ar572 qa572 Sa572 Ma572 Ha572 Ga572 rfl W573 3 rfl (Nat.le_of_ble_eq_true rfl)
  have O573 := O568.wr W573 g_b513
  have N573 := Fr.snoc X573 N568 g_b513
  have K573 := K568.wr W573 (Or.inr sz_b513)
  have c574 := ((c564.other W568 (Or.inl ne_r0_b532)).other W573 (Or.inl ne_r0_b513))
  obtain ⟨T575, X575, e575, st575⟩ := getF X573 hx hZ hown (host := "") (Or.inl (hw _ (tk 42 rfl))) Via.refl e573 c574 (g := (mkF m 218 (lt23 r0 6 kA6 ((((0 : Int32) + 1) + 1) + 1)) [(.ref r0)])) rfl rfl (hb hby d2_218)
  have c576 := (V_b532_568.other W573 (Ne.symm ne_b513_b532))
  obtain ⟨cl577, Ar577, qa577, Sa577, Ma577, Ha577, Ga577⟩ := id c576
  have hin577 : ¬ (((((0 : Int32) + 1) + 1) + 1) < 0 ∨ cl577.slots.size ≤ (((((0 : Int32) + 1) + 1) + 1)).toNatClampNeg) := by exact inb_of Sa577 ⟨by decide, by decide⟩
  obtain ⟨T578, h578, X578, e578, W578, st578⟩ := stI X575 hx hZ e575 Ar577 (j := ((((0 : Int32) + 1) + 1) + 1)) hin577 (g := (mkF m 224 (lt23 r0 6 kA6 ((((0 : Int32) + 1) + 1) + 1)) [(.int 1), (.int ((((0 : Int32) + 1) + 1) + 1)), (.ref b532)])) rfl rfl (hb hby d2_224)
  have V_b532_578 : Arv Z h578 b532 k532 .int (6 : Int32) [(.int 1), (.int 1), (.int 1), (.int 1), (.int 0), (.int 0)] (.int 0) := Arv.set Ar577 qa577 Sa577 Ma577 Ha577 Ga577 rfl W578 3 rfl (Nat.le_of_ble_eq_true rfl)
  have O578 := O573.wr W578 g_b532
  have N578 := Fr.snoc X578 N573 g_b532
  have K578 := K573.wr W578 (Or.inr sz_b532)
  have c579 := ((c569.other W573 (Or.inl ne_r0_b513)).other W578 (Or.inl ne_r0_b532))
  obtain ⟨T580, X580, e580, st580⟩ := getF X578 hx hZ hown (host := "") (Or.inl (hw _ (tk 40 rfl))) Via.refl e578 c579 (g := (mkF m 209 (lt23 r0 6 kA6 (((((0 : Int32) + 1) + 1) + 1) + 1)) [(.ref r0)])) rfl rfl (hb hby d2_209)
  have c581 := (V_b513_573.other W578 ne_b513_b532)
  obtain ⟨cl582, Ar582, qa582, Sa582, Ma582, Ha582, Ga582⟩ := id c581
  have hin582 : ¬ ((((((0 : Int32) + 1) + 1) + 1) + 1) < 0 ∨ cl582.slots.size ≤ ((((((0 : Int32) + 1) + 1) + 1) + 1)).toNatClampNeg) := by exact inb_of Sa582 ⟨by decide, by decide⟩
  obtain ⟨T583, h583, X583, e583, W583, st583⟩ := stI X580 hx hZ e580 Ar582 (j := (((((0 : Int32) + 1) + 1) + 1) + 1)) hin582 (g := (mkF m 216 (lt23 r0 6 kA6 (((((0 : Int32) + 1) + 1) + 1) + 1)) [(.int (((((0 : Int32) + 1) + 1) + 1) + 1)), (.int (((((0 : Int32) + 1) + 1) + 1) + 1)), (.ref b513)])) rfl rfl (hb hby d2_216)
  have V_b513_583 : Arv Z h583 b513 k513 .int (6 : Int32) [(.int 0), (.int ((0 : Int32) + 1)), (.int (((0 : Int32) + 1) + 1)), (.int ((((0 : Int32) + 1) + 1) + 1)), (.int (((((0 : Int32) + 1) + 1) + 1) + 1)), (.int 0)] (.int 0) := Arv.set Ar582 qa582 Sa582 Ma582 Ha582 Ga582 rfl W583 4 rfl (Nat.le_of_ble_eq_true rfl)
  have O583 := O578.wr W583 g_b513
  have N583 := Fr.snoc X583 N578 g_b513
  have K583 := K578.wr W583 (Or.inr sz_b513)
  have c584 := ((c574.other W578 (Or.inl ne_r0_b532)).other W583 (Or.inl ne_r0_b513))
  obtain ⟨T585, X585, e585, st585⟩ := getF X583 hx hZ hown (host := "") (Or.inl (hw _ (tk 42 rfl))) Via.refl e583 c584 (g := (mkF m 218 (lt23 r0 6 kA6 (((((0 : Int32) + 1) + 1) + 1) + 1)) [(.ref r0)])) rfl rfl (hb hby d2_218)
  have c586 := (V_b532_578.other W583 (Ne.symm ne_b513_b532))
  obtain ⟨cl587, Ar587, qa587, Sa587, Ma587, Ha587, Ga587⟩ := id c586
  have hin587 : ¬ ((((((0 : Int32) + 1) + 1) + 1) + 1) < 0 ∨ cl587.slots.size ≤ ((((((0 : Int32) + 1) + 1) + 1) + 1)).toNatClampNeg) := by exact inb_of Sa587 ⟨by decide, by decide⟩
  obtain ⟨T588, h588, X588, e588, W588, st588⟩ := stI X585 hx hZ e585 Ar587 (j := (((((0 : Int32) + 1) + 1) + 1) + 1)) hin587 (g := (mkF m 224 (lt23 r0 6 kA6 (((((0 : Int32) + 1) + 1) + 1) + 1)) [(.int 1), (.int (((((0 : Int32) + 1) + 1) + 1) + 1)), (.ref b532)])) rfl rfl (hb hby d2_224)
  have V_b532_588 : Arv Z h588 b532 k532 .int (6 : Int32) [(.int 1), (.int 1), (.int 1), (.int 1), (.int 1), (.int 0)] (.int 0) := Arv.set Ar587 qa587 Sa587 Ma587 Ha587 Ga587 rfl W588 4 rfl (Nat.le_of_ble_eq_true rfl)
  have O588 := O583.wr W588 g_b532
  have N588 := Fr.snoc X588 N583 g_b532
  have K588 := K583.wr W588 (Or.inr sz_b532)
  have c589 := ((c579.other W583 (Or.inl ne_r0_b513)).other W588 (Or.inl ne_r0_b532))
  obtain ⟨T590, X590, e590, st590⟩ := getF X588 hx hZ hown (host := "") (Or.inl (hw _ (tk 40 rfl))) Via.refl e588 c589 (g := (mkF m 209 (lt23 r0 6 kA6 ((((((0 : Int32) + 1) + 1) + 1) + 1) + 1)) [(.ref r0)])) rfl rfl (hb hby d2_209)
  have c591 := (V_b513_583.other W588 ne_b513_b532)
  obtain ⟨cl592, Ar592, qa592, Sa592, Ma592, Ha592, Ga592⟩ := id c591
  have hin592 : ¬ (((((((0 : Int32) + 1) + 1) + 1) + 1) + 1) < 0 ∨ cl592.slots.size ≤ (((((((0 : Int32) + 1) + 1) + 1) + 1) + 1)).toNatClampNeg) := by exact inb_of Sa592 ⟨by decide, by decide⟩
  obtain ⟨T593, h593, X593, e593, W593, st593⟩ := stI X590 hx hZ e590 Ar592 (j := ((((((0 : Int32) + 1) + 1) + 1) + 1) + 1)) hin592 (g := (mkF m 216 (lt23 r0 6 kA6 ((((((0 : Int32) + 1) + 1) + 1) + 1) + 1)) [(.int ((((((0 : Int32) + 1) + 1) + 1) + 1) + 1)), (.int ((((((0 : Int32) + 1) + 1) + 1) + 1) + 1)), (.ref b513)])) rfl rfl (hb hby d2_216)
  have V_b513_593 : Arv Z h593 b513 k513 .int (6 : Int32) [(.int 0), (.int ((0 : Int32) + 1)), (.int (((0 : Int32) + 1) + 1)), (.int ((((0 : Int32) + 1) + 1) + 1)), (.int (((((0 : Int32) + 1) + 1) + 1) + 1)), (.int ((((((0 : Int32) + 1) + 1) + 1) + 1) + 1))] (.int 0) := Arv.set Ar592 qa592 Sa592 Ma592 Ha592 Ga592 rfl W593 5 rfl (Nat.le_of_ble_eq_true rfl)
  have O593 := O588.wr W593 g_b513
  have N593 := Fr.snoc X593 N588 g_b513
  have K593 := K588.wr W593 (Or.inr sz_b513)
  have c594 := ((c584.other W588 (Or.inl ne_r0_b532)).other W593 (Or.inl ne_r0_b513))
  obtain ⟨T595, X595, e595, st595⟩ := getF X593 hx hZ hown (host := "") (Or.inl (hw _ (tk 42 rfl))) Via.refl e593 c594 (g := (mkF m 218 (lt23 r0 6 kA6 ((((((0 : Int32) + 1) + 1) + 1) + 1) + 1)) [(.ref r0)])) rfl rfl (hb hby d2_218)
  have c596 := (V_b532_588.other W593 (Ne.symm ne_b513_b532))
  obtain ⟨cl597, Ar597, qa597, Sa597, Ma597, Ha597, Ga597⟩ := id c596
  have hin597 : ¬ (((((((0 : Int32) + 1) + 1) + 1) + 1) + 1) < 0 ∨ cl597.slots.size ≤ (((((((0 : Int32) + 1) + 1) + 1) + 1) + 1)).toNatClampNeg) := by exact inb_of Sa597 ⟨by decide, by decide⟩
  obtain ⟨T598, h598, X598, e598, W598, st598⟩ := stI X595 hx hZ e595 Ar597 (j := ((((((0 : Int32) + 1) + 1) + 1) + 1) + 1)) hin597 (g := (mkF m 224 (lt23 r0 6 kA6 ((((((0 : Int32) + 1) + 1) + 1) + 1) + 1)) [(.int 1), (.int ((((((0 : Int32) + 1) + 1) + 1) + 1) + 1)), (.ref b532)])) rfl rfl (hb hby d2_224)
  have V_b532_598 : Arv Z h598 b532 k532 .int (6 : Int32) [(.int 1), (.int 1), (.int 1), (.int 1), (.int 1), (.int 1)] (.int 0) := Arv.set Ar597 qa597 Sa597 Ma597 Ha597 Ga597 rfl W598 5 rfl (Nat.le_of_ble_eq_true rfl)
  have O598 := O593.wr W598 g_b532
  have N598 := Fr.snoc X598 N593 g_b532
  have K598 := K593.wr W598 (Or.inr sz_b532)
  have c599 := ((((c533.wr W538).wr W543).wr W548).wr W553)
  have c600 := (((((c599.wr W558).wr W563).wr W568).wr W573).wr W578)
  have c601 := ((((c600.wr W583).wr W588).wr W593).wr W598)
  have c602 := ((((c520.ext E532).other W538 (Ne.symm ne_r0_b429)).other W543 ne_b429_b513).other W548 ne_b429_b532)
  have c603 := (((((c602.other W553 ne_b429_b513).other W558 ne_b429_b532).other W563 ne_b429_b513).other W568 ne_b429_b532).other W573 ne_b429_b513)
  have c604 := (((((c603.other W578 ne_b429_b532).other W583 ne_b429_b513).other W588 ne_b429_b532).other W593 ne_b429_b513).other W598 ne_b429_b532)
  have c605 := ((((c521.ext E532).other W538 (Ne.symm ne_r0_b435)).other W543 ne_b435_b513).other W548 ne_b435_b532)
  have c606 := (((((c605.other W553 ne_b435_b513).other W558 ne_b435_b532).other W563 ne_b435_b513).other W568 ne_b435_b532).other W573 ne_b435_b513)
  have c607 := (((((c606.other W578 ne_b435_b532).other W583 ne_b435_b513).other W588 ne_b435_b532).other W593 ne_b435_b513).other W598 ne_b435_b532)
  have c608 := ((((c522.ext E532).other W538 (Ne.symm ne_r0_b435r0)).other W543 ne_b435r0_b513).other W548 ne_b435r0_b532)
  have c609 := (((((c608.other W553 ne_b435r0_b513).other W558 ne_b435r0_b532).other W563 ne_b435r0_b513).other W568 ne_b435r0_b532).other W573 ne_b435r0_b513)
  have c610 := (((((c609.other W578 ne_b435r0_b532).other W583 ne_b435r0_b513).other W588 ne_b435r0_b532).other W593 ne_b435r0_b513).other W598 ne_b435r0_b532)
  have c611 := ((((c523.ext E532).other W538 (Ne.symm ne_r0_b435r1)).other W543 ne_b435r1_b513).other W548 ne_b435r1_b532)
  have c612 := (((((c611.other W553 ne_b435r1_b513).other W558 ne_b435r1_b532).other W563 ne_b435r1_b513).other W568 ne_b435r1_b532).other W573 ne_b435r1_b513)
  have c613 := (((((c612.other W578 ne_b435r1_b532).other W583 ne_b435r1_b513).other W588 ne_b435r1_b532).other W593 ne_b435r1_b513).other W598 ne_b435r1_b532)
  have c614 := ((((c524.ext E532).other W538 (Ne.symm ne_r0_b435r2)).other W543 ne_b435r2_b513).other W548 ne_b435r2_b532)
  have c615 := (((((c614.other W553 ne_b435r2_b513).other W558 ne_b435r2_b532).other W563 ne_b435r2_b513).other W568 ne_b435r2_b532).other W573 ne_b435r2_b513)
  have c616 := (((((c615.other W578 ne_b435r2_b532).other W583 ne_b435r2_b513).other W588 ne_b435r2_b532).other W593 ne_b435r2_b513).other W598 ne_b435r2_b532)
  have c617 := ((((c525.ext E532).other W538 (Ne.symm ne_r0_b435r3)).other W543 ne_b435r3_b513).other W548 ne_b435r3_b532)
  have c618 := (((((c617.other W553 ne_b435r3_b513).other W558 ne_b435r3_b532).other W563 ne_b435r3_b513).other W568 ne_b435r3_b532).other W573 ne_b435r3_b513)
  have c619 := (((((c618.other W578 ne_b435r3_b532).other W583 ne_b435r3_b513).other W588 ne_b435r3_b532).other W593 ne_b435r3_b513).other W598 ne_b435r3_b532)
  have c620 := ((((c526.ext E532).other W538 (Ne.symm ne_r0_b435r4)).other W543 ne_b435r4_b513).other W548 ne_b435r4_b532)
  have c621 := (((((c620.other W553 ne_b435r4_b513).other W558 ne_b435r4_b532).other W563 ne_b435r4_b513).other W568 ne_b435r4_b532).other W573 ne_b435r4_b513)
  have c622 := (((((c621.other W578 ne_b435r4_b532).other W583 ne_b435r4_b513).other W588 ne_b435r4_b532).other W593 ne_b435r4_b513).other W598 ne_b435r4_b532)
  have c623 := ((((c527.ext E532).other W538 (Ne.symm ne_r0_b435r5)).other W543 ne_b435r5_b513).other W548 ne_b435r5_b532)
  have c624 := (((((c623.other W553 ne_b435r5_b513).other W558 ne_b435r5_b532).other W563 ne_b435r5_b513).other W568 ne_b435r5_b532).other W573 ne_b435r5_b513)
  have c625 := (((((c624.other W578 ne_b435r5_b532).other W583 ne_b435r5_b513).other W588 ne_b435r5_b532).other W593 ne_b435r5_b513).other W598 ne_b435r5_b532)
  have c626 := ((((c528.ext E532).other W538 (Ne.symm ne_r0_b448)).other W543 ne_b448_b513).other W548 ne_b448_b532)
  have c627 := (((((c626.other W553 ne_b448_b513).other W558 ne_b448_b532).other W563 ne_b448_b513).other W568 ne_b448_b532).other W573 ne_b448_b513)
  have c628 := (((((c627.other W578 ne_b448_b532).other W583 ne_b448_b513).other W588 ne_b448_b532).other W593 ne_b448_b513).other W598 ne_b448_b532)
  have c629 := ((((c529.ext E532).other W538 (Ne.symm ne_r0_b463)).other W543 ne_b463_b513).other W548 ne_b463_b532)
  have c630 := (((((c629.other W553 ne_b463_b513).other W558 ne_b463_b532).other W563 ne_b463_b513).other W568 ne_b463_b532).other W573 ne_b463_b513)
  have c631 := (((((c630.other W578 ne_b463_b532).other W583 ne_b463_b513).other W588 ne_b463_b532).other W593 ne_b463_b513).other W598 ne_b463_b532)
  have c632 := ((((c530.ext E532).other W538 (Ne.symm ne_r0_b495)).other W543 ne_b495_b513).other W548 ne_b495_b532)
  have c633 := (((((c632.other W553 ne_b495_b513).other W558 ne_b495_b532).other W563 ne_b495_b513).other W568 ne_b495_b532).other W573 ne_b495_b513)
  have c634 := (((((c633.other W578 ne_b495_b532).other W583 ne_b495_b513).other W588 ne_b495_b532).other W593 ne_b495_b513).other W598 ne_b495_b532)
  have c635 := (V_b513_593.other W598 ne_b513_b532)
  obtain ⟨T636, h636, k636, X636, e636, E636, A636, st636⟩ := newP X598 hx hZ (hw _ (tk 24 rfl)) e598 (g := (mkF m 233 (lt23 r0 6 kA6 (((((((0 : Int32) + 1) + 1) + 1) + 1) + 1) + 1)) [(.int 6), (.ref r0)])) rfl (hb hby d2_233) rfl (by decide) (cap := 6) (by decide) (by decide) (by decide) (by decide)
  obtain ⟨b636, g636⟩ : ∃ z, z = h598.size := ⟨_, rfl⟩
  rw [← g636] at A636 st636
  have g_b636 : n0 ≤ b636 := Nat.le_trans (own_old O598) (Nat.le_of_eq g636.symm)
  have sz_b636 : h0.size ≤ b636 := Nat.le_trans K598.1 (Nat.le_of_eq g636.symm)
  have ne_r0_b636 := own_ng c601.lt g636
  have ne_b429_b636 := own_ng c604.lt g636
  have ne_b435_b636 := own_ng c607.lt g636
  have ne_b435r0_b636 := own_ng c610.lt g636
  have ne_b435r1_b636 := own_ng c613.lt g636
  have ne_b435r2_b636 := own_ng c616.lt g636
  have ne_b435r3_b636 := own_ng c619.lt g636
  have ne_b435r4_b636 := own_ng c622.lt g636
  have ne_b435r5_b636 := own_ng c625.lt g636
  have ne_b448_b636 := own_ng c628.lt g636
  have ne_b463_b636 := own_ng c631.lt g636
  have ne_b495_b636 := own_ng c634.lt g636
  have ne_b513_b636 := own_ng c635.lt g636
  have ne_b532_b636 := own_ng V_b532_598.lt g636
  have O636 := O598.ext E636
  have K636 := K598.ext E636
  have V_b636 : Arv Z h636 b636 k636 .int (6 : Int32) [(.int 0), (.int 0), (.int 0), (.int 0), (.int 0), (.int 0)] (.int 0) := (Arv.new A636 (by decide)).pad (pad_rep [] (.int 0) 6)
  have c637 := (c601.ext E636)
  have c638 := ((((F_pending_r0.other W427 (Or.inr (sRR hw 45 14 rfl rfl rfl))).ext E429).other W432 (Or.inr (sRR hw 45 18 rfl rfl rfl))).ext E435)
  have c639 := (((((c638.other W438 (Or.inr (sRR hw 45 23 rfl rfl rfl))).ext E448).other W452 (Or.inr (sRR hw 45 26 rfl rfl rfl))).ext E463).other W467 (Or.inr (sRR hw 45 28 rfl rfl rfl)))
  have c640 := (((((c639.keep K483c (ninS ne_r0_b463 nin0)).ext E495).other W500 (Or.inr (sRR hw 45 39 rfl rfl rfl))).ext E513).other W518 (Or.inr (sRR hw 45 41 rfl rfl rfl)))
  have c641 := (((((c640.ext E532).other W538 (Or.inr (sRR hw 45 43 rfl rfl rfl))).other W543 (Or.inl ne_r0_b513)).other W548 (Or.inl ne_r0_b532)).other W553 (Or.inl ne_r0_b513))
  have c642 := (((((c641.other W558 (Or.inl ne_r0_b532)).other W563 (Or.inl ne_r0_b513)).other W568 (Or.inl ne_r0_b532)).other W573 (Or.inl ne_r0_b513)).other W578 (Or.inl ne_r0_b532))
  have c643 := (((((c642.other W583 (Or.inl ne_r0_b513)).other W588 (Or.inl ne_r0_b532)).other W593 (Or.inl ne_r0_b513)).other W598 (Or.inl ne_r0_b532)).ext E636)
  obtain ⟨T644, h644, X644, e644, W644, st644⟩ := putF X636 hx hZ hown (host := "") (Or.inl (hw _ (tk 44 rfl))) Via.refl e636 c643 c637 (Or.inr ⟨(hw _ (tk 45 rfl)), rfl, hnm⟩) (hw _ (tk 2 rfl)) (ty := (.array .int)) (by decide) rfl rfl (g := (mkF m 235 (lt23 r0 6 kA6 (((((((0 : Int32) + 1) + 1) + 1) + 1) + 1) + 1)) [(.ref b636), (.ref r0)])) rfl rfl (hb hby d2_235)
  have Fw644 := c643.same W644
  have O644 := O636.wr W644 g_r0
  have N644 := Fr.snoc X644 N598 g_r0
  have K644 := K636.wr W644 (Or.inl (List.mem_of_getElem? (i := 0) rfl))
  have c645 := (c637.wr W644)
  have c646 := ((c604.ext E636).other W644 (Ne.symm ne_r0_b429))
  have c647 := ((c607.ext E636).other W644 (Ne.symm ne_r0_b435))
  have c648 := ((c610.ext E636).other W644 (Ne.symm ne_r0_b435r0))
  have c649 := ((c613.ext E636).other W644 (Ne.symm ne_r0_b435r1))
  have c650 := ((c616.ext E636).other W644 (Ne.symm ne_r0_b435r2))
  have c651 := ((c619.ext E636).other W644 (Ne.symm ne_r0_b435r3))
  have c652 := ((c622.ext E636).other W644 (Ne.symm ne_r0_b435r4))
  have c653 := ((c625.ext E636).other W644 (Ne.symm ne_r0_b435r5))
  have c654 := ((c628.ext E636).other W644 (Ne.symm ne_r0_b448))
  have c655 := ((c631.ext E636).other W644 (Ne.symm ne_r0_b463))
  have c656 := ((c634.ext E636).other W644 (Ne.symm ne_r0_b495))
  have c657 := ((c635.ext E636).other W644 (Ne.symm ne_r0_b513))
  have c658 := ((V_b532_598.ext E636).other W644 (Ne.symm ne_r0_b532))
  have c659 := (V_b636.other W644 (Ne.symm ne_r0_b636))
  obtain ⟨T660, h660, k660, X660, e660, E660, A660, st660⟩ := newP X644 hx hZ (hw _ (tk 46 rfl)) e644 (g := (mkF m 240 (lt23 r0 6 kA6 (((((((0 : Int32) + 1) + 1) + 1) + 1) + 1) + 1)) [(.int 6), (.ref r0)])) rfl (hb hby d2_240) rfl (by decide) (cap := 6) (by decide) (by decide) (by decide) (by decide)
  obtain ⟨b660, g660⟩ : ∃ z, z = h644.size := ⟨_, rfl⟩
  rw [← g660] at A660 st660
  have g_b660 : n0 ≤ b660 := Nat.le_trans (own_old O644) (Nat.le_of_eq g660.symm)
  have sz_b660 : h0.size ≤ b660 := Nat.le_trans K644.1 (Nat.le_of_eq g660.symm)
  have ne_r0_b660 := own_ng c645.lt g660
  have ne_b429_b660 := own_ng c646.lt g660
  have ne_b435_b660 := own_ng c647.lt g660
  have ne_b435r0_b660 := own_ng c648.lt g660
  have ne_b435r1_b660 := own_ng c649.lt g660
  have ne_b435r2_b660 := own_ng c650.lt g660
  have ne_b435r3_b660 := own_ng c651.lt g660
  have ne_b435r4_b660 := own_ng c652.lt g660
  have ne_b435r5_b660 := own_ng c653.lt g660
  have ne_b448_b660 := own_ng c654.lt g660
  have ne_b463_b660 := own_ng c655.lt g660
  have ne_b495_b660 := own_ng c656.lt g660
  have ne_b513_b660 := own_ng c657.lt g660
  have ne_b532_b660 := own_ng c658.lt g660
  have ne_b636_b660 := own_ng c659.lt g660
  have O660 := O644.ext E660
  have K660 := K644.ext E660
  have V_b660 : Arv Z h660 b660 k660 .boolean (6 : Int32) [(.int 0), (.int 0), (.int 0), (.int 0), (.int 0), (.int 0)] (.int 0) := (Arv.new A660 (by decide)).pad (pad_rep [] (.int 0) 6)
  have c661 := (c645.ext E660)
  have c662 := ((((F_isPending_r0.other W427 (Or.inr (sRR hw 48 14 rfl rfl rfl))).ext E429).other W432 (Or.inr (sRR hw 48 18 rfl rfl rfl))).ext E435)
  have c663 := (((((c662.other W438 (Or.inr (sRR hw 48 23 rfl rfl rfl))).ext E448).other W452 (Or.inr (sRR hw 48 26 rfl rfl rfl))).ext E463).other W467 (Or.inr (sRR hw 48 28 rfl rfl rfl)))
  have c664 := (((((c663.keep K483c (ninS ne_r0_b463 nin0)).ext E495).other W500 (Or.inr (sRR hw 48 39 rfl rfl rfl))).ext E513).other W518 (Or.inr (sRR hw 48 41 rfl rfl rfl)))
  have c665 := (((((c664.ext E532).other W538 (Or.inr (sRR hw 48 43 rfl rfl rfl))).other W543 (Or.inl ne_r0_b513)).other W548 (Or.inl ne_r0_b532)).other W553 (Or.inl ne_r0_b513))
  have c666 := (((((c665.other W558 (Or.inl ne_r0_b532)).other W563 (Or.inl ne_r0_b513)).other W568 (Or.inl ne_r0_b532)).other W573 (Or.inl ne_r0_b513)).other W578 (Or.inl ne_r0_b532))
  have c667 := (((((c666.other W583 (Or.inl ne_r0_b513)).other W588 (Or.inl ne_r0_b532)).other W593 (Or.inl ne_r0_b513)).other W598 (Or.inl ne_r0_b532)).ext E636)
  have c668 := ((c667.other W644 (Or.inr (sRR hw 48 45 rfl rfl rfl))).ext E660)
  obtain ⟨T669, h669, X669, e669, W669, st669⟩ := putF X660 hx hZ hown (host := "") (Or.inl (hw _ (tk 47 rfl))) Via.refl e660 c668 c661 (Or.inr ⟨(hw _ (tk 48 rfl)), rfl, hnm⟩) (hw _ (tk 2 rfl)) (ty := (.array .boolean)) (by decide) rfl rfl (g := (mkF m 242 (lt23 r0 6 kA6 (((((((0 : Int32) + 1) + 1) + 1) + 1) + 1) + 1)) [(.ref b660), (.ref r0)])) rfl rfl (hb hby d2_242)
  have Fw669 := c668.same W669
  have O669 := O660.wr W669 g_r0
  have N669 := Fr.snoc X669 N644 g_r0
  have K669 := K660.wr W669 (Or.inl (List.mem_of_getElem? (i := 0) rfl))
  have c670 := (c661.wr W669)
  have c671 := ((c646.ext E660).other W669 (Ne.symm ne_r0_b429))
  have c672 := ((c647.ext E660).other W669 (Ne.symm ne_r0_b435))
  have c673 := ((c648.ext E660).other W669 (Ne.symm ne_r0_b435r0))
  have c674 := ((c649.ext E660).other W669 (Ne.symm ne_r0_b435r1))
  have c675 := ((c650.ext E660).other W669 (Ne.symm ne_r0_b435r2))
  have c676 := ((c651.ext E660).other W669 (Ne.symm ne_r0_b435r3))
  have c677 := ((c652.ext E660).other W669 (Ne.symm ne_r0_b435r4))
  have c678 := ((c653.ext E660).other W669 (Ne.symm ne_r0_b435r5))
  have c679 := ((c654.ext E660).other W669 (Ne.symm ne_r0_b448))
  have c680 := ((c655.ext E660).other W669 (Ne.symm ne_r0_b463))
  have c681 := ((c656.ext E660).other W669 (Ne.symm ne_r0_b495))
  have c682 := ((c657.ext E660).other W669 (Ne.symm ne_r0_b513))
  have c683 := ((c658.ext E660).other W669 (Ne.symm ne_r0_b532))
  have c684 := ((c659.ext E660).other W669 (Ne.symm ne_r0_b636))
  have c685 := (V_b660.other W669 (Ne.symm ne_r0_b660))
  obtain ⟨T686, h686, k686, X686, e686, E686, A686, st686⟩ := newP X669 hx hZ (hw _ (tk 24 rfl)) e669 (g := (mkF m 249 (lt23 r0 6 kA6 (((((((0 : Int32) + 1) + 1) + 1) + 1) + 1) + 1)) [(.int ((6 : Int32) + 1)), (.ref r0)])) rfl (hb hby d2_249) rfl (by decide) (cap := 7) (by decide) (by decide) (by decide) (by decide)
  obtain ⟨b686, g686⟩ : ∃ z, z = h669.size := ⟨_, rfl⟩
  rw [← g686] at A686 st686
  have g_b686 : n0 ≤ b686 := Nat.le_trans (own_old O669) (Nat.le_of_eq g686.symm)
  have sz_b686 : h0.size ≤ b686 := Nat.le_trans K669.1 (Nat.le_of_eq g686.symm)
  have ne_r0_b686 := own_ng c670.lt g686
  have ne_b429_b686 := own_ng c671.lt g686
  have ne_b435_b686 := own_ng c672.lt g686
  have ne_b435r0_b686 := own_ng c673.lt g686
  have ne_b435r1_b686 := own_ng c674.lt g686
  have ne_b435r2_b686 := own_ng c675.lt g686
  have ne_b435r3_b686 := own_ng c676.lt g686
  have ne_b435r4_b686 := own_ng c677.lt g686
  have ne_b435r5_b686 := own_ng c678.lt g686
  have ne_b448_b686 := own_ng c679.lt g686
  have ne_b463_b686 := own_ng c680.lt g686
  have ne_b495_b686 := own_ng c681.lt g686
  have ne_b513_b686 := own_ng c682.lt g686
  have ne_b532_b686 := own_ng c683.lt g686
  have ne_b636_b686 := own_ng c684.lt g686
  have ne_b660_b686 := own_ng c685.lt g686
  have O686 := O669.ext E686
  have K686 := K669.ext E686
  have V_b686 : Arv Z h686 b686 k686 .int ((6 : Int32) + 1) [(.int 0), (.int 0), (.int 0), (.int 0), (.int 0), (.int 0), (.int 0)] (.int 0) := (Arv.new A686 (by decide)).pad (pad_rep [] (.int 0) 7)
  have c687 := (c670.ext E686)
  have c688 := ((((F_listStart_r0.other W427 (Or.inr (sRR hw 50 14 rfl rfl rfl))).ext E429).other W432 (Or.inr (sRR hw 50 18 rfl rfl rfl))).ext E435)
  have c689 := (((((c688.other W438 (Or.inr (sRR hw 50 23 rfl rfl rfl))).ext E448).other W452 (Or.inr (sRR hw 50 26 rfl rfl rfl))).ext E463).other W467 (Or.inr (sRR hw 50 28 rfl rfl rfl)))
  have c690 := (((((c689.keep K483c (ninS ne_r0_b463 nin0)).ext E495).other W500 (Or.inr (sRR hw 50 39 rfl rfl rfl))).ext E513).other W518 (Or.inr (sRR hw 50 41 rfl rfl rfl)))
  have c691 := (((((c690.ext E532).other W538 (Or.inr (sRR hw 50 43 rfl rfl rfl))).other W543 (Or.inl ne_r0_b513)).other W548 (Or.inl ne_r0_b532)).other W553 (Or.inl ne_r0_b513))
  have c692 := (((((c691.other W558 (Or.inl ne_r0_b532)).other W563 (Or.inl ne_r0_b513)).other W568 (Or.inl ne_r0_b532)).other W573 (Or.inl ne_r0_b513)).other W578 (Or.inl ne_r0_b532))
  have c693 := (((((c692.other W583 (Or.inl ne_r0_b513)).other W588 (Or.inl ne_r0_b532)).other W593 (Or.inl ne_r0_b513)).other W598 (Or.inl ne_r0_b532)).ext E636)
  have c694 := ((((c693.other W644 (Or.inr (sRR hw 50 45 rfl rfl rfl))).ext E660).other W669 (Or.inr (sRR hw 50 48 rfl rfl rfl))).ext E686)
  obtain ⟨T695, h695, X695, e695, W695, st695⟩ := putF X686 hx hZ hown (host := "") (Or.inl (hw _ (tk 49 rfl))) Via.refl e686 c694 c687 (Or.inr ⟨(hw _ (tk 50 rfl)), rfl, hnm⟩) (hw _ (tk 2 rfl)) (ty := (.array .int)) (by decide) rfl rfl (g := (mkF m 251 (lt23 r0 6 kA6 (((((((0 : Int32) + 1) + 1) + 1) + 1) + 1) + 1)) [(.ref b686), (.ref r0)])) rfl rfl (hb hby d2_251)
  have Fw695 := c694.same W695
  have O695 := O686.wr W695 g_r0
  have N695 := Fr.snoc X695 N669 g_r0
  have K695 := K686.wr W695 (Or.inl (List.mem_of_getElem? (i := 0) rfl))
  obtain ⟨_, _, ⟨T696, L696, k696, n696⟩, -, X696, ⟨Lc696, hQ696, l696, y696, z696⟩, st696⟩ := Jvm.LawKit.callS X695 hx (y := Y23) hown (mvT hZ (hw _ (tk 34 rfl))) (mvT hZ (hw _ (tk 35 rfl))) (mvT hZ (hw _ (tk 36 rfl))) (mvT hZ (hw _ (tk 37 rfl))) (by decide) (backOf (W := 1) (rm5x4 l Z a0 hw [] hS0 h695 n0 O695) hZ (hw _ (tk 37 rfl)) (hw _ (tk 36 rfl)) (by decide) (by decide)) (g := (mkF m 256 (lt23 r0 6 kA6 (((((((0 : Int32) + 1) + 1) + 1) + 1) + 1) + 1)) [(.long kA6), (.ref r0)])) rfl (by rw [hml]; rfl) (argsL := [(.long kA6)]) (rest := [(.ref r0)]) (lenOf pd_1 rfl) rfl (by show 2 * 0 + _ ≤ _; exact Nat.le_of_eq rfl) (hb hby d2_256) (fun _ _ => ⟨rfl, e695, (by decide : 16 + 0 ≤ _), (by decide : 151 + 0 ≤ _)⟩)
  dsimp only [Pt.U, Pt.locs, Pt.cells, Pt.slots] at X696 l696 y696 z696 st696 hQ696
  rw [l696, y696, z696] at X696
  obtain ⟨rv696, N696q, e696⟩ := hQ696
  subst rv696
  have N696 := Fr.app N695 N696q
  have c697 := (c687.wr W695)
  have c698 := ((c671.ext E686).other W695 (Ne.symm ne_r0_b429))
  have c699 := ((c672.ext E686).other W695 (Ne.symm ne_r0_b435))
  have c700 := ((c673.ext E686).other W695 (Ne.symm ne_r0_b435r0))
  have c701 := ((c674.ext E686).other W695 (Ne.symm ne_r0_b435r1))
  have c702 := ((c675.ext E686).other W695 (Ne.symm ne_r0_b435r2))
  have c703 := ((c676.ext E686).other W695 (Ne.symm ne_r0_b435r3))
  have c704 := ((c677.ext E686).other W695 (Ne.symm ne_r0_b435r4))
  have c705 := ((c678.ext E686).other W695 (Ne.symm ne_r0_b435r5))
  have c706 := ((c679.ext E686).other W695 (Ne.symm ne_r0_b448))
  have c707 := ((c680.ext E686).other W695 (Ne.symm ne_r0_b463))
  have c708 := ((c681.ext E686).other W695 (Ne.symm ne_r0_b495))
  have c709 := ((c682.ext E686).other W695 (Ne.symm ne_r0_b513))
  have c710 := ((c683.ext E686).other W695 (Ne.symm ne_r0_b532))
  have c711 := ((c684.ext E686).other W695 (Ne.symm ne_r0_b636))
  have c712 := ((c685.ext E686).other W695 (Ne.symm ne_r0_b660))
  have c713 := (V_b686.other W695 (Ne.symm ne_r0_b686))
  obtain ⟨T714, h714, k714, X714, e714, E714, A714, st714⟩ := newP X696 hx hZ (hw _ (tk 24 rfl)) e696 (g := (mkF m 259 (lt23 r0 6 kA6 (((((((0 : Int32) + 1) + 1) + 1) + 1) + 1) + 1)) [(.int (kA6.toInt32)), (.ref r0)])) rfl (hb hby d2_259) rfl (by decide) (cap := 30) (by decide) (by decide) (by decide) (by decide)
  obtain ⟨b714, g714⟩ : ∃ z, z = h695.size := ⟨_, rfl⟩
  rw [← g714] at A714 st714
  have g_b714 : n0 ≤ b714 := Nat.le_trans (own_old O695) (Nat.le_of_eq g714.symm)
  have sz_b714 : h0.size ≤ b714 := Nat.le_trans K695.1 (Nat.le_of_eq g714.symm)
  have ne_r0_b714 := own_ng c697.lt g714
  have ne_b429_b714 := own_ng c698.lt g714
  have ne_b435_b714 := own_ng c699.lt g714
  have ne_b435r0_b714 := own_ng c700.lt g714
  have ne_b435r1_b714 := own_ng c701.lt g714
  have ne_b435r2_b714 := own_ng c702.lt g714
  have ne_b435r3_b714 := own_ng c703.lt g714
  have ne_b435r4_b714 := own_ng c704.lt g714
  have ne_b435r5_b714 := own_ng c705.lt g714
  have ne_b448_b714 := own_ng c706.lt g714
  have ne_b463_b714 := own_ng c707.lt g714
  have ne_b495_b714 := own_ng c708.lt g714
  have ne_b513_b714 := own_ng c709.lt g714
  have ne_b532_b714 := own_ng c710.lt g714
  have ne_b636_b714 := own_ng c711.lt g714
  have ne_b660_b714 := own_ng c712.lt g714
  have ne_b686_b714 := own_ng c713.lt g714
  have O714 := O695.ext E714
  have K714 := K695.ext E714
  have V_b714 : Arv Z h714 b714 k714 .int (kA6.toInt32) [(.int 0), (.int 0), (.int 0), (.int 0), (.int 0), (.int 0), (.int 0), (.int 0), (.int 0), (.int 0), (.int 0), (.int 0), (.int 0), (.int 0), (.int 0), (.int 0), (.int 0), (.int 0), (.int 0), (.int 0), (.int 0), (.int 0), (.int 0), (.int 0), (.int 0), (.int 0), (.int 0), (.int 0), (.int 0), (.int 0)] (.int 0) := (Arv.new A714 (by decide)).pad (pad_rep [] (.int 0) 30)
  have c715 := (c697.ext E714)
  have c716 := ((((F_neighbours_r0.other W427 (Or.inr (sRR hw 52 14 rfl rfl rfl))).ext E429).other W432 (Or.inr (sRR hw 52 18 rfl rfl rfl))).ext E435)
  have c717 := (((((c716.other W438 (Or.inr (sRR hw 52 23 rfl rfl rfl))).ext E448).other W452 (Or.inr (sRR hw 52 26 rfl rfl rfl))).ext E463).other W467 (Or.inr (sRR hw 52 28 rfl rfl rfl)))
  have c718 := (((((c717.keep K483c (ninS ne_r0_b463 nin0)).ext E495).other W500 (Or.inr (sRR hw 52 39 rfl rfl rfl))).ext E513).other W518 (Or.inr (sRR hw 52 41 rfl rfl rfl)))
  have c719 := (((((c718.ext E532).other W538 (Or.inr (sRR hw 52 43 rfl rfl rfl))).other W543 (Or.inl ne_r0_b513)).other W548 (Or.inl ne_r0_b532)).other W553 (Or.inl ne_r0_b513))
  have c720 := (((((c719.other W558 (Or.inl ne_r0_b532)).other W563 (Or.inl ne_r0_b513)).other W568 (Or.inl ne_r0_b532)).other W573 (Or.inl ne_r0_b513)).other W578 (Or.inl ne_r0_b532))
  have c721 := (((((c720.other W583 (Or.inl ne_r0_b513)).other W588 (Or.inl ne_r0_b532)).other W593 (Or.inl ne_r0_b513)).other W598 (Or.inl ne_r0_b532)).ext E636)
  have c722 := (((((c721.other W644 (Or.inr (sRR hw 52 45 rfl rfl rfl))).ext E660).other W669 (Or.inr (sRR hw 52 48 rfl rfl rfl))).ext E686).other W695 (Or.inr (sRR hw 52 50 rfl rfl rfl)))
  have c723 := (c722.ext E714)
  obtain ⟨T724, h724, X724, e724, W724, st724⟩ := putF X714 hx hZ hown (host := "") (Or.inl (hw _ (tk 51 rfl))) Via.refl e714 c723 c715 (Or.inr ⟨(hw _ (tk 52 rfl)), rfl, hnm⟩) (hw _ (tk 2 rfl)) (ty := (.array .int)) (by decide) rfl rfl (g := (mkF m 261 (lt23 r0 6 kA6 (((((((0 : Int32) + 1) + 1) + 1) + 1) + 1) + 1)) [(.ref b714), (.ref r0)])) rfl rfl (hb hby d2_261)
  have Fw724 := c723.same W724
  have O724 := O714.wr W724 g_r0
  have N724 := Fr.snoc X724 N696 g_r0
  have K724 := K714.wr W724 (Or.inl (List.mem_of_getElem? (i := 0) rfl))
  have c725 := (c715.wr W724)
  have c726 := ((((Fw427.ext E429).other W432 (Or.inr (sRR hw 14 18 rfl rfl rfl))).ext E435).other W438 (Or.inr (sRR hw 14 23 rfl rfl rfl)))
  have c727 := (((((c726.ext E448).other W452 (Or.inr (sRR hw 14 26 rfl rfl rfl))).ext E463).other W467 (Or.inr (sRR hw 14 28 rfl rfl rfl))).keep K483c (ninS ne_r0_b463 nin0))
  have c728 := (((((c727.ext E495).other W500 (Or.inr (sRR hw 14 39 rfl rfl rfl))).ext E513).other W518 (Or.inr (sRR hw 14 41 rfl rfl rfl))).ext E532)
  have c729 := (((((c728.other W538 (Or.inr (sRR hw 14 43 rfl rfl rfl))).other W543 (Or.inl ne_r0_b513)).other W548 (Or.inl ne_r0_b532)).other W553 (Or.inl ne_r0_b513)).other W558 (Or.inl ne_r0_b532))
  have c730 := (((((c729.other W563 (Or.inl ne_r0_b513)).other W568 (Or.inl ne_r0_b532)).other W573 (Or.inl ne_r0_b513)).other W578 (Or.inl ne_r0_b532)).other W583 (Or.inl ne_r0_b513))
  have c731 := (((((c730.other W588 (Or.inl ne_r0_b532)).other W593 (Or.inl ne_r0_b513)).other W598 (Or.inl ne_r0_b532)).ext E636).other W644 (Or.inr (sRR hw 14 45 rfl rfl rfl)))
  have c732 := (((((c731.ext E660).other W669 (Or.inr (sRR hw 14 48 rfl rfl rfl))).ext E686).other W695 (Or.inr (sRR hw 14 50 rfl rfl rfl))).ext E714)
  have c733 := (c732.other W724 (Or.inr (sRR hw 14 52 rfl rfl rfl)))
  have c734 := ((((Fw432.ext E435).other W438 (Or.inr (sRR hw 18 23 rfl rfl rfl))).ext E448).other W452 (Or.inr (sRR hw 18 26 rfl rfl rfl)))
  have c735 := (((((c734.ext E463).other W467 (Or.inr (sRR hw 18 28 rfl rfl rfl))).keep K483c (ninS ne_r0_b463 nin0)).ext E495).other W500 (Or.inr (sRR hw 18 39 rfl rfl rfl)))
  have c736 := (((((c735.ext E513).other W518 (Or.inr (sRR hw 18 41 rfl rfl rfl))).ext E532).other W538 (Or.inr (sRR hw 18 43 rfl rfl rfl))).other W543 (Or.inl ne_r0_b513))
  have c737 := (((((c736.other W548 (Or.inl ne_r0_b532)).other W553 (Or.inl ne_r0_b513)).other W558 (Or.inl ne_r0_b532)).other W563 (Or.inl ne_r0_b513)).other W568 (Or.inl ne_r0_b532))
  have c738 := (((((c737.other W573 (Or.inl ne_r0_b513)).other W578 (Or.inl ne_r0_b532)).other W583 (Or.inl ne_r0_b513)).other W588 (Or.inl ne_r0_b532)).other W593 (Or.inl ne_r0_b513))
  have c739 := (((((c738.other W598 (Or.inl ne_r0_b532)).ext E636).other W644 (Or.inr (sRR hw 18 45 rfl rfl rfl))).ext E660).other W669 (Or.inr (sRR hw 18 48 rfl rfl rfl)))
  have c740 := ((((c739.ext E686).other W695 (Or.inr (sRR hw 18 50 rfl rfl rfl))).ext E714).other W724 (Or.inr (sRR hw 18 52 rfl rfl rfl)))
  have c741 := ((((Fw452.ext E463).other W467 (Or.inr (sRR hw 26 28 rfl rfl rfl))).keep K483c (ninS ne_r0_b463 nin0)).ext E495)
  have c742 := (((((c741.other W500 (Or.inr (sRR hw 26 39 rfl rfl rfl))).ext E513).other W518 (Or.inr (sRR hw 26 41 rfl rfl rfl))).ext E532).other W538 (Or.inr (sRR hw 26 43 rfl rfl rfl)))
  have c743 := (((((c742.other W543 (Or.inl ne_r0_b513)).other W548 (Or.inl ne_r0_b532)).other W553 (Or.inl ne_r0_b513)).other W558 (Or.inl ne_r0_b532)).other W563 (Or.inl ne_r0_b513))
  have c744 := (((((c743.other W568 (Or.inl ne_r0_b532)).other W573 (Or.inl ne_r0_b513)).other W578 (Or.inl ne_r0_b532)).other W583 (Or.inl ne_r0_b513)).other W588 (Or.inl ne_r0_b532))
  have c745 := (((((c744.other W593 (Or.inl ne_r0_b513)).other W598 (Or.inl ne_r0_b532)).ext E636).other W644 (Or.inr (sRR hw 26 45 rfl rfl rfl))).ext E660)
  have c746 := (((((c745.other W669 (Or.inr (sRR hw 26 48 rfl rfl rfl))).ext E686).other W695 (Or.inr (sRR hw 26 50 rfl rfl rfl))).ext E714).other W724 (Or.inr (sRR hw 26 52 rfl rfl rfl)))
  have c747 := ((((Fw669.ext E686).other W695 (Or.inr (sRR hw 48 50 rfl rfl rfl))).ext E714).other W724 (Or.inr (sRR hw 48 52 rfl rfl rfl)))
  have c748 := ((Fw695.ext E714).other W724 (Or.inr (sRR hw 50 52 rfl rfl rfl)))
  have c749 := ((((F_listed_r0.other W427 (Or.inr (sLR hw 67 14 rfl rfl rfl))).ext E429).other W432 (Or.inr (sLR hw 67 18 rfl rfl rfl))).ext E435)
  have c750 := (((((c749.other W438 (Or.inr (sLR hw 67 23 rfl rfl rfl))).ext E448).other W452 (Or.inr (sLR hw 67 26 rfl rfl rfl))).ext E463).other W467 (Or.inr (sLR hw 67 28 rfl rfl rfl)))
  have c751 := (((((c750.keep K483c (ninS ne_r0_b463 nin0)).ext E495).other W500 (Or.inr (sLR hw 67 39 rfl rfl rfl))).ext E513).other W518 (Or.inr (sLR hw 67 41 rfl rfl rfl)))
  have c752 := (((((c751.ext E532).other W538 (Or.inr (sLR hw 67 43 rfl rfl rfl))).other W543 (Or.inl ne_r0_b513)).other W548 (Or.inl ne_r0_b532)).other W553 (Or.inl ne_r0_b513))
  have c753 := (((((c752.other W558 (Or.inl ne_r0_b532)).other W563 (Or.inl ne_r0_b513)).other W568 (Or.inl ne_r0_b532)).other W573 (Or.inl ne_r0_b513)).other W578 (Or.inl ne_r0_b532))
  have c754 := (((((c753.other W583 (Or.inl ne_r0_b513)).other W588 (Or.inl ne_r0_b532)).other W593 (Or.inl ne_r0_b513)).other W598 (Or.inl ne_r0_b532)).ext E636)
  have c755 := (((((c754.other W644 (Or.inr (sLR hw 67 45 rfl rfl rfl))).ext E660).other W669 (Or.inr (sLR hw 67 48 rfl rfl rfl))).ext E686).other W695 (Or.inr (sLR hw 67 50 rfl rfl rfl)))
  have c756 := ((c755.ext E714).other W724 (Or.inr (sLR hw 67 52 rfl rfl rfl)))
  have c757 := ((((Fw467.keep K483c (ninS ne_r0_b463 nin0)).ext E495).other W500 (Or.inr (sRR hw 28 39 rfl rfl rfl))).ext E513)
  have c758 := (((((c757.other W518 (Or.inr (sRR hw 28 41 rfl rfl rfl))).ext E532).other W538 (Or.inr (sRR hw 28 43 rfl rfl rfl))).other W543 (Or.inl ne_r0_b513)).other W548 (Or.inl ne_r0_b532))
  have c759 := (((((c758.other W553 (Or.inl ne_r0_b513)).other W558 (Or.inl ne_r0_b532)).other W563 (Or.inl ne_r0_b513)).other W568 (Or.inl ne_r0_b532)).other W573 (Or.inl ne_r0_b513))
  have c760 := (((((c759.other W578 (Or.inl ne_r0_b532)).other W583 (Or.inl ne_r0_b513)).other W588 (Or.inl ne_r0_b532)).other W593 (Or.inl ne_r0_b513)).other W598 (Or.inl ne_r0_b532))
  have c761 := (((((c760.ext E636).other W644 (Or.inr (sRR hw 28 45 rfl rfl rfl))).ext E660).other W669 (Or.inr (sRR hw 28 48 rfl rfl rfl))).ext E686)
  have c762 := (((c761.other W695 (Or.inr (sRR hw 28 50 rfl rfl rfl))).ext E714).other W724 (Or.inr (sRR hw 28 52 rfl rfl rfl)))
  have c763 := ((((c589.other W593 (Or.inl ne_r0_b513)).other W598 (Or.inl ne_r0_b532)).ext E636).other W644 (Or.inr (sRR hw 41 45 rfl rfl rfl)))
  have c764 := (((((c763.ext E660).other W669 (Or.inr (sRR hw 41 48 rfl rfl rfl))).ext E686).other W695 (Or.inr (sRR hw 41 50 rfl rfl rfl))).ext E714)
  have c765 := (c764.other W724 (Or.inr (sRR hw 41 52 rfl rfl rfl)))
  have c766 := ((((c594.other W598 (Or.inl ne_r0_b532)).ext E636).other W644 (Or.inr (sRR hw 43 45 rfl rfl rfl))).ext E660)
  have c767 := (((((c766.other W669 (Or.inr (sRR hw 43 48 rfl rfl rfl))).ext E686).other W695 (Or.inr (sRR hw 43 50 rfl rfl rfl))).ext E714).other W724 (Or.inr (sRR hw 43 52 rfl rfl rfl)))
  have c768 := ((((Fw644.ext E660).other W669 (Or.inr (sRR hw 45 48 rfl rfl rfl))).ext E686).other W695 (Or.inr (sRR hw 45 50 rfl rfl rfl)))
  have c769 := ((c768.ext E714).other W724 (Or.inr (sRR hw 45 52 rfl rfl rfl)))
  have c770 := ((((F_pendingCount_r0.other W427 (Or.inr (sLR hw 77 14 rfl rfl rfl))).ext E429).other W432 (Or.inr (sLR hw 77 18 rfl rfl rfl))).ext E435)
  have c771 := (((((c770.other W438 (Or.inr (sLR hw 77 23 rfl rfl rfl))).ext E448).other W452 (Or.inr (sLR hw 77 26 rfl rfl rfl))).ext E463).other W467 (Or.inr (sLR hw 77 28 rfl rfl rfl)))
  have c772 := (((((c771.keep K483c (ninS ne_r0_b463 nin0)).ext E495).other W500 (Or.inr (sLR hw 77 39 rfl rfl rfl))).ext E513).other W518 (Or.inr (sLR hw 77 41 rfl rfl rfl)))
  have c773 := (((((c772.ext E532).other W538 (Or.inr (sLR hw 77 43 rfl rfl rfl))).other W543 (Or.inl ne_r0_b513)).other W548 (Or.inl ne_r0_b532)).other W553 (Or.inl ne_r0_b513))
  have c774 := (((((c773.other W558 (Or.inl ne_r0_b532)).other W563 (Or.inl ne_r0_b513)).other W568 (Or.inl ne_r0_b532)).other W573 (Or.inl ne_r0_b513)).other W578 (Or.inl ne_r0_b532))
  have c775 := (((((c774.other W583 (Or.inl ne_r0_b513)).other W588 (Or.inl ne_r0_b532)).other W593 (Or.inl ne_r0_b513)).other W598 (Or.inl ne_r0_b532)).ext E636)
  have c776 := (((((c775.other W644 (Or.inr (sLR hw 77 45 rfl rfl rfl))).ext E660).other W669 (Or.inr (sLR hw 77 48 rfl rfl rfl))).ext E686).other W695 (Or.inr (sLR hw 77 50 rfl rfl rfl)))
  have c777 := ((c776.ext E714).other W724 (Or.inr (sLR hw 77 52 rfl rfl rfl)))
  have c778 := ((((F_pendingHead_r0.other W427 (Or.inr (sLR hw 75 14 rfl rfl rfl))).ext E429).other W432 (Or.inr (sLR hw 75 18 rfl rfl rfl))).ext E435)
  have c779 := (((((c778.other W438 (Or.inr (sLR hw 75 23 rfl rfl rfl))).ext E448).other W452 (Or.inr (sLR hw 75 26 rfl rfl rfl))).ext E463).other W467 (Or.inr (sLR hw 75 28 rfl rfl rfl)))
  have c780 := (((((c779.keep K483c (ninS ne_r0_b463 nin0)).ext E495).other W500 (Or.inr (sLR hw 75 39 rfl rfl rfl))).ext E513).other W518 (Or.inr (sLR hw 75 41 rfl rfl rfl)))
  have c781 := (((((c780.ext E532).other W538 (Or.inr (sLR hw 75 43 rfl rfl rfl))).other W543 (Or.inl ne_r0_b513)).other W548 (Or.inl ne_r0_b532)).other W553 (Or.inl ne_r0_b513))
  have c782 := (((((c781.other W558 (Or.inl ne_r0_b532)).other W563 (Or.inl ne_r0_b513)).other W568 (Or.inl ne_r0_b532)).other W573 (Or.inl ne_r0_b513)).other W578 (Or.inl ne_r0_b532))
  have c783 := (((((c782.other W583 (Or.inl ne_r0_b513)).other W588 (Or.inl ne_r0_b532)).other W593 (Or.inl ne_r0_b513)).other W598 (Or.inl ne_r0_b532)).ext E636)
  have c784 := (((((c783.other W644 (Or.inr (sLR hw 75 45 rfl rfl rfl))).ext E660).other W669 (Or.inr (sLR hw 75 48 rfl rfl rfl))).ext E686).other W695 (Or.inr (sLR hw 75 50 rfl rfl rfl)))
  have c785 := ((c784.ext E714).other W724 (Or.inr (sLR hw 75 52 rfl rfl rfl)))
  have c786 := ((((Fw438.ext E448).other W452 (Or.inr (sRR hw 23 26 rfl rfl rfl))).ext E463).other W467 (Or.inr (sRR hw 23 28 rfl rfl rfl)))
  have c787 := (((((c786.keep K483c (ninS ne_r0_b463 nin0)).ext E495).other W500 (Or.inr (sRR hw 23 39 rfl rfl rfl))).ext E513).other W518 (Or.inr (sRR hw 23 41 rfl rfl rfl)))
  have c788 := (((((c787.ext E532).other W538 (Or.inr (sRR hw 23 43 rfl rfl rfl))).other W543 (Or.inl ne_r0_b513)).other W548 (Or.inl ne_r0_b532)).other W553 (Or.inl ne_r0_b513))
  have c789 := (((((c788.other W558 (Or.inl ne_r0_b532)).other W563 (Or.inl ne_r0_b513)).other W568 (Or.inl ne_r0_b532)).other W573 (Or.inl ne_r0_b513)).other W578 (Or.inl ne_r0_b532))
  have c790 := (((((c789.other W583 (Or.inl ne_r0_b513)).other W588 (Or.inl ne_r0_b532)).other W593 (Or.inl ne_r0_b513)).other W598 (Or.inl ne_r0_b532)).ext E636)
  have c791 := (((((c790.other W644 (Or.inr (sRR hw 23 45 rfl rfl rfl))).ext E660).other W669 (Or.inr (sRR hw 23 48 rfl rfl rfl))).ext E686).other W695 (Or.inr (sRR hw 23 50 rfl rfl rfl)))
  have c792 := ((c791.ext E714).other W724 (Or.inr (sRR hw 23 52 rfl rfl rfl)))
  have c793 := ((((Fw500.ext E513).other W518 (Or.inr (sRR hw 39 41 rfl rfl rfl))).ext E532).other W538 (Or.inr (sRR hw 39 43 rfl rfl rfl)))
  have c794 := (((((c793.other W543 (Or.inl ne_r0_b513)).other W548 (Or.inl ne_r0_b532)).other W553 (Or.inl ne_r0_b513)).other W558 (Or.inl ne_r0_b532)).other W563 (Or.inl ne_r0_b513))
  have c795 := (((((c794.other W568 (Or.inl ne_r0_b532)).other W573 (Or.inl ne_r0_b513)).other W578 (Or.inl ne_r0_b532)).other W583 (Or.inl ne_r0_b513)).other W588 (Or.inl ne_r0_b532))
  have c796 := (((((c795.other W593 (Or.inl ne_r0_b513)).other W598 (Or.inl ne_r0_b532)).ext E636).other W644 (Or.inr (sRR hw 39 45 rfl rfl rfl))).ext E660)
  have c797 := (((((c796.other W669 (Or.inr (sRR hw 39 48 rfl rfl rfl))).ext E686).other W695 (Or.inr (sRR hw 39 50 rfl rfl rfl))).ext E714).other W724 (Or.inr (sRR hw 39 52 rfl rfl rfl)))
  have c798 := ((((F_trailSize_r0.other W427 (Or.inr (sLR hw 69 14 rfl rfl rfl))).ext E429).other W432 (Or.inr (sLR hw 69 18 rfl rfl rfl))).ext E435)
  have c799 := (((((c798.other W438 (Or.inr (sLR hw 69 23 rfl rfl rfl))).ext E448).other W452 (Or.inr (sLR hw 69 26 rfl rfl rfl))).ext E463).other W467 (Or.inr (sLR hw 69 28 rfl rfl rfl)))
  have c800 := (((((c799.keep K483c (ninS ne_r0_b463 nin0)).ext E495).other W500 (Or.inr (sLR hw 69 39 rfl rfl rfl))).ext E513).other W518 (Or.inr (sLR hw 69 41 rfl rfl rfl)))
  have c801 := (((((c800.ext E532).other W538 (Or.inr (sLR hw 69 43 rfl rfl rfl))).other W543 (Or.inl ne_r0_b513)).other W548 (Or.inl ne_r0_b532)).other W553 (Or.inl ne_r0_b513))
  have c802 := (((((c801.other W558 (Or.inl ne_r0_b532)).other W563 (Or.inl ne_r0_b513)).other W568 (Or.inl ne_r0_b532)).other W573 (Or.inl ne_r0_b513)).other W578 (Or.inl ne_r0_b532))
  have c803 := (((((c802.other W583 (Or.inl ne_r0_b513)).other W588 (Or.inl ne_r0_b532)).other W593 (Or.inl ne_r0_b513)).other W598 (Or.inl ne_r0_b532)).ext E636)
  have c804 := (((((c803.other W644 (Or.inr (sLR hw 69 45 rfl rfl rfl))).ext E660).other W669 (Or.inr (sLR hw 69 48 rfl rfl rfl))).ext E686).other W695 (Or.inr (sLR hw 69 50 rfl rfl rfl)))
  have c805 := ((c804.ext E714).other W724 (Or.inr (sLR hw 69 52 rfl rfl rfl)))
  have c806 := ((c698.ext E714).other W724 (Ne.symm ne_r0_b429))
  have c807 := ((c699.ext E714).other W724 (Ne.symm ne_r0_b435))
  have c808 := ((c700.ext E714).other W724 (Ne.symm ne_r0_b435r0))
  have c809 := ((c701.ext E714).other W724 (Ne.symm ne_r0_b435r1))
  have c810 := ((c702.ext E714).other W724 (Ne.symm ne_r0_b435r2))
  have c811 := ((c703.ext E714).other W724 (Ne.symm ne_r0_b435r3))
  have c812 := ((c704.ext E714).other W724 (Ne.symm ne_r0_b435r4))
  have c813 := ((c705.ext E714).other W724 (Ne.symm ne_r0_b435r5))
  have c814 := ((c706.ext E714).other W724 (Ne.symm ne_r0_b448))
  have c815 := ((c707.ext E714).other W724 (Ne.symm ne_r0_b463))
  have c816 := ((c708.ext E714).other W724 (Ne.symm ne_r0_b495))
  have c817 := ((c709.ext E714).other W724 (Ne.symm ne_r0_b513))
  have c818 := ((c710.ext E714).other W724 (Ne.symm ne_r0_b532))
  have c819 := ((c711.ext E714).other W724 (Ne.symm ne_r0_b636))
  have c820 := ((c712.ext E714).other W724 (Ne.symm ne_r0_b660))
  have c821 := ((c713.ext E714).other W724 (Ne.symm ne_r0_b686))
  have c822 := (V_b714.other W724 (Ne.symm ne_r0_b714))
  have B823 : EB Z n0 false h724 r0 (fun r => ([b448, b463, b513, b532, b636, b660, b495, b686, b714, b435r0, b435r1, b435r2, b435r3, b435r4, b435r5] : List Addr).getD (iR r) 0) (fun r => ([k448, k463, k513, k532, k636, k660, k495, k686, k714, kc435, kc435, kc435, kc435, kc435, kc435] : List ClassId).getD (iR r) 0) b435 6 M0_6 := by
    refine own_mkEB rfl (by decide) c725 (fun i hi => ?_) ?_ ?_ ?_ ?_ ?_ g_r0 (Ne.symm ne_r0_b435) (by decide)
    · match i, hi with
      | 0, _ => exact own_ari c814 [0, 0, 0, 0, 0, 0] rfl rfl rfl
      | 1, _ => exact own_ari c815 [5, 5, 5, 5, 5, 5] rfl rfl rfl
      | 2, _ => exact own_ari c817 [0, 1, 2, 3, 4, 5] rfl rfl rfl
      | 3, _ => exact own_ari c818 [1, 1, 1, 1, 1, 1] rfl rfl rfl
      | 4, _ => exact own_ari c819 [0, 0, 0, 0, 0, 0] rfl rfl rfl
      | 5, _ => exact own_ari c820 [0, 0, 0, 0, 0, 0] rfl rfl rfl
      | 6, _ => exact own_ariH c816 (List.replicate 66 0) rfl rfl
      | 7, _ => exact own_ari c821 [0, 0, 0, 0, 0, 0, 0] rfl rfl rfl
      | 8, _ => exact own_ari c822 [0, 0, 0, 0, 0, 0, 0, 0, 0, 0, 0, 0, 0, 0, 0, 0, 0, 0, 0, 0, 0, 0, 0, 0, 0, 0, 0, 0, 0, 0] rfl rfl rfl
      | 9, _ => exact own_ari c808 [0, 0, 0, 0, 0, 0] rfl rfl rfl
      | 10, _ => exact own_ari c809 [0, 0, 0, 0, 0, 0] rfl rfl rfl
      | 11, _ => exact own_ari c810 [0, 0, 0, 0, 0, 0] rfl rfl rfl
      | 12, _ => exact own_ari c811 [0, 0, 0, 0, 0, 0] rfl rfl rfl
      | 13, _ => exact own_ari c812 [0, 0, 0, 0, 0, 0] rfl rfl rfl
      | 14, _ => exact own_ari c813 [0, 0, 0, 0, 0, 0] rfl rfl rfl
      | k + 15, h => exact absurd h (by simp)
    · intro p hp
      simp only [frefs, List.mem_cons, List.not_mem_nil, or_false] at hp
      rcases hp with rfl | rfl | rfl | rfl | rfl | rfl | rfl | rfl | rfl | rfl | rfl
      · exact c733
      · exact c792
      · exact c746
      · exact c762
      · exact c765
      · exact c767
      · exact c769
      · exact c747
      · exact c797
      · exact c748
      · exact Fw724
    · intro p hp
      simp only [scal, List.mem_cons, List.not_mem_nil, or_false] at hp
      rcases hp with rfl | rfl | rfl | rfl
      · exact ⟨c805, rfl⟩
      · exact ⟨c756, rfl⟩
      · exact ⟨c785, rfl⟩
      · exact ⟨c777, rfl⟩
    · obtain ⟨c, A1, -, A3, -, A5, -⟩ := c807
      refine ⟨c, A1, by rw [A3]; rfl, fun i hi => ?_⟩
      rw [A5 i hi]
      have hi : i < 6 := by rw [A3] at hi; exact hi
      match i, hi with
      | 0, _ => rfl
      | 1, _ => rfl
      | 2, _ => rfl
      | 3, _ => rfl
      | 4, _ => rfl
      | 5, _ => rfl
    · exact (List.Pairwise.cons (allS ne_b448_b463 (allS ne_b448_b513 (allS ne_b448_b532 (allS ne_b448_b636 (allS ne_b448_b660 (allS ne_b448_b495 (allS ne_b448_b686 (allS ne_b448_b714 (allS (Ne.symm ne_b435r0_b448) (allS (Ne.symm ne_b435r1_b448) (allS (Ne.symm ne_b435r2_b448) (allS (Ne.symm ne_b435r3_b448) (allS (Ne.symm ne_b435r4_b448) (allS (Ne.symm ne_b435r5_b448) all0)))))))))))))) (List.Pairwise.cons (allS ne_b463_b513 (allS ne_b463_b532 (allS ne_b463_b636 (allS ne_b463_b660 (allS ne_b463_b495 (allS ne_b463_b686 (allS ne_b463_b714 (allS (Ne.symm ne_b435r0_b463) (allS (Ne.symm ne_b435r1_b463) (allS (Ne.symm ne_b435r2_b463) (allS (Ne.symm ne_b435r3_b463) (allS (Ne.symm ne_b435r4_b463) (allS (Ne.symm ne_b435r5_b463) all0))))))))))))) (List.Pairwise.cons (allS ne_b513_b532 (allS ne_b513_b636 (allS ne_b513_b660 (allS (Ne.symm ne_b495_b513) (allS ne_b513_b686 (allS ne_b513_b714 (allS (Ne.symm ne_b435r0_b513) (allS (Ne.symm ne_b435r1_b513) (allS (Ne.symm ne_b435r2_b513) (allS (Ne.symm ne_b435r3_b513) (allS (Ne.symm ne_b435r4_b513) (allS (Ne.symm ne_b435r5_b513) all0)))))))))))) (List.Pairwise.cons (allS ne_b532_b636 (allS ne_b532_b660 (allS (Ne.symm ne_b495_b532) (allS ne_b532_b686 (allS ne_b532_b714 (allS (Ne.symm ne_b435r0_b532) (allS (Ne.symm ne_b435r1_b532) (allS (Ne.symm ne_b435r2_b532) (allS (Ne.symm ne_b435r3_b532) (allS (Ne.symm ne_b435r4_b532) (allS (Ne.symm ne_b435r5_b532) all0))))))))))) (List.Pairwise.cons (allS ne_b636_b660 (allS (Ne.symm ne_b495_b636) (allS ne_b636_b686 (allS ne_b636_b714 (allS (Ne.symm ne_b435r0_b636) (allS (Ne.symm ne_b435r1_b636) (allS (Ne.symm ne_b435r2_b636) (allS (Ne.symm ne_b435r3_b636) (allS (Ne.symm ne_b435r4_b636) (allS (Ne.symm ne_b435r5_b636) all0)))))))))) (List.Pairwise.cons (allS (Ne.symm ne_b495_b660) (allS ne_b660_b686 (allS ne_b660_b714 (allS (Ne.symm ne_b435r0_b660) (allS (Ne.symm ne_b435r1_b660) (allS (Ne.symm ne_b435r2_b660) (allS (Ne.symm ne_b435r3_b660) (allS (Ne.symm ne_b435r4_b660) (allS (Ne.symm ne_b435r5_b660) all0))))))))) (List.Pairwise.cons (allS ne_b495_b686 (allS ne_b495_b714 (allS (Ne.symm ne_b435r0_b495) (allS (Ne.symm ne_b435r1_b495) (allS (Ne.symm ne_b435r2_b495) (allS (Ne.symm ne_b435r3_b495) (allS (Ne.symm ne_b435r4_b495) (allS (Ne.symm ne_b435r5_b495) all0)))))))) (List.Pairwise.cons (allS ne_b686_b714 (allS (Ne.symm ne_b435r0_b686) (allS (Ne.symm ne_b435r1_b686) (allS (Ne.symm ne_b435r2_b686) (allS (Ne.symm ne_b435r3_b686) (allS (Ne.symm ne_b435r4_b686) (allS (Ne.symm ne_b435r5_b686) all0))))))) (List.Pairwise.cons (allS (Ne.symm ne_b435r0_b714) (allS (Ne.symm ne_b435r1_b714) (allS (Ne.symm ne_b435r2_b714) (allS (Ne.symm ne_b435r3_b714) (allS (Ne.symm ne_b435r4_b714) (allS (Ne.symm ne_b435r5_b714) all0)))))) (List.Pairwise.cons (allS ne_b435r0_b435r1 (allS ne_b435r0_b435r2 (allS ne_b435r0_b435r3 (allS ne_b435r0_b435r4 (allS ne_b435r0_b435r5 all0))))) (List.Pairwise.cons (allS ne_b435r1_b435r2 (allS ne_b435r1_b435r3 (allS ne_b435r1_b435r4 (allS ne_b435r1_b435r5 all0)))) (List.Pairwise.cons (allS ne_b435r2_b435r3 (allS ne_b435r2_b435r4 (allS ne_b435r2_b435r5 all0))) (List.Pairwise.cons (allS ne_b435r3_b435r4 (allS ne_b435r3_b435r5 all0)) (List.Pairwise.cons (allS ne_b435r4_b435r5 all0) (List.Pairwise.cons all0 List.Pairwise.nil)))))))))))))))
    · exact (allS ⟨(Ne.symm ne_r0_b448), (Ne.symm ne_b435_b448), g_b448⟩ (allS ⟨(Ne.symm ne_r0_b463), (Ne.symm ne_b435_b463), g_b463⟩ (allS ⟨(Ne.symm ne_r0_b513), (Ne.symm ne_b435_b513), g_b513⟩ (allS ⟨(Ne.symm ne_r0_b532), (Ne.symm ne_b435_b532), g_b532⟩ (allS ⟨(Ne.symm ne_r0_b636), (Ne.symm ne_b435_b636), g_b636⟩ (allS ⟨(Ne.symm ne_r0_b660), (Ne.symm ne_b435_b660), g_b660⟩ (allS ⟨(Ne.symm ne_r0_b495), (Ne.symm ne_b435_b495), g_b495⟩ (allS ⟨(Ne.symm ne_r0_b686), (Ne.symm ne_b435_b686), g_b686⟩ (allS ⟨(Ne.symm ne_r0_b714), (Ne.symm ne_b435_b714), g_b714⟩ (allS ⟨(Ne.symm ne_r0_b435r0), (Ne.symm ne_b435_b435r0), g_b435r0⟩ (allS ⟨(Ne.symm ne_r0_b435r1), (Ne.symm ne_b435_b435r1), g_b435r1⟩ (allS ⟨(Ne.symm ne_r0_b435r2), (Ne.symm ne_b435_b435r2), g_b435r2⟩ (allS ⟨(Ne.symm ne_r0_b435r3), (Ne.symm ne_b435_b435r3), g_b435r3⟩ (allS ⟨(Ne.symm ne_r0_b435r4), (Ne.symm ne_b435_b435r4), g_b435r4⟩ (allS ⟨(Ne.symm ne_r0_b435r5), (Ne.symm ne_b435_b435r5), g_b435r5⟩ all0)))))))))))))))
  generalize hA823 : (fun r => ([b448, b463, b513, b532, b636, b660, b495, b686, b714, b435r0, b435r1, b435r2, b435r3, b435r4, b435r5] : List Addr).getD (iR r) 0) = A at B823
  generalize hK823 : (fun r => ([k448, k463, k513, k532, k636, k660, k495, k686, k714, kc435, kc435, kc435, kc435, kc435, kc435] : List ClassId).getD (iR r) 0) = K at B823
  obtain ⟨fs, hr, hrun, hended, hW, hsame⟩ := X724.leave (v := none) (fun _ => rfl) (BodyLoose.notSynchronized Bd)
  refine ⟨_, _, pre0 _ ?_, hrun, hended, _, _, rfl, ?_, ⟨_, rfl⟩, hW, hsame.mono (by decide) (by decide)⟩
  · show Sp p e below s₁ (mkF m 0 (lt17 r0 6) []) _
    refine XS.aloadN X0.here hx rfl (hb hby d2_0) rfl rfl ?_
    show Sp p e below s₁ (mkF m 1 (lt17 r0 6) [(.ref r0)]) _
    refine st426 _ ?_
    show Sp p e below T426 (mkF m 4 (lt17 r0 6) []) _
    refine XS.aloadN X426.here hx rfl (hb hby d2_4) rfl rfl ?_
    refine XS.iloadN X426.here hx rfl (hb hby d2_5) rfl ?_
    show Sp p e below T426 (mkF m 6 (lt17 r0 6) [(.int 6), (.ref r0)]) _
    refine st427 _ ?_
    show Sp p e below T427 (mkF m 9 (lt17 r0 6) []) _
    refine XS.aloadN X427.here hx rfl (hb hby d2_9) rfl rfl ?_
    refine XS.aloadN X427.here hx rfl (hb hby d2_10) rfl rfl ?_
    show Sp p e below T427 (mkF m 11 (lt17 r0 6) [.null, (.ref r0)]) _
    refine XS.ifnonnullNo X427.here hx rfl (hb hby d2_11) rfl ?_
    show Sp p e below T427 (mkF m 14 (lt17 r0 6) [(.ref r0)]) _
    refine XS.iconst X427.here hx rfl (hb hby d2_14) ?_
    show Sp p e below T427 (mkF m 15 (lt17 r0 6) [(.int 0), (.ref r0)]) _
    refine st429 _ ?_
    show Sp p e below T429 (mkF m 18 (lt17 r0 6) [(.ref b429), (.ref r0)]) _
    refine XS.goto X429.here hx rfl (pc0 := 18) (pc' := 25) rfl (hb hby d2_18) (by decide) (by decide) ?_
    show Sp p e below T429 (mkF m 25 (lt17 r0 6) [(.ref b429), (.ref r0)]) _
    refine st432 _ ?_
    show Sp p e below T432 (mkF m 28 (lt17 r0 6) []) _
    refine XS.aloadN X432.here hx rfl (hb hby d2_28) rfl rfl ?_
    refine XS.iloadN X432.here hx rfl (hb hby d2_29) rfl ?_
    show Sp p e below T432 (mkF m 30 (lt17 r0 6) [(.int 6), (.ref r0)]) _
    refine XS.iloadN X432.here hx rfl (hb hby d2_30) rfl ?_
    show Sp p e below T432 (mkF m 31 (lt17 r0 6) [(.int 6), (.int 6), (.ref r0)]) _
    refine st435 _ ?_
    show Sp p e below T435 (mkF m 35 (lt17 r0 6) [(.ref b435), (.ref r0)]) _
    refine st438 _ ?_
    show Sp p e below T438 (mkF m 38 (lt17 r0 6) []) _
    refine XS.aloadN X438.here hx rfl (hb hby d2_38) rfl rfl ?_
    refine XS.iloadN X438.here hx rfl (hb hby d2_39) rfl ?_
    show Sp p e below T438 (mkF m 40 (lt17 r0 6) [(.int 6), (.ref r0)]) _
    refine st448 _ ?_
    show Sp p e below T448 (mkF m 42 (lt17 r0 6) [(.ref b448), (.ref r0)]) _
    refine st452 _ ?_
    show Sp p e below T452 (mkF m 45 (lt17 r0 6) []) _
    refine XS.aloadN X452.here hx rfl (hb hby d2_45) rfl rfl ?_
    refine XS.iloadN X452.here hx rfl (hb hby d2_46) rfl ?_
    show Sp p e below T452 (mkF m 47 (lt17 r0 6) [(.int 6), (.ref r0)]) _
    refine st463 _ ?_
    show Sp p e below T463 (mkF m 49 (lt17 r0 6) [(.ref b463), (.ref r0)]) _
    refine st467 _ ?_
    show Sp p e below T467 (mkF m 52 (lt17 r0 6) []) _
    refine XS.aloadN X467.here hx rfl (hb hby d2_52) rfl rfl ?_
    show Sp p e below T467 (mkF m 53 (lt17 r0 6) [(.ref r0)]) _
    refine st468 _ ?_
    show Sp p e below T468 (mkF m 56 (lt17 r0 6) [(.ref b463)]) _
    refine XS.iloadN X468.here hx rfl (hb hby d2_56) rfl ?_
    refine XS.iconst X468.here hx rfl (hb hby d2_57) ?_
    show Sp p e below T468 (mkF m 58 (lt17 r0 6) [(.int 1), (.int 6), (.ref b463)]) _
    refine XS.isub X468.here hx rfl (hb hby d2_58) rfl ?_
    show Sp p e below T468 (mkF m 59 (lt17 r0 6) [(.int ((6 : Int32) - 1)), (.ref b463)]) _
    refine st483 _ ?_
    show Sp p e below T483 (mkF m 62 (lt17 r0 6) []) _
    refine XS.iloadN X483.here hx rfl (hb hby d2_62) rfl ?_
    refine XS.i2l X483.here hx rfl (hb hby d2_63) rfl ?_
    show Sp p e below T483 (mkF m 64 (lt17 r0 6) [(.long ((6 : Int32).toInt64))]) _
    refine XS.iloadN X483.here hx rfl (hb hby d2_64) rfl ?_
    refine XS.iconst X483.here hx rfl (hb hby d2_65) ?_
    show Sp p e below T483 (mkF m 66 (lt17 r0 6) [(.int 1), (.int 6), (.long ((6 : Int32).toInt64))]) _
    refine XS.isub X483.here hx rfl (hb hby d2_66) rfl ?_
    refine XS.i2l X483.here hx rfl (hb hby d2_67) rfl ?_
    show Sp p e below T483 (mkF m 68 (lt17 r0 6) [(.long (((6 : Int32) - 1).toInt64)), (.long ((6 : Int32).toInt64))]) _
    refine XS.lmul X483.here hx rfl (hb hby d2_68) rfl ?_
    refine XS.lstoreN X483.here hx rfl (hb hby d2_69) rfl (l' := (lt21 r0 6 kA6)) rfl ?_
    show Sp p e below T483 (mkF m 70 (lt21 r0 6 kA6) []) _
    refine XS.aloadN X483.here hx rfl (hb hby d2_70) rfl rfl ?_
    show Sp p e below T483 (mkF m 71 (lt21 r0 6 kA6) [.null]) _
    refine XS.ifnullYes X483.here hx rfl (pc0 := 71) (pc' := 168) rfl (hb hby d2_71) rfl (by decide) (by decide) ?_
    show Sp p e below T483 (mkF m 168 (lt21 r0 6 kA6) []) _
    refine XS.aloadN X483.here hx rfl (hb hby d2_168) rfl rfl ?_
    refine XS.lloadN X483.here hx rfl (hb hby d2_169) rfl ?_
    show Sp p e below T483 (mkF m 170 (lt21 r0 6 kA6) [(.long kA6), (.ref r0)]) _
    refine X483.ldc2Long hx hown (mvT hZ (hw _ (tk 33 rfl))) (g := (mkF m 170 (lt21 r0 6 kA6) [(.long kA6), (.ref r0)])) rfl (hb hby d2_170) _ ?_
    show Sp p e below T483 (mkF m 173 (lt21 r0 6 kA6) [(.long (6 : Int64)), (.long kA6), (.ref r0)]) _
    refine XS.iloadN X483.here hx rfl (hb hby d2_173) rfl ?_
    refine XS.i2l X483.here hx rfl (hb hby d2_174) rfl ?_
    show Sp p e below T483 (mkF m 175 (lt21 r0 6 kA6) [(.long ((6 : Int32).toInt64)), (.long (6 : Int64)), (.long kA6), (.ref r0)]) _
    refine XS.lmul X483.here hx rfl (hb hby d2_175) rfl ?_
    refine XS.ladd X483.here hx rfl (hb hby d2_176) rfl ?_
    show Sp p e below T483 (mkF m 177 (lt21 r0 6 kA6) [(.long kE6), (.ref r0)]) _
    refine st484 _ ?_
    show Sp p e below T484 (mkF m 180 (lt21 r0 6 kA6) [(.int (kE6.toInt32)), (.ref r0)]) _
    refine st495 _ ?_
    show Sp p e below T495 (mkF m 182 (lt21 r0 6 kA6) [(.ref b495), (.ref r0)]) _
    refine st500 _ ?_
    show Sp p e below T500 (mkF m 185 (lt21 r0 6 kA6) []) _
    refine XS.aloadN X500.here hx rfl (hb hby d2_185) rfl rfl ?_
    refine XS.iloadN X500.here hx rfl (hb hby d2_186) rfl ?_
    show Sp p e below T500 (mkF m 187 (lt21 r0 6 kA6) [(.int 6), (.ref r0)]) _
    refine st513 _ ?_
    show Sp p e below T513 (mkF m 189 (lt21 r0 6 kA6) [(.ref b513), (.ref r0)]) _
    refine st518 _ ?_
    show Sp p e below T518 (mkF m 192 (lt21 r0 6 kA6) []) _
    refine XS.aloadN X518.here hx rfl (hb hby d2_192) rfl rfl ?_
    refine XS.iloadN X518.here hx rfl (hb hby d2_193) rfl ?_
    show Sp p e below T518 (mkF m 194 (lt21 r0 6 kA6) [(.int 6), (.ref r0)]) _
    refine st532 _ ?_
    show Sp p e below T532 (mkF m 196 (lt21 r0 6 kA6) [(.ref b532), (.ref r0)]) _
    refine st538 _ ?_
    show Sp p e below T538 (mkF m 199 (lt21 r0 6 kA6) []) _
    refine XS.iconst X538.here hx rfl (hb hby d2_199) ?_
    refine XS.istore X538.here hx rfl (hb hby d2_200) rfl (l' := (lt23 r0 6 kA6 0)) rfl ?_
    show Sp p e below T538 (mkF m 202 (lt23 r0 6 kA6 0) []) _
    refine XS.iload X538.here hx rfl (hb hby d2_202) rfl ?_
    refine XS.iloadN X538.here hx rfl (hb hby d2_204) rfl ?_
    show Sp p e below T538 (mkF m 205 (lt23 r0 6 kA6 0) [(.int 6), (.int 0)]) _
    refine XS.icmpNo X538.here hx rfl (hb hby d2_205) rfl (tlt (by decide : ((0 : Int32) < (6 : Int32)))).2.1 ?_
    show Sp p e below T538 (mkF m 208 (lt23 r0 6 kA6 0) []) _
    refine XS.aloadN X538.here hx rfl (hb hby d2_208) rfl rfl ?_
    show Sp p e below T538 (mkF m 209 (lt23 r0 6 kA6 0) [(.ref r0)]) _
    refine st540 _ ?_
    show Sp p e below T540 (mkF m 212 (lt23 r0 6 kA6 0) [(.ref b513)]) _
    refine XS.iload X540.here hx rfl (hb hby d2_212) rfl ?_
    refine XS.iload X540.here hx rfl (hb hby d2_214) rfl ?_
    show Sp p e below T540 (mkF m 216 (lt23 r0 6 kA6 0) [(.int 0), (.int 0), (.ref b513)]) _
    refine st543 _ ?_
    show Sp p e below T543 (mkF m 217 (lt23 r0 6 kA6 0) []) _
    refine XS.aloadN X543.here hx rfl (hb hby d2_217) rfl rfl ?_
    show Sp p e below T543 (mkF m 218 (lt23 r0 6 kA6 0) [(.ref r0)]) _
    refine st545 _ ?_
    show Sp p e below T545 (mkF m 221 (lt23 r0 6 kA6 0) [(.ref b532)]) _
    refine XS.iload X545.here hx rfl (hb hby d2_221) rfl ?_
    refine XS.iconst X545.here hx rfl (hb hby d2_223) ?_
    show Sp p e below T545 (mkF m 224 (lt23 r0 6 kA6 0) [(.int 1), (.int 0), (.ref b532)]) _
    refine st548 _ ?_
    show Sp p e below T548 (mkF m 225 (lt23 r0 6 kA6 0) []) _
    refine XS.iinc X548.here hx rfl (hb hby d2_225) rfl (l' := (lt23 r0 6 kA6 ((0 : Int32) + 1))) rfl ?_
    show Sp p e below T548 (mkF m 228 (lt23 r0 6 kA6 ((0 : Int32) + 1)) []) _
    refine XS.goto X548.here hx rfl (pc0 := 228) (pc' := 202) rfl (hb hby d2_228) (by decide) (by decide) ?_
    show Sp p e below T548 (mkF m 202 (lt23 r0 6 kA6 ((0 : Int32) + 1)) []) _
    refine XS.iload X548.here hx rfl (hb hby d2_202) rfl ?_
    refine XS.iloadN X548.here hx rfl (hb hby d2_204) rfl ?_
    show Sp p e below T548 (mkF m 205 (lt23 r0 6 kA6 ((0 : Int32) + 1)) [(.int 6), (.int ((0 : Int32) + 1))]) _
    refine XS.icmpNo X548.here hx rfl (hb hby d2_205) rfl (tlt (by decide : (((0 : Int32) + 1) < (6 : Int32)))).2.1 ?_
    show Sp p e below T548 (mkF m 208 (lt23 r0 6 kA6 ((0 : Int32) + 1)) []) _
    refine XS.aloadN X548.here hx rfl (hb hby d2_208) rfl rfl ?_
    show Sp p e below T548 (mkF m 209 (lt23 r0 6 kA6 ((0 : Int32) + 1)) [(.ref r0)]) _
    refine st550 _ ?_
    show Sp p e below T550 (mkF m 212 (lt23 r0 6 kA6 ((0 : Int32) + 1)) [(.ref b513)]) _
    refine XS.iload X550.here hx rfl (hb hby d2_212) rfl ?_
    refine XS.iload X550.here hx rfl (hb hby d2_214) rfl ?_
    show Sp p e below T550 (mkF m 216 (lt23 r0 6 kA6 ((0 : Int32) + 1)) [(.int ((0 : Int32) + 1)), (.int ((0 : Int32) + 1)), (.ref b513)]) _
    refine st553 _ ?_
    show Sp p e below T553 (mkF m 217 (lt23 r0 6 kA6 ((0 : Int32) + 1)) []) _
    refine XS.aloadN X553.here hx rfl (hb hby d2_217) rfl rfl ?_
    show Sp p e below T553 (mkF m 218 (lt23 r0 6 kA6 ((0 : Int32) + 1)) [(.ref r0)]) _
    refine st555 _ ?_
    show Sp p e below T555 (mkF m 221 (lt23 r0 6 kA6 ((0 : Int32) + 1)) [(.ref b532)]) _
    refine XS.iload X555.here hx rfl (hb hby d2_221) rfl ?_
    refine XS.iconst X555.here hx rfl (hb hby d2_223) ?_
    show Sp p e below T555 (mkF m 224 (lt23 r0 6 kA6 ((0 : Int32) + 1)) [(.int 1), (.int ((0 : Int32) + 1)), (.ref b532)]) _
    refine st558 _ ?_
    show Sp p e below T558 (mkF m 225 (lt23 r0 6 kA6 ((0 : Int32) + 1)) []) _
    refine XS.iinc X558.here hx rfl (hb hby d2_225) rfl (l' := (lt23 r0 6 kA6 (((0 : Int32) + 1) + 1))) rfl ?_
    show Sp p e below T558 (mkF m 228 (lt23 r0 6 kA6 (((0 : Int32) + 1) + 1)) []) _
    refine XS.goto X558.here hx rfl (pc0 := 228) (pc' := 202) rfl (hb hby d2_228) (by decide) (by decide) ?_
    show Sp p e below T558 (mkF m 202 (lt23 r0 6 kA6 (((0 : Int32) + 1) + 1)) []) _
    refine XS.iload X558.here hx rfl (hb hby d2_202) rfl ?_
    refine XS.iloadN X558.here hx rfl (hb hby d2_204) rfl ?_
    show Sp p e below T558 (mkF m 205 (lt23 r0 6 kA6 (((0 : Int32) + 1) + 1)) [(.int 6), (.int (((0 : Int32) + 1) + 1))]) _
    refine XS.icmpNo X558.here hx rfl (hb hby d2_205) rfl (tlt (by decide : ((((0 : Int32) + 1) + 1) < (6 : Int32)))).2.1 ?_
    show Sp p e below T558 (mkF m 208 (lt23 r0 6 kA6 (((0 : Int32) + 1) + 1)) []) _
    refine XS.aloadN X558.here hx rfl (hb hby d2_208) rfl rfl ?_
    show Sp p e below T558 (mkF m 209 (lt23 r0 6 kA6 (((0 : Int32) + 1) + 1)) [(.ref r0)]) _
    refine st560 _ ?_
    show Sp p e below T560 (mkF m 212 (lt23 r0 6 kA6 (((0 : Int32) + 1) + 1)) [(.ref b513)]) _
    refine XS.iload X560.here hx rfl (hb hby d2_212) rfl ?_
    refine XS.iload X560.here hx rfl (hb hby d2_214) rfl ?_
    show Sp p e below T560 (mkF m 216 (lt23 r0 6 kA6 (((0 : Int32) + 1) + 1)) [(.int (((0 : Int32) + 1) + 1)), (.int (((0 : Int32) + 1) + 1)), (.ref b513)]) _
    refine st563 _ ?_
    show Sp p e below T563 (mkF m 217 (lt23 r0 6 kA6 (((0 : Int32) + 1) + 1)) []) _
    refine XS.aloadN X563.here hx rfl (hb hby d2_217) rfl rfl ?_
    show Sp p e below T563 (mkF m 218 (lt23 r0 6 kA6 (((0 : Int32) + 1) + 1)) [(.ref r0)]) _
    refine st565 _ ?_
    show Sp p e below T565 (mkF m 221 (lt23 r0 6 kA6 (((0 : Int32) + 1) + 1)) [(.ref b532)]) _
    refine XS.iload X565.here hx rfl (hb hby d2_221) rfl ?_
    refine XS.iconst X565.here hx rfl (hb hby d2_223) ?_
    show Sp p e below T565 (mkF m 224 (lt23 r0 6 kA6 (((0 : Int32) + 1) + 1)) [(.int 1), (.int (((0 : Int32) + 1) + 1)), (.ref b532)]) _
    refine st568 _ ?_
    show Sp p e below T568 (mkF m 225 (lt23 r0 6 kA6 (((0 : Int32) + 1) + 1)) []) _
    refine XS.iinc X568.here hx rfl (hb hby d2_225) rfl (l' := (lt23 r0 6 kA6 ((((0 : Int32) + 1) + 1) + 1))) rfl ?_
    show Sp p e below T568 (mkF m 228 (lt23 r0 6 kA6 ((((0 : Int32) + 1) + 1) + 1)) []) _
    refine XS.goto X568.here hx rfl (pc0 := 228) (pc' := 202) rfl (hb hby d2_228) (by decide) (by decide) ?_
    show Sp p e below T568 (mkF m 202 (lt23 r0 6 kA6 ((((0 : Int32) + 1) + 1) + 1)) []) _
    refine XS.iload X568.here hx rfl (hb hby d2_202) rfl ?_
    refine XS.iloadN X568.here hx rfl (hb hby d2_204) rfl ?_
    show Sp p e below T568 (mkF m 205 (lt23 r0 6 kA6 ((((0 : Int32) + 1) + 1) + 1)) [(.int 6), (.int ((((0 : Int32) + 1) + 1) + 1))]) _
    refine XS.icmpNo X568.here hx rfl (hb hby d2_205) rfl (tlt (by decide : (((((0 : Int32) + 1) + 1) + 1) < (6 : Int32)))).2.1 ?_
    show Sp p e below T568 (mkF m 208 (lt23 r0 6 kA6 ((((0 : Int32) + 1) + 1) + 1)) []) _
    refine XS.aloadN X568.here hx rfl (hb hby d2_208) rfl rfl ?_
    show Sp p e below T568 (mkF m 209 (lt23 r0 6 kA6 ((((0 : Int32) + 1) + 1) + 1)) [(.ref r0)]) _
    refine st570 _ ?_
    show Sp p e below T570 (mkF m 212 (lt23 r0 6 kA6 ((((0 : Int32) + 1) + 1) + 1)) [(.ref b513)]) _
    refine XS.iload X570.here hx rfl (hb hby d2_212) rfl ?_
    refine XS.iload X570.here hx rfl (hb hby d2_214) rfl ?_
    show Sp p e below T570 (mkF m 216 (lt23 r0 6 kA6 ((((0 : Int32) + 1) + 1) + 1)) [(.int ((((0 : Int32) + 1) + 1) + 1)), (.int ((((0 : Int32) + 1) + 1) + 1)), (.ref b513)]) _
    refine st573 _ ?_
    show Sp p e below T573 (mkF m 217 (lt23 r0 6 kA6 ((((0 : Int32) + 1) + 1) + 1)) []) _
    refine XS.aloadN X573.here hx rfl (hb hby d2_217) rfl rfl ?_
    show Sp p e below T573 (mkF m 218 (lt23 r0 6 kA6 ((((0 : Int32) + 1) + 1) + 1)) [(.ref r0)]) _
    refine st575 _ ?_
    show Sp p e below T575 (mkF m 221 (lt23 r0 6 kA6 ((((0 : Int32) + 1) + 1) + 1)) [(.ref b532)]) _
    refine XS.iload X575.here hx rfl (hb hby d2_221) rfl ?_
    refine XS.iconst X575.here hx rfl (hb hby d2_223) ?_
    show Sp p e below T575 (mkF m 224 (lt23 r0 6 kA6 ((((0 : Int32) + 1) + 1) + 1)) [(.int 1), (.int ((((0 : Int32) + 1) + 1) + 1)), (.ref b532)]) _
    refine st578 _ ?_
    show Sp p e below T578 (mkF m 225 (lt23 r0 6 kA6 ((((0 : Int32) + 1) + 1) + 1)) []) _
    refine XS.iinc X578.here hx rfl (hb hby d2_225) rfl (l' := (lt23 r0 6 kA6 (((((0 : Int32) + 1) + 1) + 1) + 1))) rfl ?_
    show Sp p e below T578 (mkF m 228 (lt23 r0 6 kA6 (((((0 : Int32) + 1) + 1) + 1) + 1)) []) _
    refine XS.goto X578.here hx rfl (pc0 := 228) (pc' := 202) rfl (hb hby d2_228) (by decide) (by decide) ?_
    show Sp p e below T578 (mkF m 202 (lt23 r0 6 kA6 (((((0 : Int32) + 1) + 1) + 1) + 1)) []) _
    refine XS.iload X578.here hx rfl (hb hby d2_202) rfl ?_
    refine XS.iloadN X578.here hx rfl (hb hby d2_204) rfl ?_
    show Sp p e below T578 (mkF m 205 (lt23 r0 6 kA6 (((((0 : Int32) + 1) + 1) + 1) + 1)) [(.int 6), (.int (((((0 : Int32) + 1) + 1) + 1) + 1))]) _
    refine XS.icmpNo X578.here hx rfl (hb hby d2_205) rfl (tlt (by decide : ((((((0 : Int32) + 1) + 1) + 1) + 1) < (6 : Int32)))).2.1 ?_
    show Sp p e below T578 (mkF m 208 (lt23 r0 6 kA6 (((((0 : Int32) + 1) + 1) + 1) + 1)) []) _
    refine XS.aloadN X578.here hx rfl (hb hby d2_208) rfl rfl ?_
    show Sp p e below T578 (mkF m 209 (lt23 r0 6 kA6 (((((0 : Int32) + 1) + 1) + 1) + 1)) [(.ref r0)]) _
    refine st580 _ ?_
    show Sp p e below T580 (mkF m 212 (lt23 r0 6 kA6 (((((0 : Int32) + 1) + 1) + 1) + 1)) [(.ref b513)]) _
    refine XS.iload X580.here hx rfl (hb hby d2_212) rfl ?_
    refine XS.iload X580.here hx rfl (hb hby d2_214) rfl ?_
    show Sp p e below T580 (mkF m 216 (lt23 r0 6 kA6 (((((0 : Int32) + 1) + 1) + 1) + 1)) [(.int (((((0 : Int32) + 1) + 1) + 1) + 1)), (.int (((((0 : Int32) + 1) + 1) + 1) + 1)), (.ref b513)]) _
    refine st583 _ ?_
    show Sp p e below T583 (mkF m 217 (lt23 r0 6 kA6 (((((0 : Int32) + 1) + 1) + 1) + 1)) []) _
    refine XS.aloadN X583.here hx rfl (hb hby d2_217) rfl rfl ?_
    show Sp p e below T583 (mkF m 218 (lt23 r0 6 kA6 (((((0 : Int32) + 1) + 1) + 1) + 1)) [(.ref r0)]) _
    refine st585 _ ?_
    show Sp p e below T585 (mkF m 221 (lt23 r0 6 kA6 (((((0 : Int32) + 1) + 1) + 1) + 1)) [(.ref b532)]) _
    refine XS.iload X585.here hx rfl (hb hby d2_221) rfl ?_
    refine XS.iconst X585.here hx rfl (hb hby d2_223) ?_
    show Sp p e below T585 (mkF m 224 (lt23 r0 6 kA6 (((((0 : Int32) + 1) + 1) + 1) + 1)) [(.int 1), (.int (((((0 : Int32) + 1) + 1) + 1) + 1)), (.ref b532)]) _
    refine st588 _ ?_
    show Sp p e below T588 (mkF m 225 (lt23 r0 6 kA6 (((((0 : Int32) + 1) + 1) + 1) + 1)) []) _
    refine XS.iinc X588.here hx rfl (hb hby d2_225) rfl (l' := (lt23 r0 6 kA6 ((((((0 : Int32) + 1) + 1) + 1) + 1) + 1))) rfl ?_
    show Sp p e below T588 (mkF m 228 (lt23 r0 6 kA6 ((((((0 : Int32) + 1) + 1) + 1) + 1) + 1)) []) _
    refine XS.goto X588.here hx rfl (pc0 := 228) (pc' := 202) rfl (hb hby d2_228) (by decide) (by decide) ?_
    show Sp p e below T588 (mkF m 202 (lt23 r0 6 kA6 ((((((0 : Int32) + 1) + 1) + 1) + 1) + 1)) []) _
    refine XS.iload X588.here hx rfl (hb hby d2_202) rfl ?_
    refine XS.iloadN X588.here hx rfl (hb hby d2_204) rfl ?_
    show Sp p e below T588 (mkF m 205 (lt23 r0 6 kA6 ((((((0 : Int32) + 1) + 1) + 1) + 1) + 1)) [(.int 6), (.int ((((((0 : Int32) + 1) + 1) + 1) + 1) + 1))]) _
    refine XS.icmpNo X588.here hx rfl (hb hby d2_205) rfl (tlt (by decide : (((((((0 : Int32) + 1) + 1) + 1) + 1) + 1) < (6 : Int32)))).2.1 ?_
    show Sp p e below T588 (mkF m 208 (lt23 r0 6 kA6 ((((((0 : Int32) + 1) + 1) + 1) + 1) + 1)) []) _
    refine XS.aloadN X588.here hx rfl (hb hby d2_208) rfl rfl ?_
    show Sp p e below T588 (mkF m 209 (lt23 r0 6 kA6 ((((((0 : Int32) + 1) + 1) + 1) + 1) + 1)) [(.ref r0)]) _
    refine st590 _ ?_
    show Sp p e below T590 (mkF m 212 (lt23 r0 6 kA6 ((((((0 : Int32) + 1) + 1) + 1) + 1) + 1)) [(.ref b513)]) _
    refine XS.iload X590.here hx rfl (hb hby d2_212) rfl ?_
    refine XS.iload X590.here hx rfl (hb hby d2_214) rfl ?_
    show Sp p e below T590 (mkF m 216 (lt23 r0 6 kA6 ((((((0 : Int32) + 1) + 1) + 1) + 1) + 1)) [(.int ((((((0 : Int32) + 1) + 1) + 1) + 1) + 1)), (.int ((((((0 : Int32) + 1) + 1) + 1) + 1) + 1)), (.ref b513)]) _
    refine st593 _ ?_
    show Sp p e below T593 (mkF m 217 (lt23 r0 6 kA6 ((((((0 : Int32) + 1) + 1) + 1) + 1) + 1)) []) _
    refine XS.aloadN X593.here hx rfl (hb hby d2_217) rfl rfl ?_
    show Sp p e below T593 (mkF m 218 (lt23 r0 6 kA6 ((((((0 : Int32) + 1) + 1) + 1) + 1) + 1)) [(.ref r0)]) _
    refine st595 _ ?_
    show Sp p e below T595 (mkF m 221 (lt23 r0 6 kA6 ((((((0 : Int32) + 1) + 1) + 1) + 1) + 1)) [(.ref b532)]) _
    refine XS.iload X595.here hx rfl (hb hby d2_221) rfl ?_
    refine XS.iconst X595.here hx rfl (hb hby d2_223) ?_
    show Sp p e below T595 (mkF m 224 (lt23 r0 6 kA6 ((((((0 : Int32) + 1) + 1) + 1) + 1) + 1)) [(.int 1), (.int ((((((0 : Int32) + 1) + 1) + 1) + 1) + 1)), (.ref b532)]) _
    refine st598 _ ?_
    show Sp p e below T598 (mkF m 225 (lt23 r0 6 kA6 ((((((0 : Int32) + 1) + 1) + 1) + 1) + 1)) []) _
    refine XS.iinc X598.here hx rfl (hb hby d2_225) rfl (l' := (lt23 r0 6 kA6 (((((((0 : Int32) + 1) + 1) + 1) + 1) + 1) + 1))) rfl ?_
    show Sp p e below T598 (mkF m 228 (lt23 r0 6 kA6 (((((((0 : Int32) + 1) + 1) + 1) + 1) + 1) + 1)) []) _
    refine XS.goto X598.here hx rfl (pc0 := 228) (pc' := 202) rfl (hb hby d2_228) (by decide) (by decide) ?_
    show Sp p e below T598 (mkF m 202 (lt23 r0 6 kA6 (((((((0 : Int32) + 1) + 1) + 1) + 1) + 1) + 1)) []) _
    refine XS.iload X598.here hx rfl (hb hby d2_202) rfl ?_
    refine XS.iloadN X598.here hx rfl (hb hby d2_204) rfl ?_
    show Sp p e below T598 (mkF m 205 (lt23 r0 6 kA6 (((((((0 : Int32) + 1) + 1) + 1) + 1) + 1) + 1)) [(.int 6), (.int (((((((0 : Int32) + 1) + 1) + 1) + 1) + 1) + 1))]) _
    refine XS.icmpYes X598.here hx rfl (pc0 := 205) (pc' := 231) rfl (hb hby d2_205) rfl (flt (by decide : ¬ ((((((((0 : Int32) + 1) + 1) + 1) + 1) + 1) + 1) < (6 : Int32)))).2.1 (by decide) (by decide) ?_
    show Sp p e below T598 (mkF m 231 (lt23 r0 6 kA6 (((((((0 : Int32) + 1) + 1) + 1) + 1) + 1) + 1)) []) _
    refine XS.aloadN X598.here hx rfl (hb hby d2_231) rfl rfl ?_
    refine XS.iloadN X598.here hx rfl (hb hby d2_232) rfl ?_
    show Sp p e below T598 (mkF m 233 (lt23 r0 6 kA6 (((((((0 : Int32) + 1) + 1) + 1) + 1) + 1) + 1)) [(.int 6), (.ref r0)]) _
    refine st636 _ ?_
    show Sp p e below T636 (mkF m 235 (lt23 r0 6 kA6 (((((((0 : Int32) + 1) + 1) + 1) + 1) + 1) + 1)) [(.ref b636), (.ref r0)]) _
    refine st644 _ ?_
    show Sp p e below T644 (mkF m 238 (lt23 r0 6 kA6 (((((((0 : Int32) + 1) + 1) + 1) + 1) + 1) + 1)) []) _
    refine XS.aloadN X644.here hx rfl (hb hby d2_238) rfl rfl ?_
    refine XS.iloadN X644.here hx rfl (hb hby d2_239) rfl ?_
    show Sp p e below T644 (mkF m 240 (lt23 r0 6 kA6 (((((((0 : Int32) + 1) + 1) + 1) + 1) + 1) + 1)) [(.int 6), (.ref r0)]) _
    refine st660 _ ?_
    show Sp p e below T660 (mkF m 242 (lt23 r0 6 kA6 (((((((0 : Int32) + 1) + 1) + 1) + 1) + 1) + 1)) [(.ref b660), (.ref r0)]) _
    refine st669 _ ?_
    show Sp p e below T669 (mkF m 245 (lt23 r0 6 kA6 (((((((0 : Int32) + 1) + 1) + 1) + 1) + 1) + 1)) []) _
    refine XS.aloadN X669.here hx rfl (hb hby d2_245) rfl rfl ?_
    refine XS.iloadN X669.here hx rfl (hb hby d2_246) rfl ?_
    show Sp p e below T669 (mkF m 247 (lt23 r0 6 kA6 (((((((0 : Int32) + 1) + 1) + 1) + 1) + 1) + 1)) [(.int 6), (.ref r0)]) _
    refine XS.iconst X669.here hx rfl (hb hby d2_247) ?_
    refine XS.iadd X669.here hx rfl (hb hby d2_248) rfl ?_
    show Sp p e below T669 (mkF m 249 (lt23 r0 6 kA6 (((((((0 : Int32) + 1) + 1) + 1) + 1) + 1) + 1)) [(.int ((6 : Int32) + 1)), (.ref r0)]) _
    refine st686 _ ?_
    show Sp p e below T686 (mkF m 251 (lt23 r0 6 kA6 (((((((0 : Int32) + 1) + 1) + 1) + 1) + 1) + 1)) [(.ref b686), (.ref r0)]) _
    refine st695 _ ?_
    show Sp p e below T695 (mkF m 254 (lt23 r0 6 kA6 (((((((0 : Int32) + 1) + 1) + 1) + 1) + 1) + 1)) []) _
    refine XS.aloadN X695.here hx rfl (hb hby d2_254) rfl rfl ?_
    refine XS.lloadN X695.here hx rfl (hb hby d2_255) rfl ?_
    show Sp p e below T695 (mkF m 256 (lt23 r0 6 kA6 (((((((0 : Int32) + 1) + 1) + 1) + 1) + 1) + 1)) [(.long kA6), (.ref r0)]) _
    refine st696 _ ?_
    show Sp p e below T696 (mkF m 259 (lt23 r0 6 kA6 (((((((0 : Int32) + 1) + 1) + 1) + 1) + 1) + 1)) [(.int (kA6.toInt32)), (.ref r0)]) _
    refine st714 _ ?_
    show Sp p e below T714 (mkF m 261 (lt23 r0 6 kA6 (((((((0 : Int32) + 1) + 1) + 1) + 1) + 1) + 1)) [(.ref b714), (.ref r0)]) _
    refine st724 _ ?_
    show Sp p e below T724 (mkF m 264 (lt23 r0 6 kA6 (((((((0 : Int32) + 1) + 1) + 1) + 1) + 1) + 1)) []) _
    exact X724.returnOut hx Bd.returns (hb hby d2_264) hr
  · show Q2n2x2 Z r0 h0 n0 _ T724.heap _
    rw [e724]
    exact ⟨A, K, b435, rfl, N724, O724, B823⟩
theorem pn_1x2 : plainName "com/example/onetree/onetree/EdgeStates" = true := by first | (simp [plainName, overriddenIn]; done) | decide +kernel
theorem ef_1x2 (m : MethodId) (r0 : Addr) : entryFrame m #[(.ref r0), (.int (6 : Int32))] 2 = mkF m 0 #[.val (.ref r0), .val (.int (6 : Int32))] [] := by first | (simp [entryFrame, mkF, argsToLocals, Value.category]; done) | rfl
def Q1x2 (Z : State) (r0 : Addr) (h0 : Heap) (n0 : Nat) (v : Option Value) (h : Heap) (L : List Loc) : Prop := ∃ (A : Nat → Addr) (K : Nat → ClassId) (S0 : Addr), v = none ∧ Fr n0 L ∧ Old Z n0 h ∧ EB Z n0 false h r0 A K S0 6 M0_6
set_option maxRecDepth 65536 in
set_option maxHeartbeats 40000000 in
theorem rm1x2 (l : Launch) (Z : State) (a0 : Array Value) (hw : ∀ d ∈ tables_1, d.before a0 Z = true) (ws : List Jvm.Cond) (hS : StF Z) (r0 : Addr) (h0 : Heap) (n0 : Nat) (O0 : Old Z n0 h0) (g_r0 : n0 ≤ r0) (E_r0 : Exa Z h0 r0 "com/example/onetree/onetree/EdgeStates") (F_cities_r0 : Fld Z h0 r0 "com/example/onetree/onetree/EdgeStates" "cities" "I" (.int (0 : Int32))) (F_fixedEdges_r0 : Fld Z h0 r0 "com/example/onetree/onetree/EdgeStates" "fixedEdges" "[[I" .null) (F_forcedDegree_r0 : Fld Z h0 r0 "com/example/onetree/onetree/EdgeStates" "forcedDegree" "[I" .null) (F_isPending_r0 : Fld Z h0 r0 "com/example/onetree/onetree/EdgeStates" "isPending" "[Z" .null) (F_listStart_r0 : Fld Z h0 r0 "com/example/onetree/onetree/EdgeStates" "listStart" "[I" .null) (F_listed_r0 : Fld Z h0 r0 "com/example/onetree/onetree/EdgeStates" "listed" "Z" (.int (0 : Int32))) (F_neighbours_r0 : Fld Z h0 r0 "com/example/onetree/onetree/EdgeStates" "neighbours" "[I" .null) (F_openDegree_r0 : Fld Z h0 r0 "com/example/onetree/onetree/EdgeStates" "openDegree" "[I" .null) (F_otherEnd_r0 : Fld Z h0 r0 "com/example/onetree/onetree/EdgeStates" "otherEnd" "[I" .null) (F_pathSize_r0 : Fld Z h0 r0 "com/example/onetree/onetree/EdgeStates" "pathSize" "[I" .null) (F_pending_r0 : Fld Z h0 r0 "com/example/onetree/onetree/EdgeStates" "pending" "[I" .null) (F_pendingCount_r0 : Fld Z h0 r0 "com/example/onetree/onetree/EdgeStates" "pendingCount" "I" (.int (0 : Int32))) (F_pendingHead_r0 : Fld Z h0 r0 "com/example/onetree/onetree/EdgeStates" "pendingHead" "I" (.int (0 : Int32))) (F_states_r0 : Fld Z h0 r0 "com/example/onetree/onetree/EdgeStates" "states" "[[B" .null) (F_trail_r0 : Fld Z h0 r0 "com/example/onetree/onetree/EdgeStates" "trail" "[I" .null) (F_trailSize_r0 : Fld Z h0 r0 "com/example/onetree/onetree/EdgeStates" "trailSize" "I" (.int (0 : Int32))) :
    MetFree l Y26 (head1 (Jvm.Cond.code Y26 prog_7_method_1_code 2 none :: ws) ({ frames := 2, cells := 17, slots := 181, locals := 33 } : Room)) (fun a U => a = #[(.ref r0), (.int (6 : Int32))] ∧ Z.Warmed39 U.vm ∧ U.heap = h0) (fun _ _ _ _ _ => True) (fun _ U o U' => ∃ v L, o = .returned v ∧ Q1x2 Z r0 h0 n0 v U'.heap L ∧ FrameEnd U o U' L ({ frames := 2, cells := 17, slots := 181, locals := 33 } : Room).cells ({ frames := 2, cells := 17, slots := 181, locals := 33 } : Room).slots) := by
  refine MetFree.of_bodySF (plainFor_of_name pn_1x2) hisR ?_
  intro p e s m args below meth c s₁ Bd hml0 hP hK
  obtain ⟨rfl, hZ, hh⟩ := hP
  have hx := Bd.exec
  have hby := Bd.bytes
  have hml : c.maxLocals = 2 := hml0
  have hown : s.vm.findClass "com/example/onetree/onetree/EdgeStates" = some m.cls := findClass_of_methodNamed Bd.named
  have hnm := (name_of_methodNamed Bd.named Bd.method).1
  have X0 : Stand p l e ({ frames := 2, cells := 17, slots := 181, locals := 33 } : Room) s m #[(.ref r0), (.int 6)] below meth c s₁ [] 0 0 := Stand.of_body Bd
  have e0 : s₁.heap = h0 := by rw [← hh, Bd.state]; rfl
  have N0 := Fr.nil n0
  have hS0 := hS
  skip
  have pre0 : ∀ t, Steps p.tables e below (s₁.setTop (mkF m 0 #[.val (.ref r0), .val (.int 6)] [])) t → Steps p.tables e below (s₁.setTop (entryFrame m #[(.ref r0), (.int 6)] 2)) t := fun t k => castTop (ef_1x2 m r0) k
  generalize hE0 : s₁.setTop (entryFrame m #[(.ref r0), (.int 6)] 2) = E0 at pre0 ⊢
  obtain ⟨_, _, ⟨T824, L824, k824, n824⟩, -, X824, ⟨Lc824, hQ824, l824, y824, z824⟩, st824⟩ := X0.specialBack hx (y := Y25) rfl hown (mvT hZ (hw _ (tk 7 rfl))) (mvT hZ (hw _ (tk 8 rfl))) (mvT hZ (hw _ (tk 9 rfl))) (by decide) (backOf (W := 0) (rm2n2x2 l Z a0 hw [] hS0 r0 h0 n0 O0 g_r0 E_r0 F_cities_r0 F_fixedEdges_r0 F_forcedDegree_r0 F_isPending_r0 F_listStart_r0 F_listed_r0 F_neighbours_r0 F_openDegree_r0 F_otherEnd_r0 F_pathSize_r0 F_pending_r0 F_pendingCount_r0 F_pendingHead_r0 F_states_r0 F_trail_r0 F_trailSize_r0) hZ (hw _ (tk 9 rfl)) (hw _ (tk 3 rfl)) (by decide) (by decide)) (g := (mkF m 3 (lt16 r0 6) [.null, (.int 6), (.ref r0)])) rfl (by rw [hml]; rfl) (Steps.refl _) (a := r0) (argsL := [(.int 6), .null]) (rest := []) (lenOf pd_2 rfl) rfl (by show 2 * 0 + _ ≤ _; exact Nat.le_of_eq rfl) (hb hby d1_3) (fun _ _ => ⟨rfl, e0, (by decide : 0 + 17 ≤ _), (by decide : 0 + 181 ≤ _)⟩)
  dsimp only [Pt.U, Pt.locs, Pt.cells, Pt.slots] at X824 l824 y824 z824 st824 hQ824
  rw [l824, y824, z824] at X824
  obtain ⟨A, K, S0, rv824, N824q, O824, B824⟩ := hQ824
  subst rv824
  have N824 := Fr.app N0 N824q
  obtain ⟨fs, hr, hrun, hended, hW, hsame⟩ := X824.leave (v := none) (fun _ => rfl) (BodyLoose.notSynchronized Bd)
  refine ⟨_, _, pre0 _ ?_, hrun, hended, _, _, rfl, ?_, ⟨_, rfl⟩, hW, hsame.mono (by decide) (by decide)⟩
  · show Sp p e below s₁ (mkF m 0 (lt16 r0 6) []) _
    refine XS.aloadN X0.here hx rfl (hb hby d1_0) rfl rfl ?_
    refine XS.iloadN X0.here hx rfl (hb hby d1_1) rfl ?_
    show Sp p e below s₁ (mkF m 2 (lt16 r0 6) [(.int 6), (.ref r0)]) _
    refine XS.aconstNull X0.here hx rfl (hb hby d1_2) ?_
    show Sp p e below s₁ (mkF m 3 (lt16 r0 6) [.null, (.int 6), (.ref r0)]) _
    refine st824.trans ?_
    show Sp p e below T824 (mkF m 6 (lt16 r0 6) []) _
    exact X824.returnOut hx Bd.returns (hb hby d1_6) hr
  · show Q1x2 Z r0 h0 n0 _ T824.heap _
    exact ⟨A, K, S0, rfl, N824, O824, B824⟩
theorem pn_8 : plainName "com/example/onetree/onetree/EdgeStates" = true := by first | (simp [plainName, overriddenIn]; done) | decide +kernel
def f8 (nc : Nat) (M : MM) (p1 : Int32) (p2 : Int32) (p3 : Int32) : Option (Int32 × MM) := nam (sto M 10 0 (0 : Int32)) fun M840 => nai (ld M840 9 0) fun v843 => nam (sto M840 9 0 (v843 + (1 : Int32))) fun M846 => gd (inr v843 (lnR nc 6)) (nam (sto M846 6 (ix v843) p1) fun M851 => nai (ld M851 9 0) fun v854 => nam (sto M851 9 0 (v854 + (1 : Int32))) fun M857 => gd (inr v854 (lnR nc 6)) (nam (sto M857 6 (ix v854) p2) fun M862 => gd (inr p1 nc) (gd (inr p2 nc) (nam (sto M862 (14 + ix p1) (ix p2) (nar .byte p3)) fun M871 => nam (sto M871 (14 + ix p2) (ix p1) (nar .byte p3)) fun M876 => some (0, M876)))))
theorem ef_8 (m : MethodId) (x : Addr) (A : Nat → Addr) (p1 : Int32) (p2 : Int32) (p3 : Int32) : entryFrame m #[(.ref x), (.int p1), (.int p2), (.int p3)] 4 = mkF m 0 #[.val (.ref x), .val (.int p1), .val (.int p2), .val (.int p3)] [] := by first | (simp [entryFrame, mkF, argsToLocals, Value.category]; done) | rfl
def Q8 (Z : State) (n0 : Nat) (ex : Bool) (x : Addr) (A : Nat → Addr) (K : Nat → ClassId) (S0 : Addr) (nc : Nat) (rv : Int32) (M' : MM) (v : Option Value) (h : Heap) (L : List Loc) : Prop := v = none ∧ Fr n0 L ∧ Old Z n0 h ∧ EB Z n0 ex h x A K S0 nc M'
set_option maxRecDepth 65536 in
set_option maxHeartbeats 40000000 in
theorem rm8 (l : Launch) (Z : State) (a0 : Array Value) (hw : ∀ d ∈ tables_1, d.before a0 Z = true) (ws : List Jvm.Cond) (hSl : SlotsOK Z) (ex : Bool) (x : Addr) (A : Nat → Addr) (K : Nat → ClassId) (S0 : Addr) (nc : Nat) (M : MM) (p1 : Int32) (p2 : Int32) (p3 : Int32) (rv : Int32) (M' : MM) (h0 : Heap) (n0 : Nat) (O0 : Old Z n0 h0) (B0 : EB Z n0 ex h0 x A K S0 nc M) (hf : f8 nc M p1 p2 p3 = some (rv, M')) :
    MetFree l Y30 (head1 (Jvm.Cond.code Y30 prog_7_method_25_code 4 none :: ws) ({ frames := 0, cells := 0, slots := 0, locals := 0 } : Room)) (fun a U => a = #[(.ref x), (.int p1), (.int p2), (.int p3)] ∧ Z.Warmed39 U.vm ∧ U.heap = h0) (fun _ _ _ _ _ => True) (fun _ U o U' => ∃ v L, o = .returned v ∧ Q8 Z n0 ex x A K S0 nc rv M' v U'.heap L ∧ FrameEnd U o U' L ({ frames := 0, cells := 0, slots := 0, locals := 0 } : Room).cells ({ frames := 0, cells := 0, slots := 0, locals := 0 } : Room).slots) := by
  refine MetFree.of_bodySF (plainFor_of_name pn_8) hisR ?_
  intro p e s m args below meth c s₁ Bd hml0 hP hK
  obtain ⟨rfl, hZ, hh⟩ := hP
  have hx := Bd.exec
  have hby := Bd.bytes
  have hml : c.maxLocals = 4 := hml0
  have hown : s.vm.findClass "com/example/onetree/onetree/EdgeStates" = some m.cls := findClass_of_methodNamed Bd.named
  have X0 : Stand p l e ({ frames := 0, cells := 0, slots := 0, locals := 0 } : Room) s m #[(.ref x), (.int p1), (.int p2), (.int p3)] below meth c s₁ [] 0 0 := Stand.of_body Bd
  have e0 : s₁.heap = h0 := by rw [← hh, Bd.state]; rfl
  have N0 := Fr.nil n0
  have pre0 : ∀ t, Steps p.tables e below (s₁.setTop (mkF m 0 #[.val (.ref x), .val (.int p1), .val (.int p2), .val (.int p3)] [])) t → Steps p.tables e below (s₁.setTop (entryFrame m #[(.ref x), (.int p1), (.int p2), (.int p3)] 4)) t := fun t k => castTop (ef_8 m x A p1 p2 p3) k
  generalize hE0 : s₁.setTop (entryFrame m #[(.ref x), (.int p1), (.int p2), (.int p3)] 4) = E0 at pre0 ⊢
  apply Classical.byContradiction
  intro hno
  unfold f8 at hf
  obtain ⟨T840, h840, X840, e840, W840, st840⟩ := putFN X0 hx hZ hown (hw _ (tk 66 rfl)) Via.refl e0 (B0.sca 1 rfl) B0.exa (Or.inl (hw _ (tk 67 rfl))) (hw _ (tk 2 rfl)) (ty := .boolean) (v' := (.int 0)) (by decide) rfl (by decide) (g := (mkF m 2 (lt20 x p1 p2 p3) [(.int 0), (.ref x)])) rfl rfl (hb hby d8_2)
  obtain ⟨M840, d_M840, hf841⟩ := own_nam hf
  clear hf
  have B840 := B0.put hSl 1 rfl W840
  rw [← d_M840] at B840
  have O840 := O0.wr W840 B0.oldx
  have N840 := Fr.snoc X840 N0 B0.oldx
  obtain ⟨T842, X842, e842, st842⟩ := getF X840 hx hZ hown (host := "") (Or.inl (hw _ (tk 38 rfl))) Via.refl e840 (B840.fld 8 rfl) (g := (mkF m 6 (lt20 x p1 p2 p3) [(.ref x)])) rfl rfl (hb hby d8_6)
  obtain ⟨v843, d_v843, hf844⟩ := own_nai hf841
  clear hf841
  obtain ⟨T845, X845, e845, st845⟩ := getF X842 hx hZ hown (host := "") (Or.inl (hw _ (tk 68 rfl))) Via.refl e842 (own_rwF d_v843 (B840.sca 0 rfl)) (g := (mkF m 11 (lt20 x p1 p2 p3) [(.ref x), (.ref x), (.ref (A 6))])) rfl rfl (hb hby d8_11)
  obtain ⟨T846, h846, X846, e846, W846, st846⟩ := putF X845 hx hZ hown (host := "") (Or.inl (hw _ (tk 68 rfl))) Via.refl e845 (B840.sca 0 rfl) B840.exa (Or.inl (hw _ (tk 69 rfl))) (hw _ (tk 2 rfl)) (ty := .int) (by decide) rfl rfl (g := (mkF m 17 (lt20 x p1 p2 p3) [(.int (v843 + 1)), (.ref x), (.int v843), (.ref (A 6))])) rfl rfl (hb hby d8_17)
  obtain ⟨M846, d_M846, hf847⟩ := own_nam hf844
  clear hf844
  have B846 := B840.put hSl 0 rfl W846
  rw [← d_M846] at B846
  have O846 := O840.wr W846 B840.oldx
  have N846 := Fr.snoc X846 N840 B840.oldx
  obtain ⟨g848, hf849⟩ := own_gd hf847
  clear hf847
  obtain ⟨cl850, Ar850, hin850⟩ := B846.at 6 (Or.inl (by decide)) g848
  have At850 : Arr Z h846 (A 6) cl850 .int := Ar850
  obtain ⟨T851, h851, X851, e851, W851, st851⟩ := stI X846 hx hZ e846 At850 (j := v843) hin850 (g := (mkF m 21 (lt20 x p1 p2 p3) [(.int p1), (.int v843), (.ref (A 6))])) rfl rfl (hb hby d8_21)
  obtain ⟨M851, d_M851, hf852⟩ := own_nam hf849
  clear hf849
  have B851 := B846.wr (v := p1) 6 (Or.inl (by decide)) g848 W851 rfl
  rw [← d_M851] at B851
  have O851 := O846.wr W851 (B846.old 6 (Or.inl (by decide)))
  have N851 := Fr.snoc X851 N846 (B846.old 6 (Or.inl (by decide)))
  obtain ⟨T853, X853, e853, st853⟩ := getF X851 hx hZ hown (host := "") (Or.inl (hw _ (tk 38 rfl))) Via.refl e851 (B851.fld 8 rfl) (g := (mkF m 23 (lt20 x p1 p2 p3) [(.ref x)])) rfl rfl (hb hby d8_23)
  obtain ⟨v854, d_v854, hf855⟩ := own_nai hf852
  clear hf852
  obtain ⟨T856, X856, e856, st856⟩ := getF X853 hx hZ hown (host := "") (Or.inl (hw _ (tk 68 rfl))) Via.refl e853 (own_rwF d_v854 (B851.sca 0 rfl)) (g := (mkF m 28 (lt20 x p1 p2 p3) [(.ref x), (.ref x), (.ref (A 6))])) rfl rfl (hb hby d8_28)
  obtain ⟨T857, h857, X857, e857, W857, st857⟩ := putF X856 hx hZ hown (host := "") (Or.inl (hw _ (tk 68 rfl))) Via.refl e856 (B851.sca 0 rfl) B851.exa (Or.inl (hw _ (tk 69 rfl))) (hw _ (tk 2 rfl)) (ty := .int) (by decide) rfl rfl (g := (mkF m 34 (lt20 x p1 p2 p3) [(.int (v854 + 1)), (.ref x), (.int v854), (.ref (A 6))])) rfl rfl (hb hby d8_34)
  obtain ⟨M857, d_M857, hf858⟩ := own_nam hf855
  clear hf855
  have B857 := B851.put hSl 0 rfl W857
  rw [← d_M857] at B857
  have O857 := O851.wr W857 B851.oldx
  have N857 := Fr.snoc X857 N851 B851.oldx
  obtain ⟨g859, hf860⟩ := own_gd hf858
  clear hf858
  obtain ⟨cl861, Ar861, hin861⟩ := B857.at 6 (Or.inl (by decide)) g859
  have At861 : Arr Z h857 (A 6) cl861 .int := Ar861
  obtain ⟨T862, h862, X862, e862, W862, st862⟩ := stI X857 hx hZ e857 At861 (j := v854) hin861 (g := (mkF m 38 (lt20 x p1 p2 p3) [(.int p2), (.int v854), (.ref (A 6))])) rfl rfl (hb hby d8_38)
  obtain ⟨M862, d_M862, hf863⟩ := own_nam hf860
  clear hf860
  have B862 := B857.wr (v := p2) 6 (Or.inl (by decide)) g859 W862 rfl
  rw [← d_M862] at B862
  have O862 := O857.wr W862 (B857.old 6 (Or.inl (by decide)))
  have N862 := Fr.snoc X862 N857 (B857.old 6 (Or.inl (by decide)))
  obtain ⟨T864, X864, e864, st864⟩ := getF X862 hx hZ hown (host := "") (Or.inl (hw _ (tk 22 rfl))) Via.refl e862 (B862.fld 1 rfl) (g := (mkF m 40 (lt20 x p1 p2 p3) [(.ref x)])) rfl rfl (hb hby d8_40)
  obtain ⟨g865, hf866⟩ := own_gd hf863
  clear hf863
  obtain ⟨cl867, Ar867, hin867, hat867⟩ := B862.getS g865
  obtain ⟨g868, hf869⟩ := own_gd hf866
  clear hf866
  obtain ⟨cl870, Ar870, hin870⟩ := B862.at (14 + ix p1) (B862.isS g865) (own_gS g868)
  have At870 := own_tyA Ar870
  obtain ⟨T871, h871, X871, e871, W871, st871⟩ := stB X864 hx hZ e864 At870 (j := p2) hin870 (g := (mkF m 47 (lt20 x p1 p2 p3) [(.int p3), (.int p2), (.ref (A (14 + ix p1)))])) rfl rfl (hb hby d8_47)
  obtain ⟨M871, d_M871, hf872⟩ := own_nam hf869
  clear hf869
  have B871 := B862.wr (v := (nar .byte p3)) (14 + ix p1) (B862.isS g865) (own_gS g868) W871 (own_fitS (fits_nar_byte _))
  rw [← d_M871] at B871
  have O871 := O862.wr W871 (B862.old (14 + ix p1) (B862.isS g865))
  have N871 := Fr.snoc X871 N862 (B862.old (14 + ix p1) (B862.isS g865))
  obtain ⟨T873, X873, e873, st873⟩ := getF X871 hx hZ hown (host := "") (Or.inl (hw _ (tk 22 rfl))) Via.refl e871 (B871.fld 1 rfl) (g := (mkF m 49 (lt20 x p1 p2 p3) [(.ref x)])) rfl rfl (hb hby d8_49)
  obtain ⟨cl874, Ar874, hin874, hat874⟩ := B871.getS g868
  obtain ⟨cl875, Ar875, hin875⟩ := B871.at (14 + ix p2) (B871.isS g868) (own_gS g865)
  have At875 := own_tyA Ar875
  obtain ⟨T876, h876, X876, e876, W876, st876⟩ := stB X873 hx hZ e873 At875 (j := p1) hin875 (g := (mkF m 56 (lt20 x p1 p2 p3) [(.int p3), (.int p1), (.ref (A (14 + ix p2)))])) rfl rfl (hb hby d8_56)
  obtain ⟨M876, d_M876, hf877⟩ := own_nam hf872
  clear hf872
  have B876 := B871.wr (v := (nar .byte p3)) (14 + ix p2) (B871.isS g868) (own_gS g865) W876 (own_fitS (fits_nar_byte _))
  rw [← d_M876] at B876
  have O876 := O871.wr W876 (B871.old (14 + ix p2) (B871.isS g868))
  have N876 := Fr.snoc X876 N871 (B871.old (14 + ix p2) (B871.isS g868))
  obtain ⟨rfl, rfl⟩ := own_ret hf877
  obtain ⟨fs, hr, hrun, hended, hW, hsame⟩ := X876.leave (v := none) (fun _ => rfl) (BodyLoose.notSynchronized Bd)
  refine hno ⟨_, _, pre0 _ ?_, hrun, hended, _, _, rfl, ?_, ⟨_, rfl⟩, hW, hsame.mono (by decide) (by decide)⟩
  · show Sp p e below s₁ (mkF m 0 (lt20 x p1 p2 p3) []) _
    refine XS.aloadN X0.here hx rfl (hb hby d8_0) rfl rfl ?_
    refine XS.iconst X0.here hx rfl (hb hby d8_1) ?_
    show Sp p e below s₁ (mkF m 2 (lt20 x p1 p2 p3) [(.int 0), (.ref x)]) _
    refine st840 _ ?_
    show Sp p e below T840 (mkF m 5 (lt20 x p1 p2 p3) []) _
    refine XS.aloadN X840.here hx rfl (hb hby d8_5) rfl rfl ?_
    show Sp p e below T840 (mkF m 6 (lt20 x p1 p2 p3) [(.ref x)]) _
    refine st842 _ ?_
    show Sp p e below T842 (mkF m 9 (lt20 x p1 p2 p3) [(.ref (A 6))]) _
    refine XS.aloadN X842.here hx rfl (hb hby d8_9) rfl rfl ?_
    refine XS.dup X842.here hx rfl (hb hby d8_10) rfl rfl ?_
    show Sp p e below T842 (mkF m 11 (lt20 x p1 p2 p3) [(.ref x), (.ref x), (.ref (A 6))]) _
    refine st845 _ ?_
    show Sp p e below T845 (mkF m 14 (lt20 x p1 p2 p3) [(.int v843), (.ref x), (.ref (A 6))]) _
    refine XS.dupX1 X845.here hx rfl (hb hby d8_14) rfl rfl rfl ?_
    refine XS.iconst X845.here hx rfl (hb hby d8_15) ?_
    show Sp p e below T845 (mkF m 16 (lt20 x p1 p2 p3) [(.int 1), (.int v843), (.ref x), (.int v843), (.ref (A 6))]) _
    refine XS.iadd X845.here hx rfl (hb hby d8_16) rfl ?_
    show Sp p e below T845 (mkF m 17 (lt20 x p1 p2 p3) [(.int (v843 + 1)), (.ref x), (.int v843), (.ref (A 6))]) _
    refine st846 _ ?_
    show Sp p e below T846 (mkF m 20 (lt20 x p1 p2 p3) [(.int v843), (.ref (A 6))]) _
    refine XS.iloadN X846.here hx rfl (hb hby d8_20) rfl ?_
    show Sp p e below T846 (mkF m 21 (lt20 x p1 p2 p3) [(.int p1), (.int v843), (.ref (A 6))]) _
    refine st851 _ ?_
    show Sp p e below T851 (mkF m 22 (lt20 x p1 p2 p3) []) _
    refine XS.aloadN X851.here hx rfl (hb hby d8_22) rfl rfl ?_
    show Sp p e below T851 (mkF m 23 (lt20 x p1 p2 p3) [(.ref x)]) _
    refine st853 _ ?_
    show Sp p e below T853 (mkF m 26 (lt20 x p1 p2 p3) [(.ref (A 6))]) _
    refine XS.aloadN X853.here hx rfl (hb hby d8_26) rfl rfl ?_
    refine XS.dup X853.here hx rfl (hb hby d8_27) rfl rfl ?_
    show Sp p e below T853 (mkF m 28 (lt20 x p1 p2 p3) [(.ref x), (.ref x), (.ref (A 6))]) _
    refine st856 _ ?_
    show Sp p e below T856 (mkF m 31 (lt20 x p1 p2 p3) [(.int v854), (.ref x), (.ref (A 6))]) _
    refine XS.dupX1 X856.here hx rfl (hb hby d8_31) rfl rfl rfl ?_
    refine XS.iconst X856.here hx rfl (hb hby d8_32) ?_
    show Sp p e below T856 (mkF m 33 (lt20 x p1 p2 p3) [(.int 1), (.int v854), (.ref x), (.int v854), (.ref (A 6))]) _
    refine XS.iadd X856.here hx rfl (hb hby d8_33) rfl ?_
    show Sp p e below T856 (mkF m 34 (lt20 x p1 p2 p3) [(.int (v854 + 1)), (.ref x), (.int v854), (.ref (A 6))]) _
    refine st857 _ ?_
    show Sp p e below T857 (mkF m 37 (lt20 x p1 p2 p3) [(.int v854), (.ref (A 6))]) _
    refine XS.iloadN X857.here hx rfl (hb hby d8_37) rfl ?_
    show Sp p e below T857 (mkF m 38 (lt20 x p1 p2 p3) [(.int p2), (.int v854), (.ref (A 6))]) _
    refine st862 _ ?_
    show Sp p e below T862 (mkF m 39 (lt20 x p1 p2 p3) []) _
    refine XS.aloadN X862.here hx rfl (hb hby d8_39) rfl rfl ?_
    show Sp p e below T862 (mkF m 40 (lt20 x p1 p2 p3) [(.ref x)]) _
    refine st864 _ ?_
    show Sp p e below T864 (mkF m 43 (lt20 x p1 p2 p3) [(.ref S0)]) _
    refine XS.iloadN X864.here hx rfl (hb hby d8_43) rfl ?_
    show Sp p e below T864 (mkF m 44 (lt20 x p1 p2 p3) [(.int p1), (.ref S0)]) _
    refine X864.aaload hx (j := p1) (v := .ref (A (14 + ix p1))) (by rw [e864]; exact Ar867.1) (State.isArrayOf_alike hZ.alike Ar867.2.1) rfl Ar867.2.2 hin867 hat867 (g := (mkF m 44 (lt20 x p1 p2 p3) [(.int p1), (.ref S0)])) rfl rfl (hb hby d8_44) _ ?_
    show Sp p e below T864 (mkF m 45 (lt20 x p1 p2 p3) [(.ref (A (14 + ix p1)))]) _
    refine XS.iloadN X864.here hx rfl (hb hby d8_45) rfl ?_
    refine XS.iloadN X864.here hx rfl (hb hby d8_46) rfl ?_
    show Sp p e below T864 (mkF m 47 (lt20 x p1 p2 p3) [(.int p3), (.int p2), (.ref (A (14 + ix p1)))]) _
    refine st871 _ ?_
    show Sp p e below T871 (mkF m 48 (lt20 x p1 p2 p3) []) _
    refine XS.aloadN X871.here hx rfl (hb hby d8_48) rfl rfl ?_
    show Sp p e below T871 (mkF m 49 (lt20 x p1 p2 p3) [(.ref x)]) _
    refine st873 _ ?_
    show Sp p e below T873 (mkF m 52 (lt20 x p1 p2 p3) [(.ref S0)]) _
    refine XS.iloadN X873.here hx rfl (hb hby d8_52) rfl ?_
    show Sp p e below T873 (mkF m 53 (lt20 x p1 p2 p3) [(.int p2), (.ref S0)]) _
    refine X873.aaload hx (j := p2) (v := .ref (A (14 + ix p2))) (by rw [e873]; exact Ar874.1) (State.isArrayOf_alike hZ.alike Ar874.2.1) rfl Ar874.2.2 hin874 hat874 (g := (mkF m 53 (lt20 x p1 p2 p3) [(.int p2), (.ref S0)])) rfl rfl (hb hby d8_53) _ ?_
    show Sp p e below T873 (mkF m 54 (lt20 x p1 p2 p3) [(.ref (A (14 + ix p2)))]) _
    refine XS.iloadN X873.here hx rfl (hb hby d8_54) rfl ?_
    refine XS.iloadN X873.here hx rfl (hb hby d8_55) rfl ?_
    show Sp p e below T873 (mkF m 56 (lt20 x p1 p2 p3) [(.int p3), (.int p1), (.ref (A (14 + ix p2)))]) _
    refine st876 _ ?_
    show Sp p e below T876 (mkF m 57 (lt20 x p1 p2 p3) []) _
    exact X876.returnOut hx Bd.returns (hb hby d8_57) hr
  · show Q8 Z n0 ex x A K S0 nc _ _ _ T876.heap _
    rw [e876]
    exact ⟨rfl, N876, O876, B876⟩
theorem pn_9 : plainName "com/example/onetree/onetree/EdgeStates" = true := by first | (simp [plainName, overriddenIn]; done) | decide +kernel
def f9 (nc : Nat) (M : MM) (p1 : Int32) : Option (Int32 × MM) := gd (inr p1 (lnR nc 5)) (nai (ld M 5 (ix p1)) fun v902 => cnd (eqB v902 (0 : Int32)) (nam (sto M 5 (ix p1) (1 : Int32)) fun M908 => nai (ld M908 11 0) fun v911 => nai (ld M908 12 0) fun v914 => gd (inr ((v911 + v914) % (Int32.ofNat nc)) (lnR nc 4)) (nam (sto M908 4 (ix ((v911 + v914) % (Int32.ofNat nc))) p1) fun M921 => nai (ld M921 12 0) fun v923 => nam (sto M921 12 0 (v923 + (1 : Int32))) fun M926 => some (0, M926))) (some (0, M)))
theorem ef_9 (m : MethodId) (x : Addr) (A : Nat → Addr) (p1 : Int32) : entryFrame m #[(.ref x), (.int p1)] 2 = mkF m 0 #[.val (.ref x), .val (.int p1)] [] := by first | (simp [entryFrame, mkF, argsToLocals, Value.category]; done) | rfl
def Q9 (Z : State) (n0 : Nat) (ex : Bool) (x : Addr) (A : Nat → Addr) (K : Nat → ClassId) (S0 : Addr) (nc : Nat) (rv : Int32) (M' : MM) (v : Option Value) (h : Heap) (L : List Loc) : Prop := v = none ∧ Fr n0 L ∧ Old Z n0 h ∧ EB Z n0 ex h x A K S0 nc M'
set_option maxRecDepth 65536 in
set_option maxHeartbeats 40000000 in
theorem rm9 (l : Launch) (Z : State) (a0 : Array Value) (hw : ∀ d ∈ tables_1, d.before a0 Z = true) (ws : List Jvm.Cond) (hSl : SlotsOK Z) (ex : Bool) (x : Addr) (A : Nat → Addr) (K : Nat → ClassId) (S0 : Addr) (nc : Nat) (M : MM) (p1 : Int32) (rv : Int32) (M' : MM) (h0 : Heap) (n0 : Nat) (O0 : Old Z n0 h0) (B0 : EB Z n0 ex h0 x A K S0 nc M) (hf : f9 nc M p1 = some (rv, M')) :
    MetFree l Y31 (head1 (Jvm.Cond.code Y31 prog_7_method_27_code 2 none :: ws) ({ frames := 0, cells := 0, slots := 0, locals := 0 } : Room)) (fun a U => a = #[(.ref x), (.int p1)] ∧ Z.Warmed39 U.vm ∧ U.heap = h0) (fun _ _ _ _ _ => True) (fun _ U o U' => ∃ v L, o = .returned v ∧ Q9 Z n0 ex x A K S0 nc rv M' v U'.heap L ∧ FrameEnd U o U' L ({ frames := 0, cells := 0, slots := 0, locals := 0 } : Room).cells ({ frames := 0, cells := 0, slots := 0, locals := 0 } : Room).slots) := by
  refine MetFree.of_bodySF (plainFor_of_name pn_9) hisR ?_
  intro p e s m args below meth c s₁ Bd hml0 hP hK
  obtain ⟨rfl, hZ, hh⟩ := hP
  have hx := Bd.exec
  have hby := Bd.bytes
  have hml : c.maxLocals = 2 := hml0
  have hown : s.vm.findClass "com/example/onetree/onetree/EdgeStates" = some m.cls := findClass_of_methodNamed Bd.named
  have X0 : Stand p l e ({ frames := 0, cells := 0, slots := 0, locals := 0 } : Room) s m #[(.ref x), (.int p1)] below meth c s₁ [] 0 0 := Stand.of_body Bd
  have e0 : s₁.heap = h0 := by rw [← hh, Bd.state]; rfl
  have N0 := Fr.nil n0
  have pre0 : ∀ t, Steps p.tables e below (s₁.setTop (mkF m 0 #[.val (.ref x), .val (.int p1)] [])) t → Steps p.tables e below (s₁.setTop (entryFrame m #[(.ref x), (.int p1)] 2)) t := fun t k => castTop (ef_9 m x A p1) k
  generalize hE0 : s₁.setTop (entryFrame m #[(.ref x), (.int p1)] 2) = E0 at pre0 ⊢
  apply Classical.byContradiction
  intro hno
  unfold f9 at hf
  obtain ⟨T898, X898, e898, st898⟩ := getF X0 hx hZ hown (host := "") (Or.inl (hw _ (tk 47 rfl))) Via.refl e0 (B0.fld 7 rfl) (g := (mkF m 1 (lt16 x p1) [(.ref x)])) rfl rfl (hb hby d9_1)
  obtain ⟨g899, hf900⟩ := own_gd hf
  clear hf
  obtain ⟨v902, d_v902, hf903⟩ := own_nai hf900
  clear hf900
  obtain ⟨cl901, Ar901, hin901, hat901⟩ := B0.get 5 (Or.inl (by decide)) g899 d_v902
  have At901 : Arr Z h0 (A 5) cl901 .boolean := Ar901
  have pre904 : Cm p e below E0 (T898.setTop (mkF m 6 (lt16 x p1) [(.int v902)])) := fun t kt => by
    refine pre0 t ?_
    show Sp p e below s₁ (mkF m 0 (lt16 x p1) []) _
    refine XS.aloadN X0.here hx rfl (hb hby d9_0) rfl rfl ?_
    show Sp p e below s₁ (mkF m 1 (lt16 x p1) [(.ref x)]) _
    refine st898 _ ?_
    show Sp p e below T898 (mkF m 4 (lt16 x p1) [(.ref (A 5))]) _
    refine XS.iloadN X898.here hx rfl (hb hby d9_4) rfl ?_
    show Sp p e below T898 (mkF m 5 (lt16 x p1) [(.int p1), (.ref (A 5))]) _
    refine X898.baloadBooleans hx (j := p1) (v := (.int v902)) (by rw [e898]; exact Ar901.1) (State.isArrayOf_alike hZ.alike At901.2.1) At901.2.2 hin901 hat901 (g := (mkF m 5 (lt16 x p1) [(.int p1), (.ref (A 5))])) rfl rfl (hb hby d9_5) _ ?_
    show Sp p e below T898 (mkF m 6 (lt16 x p1) [(.int v902)]) _
    exact kt
  by_cases hc905 : v902 = (0 : Int32)
  · rw [own_eqT hc905] at hf903
    obtain ⟨T906, X906, e906, st906⟩ := getF X898 hx hZ hown (host := "") (Or.inl (hw _ (tk 47 rfl))) Via.refl e898 (B0.fld 7 rfl) (g := (mkF m 10 (lt16 x p1) [(.ref x)])) rfl rfl (hb hby d9_10)
    obtain ⟨cl907, Ar907, hin907⟩ := B0.at 5 (Or.inl (by decide)) g899
    have At907 : Arr Z h0 (A 5) cl907 .boolean := Ar907
    obtain ⟨T908, h908, X908, e908, W908, st908⟩ := stZ X906 hx hZ e906 At907 (j := p1) hin907 (g := (mkF m 15 (lt16 x p1) [(.int 1), (.int p1), (.ref (A 5))])) rfl rfl (hb hby d9_15)
    obtain ⟨M908, d_M908, hf909⟩ := own_nam hf903
    clear hf903
    have B908 := B0.wr (v := (1 : Int32)) 5 (Or.inl (by decide)) g899 W908 (by decide)
    rw [← d_M908] at B908
    have O908 := O0.wr W908 (B0.old 5 (Or.inl (by decide)))
    have N908 := Fr.snoc X908 N0 (B0.old 5 (Or.inl (by decide)))
    obtain ⟨T910, X910, e910, st910⟩ := getF X908 hx hZ hown (host := "") (Or.inl (hw _ (tk 44 rfl))) Via.refl e908 (B908.fld 6 rfl) (g := (mkF m 17 (lt16 x p1) [(.ref x)])) rfl rfl (hb hby d9_17)
    obtain ⟨v911, d_v911, hf912⟩ := own_nai hf909
    clear hf909
    obtain ⟨T913, X913, e913, st913⟩ := getF X910 hx hZ hown (host := "") (Or.inl (hw _ (tk 74 rfl))) Via.refl e910 (own_rwF d_v911 (B908.sca 2 rfl)) (g := (mkF m 21 (lt16 x p1) [(.ref x), (.ref (A 4))])) rfl rfl (hb hby d9_21)
    obtain ⟨v914, d_v914, hf915⟩ := own_nai hf912
    clear hf912
    obtain ⟨T916, X916, e916, st916⟩ := getF X913 hx hZ hown (host := "") (Or.inl (hw _ (tk 76 rfl))) Via.refl e913 (own_rwF d_v914 (B908.sca 3 rfl)) (g := (mkF m 25 (lt16 x p1) [(.ref x), (.int v911), (.ref (A 4))])) rfl rfl (hb hby d9_25)
    obtain ⟨T917, X917, e917, st917⟩ := getF X916 hx hZ hown (host := "") (Or.inl (hw _ (tk 13 rfl))) Via.refl e916 (B908.fld 0 rfl) (g := (mkF m 30 (lt16 x p1) [(.ref x), (.int (v911 + v914)), (.ref (A 4))])) rfl rfl (hb hby d9_30)
    obtain ⟨g918, hf919⟩ := own_gd hf915
    clear hf915
    obtain ⟨cl920, Ar920, hin920⟩ := B908.at 4 (Or.inl (by decide)) g918
    have At920 : Arr Z h908 (A 4) cl920 .int := Ar920
    obtain ⟨T921, h921, X921, e921, W921, st921⟩ := stI X917 hx hZ e917 At920 (j := ((v911 + v914) % (Int32.ofNat nc))) hin920 (g := (mkF m 35 (lt16 x p1) [(.int p1), (.int ((v911 + v914) % (Int32.ofNat nc))), (.ref (A 4))])) rfl rfl (hb hby d9_35)
    obtain ⟨M921, d_M921, hf922⟩ := own_nam hf919
    clear hf919
    have B921 := B908.wr (v := p1) 4 (Or.inl (by decide)) g918 W921 rfl
    rw [← d_M921] at B921
    have O921 := O908.wr W921 (B908.old 4 (Or.inl (by decide)))
    have N921 := Fr.snoc X921 N908 (B908.old 4 (Or.inl (by decide)))
    obtain ⟨v923, d_v923, hf924⟩ := own_nai hf922
    clear hf922
    obtain ⟨T925, X925, e925, st925⟩ := getF X921 hx hZ hown (host := "") (Or.inl (hw _ (tk 76 rfl))) Via.refl e921 (own_rwF d_v923 (B921.sca 3 rfl)) (g := (mkF m 38 (lt16 x p1) [(.ref x), (.ref x)])) rfl rfl (hb hby d9_38)
    obtain ⟨T926, h926, X926, e926, W926, st926⟩ := putF X925 hx hZ hown (host := "") (Or.inl (hw _ (tk 76 rfl))) Via.refl e925 (B921.sca 3 rfl) B921.exa (Or.inl (hw _ (tk 77 rfl))) (hw _ (tk 2 rfl)) (ty := .int) (by decide) rfl rfl (g := (mkF m 43 (lt16 x p1) [(.int (v923 + 1)), (.ref x)])) rfl rfl (hb hby d9_43)
    obtain ⟨M926, d_M926, hf927⟩ := own_nam hf924
    clear hf924
    have B926 := B921.put hSl 3 rfl W926
    rw [← d_M926] at B926
    have O926 := O921.wr W926 B921.oldx
    have N926 := Fr.snoc X926 N921 B921.oldx
    obtain ⟨rfl, rfl⟩ := own_ret hf927
    obtain ⟨fs, hr, hrun, hended, hW, hsame⟩ := X926.leave (v := none) (fun _ => rfl) (BodyLoose.notSynchronized Bd)
    refine hno ⟨_, _, pre904 _ ?_, hrun, hended, _, _, rfl, ?_, ⟨_, rfl⟩, hW, hsame.mono (by decide) (by decide)⟩
    · show Sp p e below T898 (mkF m 6 (lt16 x p1) [(.int v902)]) _
      refine XS.ifNo X898.here hx rfl (hb hby d9_6) rfl ((if0 _ _).trans (teq hc905).2) ?_
      show Sp p e below T898 (mkF m 9 (lt16 x p1) []) _
      refine XS.aloadN X898.here hx rfl (hb hby d9_9) rfl rfl ?_
      show Sp p e below T898 (mkF m 10 (lt16 x p1) [(.ref x)]) _
      refine st906 _ ?_
      show Sp p e below T906 (mkF m 13 (lt16 x p1) [(.ref (A 5))]) _
      refine XS.iloadN X906.here hx rfl (hb hby d9_13) rfl ?_
      refine XS.iconst X906.here hx rfl (hb hby d9_14) ?_
      show Sp p e below T906 (mkF m 15 (lt16 x p1) [(.int 1), (.int p1), (.ref (A 5))]) _
      refine st908 _ ?_
      show Sp p e below T908 (mkF m 16 (lt16 x p1) []) _
      refine XS.aloadN X908.here hx rfl (hb hby d9_16) rfl rfl ?_
      show Sp p e below T908 (mkF m 17 (lt16 x p1) [(.ref x)]) _
      refine st910 _ ?_
      show Sp p e below T910 (mkF m 20 (lt16 x p1) [(.ref (A 4))]) _
      refine XS.aloadN X910.here hx rfl (hb hby d9_20) rfl rfl ?_
      show Sp p e below T910 (mkF m 21 (lt16 x p1) [(.ref x), (.ref (A 4))]) _
      refine st913 _ ?_
      show Sp p e below T913 (mkF m 24 (lt16 x p1) [(.int v911), (.ref (A 4))]) _
      refine XS.aloadN X913.here hx rfl (hb hby d9_24) rfl rfl ?_
      show Sp p e below T913 (mkF m 25 (lt16 x p1) [(.ref x), (.int v911), (.ref (A 4))]) _
      refine st916 _ ?_
      show Sp p e below T916 (mkF m 28 (lt16 x p1) [(.int v914), (.int v911), (.ref (A 4))]) _
      refine XS.iadd X916.here hx rfl (hb hby d9_28) rfl ?_
      refine XS.aloadN X916.here hx rfl (hb hby d9_29) rfl rfl ?_
      show Sp p e below T916 (mkF m 30 (lt16 x p1) [(.ref x), (.int (v911 + v914)), (.ref (A 4))]) _
      refine st917 _ ?_
      show Sp p e below T917 (mkF m 33 (lt16 x p1) [(.int (Int32.ofNat nc)), (.int (v911 + v914)), (.ref (A 4))]) _
      refine iremM X917 hx rfl (hb hby d9_33) rfl B908.ncz ?_
      show Sp p e below T917 (mkF m 34 (lt16 x p1) [(.int ((v911 + v914) % (Int32.ofNat nc))), (.ref (A 4))]) _
      refine XS.iloadN X917.here hx rfl (hb hby d9_34) rfl ?_
      show Sp p e below T917 (mkF m 35 (lt16 x p1) [(.int p1), (.int ((v911 + v914) % (Int32.ofNat nc))), (.ref (A 4))]) _
      refine st921 _ ?_
      show Sp p e below T921 (mkF m 36 (lt16 x p1) []) _
      refine XS.aloadN X921.here hx rfl (hb hby d9_36) rfl rfl ?_
      refine XS.dup X921.here hx rfl (hb hby d9_37) rfl rfl ?_
      show Sp p e below T921 (mkF m 38 (lt16 x p1) [(.ref x), (.ref x)]) _
      refine st925 _ ?_
      show Sp p e below T925 (mkF m 41 (lt16 x p1) [(.int v923), (.ref x)]) _
      refine XS.iconst X925.here hx rfl (hb hby d9_41) ?_
      refine XS.iadd X925.here hx rfl (hb hby d9_42) rfl ?_
      show Sp p e below T925 (mkF m 43 (lt16 x p1) [(.int (v923 + 1)), (.ref x)]) _
      refine st926 _ ?_
      show Sp p e below T926 (mkF m 46 (lt16 x p1) []) _
      exact X926.returnOut hx Bd.returns (hb hby d9_46) hr
    · show Q9 Z n0 ex x A K S0 nc _ _ _ T926.heap _
      rw [e926]
      exact ⟨rfl, N926, O926, B926⟩
  · rw [own_eqF hc905] at hf903
    obtain ⟨rfl, rfl⟩ := own_ret hf903
    obtain ⟨fs, hr, hrun, hended, hW, hsame⟩ := X898.leave (v := none) (fun _ => rfl) (BodyLoose.notSynchronized Bd)
    refine hno ⟨_, _, pre904 _ ?_, hrun, hended, _, _, rfl, ?_, ⟨_, rfl⟩, hW, hsame.mono (by decide) (by decide)⟩
    · show Sp p e below T898 (mkF m 6 (lt16 x p1) [(.int v902)]) _
      refine XS.ifYes X898.here hx rfl (pc0 := 6) (pc' := 46) rfl (hb hby d9_6) rfl ((if0 _ _).trans (feq hc905).2) (by decide) (by decide) ?_
      show Sp p e below T898 (mkF m 46 (lt16 x p1) []) _
      exact X898.returnOut hx Bd.returns (hb hby d9_46) hr
    · show Q9 Z n0 ex x A K S0 nc _ _ _ T898.heap _
      rw [e898]
      exact ⟨rfl, N0, O0, B0⟩
theorem pn_14 : plainName "com/example/onetree/onetree/EdgeStates" = true := by first | (simp [plainName, overriddenIn]; done) | decide +kernel
def f14 (nc : Nat) (M : MM) (p1 : Int32) (p2 : Int32) : Option (Int32 × MM) := gd (inr p1 nc) (gd (inr p2 nc) (nai (ld M (14 + ix p1) (ix p2)) fun v836 => cnd (eqB v836 (0 : Int32)) (bnd (f8 nc M p1 p2 (2 : Int32)) fun v878 M878 => gd (inr p1 (lnR nc 1)) (nai (ld M878 1 (ix p1)) fun v884 => nam (sto M878 1 (ix p1) (v884 - (1 : Int32))) fun M887 => gd (inr p2 (lnR nc 1)) (nai (ld M887 1 (ix p2)) fun v893 => nam (sto M887 1 (ix p2) (v893 - (1 : Int32))) fun M896 => bnd (f9 nc M896 p1) fun v928 M928 => bnd (f9 nc M928 p2) fun v930 M930 => some ((1 : Int32), M930)))) (cnd (eqB v836 (2 : Int32)) (some ((1 : Int32), M)) (some ((0 : Int32), M)))))
theorem ef_14 (m : MethodId) (x : Addr) (A : Nat → Addr) (p1 : Int32) (p2 : Int32) : entryFrame m #[(.ref x), (.int p1), (.int p2)] 4 = mkF m 0 #[.val (.ref x), .val (.int p1), .val (.int p2), .unset] [] := by first | (simp [entryFrame, mkF, argsToLocals, Value.category]; done) | rfl
def Q14 (Z : State) (n0 : Nat) (ex : Bool) (x : Addr) (A : Nat → Addr) (K : Nat → ClassId) (S0 : Addr) (nc : Nat) (rv : Int32) (M' : MM) (v : Option Value) (h : Heap) (L : List Loc) : Prop := v = some (.int rv) ∧ Fr n0 L ∧ Old Z n0 h ∧ EB Z n0 ex h x A K S0 nc M'
set_option maxRecDepth 65536 in
set_option maxHeartbeats 40000000 in
theorem rm14 (l : Launch) (Z : State) (a0 : Array Value) (hw : ∀ d ∈ tables_1, d.before a0 Z = true) (ws : List Jvm.Cond) (hSl : SlotsOK Z) (ex : Bool) (x : Addr) (A : Nat → Addr) (K : Nat → ClassId) (S0 : Addr) (nc : Nat) (M : MM) (p1 : Int32) (p2 : Int32) (rv : Int32) (M' : MM) (h0 : Heap) (n0 : Nat) (O0 : Old Z n0 h0) (B0 : EB Z n0 ex h0 x A K S0 nc M) (hf : f14 nc M p1 p2 = some (rv, M')) :
    MetFree l Y32 (head1 (Jvm.Cond.code Y32 prog_7_method_21_code 4 (some .boolean) :: ws) ({ frames := 1, cells := 0, slots := 0, locals := 15 } : Room)) (fun a U => a = #[(.ref x), (.int p1), (.int p2)] ∧ Z.Warmed39 U.vm ∧ U.heap = h0) (fun _ _ _ _ _ => True) (fun _ U o U' => ∃ v L, o = .returned v ∧ Q14 Z n0 ex x A K S0 nc rv M' v U'.heap L ∧ FrameEnd U o U' L ({ frames := 1, cells := 0, slots := 0, locals := 15 } : Room).cells ({ frames := 1, cells := 0, slots := 0, locals := 15 } : Room).slots) := by
  refine MetFree.of_bodySF (plainFor_of_name pn_14) hisR ?_
  intro p e s m args below meth c s₁ Bd hml0 hP hK
  obtain ⟨rfl, hZ, hh⟩ := hP
  have hx := Bd.exec
  have hby := Bd.bytes
  have hml : c.maxLocals = 4 := hml0
  have hown : s.vm.findClass "com/example/onetree/onetree/EdgeStates" = some m.cls := findClass_of_methodNamed Bd.named
  have X0 : Stand p l e ({ frames := 1, cells := 0, slots := 0, locals := 15 } : Room) s m #[(.ref x), (.int p1), (.int p2)] below meth c s₁ [] 0 0 := Stand.of_body Bd
  have e0 : s₁.heap = h0 := by rw [← hh, Bd.state]; rfl
  have N0 := Fr.nil n0
  have pre0 : ∀ t, Steps p.tables e below (s₁.setTop (mkF m 0 #[.val (.ref x), .val (.int p1), .val (.int p2), .unset] [])) t → Steps p.tables e below (s₁.setTop (entryFrame m #[(.ref x), (.int p1), (.int p2)] 4)) t := fun t k => castTop (ef_14 m x A p1 p2) k
  generalize hE0 : s₁.setTop (entryFrame m #[(.ref x), (.int p1), (.int p2)] 4) = E0 at pre0 ⊢
  apply Classical.byContradiction
  intro hno
  unfold f14 at hf
  obtain ⟨T829, X829, e829, st829⟩ := getF X0 hx hZ hown (host := "") (Or.inl (hw _ (tk 22 rfl))) Via.refl e0 (B0.fld 1 rfl) (g := (mkF m 1 (lt19 x p1 p2) [(.ref x)])) rfl rfl (hb hby d14_1)
  obtain ⟨g830, hf831⟩ := own_gd hf
  clear hf
  obtain ⟨cl832, Ar832, hin832, hat832⟩ := B0.getS g830
  obtain ⟨g833, hf834⟩ := own_gd hf831
  clear hf831
  obtain ⟨v836, d_v836, hf837⟩ := own_nai hf834
  clear hf834
  obtain ⟨cl835, Ar835, hin835, hat835⟩ := B0.get (14 + ix p1) (B0.isS g830) (own_gS g833) d_v836
  have At835 := own_tyA Ar835
  have pre838 : Cm p e below E0 (T829.setTop (mkF m 10 (lt20 x p1 p2 v836) [(.int v836)])) := fun t kt => by
    refine pre0 t ?_
    show Sp p e below s₁ (mkF m 0 (lt19 x p1 p2) []) _
    refine XS.aloadN X0.here hx rfl (hb hby d14_0) rfl rfl ?_
    show Sp p e below s₁ (mkF m 1 (lt19 x p1 p2) [(.ref x)]) _
    refine st829 _ ?_
    show Sp p e below T829 (mkF m 4 (lt19 x p1 p2) [(.ref S0)]) _
    refine XS.iloadN X829.here hx rfl (hb hby d14_4) rfl ?_
    show Sp p e below T829 (mkF m 5 (lt19 x p1 p2) [(.int p1), (.ref S0)]) _
    refine X829.aaload hx (j := p1) (v := .ref (A (14 + ix p1))) (by rw [e829]; exact Ar832.1) (State.isArrayOf_alike hZ.alike Ar832.2.1) rfl Ar832.2.2 hin832 hat832 (g := (mkF m 5 (lt19 x p1 p2) [(.int p1), (.ref S0)])) rfl rfl (hb hby d14_5) _ ?_
    show Sp p e below T829 (mkF m 6 (lt19 x p1 p2) [(.ref (A (14 + ix p1)))]) _
    refine XS.iloadN X829.here hx rfl (hb hby d14_6) rfl ?_
    show Sp p e below T829 (mkF m 7 (lt19 x p1 p2) [(.int p2), (.ref (A (14 + ix p1)))]) _
    refine X829.baloadBytes hx (j := p2) (v := (.int v836)) (by rw [e829]; exact Ar835.1) (State.isArrayOf_alike hZ.alike At835.2.1) At835.2.2 hin835 hat835 (g := (mkF m 7 (lt19 x p1 p2) [(.int p2), (.ref (A (14 + ix p1)))])) rfl rfl (hb hby d14_7) _ ?_
    show Sp p e below T829 (mkF m 8 (lt19 x p1 p2) [(.int v836)]) _
    refine XS.istoreN X829.here hx rfl (hb hby d14_8) rfl (l' := (lt20 x p1 p2 v836)) rfl ?_
    refine XS.iloadN X829.here hx rfl (hb hby d14_9) rfl ?_
    show Sp p e below T829 (mkF m 10 (lt20 x p1 p2 v836) [(.int v836)]) _
    exact kt
  by_cases hc839 : v836 = (0 : Int32)
  · rw [own_eqT hc839] at hf837
    obtain ⟨v878, M878, hc878, hf879⟩ := own_bnd hf837
    clear hf837
    obtain ⟨cq878, q878, q878'⟩ := B0.exa.cell
    obtain ⟨_, _, ⟨T878, L878, k878, n878⟩, -, X878, ⟨Lc878, hQ878, l878, y878, z878⟩, st878⟩ := X829.privateBack hx (y := Y30) hown (mvT hZ (hw _ (tk 62 rfl))) (mvT hZ (hw _ (tk 63 rfl))) (own_selP rfl (mvT hZ (hw _ (tk 2 rfl))) (Cond.privateMethod_at (mvP hZ (hw _ (tk 64 rfl)) (args := #[]))) (mvT hZ (hw _ (tk 63 rfl))) (by decide)) (Cond.privateMethod_at (mvP hZ (hw _ (tk 64 rfl)) (args := #[]))) (mvT hZ (hw _ (tk 65 rfl))) (by decide) (backOf (W := 0) (rm8 l Z a0 hw [] hSl ex x A K S0 nc M p1 p2 (2 : Int32) v878 M878 h0 n0 O0 B0 hc878) hZ (hw _ (tk 65 rfl)) (hw _ (tk 3 rfl)) (by decide) (by decide)) (g := (mkF m 28 (lt20 x p1 p2 v836) [(.int 2), (.int p2), (.int p1), (.ref x)])) rfl (by rw [hml]; rfl) (Steps.refl _) (a := x) (by rw [e829]; exact q878) q878' (argsL := [(.int p1), (.int p2), (.int 2)]) (rest := []) (lenOf pd_4 rfl) rfl (by show 2 * 0 + _ ≤ _; exact Nat.le_of_eq rfl) (hb hby d14_28) (fun _ _ => ⟨rfl, e829, (by decide : 0 + 0 ≤ _), (by decide : 0 + 0 ≤ _)⟩)
    dsimp only [Pt.U, Pt.locs, Pt.cells, Pt.slots] at X878 l878 y878 z878 st878 hQ878
    rw [l878, y878, z878] at X878
    obtain ⟨rv878, N878q, O878, B878⟩ := hQ878
    subst rv878
    have N878 := Fr.app N0 N878q
    obtain ⟨T880, X880, e880, st880⟩ := getF X878 hx hZ hown (host := "") (Or.inl (hw _ (tk 27 rfl))) Via.refl rfl (B878.fld 3 rfl) (g := (mkF m 32 (lt20 x p1 p2 v836) [(.ref x)])) rfl rfl (hb hby d14_32)
    obtain ⟨g881, hf882⟩ := own_gd hf879
    clear hf879
    obtain ⟨v884, d_v884, hf885⟩ := own_nai hf882
    clear hf882
    obtain ⟨cl883, Ar883, hin883, hat883⟩ := B878.get 1 (Or.inl (by decide)) g881 d_v884
    have At883 : Arr Z T878.heap (A 1) cl883 .int := Ar883
    obtain ⟨cl886, Ar886, hin886⟩ := B878.at 1 (Or.inl (by decide)) g881
    have At886 : Arr Z T878.heap (A 1) cl886 .int := Ar886
    obtain ⟨T887, h887, X887, e887, W887, st887⟩ := stI X880 hx hZ e880 At886 (j := p1) hin886 (g := (mkF m 40 (lt20 x p1 p2 v836) [(.int (v884 - 1)), (.int p1), (.ref (A 1))])) rfl rfl (hb hby d14_40)
    obtain ⟨M887, d_M887, hf888⟩ := own_nam hf885
    clear hf885
    have B887 := B878.wr (v := (v884 - 1)) 1 (Or.inl (by decide)) g881 W887 rfl
    rw [← d_M887] at B887
    have O887 := O878.wr W887 (B878.old 1 (Or.inl (by decide)))
    have N887 := Fr.snoc X887 N878 (B878.old 1 (Or.inl (by decide)))
    obtain ⟨T889, X889, e889, st889⟩ := getF X887 hx hZ hown (host := "") (Or.inl (hw _ (tk 27 rfl))) Via.refl e887 (B887.fld 3 rfl) (g := (mkF m 42 (lt20 x p1 p2 v836) [(.ref x)])) rfl rfl (hb hby d14_42)
    obtain ⟨g890, hf891⟩ := own_gd hf888
    clear hf888
    obtain ⟨v893, d_v893, hf894⟩ := own_nai hf891
    clear hf891
    obtain ⟨cl892, Ar892, hin892, hat892⟩ := B887.get 1 (Or.inl (by decide)) g890 d_v893
    have At892 : Arr Z h887 (A 1) cl892 .int := Ar892
    obtain ⟨cl895, Ar895, hin895⟩ := B887.at 1 (Or.inl (by decide)) g890
    have At895 : Arr Z h887 (A 1) cl895 .int := Ar895
    obtain ⟨T896, h896, X896, e896, W896, st896⟩ := stI X889 hx hZ e889 At895 (j := p2) hin895 (g := (mkF m 50 (lt20 x p1 p2 v836) [(.int (v893 - 1)), (.int p2), (.ref (A 1))])) rfl rfl (hb hby d14_50)
    obtain ⟨M896, d_M896, hf897⟩ := own_nam hf894
    clear hf894
    have B896 := B887.wr (v := (v893 - 1)) 1 (Or.inl (by decide)) g890 W896 rfl
    rw [← d_M896] at B896
    have O896 := O887.wr W896 (B887.old 1 (Or.inl (by decide)))
    have N896 := Fr.snoc X896 N887 (B887.old 1 (Or.inl (by decide)))
    obtain ⟨v928, M928, hc928, hf929⟩ := own_bnd hf897
    clear hf897
    obtain ⟨cq928, q928, q928'⟩ := B896.exa.cell
    obtain ⟨_, _, ⟨T928, L928, k928, n928⟩, -, X928, ⟨Lc928, hQ928, l928, y928, z928⟩, st928⟩ := X896.privateBack hx (y := Y31) hown (mvT hZ (hw _ (tk 70 rfl))) (mvT hZ (hw _ (tk 71 rfl))) (own_selP rfl (mvT hZ (hw _ (tk 2 rfl))) (Cond.privateMethod_at (mvP hZ (hw _ (tk 72 rfl)) (args := #[]))) (mvT hZ (hw _ (tk 71 rfl))) (by decide)) (Cond.privateMethod_at (mvP hZ (hw _ (tk 72 rfl)) (args := #[]))) (mvT hZ (hw _ (tk 73 rfl))) (by decide) (backOf (W := 0) (rm9 l Z a0 hw [] hSl ex x A K S0 nc M896 p1 v928 M928 h896 n0 O896 B896 hc928) hZ (hw _ (tk 73 rfl)) (hw _ (tk 3 rfl)) (by decide) (by decide)) (g := (mkF m 53 (lt20 x p1 p2 v836) [(.int p1), (.ref x)])) rfl (by rw [hml]; rfl) (Steps.refl _) (a := x) (by rw [e896]; exact q928) q928' (argsL := [(.int p1)]) (rest := []) (lenOf pd_3 rfl) rfl (by show 2 * 0 + _ ≤ _; exact Nat.le_of_eq rfl) (hb hby d14_53) (fun _ _ => ⟨rfl, e896, (by decide : 0 + 0 ≤ _), (by decide : 0 + 0 ≤ _)⟩)
    dsimp only [Pt.U, Pt.locs, Pt.cells, Pt.slots] at X928 l928 y928 z928 st928 hQ928
    rw [l928, y928, z928] at X928
    obtain ⟨rv928, N928q, O928, B928⟩ := hQ928
    subst rv928
    have N928 := Fr.app N896 N928q
    obtain ⟨v930, M930, hc930, hf931⟩ := own_bnd hf929
    clear hf929
    obtain ⟨cq930, q930, q930'⟩ := B928.exa.cell
    obtain ⟨_, _, ⟨T930, L930, k930, n930⟩, -, X930, ⟨Lc930, hQ930, l930, y930, z930⟩, st930⟩ := X928.privateBack hx (y := Y31) hown (mvT hZ (hw _ (tk 70 rfl))) (mvT hZ (hw _ (tk 71 rfl))) (own_selP rfl (mvT hZ (hw _ (tk 2 rfl))) (Cond.privateMethod_at (mvP hZ (hw _ (tk 72 rfl)) (args := #[]))) (mvT hZ (hw _ (tk 71 rfl))) (by decide)) (Cond.privateMethod_at (mvP hZ (hw _ (tk 72 rfl)) (args := #[]))) (mvT hZ (hw _ (tk 73 rfl))) (by decide) (backOf (W := 0) (rm9 l Z a0 hw [] hSl ex x A K S0 nc M928 p2 v930 M930 T928.heap n0 O928 B928 hc930) hZ (hw _ (tk 73 rfl)) (hw _ (tk 3 rfl)) (by decide) (by decide)) (g := (mkF m 58 (lt20 x p1 p2 v836) [(.int p2), (.ref x)])) rfl (by rw [hml]; rfl) (Steps.refl _) (a := x) q930 q930' (argsL := [(.int p2)]) (rest := []) (lenOf pd_3 rfl) rfl (by show 2 * 0 + _ ≤ _; exact Nat.le_of_eq rfl) (hb hby d14_58) (fun _ _ => ⟨rfl, rfl, (by decide : 0 + 0 ≤ _), (by decide : 0 + 0 ≤ _)⟩)
    dsimp only [Pt.U, Pt.locs, Pt.cells, Pt.slots] at X930 l930 y930 z930 st930 hQ930
    rw [l930, y930, z930] at X930
    obtain ⟨rv930, N930q, O930, B930⟩ := hQ930
    subst rv930
    have N930 := Fr.app N928 N930q
    obtain ⟨rfl, rfl⟩ := own_ret hf931
    obtain ⟨fs, hr, hrun, hended, hW, hsame⟩ := X930.leave (v := some (.int 1)) (fun h => by rw [Bd.returns] at h; cases h) (BodyLoose.notSynchronized Bd)
    refine hno ⟨_, _, pre838 _ ?_, hrun, hended, _, _, rfl, ?_, ⟨_, rfl⟩, hW, hsame.mono (by decide) (by decide)⟩
    · show Sp p e below T829 (mkF m 10 (lt20 x p1 p2 v836) [(.int v836)]) _
      refine XS.ifYes X829.here hx rfl (pc0 := 10) (pc' := 24) rfl (hb hby d14_10) rfl ((if0 _ _).trans (teq hc839).1) (by decide) (by decide) ?_
      show Sp p e below T829 (mkF m 24 (lt20 x p1 p2 v836) []) _
      refine XS.aloadN X829.here hx rfl (hb hby d14_24) rfl rfl ?_
      refine XS.iloadN X829.here hx rfl (hb hby d14_25) rfl ?_
      show Sp p e below T829 (mkF m 26 (lt20 x p1 p2 v836) [(.int p1), (.ref x)]) _
      refine XS.iloadN X829.here hx rfl (hb hby d14_26) rfl ?_
      refine XS.iconst X829.here hx rfl (hb hby d14_27) ?_
      show Sp p e below T829 (mkF m 28 (lt20 x p1 p2 v836) [(.int 2), (.int p2), (.int p1), (.ref x)]) _
      refine st878.trans ?_
      show Sp p e below T878 (mkF m 31 (lt20 x p1 p2 v836) []) _
      refine XS.aloadN X878.here hx rfl (hb hby d14_31) rfl rfl ?_
      show Sp p e below T878 (mkF m 32 (lt20 x p1 p2 v836) [(.ref x)]) _
      refine st880 _ ?_
      show Sp p e below T880 (mkF m 35 (lt20 x p1 p2 v836) [(.ref (A 1))]) _
      refine XS.iloadN X880.here hx rfl (hb hby d14_35) rfl ?_
      show Sp p e below T880 (mkF m 36 (lt20 x p1 p2 v836) [(.int p1), (.ref (A 1))]) _
      refine XT.dup2 X880.here hx rfl (hb hby d14_36) rfl rfl rfl ?_
      show Sp p e below T880 (mkF m 37 (lt20 x p1 p2 v836) [(.int p1), (.ref (A 1)), (.int p1), (.ref (A 1))]) _
      refine X880.iaload hx (j := p1) (v := (.int v884)) (by rw [e880]; exact Ar883.1) (State.isArrayOf_alike hZ.alike At883.2.1) At883.2.2 hin883 hat883 (g := (mkF m 37 (lt20 x p1 p2 v836) [(.int p1), (.ref (A 1)), (.int p1), (.ref (A 1))])) rfl rfl (hb hby d14_37) _ ?_
      show Sp p e below T880 (mkF m 38 (lt20 x p1 p2 v836) [(.int v884), (.int p1), (.ref (A 1))]) _
      refine XS.iconst X880.here hx rfl (hb hby d14_38) ?_
      refine XS.isub X880.here hx rfl (hb hby d14_39) rfl ?_
      show Sp p e below T880 (mkF m 40 (lt20 x p1 p2 v836) [(.int (v884 - 1)), (.int p1), (.ref (A 1))]) _
      refine st887 _ ?_
      show Sp p e below T887 (mkF m 41 (lt20 x p1 p2 v836) []) _
      refine XS.aloadN X887.here hx rfl (hb hby d14_41) rfl rfl ?_
      show Sp p e below T887 (mkF m 42 (lt20 x p1 p2 v836) [(.ref x)]) _
      refine st889 _ ?_
      show Sp p e below T889 (mkF m 45 (lt20 x p1 p2 v836) [(.ref (A 1))]) _
      refine XS.iloadN X889.here hx rfl (hb hby d14_45) rfl ?_
      show Sp p e below T889 (mkF m 46 (lt20 x p1 p2 v836) [(.int p2), (.ref (A 1))]) _
      refine XT.dup2 X889.here hx rfl (hb hby d14_46) rfl rfl rfl ?_
      show Sp p e below T889 (mkF m 47 (lt20 x p1 p2 v836) [(.int p2), (.ref (A 1)), (.int p2), (.ref (A 1))]) _
      refine X889.iaload hx (j := p2) (v := (.int v893)) (by rw [e889]; exact Ar892.1) (State.isArrayOf_alike hZ.alike At892.2.1) At892.2.2 hin892 hat892 (g := (mkF m 47 (lt20 x p1 p2 v836) [(.int p2), (.ref (A 1)), (.int p2), (.ref (A 1))])) rfl rfl (hb hby d14_47) _ ?_
      show Sp p e below T889 (mkF m 48 (lt20 x p1 p2 v836) [(.int v893), (.int p2), (.ref (A 1))]) _
      refine XS.iconst X889.here hx rfl (hb hby d14_48) ?_
      refine XS.isub X889.here hx rfl (hb hby d14_49) rfl ?_
      show Sp p e below T889 (mkF m 50 (lt20 x p1 p2 v836) [(.int (v893 - 1)), (.int p2), (.ref (A 1))]) _
      refine st896 _ ?_
      show Sp p e below T896 (mkF m 51 (lt20 x p1 p2 v836) []) _
      refine XS.aloadN X896.here hx rfl (hb hby d14_51) rfl rfl ?_
      refine XS.iloadN X896.here hx rfl (hb hby d14_52) rfl ?_
      show Sp p e below T896 (mkF m 53 (lt20 x p1 p2 v836) [(.int p1), (.ref x)]) _
      refine st928.trans ?_
      show Sp p e below T928 (mkF m 56 (lt20 x p1 p2 v836) []) _
      refine XS.aloadN X928.here hx rfl (hb hby d14_56) rfl rfl ?_
      refine XS.iloadN X928.here hx rfl (hb hby d14_57) rfl ?_
      show Sp p e below T928 (mkF m 58 (lt20 x p1 p2 v836) [(.int p2), (.ref x)]) _
      refine st930.trans ?_
      show Sp p e below T930 (mkF m 61 (lt20 x p1 p2 v836) []) _
      refine XS.iconst X930.here hx rfl (hb hby d14_61) ?_
      show Sp p e below T930 (mkF m 62 (lt20 x p1 p2 v836) [(.int 1)]) _
      exact retN X930 hx (t := .boolean) Bd.returns (by simp) (hb hby d14_62) hr
    · show Q14 Z n0 ex x A K S0 nc _ _ _ T930.heap _
      exact ⟨rfl, N930, O930, B930⟩
  · rw [own_eqF hc839] at hf837
    have pre932 : Cm p e below E0 (T829.setTop (mkF m 15 (lt20 x p1 p2 v836) [(.int 2), (.int v836)])) := fun t kt => by
      refine pre838 t ?_
      show Sp p e below T829 (mkF m 10 (lt20 x p1 p2 v836) [(.int v836)]) _
      refine XS.ifNo X829.here hx rfl (hb hby d14_10) rfl ((if0 _ _).trans (feq hc839).1) ?_
      show Sp p e below T829 (mkF m 13 (lt20 x p1 p2 v836) []) _
      refine XS.iloadN X829.here hx rfl (hb hby d14_13) rfl ?_
      refine XS.iconst X829.here hx rfl (hb hby d14_14) ?_
      show Sp p e below T829 (mkF m 15 (lt20 x p1 p2 v836) [(.int 2), (.int v836)]) _
      exact kt
    by_cases hc933 : v836 = (2 : Int32)
    · rw [own_eqT hc933] at hf837
      obtain ⟨rfl, rfl⟩ := own_ret hf837
      obtain ⟨fs, hr, hrun, hended, hW, hsame⟩ := X829.leave (v := some (.int 1)) (fun h => by rw [Bd.returns] at h; cases h) (BodyLoose.notSynchronized Bd)
      refine hno ⟨_, _, pre932 _ ?_, hrun, hended, _, _, rfl, ?_, ⟨_, rfl⟩, hW, hsame.mono (by decide) (by decide)⟩
      · show Sp p e below T829 (mkF m 15 (lt20 x p1 p2 v836) [(.int 2), (.int v836)]) _
        refine XS.icmpNo X829.here hx rfl (hb hby d14_15) rfl (teq hc933).2 ?_
        show Sp p e below T829 (mkF m 18 (lt20 x p1 p2 v836) []) _
        refine XS.iconst X829.here hx rfl (hb hby d14_18) ?_
        show Sp p e below T829 (mkF m 19 (lt20 x p1 p2 v836) [(.int 1)]) _
        refine XS.goto X829.here hx rfl (pc0 := 19) (pc' := 23) rfl (hb hby d14_19) (by decide) (by decide) ?_
        show Sp p e below T829 (mkF m 23 (lt20 x p1 p2 v836) [(.int 1)]) _
        exact retN X829 hx (t := .boolean) Bd.returns (by simp) (hb hby d14_23) hr
      · show Q14 Z n0 ex x A K S0 nc _ _ _ T829.heap _
        rw [e829]
        exact ⟨rfl, N0, O0, B0⟩
    · rw [own_eqF hc933] at hf837
      obtain ⟨rfl, rfl⟩ := own_ret hf837
      obtain ⟨fs, hr, hrun, hended, hW, hsame⟩ := X829.leave (v := some (.int 0)) (fun h => by rw [Bd.returns] at h; cases h) (BodyLoose.notSynchronized Bd)
      refine hno ⟨_, _, pre932 _ ?_, hrun, hended, _, _, rfl, ?_, ⟨_, rfl⟩, hW, hsame.mono (by decide) (by decide)⟩
      · show Sp p e below T829 (mkF m 15 (lt20 x p1 p2 v836) [(.int 2), (.int v836)]) _
        refine XS.icmpYes X829.here hx rfl (pc0 := 15) (pc' := 22) rfl (hb hby d14_15) rfl (feq hc933).2 (by decide) (by decide) ?_
        show Sp p e below T829 (mkF m 22 (lt20 x p1 p2 v836) []) _
        refine XS.iconst X829.here hx rfl (hb hby d14_22) ?_
        show Sp p e below T829 (mkF m 23 (lt20 x p1 p2 v836) [(.int 0)]) _
        exact retN X829 hx (t := .boolean) Bd.returns (by simp) (hb hby d14_23) hr
      · show Q14 Z n0 ex x A K S0 nc _ _ _ T829.heap _
        rw [e829]
        exact ⟨rfl, N0, O0, B0⟩
theorem pn_10 : plainName "com/example/onetree/onetree/EdgeStates" = true := by first | (simp [plainName, overriddenIn]; done) | decide +kernel
def f10 (nc : Nat) (M : MM) (p1 : Int32) (p2 : Int32) (p3 : Int32) : Option (Int32 × MM) := nai (ld M 9 0) fun v1090 => nam (sto M 9 0 (v1090 + (1 : Int32))) fun M1093 => gd (inr p1 (lnR nc 2)) (nai (ld M1093 2 (ix p1)) fun v1099 => gd (inr v1090 (lnR nc 6)) (nam (sto M1093 6 (ix v1090) v1099) fun M1104 => nai (ld M1104 9 0) fun v1107 => nam (sto M1104 9 0 (v1107 + (1 : Int32))) fun M1110 => gd (inr p1 (lnR nc 3)) (nai (ld M1110 3 (ix p1)) fun v1116 => gd (inr v1107 (lnR nc 6)) (nam (sto M1110 6 (ix v1107) v1116) fun M1121 => nai (ld M1121 9 0) fun v1124 => nam (sto M1121 9 0 (v1124 + (1 : Int32))) fun M1127 => gd (inr v1124 (lnR nc 6)) (nam (sto M1127 6 (ix v1124) (p1 ^^^ (-1 : Int32))) fun M1132 => nam (sto M1132 2 (ix p1) p2) fun M1136 => nam (sto M1136 3 (ix p1) p3) fun M1140 => some (0, M1140))))))
theorem ef_10 (m : MethodId) (x : Addr) (A : Nat → Addr) (p1 : Int32) (p2 : Int32) (p3 : Int32) : entryFrame m #[(.ref x), (.int p1), (.int p2), (.int p3)] 4 = mkF m 0 #[.val (.ref x), .val (.int p1), .val (.int p2), .val (.int p3)] [] := by first | (simp [entryFrame, mkF, argsToLocals, Value.category]; done) | rfl
def Q10 (Z : State) (n0 : Nat) (ex : Bool) (x : Addr) (A : Nat → Addr) (K : Nat → ClassId) (S0 : Addr) (nc : Nat) (rv : Int32) (M' : MM) (v : Option Value) (h : Heap) (L : List Loc) : Prop := v = none ∧ Fr n0 L ∧ Old Z n0 h ∧ EB Z n0 ex h x A K S0 nc M'
set_option maxRecDepth 65536 in
set_option maxHeartbeats 40000000 in
theorem rm10 (l : Launch) (Z : State) (a0 : Array Value) (hw : ∀ d ∈ tables_1, d.before a0 Z = true) (ws : List Jvm.Cond) (hSl : SlotsOK Z) (ex : Bool) (x : Addr) (A : Nat → Addr) (K : Nat → ClassId) (S0 : Addr) (nc : Nat) (M : MM) (p1 : Int32) (p2 : Int32) (p3 : Int32) (rv : Int32) (M' : MM) (h0 : Heap) (n0 : Nat) (O0 : Old Z n0 h0) (B0 : EB Z n0 ex h0 x A K S0 nc M) (hf : f10 nc M p1 p2 p3 = some (rv, M')) :
    MetFree l Y43 (head1 (Jvm.Cond.code Y43 prog_7_method_26_code 4 none :: ws) ({ frames := 0, cells := 0, slots := 0, locals := 0 } : Room)) (fun a U => a = #[(.ref x), (.int p1), (.int p2), (.int p3)] ∧ Z.Warmed39 U.vm ∧ U.heap = h0) (fun _ _ _ _ _ => True) (fun _ U o U' => ∃ v L, o = .returned v ∧ Q10 Z n0 ex x A K S0 nc rv M' v U'.heap L ∧ FrameEnd U o U' L ({ frames := 0, cells := 0, slots := 0, locals := 0 } : Room).cells ({ frames := 0, cells := 0, slots := 0, locals := 0 } : Room).slots) := by
  refine MetFree.of_bodySF (plainFor_of_name pn_10) hisR ?_
  intro p e s m args below meth c s₁ Bd hml0 hP hK
  obtain ⟨rfl, hZ, hh⟩ := hP
  have hx := Bd.exec
  have hby := Bd.bytes
  have hml : c.maxLocals = 4 := hml0
  have hown : s.vm.findClass "com/example/onetree/onetree/EdgeStates" = some m.cls := findClass_of_methodNamed Bd.named
  have X0 : Stand p l e ({ frames := 0, cells := 0, slots := 0, locals := 0 } : Room) s m #[(.ref x), (.int p1), (.int p2), (.int p3)] below meth c s₁ [] 0 0 := Stand.of_body Bd
  have e0 : s₁.heap = h0 := by rw [← hh, Bd.state]; rfl
  have N0 := Fr.nil n0
  have pre0 : ∀ t, Steps p.tables e below (s₁.setTop (mkF m 0 #[.val (.ref x), .val (.int p1), .val (.int p2), .val (.int p3)] [])) t → Steps p.tables e below (s₁.setTop (entryFrame m #[(.ref x), (.int p1), (.int p2), (.int p3)] 4)) t := fun t k => castTop (ef_10 m x A p1 p2 p3) k
  generalize hE0 : s₁.setTop (entryFrame m #[(.ref x), (.int p1), (.int p2), (.int p3)] 4) = E0 at pre0 ⊢
  apply Classical.byContradiction
  intro hno
  unfold f10 at hf
  obtain ⟨T1089, X1089, e1089, st1089⟩ := getF X0 hx hZ hown (host := "") (Or.inl (hw _ (tk 38 rfl))) Via.refl e0 (B0.fld 8 rfl) (g := (mkF m 1 (lt20 x p1 p2 p3) [(.ref x)])) rfl rfl (hb hby d10_1)
  obtain ⟨v1090, d_v1090, hf1091⟩ := own_nai hf
  clear hf
  obtain ⟨T1092, X1092, e1092, st1092⟩ := getF X1089 hx hZ hown (host := "") (Or.inl (hw _ (tk 68 rfl))) Via.refl e1089 (own_rwF d_v1090 (B0.sca 0 rfl)) (g := (mkF m 6 (lt20 x p1 p2 p3) [(.ref x), (.ref x), (.ref (A 6))])) rfl rfl (hb hby d10_6)
  obtain ⟨T1093, h1093, X1093, e1093, W1093, st1093⟩ := putF X1092 hx hZ hown (host := "") (Or.inl (hw _ (tk 68 rfl))) Via.refl e1092 (B0.sca 0 rfl) B0.exa (Or.inl (hw _ (tk 69 rfl))) (hw _ (tk 2 rfl)) (ty := .int) (by decide) rfl rfl (g := (mkF m 12 (lt20 x p1 p2 p3) [(.int (v1090 + 1)), (.ref x), (.int v1090), (.ref (A 6))])) rfl rfl (hb hby d10_12)
  obtain ⟨M1093, d_M1093, hf1094⟩ := own_nam hf1091
  clear hf1091
  have B1093 := B0.put hSl 0 rfl W1093
  rw [← d_M1093] at B1093
  have O1093 := O0.wr W1093 B0.oldx
  have N1093 := Fr.snoc X1093 N0 B0.oldx
  obtain ⟨T1095, X1095, e1095, st1095⟩ := getF X1093 hx hZ hown (host := "") (Or.inl (hw _ (tk 40 rfl))) Via.refl e1093 (B1093.fld 4 rfl) (g := (mkF m 16 (lt20 x p1 p2 p3) [(.ref x), (.int v1090), (.ref (A 6))])) rfl rfl (hb hby d10_16)
  obtain ⟨g1096, hf1097⟩ := own_gd hf1094
  clear hf1094
  obtain ⟨v1099, d_v1099, hf1100⟩ := own_nai hf1097
  clear hf1097
  obtain ⟨cl1098, Ar1098, hin1098, hat1098⟩ := B1093.get 2 (Or.inl (by decide)) g1096 d_v1099
  have At1098 : Arr Z h1093 (A 2) cl1098 .int := Ar1098
  obtain ⟨g1101, hf1102⟩ := own_gd hf1100
  clear hf1100
  obtain ⟨cl1103, Ar1103, hin1103⟩ := B1093.at 6 (Or.inl (by decide)) g1101
  have At1103 : Arr Z h1093 (A 6) cl1103 .int := Ar1103
  obtain ⟨T1104, h1104, X1104, e1104, W1104, st1104⟩ := stI X1095 hx hZ e1095 At1103 (j := v1090) hin1103 (g := (mkF m 21 (lt20 x p1 p2 p3) [(.int v1099), (.int v1090), (.ref (A 6))])) rfl rfl (hb hby d10_21)
  obtain ⟨M1104, d_M1104, hf1105⟩ := own_nam hf1102
  clear hf1102
  have B1104 := B1093.wr (v := v1099) 6 (Or.inl (by decide)) g1101 W1104 rfl
  rw [← d_M1104] at B1104
  have O1104 := O1093.wr W1104 (B1093.old 6 (Or.inl (by decide)))
  have N1104 := Fr.snoc X1104 N1093 (B1093.old 6 (Or.inl (by decide)))
  obtain ⟨T1106, X1106, e1106, st1106⟩ := getF X1104 hx hZ hown (host := "") (Or.inl (hw _ (tk 38 rfl))) Via.refl e1104 (B1104.fld 8 rfl) (g := (mkF m 23 (lt20 x p1 p2 p3) [(.ref x)])) rfl rfl (hb hby d10_23)
  obtain ⟨v1107, d_v1107, hf1108⟩ := own_nai hf1105
  clear hf1105
  obtain ⟨T1109, X1109, e1109, st1109⟩ := getF X1106 hx hZ hown (host := "") (Or.inl (hw _ (tk 68 rfl))) Via.refl e1106 (own_rwF d_v1107 (B1104.sca 0 rfl)) (g := (mkF m 28 (lt20 x p1 p2 p3) [(.ref x), (.ref x), (.ref (A 6))])) rfl rfl (hb hby d10_28)
  obtain ⟨T1110, h1110, X1110, e1110, W1110, st1110⟩ := putF X1109 hx hZ hown (host := "") (Or.inl (hw _ (tk 68 rfl))) Via.refl e1109 (B1104.sca 0 rfl) B1104.exa (Or.inl (hw _ (tk 69 rfl))) (hw _ (tk 2 rfl)) (ty := .int) (by decide) rfl rfl (g := (mkF m 34 (lt20 x p1 p2 p3) [(.int (v1107 + 1)), (.ref x), (.int v1107), (.ref (A 6))])) rfl rfl (hb hby d10_34)
  obtain ⟨M1110, d_M1110, hf1111⟩ := own_nam hf1108
  clear hf1108
  have B1110 := B1104.put hSl 0 rfl W1110
  rw [← d_M1110] at B1110
  have O1110 := O1104.wr W1110 B1104.oldx
  have N1110 := Fr.snoc X1110 N1104 B1104.oldx
  obtain ⟨T1112, X1112, e1112, st1112⟩ := getF X1110 hx hZ hown (host := "") (Or.inl (hw _ (tk 42 rfl))) Via.refl e1110 (B1110.fld 5 rfl) (g := (mkF m 38 (lt20 x p1 p2 p3) [(.ref x), (.int v1107), (.ref (A 6))])) rfl rfl (hb hby d10_38)
  obtain ⟨g1113, hf1114⟩ := own_gd hf1111
  clear hf1111
  obtain ⟨v1116, d_v1116, hf1117⟩ := own_nai hf1114
  clear hf1114
  obtain ⟨cl1115, Ar1115, hin1115, hat1115⟩ := B1110.get 3 (Or.inl (by decide)) g1113 d_v1116
  have At1115 : Arr Z h1110 (A 3) cl1115 .int := Ar1115
  obtain ⟨g1118, hf1119⟩ := own_gd hf1117
  clear hf1117
  obtain ⟨cl1120, Ar1120, hin1120⟩ := B1110.at 6 (Or.inl (by decide)) g1118
  have At1120 : Arr Z h1110 (A 6) cl1120 .int := Ar1120
  obtain ⟨T1121, h1121, X1121, e1121, W1121, st1121⟩ := stI X1112 hx hZ e1112 At1120 (j := v1107) hin1120 (g := (mkF m 43 (lt20 x p1 p2 p3) [(.int v1116), (.int v1107), (.ref (A 6))])) rfl rfl (hb hby d10_43)
  obtain ⟨M1121, d_M1121, hf1122⟩ := own_nam hf1119
  clear hf1119
  have B1121 := B1110.wr (v := v1116) 6 (Or.inl (by decide)) g1118 W1121 rfl
  rw [← d_M1121] at B1121
  have O1121 := O1110.wr W1121 (B1110.old 6 (Or.inl (by decide)))
  have N1121 := Fr.snoc X1121 N1110 (B1110.old 6 (Or.inl (by decide)))
  obtain ⟨T1123, X1123, e1123, st1123⟩ := getF X1121 hx hZ hown (host := "") (Or.inl (hw _ (tk 38 rfl))) Via.refl e1121 (B1121.fld 8 rfl) (g := (mkF m 45 (lt20 x p1 p2 p3) [(.ref x)])) rfl rfl (hb hby d10_45)
  obtain ⟨v1124, d_v1124, hf1125⟩ := own_nai hf1122
  clear hf1122
  obtain ⟨T1126, X1126, e1126, st1126⟩ := getF X1123 hx hZ hown (host := "") (Or.inl (hw _ (tk 68 rfl))) Via.refl e1123 (own_rwF d_v1124 (B1121.sca 0 rfl)) (g := (mkF m 50 (lt20 x p1 p2 p3) [(.ref x), (.ref x), (.ref (A 6))])) rfl rfl (hb hby d10_50)
  obtain ⟨T1127, h1127, X1127, e1127, W1127, st1127⟩ := putF X1126 hx hZ hown (host := "") (Or.inl (hw _ (tk 68 rfl))) Via.refl e1126 (B1121.sca 0 rfl) B1121.exa (Or.inl (hw _ (tk 69 rfl))) (hw _ (tk 2 rfl)) (ty := .int) (by decide) rfl rfl (g := (mkF m 56 (lt20 x p1 p2 p3) [(.int (v1124 + 1)), (.ref x), (.int v1124), (.ref (A 6))])) rfl rfl (hb hby d10_56)
  obtain ⟨M1127, d_M1127, hf1128⟩ := own_nam hf1125
  clear hf1125
  have B1127 := B1121.put hSl 0 rfl W1127
  rw [← d_M1127] at B1127
  have O1127 := O1121.wr W1127 B1121.oldx
  have N1127 := Fr.snoc X1127 N1121 B1121.oldx
  obtain ⟨g1129, hf1130⟩ := own_gd hf1128
  clear hf1128
  obtain ⟨cl1131, Ar1131, hin1131⟩ := B1127.at 6 (Or.inl (by decide)) g1129
  have At1131 : Arr Z h1127 (A 6) cl1131 .int := Ar1131
  obtain ⟨T1132, h1132, X1132, e1132, W1132, st1132⟩ := stI X1127 hx hZ e1127 At1131 (j := v1124) hin1131 (g := (mkF m 62 (lt20 x p1 p2 p3) [(.int (p1 ^^^ (-1))), (.int v1124), (.ref (A 6))])) rfl rfl (hb hby d10_62)
  obtain ⟨M1132, d_M1132, hf1133⟩ := own_nam hf1130
  clear hf1130
  have B1132 := B1127.wr (v := (p1 ^^^ (-1))) 6 (Or.inl (by decide)) g1129 W1132 rfl
  rw [← d_M1132] at B1132
  have O1132 := O1127.wr W1132 (B1127.old 6 (Or.inl (by decide)))
  have N1132 := Fr.snoc X1132 N1127 (B1127.old 6 (Or.inl (by decide)))
  obtain ⟨T1134, X1134, e1134, st1134⟩ := getF X1132 hx hZ hown (host := "") (Or.inl (hw _ (tk 40 rfl))) Via.refl e1132 (B1132.fld 4 rfl) (g := (mkF m 64 (lt20 x p1 p2 p3) [(.ref x)])) rfl rfl (hb hby d10_64)
  obtain ⟨cl1135, Ar1135, hin1135⟩ := B1132.at 2 (Or.inl (by decide)) g1096
  have At1135 : Arr Z h1132 (A 2) cl1135 .int := Ar1135
  obtain ⟨T1136, h1136, X1136, e1136, W1136, st1136⟩ := stI X1134 hx hZ e1134 At1135 (j := p1) hin1135 (g := (mkF m 69 (lt20 x p1 p2 p3) [(.int p2), (.int p1), (.ref (A 2))])) rfl rfl (hb hby d10_69)
  obtain ⟨M1136, d_M1136, hf1137⟩ := own_nam hf1133
  clear hf1133
  have B1136 := B1132.wr (v := p2) 2 (Or.inl (by decide)) g1096 W1136 rfl
  rw [← d_M1136] at B1136
  have O1136 := O1132.wr W1136 (B1132.old 2 (Or.inl (by decide)))
  have N1136 := Fr.snoc X1136 N1132 (B1132.old 2 (Or.inl (by decide)))
  obtain ⟨T1138, X1138, e1138, st1138⟩ := getF X1136 hx hZ hown (host := "") (Or.inl (hw _ (tk 42 rfl))) Via.refl e1136 (B1136.fld 5 rfl) (g := (mkF m 71 (lt20 x p1 p2 p3) [(.ref x)])) rfl rfl (hb hby d10_71)
  obtain ⟨cl1139, Ar1139, hin1139⟩ := B1136.at 3 (Or.inl (by decide)) g1113
  have At1139 : Arr Z h1136 (A 3) cl1139 .int := Ar1139
  obtain ⟨T1140, h1140, X1140, e1140, W1140, st1140⟩ := stI X1138 hx hZ e1138 At1139 (j := p1) hin1139 (g := (mkF m 76 (lt20 x p1 p2 p3) [(.int p3), (.int p1), (.ref (A 3))])) rfl rfl (hb hby d10_76)
  obtain ⟨M1140, d_M1140, hf1141⟩ := own_nam hf1137
  clear hf1137
  have B1140 := B1136.wr (v := p3) 3 (Or.inl (by decide)) g1113 W1140 rfl
  rw [← d_M1140] at B1140
  have O1140 := O1136.wr W1140 (B1136.old 3 (Or.inl (by decide)))
  have N1140 := Fr.snoc X1140 N1136 (B1136.old 3 (Or.inl (by decide)))
  obtain ⟨rfl, rfl⟩ := own_ret hf1141
  obtain ⟨fs, hr, hrun, hended, hW, hsame⟩ := X1140.leave (v := none) (fun _ => rfl) (BodyLoose.notSynchronized Bd)
  refine hno ⟨_, _, pre0 _ ?_, hrun, hended, _, _, rfl, ?_, ⟨_, rfl⟩, hW, hsame.mono (by decide) (by decide)⟩
  · show Sp p e below s₁ (mkF m 0 (lt20 x p1 p2 p3) []) _
    refine XS.aloadN X0.here hx rfl (hb hby d10_0) rfl rfl ?_
    show Sp p e below s₁ (mkF m 1 (lt20 x p1 p2 p3) [(.ref x)]) _
    refine st1089 _ ?_
    show Sp p e below T1089 (mkF m 4 (lt20 x p1 p2 p3) [(.ref (A 6))]) _
    refine XS.aloadN X1089.here hx rfl (hb hby d10_4) rfl rfl ?_
    refine XS.dup X1089.here hx rfl (hb hby d10_5) rfl rfl ?_
    show Sp p e below T1089 (mkF m 6 (lt20 x p1 p2 p3) [(.ref x), (.ref x), (.ref (A 6))]) _
    refine st1092 _ ?_
    show Sp p e below T1092 (mkF m 9 (lt20 x p1 p2 p3) [(.int v1090), (.ref x), (.ref (A 6))]) _
    refine XS.dupX1 X1092.here hx rfl (hb hby d10_9) rfl rfl rfl ?_
    refine XS.iconst X1092.here hx rfl (hb hby d10_10) ?_
    show Sp p e below T1092 (mkF m 11 (lt20 x p1 p2 p3) [(.int 1), (.int v1090), (.ref x), (.int v1090), (.ref (A 6))]) _
    refine XS.iadd X1092.here hx rfl (hb hby d10_11) rfl ?_
    show Sp p e below T1092 (mkF m 12 (lt20 x p1 p2 p3) [(.int (v1090 + 1)), (.ref x), (.int v1090), (.ref (A 6))]) _
    refine st1093 _ ?_
    show Sp p e below T1093 (mkF m 15 (lt20 x p1 p2 p3) [(.int v1090), (.ref (A 6))]) _
    refine XS.aloadN X1093.here hx rfl (hb hby d10_15) rfl rfl ?_
    show Sp p e below T1093 (mkF m 16 (lt20 x p1 p2 p3) [(.ref x), (.int v1090), (.ref (A 6))]) _
    refine st1095 _ ?_
    show Sp p e below T1095 (mkF m 19 (lt20 x p1 p2 p3) [(.ref (A 2)), (.int v1090), (.ref (A 6))]) _
    refine XS.iloadN X1095.here hx rfl (hb hby d10_19) rfl ?_
    show Sp p e below T1095 (mkF m 20 (lt20 x p1 p2 p3) [(.int p1), (.ref (A 2)), (.int v1090), (.ref (A 6))]) _
    refine X1095.iaload hx (j := p1) (v := (.int v1099)) (by rw [e1095]; exact Ar1098.1) (State.isArrayOf_alike hZ.alike At1098.2.1) At1098.2.2 hin1098 hat1098 (g := (mkF m 20 (lt20 x p1 p2 p3) [(.int p1), (.ref (A 2)), (.int v1090), (.ref (A 6))])) rfl rfl (hb hby d10_20) _ ?_
    show Sp p e below T1095 (mkF m 21 (lt20 x p1 p2 p3) [(.int v1099), (.int v1090), (.ref (A 6))]) _
    refine st1104 _ ?_
    show Sp p e below T1104 (mkF m 22 (lt20 x p1 p2 p3) []) _
    refine XS.aloadN X1104.here hx rfl (hb hby d10_22) rfl rfl ?_
    show Sp p e below T1104 (mkF m 23 (lt20 x p1 p2 p3) [(.ref x)]) _
    refine st1106 _ ?_
    show Sp p e below T1106 (mkF m 26 (lt20 x p1 p2 p3) [(.ref (A 6))]) _
    refine XS.aloadN X1106.here hx rfl (hb hby d10_26) rfl rfl ?_
    refine XS.dup X1106.here hx rfl (hb hby d10_27) rfl rfl ?_
    show Sp p e below T1106 (mkF m 28 (lt20 x p1 p2 p3) [(.ref x), (.ref x), (.ref (A 6))]) _
    refine st1109 _ ?_
    show Sp p e below T1109 (mkF m 31 (lt20 x p1 p2 p3) [(.int v1107), (.ref x), (.ref (A 6))]) _
    refine XS.dupX1 X1109.here hx rfl (hb hby d10_31) rfl rfl rfl ?_
    refine XS.iconst X1109.here hx rfl (hb hby d10_32) ?_
    show Sp p e below T1109 (mkF m 33 (lt20 x p1 p2 p3) [(.int 1), (.int v1107), (.ref x), (.int v1107), (.ref (A 6))]) _
    refine XS.iadd X1109.here hx rfl (hb hby d10_33) rfl ?_
    show Sp p e below T1109 (mkF m 34 (lt20 x p1 p2 p3) [(.int (v1107 + 1)), (.ref x), (.int v1107), (.ref (A 6))]) _
    refine st1110 _ ?_
    show Sp p e below T1110 (mkF m 37 (lt20 x p1 p2 p3) [(.int v1107), (.ref (A 6))]) _
    refine XS.aloadN X1110.here hx rfl (hb hby d10_37) rfl rfl ?_
    show Sp p e below T1110 (mkF m 38 (lt20 x p1 p2 p3) [(.ref x), (.int v1107), (.ref (A 6))]) _
    refine st1112 _ ?_
    show Sp p e below T1112 (mkF m 41 (lt20 x p1 p2 p3) [(.ref (A 3)), (.int v1107), (.ref (A 6))]) _
    refine XS.iloadN X1112.here hx rfl (hb hby d10_41) rfl ?_
    show Sp p e below T1112 (mkF m 42 (lt20 x p1 p2 p3) [(.int p1), (.ref (A 3)), (.int v1107), (.ref (A 6))]) _
    refine X1112.iaload hx (j := p1) (v := (.int v1116)) (by rw [e1112]; exact Ar1115.1) (State.isArrayOf_alike hZ.alike At1115.2.1) At1115.2.2 hin1115 hat1115 (g := (mkF m 42 (lt20 x p1 p2 p3) [(.int p1), (.ref (A 3)), (.int v1107), (.ref (A 6))])) rfl rfl (hb hby d10_42) _ ?_
    show Sp p e below T1112 (mkF m 43 (lt20 x p1 p2 p3) [(.int v1116), (.int v1107), (.ref (A 6))]) _
    refine st1121 _ ?_
    show Sp p e below T1121 (mkF m 44 (lt20 x p1 p2 p3) []) _
    refine XS.aloadN X1121.here hx rfl (hb hby d10_44) rfl rfl ?_
    show Sp p e below T1121 (mkF m 45 (lt20 x p1 p2 p3) [(.ref x)]) _
    refine st1123 _ ?_
    show Sp p e below T1123 (mkF m 48 (lt20 x p1 p2 p3) [(.ref (A 6))]) _
    refine XS.aloadN X1123.here hx rfl (hb hby d10_48) rfl rfl ?_
    refine XS.dup X1123.here hx rfl (hb hby d10_49) rfl rfl ?_
    show Sp p e below T1123 (mkF m 50 (lt20 x p1 p2 p3) [(.ref x), (.ref x), (.ref (A 6))]) _
    refine st1126 _ ?_
    show Sp p e below T1126 (mkF m 53 (lt20 x p1 p2 p3) [(.int v1124), (.ref x), (.ref (A 6))]) _
    refine XS.dupX1 X1126.here hx rfl (hb hby d10_53) rfl rfl rfl ?_
    refine XS.iconst X1126.here hx rfl (hb hby d10_54) ?_
    show Sp p e below T1126 (mkF m 55 (lt20 x p1 p2 p3) [(.int 1), (.int v1124), (.ref x), (.int v1124), (.ref (A 6))]) _
    refine XS.iadd X1126.here hx rfl (hb hby d10_55) rfl ?_
    show Sp p e below T1126 (mkF m 56 (lt20 x p1 p2 p3) [(.int (v1124 + 1)), (.ref x), (.int v1124), (.ref (A 6))]) _
    refine st1127 _ ?_
    show Sp p e below T1127 (mkF m 59 (lt20 x p1 p2 p3) [(.int v1124), (.ref (A 6))]) _
    refine XS.iloadN X1127.here hx rfl (hb hby d10_59) rfl ?_
    refine XS.iconst X1127.here hx rfl (hb hby d10_60) ?_
    show Sp p e below T1127 (mkF m 61 (lt20 x p1 p2 p3) [(.int (-1)), (.int p1), (.int v1124), (.ref (A 6))]) _
    refine XS.ixor X1127.here hx rfl (hb hby d10_61) rfl ?_
    show Sp p e below T1127 (mkF m 62 (lt20 x p1 p2 p3) [(.int (p1 ^^^ (-1))), (.int v1124), (.ref (A 6))]) _
    refine st1132 _ ?_
    show Sp p e below T1132 (mkF m 63 (lt20 x p1 p2 p3) []) _
    refine XS.aloadN X1132.here hx rfl (hb hby d10_63) rfl rfl ?_
    show Sp p e below T1132 (mkF m 64 (lt20 x p1 p2 p3) [(.ref x)]) _
    refine st1134 _ ?_
    show Sp p e below T1134 (mkF m 67 (lt20 x p1 p2 p3) [(.ref (A 2))]) _
    refine XS.iloadN X1134.here hx rfl (hb hby d10_67) rfl ?_
    refine XS.iloadN X1134.here hx rfl (hb hby d10_68) rfl ?_
    show Sp p e below T1134 (mkF m 69 (lt20 x p1 p2 p3) [(.int p2), (.int p1), (.ref (A 2))]) _
    refine st1136 _ ?_
    show Sp p e below T1136 (mkF m 70 (lt20 x p1 p2 p3) []) _
    refine XS.aloadN X1136.here hx rfl (hb hby d10_70) rfl rfl ?_
    show Sp p e below T1136 (mkF m 71 (lt20 x p1 p2 p3) [(.ref x)]) _
    refine st1138 _ ?_
    show Sp p e below T1138 (mkF m 74 (lt20 x p1 p2 p3) [(.ref (A 3))]) _
    refine XS.iloadN X1138.here hx rfl (hb hby d10_74) rfl ?_
    refine XS.iloadN X1138.here hx rfl (hb hby d10_75) rfl ?_
    show Sp p e below T1138 (mkF m 76 (lt20 x p1 p2 p3) [(.int p3), (.int p1), (.ref (A 3))]) _
    refine st1140 _ ?_
    show Sp p e below T1140 (mkF m 77 (lt20 x p1 p2 p3) []) _
    exact X1140.returnOut hx Bd.returns (hb hby d10_77) hr
  · show Q10 Z n0 ex x A K S0 nc _ _ _ T1140.heap _
    rw [e1140]
    exact ⟨rfl, N1140, O1140, B1140⟩
theorem pn_7 : plainName "com/example/onetree/onetree/EdgeStates" = true := by first | (simp [plainName, overriddenIn]; done) | decide +kernel
def f7 (nc : Nat) (M : MM) (p1 : Int32) (p2 : Int32) : Option (Int32 × MM) := gd (inr p1 nc) (gd (inr p2 nc) (nai (ld M (14 + ix p1) (ix p2)) fun v1023 => cnd (eqB v1023 (0 : Int32)) (gd (inr p1 (lnR nc 0)) (nai (ld M 0 (ix p1)) fun v1031 => cnd (eqB v1031 (2 : Int32)) (some ((0 : Int32), M)) (gd (inr p2 (lnR nc 0)) (nai (ld M 0 (ix p2)) fun v1039 => cnd (eqB v1039 (2 : Int32)) (some ((0 : Int32), M)) (gd (inr p1 (lnR nc 2)) (nai (ld M 2 (ix p1)) fun v1047 => gd (inr p2 (lnR nc 2)) (nai (ld M 2 (ix p2)) fun v1053 => bnd (f8 nc M p1 p2 (1 : Int32)) fun v1055 M1055 => nai (ld M1055 0 (ix p1)) fun v1059 => nam (sto M1055 0 (ix p1) (v1059 + (1 : Int32))) fun M1062 => nai (ld M1062 0 (ix p2)) fun v1066 => nam (sto M1062 0 (ix p2) (v1066 + (1 : Int32))) fun M1069 => bnd (f9 nc M1069 p1) fun v1071 M1071 => bnd (f9 nc M1071 p2) fun v1073 M1073 => cnd (eqB v1047 p2) (some ((1 : Int32), M1073)) (gd (inr p1 (lnR nc 3)) (nai (ld M1073 3 (ix p1)) fun v1081 => gd (inr p2 (lnR nc 3)) (nai (ld M1073 3 (ix p2)) fun v1087 => bnd (f10 nc M1073 v1047 v1053 (v1081 + v1087)) fun v1142 M1142 => bnd (f10 nc M1142 v1053 v1047 (v1081 + v1087)) fun v1144 M1144 => cnd (eqB (v1081 + v1087) (Int32.ofNat nc)) (some ((1 : Int32), M1144)) (cnd (eqB (v1081 + v1087) (2 : Int32)) (some ((1 : Int32), M1144)) (bnd (f14 nc M1144 v1047 v1053) fun v1151 M1151 => cnd (eqB v1151 (0 : Int32)) (some ((0 : Int32), M1151)) (some ((1 : Int32), M1151)))))))))))))) (cnd (eqB v1023 (1 : Int32)) (some ((1 : Int32), M)) (some ((0 : Int32), M)))))
theorem ef_7 (m : MethodId) (x : Addr) (A : Nat → Addr) (p1 : Int32) (p2 : Int32) : entryFrame m #[(.ref x), (.int p1), (.int p2)] 7 = mkF m 0 #[.val (.ref x), .val (.int p1), .val (.int p2), .unset, .unset, .unset, .unset] [] := by first | (simp [entryFrame, mkF, argsToLocals, Value.category]; done) | rfl
def Q7 (Z : State) (n0 : Nat) (ex : Bool) (x : Addr) (A : Nat → Addr) (K : Nat → ClassId) (S0 : Addr) (nc : Nat) (rv : Int32) (M' : MM) (v : Option Value) (h : Heap) (L : List Loc) : Prop := v = some (.int rv) ∧ Fr n0 L ∧ Old Z n0 h ∧ EB Z n0 ex h x A K S0 nc M'
set_option maxRecDepth 65536 in
set_option maxHeartbeats 40000000 in
theorem rm7 (l : Launch) (Z : State) (a0 : Array Value) (hw : ∀ d ∈ tables_1, d.before a0 Z = true) (ws : List Jvm.Cond) (hSl : SlotsOK Z) (ex : Bool) (x : Addr) (A : Nat → Addr) (K : Nat → ClassId) (S0 : Addr) (nc : Nat) (M : MM) (p1 : Int32) (p2 : Int32) (rv : Int32) (M' : MM) (h0 : Heap) (n0 : Nat) (O0 : Old Z n0 h0) (B0 : EB Z n0 ex h0 x A K S0 nc M) (hf : f7 nc M p1 p2 = some (rv, M')) :
    MetFree l Y44 (head1 (Jvm.Cond.code Y44 prog_7_method_20_code 7 (some .boolean) :: ws) ({ frames := 2, cells := 0, slots := 0, locals := 30 } : Room)) (fun a U => a = #[(.ref x), (.int p1), (.int p2)] ∧ Z.Warmed39 U.vm ∧ U.heap = h0) (fun _ _ _ _ _ => True) (fun _ U o U' => ∃ v L, o = .returned v ∧ Q7 Z n0 ex x A K S0 nc rv M' v U'.heap L ∧ FrameEnd U o U' L ({ frames := 2, cells := 0, slots := 0, locals := 30 } : Room).cells ({ frames := 2, cells := 0, slots := 0, locals := 30 } : Room).slots) := by
  refine MetFree.of_bodySF (plainFor_of_name pn_7) hisR ?_
  intro p e s m args below meth c s₁ Bd hml0 hP hK
  obtain ⟨rfl, hZ, hh⟩ := hP
  have hx := Bd.exec
  have hby := Bd.bytes
  have hml : c.maxLocals = 7 := hml0
  have hown : s.vm.findClass "com/example/onetree/onetree/EdgeStates" = some m.cls := findClass_of_methodNamed Bd.named
  have X0 : Stand p l e ({ frames := 2, cells := 0, slots := 0, locals := 30 } : Room) s m #[(.ref x), (.int p1), (.int p2)] below meth c s₁ [] 0 0 := Stand.of_body Bd
  have e0 : s₁.heap = h0 := by rw [← hh, Bd.state]; rfl
  have N0 := Fr.nil n0
  have pre0 : ∀ t, Steps p.tables e below (s₁.setTop (mkF m 0 #[.val (.ref x), .val (.int p1), .val (.int p2), .unset, .unset, .unset, .unset] [])) t → Steps p.tables e below (s₁.setTop (entryFrame m #[(.ref x), (.int p1), (.int p2)] 7)) t := fun t k => castTop (ef_7 m x A p1 p2) k
  generalize hE0 : s₁.setTop (entryFrame m #[(.ref x), (.int p1), (.int p2)] 7) = E0 at pre0 ⊢
  apply Classical.byContradiction
  intro hno
  unfold f7 at hf
  obtain ⟨T1016, X1016, e1016, st1016⟩ := getF X0 hx hZ hown (host := "") (Or.inl (hw _ (tk 22 rfl))) Via.refl e0 (B0.fld 1 rfl) (g := (mkF m 1 (lt32 x p1 p2) [(.ref x)])) rfl rfl (hb hby d7_1)
  obtain ⟨g1017, hf1018⟩ := own_gd hf
  clear hf
  obtain ⟨cl1019, Ar1019, hin1019, hat1019⟩ := B0.getS g1017
  obtain ⟨g1020, hf1021⟩ := own_gd hf1018
  clear hf1018
  obtain ⟨v1023, d_v1023, hf1024⟩ := own_nai hf1021
  clear hf1021
  obtain ⟨cl1022, Ar1022, hin1022, hat1022⟩ := B0.get (14 + ix p1) (B0.isS g1017) (own_gS g1020) d_v1023
  have At1022 := own_tyA Ar1022
  have pre1025 : Cm p e below E0 (T1016.setTop (mkF m 10 (lt33 x p1 p2 v1023) [(.int v1023)])) := fun t kt => by
    refine pre0 t ?_
    show Sp p e below s₁ (mkF m 0 (lt32 x p1 p2) []) _
    refine XS.aloadN X0.here hx rfl (hb hby d7_0) rfl rfl ?_
    show Sp p e below s₁ (mkF m 1 (lt32 x p1 p2) [(.ref x)]) _
    refine st1016 _ ?_
    show Sp p e below T1016 (mkF m 4 (lt32 x p1 p2) [(.ref S0)]) _
    refine XS.iloadN X1016.here hx rfl (hb hby d7_4) rfl ?_
    show Sp p e below T1016 (mkF m 5 (lt32 x p1 p2) [(.int p1), (.ref S0)]) _
    refine X1016.aaload hx (j := p1) (v := .ref (A (14 + ix p1))) (by rw [e1016]; exact Ar1019.1) (State.isArrayOf_alike hZ.alike Ar1019.2.1) rfl Ar1019.2.2 hin1019 hat1019 (g := (mkF m 5 (lt32 x p1 p2) [(.int p1), (.ref S0)])) rfl rfl (hb hby d7_5) _ ?_
    show Sp p e below T1016 (mkF m 6 (lt32 x p1 p2) [(.ref (A (14 + ix p1)))]) _
    refine XS.iloadN X1016.here hx rfl (hb hby d7_6) rfl ?_
    show Sp p e below T1016 (mkF m 7 (lt32 x p1 p2) [(.int p2), (.ref (A (14 + ix p1)))]) _
    refine X1016.baloadBytes hx (j := p2) (v := (.int v1023)) (by rw [e1016]; exact Ar1022.1) (State.isArrayOf_alike hZ.alike At1022.2.1) At1022.2.2 hin1022 hat1022 (g := (mkF m 7 (lt32 x p1 p2) [(.int p2), (.ref (A (14 + ix p1)))])) rfl rfl (hb hby d7_7) _ ?_
    show Sp p e below T1016 (mkF m 8 (lt32 x p1 p2) [(.int v1023)]) _
    refine XS.istoreN X1016.here hx rfl (hb hby d7_8) rfl (l' := (lt33 x p1 p2 v1023)) rfl ?_
    refine XS.iloadN X1016.here hx rfl (hb hby d7_9) rfl ?_
    show Sp p e below T1016 (mkF m 10 (lt33 x p1 p2 v1023) [(.int v1023)]) _
    exact kt
  by_cases hc1026 : v1023 = (0 : Int32)
  · rw [own_eqT hc1026] at hf1024
    obtain ⟨T1027, X1027, e1027, st1027⟩ := getF X1016 hx hZ hown (host := "") (Or.inl (hw _ (tk 25 rfl))) Via.refl e1016 (B0.fld 2 rfl) (g := (mkF m 25 (lt33 x p1 p2 v1023) [(.ref x)])) rfl rfl (hb hby d7_25)
    obtain ⟨g1028, hf1029⟩ := own_gd hf1024
    clear hf1024
    obtain ⟨v1031, d_v1031, hf1032⟩ := own_nai hf1029
    clear hf1029
    obtain ⟨cl1030, Ar1030, hin1030, hat1030⟩ := B0.get 0 (Or.inl (by decide)) g1028 d_v1031
    have At1030 : Arr Z h0 (A 0) cl1030 .int := Ar1030
    have pre1033 : Cm p e below E0 (T1027.setTop (mkF m 31 (lt33 x p1 p2 v1023) [(.int 2), (.int v1031)])) := fun t kt => by
      refine pre1025 t ?_
      show Sp p e below T1016 (mkF m 10 (lt33 x p1 p2 v1023) [(.int v1023)]) _
      refine XS.ifYes X1016.here hx rfl (pc0 := 10) (pc' := 24) rfl (hb hby d7_10) rfl ((if0 _ _).trans (teq hc1026).1) (by decide) (by decide) ?_
      show Sp p e below T1016 (mkF m 24 (lt33 x p1 p2 v1023) []) _
      refine XS.aloadN X1016.here hx rfl (hb hby d7_24) rfl rfl ?_
      show Sp p e below T1016 (mkF m 25 (lt33 x p1 p2 v1023) [(.ref x)]) _
      refine st1027 _ ?_
      show Sp p e below T1027 (mkF m 28 (lt33 x p1 p2 v1023) [(.ref (A 0))]) _
      refine XS.iloadN X1027.here hx rfl (hb hby d7_28) rfl ?_
      show Sp p e below T1027 (mkF m 29 (lt33 x p1 p2 v1023) [(.int p1), (.ref (A 0))]) _
      refine X1027.iaload hx (j := p1) (v := (.int v1031)) (by rw [e1027]; exact Ar1030.1) (State.isArrayOf_alike hZ.alike At1030.2.1) At1030.2.2 hin1030 hat1030 (g := (mkF m 29 (lt33 x p1 p2 v1023) [(.int p1), (.ref (A 0))])) rfl rfl (hb hby d7_29) _ ?_
      show Sp p e below T1027 (mkF m 30 (lt33 x p1 p2 v1023) [(.int v1031)]) _
      refine XS.iconst X1027.here hx rfl (hb hby d7_30) ?_
      show Sp p e below T1027 (mkF m 31 (lt33 x p1 p2 v1023) [(.int 2), (.int v1031)]) _
      exact kt
    by_cases hc1034 : v1031 = (2 : Int32)
    · rw [own_eqT hc1034] at hf1032
      obtain ⟨rfl, rfl⟩ := own_ret hf1032
      obtain ⟨fs, hr, hrun, hended, hW, hsame⟩ := X1027.leave (v := some (.int 0)) (fun h => by rw [Bd.returns] at h; cases h) (BodyLoose.notSynchronized Bd)
      refine hno ⟨_, _, pre1033 _ ?_, hrun, hended, _, _, rfl, ?_, ⟨_, rfl⟩, hW, hsame.mono (by decide) (by decide)⟩
      · show Sp p e below T1027 (mkF m 31 (lt33 x p1 p2 v1023) [(.int 2), (.int v1031)]) _
        refine XS.icmpYes X1027.here hx rfl (pc0 := 31) (pc' := 44) rfl (hb hby d7_31) rfl (teq hc1034).1 (by decide) (by decide) ?_
        show Sp p e below T1027 (mkF m 44 (lt33 x p1 p2 v1023) []) _
        refine XS.iconst X1027.here hx rfl (hb hby d7_44) ?_
        show Sp p e below T1027 (mkF m 45 (lt33 x p1 p2 v1023) [(.int 0)]) _
        exact retN X1027 hx (t := .boolean) Bd.returns (by simp) (hb hby d7_45) hr
      · show Q7 Z n0 ex x A K S0 nc _ _ _ T1027.heap _
        rw [e1027]
        exact ⟨rfl, N0, O0, B0⟩
    · rw [own_eqF hc1034] at hf1032
      obtain ⟨T1035, X1035, e1035, st1035⟩ := getF X1027 hx hZ hown (host := "") (Or.inl (hw _ (tk 25 rfl))) Via.refl e1027 (B0.fld 2 rfl) (g := (mkF m 35 (lt33 x p1 p2 v1023) [(.ref x)])) rfl rfl (hb hby d7_35)
      obtain ⟨g1036, hf1037⟩ := own_gd hf1032
      clear hf1032
      obtain ⟨v1039, d_v1039, hf1040⟩ := own_nai hf1037
      clear hf1037
      obtain ⟨cl1038, Ar1038, hin1038, hat1038⟩ := B0.get 0 (Or.inl (by decide)) g1036 d_v1039
      have At1038 : Arr Z h0 (A 0) cl1038 .int := Ar1038
      have pre1041 : Cm p e below E0 (T1035.setTop (mkF m 41 (lt33 x p1 p2 v1023) [(.int 2), (.int v1039)])) := fun t kt => by
        refine pre1033 t ?_
        show Sp p e below T1027 (mkF m 31 (lt33 x p1 p2 v1023) [(.int 2), (.int v1031)]) _
        refine XS.icmpNo X1027.here hx rfl (hb hby d7_31) rfl (feq hc1034).1 ?_
        show Sp p e below T1027 (mkF m 34 (lt33 x p1 p2 v1023) []) _
        refine XS.aloadN X1027.here hx rfl (hb hby d7_34) rfl rfl ?_
        show Sp p e below T1027 (mkF m 35 (lt33 x p1 p2 v1023) [(.ref x)]) _
        refine st1035 _ ?_
        show Sp p e below T1035 (mkF m 38 (lt33 x p1 p2 v1023) [(.ref (A 0))]) _
        refine XS.iloadN X1035.here hx rfl (hb hby d7_38) rfl ?_
        show Sp p e below T1035 (mkF m 39 (lt33 x p1 p2 v1023) [(.int p2), (.ref (A 0))]) _
        refine X1035.iaload hx (j := p2) (v := (.int v1039)) (by rw [e1035]; exact Ar1038.1) (State.isArrayOf_alike hZ.alike At1038.2.1) At1038.2.2 hin1038 hat1038 (g := (mkF m 39 (lt33 x p1 p2 v1023) [(.int p2), (.ref (A 0))])) rfl rfl (hb hby d7_39) _ ?_
        show Sp p e below T1035 (mkF m 40 (lt33 x p1 p2 v1023) [(.int v1039)]) _
        refine XS.iconst X1035.here hx rfl (hb hby d7_40) ?_
        show Sp p e below T1035 (mkF m 41 (lt33 x p1 p2 v1023) [(.int 2), (.int v1039)]) _
        exact kt
      by_cases hc1042 : v1039 = (2 : Int32)
      · rw [own_eqT hc1042] at hf1040
        obtain ⟨rfl, rfl⟩ := own_ret hf1040
        obtain ⟨fs, hr, hrun, hended, hW, hsame⟩ := X1035.leave (v := some (.int 0)) (fun h => by rw [Bd.returns] at h; cases h) (BodyLoose.notSynchronized Bd)
        refine hno ⟨_, _, pre1041 _ ?_, hrun, hended, _, _, rfl, ?_, ⟨_, rfl⟩, hW, hsame.mono (by decide) (by decide)⟩
        · show Sp p e below T1035 (mkF m 41 (lt33 x p1 p2 v1023) [(.int 2), (.int v1039)]) _
          refine XS.icmpNo X1035.here hx rfl (hb hby d7_41) rfl (teq hc1042).2 ?_
          show Sp p e below T1035 (mkF m 44 (lt33 x p1 p2 v1023) []) _
          refine XS.iconst X1035.here hx rfl (hb hby d7_44) ?_
          show Sp p e below T1035 (mkF m 45 (lt33 x p1 p2 v1023) [(.int 0)]) _
          exact retN X1035 hx (t := .boolean) Bd.returns (by simp) (hb hby d7_45) hr
        · show Q7 Z n0 ex x A K S0 nc _ _ _ T1035.heap _
          rw [e1035]
          exact ⟨rfl, N0, O0, B0⟩
      · rw [own_eqF hc1042] at hf1040
        obtain ⟨T1043, X1043, e1043, st1043⟩ := getF X1035 hx hZ hown (host := "") (Or.inl (hw _ (tk 40 rfl))) Via.refl e1035 (B0.fld 4 rfl) (g := (mkF m 47 (lt33 x p1 p2 v1023) [(.ref x)])) rfl rfl (hb hby d7_47)
        obtain ⟨g1044, hf1045⟩ := own_gd hf1040
        clear hf1040
        obtain ⟨v1047, d_v1047, hf1048⟩ := own_nai hf1045
        clear hf1045
        obtain ⟨cl1046, Ar1046, hin1046, hat1046⟩ := B0.get 2 (Or.inl (by decide)) g1044 d_v1047
        have At1046 : Arr Z h0 (A 2) cl1046 .int := Ar1046
        obtain ⟨T1049, X1049, e1049, st1049⟩ := getF X1043 hx hZ hown (host := "") (Or.inl (hw _ (tk 40 rfl))) Via.refl e1043 (B0.fld 4 rfl) (g := (mkF m 55 (lt34 x p1 p2 v1023 v1047) [(.ref x)])) rfl rfl (hb hby d7_55)
        obtain ⟨g1050, hf1051⟩ := own_gd hf1048
        clear hf1048
        obtain ⟨v1053, d_v1053, hf1054⟩ := own_nai hf1051
        clear hf1051
        obtain ⟨cl1052, Ar1052, hin1052, hat1052⟩ := B0.get 2 (Or.inl (by decide)) g1050 d_v1053
        have At1052 : Arr Z h0 (A 2) cl1052 .int := Ar1052
        obtain ⟨v1055, M1055, hc1055, hf1056⟩ := own_bnd hf1054
        clear hf1054
        obtain ⟨cq1055, q1055, q1055'⟩ := B0.exa.cell
        obtain ⟨_, _, ⟨T1055, L1055, k1055, n1055⟩, -, X1055, ⟨Lc1055, hQ1055, l1055, y1055, z1055⟩, st1055⟩ := X1049.privateBack hx (y := Y30) hown (mvT hZ (hw _ (tk 62 rfl))) (mvT hZ (hw _ (tk 63 rfl))) (own_selP rfl (mvT hZ (hw _ (tk 2 rfl))) (Cond.privateMethod_at (mvP hZ (hw _ (tk 64 rfl)) (args := #[]))) (mvT hZ (hw _ (tk 63 rfl))) (by decide)) (Cond.privateMethod_at (mvP hZ (hw _ (tk 64 rfl)) (args := #[]))) (mvT hZ (hw _ (tk 65 rfl))) (by decide) (backOf (W := 0) (rm8 l Z a0 hw [] hSl ex x A K S0 nc M p1 p2 (1 : Int32) v1055 M1055 h0 n0 O0 B0 hc1055) hZ (hw _ (tk 65 rfl)) (hw _ (tk 3 rfl)) (by decide) (by decide)) (g := (mkF m 66 (lt35 x p1 p2 v1023 v1047 v1053) [(.int 1), (.int p2), (.int p1), (.ref x)])) rfl (by rw [hml]; rfl) (Steps.refl _) (a := x) (by rw [e1049]; exact q1055) q1055' (argsL := [(.int p1), (.int p2), (.int 1)]) (rest := []) (lenOf pd_4 rfl) rfl (by show 2 * 0 + _ ≤ _; exact Nat.le_of_eq rfl) (hb hby d7_66) (fun _ _ => ⟨rfl, e1049, (by decide : 0 + 0 ≤ _), (by decide : 0 + 0 ≤ _)⟩)
        dsimp only [Pt.U, Pt.locs, Pt.cells, Pt.slots] at X1055 l1055 y1055 z1055 st1055 hQ1055
        rw [l1055, y1055, z1055] at X1055
        obtain ⟨rv1055, N1055q, O1055, B1055⟩ := hQ1055
        subst rv1055
        have N1055 := Fr.app N0 N1055q
        obtain ⟨T1057, X1057, e1057, st1057⟩ := getF X1055 hx hZ hown (host := "") (Or.inl (hw _ (tk 25 rfl))) Via.refl rfl (B1055.fld 2 rfl) (g := (mkF m 70 (lt35 x p1 p2 v1023 v1047 v1053) [(.ref x)])) rfl rfl (hb hby d7_70)
        obtain ⟨v1059, d_v1059, hf1060⟩ := own_nai hf1056
        clear hf1056
        obtain ⟨cl1058, Ar1058, hin1058, hat1058⟩ := B1055.get 0 (Or.inl (by decide)) g1028 d_v1059
        have At1058 : Arr Z T1055.heap (A 0) cl1058 .int := Ar1058
        obtain ⟨cl1061, Ar1061, hin1061⟩ := B1055.at 0 (Or.inl (by decide)) g1028
        have At1061 : Arr Z T1055.heap (A 0) cl1061 .int := Ar1061
        obtain ⟨T1062, h1062, X1062, e1062, W1062, st1062⟩ := stI X1057 hx hZ e1057 At1061 (j := p1) hin1061 (g := (mkF m 78 (lt35 x p1 p2 v1023 v1047 v1053) [(.int (v1059 + 1)), (.int p1), (.ref (A 0))])) rfl rfl (hb hby d7_78)
        obtain ⟨M1062, d_M1062, hf1063⟩ := own_nam hf1060
        clear hf1060
        have B1062 := B1055.wr (v := (v1059 + 1)) 0 (Or.inl (by decide)) g1028 W1062 rfl
        rw [← d_M1062] at B1062
        have O1062 := O1055.wr W1062 (B1055.old 0 (Or.inl (by decide)))
        have N1062 := Fr.snoc X1062 N1055 (B1055.old 0 (Or.inl (by decide)))
        obtain ⟨T1064, X1064, e1064, st1064⟩ := getF X1062 hx hZ hown (host := "") (Or.inl (hw _ (tk 25 rfl))) Via.refl e1062 (B1062.fld 2 rfl) (g := (mkF m 80 (lt35 x p1 p2 v1023 v1047 v1053) [(.ref x)])) rfl rfl (hb hby d7_80)
        obtain ⟨v1066, d_v1066, hf1067⟩ := own_nai hf1063
        clear hf1063
        obtain ⟨cl1065, Ar1065, hin1065, hat1065⟩ := B1062.get 0 (Or.inl (by decide)) g1036 d_v1066
        have At1065 : Arr Z h1062 (A 0) cl1065 .int := Ar1065
        obtain ⟨cl1068, Ar1068, hin1068⟩ := B1062.at 0 (Or.inl (by decide)) g1036
        have At1068 : Arr Z h1062 (A 0) cl1068 .int := Ar1068
        obtain ⟨T1069, h1069, X1069, e1069, W1069, st1069⟩ := stI X1064 hx hZ e1064 At1068 (j := p2) hin1068 (g := (mkF m 88 (lt35 x p1 p2 v1023 v1047 v1053) [(.int (v1066 + 1)), (.int p2), (.ref (A 0))])) rfl rfl (hb hby d7_88)
        obtain ⟨M1069, d_M1069, hf1070⟩ := own_nam hf1067
        clear hf1067
        have B1069 := B1062.wr (v := (v1066 + 1)) 0 (Or.inl (by decide)) g1036 W1069 rfl
        rw [← d_M1069] at B1069
        have O1069 := O1062.wr W1069 (B1062.old 0 (Or.inl (by decide)))
        have N1069 := Fr.snoc X1069 N1062 (B1062.old 0 (Or.inl (by decide)))
        obtain ⟨v1071, M1071, hc1071, hf1072⟩ := own_bnd hf1070
        clear hf1070
        obtain ⟨cq1071, q1071, q1071'⟩ := B1069.exa.cell
        obtain ⟨_, _, ⟨T1071, L1071, k1071, n1071⟩, -, X1071, ⟨Lc1071, hQ1071, l1071, y1071, z1071⟩, st1071⟩ := X1069.privateBack hx (y := Y31) hown (mvT hZ (hw _ (tk 70 rfl))) (mvT hZ (hw _ (tk 71 rfl))) (own_selP rfl (mvT hZ (hw _ (tk 2 rfl))) (Cond.privateMethod_at (mvP hZ (hw _ (tk 72 rfl)) (args := #[]))) (mvT hZ (hw _ (tk 71 rfl))) (by decide)) (Cond.privateMethod_at (mvP hZ (hw _ (tk 72 rfl)) (args := #[]))) (mvT hZ (hw _ (tk 73 rfl))) (by decide) (backOf (W := 0) (rm9 l Z a0 hw [] hSl ex x A K S0 nc M1069 p1 v1071 M1071 h1069 n0 O1069 B1069 hc1071) hZ (hw _ (tk 73 rfl)) (hw _ (tk 3 rfl)) (by decide) (by decide)) (g := (mkF m 91 (lt35 x p1 p2 v1023 v1047 v1053) [(.int p1), (.ref x)])) rfl (by rw [hml]; rfl) (Steps.refl _) (a := x) (by rw [e1069]; exact q1071) q1071' (argsL := [(.int p1)]) (rest := []) (lenOf pd_3 rfl) rfl (by show 2 * 0 + _ ≤ _; exact Nat.le_of_eq rfl) (hb hby d7_91) (fun _ _ => ⟨rfl, e1069, (by decide : 0 + 0 ≤ _), (by decide : 0 + 0 ≤ _)⟩)
        dsimp only [Pt.U, Pt.locs, Pt.cells, Pt.slots] at X1071 l1071 y1071 z1071 st1071 hQ1071
        rw [l1071, y1071, z1071] at X1071
        obtain ⟨rv1071, N1071q, O1071, B1071⟩ := hQ1071
        subst rv1071
        have N1071 := Fr.app N1069 N1071q
        obtain ⟨v1073, M1073, hc1073, hf1074⟩ := own_bnd hf1072
        clear hf1072
        obtain ⟨cq1073, q1073, q1073'⟩ := B1071.exa.cell
        obtain ⟨_, _, ⟨T1073, L1073, k1073, n1073⟩, -, X1073, ⟨Lc1073, hQ1073, l1073, y1073, z1073⟩, st1073⟩ := X1071.privateBack hx (y := Y31) hown (mvT hZ (hw _ (tk 70 rfl))) (mvT hZ (hw _ (tk 71 rfl))) (own_selP rfl (mvT hZ (hw _ (tk 2 rfl))) (Cond.privateMethod_at (mvP hZ (hw _ (tk 72 rfl)) (args := #[]))) (mvT hZ (hw _ (tk 71 rfl))) (by decide)) (Cond.privateMethod_at (mvP hZ (hw _ (tk 72 rfl)) (args := #[]))) (mvT hZ (hw _ (tk 73 rfl))) (by decide) (backOf (W := 0) (rm9 l Z a0 hw [] hSl ex x A K S0 nc M1071 p2 v1073 M1073 T1071.heap n0 O1071 B1071 hc1073) hZ (hw _ (tk 73 rfl)) (hw _ (tk 3 rfl)) (by decide) (by decide)) (g := (mkF m 96 (lt35 x p1 p2 v1023 v1047 v1053) [(.int p2), (.ref x)])) rfl (by rw [hml]; rfl) (Steps.refl _) (a := x) q1073 q1073' (argsL := [(.int p2)]) (rest := []) (lenOf pd_3 rfl) rfl (by show 2 * 0 + _ ≤ _; exact Nat.le_of_eq rfl) (hb hby d7_96) (fun _ _ => ⟨rfl, rfl, (by decide : 0 + 0 ≤ _), (by decide : 0 + 0 ≤ _)⟩)
        dsimp only [Pt.U, Pt.locs, Pt.cells, Pt.slots] at X1073 l1073 y1073 z1073 st1073 hQ1073
        rw [l1073, y1073, z1073] at X1073
        obtain ⟨rv1073, N1073q, O1073, B1073⟩ := hQ1073
        subst rv1073
        have N1073 := Fr.app N1071 N1073q
        have pre1075 : Cm p e below E0 (T1073.setTop (mkF m 102 (lt35 x p1 p2 v1023 v1047 v1053) [(.int p2), (.int v1047)])) := fun t kt => by
          refine pre1041 t ?_
          show Sp p e below T1035 (mkF m 41 (lt33 x p1 p2 v1023) [(.int 2), (.int v1039)]) _
          refine XS.icmpYes X1035.here hx rfl (pc0 := 41) (pc' := 46) rfl (hb hby d7_41) rfl (feq hc1042).2 (by decide) (by decide) ?_
          show Sp p e below T1035 (mkF m 46 (lt33 x p1 p2 v1023) []) _
          refine XS.aloadN X1035.here hx rfl (hb hby d7_46) rfl rfl ?_
          show Sp p e below T1035 (mkF m 47 (lt33 x p1 p2 v1023) [(.ref x)]) _
          refine st1043 _ ?_
          show Sp p e below T1043 (mkF m 50 (lt33 x p1 p2 v1023) [(.ref (A 2))]) _
          refine XS.iloadN X1043.here hx rfl (hb hby d7_50) rfl ?_
          show Sp p e below T1043 (mkF m 51 (lt33 x p1 p2 v1023) [(.int p1), (.ref (A 2))]) _
          refine X1043.iaload hx (j := p1) (v := (.int v1047)) (by rw [e1043]; exact Ar1046.1) (State.isArrayOf_alike hZ.alike At1046.2.1) At1046.2.2 hin1046 hat1046 (g := (mkF m 51 (lt33 x p1 p2 v1023) [(.int p1), (.ref (A 2))])) rfl rfl (hb hby d7_51) _ ?_
          show Sp p e below T1043 (mkF m 52 (lt33 x p1 p2 v1023) [(.int v1047)]) _
          refine XS.istore X1043.here hx rfl (hb hby d7_52) rfl (l' := (lt34 x p1 p2 v1023 v1047)) rfl ?_
          refine XS.aloadN X1043.here hx rfl (hb hby d7_54) rfl rfl ?_
          show Sp p e below T1043 (mkF m 55 (lt34 x p1 p2 v1023 v1047) [(.ref x)]) _
          refine st1049 _ ?_
          show Sp p e below T1049 (mkF m 58 (lt34 x p1 p2 v1023 v1047) [(.ref (A 2))]) _
          refine XS.iloadN X1049.here hx rfl (hb hby d7_58) rfl ?_
          show Sp p e below T1049 (mkF m 59 (lt34 x p1 p2 v1023 v1047) [(.int p2), (.ref (A 2))]) _
          refine X1049.iaload hx (j := p2) (v := (.int v1053)) (by rw [e1049]; exact Ar1052.1) (State.isArrayOf_alike hZ.alike At1052.2.1) At1052.2.2 hin1052 hat1052 (g := (mkF m 59 (lt34 x p1 p2 v1023 v1047) [(.int p2), (.ref (A 2))])) rfl rfl (hb hby d7_59) _ ?_
          show Sp p e below T1049 (mkF m 60 (lt34 x p1 p2 v1023 v1047) [(.int v1053)]) _
          refine XS.istore X1049.here hx rfl (hb hby d7_60) rfl (l' := (lt35 x p1 p2 v1023 v1047 v1053)) rfl ?_
          refine XS.aloadN X1049.here hx rfl (hb hby d7_62) rfl rfl ?_
          show Sp p e below T1049 (mkF m 63 (lt35 x p1 p2 v1023 v1047 v1053) [(.ref x)]) _
          refine XS.iloadN X1049.here hx rfl (hb hby d7_63) rfl ?_
          refine XS.iloadN X1049.here hx rfl (hb hby d7_64) rfl ?_
          show Sp p e below T1049 (mkF m 65 (lt35 x p1 p2 v1023 v1047 v1053) [(.int p2), (.int p1), (.ref x)]) _
          refine XS.iconst X1049.here hx rfl (hb hby d7_65) ?_
          show Sp p e below T1049 (mkF m 66 (lt35 x p1 p2 v1023 v1047 v1053) [(.int 1), (.int p2), (.int p1), (.ref x)]) _
          refine st1055.trans ?_
          show Sp p e below T1055 (mkF m 69 (lt35 x p1 p2 v1023 v1047 v1053) []) _
          refine XS.aloadN X1055.here hx rfl (hb hby d7_69) rfl rfl ?_
          show Sp p e below T1055 (mkF m 70 (lt35 x p1 p2 v1023 v1047 v1053) [(.ref x)]) _
          refine st1057 _ ?_
          show Sp p e below T1057 (mkF m 73 (lt35 x p1 p2 v1023 v1047 v1053) [(.ref (A 0))]) _
          refine XS.iloadN X1057.here hx rfl (hb hby d7_73) rfl ?_
          show Sp p e below T1057 (mkF m 74 (lt35 x p1 p2 v1023 v1047 v1053) [(.int p1), (.ref (A 0))]) _
          refine XT.dup2 X1057.here hx rfl (hb hby d7_74) rfl rfl rfl ?_
          show Sp p e below T1057 (mkF m 75 (lt35 x p1 p2 v1023 v1047 v1053) [(.int p1), (.ref (A 0)), (.int p1), (.ref (A 0))]) _
          refine X1057.iaload hx (j := p1) (v := (.int v1059)) (by rw [e1057]; exact Ar1058.1) (State.isArrayOf_alike hZ.alike At1058.2.1) At1058.2.2 hin1058 hat1058 (g := (mkF m 75 (lt35 x p1 p2 v1023 v1047 v1053) [(.int p1), (.ref (A 0)), (.int p1), (.ref (A 0))])) rfl rfl (hb hby d7_75) _ ?_
          show Sp p e below T1057 (mkF m 76 (lt35 x p1 p2 v1023 v1047 v1053) [(.int v1059), (.int p1), (.ref (A 0))]) _
          refine XS.iconst X1057.here hx rfl (hb hby d7_76) ?_
          refine XS.iadd X1057.here hx rfl (hb hby d7_77) rfl ?_
          show Sp p e below T1057 (mkF m 78 (lt35 x p1 p2 v1023 v1047 v1053) [(.int (v1059 + 1)), (.int p1), (.ref (A 0))]) _
          refine st1062 _ ?_
          show Sp p e below T1062 (mkF m 79 (lt35 x p1 p2 v1023 v1047 v1053) []) _
          refine XS.aloadN X1062.here hx rfl (hb hby d7_79) rfl rfl ?_
          show Sp p e below T1062 (mkF m 80 (lt35 x p1 p2 v1023 v1047 v1053) [(.ref x)]) _
          refine st1064 _ ?_
          show Sp p e below T1064 (mkF m 83 (lt35 x p1 p2 v1023 v1047 v1053) [(.ref (A 0))]) _
          refine XS.iloadN X1064.here hx rfl (hb hby d7_83) rfl ?_
          show Sp p e below T1064 (mkF m 84 (lt35 x p1 p2 v1023 v1047 v1053) [(.int p2), (.ref (A 0))]) _
          refine XT.dup2 X1064.here hx rfl (hb hby d7_84) rfl rfl rfl ?_
          show Sp p e below T1064 (mkF m 85 (lt35 x p1 p2 v1023 v1047 v1053) [(.int p2), (.ref (A 0)), (.int p2), (.ref (A 0))]) _
          refine X1064.iaload hx (j := p2) (v := (.int v1066)) (by rw [e1064]; exact Ar1065.1) (State.isArrayOf_alike hZ.alike At1065.2.1) At1065.2.2 hin1065 hat1065 (g := (mkF m 85 (lt35 x p1 p2 v1023 v1047 v1053) [(.int p2), (.ref (A 0)), (.int p2), (.ref (A 0))])) rfl rfl (hb hby d7_85) _ ?_
          show Sp p e below T1064 (mkF m 86 (lt35 x p1 p2 v1023 v1047 v1053) [(.int v1066), (.int p2), (.ref (A 0))]) _
          refine XS.iconst X1064.here hx rfl (hb hby d7_86) ?_
          refine XS.iadd X1064.here hx rfl (hb hby d7_87) rfl ?_
          show Sp p e below T1064 (mkF m 88 (lt35 x p1 p2 v1023 v1047 v1053) [(.int (v1066 + 1)), (.int p2), (.ref (A 0))]) _
          refine st1069 _ ?_
          show Sp p e below T1069 (mkF m 89 (lt35 x p1 p2 v1023 v1047 v1053) []) _
          refine XS.aloadN X1069.here hx rfl (hb hby d7_89) rfl rfl ?_
          refine XS.iloadN X1069.here hx rfl (hb hby d7_90) rfl ?_
          show Sp p e below T1069 (mkF m 91 (lt35 x p1 p2 v1023 v1047 v1053) [(.int p1), (.ref x)]) _
          refine st1071.trans ?_
          show Sp p e below T1071 (mkF m 94 (lt35 x p1 p2 v1023 v1047 v1053) []) _
          refine XS.aloadN X1071.here hx rfl (hb hby d7_94) rfl rfl ?_
          refine XS.iloadN X1071.here hx rfl (hb hby d7_95) rfl ?_
          show Sp p e below T1071 (mkF m 96 (lt35 x p1 p2 v1023 v1047 v1053) [(.int p2), (.ref x)]) _
          refine st1073.trans ?_
          show Sp p e below T1073 (mkF m 99 (lt35 x p1 p2 v1023 v1047 v1053) []) _
          refine XS.iload X1073.here hx rfl (hb hby d7_99) rfl ?_
          refine XS.iloadN X1073.here hx rfl (hb hby d7_101) rfl ?_
          show Sp p e below T1073 (mkF m 102 (lt35 x p1 p2 v1023 v1047 v1053) [(.int p2), (.int v1047)]) _
          exact kt
        by_cases hc1076 : v1047 = p2
        · rw [own_eqT hc1076] at hf1074
          obtain ⟨rfl, rfl⟩ := own_ret hf1074
          obtain ⟨fs, hr, hrun, hended, hW, hsame⟩ := X1073.leave (v := some (.int 1)) (fun h => by rw [Bd.returns] at h; cases h) (BodyLoose.notSynchronized Bd)
          refine hno ⟨_, _, pre1075 _ ?_, hrun, hended, _, _, rfl, ?_, ⟨_, rfl⟩, hW, hsame.mono (by decide) (by decide)⟩
          · show Sp p e below T1073 (mkF m 102 (lt35 x p1 p2 v1023 v1047 v1053) [(.int p2), (.int v1047)]) _
            refine XS.icmpNo X1073.here hx rfl (hb hby d7_102) rfl (teq hc1076).2 ?_
            show Sp p e below T1073 (mkF m 105 (lt35 x p1 p2 v1023 v1047 v1053) []) _
            refine XS.iconst X1073.here hx rfl (hb hby d7_105) ?_
            show Sp p e below T1073 (mkF m 106 (lt35 x p1 p2 v1023 v1047 v1053) [(.int 1)]) _
            exact retN X1073 hx (t := .boolean) Bd.returns (by simp) (hb hby d7_106) hr
          · show Q7 Z n0 ex x A K S0 nc _ _ _ T1073.heap _
            exact ⟨rfl, N1073, O1073, B1073⟩
        · rw [own_eqF hc1076] at hf1074
          obtain ⟨T1077, X1077, e1077, st1077⟩ := getF X1073 hx hZ hown (host := "") (Or.inl (hw _ (tk 42 rfl))) Via.refl rfl (B1073.fld 5 rfl) (g := (mkF m 108 (lt35 x p1 p2 v1023 v1047 v1053) [(.ref x)])) rfl rfl (hb hby d7_108)
          obtain ⟨g1078, hf1079⟩ := own_gd hf1074
          clear hf1074
          obtain ⟨v1081, d_v1081, hf1082⟩ := own_nai hf1079
          clear hf1079
          obtain ⟨cl1080, Ar1080, hin1080, hat1080⟩ := B1073.get 3 (Or.inl (by decide)) g1078 d_v1081
          have At1080 : Arr Z T1073.heap (A 3) cl1080 .int := Ar1080
          obtain ⟨T1083, X1083, e1083, st1083⟩ := getF X1077 hx hZ hown (host := "") (Or.inl (hw _ (tk 42 rfl))) Via.refl e1077 (B1073.fld 5 rfl) (g := (mkF m 114 (lt35 x p1 p2 v1023 v1047 v1053) [(.ref x), (.int v1081)])) rfl rfl (hb hby d7_114)
          obtain ⟨g1084, hf1085⟩ := own_gd hf1082
          clear hf1082
          obtain ⟨v1087, d_v1087, hf1088⟩ := own_nai hf1085
          clear hf1085
          obtain ⟨cl1086, Ar1086, hin1086, hat1086⟩ := B1073.get 3 (Or.inl (by decide)) g1084 d_v1087
          have At1086 : Arr Z T1073.heap (A 3) cl1086 .int := Ar1086
          obtain ⟨v1142, M1142, hc1142, hf1143⟩ := own_bnd hf1088
          clear hf1088
          obtain ⟨cq1142, q1142, q1142'⟩ := B1073.exa.cell
          obtain ⟨_, _, ⟨T1142, L1142, k1142, n1142⟩, -, X1142, ⟨Lc1142, hQ1142, l1142, y1142, z1142⟩, st1142⟩ := X1083.privateBack hx (y := Y43) hown (mvT hZ (hw _ (tk 78 rfl))) (mvT hZ (hw _ (tk 79 rfl))) (own_selP rfl (mvT hZ (hw _ (tk 2 rfl))) (Cond.privateMethod_at (mvP hZ (hw _ (tk 80 rfl)) (args := #[]))) (mvT hZ (hw _ (tk 79 rfl))) (by decide)) (Cond.privateMethod_at (mvP hZ (hw _ (tk 80 rfl)) (args := #[]))) (mvT hZ (hw _ (tk 81 rfl))) (by decide) (backOf (W := 0) (rm10 l Z a0 hw [] hSl ex x A K S0 nc M1073 v1047 v1053 (v1081 + v1087) v1142 M1142 T1073.heap n0 O1073 B1073 hc1142) hZ (hw _ (tk 81 rfl)) (hw _ (tk 3 rfl)) (by decide) (by decide)) (g := (mkF m 129 (lt36 x p1 p2 v1023 v1047 v1053 (v1081 + v1087)) [(.int (v1081 + v1087)), (.int v1053), (.int v1047), (.ref x)])) rfl (by rw [hml]; rfl) (Steps.refl _) (a := x) (by rw [e1083]; exact q1142) q1142' (argsL := [(.int v1047), (.int v1053), (.int (v1081 + v1087))]) (rest := []) (lenOf pd_6 rfl) rfl (by show 2 * 0 + _ ≤ _; exact Nat.le_of_eq rfl) (hb hby d7_129) (fun _ _ => ⟨rfl, e1083, (by decide : 0 + 0 ≤ _), (by decide : 0 + 0 ≤ _)⟩)
          dsimp only [Pt.U, Pt.locs, Pt.cells, Pt.slots] at X1142 l1142 y1142 z1142 st1142 hQ1142
          rw [l1142, y1142, z1142] at X1142
          obtain ⟨rv1142, N1142q, O1142, B1142⟩ := hQ1142
          subst rv1142
          have N1142 := Fr.app N1073 N1142q
          obtain ⟨v1144, M1144, hc1144, hf1145⟩ := own_bnd hf1143
          clear hf1143
          obtain ⟨cq1144, q1144, q1144'⟩ := B1142.exa.cell
          obtain ⟨_, _, ⟨T1144, L1144, k1144, n1144⟩, -, X1144, ⟨Lc1144, hQ1144, l1144, y1144, z1144⟩, st1144⟩ := X1142.privateBack hx (y := Y43) hown (mvT hZ (hw _ (tk 78 rfl))) (mvT hZ (hw _ (tk 79 rfl))) (own_selP rfl (mvT hZ (hw _ (tk 2 rfl))) (Cond.privateMethod_at (mvP hZ (hw _ (tk 80 rfl)) (args := #[]))) (mvT hZ (hw _ (tk 79 rfl))) (by decide)) (Cond.privateMethod_at (mvP hZ (hw _ (tk 80 rfl)) (args := #[]))) (mvT hZ (hw _ (tk 81 rfl))) (by decide) (backOf (W := 0) (rm10 l Z a0 hw [] hSl ex x A K S0 nc M1142 v1053 v1047 (v1081 + v1087) v1144 M1144 T1142.heap n0 O1142 B1142 hc1144) hZ (hw _ (tk 81 rfl)) (hw _ (tk 3 rfl)) (by decide) (by decide)) (g := (mkF m 139 (lt36 x p1 p2 v1023 v1047 v1053 (v1081 + v1087)) [(.int (v1081 + v1087)), (.int v1047), (.int v1053), (.ref x)])) rfl (by rw [hml]; rfl) (Steps.refl _) (a := x) q1144 q1144' (argsL := [(.int v1053), (.int v1047), (.int (v1081 + v1087))]) (rest := []) (lenOf pd_6 rfl) rfl (by show 2 * 0 + _ ≤ _; exact Nat.le_of_eq rfl) (hb hby d7_139) (fun _ _ => ⟨rfl, rfl, (by decide : 0 + 0 ≤ _), (by decide : 0 + 0 ≤ _)⟩)
          dsimp only [Pt.U, Pt.locs, Pt.cells, Pt.slots] at X1144 l1144 y1144 z1144 st1144 hQ1144
          rw [l1144, y1144, z1144] at X1144
          obtain ⟨rv1144, N1144q, O1144, B1144⟩ := hQ1144
          subst rv1144
          have N1144 := Fr.app N1142 N1144q
          obtain ⟨T1146, X1146, e1146, st1146⟩ := getF X1144 hx hZ hown (host := "") (Or.inl (hw _ (tk 13 rfl))) Via.refl rfl (B1144.fld 0 rfl) (g := (mkF m 145 (lt36 x p1 p2 v1023 v1047 v1053 (v1081 + v1087)) [(.ref x), (.int (v1081 + v1087))])) rfl rfl (hb hby d7_145)
          have pre1147 : Cm p e below E0 (T1146.setTop (mkF m 148 (lt36 x p1 p2 v1023 v1047 v1053 (v1081 + v1087)) [(.int (Int32.ofNat nc)), (.int (v1081 + v1087))])) := fun t kt => by
            refine pre1075 t ?_
            show Sp p e below T1073 (mkF m 102 (lt35 x p1 p2 v1023 v1047 v1053) [(.int p2), (.int v1047)]) _
            refine XS.icmpYes X1073.here hx rfl (pc0 := 102) (pc' := 107) rfl (hb hby d7_102) rfl (feq hc1076).2 (by decide) (by decide) ?_
            show Sp p e below T1073 (mkF m 107 (lt35 x p1 p2 v1023 v1047 v1053) []) _
            refine XS.aloadN X1073.here hx rfl (hb hby d7_107) rfl rfl ?_
            show Sp p e below T1073 (mkF m 108 (lt35 x p1 p2 v1023 v1047 v1053) [(.ref x)]) _
            refine st1077 _ ?_
            show Sp p e below T1077 (mkF m 111 (lt35 x p1 p2 v1023 v1047 v1053) [(.ref (A 3))]) _
            refine XS.iloadN X1077.here hx rfl (hb hby d7_111) rfl ?_
            show Sp p e below T1077 (mkF m 112 (lt35 x p1 p2 v1023 v1047 v1053) [(.int p1), (.ref (A 3))]) _
            refine X1077.iaload hx (j := p1) (v := (.int v1081)) (by rw [e1077]; exact Ar1080.1) (State.isArrayOf_alike hZ.alike At1080.2.1) At1080.2.2 hin1080 hat1080 (g := (mkF m 112 (lt35 x p1 p2 v1023 v1047 v1053) [(.int p1), (.ref (A 3))])) rfl rfl (hb hby d7_112) _ ?_
            show Sp p e below T1077 (mkF m 113 (lt35 x p1 p2 v1023 v1047 v1053) [(.int v1081)]) _
            refine XS.aloadN X1077.here hx rfl (hb hby d7_113) rfl rfl ?_
            show Sp p e below T1077 (mkF m 114 (lt35 x p1 p2 v1023 v1047 v1053) [(.ref x), (.int v1081)]) _
            refine st1083 _ ?_
            show Sp p e below T1083 (mkF m 117 (lt35 x p1 p2 v1023 v1047 v1053) [(.ref (A 3)), (.int v1081)]) _
            refine XS.iloadN X1083.here hx rfl (hb hby d7_117) rfl ?_
            show Sp p e below T1083 (mkF m 118 (lt35 x p1 p2 v1023 v1047 v1053) [(.int p2), (.ref (A 3)), (.int v1081)]) _
            refine X1083.iaload hx (j := p2) (v := (.int v1087)) (by rw [e1083]; exact Ar1086.1) (State.isArrayOf_alike hZ.alike At1086.2.1) At1086.2.2 hin1086 hat1086 (g := (mkF m 118 (lt35 x p1 p2 v1023 v1047 v1053) [(.int p2), (.ref (A 3)), (.int v1081)])) rfl rfl (hb hby d7_118) _ ?_
            show Sp p e below T1083 (mkF m 119 (lt35 x p1 p2 v1023 v1047 v1053) [(.int v1087), (.int v1081)]) _
            refine XS.iadd X1083.here hx rfl (hb hby d7_119) rfl ?_
            refine XS.istore X1083.here hx rfl (hb hby d7_120) rfl (l' := (lt36 x p1 p2 v1023 v1047 v1053 (v1081 + v1087))) rfl ?_
            show Sp p e below T1083 (mkF m 122 (lt36 x p1 p2 v1023 v1047 v1053 (v1081 + v1087)) []) _
            refine XS.aloadN X1083.here hx rfl (hb hby d7_122) rfl rfl ?_
            refine XS.iload X1083.here hx rfl (hb hby d7_123) rfl ?_
            show Sp p e below T1083 (mkF m 125 (lt36 x p1 p2 v1023 v1047 v1053 (v1081 + v1087)) [(.int v1047), (.ref x)]) _
            refine XS.iload X1083.here hx rfl (hb hby d7_125) rfl ?_
            refine XS.iload X1083.here hx rfl (hb hby d7_127) rfl ?_
            show Sp p e below T1083 (mkF m 129 (lt36 x p1 p2 v1023 v1047 v1053 (v1081 + v1087)) [(.int (v1081 + v1087)), (.int v1053), (.int v1047), (.ref x)]) _
            refine st1142.trans ?_
            show Sp p e below T1142 (mkF m 132 (lt36 x p1 p2 v1023 v1047 v1053 (v1081 + v1087)) []) _
            refine XS.aloadN X1142.here hx rfl (hb hby d7_132) rfl rfl ?_
            refine XS.iload X1142.here hx rfl (hb hby d7_133) rfl ?_
            show Sp p e below T1142 (mkF m 135 (lt36 x p1 p2 v1023 v1047 v1053 (v1081 + v1087)) [(.int v1053), (.ref x)]) _
            refine XS.iload X1142.here hx rfl (hb hby d7_135) rfl ?_
            refine XS.iload X1142.here hx rfl (hb hby d7_137) rfl ?_
            show Sp p e below T1142 (mkF m 139 (lt36 x p1 p2 v1023 v1047 v1053 (v1081 + v1087)) [(.int (v1081 + v1087)), (.int v1047), (.int v1053), (.ref x)]) _
            refine st1144.trans ?_
            show Sp p e below T1144 (mkF m 142 (lt36 x p1 p2 v1023 v1047 v1053 (v1081 + v1087)) []) _
            refine XS.iload X1144.here hx rfl (hb hby d7_142) rfl ?_
            refine XS.aloadN X1144.here hx rfl (hb hby d7_144) rfl rfl ?_
            show Sp p e below T1144 (mkF m 145 (lt36 x p1 p2 v1023 v1047 v1053 (v1081 + v1087)) [(.ref x), (.int (v1081 + v1087))]) _
            refine st1146 _ ?_
            show Sp p e below T1146 (mkF m 148 (lt36 x p1 p2 v1023 v1047 v1053 (v1081 + v1087)) [(.int (Int32.ofNat nc)), (.int (v1081 + v1087))]) _
            exact kt
          by_cases hc1148 : (v1081 + v1087) = (Int32.ofNat nc)
          · rw [own_eqT hc1148] at hf1145
            obtain ⟨rfl, rfl⟩ := own_ret hf1145
            obtain ⟨fs, hr, hrun, hended, hW, hsame⟩ := X1146.leave (v := some (.int 1)) (fun h => by rw [Bd.returns] at h; cases h) (BodyLoose.notSynchronized Bd)
            refine hno ⟨_, _, pre1147 _ ?_, hrun, hended, _, _, rfl, ?_, ⟨_, rfl⟩, hW, hsame.mono (by decide) (by decide)⟩
            · show Sp p e below T1146 (mkF m 148 (lt36 x p1 p2 v1023 v1047 v1053 (v1081 + v1087)) [(.int (Int32.ofNat nc)), (.int (v1081 + v1087))]) _
              refine XS.icmpYes X1146.here hx rfl (pc0 := 148) (pc' := 168) rfl (hb hby d7_148) rfl (teq hc1148).1 (by decide) (by decide) ?_
              show Sp p e below T1146 (mkF m 168 (lt36 x p1 p2 v1023 v1047 v1053 (v1081 + v1087)) []) _
              refine XS.iconst X1146.here hx rfl (hb hby d7_168) ?_
              show Sp p e below T1146 (mkF m 169 (lt36 x p1 p2 v1023 v1047 v1053 (v1081 + v1087)) [(.int 1)]) _
              refine XS.goto X1146.here hx rfl (pc0 := 169) (pc' := 173) rfl (hb hby d7_169) (by decide) (by decide) ?_
              show Sp p e below T1146 (mkF m 173 (lt36 x p1 p2 v1023 v1047 v1053 (v1081 + v1087)) [(.int 1)]) _
              exact retN X1146 hx (t := .boolean) Bd.returns (by simp) (hb hby d7_173) hr
            · show Q7 Z n0 ex x A K S0 nc _ _ _ T1146.heap _
              rw [e1146]
              exact ⟨rfl, N1144, O1144, B1144⟩
          · rw [own_eqF hc1148] at hf1145
            have pre1149 : Cm p e below E0 (T1146.setTop (mkF m 154 (lt36 x p1 p2 v1023 v1047 v1053 (v1081 + v1087)) [(.int 2), (.int (v1081 + v1087))])) := fun t kt => by
              refine pre1147 t ?_
              show Sp p e below T1146 (mkF m 148 (lt36 x p1 p2 v1023 v1047 v1053 (v1081 + v1087)) [(.int (Int32.ofNat nc)), (.int (v1081 + v1087))]) _
              refine XS.icmpNo X1146.here hx rfl (hb hby d7_148) rfl (feq hc1148).1 ?_
              show Sp p e below T1146 (mkF m 151 (lt36 x p1 p2 v1023 v1047 v1053 (v1081 + v1087)) []) _
              refine XS.iload X1146.here hx rfl (hb hby d7_151) rfl ?_
              refine XS.iconst X1146.here hx rfl (hb hby d7_153) ?_
              show Sp p e below T1146 (mkF m 154 (lt36 x p1 p2 v1023 v1047 v1053 (v1081 + v1087)) [(.int 2), (.int (v1081 + v1087))]) _
              exact kt
            by_cases hc1150 : (v1081 + v1087) = (2 : Int32)
            · rw [own_eqT hc1150] at hf1145
              obtain ⟨rfl, rfl⟩ := own_ret hf1145
              obtain ⟨fs, hr, hrun, hended, hW, hsame⟩ := X1146.leave (v := some (.int 1)) (fun h => by rw [Bd.returns] at h; cases h) (BodyLoose.notSynchronized Bd)
              refine hno ⟨_, _, pre1149 _ ?_, hrun, hended, _, _, rfl, ?_, ⟨_, rfl⟩, hW, hsame.mono (by decide) (by decide)⟩
              · show Sp p e below T1146 (mkF m 154 (lt36 x p1 p2 v1023 v1047 v1053 (v1081 + v1087)) [(.int 2), (.int (v1081 + v1087))]) _
                refine XS.icmpYes X1146.here hx rfl (pc0 := 154) (pc' := 168) rfl (hb hby d7_154) rfl (teq hc1150).1 (by decide) (by decide) ?_
                show Sp p e below T1146 (mkF m 168 (lt36 x p1 p2 v1023 v1047 v1053 (v1081 + v1087)) []) _
                refine XS.iconst X1146.here hx rfl (hb hby d7_168) ?_
                show Sp p e below T1146 (mkF m 169 (lt36 x p1 p2 v1023 v1047 v1053 (v1081 + v1087)) [(.int 1)]) _
                refine XS.goto X1146.here hx rfl (pc0 := 169) (pc' := 173) rfl (hb hby d7_169) (by decide) (by decide) ?_
                show Sp p e below T1146 (mkF m 173 (lt36 x p1 p2 v1023 v1047 v1053 (v1081 + v1087)) [(.int 1)]) _
                exact retN X1146 hx (t := .boolean) Bd.returns (by simp) (hb hby d7_173) hr
              · show Q7 Z n0 ex x A K S0 nc _ _ _ T1146.heap _
                rw [e1146]
                exact ⟨rfl, N1144, O1144, B1144⟩
            · rw [own_eqF hc1150] at hf1145
              obtain ⟨v1151, M1151, hc1151, hf1152⟩ := own_bnd hf1145
              clear hf1145
              obtain ⟨cq1151, q1151, q1151'⟩ := B1144.exa.cell
              obtain ⟨_, _, ⟨T1151, L1151, k1151, n1151⟩, -, X1151, ⟨Lc1151, hQ1151, l1151, y1151, z1151⟩, st1151⟩ := X1146.privateBack hx (y := Y32) hown (mvT hZ (hw _ (tk 95 rfl))) (mvT hZ (hw _ (tk 96 rfl))) (own_selP rfl (mvT hZ (hw _ (tk 2 rfl))) (Cond.privateMethod_at (mvP hZ (hw _ (tk 97 rfl)) (args := #[]))) (mvT hZ (hw _ (tk 96 rfl))) (by decide)) (Cond.privateMethod_at (mvP hZ (hw _ (tk 97 rfl)) (args := #[]))) (mvT hZ (hw _ (tk 98 rfl))) (by decide) (backOf (W := 0) (rm14 l Z a0 hw [] hSl ex x A K S0 nc M1144 v1047 v1053 v1151 M1151 T1144.heap n0 O1144 B1144 hc1151) hZ (hw _ (tk 98 rfl)) (hw _ (tk 3 rfl)) (by decide) (by decide)) (g := (mkF m 162 (lt36 x p1 p2 v1023 v1047 v1053 (v1081 + v1087)) [(.int v1053), (.int v1047), (.ref x)])) rfl (by rw [hml]; rfl) (Steps.refl _) (a := x) (by rw [e1146]; exact q1151) q1151' (argsL := [(.int v1047), (.int v1053)]) (rest := []) (lenOf pd_5 rfl) rfl (by show 2 * 0 + _ ≤ _; exact Nat.le_of_eq rfl) (hb hby d7_162) (fun _ _ => ⟨rfl, e1146, (by decide : 0 + 0 ≤ _), (by decide : 0 + 0 ≤ _)⟩)
              dsimp only [Pt.U, Pt.locs, Pt.cells, Pt.slots] at X1151 l1151 y1151 z1151 st1151 hQ1151
              rw [l1151, y1151, z1151] at X1151
              obtain ⟨rv1151, N1151q, O1151, B1151⟩ := hQ1151
              subst rv1151
              have N1151 := Fr.app N1144 N1151q
              have pre1153 : Cm p e below E0 (T1151.setTop (mkF m 165 (lt36 x p1 p2 v1023 v1047 v1053 (v1081 + v1087)) [(.int v1151)])) := fun t kt => by
                refine pre1149 t ?_
                show Sp p e below T1146 (mkF m 154 (lt36 x p1 p2 v1023 v1047 v1053 (v1081 + v1087)) [(.int 2), (.int (v1081 + v1087))]) _
                refine XS.icmpNo X1146.here hx rfl (hb hby d7_154) rfl (feq hc1150).1 ?_
                show Sp p e below T1146 (mkF m 157 (lt36 x p1 p2 v1023 v1047 v1053 (v1081 + v1087)) []) _
                refine XS.aloadN X1146.here hx rfl (hb hby d7_157) rfl rfl ?_
                refine XS.iload X1146.here hx rfl (hb hby d7_158) rfl ?_
                show Sp p e below T1146 (mkF m 160 (lt36 x p1 p2 v1023 v1047 v1053 (v1081 + v1087)) [(.int v1047), (.ref x)]) _
                refine XS.iload X1146.here hx rfl (hb hby d7_160) rfl ?_
                show Sp p e below T1146 (mkF m 162 (lt36 x p1 p2 v1023 v1047 v1053 (v1081 + v1087)) [(.int v1053), (.int v1047), (.ref x)]) _
                refine st1151.trans ?_
                show Sp p e below T1151 (mkF m 165 (lt36 x p1 p2 v1023 v1047 v1053 (v1081 + v1087)) [(.int v1151)]) _
                exact kt
              by_cases hc1154 : v1151 = (0 : Int32)
              · rw [own_eqT hc1154] at hf1152
                obtain ⟨rfl, rfl⟩ := own_ret hf1152
                obtain ⟨fs, hr, hrun, hended, hW, hsame⟩ := X1151.leave (v := some (.int 0)) (fun h => by rw [Bd.returns] at h; cases h) (BodyLoose.notSynchronized Bd)
                refine hno ⟨_, _, pre1153 _ ?_, hrun, hended, _, _, rfl, ?_, ⟨_, rfl⟩, hW, hsame.mono (by decide) (by decide)⟩
                · show Sp p e below T1151 (mkF m 165 (lt36 x p1 p2 v1023 v1047 v1053 (v1081 + v1087)) [(.int v1151)]) _
                  refine XS.ifYes X1151.here hx rfl (pc0 := 165) (pc' := 172) rfl (hb hby d7_165) rfl ((if0 _ _).trans (teq hc1154).1) (by decide) (by decide) ?_
                  show Sp p e below T1151 (mkF m 172 (lt36 x p1 p2 v1023 v1047 v1053 (v1081 + v1087)) []) _
                  refine XS.iconst X1151.here hx rfl (hb hby d7_172) ?_
                  show Sp p e below T1151 (mkF m 173 (lt36 x p1 p2 v1023 v1047 v1053 (v1081 + v1087)) [(.int 0)]) _
                  exact retN X1151 hx (t := .boolean) Bd.returns (by simp) (hb hby d7_173) hr
                · show Q7 Z n0 ex x A K S0 nc _ _ _ T1151.heap _
                  exact ⟨rfl, N1151, O1151, B1151⟩
              · rw [own_eqF hc1154] at hf1152
                obtain ⟨rfl, rfl⟩ := own_ret hf1152
                obtain ⟨fs, hr, hrun, hended, hW, hsame⟩ := X1151.leave (v := some (.int 1)) (fun h => by rw [Bd.returns] at h; cases h) (BodyLoose.notSynchronized Bd)
                refine hno ⟨_, _, pre1153 _ ?_, hrun, hended, _, _, rfl, ?_, ⟨_, rfl⟩, hW, hsame.mono (by decide) (by decide)⟩
                · show Sp p e below T1151 (mkF m 165 (lt36 x p1 p2 v1023 v1047 v1053 (v1081 + v1087)) [(.int v1151)]) _
                  refine XS.ifNo X1151.here hx rfl (hb hby d7_165) rfl ((if0 _ _).trans (feq hc1154).1) ?_
                  show Sp p e below T1151 (mkF m 168 (lt36 x p1 p2 v1023 v1047 v1053 (v1081 + v1087)) []) _
                  refine XS.iconst X1151.here hx rfl (hb hby d7_168) ?_
                  show Sp p e below T1151 (mkF m 169 (lt36 x p1 p2 v1023 v1047 v1053 (v1081 + v1087)) [(.int 1)]) _
                  refine XS.goto X1151.here hx rfl (pc0 := 169) (pc' := 173) rfl (hb hby d7_169) (by decide) (by decide) ?_
                  show Sp p e below T1151 (mkF m 173 (lt36 x p1 p2 v1023 v1047 v1053 (v1081 + v1087)) [(.int 1)]) _
                  exact retN X1151 hx (t := .boolean) Bd.returns (by simp) (hb hby d7_173) hr
                · show Q7 Z n0 ex x A K S0 nc _ _ _ T1151.heap _
                  exact ⟨rfl, N1151, O1151, B1151⟩
  · rw [own_eqF hc1026] at hf1024
    have pre1155 : Cm p e below E0 (T1016.setTop (mkF m 15 (lt33 x p1 p2 v1023) [(.int 1), (.int v1023)])) := fun t kt => by
      refine pre1025 t ?_
      show Sp p e below T1016 (mkF m 10 (lt33 x p1 p2 v1023) [(.int v1023)]) _
      refine XS.ifNo X1016.here hx rfl (hb hby d7_10) rfl ((if0 _ _).trans (feq hc1026).1) ?_
      show Sp p e below T1016 (mkF m 13 (lt33 x p1 p2 v1023) []) _
      refine XS.iloadN X1016.here hx rfl (hb hby d7_13) rfl ?_
      refine XS.iconst X1016.here hx rfl (hb hby d7_14) ?_
      show Sp p e below T1016 (mkF m 15 (lt33 x p1 p2 v1023) [(.int 1), (.int v1023)]) _
      exact kt
    by_cases hc1156 : v1023 = (1 : Int32)
    · rw [own_eqT hc1156] at hf1024
      obtain ⟨rfl, rfl⟩ := own_ret hf1024
      obtain ⟨fs, hr, hrun, hended, hW, hsame⟩ := X1016.leave (v := some (.int 1)) (fun h => by rw [Bd.returns] at h; cases h) (BodyLoose.notSynchronized Bd)
      refine hno ⟨_, _, pre1155 _ ?_, hrun, hended, _, _, rfl, ?_, ⟨_, rfl⟩, hW, hsame.mono (by decide) (by decide)⟩
      · show Sp p e below T1016 (mkF m 15 (lt33 x p1 p2 v1023) [(.int 1), (.int v1023)]) _
        refine XS.icmpNo X1016.here hx rfl (hb hby d7_15) rfl (teq hc1156).2 ?_
        show Sp p e below T1016 (mkF m 18 (lt33 x p1 p2 v1023) []) _
        refine XS.iconst X1016.here hx rfl (hb hby d7_18) ?_
        show Sp p e below T1016 (mkF m 19 (lt33 x p1 p2 v1023) [(.int 1)]) _
        refine XS.goto X1016.here hx rfl (pc0 := 19) (pc' := 23) rfl (hb hby d7_19) (by decide) (by decide) ?_
        show Sp p e below T1016 (mkF m 23 (lt33 x p1 p2 v1023) [(.int 1)]) _
        exact retN X1016 hx (t := .boolean) Bd.returns (by simp) (hb hby d7_23) hr
      · show Q7 Z n0 ex x A K S0 nc _ _ _ T1016.heap _
        rw [e1016]
        exact ⟨rfl, N0, O0, B0⟩
    · rw [own_eqF hc1156] at hf1024
      obtain ⟨rfl, rfl⟩ := own_ret hf1024
      obtain ⟨fs, hr, hrun, hended, hW, hsame⟩ := X1016.leave (v := some (.int 0)) (fun h => by rw [Bd.returns] at h; cases h) (BodyLoose.notSynchronized Bd)
      refine hno ⟨_, _, pre1155 _ ?_, hrun, hended, _, _, rfl, ?_, ⟨_, rfl⟩, hW, hsame.mono (by decide) (by decide)⟩
      · show Sp p e below T1016 (mkF m 15 (lt33 x p1 p2 v1023) [(.int 1), (.int v1023)]) _
        refine XS.icmpYes X1016.here hx rfl (pc0 := 15) (pc' := 22) rfl (hb hby d7_15) rfl (feq hc1156).2 (by decide) (by decide) ?_
        show Sp p e below T1016 (mkF m 22 (lt33 x p1 p2 v1023) []) _
        refine XS.iconst X1016.here hx rfl (hb hby d7_22) ?_
        show Sp p e below T1016 (mkF m 23 (lt33 x p1 p2 v1023) [(.int 0)]) _
        exact retN X1016 hx (t := .boolean) Bd.returns (by simp) (hb hby d7_23) hr
      · show Q7 Z n0 ex x A K S0 nc _ _ _ T1016.heap _
        rw [e1016]
        exact ⟨rfl, N0, O0, B0⟩
theorem pn_12 : plainName "com/example/onetree/onetree/EdgeStates" = true := by first | (simp [plainName, overriddenIn]; done) | decide +kernel
def lp12 (nc : Nat) : Nat → MM → Int32 → Int32 → Int32 → Option (Int32 × MM)
  | 0, _, _, _, _ => none
  | k + 1, M, al1, al2, al3 => cnd (ltB al3 (Int32.ofNat nc)) (cnd (eqB al3 al1) (lp12 nc k M al1 al2 (al3 + (1 : Int32))) (gd (inr al1 nc) (gd (inr al3 nc) (nai (ld M (14 + ix al1) (ix al3)) fun v1010 => cnd (eqB v1010 (0 : Int32)) (cnd (eqB al2 (0 : Int32)) (bnd (f7 nc M al1 al3) fun v1157 M1157 => cnd (eqB v1157 (0 : Int32)) (some ((0 : Int32), M1157)) (lp12 nc k M1157 al1 al2 (al3 + (1 : Int32)))) (bnd (f14 nc M al1 al3) fun v1162 M1162 => cnd (eqB v1162 (0 : Int32)) (some ((0 : Int32), M1162)) (lp12 nc k M1162 al1 al2 (al3 + (1 : Int32))))) (lp12 nc k M al1 al2 (al3 + (1 : Int32))))))) (some ((1 : Int32), M))
def f12 (nc : Nat) (M : MM) (p1 : Int32) : Option (Int32 × MM) := gd (inr p1 (lnR nc 1)) (nai (ld M 1 (ix p1)) fun v971 => cnd (ltB v971 (2 : Int32)) (some ((0 : Int32), M)) (gd (inr p1 (lnR nc 0)) (nai (ld M 0 (ix p1)) fun v979 => cnd (eqB v979 (2 : Int32)) (nai (ld M 1 (ix p1)) fun v985 => cnd (eqB v985 (2 : Int32)) (some ((1 : Int32), M)) (lp12 nc 200 M p1 (1 : Int32) (0 : Int32))) (nai (ld M 1 (ix p1)) fun v992 => cnd (eqB v992 (2 : Int32)) (lp12 nc 200 M p1 (0 : Int32) (0 : Int32)) (some ((1 : Int32), M))))))
theorem ef_12 (m : MethodId) (x : Addr) (A : Nat → Addr) (p1 : Int32) : entryFrame m #[(.ref x), (.int p1)] 5 = mkF m 0 #[.val (.ref x), .val (.int p1), .unset, .unset, .unset] [] := by first | (simp [entryFrame, mkF, argsToLocals, Value.category]; done) | rfl
def Q12 (Z : State) (n0 : Nat) (ex : Bool) (x : Addr) (A : Nat → Addr) (K : Nat → ClassId) (S0 : Addr) (nc : Nat) (rv : Int32) (M' : MM) (v : Option Value) (h : Heap) (L : List Loc) : Prop := v = some (.int rv) ∧ Fr n0 L ∧ Old Z n0 h ∧ EB Z n0 ex h x A K S0 nc M'
set_option maxRecDepth 65536 in
set_option maxHeartbeats 40000000 in
theorem rm12 (l : Launch) (Z : State) (a0 : Array Value) (hw : ∀ d ∈ tables_1, d.before a0 Z = true) (ws : List Jvm.Cond) (hSl : SlotsOK Z) (ex : Bool) (x : Addr) (A : Nat → Addr) (K : Nat → ClassId) (S0 : Addr) (nc : Nat) (M : MM) (p1 : Int32) (rv : Int32) (M' : MM) (h0 : Heap) (n0 : Nat) (O0 : Old Z n0 h0) (B0 : EB Z n0 ex h0 x A K S0 nc M) (hf : f12 nc M p1 = some (rv, M')) :
    MetFree l Y46 (head1 (Jvm.Cond.code Y46 prog_7_method_24_code 5 (some .boolean) :: ws) ({ frames := 3, cells := 0, slots := 0, locals := 48 } : Room)) (fun a U => a = #[(.ref x), (.int p1)] ∧ Z.Warmed39 U.vm ∧ U.heap = h0) (fun _ _ _ _ _ => True) (fun _ U o U' => ∃ v L, o = .returned v ∧ Q12 Z n0 ex x A K S0 nc rv M' v U'.heap L ∧ FrameEnd U o U' L ({ frames := 3, cells := 0, slots := 0, locals := 48 } : Room).cells ({ frames := 3, cells := 0, slots := 0, locals := 48 } : Room).slots) := by
  refine MetFree.of_bodySF (plainFor_of_name pn_12) hisR ?_
  intro p e s m args below meth c s₁ Bd hml0 hP hK
  obtain ⟨rfl, hZ, hh⟩ := hP
  have hx := Bd.exec
  have hby := Bd.bytes
  have hml : c.maxLocals = 5 := hml0
  have hown : s.vm.findClass "com/example/onetree/onetree/EdgeStates" = some m.cls := findClass_of_methodNamed Bd.named
  have X0 : Stand p l e ({ frames := 3, cells := 0, slots := 0, locals := 48 } : Room) s m #[(.ref x), (.int p1)] below meth c s₁ [] 0 0 := Stand.of_body Bd
  have e0 : s₁.heap = h0 := by rw [← hh, Bd.state]; rfl
  have N0 := Fr.nil n0
  have pre0 : ∀ t, Steps p.tables e below (s₁.setTop (mkF m 0 #[.val (.ref x), .val (.int p1), .unset, .unset, .unset] [])) t → Steps p.tables e below (s₁.setTop (entryFrame m #[(.ref x), (.int p1)] 5)) t := fun t k => castTop (ef_12 m x A p1) k
  generalize hE0 : s₁.setTop (entryFrame m #[(.ref x), (.int p1)] 5) = E0 at pre0 ⊢
  apply Classical.byContradiction
  intro hno
  unfold f12 at hf
  have lp : ∀ k : Nat, (∀ (M : MM) (al1 : Int32) (al2 : Int32) (al3 : Int32) (s4 : Slot) (_ : s4 = .unset ∨ ∃ w, s4 = .val w ∧ w.category = 1) (T0 : State) (L1 : List Loc) (h1 : Heap), Stand p l e ({ frames := 3, cells := 0, slots := 0, locals := 48 } : Room) s m #[(.ref x), (.int p1)] below meth c T0 L1 0 0 → T0.heap = h1 → Old Z n0 h1 → Fr n0 L1 → EB Z n0 ex h1 x A K S0 nc M → lp12 nc k M al1 al2 al3 = some (rv, M') → Cm p e below E0 (T0.setTop (mkF m 51 (lt31 x al1 al2 al3 s4) [])) → False) := by
    intro k
    induction k with
    | zero => exact fun M al1 al2 al3 s4 u4 T0 L1 h1 X1 e1 O1 N1 B1 hf pre1 => (by rw [lp12] at hf; cases hf)
    | succ k ih =>
      refine fun M al1 al2 al3 s4 u4 T0 L1 h1 X1 e1 O1 N1 B1 hf pre1 => ?_
      · rw [lp12] at hf
        obtain ⟨T997, X997, e997, st997⟩ := getF X1 hx hZ hown (host := "") (Or.inl (hw _ (tk 13 rfl))) Via.refl e1 (B1.fld 0 rfl) (g := (mkF m 53 (lt31 x al1 al2 al3 s4) [(.ref x), (.int al3)])) rfl rfl (hb hby d12_53)
        have pre998 : Cm p e below E0 (T997.setTop (mkF m 56 (lt31 x al1 al2 al3 s4) [(.int (Int32.ofNat nc)), (.int al3)])) := fun t kt => by
          refine pre1 t ?_
          show Sp p e below T0 (mkF m 51 (lt31 x al1 al2 al3 s4) []) _
          refine XS.iloadN X1.here hx rfl (hb hby d12_51) rfl ?_
          refine XS.aloadN X1.here hx rfl (hb hby d12_52) rfl rfl ?_
          show Sp p e below T0 (mkF m 53 (lt31 x al1 al2 al3 s4) [(.ref x), (.int al3)]) _
          refine st997 _ ?_
          show Sp p e below T997 (mkF m 56 (lt31 x al1 al2 al3 s4) [(.int (Int32.ofNat nc)), (.int al3)]) _
          exact kt
        by_cases hc999 : al3 < (Int32.ofNat nc)
        · rw [own_ltT hc999] at hf
          have pre1000 : Cm p e below E0 (T997.setTop (mkF m 61 (lt31 x al1 al2 al3 s4) [(.int al1), (.int al3)])) := fun t kt => by
            refine pre998 t ?_
            show Sp p e below T997 (mkF m 56 (lt31 x al1 al2 al3 s4) [(.int (Int32.ofNat nc)), (.int al3)]) _
            refine XS.icmpNo X997.here hx rfl (hb hby d12_56) rfl (tlt hc999).2.1 ?_
            show Sp p e below T997 (mkF m 59 (lt31 x al1 al2 al3 s4) []) _
            refine XS.iloadN X997.here hx rfl (hb hby d12_59) rfl ?_
            refine XS.iloadN X997.here hx rfl (hb hby d12_60) rfl ?_
            show Sp p e below T997 (mkF m 61 (lt31 x al1 al2 al3 s4) [(.int al1), (.int al3)]) _
            exact kt
          by_cases hc1001 : al3 = al1
          · rw [own_eqT hc1001] at hf
            have pre1002 : Cm p e below E0 (T997.setTop (mkF m 51 (lt31 x al1 al2 (al3 + 1) s4) [])) := fun t kt => by
              refine pre1000 t ?_
              show Sp p e below T997 (mkF m 61 (lt31 x al1 al2 al3 s4) [(.int al1), (.int al3)]) _
              refine XS.icmpYes X997.here hx rfl (pc0 := 61) (pc' := 103) rfl (hb hby d12_61) rfl (teq hc1001).1 (by decide) (by decide) ?_
              show Sp p e below T997 (mkF m 103 (lt31 x al1 al2 al3 s4) []) _
              refine XS.iinc X997.here hx rfl (hb hby d12_103) rfl (l' := (lt31 x al1 al2 (al3 + 1) s4)) rfl ?_
              show Sp p e below T997 (mkF m 106 (lt31 x al1 al2 (al3 + 1) s4) []) _
              refine XS.goto X997.here hx rfl (pc0 := 106) (pc' := 51) rfl (hb hby d12_106) (by decide) (by decide) ?_
              show Sp p e below T997 (mkF m 51 (lt31 x al1 al2 (al3 + 1) s4) []) _
              exact kt
            exact ih M al1 al2 (al3 + 1) s4 u4 T997 _ _ X997 e997 O1 N1 B1 hf pre1002
          · rw [own_eqF hc1001] at hf
            obtain ⟨T1003, X1003, e1003, st1003⟩ := getF X997 hx hZ hown (host := "") (Or.inl (hw _ (tk 22 rfl))) Via.refl e997 (B1.fld 1 rfl) (g := (mkF m 65 (lt31 x al1 al2 al3 s4) [(.ref x)])) rfl rfl (hb hby d12_65)
            obtain ⟨g1004, hf1005⟩ := own_gd hf
            clear hf
            obtain ⟨cl1006, Ar1006, hin1006, hat1006⟩ := B1.getS g1004
            obtain ⟨g1007, hf1008⟩ := own_gd hf1005
            clear hf1005
            obtain ⟨v1010, d_v1010, hf1011⟩ := own_nai hf1008
            clear hf1008
            obtain ⟨cl1009, Ar1009, hin1009, hat1009⟩ := B1.get (14 + ix al1) (B1.isS g1004) (own_gS g1007) d_v1010
            have At1009 := own_tyA Ar1009
            have pre1012 : Cm p e below E0 (T1003.setTop (mkF m 72 (lt31 x al1 al2 al3 s4) [(.int v1010)])) := fun t kt => by
              refine pre1000 t ?_
              show Sp p e below T997 (mkF m 61 (lt31 x al1 al2 al3 s4) [(.int al1), (.int al3)]) _
              refine XS.icmpNo X997.here hx rfl (hb hby d12_61) rfl (feq hc1001).1 ?_
              show Sp p e below T997 (mkF m 64 (lt31 x al1 al2 al3 s4) []) _
              refine XS.aloadN X997.here hx rfl (hb hby d12_64) rfl rfl ?_
              show Sp p e below T997 (mkF m 65 (lt31 x al1 al2 al3 s4) [(.ref x)]) _
              refine st1003 _ ?_
              show Sp p e below T1003 (mkF m 68 (lt31 x al1 al2 al3 s4) [(.ref S0)]) _
              refine XS.iloadN X1003.here hx rfl (hb hby d12_68) rfl ?_
              show Sp p e below T1003 (mkF m 69 (lt31 x al1 al2 al3 s4) [(.int al1), (.ref S0)]) _
              refine X1003.aaload hx (j := al1) (v := .ref (A (14 + ix al1))) (by rw [e1003]; exact Ar1006.1) (State.isArrayOf_alike hZ.alike Ar1006.2.1) rfl Ar1006.2.2 hin1006 hat1006 (g := (mkF m 69 (lt31 x al1 al2 al3 s4) [(.int al1), (.ref S0)])) rfl rfl (hb hby d12_69) _ ?_
              show Sp p e below T1003 (mkF m 70 (lt31 x al1 al2 al3 s4) [(.ref (A (14 + ix al1)))]) _
              refine XS.iloadN X1003.here hx rfl (hb hby d12_70) rfl ?_
              show Sp p e below T1003 (mkF m 71 (lt31 x al1 al2 al3 s4) [(.int al3), (.ref (A (14 + ix al1)))]) _
              refine X1003.baloadBytes hx (j := al3) (v := (.int v1010)) (by rw [e1003]; exact Ar1009.1) (State.isArrayOf_alike hZ.alike At1009.2.1) At1009.2.2 hin1009 hat1009 (g := (mkF m 71 (lt31 x al1 al2 al3 s4) [(.int al3), (.ref (A (14 + ix al1)))])) rfl rfl (hb hby d12_71) _ ?_
              show Sp p e below T1003 (mkF m 72 (lt31 x al1 al2 al3 s4) [(.int v1010)]) _
              exact kt
            by_cases hc1013 : v1010 = (0 : Int32)
            · rw [own_eqT hc1013] at hf1011
              have pre1014 : Cm p e below E0 (T1003.setTop (mkF m 76 (lt31 x al1 al2 al3 s4) [(.int al2)])) := fun t kt => by
                refine pre1012 t ?_
                show Sp p e below T1003 (mkF m 72 (lt31 x al1 al2 al3 s4) [(.int v1010)]) _
                refine XS.ifNo X1003.here hx rfl (hb hby d12_72) rfl ((if0 _ _).trans (teq hc1013).2) ?_
                show Sp p e below T1003 (mkF m 75 (lt31 x al1 al2 al3 s4) []) _
                refine XS.iloadN X1003.here hx rfl (hb hby d12_75) rfl ?_
                show Sp p e below T1003 (mkF m 76 (lt31 x al1 al2 al3 s4) [(.int al2)]) _
                exact kt
              by_cases hc1015 : al2 = (0 : Int32)
              · rw [own_eqT hc1015] at hf1011
                obtain ⟨v1157, M1157, hc1157, hf1158⟩ := own_bnd hf1011
                clear hf1011
                obtain ⟨cq1157, q1157, q1157'⟩ := B1.exa.cell
                obtain ⟨_, _, ⟨T1157, L1157, k1157, n1157⟩, -, X1157, ⟨Lc1157, hQ1157, l1157, y1157, z1157⟩, st1157⟩ := X1003.privateBack hx (y := Y44) hown (mvT hZ (hw _ (tk 58 rfl))) (mvT hZ (hw _ (tk 59 rfl))) (own_selP rfl (mvT hZ (hw _ (tk 2 rfl))) (Cond.privateMethod_at (mvP hZ (hw _ (tk 60 rfl)) (args := #[]))) (mvT hZ (hw _ (tk 59 rfl))) (by decide)) (Cond.privateMethod_at (mvP hZ (hw _ (tk 60 rfl)) (args := #[]))) (mvT hZ (hw _ (tk 61 rfl))) (by decide) (backOf (W := 0) (rm7 l Z a0 hw [] hSl ex x A K S0 nc M al1 al3 v1157 M1157 h1 n0 O1 B1 hc1157) hZ (hw _ (tk 61 rfl)) (hw _ (tk 3 rfl)) (by decide) (by decide)) (g := (mkF m 91 (lt31 x al1 al2 al3 s4) [(.int al3), (.int al1), (.ref x)])) rfl (by rw [hml]; rfl) (Steps.refl _) (a := x) (by rw [e1003]; exact q1157) q1157' (argsL := [(.int al1), (.int al3)]) (rest := []) (lenOf pd_5 rfl) rfl (by show 2 * 0 + _ ≤ _; exact Nat.le_of_eq rfl) (hb hby d12_91) (fun _ _ => ⟨rfl, e1003, (by decide : 0 + 0 ≤ _), (by decide : 0 + 0 ≤ _)⟩)
                dsimp only [Pt.U, Pt.locs, Pt.cells, Pt.slots] at X1157 l1157 y1157 z1157 st1157 hQ1157
                rw [l1157, y1157, z1157] at X1157
                obtain ⟨rv1157, N1157q, O1157, B1157⟩ := hQ1157
                subst rv1157
                have N1157 := Fr.app N1 N1157q
                have pre1159 : Cm p e below E0 (T1157.setTop (mkF m 98 (lt37 x al1 al2 al3 v1157) [(.int v1157)])) := fun t kt => by
                  refine pre1014 t ?_
                  show Sp p e below T1003 (mkF m 76 (lt31 x al1 al2 al3 s4) [(.int al2)]) _
                  refine XS.ifYes X1003.here hx rfl (pc0 := 76) (pc' := 88) rfl (hb hby d12_76) rfl ((if0 _ _).trans (teq hc1015).1) (by decide) (by decide) ?_
                  show Sp p e below T1003 (mkF m 88 (lt31 x al1 al2 al3 s4) []) _
                  refine XS.aloadN X1003.here hx rfl (hb hby d12_88) rfl rfl ?_
                  refine XS.iloadN X1003.here hx rfl (hb hby d12_89) rfl ?_
                  show Sp p e below T1003 (mkF m 90 (lt31 x al1 al2 al3 s4) [(.int al1), (.ref x)]) _
                  refine XS.iloadN X1003.here hx rfl (hb hby d12_90) rfl ?_
                  show Sp p e below T1003 (mkF m 91 (lt31 x al1 al2 al3 s4) [(.int al3), (.int al1), (.ref x)]) _
                  refine st1157.trans ?_
                  show Sp p e below T1157 (mkF m 94 (lt31 x al1 al2 al3 s4) [(.int v1157)]) _
                  refine XS.istoreS X1157.here hx rfl (hb hby d12_94) rfl rfl u4 ?_
                  refine XS.iload X1157.here hx rfl (hb hby d12_96) rfl ?_
                  show Sp p e below T1157 (mkF m 98 (lt37 x al1 al2 al3 v1157) [(.int v1157)]) _
                  exact kt
                by_cases hc1160 : v1157 = (0 : Int32)
                · rw [own_eqT hc1160] at hf1158
                  obtain ⟨rfl, rfl⟩ := own_ret hf1158
                  obtain ⟨fs, hr, hrun, hended, hW, hsame⟩ := X1157.leave (v := some (.int 0)) (fun h => by rw [Bd.returns] at h; cases h) (BodyLoose.notSynchronized Bd)
                  refine hno ⟨_, _, pre1159 _ ?_, hrun, hended, _, _, rfl, ?_, ⟨_, rfl⟩, hW, hsame.mono (by decide) (by decide)⟩
                  · show Sp p e below T1157 (mkF m 98 (lt37 x al1 al2 al3 v1157) [(.int v1157)]) _
                    refine XS.ifNo X1157.here hx rfl (hb hby d12_98) rfl ((if0 _ _).trans (teq hc1160).2) ?_
                    show Sp p e below T1157 (mkF m 101 (lt37 x al1 al2 al3 v1157) []) _
                    refine XS.iconst X1157.here hx rfl (hb hby d12_101) ?_
                    show Sp p e below T1157 (mkF m 102 (lt37 x al1 al2 al3 v1157) [(.int 0)]) _
                    exact retN X1157 hx (t := .boolean) Bd.returns (by simp) (hb hby d12_102) hr
                  · show Q12 Z n0 ex x A K S0 nc _ _ _ T1157.heap _
                    exact ⟨rfl, N1157, O1157, B1157⟩
                · rw [own_eqF hc1160] at hf1158
                  have pre1161 : Cm p e below E0 (T1157.setTop (mkF m 51 (lt37 x al1 al2 (al3 + 1) v1157) [])) := fun t kt => by
                    refine pre1159 t ?_
                    show Sp p e below T1157 (mkF m 98 (lt37 x al1 al2 al3 v1157) [(.int v1157)]) _
                    refine XS.ifYes X1157.here hx rfl (pc0 := 98) (pc' := 103) rfl (hb hby d12_98) rfl ((if0 _ _).trans (feq hc1160).2) (by decide) (by decide) ?_
                    show Sp p e below T1157 (mkF m 103 (lt37 x al1 al2 al3 v1157) []) _
                    refine XS.iinc X1157.here hx rfl (hb hby d12_103) rfl (l' := (lt37 x al1 al2 (al3 + 1) v1157)) rfl ?_
                    show Sp p e below T1157 (mkF m 106 (lt37 x al1 al2 (al3 + 1) v1157) []) _
                    refine XS.goto X1157.here hx rfl (pc0 := 106) (pc' := 51) rfl (hb hby d12_106) (by decide) (by decide) ?_
                    show Sp p e below T1157 (mkF m 51 (lt37 x al1 al2 (al3 + 1) v1157) []) _
                    exact kt
                  exact ih M1157 al1 al2 (al3 + 1) (.val (.int v1157)) (Or.inr ⟨_, rfl, rfl⟩) T1157 _ _ X1157 rfl O1157 N1157 B1157 hf1158 pre1161
              · rw [own_eqF hc1015] at hf1011
                obtain ⟨v1162, M1162, hc1162, hf1163⟩ := own_bnd hf1011
                clear hf1011
                obtain ⟨cq1162, q1162, q1162'⟩ := B1.exa.cell
                obtain ⟨_, _, ⟨T1162, L1162, k1162, n1162⟩, -, X1162, ⟨Lc1162, hQ1162, l1162, y1162, z1162⟩, st1162⟩ := X1003.privateBack hx (y := Y32) hown (mvT hZ (hw _ (tk 95 rfl))) (mvT hZ (hw _ (tk 96 rfl))) (own_selP rfl (mvT hZ (hw _ (tk 2 rfl))) (Cond.privateMethod_at (mvP hZ (hw _ (tk 97 rfl)) (args := #[]))) (mvT hZ (hw _ (tk 96 rfl))) (by decide)) (Cond.privateMethod_at (mvP hZ (hw _ (tk 97 rfl)) (args := #[]))) (mvT hZ (hw _ (tk 98 rfl))) (by decide) (backOf (W := 0) (rm14 l Z a0 hw [] hSl ex x A K S0 nc M al1 al3 v1162 M1162 h1 n0 O1 B1 hc1162) hZ (hw _ (tk 98 rfl)) (hw _ (tk 3 rfl)) (by decide) (by decide)) (g := (mkF m 82 (lt31 x al1 al2 al3 s4) [(.int al3), (.int al1), (.ref x)])) rfl (by rw [hml]; rfl) (Steps.refl _) (a := x) (by rw [e1003]; exact q1162) q1162' (argsL := [(.int al1), (.int al3)]) (rest := []) (lenOf pd_5 rfl) rfl (by show 2 * 0 + _ ≤ _; exact Nat.le_of_eq rfl) (hb hby d12_82) (fun _ _ => ⟨rfl, e1003, (by decide : 0 + 0 ≤ _), (by decide : 0 + 0 ≤ _)⟩)
                dsimp only [Pt.U, Pt.locs, Pt.cells, Pt.slots] at X1162 l1162 y1162 z1162 st1162 hQ1162
                rw [l1162, y1162, z1162] at X1162
                obtain ⟨rv1162, N1162q, O1162, B1162⟩ := hQ1162
                subst rv1162
                have N1162 := Fr.app N1 N1162q
                have pre1164 : Cm p e below E0 (T1162.setTop (mkF m 98 (lt37 x al1 al2 al3 v1162) [(.int v1162)])) := fun t kt => by
                  refine pre1014 t ?_
                  show Sp p e below T1003 (mkF m 76 (lt31 x al1 al2 al3 s4) [(.int al2)]) _
                  refine XS.ifNo X1003.here hx rfl (hb hby d12_76) rfl ((if0 _ _).trans (feq hc1015).1) ?_
                  show Sp p e below T1003 (mkF m 79 (lt31 x al1 al2 al3 s4) []) _
                  refine XS.aloadN X1003.here hx rfl (hb hby d12_79) rfl rfl ?_
                  refine XS.iloadN X1003.here hx rfl (hb hby d12_80) rfl ?_
                  show Sp p e below T1003 (mkF m 81 (lt31 x al1 al2 al3 s4) [(.int al1), (.ref x)]) _
                  refine XS.iloadN X1003.here hx rfl (hb hby d12_81) rfl ?_
                  show Sp p e below T1003 (mkF m 82 (lt31 x al1 al2 al3 s4) [(.int al3), (.int al1), (.ref x)]) _
                  refine st1162.trans ?_
                  show Sp p e below T1162 (mkF m 85 (lt31 x al1 al2 al3 s4) [(.int v1162)]) _
                  refine XS.goto X1162.here hx rfl (pc0 := 85) (pc' := 94) rfl (hb hby d12_85) (by decide) (by decide) ?_
                  show Sp p e below T1162 (mkF m 94 (lt31 x al1 al2 al3 s4) [(.int v1162)]) _
                  refine XS.istoreS X1162.here hx rfl (hb hby d12_94) rfl rfl u4 ?_
                  refine XS.iload X1162.here hx rfl (hb hby d12_96) rfl ?_
                  show Sp p e below T1162 (mkF m 98 (lt37 x al1 al2 al3 v1162) [(.int v1162)]) _
                  exact kt
                by_cases hc1165 : v1162 = (0 : Int32)
                · rw [own_eqT hc1165] at hf1163
                  obtain ⟨rfl, rfl⟩ := own_ret hf1163
                  obtain ⟨fs, hr, hrun, hended, hW, hsame⟩ := X1162.leave (v := some (.int 0)) (fun h => by rw [Bd.returns] at h; cases h) (BodyLoose.notSynchronized Bd)
                  refine hno ⟨_, _, pre1164 _ ?_, hrun, hended, _, _, rfl, ?_, ⟨_, rfl⟩, hW, hsame.mono (by decide) (by decide)⟩
                  · show Sp p e below T1162 (mkF m 98 (lt37 x al1 al2 al3 v1162) [(.int v1162)]) _
                    refine XS.ifNo X1162.here hx rfl (hb hby d12_98) rfl ((if0 _ _).trans (teq hc1165).2) ?_
                    show Sp p e below T1162 (mkF m 101 (lt37 x al1 al2 al3 v1162) []) _
                    refine XS.iconst X1162.here hx rfl (hb hby d12_101) ?_
                    show Sp p e below T1162 (mkF m 102 (lt37 x al1 al2 al3 v1162) [(.int 0)]) _
                    exact retN X1162 hx (t := .boolean) Bd.returns (by simp) (hb hby d12_102) hr
                  · show Q12 Z n0 ex x A K S0 nc _ _ _ T1162.heap _
                    exact ⟨rfl, N1162, O1162, B1162⟩
                · rw [own_eqF hc1165] at hf1163
                  have pre1166 : Cm p e below E0 (T1162.setTop (mkF m 51 (lt37 x al1 al2 (al3 + 1) v1162) [])) := fun t kt => by
                    refine pre1164 t ?_
                    show Sp p e below T1162 (mkF m 98 (lt37 x al1 al2 al3 v1162) [(.int v1162)]) _
                    refine XS.ifYes X1162.here hx rfl (pc0 := 98) (pc' := 103) rfl (hb hby d12_98) rfl ((if0 _ _).trans (feq hc1165).2) (by decide) (by decide) ?_
                    show Sp p e below T1162 (mkF m 103 (lt37 x al1 al2 al3 v1162) []) _
                    refine XS.iinc X1162.here hx rfl (hb hby d12_103) rfl (l' := (lt37 x al1 al2 (al3 + 1) v1162)) rfl ?_
                    show Sp p e below T1162 (mkF m 106 (lt37 x al1 al2 (al3 + 1) v1162) []) _
                    refine XS.goto X1162.here hx rfl (pc0 := 106) (pc' := 51) rfl (hb hby d12_106) (by decide) (by decide) ?_
                    show Sp p e below T1162 (mkF m 51 (lt37 x al1 al2 (al3 + 1) v1162) []) _
                    exact kt
                  exact ih M1162 al1 al2 (al3 + 1) (.val (.int v1162)) (Or.inr ⟨_, rfl, rfl⟩) T1162 _ _ X1162 rfl O1162 N1162 B1162 hf1163 pre1166
            · rw [own_eqF hc1013] at hf1011
              have pre1167 : Cm p e below E0 (T1003.setTop (mkF m 51 (lt31 x al1 al2 (al3 + 1) s4) [])) := fun t kt => by
                refine pre1012 t ?_
                show Sp p e below T1003 (mkF m 72 (lt31 x al1 al2 al3 s4) [(.int v1010)]) _
                refine XS.ifYes X1003.here hx rfl (pc0 := 72) (pc' := 103) rfl (hb hby d12_72) rfl ((if0 _ _).trans (feq hc1013).2) (by decide) (by decide) ?_
                show Sp p e below T1003 (mkF m 103 (lt31 x al1 al2 al3 s4) []) _
                refine XS.iinc X1003.here hx rfl (hb hby d12_103) rfl (l' := (lt31 x al1 al2 (al3 + 1) s4)) rfl ?_
                show Sp p e below T1003 (mkF m 106 (lt31 x al1 al2 (al3 + 1) s4) []) _
                refine XS.goto X1003.here hx rfl (pc0 := 106) (pc' := 51) rfl (hb hby d12_106) (by decide) (by decide) ?_
                show Sp p e below T1003 (mkF m 51 (lt31 x al1 al2 (al3 + 1) s4) []) _
                exact kt
              exact ih M al1 al2 (al3 + 1) s4 u4 T1003 _ _ X1003 e1003 O1 N1 B1 hf1011 pre1167
        · rw [own_ltF hc999] at hf
          obtain ⟨rfl, rfl⟩ := own_ret hf
          obtain ⟨fs, hr, hrun, hended, hW, hsame⟩ := X997.leave (v := some (.int 1)) (fun h => by rw [Bd.returns] at h; cases h) (BodyLoose.notSynchronized Bd)
          refine hno ⟨_, _, pre998 _ ?_, hrun, hended, _, _, rfl, ?_, ⟨_, rfl⟩, hW, hsame.mono (by decide) (by decide)⟩
          · show Sp p e below T997 (mkF m 56 (lt31 x al1 al2 al3 s4) [(.int (Int32.ofNat nc)), (.int al3)]) _
            refine XS.icmpYes X997.here hx rfl (pc0 := 56) (pc' := 109) rfl (hb hby d12_56) rfl (flt hc999).2.1 (by decide) (by decide) ?_
            show Sp p e below T997 (mkF m 109 (lt31 x al1 al2 al3 s4) []) _
            refine XS.iconst X997.here hx rfl (hb hby d12_109) ?_
            show Sp p e below T997 (mkF m 110 (lt31 x al1 al2 al3 s4) [(.int 1)]) _
            exact retN X997 hx (t := .boolean) Bd.returns (by simp) (hb hby d12_110) hr
          · show Q12 Z n0 ex x A K S0 nc _ _ _ T997.heap _
            rw [e997]
            exact ⟨rfl, N1, O1, B1⟩
  obtain ⟨T967, X967, e967, st967⟩ := getF X0 hx hZ hown (host := "") (Or.inl (hw _ (tk 27 rfl))) Via.refl e0 (B0.fld 3 rfl) (g := (mkF m 1 (lt28 x p1) [(.ref x)])) rfl rfl (hb hby d12_1)
  obtain ⟨g968, hf969⟩ := own_gd hf
  clear hf
  obtain ⟨v971, d_v971, hf972⟩ := own_nai hf969
  clear hf969
  obtain ⟨cl970, Ar970, hin970, hat970⟩ := B0.get 1 (Or.inl (by decide)) g968 d_v971
  have At970 : Arr Z h0 (A 1) cl970 .int := Ar970
  have pre973 : Cm p e below E0 (T967.setTop (mkF m 7 (lt28 x p1) [(.int 2), (.int v971)])) := fun t kt => by
    refine pre0 t ?_
    show Sp p e below s₁ (mkF m 0 (lt28 x p1) []) _
    refine XS.aloadN X0.here hx rfl (hb hby d12_0) rfl rfl ?_
    show Sp p e below s₁ (mkF m 1 (lt28 x p1) [(.ref x)]) _
    refine st967 _ ?_
    show Sp p e below T967 (mkF m 4 (lt28 x p1) [(.ref (A 1))]) _
    refine XS.iloadN X967.here hx rfl (hb hby d12_4) rfl ?_
    show Sp p e below T967 (mkF m 5 (lt28 x p1) [(.int p1), (.ref (A 1))]) _
    refine X967.iaload hx (j := p1) (v := (.int v971)) (by rw [e967]; exact Ar970.1) (State.isArrayOf_alike hZ.alike At970.2.1) At970.2.2 hin970 hat970 (g := (mkF m 5 (lt28 x p1) [(.int p1), (.ref (A 1))])) rfl rfl (hb hby d12_5) _ ?_
    show Sp p e below T967 (mkF m 6 (lt28 x p1) [(.int v971)]) _
    refine XS.iconst X967.here hx rfl (hb hby d12_6) ?_
    show Sp p e below T967 (mkF m 7 (lt28 x p1) [(.int 2), (.int v971)]) _
    exact kt
  by_cases hc974 : v971 < (2 : Int32)
  · rw [own_ltT hc974] at hf972
    obtain ⟨rfl, rfl⟩ := own_ret hf972
    obtain ⟨fs, hr, hrun, hended, hW, hsame⟩ := X967.leave (v := some (.int 0)) (fun h => by rw [Bd.returns] at h; cases h) (BodyLoose.notSynchronized Bd)
    refine hno ⟨_, _, pre973 _ ?_, hrun, hended, _, _, rfl, ?_, ⟨_, rfl⟩, hW, hsame.mono (by decide) (by decide)⟩
    · show Sp p e below T967 (mkF m 7 (lt28 x p1) [(.int 2), (.int v971)]) _
      refine XS.icmpNo X967.here hx rfl (hb hby d12_7) rfl (tlt hc974).2.1 ?_
      show Sp p e below T967 (mkF m 10 (lt28 x p1) []) _
      refine XS.iconst X967.here hx rfl (hb hby d12_10) ?_
      show Sp p e below T967 (mkF m 11 (lt28 x p1) [(.int 0)]) _
      exact retN X967 hx (t := .boolean) Bd.returns (by simp) (hb hby d12_11) hr
    · show Q12 Z n0 ex x A K S0 nc _ _ _ T967.heap _
      rw [e967]
      exact ⟨rfl, N0, O0, B0⟩
  · rw [own_ltF hc974] at hf972
    obtain ⟨T975, X975, e975, st975⟩ := getF X967 hx hZ hown (host := "") (Or.inl (hw _ (tk 25 rfl))) Via.refl e967 (B0.fld 2 rfl) (g := (mkF m 13 (lt28 x p1) [(.ref x)])) rfl rfl (hb hby d12_13)
    obtain ⟨g976, hf977⟩ := own_gd hf972
    clear hf972
    obtain ⟨v979, d_v979, hf980⟩ := own_nai hf977
    clear hf977
    obtain ⟨cl978, Ar978, hin978, hat978⟩ := B0.get 0 (Or.inl (by decide)) g976 d_v979
    have At978 : Arr Z h0 (A 0) cl978 .int := Ar978
    have pre981 : Cm p e below E0 (T975.setTop (mkF m 19 (lt28 x p1) [(.int 2), (.int v979)])) := fun t kt => by
      refine pre973 t ?_
      show Sp p e below T967 (mkF m 7 (lt28 x p1) [(.int 2), (.int v971)]) _
      refine XS.icmpYes X967.here hx rfl (pc0 := 7) (pc' := 12) rfl (hb hby d12_7) rfl (flt hc974).2.1 (by decide) (by decide) ?_
      show Sp p e below T967 (mkF m 12 (lt28 x p1) []) _
      refine XS.aloadN X967.here hx rfl (hb hby d12_12) rfl rfl ?_
      show Sp p e below T967 (mkF m 13 (lt28 x p1) [(.ref x)]) _
      refine st975 _ ?_
      show Sp p e below T975 (mkF m 16 (lt28 x p1) [(.ref (A 0))]) _
      refine XS.iloadN X975.here hx rfl (hb hby d12_16) rfl ?_
      show Sp p e below T975 (mkF m 17 (lt28 x p1) [(.int p1), (.ref (A 0))]) _
      refine X975.iaload hx (j := p1) (v := (.int v979)) (by rw [e975]; exact Ar978.1) (State.isArrayOf_alike hZ.alike At978.2.1) At978.2.2 hin978 hat978 (g := (mkF m 17 (lt28 x p1) [(.int p1), (.ref (A 0))])) rfl rfl (hb hby d12_17) _ ?_
      show Sp p e below T975 (mkF m 18 (lt28 x p1) [(.int v979)]) _
      refine XS.iconst X975.here hx rfl (hb hby d12_18) ?_
      show Sp p e below T975 (mkF m 19 (lt28 x p1) [(.int 2), (.int v979)]) _
      exact kt
    by_cases hc982 : v979 = (2 : Int32)
    · rw [own_eqT hc982] at hf980
      obtain ⟨T983, X983, e983, st983⟩ := getF X975 hx hZ hown (host := "") (Or.inl (hw _ (tk 27 rfl))) Via.refl e975 (B0.fld 3 rfl) (g := (mkF m 30 (lt29 x p1 1) [(.ref x), (.int 1)])) rfl rfl (hb hby d12_30)
      obtain ⟨v985, d_v985, hf986⟩ := own_nai hf980
      clear hf980
      obtain ⟨cl984, Ar984, hin984, hat984⟩ := B0.get 1 (Or.inl (by decide)) g968 d_v985
      have At984 : Arr Z h0 (A 1) cl984 .int := Ar984
      have pre987 : Cm p e below E0 (T983.setTop (mkF m 36 (lt29 x p1 1) [(.int 2), (.int v985), (.int 1)])) := fun t kt => by
        refine pre981 t ?_
        show Sp p e below T975 (mkF m 19 (lt28 x p1) [(.int 2), (.int v979)]) _
        refine XS.icmpNo X975.here hx rfl (hb hby d12_19) rfl (teq hc982).2 ?_
        show Sp p e below T975 (mkF m 22 (lt28 x p1) []) _
        refine XS.iconst X975.here hx rfl (hb hby d12_22) ?_
        show Sp p e below T975 (mkF m 23 (lt28 x p1) [(.int 1)]) _
        refine XS.goto X975.here hx rfl (pc0 := 23) (pc' := 27) rfl (hb hby d12_23) (by decide) (by decide) ?_
        show Sp p e below T975 (mkF m 27 (lt28 x p1) [(.int 1)]) _
        refine XS.istoreN X975.here hx rfl (hb hby d12_27) rfl (l' := (lt29 x p1 1)) rfl ?_
        refine XS.iloadN X975.here hx rfl (hb hby d12_28) rfl ?_
        show Sp p e below T975 (mkF m 29 (lt29 x p1 1) [(.int 1)]) _
        refine XS.aloadN X975.here hx rfl (hb hby d12_29) rfl rfl ?_
        show Sp p e below T975 (mkF m 30 (lt29 x p1 1) [(.ref x), (.int 1)]) _
        refine st983 _ ?_
        show Sp p e below T983 (mkF m 33 (lt29 x p1 1) [(.ref (A 1)), (.int 1)]) _
        refine XS.iloadN X983.here hx rfl (hb hby d12_33) rfl ?_
        show Sp p e below T983 (mkF m 34 (lt29 x p1 1) [(.int p1), (.ref (A 1)), (.int 1)]) _
        refine X983.iaload hx (j := p1) (v := (.int v985)) (by rw [e983]; exact Ar984.1) (State.isArrayOf_alike hZ.alike At984.2.1) At984.2.2 hin984 hat984 (g := (mkF m 34 (lt29 x p1 1) [(.int p1), (.ref (A 1)), (.int 1)])) rfl rfl (hb hby d12_34) _ ?_
        show Sp p e below T983 (mkF m 35 (lt29 x p1 1) [(.int v985), (.int 1)]) _
        refine XS.iconst X983.here hx rfl (hb hby d12_35) ?_
        show Sp p e below T983 (mkF m 36 (lt29 x p1 1) [(.int 2), (.int v985), (.int 1)]) _
        exact kt
      by_cases hc988 : v985 = (2 : Int32)
      · rw [own_eqT hc988] at hf986
        obtain ⟨rfl, rfl⟩ := own_ret hf986
        obtain ⟨fs, hr, hrun, hended, hW, hsame⟩ := X983.leave (v := some (.int 1)) (fun h => by rw [Bd.returns] at h; cases h) (BodyLoose.notSynchronized Bd)
        refine hno ⟨_, _, pre987 _ ?_, hrun, hended, _, _, rfl, ?_, ⟨_, rfl⟩, hW, hsame.mono (by decide) (by decide)⟩
        · show Sp p e below T983 (mkF m 36 (lt29 x p1 1) [(.int 2), (.int v985), (.int 1)]) _
          refine XS.icmpNo X983.here hx rfl (hb hby d12_36) rfl (teq hc988).2 ?_
          show Sp p e below T983 (mkF m 39 (lt29 x p1 1) [(.int 1)]) _
          refine XS.iconst X983.here hx rfl (hb hby d12_39) ?_
          show Sp p e below T983 (mkF m 40 (lt29 x p1 1) [(.int 1), (.int 1)]) _
          refine XS.goto X983.here hx rfl (pc0 := 40) (pc' := 44) rfl (hb hby d12_40) (by decide) (by decide) ?_
          show Sp p e below T983 (mkF m 44 (lt29 x p1 1) [(.int 1), (.int 1)]) _
          refine XS.icmpNo X983.here hx rfl (hb hby d12_44) rfl (teq (by decide : ((1 : Int32) = (1 : Int32)))).2 ?_
          show Sp p e below T983 (mkF m 47 (lt29 x p1 1) []) _
          refine XS.iconst X983.here hx rfl (hb hby d12_47) ?_
          show Sp p e below T983 (mkF m 48 (lt29 x p1 1) [(.int 1)]) _
          exact retN X983 hx (t := .boolean) Bd.returns (by simp) (hb hby d12_48) hr
        · show Q12 Z n0 ex x A K S0 nc _ _ _ T983.heap _
          rw [e983]
          exact ⟨rfl, N0, O0, B0⟩
      · rw [own_eqF hc988] at hf986
        have pre989 : Cm p e below E0 (T983.setTop (mkF m 51 (lt30 x p1 1 0) [])) := fun t kt => by
          refine pre987 t ?_
          show Sp p e below T983 (mkF m 36 (lt29 x p1 1) [(.int 2), (.int v985), (.int 1)]) _
          refine XS.icmpYes X983.here hx rfl (pc0 := 36) (pc' := 43) rfl (hb hby d12_36) rfl (feq hc988).2 (by decide) (by decide) ?_
          show Sp p e below T983 (mkF m 43 (lt29 x p1 1) [(.int 1)]) _
          refine XS.iconst X983.here hx rfl (hb hby d12_43) ?_
          show Sp p e below T983 (mkF m 44 (lt29 x p1 1) [(.int 0), (.int 1)]) _
          refine XS.icmpYes X983.here hx rfl (pc0 := 44) (pc' := 49) rfl (hb hby d12_44) rfl (feq (by decide : ¬ ((1 : Int32) = (0 : Int32)))).2 (by decide) (by decide) ?_
          show Sp p e below T983 (mkF m 49 (lt29 x p1 1) []) _
          refine XS.iconst X983.here hx rfl (hb hby d12_49) ?_
          refine XS.istoreN X983.here hx rfl (hb hby d12_50) rfl (l' := (lt30 x p1 1 0)) rfl ?_
          show Sp p e below T983 (mkF m 51 (lt30 x p1 1 0) []) _
          exact kt
        exact (lp 200) M p1 (1 : Int32) (0 : Int32) (.unset) (Or.inl rfl) T983 _ _ X983 e983 O0 N0 B0 hf986 pre989
    · rw [own_eqF hc982] at hf980
      obtain ⟨T990, X990, e990, st990⟩ := getF X975 hx hZ hown (host := "") (Or.inl (hw _ (tk 27 rfl))) Via.refl e975 (B0.fld 3 rfl) (g := (mkF m 30 (lt29 x p1 0) [(.ref x), (.int 0)])) rfl rfl (hb hby d12_30)
      obtain ⟨v992, d_v992, hf993⟩ := own_nai hf980
      clear hf980
      obtain ⟨cl991, Ar991, hin991, hat991⟩ := B0.get 1 (Or.inl (by decide)) g968 d_v992
      have At991 : Arr Z h0 (A 1) cl991 .int := Ar991
      have pre994 : Cm p e below E0 (T990.setTop (mkF m 36 (lt29 x p1 0) [(.int 2), (.int v992), (.int 0)])) := fun t kt => by
        refine pre981 t ?_
        show Sp p e below T975 (mkF m 19 (lt28 x p1) [(.int 2), (.int v979)]) _
        refine XS.icmpYes X975.here hx rfl (pc0 := 19) (pc' := 26) rfl (hb hby d12_19) rfl (feq hc982).2 (by decide) (by decide) ?_
        show Sp p e below T975 (mkF m 26 (lt28 x p1) []) _
        refine XS.iconst X975.here hx rfl (hb hby d12_26) ?_
        refine XS.istoreN X975.here hx rfl (hb hby d12_27) rfl (l' := (lt29 x p1 0)) rfl ?_
        show Sp p e below T975 (mkF m 28 (lt29 x p1 0) []) _
        refine XS.iloadN X975.here hx rfl (hb hby d12_28) rfl ?_
        refine XS.aloadN X975.here hx rfl (hb hby d12_29) rfl rfl ?_
        show Sp p e below T975 (mkF m 30 (lt29 x p1 0) [(.ref x), (.int 0)]) _
        refine st990 _ ?_
        show Sp p e below T990 (mkF m 33 (lt29 x p1 0) [(.ref (A 1)), (.int 0)]) _
        refine XS.iloadN X990.here hx rfl (hb hby d12_33) rfl ?_
        show Sp p e below T990 (mkF m 34 (lt29 x p1 0) [(.int p1), (.ref (A 1)), (.int 0)]) _
        refine X990.iaload hx (j := p1) (v := (.int v992)) (by rw [e990]; exact Ar991.1) (State.isArrayOf_alike hZ.alike At991.2.1) At991.2.2 hin991 hat991 (g := (mkF m 34 (lt29 x p1 0) [(.int p1), (.ref (A 1)), (.int 0)])) rfl rfl (hb hby d12_34) _ ?_
        show Sp p e below T990 (mkF m 35 (lt29 x p1 0) [(.int v992), (.int 0)]) _
        refine XS.iconst X990.here hx rfl (hb hby d12_35) ?_
        show Sp p e below T990 (mkF m 36 (lt29 x p1 0) [(.int 2), (.int v992), (.int 0)]) _
        exact kt
      by_cases hc995 : v992 = (2 : Int32)
      · rw [own_eqT hc995] at hf993
        have pre996 : Cm p e below E0 (T990.setTop (mkF m 51 (lt30 x p1 0 0) [])) := fun t kt => by
          refine pre994 t ?_
          show Sp p e below T990 (mkF m 36 (lt29 x p1 0) [(.int 2), (.int v992), (.int 0)]) _
          refine XS.icmpNo X990.here hx rfl (hb hby d12_36) rfl (teq hc995).2 ?_
          show Sp p e below T990 (mkF m 39 (lt29 x p1 0) [(.int 0)]) _
          refine XS.iconst X990.here hx rfl (hb hby d12_39) ?_
          show Sp p e below T990 (mkF m 40 (lt29 x p1 0) [(.int 1), (.int 0)]) _
          refine XS.goto X990.here hx rfl (pc0 := 40) (pc' := 44) rfl (hb hby d12_40) (by decide) (by decide) ?_
          show Sp p e below T990 (mkF m 44 (lt29 x p1 0) [(.int 1), (.int 0)]) _
          refine XS.icmpYes X990.here hx rfl (pc0 := 44) (pc' := 49) rfl (hb hby d12_44) rfl (feq (by decide : ¬ ((0 : Int32) = (1 : Int32)))).2 (by decide) (by decide) ?_
          show Sp p e below T990 (mkF m 49 (lt29 x p1 0) []) _
          refine XS.iconst X990.here hx rfl (hb hby d12_49) ?_
          refine XS.istoreN X990.here hx rfl (hb hby d12_50) rfl (l' := (lt30 x p1 0 0)) rfl ?_
          show Sp p e below T990 (mkF m 51 (lt30 x p1 0 0) []) _
          exact kt
        exact (lp 200) M p1 (0 : Int32) (0 : Int32) (.unset) (Or.inl rfl) T990 _ _ X990 e990 O0 N0 B0 hf993 pre996
      · rw [own_eqF hc995] at hf993
        obtain ⟨rfl, rfl⟩ := own_ret hf993
        obtain ⟨fs, hr, hrun, hended, hW, hsame⟩ := X990.leave (v := some (.int 1)) (fun h => by rw [Bd.returns] at h; cases h) (BodyLoose.notSynchronized Bd)
        refine hno ⟨_, _, pre994 _ ?_, hrun, hended, _, _, rfl, ?_, ⟨_, rfl⟩, hW, hsame.mono (by decide) (by decide)⟩
        · show Sp p e below T990 (mkF m 36 (lt29 x p1 0) [(.int 2), (.int v992), (.int 0)]) _
          refine XS.icmpYes X990.here hx rfl (pc0 := 36) (pc' := 43) rfl (hb hby d12_36) rfl (feq hc995).2 (by decide) (by decide) ?_
          show Sp p e below T990 (mkF m 43 (lt29 x p1 0) [(.int 0)]) _
          refine XS.iconst X990.here hx rfl (hb hby d12_43) ?_
          show Sp p e below T990 (mkF m 44 (lt29 x p1 0) [(.int 0), (.int 0)]) _
          refine XS.icmpNo X990.here hx rfl (hb hby d12_44) rfl (teq (by decide : ((0 : Int32) = (0 : Int32)))).2 ?_
          show Sp p e below T990 (mkF m 47 (lt29 x p1 0) []) _
          refine XS.iconst X990.here hx rfl (hb hby d12_47) ?_
          show Sp p e below T990 (mkF m 48 (lt29 x p1 0) [(.int 1)]) _
          exact retN X990 hx (t := .boolean) Bd.returns (by simp) (hb hby d12_48) hr
        · show Q12 Z n0 ex x A K S0 nc _ _ _ T990.heap _
          rw [e990]
          exact ⟨rfl, N0, O0, B0⟩
theorem pn_21 : plainName "com/example/onetree/onetree/EdgeStates" = true := by first | (simp [plainName, overriddenIn]; done) | decide +kernel
def lp21 (nc : Nat) : Nat → MM → Option (Int32 × MM)
  | 0, _ => none
  | k + 1, M => nai (ld M 12 0) fun v1172 => cnd (ltB (0 : Int32) v1172) (nai (ld M 11 0) fun v1179 => gd (inr v1179 (lnR nc 4)) (nai (ld M 4 (ix v1179)) fun v1185 => gd (inr v1185 (lnR nc 5)) (nam (sto M 5 (ix v1185) (0 : Int32)) fun M1190 => nai (ld M1190 11 0) fun v1192 => nam (sto M1190 11 0 ((v1192 + (1 : Int32)) % (Int32.ofNat nc))) fun M1196 => nai (ld M1196 12 0) fun v1198 => nam (sto M1196 12 0 (v1198 - (1 : Int32))) fun M1201 => lp21 nc k M1201))) (some (0, M))
def f21 (nc : Nat) (M : MM) : Option (Int32 × MM) := lp21 nc 200 M
theorem ef_21 (m : MethodId) (x : Addr) (A : Nat → Addr) : entryFrame m #[(.ref x)] 1 = mkF m 0 #[.val (.ref x)] [] := by first | (simp [entryFrame, mkF, argsToLocals, Value.category]; done) | rfl
def Q21 (Z : State) (n0 : Nat) (ex : Bool) (x : Addr) (A : Nat → Addr) (K : Nat → ClassId) (S0 : Addr) (nc : Nat) (rv : Int32) (M' : MM) (v : Option Value) (h : Heap) (L : List Loc) : Prop := v = none ∧ Fr n0 L ∧ Old Z n0 h ∧ EB Z n0 ex h x A K S0 nc M'
set_option maxRecDepth 65536 in
set_option maxHeartbeats 40000000 in
theorem rm21 (l : Launch) (Z : State) (a0 : Array Value) (hw : ∀ d ∈ tables_1, d.before a0 Z = true) (ws : List Jvm.Cond) (hSl : SlotsOK Z) (ex : Bool) (x : Addr) (A : Nat → Addr) (K : Nat → ClassId) (S0 : Addr) (nc : Nat) (M : MM) (rv : Int32) (M' : MM) (h0 : Heap) (n0 : Nat) (O0 : Old Z n0 h0) (B0 : EB Z n0 ex h0 x A K S0 nc M) (hf : f21 nc M = some (rv, M')) :
    MetFree l Y48 (head1 (Jvm.Cond.code Y48 prog_7_method_23_code 1 none :: ws) ({ frames := 0, cells := 0, slots := 0, locals := 0 } : Room)) (fun a U => a = #[(.ref x)] ∧ Z.Warmed39 U.vm ∧ U.heap = h0) (fun _ _ _ _ _ => True) (fun _ U o U' => ∃ v L, o = .returned v ∧ Q21 Z n0 ex x A K S0 nc rv M' v U'.heap L ∧ FrameEnd U o U' L ({ frames := 0, cells := 0, slots := 0, locals := 0 } : Room).cells ({ frames := 0, cells := 0, slots := 0, locals := 0 } : Room).slots) := by
  refine MetFree.of_bodySF (plainFor_of_name pn_21) hisR ?_
  intro p e s m args below meth c s₁ Bd hml0 hP hK
  obtain ⟨rfl, hZ, hh⟩ := hP
  have hx := Bd.exec
  have hby := Bd.bytes
  have hml : c.maxLocals = 1 := hml0
  have hown : s.vm.findClass "com/example/onetree/onetree/EdgeStates" = some m.cls := findClass_of_methodNamed Bd.named
  have X0 : Stand p l e ({ frames := 0, cells := 0, slots := 0, locals := 0 } : Room) s m #[(.ref x)] below meth c s₁ [] 0 0 := Stand.of_body Bd
  have e0 : s₁.heap = h0 := by rw [← hh, Bd.state]; rfl
  have N0 := Fr.nil n0
  have pre0 : ∀ t, Steps p.tables e below (s₁.setTop (mkF m 0 #[.val (.ref x)] [])) t → Steps p.tables e below (s₁.setTop (entryFrame m #[(.ref x)] 1)) t := fun t k => castTop (ef_21 m x A) k
  generalize hE0 : s₁.setTop (entryFrame m #[(.ref x)] 1) = E0 at pre0 ⊢
  apply Classical.byContradiction
  intro hno
  unfold f21 at hf
  have lp : ∀ k : Nat, (∀ (M : MM) (T0 : State) (L1 : List Loc) (h1 : Heap), Stand p l e ({ frames := 0, cells := 0, slots := 0, locals := 0 } : Room) s m #[(.ref x)] below meth c T0 L1 0 0 → T0.heap = h1 → Old Z n0 h1 → Fr n0 L1 → EB Z n0 ex h1 x A K S0 nc M → lp21 nc k M = some (rv, M') → Cm p e below E0 (T0.setTop (mkF m 0 (lt38 x) [])) → False) := by
    intro k
    induction k with
    | zero => exact fun M  T0 L1 h1 X1 e1 O1 N1 B1 hf pre1 => (by rw [lp21] at hf; cases hf)
    | succ k ih =>
      refine fun M  T0 L1 h1 X1 e1 O1 N1 B1 hf pre1 => ?_
      · rw [lp21] at hf
        obtain ⟨v1172, d_v1172, hf1173⟩ := own_nai hf
        clear hf
        obtain ⟨T1174, X1174, e1174, st1174⟩ := getF X1 hx hZ hown (host := "") (Or.inl (hw _ (tk 76 rfl))) Via.refl e1 (own_rwF d_v1172 (B1.sca 3 rfl)) (g := (mkF m 1 (lt38 x) [(.ref x)])) rfl rfl (hb hby d21_1)
        have pre1175 : Cm p e below E0 (T1174.setTop (mkF m 4 (lt38 x) [(.int v1172)])) := fun t kt => by
          refine pre1 t ?_
          show Sp p e below T0 (mkF m 0 (lt38 x) []) _
          refine XS.aloadN X1.here hx rfl (hb hby d21_0) rfl rfl ?_
          show Sp p e below T0 (mkF m 1 (lt38 x) [(.ref x)]) _
          refine st1174 _ ?_
          show Sp p e below T1174 (mkF m 4 (lt38 x) [(.int v1172)]) _
          exact kt
        by_cases hc1176 : (0 : Int32) < v1172
        · rw [own_ltT hc1176] at hf1173
          obtain ⟨T1177, X1177, e1177, st1177⟩ := getF X1174 hx hZ hown (host := "") (Or.inl (hw _ (tk 47 rfl))) Via.refl e1174 (B1.fld 7 rfl) (g := (mkF m 8 (lt38 x) [(.ref x)])) rfl rfl (hb hby d21_8)
          obtain ⟨T1178, X1178, e1178, st1178⟩ := getF X1177 hx hZ hown (host := "") (Or.inl (hw _ (tk 44 rfl))) Via.refl e1177 (B1.fld 6 rfl) (g := (mkF m 12 (lt38 x) [(.ref x), (.ref (A 5))])) rfl rfl (hb hby d21_12)
          obtain ⟨v1179, d_v1179, hf1180⟩ := own_nai hf1173
          clear hf1173
          obtain ⟨T1181, X1181, e1181, st1181⟩ := getF X1178 hx hZ hown (host := "") (Or.inl (hw _ (tk 74 rfl))) Via.refl e1178 (own_rwF d_v1179 (B1.sca 2 rfl)) (g := (mkF m 16 (lt38 x) [(.ref x), (.ref (A 4)), (.ref (A 5))])) rfl rfl (hb hby d21_16)
          obtain ⟨g1182, hf1183⟩ := own_gd hf1180
          clear hf1180
          obtain ⟨v1185, d_v1185, hf1186⟩ := own_nai hf1183
          clear hf1183
          obtain ⟨cl1184, Ar1184, hin1184, hat1184⟩ := B1.get 4 (Or.inl (by decide)) g1182 d_v1185
          have At1184 : Arr Z h1 (A 4) cl1184 .int := Ar1184
          obtain ⟨g1187, hf1188⟩ := own_gd hf1186
          clear hf1186
          obtain ⟨cl1189, Ar1189, hin1189⟩ := B1.at 5 (Or.inl (by decide)) g1187
          have At1189 : Arr Z h1 (A 5) cl1189 .boolean := Ar1189
          obtain ⟨T1190, h1190, X1190, e1190, W1190, st1190⟩ := stZ X1181 hx hZ e1181 At1189 (j := v1185) hin1189 (g := (mkF m 21 (lt38 x) [(.int 0), (.int v1185), (.ref (A 5))])) rfl rfl (hb hby d21_21)
          obtain ⟨M1190, d_M1190, hf1191⟩ := own_nam hf1188
          clear hf1188
          have B1190 := B1.wr (v := (0 : Int32)) 5 (Or.inl (by decide)) g1187 W1190 (by decide)
          rw [← d_M1190] at B1190
          have O1190 := O1.wr W1190 (B1.old 5 (Or.inl (by decide)))
          have N1190 := Fr.snoc X1190 N1 (B1.old 5 (Or.inl (by decide)))
          obtain ⟨v1192, d_v1192, hf1193⟩ := own_nai hf1191
          clear hf1191
          obtain ⟨T1194, X1194, e1194, st1194⟩ := getF X1190 hx hZ hown (host := "") (Or.inl (hw _ (tk 74 rfl))) Via.refl e1190 (own_rwF d_v1192 (B1190.sca 2 rfl)) (g := (mkF m 24 (lt38 x) [(.ref x), (.ref x)])) rfl rfl (hb hby d21_24)
          obtain ⟨T1195, X1195, e1195, st1195⟩ := getF X1194 hx hZ hown (host := "") (Or.inl (hw _ (tk 13 rfl))) Via.refl e1194 (B1190.fld 0 rfl) (g := (mkF m 30 (lt38 x) [(.ref x), (.int (v1192 + 1)), (.ref x)])) rfl rfl (hb hby d21_30)
          obtain ⟨T1196, h1196, X1196, e1196, W1196, st1196⟩ := putF X1195 hx hZ hown (host := "") (Or.inl (hw _ (tk 74 rfl))) Via.refl e1195 (B1190.sca 2 rfl) B1190.exa (Or.inl (hw _ (tk 75 rfl))) (hw _ (tk 2 rfl)) (ty := .int) (by decide) rfl rfl (g := (mkF m 34 (lt38 x) [(.int ((v1192 + 1) % (Int32.ofNat nc))), (.ref x)])) rfl rfl (hb hby d21_34)
          obtain ⟨M1196, d_M1196, hf1197⟩ := own_nam hf1193
          clear hf1193
          have B1196 := B1190.put hSl 2 rfl W1196
          rw [← d_M1196] at B1196
          have O1196 := O1190.wr W1196 B1190.oldx
          have N1196 := Fr.snoc X1196 N1190 B1190.oldx
          obtain ⟨v1198, d_v1198, hf1199⟩ := own_nai hf1197
          clear hf1197
          obtain ⟨T1200, X1200, e1200, st1200⟩ := getF X1196 hx hZ hown (host := "") (Or.inl (hw _ (tk 76 rfl))) Via.refl e1196 (own_rwF d_v1198 (B1196.sca 3 rfl)) (g := (mkF m 39 (lt38 x) [(.ref x), (.ref x)])) rfl rfl (hb hby d21_39)
          obtain ⟨T1201, h1201, X1201, e1201, W1201, st1201⟩ := putF X1200 hx hZ hown (host := "") (Or.inl (hw _ (tk 76 rfl))) Via.refl e1200 (B1196.sca 3 rfl) B1196.exa (Or.inl (hw _ (tk 77 rfl))) (hw _ (tk 2 rfl)) (ty := .int) (by decide) rfl rfl (g := (mkF m 44 (lt38 x) [(.int (v1198 - 1)), (.ref x)])) rfl rfl (hb hby d21_44)
          obtain ⟨M1201, d_M1201, hf1202⟩ := own_nam hf1199
          clear hf1199
          have B1201 := B1196.put hSl 3 rfl W1201
          rw [← d_M1201] at B1201
          have O1201 := O1196.wr W1201 B1196.oldx
          have N1201 := Fr.snoc X1201 N1196 B1196.oldx
          have pre1203 : Cm p e below E0 (T1201.setTop (mkF m 0 (lt38 x) [])) := fun t kt => by
            refine pre1175 t ?_
            show Sp p e below T1174 (mkF m 4 (lt38 x) [(.int v1172)]) _
            refine XS.ifNo X1174.here hx rfl (hb hby d21_4) rfl ((if0 _ _).trans (tlt hc1176).2.2.2) ?_
            show Sp p e below T1174 (mkF m 7 (lt38 x) []) _
            refine XS.aloadN X1174.here hx rfl (hb hby d21_7) rfl rfl ?_
            show Sp p e below T1174 (mkF m 8 (lt38 x) [(.ref x)]) _
            refine st1177 _ ?_
            show Sp p e below T1177 (mkF m 11 (lt38 x) [(.ref (A 5))]) _
            refine XS.aloadN X1177.here hx rfl (hb hby d21_11) rfl rfl ?_
            show Sp p e below T1177 (mkF m 12 (lt38 x) [(.ref x), (.ref (A 5))]) _
            refine st1178 _ ?_
            show Sp p e below T1178 (mkF m 15 (lt38 x) [(.ref (A 4)), (.ref (A 5))]) _
            refine XS.aloadN X1178.here hx rfl (hb hby d21_15) rfl rfl ?_
            show Sp p e below T1178 (mkF m 16 (lt38 x) [(.ref x), (.ref (A 4)), (.ref (A 5))]) _
            refine st1181 _ ?_
            show Sp p e below T1181 (mkF m 19 (lt38 x) [(.int v1179), (.ref (A 4)), (.ref (A 5))]) _
            refine X1181.iaload hx (j := v1179) (v := (.int v1185)) (by rw [e1181]; exact Ar1184.1) (State.isArrayOf_alike hZ.alike At1184.2.1) At1184.2.2 hin1184 hat1184 (g := (mkF m 19 (lt38 x) [(.int v1179), (.ref (A 4)), (.ref (A 5))])) rfl rfl (hb hby d21_19) _ ?_
            show Sp p e below T1181 (mkF m 20 (lt38 x) [(.int v1185), (.ref (A 5))]) _
            refine XS.iconst X1181.here hx rfl (hb hby d21_20) ?_
            show Sp p e below T1181 (mkF m 21 (lt38 x) [(.int 0), (.int v1185), (.ref (A 5))]) _
            refine st1190 _ ?_
            show Sp p e below T1190 (mkF m 22 (lt38 x) []) _
            refine XS.aloadN X1190.here hx rfl (hb hby d21_22) rfl rfl ?_
            refine XS.aloadN X1190.here hx rfl (hb hby d21_23) rfl rfl ?_
            show Sp p e below T1190 (mkF m 24 (lt38 x) [(.ref x), (.ref x)]) _
            refine st1194 _ ?_
            show Sp p e below T1194 (mkF m 27 (lt38 x) [(.int v1192), (.ref x)]) _
            refine XS.iconst X1194.here hx rfl (hb hby d21_27) ?_
            refine XS.iadd X1194.here hx rfl (hb hby d21_28) rfl ?_
            show Sp p e below T1194 (mkF m 29 (lt38 x) [(.int (v1192 + 1)), (.ref x)]) _
            refine XS.aloadN X1194.here hx rfl (hb hby d21_29) rfl rfl ?_
            show Sp p e below T1194 (mkF m 30 (lt38 x) [(.ref x), (.int (v1192 + 1)), (.ref x)]) _
            refine st1195 _ ?_
            show Sp p e below T1195 (mkF m 33 (lt38 x) [(.int (Int32.ofNat nc)), (.int (v1192 + 1)), (.ref x)]) _
            refine iremM X1195 hx rfl (hb hby d21_33) rfl B1190.ncz ?_
            show Sp p e below T1195 (mkF m 34 (lt38 x) [(.int ((v1192 + 1) % (Int32.ofNat nc))), (.ref x)]) _
            refine st1196 _ ?_
            show Sp p e below T1196 (mkF m 37 (lt38 x) []) _
            refine XS.aloadN X1196.here hx rfl (hb hby d21_37) rfl rfl ?_
            refine XS.dup X1196.here hx rfl (hb hby d21_38) rfl rfl ?_
            show Sp p e below T1196 (mkF m 39 (lt38 x) [(.ref x), (.ref x)]) _
            refine st1200 _ ?_
            show Sp p e below T1200 (mkF m 42 (lt38 x) [(.int v1198), (.ref x)]) _
            refine XS.iconst X1200.here hx rfl (hb hby d21_42) ?_
            refine XS.isub X1200.here hx rfl (hb hby d21_43) rfl ?_
            show Sp p e below T1200 (mkF m 44 (lt38 x) [(.int (v1198 - 1)), (.ref x)]) _
            refine st1201 _ ?_
            show Sp p e below T1201 (mkF m 47 (lt38 x) []) _
            refine XS.goto X1201.here hx rfl (pc0 := 47) (pc' := 0) rfl (hb hby d21_47) (by decide) (by decide) ?_
            show Sp p e below T1201 (mkF m 0 (lt38 x) []) _
            exact kt
          exact ih M1201  T1201 _ _ X1201 e1201 O1201 N1201 B1201 hf1202 pre1203
        · rw [own_ltF hc1176] at hf1173
          obtain ⟨rfl, rfl⟩ := own_ret hf1173
          obtain ⟨fs, hr, hrun, hended, hW, hsame⟩ := X1174.leave (v := none) (fun _ => rfl) (BodyLoose.notSynchronized Bd)
          refine hno ⟨_, _, pre1175 _ ?_, hrun, hended, _, _, rfl, ?_, ⟨_, rfl⟩, hW, hsame.mono (by decide) (by decide)⟩
          · show Sp p e below T1174 (mkF m 4 (lt38 x) [(.int v1172)]) _
            refine XS.ifYes X1174.here hx rfl (pc0 := 4) (pc' := 50) rfl (hb hby d21_4) rfl ((if0 _ _).trans (flt hc1176).2.2.2) (by decide) (by decide) ?_
            show Sp p e below T1174 (mkF m 50 (lt38 x) []) _
            exact X1174.returnOut hx Bd.returns (hb hby d21_50) hr
          · show Q21 Z n0 ex x A K S0 nc _ _ _ T1174.heap _
            rw [e1174]
            exact ⟨rfl, N1, O1, B1⟩
  exact (lp 200) M  s₁ _ _ X0 e0 O0 N0 B0 hf pre0
theorem pn_11 : plainName "com/example/onetree/onetree/EdgeStates" = true := by first | (simp [plainName, overriddenIn]; done) | decide +kernel
def lp11 (nc : Nat) : Nat → MM → Option (Int32 × MM)
  | 0, _ => none
  | k + 1, M => nai (ld M 12 0) fun v938 => cnd (ltB (0 : Int32) v938) (nai (ld M 11 0) fun v944 => gd (inr v944 (lnR nc 4)) (nai (ld M 4 (ix v944)) fun v950 => nam (sto M 11 0 ((v944 + (1 : Int32)) % (Int32.ofNat nc))) fun M954 => nai (ld M954 12 0) fun v956 => nam (sto M954 12 0 (v956 - (1 : Int32))) fun M959 => gd (inr v950 (lnR nc 5)) (nam (sto M959 5 (ix v950) (0 : Int32)) fun M965 => bnd (f12 nc M965 v950) fun v1168 M1168 => cnd (eqB v1168 (0 : Int32)) (bnd (f21 nc M1168) fun v1204 M1204 => some ((0 : Int32), M1204)) (lp11 nc k M1168)))) (some ((1 : Int32), M))
def f11 (nc : Nat) (M : MM) : Option (Int32 × MM) := lp11 nc 200 M
theorem ef_11 (m : MethodId) (x : Addr) (A : Nat → Addr) : entryFrame m #[(.ref x)] 2 = mkF m 0 #[.val (.ref x), .unset] [] := by first | (simp [entryFrame, mkF, argsToLocals, Value.category]; done) | rfl
def Q11 (Z : State) (n0 : Nat) (ex : Bool) (x : Addr) (A : Nat → Addr) (K : Nat → ClassId) (S0 : Addr) (nc : Nat) (rv : Int32) (M' : MM) (v : Option Value) (h : Heap) (L : List Loc) : Prop := v = some (.int rv) ∧ Fr n0 L ∧ Old Z n0 h ∧ EB Z n0 ex h x A K S0 nc M'
set_option maxRecDepth 65536 in
set_option maxHeartbeats 40000000 in
theorem rm11 (l : Launch) (Z : State) (a0 : Array Value) (hw : ∀ d ∈ tables_1, d.before a0 Z = true) (ws : List Jvm.Cond) (hSl : SlotsOK Z) (ex : Bool) (x : Addr) (A : Nat → Addr) (K : Nat → ClassId) (S0 : Addr) (nc : Nat) (M : MM) (rv : Int32) (M' : MM) (h0 : Heap) (n0 : Nat) (O0 : Old Z n0 h0) (B0 : EB Z n0 ex h0 x A K S0 nc M) (hf : f11 nc M = some (rv, M')) :
    MetFree l Y49 (head1 (Jvm.Cond.code Y49 prog_7_method_22_code 2 (some .boolean) :: ws) ({ frames := 4, cells := 0, slots := 0, locals := 64 } : Room)) (fun a U => a = #[(.ref x)] ∧ Z.Warmed39 U.vm ∧ U.heap = h0) (fun _ _ _ _ _ => True) (fun _ U o U' => ∃ v L, o = .returned v ∧ Q11 Z n0 ex x A K S0 nc rv M' v U'.heap L ∧ FrameEnd U o U' L ({ frames := 4, cells := 0, slots := 0, locals := 64 } : Room).cells ({ frames := 4, cells := 0, slots := 0, locals := 64 } : Room).slots) := by
  refine MetFree.of_bodySF (plainFor_of_name pn_11) hisR ?_
  intro p e s m args below meth c s₁ Bd hml0 hP hK
  obtain ⟨rfl, hZ, hh⟩ := hP
  have hx := Bd.exec
  have hby := Bd.bytes
  have hml : c.maxLocals = 2 := hml0
  have hown : s.vm.findClass "com/example/onetree/onetree/EdgeStates" = some m.cls := findClass_of_methodNamed Bd.named
  have X0 : Stand p l e ({ frames := 4, cells := 0, slots := 0, locals := 64 } : Room) s m #[(.ref x)] below meth c s₁ [] 0 0 := Stand.of_body Bd
  have e0 : s₁.heap = h0 := by rw [← hh, Bd.state]; rfl
  have N0 := Fr.nil n0
  have pre0 : ∀ t, Steps p.tables e below (s₁.setTop (mkF m 0 #[.val (.ref x), .unset] [])) t → Steps p.tables e below (s₁.setTop (entryFrame m #[(.ref x)] 2)) t := fun t k => castTop (ef_11 m x A) k
  generalize hE0 : s₁.setTop (entryFrame m #[(.ref x)] 2) = E0 at pre0 ⊢
  apply Classical.byContradiction
  intro hno
  unfold f11 at hf
  have lp : ∀ k : Nat, (∀ (M : MM) (s1 : Slot) (_ : s1 = .unset ∨ ∃ w, s1 = .val w ∧ w.category = 1) (T0 : State) (L1 : List Loc) (h1 : Heap), Stand p l e ({ frames := 4, cells := 0, slots := 0, locals := 64 } : Room) s m #[(.ref x)] below meth c T0 L1 0 0 → T0.heap = h1 → Old Z n0 h1 → Fr n0 L1 → EB Z n0 ex h1 x A K S0 nc M → lp11 nc k M = some (rv, M') → Cm p e below E0 (T0.setTop (mkF m 0 (lt27 x s1) [])) → False) := by
    intro k
    induction k with
    | zero => exact fun M s1 u1 T0 L1 h1 X1 e1 O1 N1 B1 hf pre1 => (by rw [lp11] at hf; cases hf)
    | succ k ih =>
      refine fun M s1 u1 T0 L1 h1 X1 e1 O1 N1 B1 hf pre1 => ?_
      · rw [lp11] at hf
        obtain ⟨v938, d_v938, hf939⟩ := own_nai hf
        clear hf
        obtain ⟨T940, X940, e940, st940⟩ := getF X1 hx hZ hown (host := "") (Or.inl (hw _ (tk 76 rfl))) Via.refl e1 (own_rwF d_v938 (B1.sca 3 rfl)) (g := (mkF m 1 (lt27 x s1) [(.ref x)])) rfl rfl (hb hby d11_1)
        have pre941 : Cm p e below E0 (T940.setTop (mkF m 4 (lt27 x s1) [(.int v938)])) := fun t kt => by
          refine pre1 t ?_
          show Sp p e below T0 (mkF m 0 (lt27 x s1) []) _
          refine XS.aloadN X1.here hx rfl (hb hby d11_0) rfl rfl ?_
          show Sp p e below T0 (mkF m 1 (lt27 x s1) [(.ref x)]) _
          refine st940 _ ?_
          show Sp p e below T940 (mkF m 4 (lt27 x s1) [(.int v938)]) _
          exact kt
        by_cases hc942 : (0 : Int32) < v938
        · rw [own_ltT hc942] at hf939
          obtain ⟨T943, X943, e943, st943⟩ := getF X940 hx hZ hown (host := "") (Or.inl (hw _ (tk 44 rfl))) Via.refl e940 (B1.fld 6 rfl) (g := (mkF m 8 (lt27 x s1) [(.ref x)])) rfl rfl (hb hby d11_8)
          obtain ⟨v944, d_v944, hf945⟩ := own_nai hf939
          clear hf939
          obtain ⟨T946, X946, e946, st946⟩ := getF X943 hx hZ hown (host := "") (Or.inl (hw _ (tk 74 rfl))) Via.refl e943 (own_rwF d_v944 (B1.sca 2 rfl)) (g := (mkF m 12 (lt27 x s1) [(.ref x), (.ref (A 4))])) rfl rfl (hb hby d11_12)
          obtain ⟨g947, hf948⟩ := own_gd hf945
          clear hf945
          obtain ⟨v950, d_v950, hf951⟩ := own_nai hf948
          clear hf948
          obtain ⟨cl949, Ar949, hin949, hat949⟩ := B1.get 4 (Or.inl (by decide)) g947 d_v950
          have At949 : Arr Z h1 (A 4) cl949 .int := Ar949
          obtain ⟨T952, X952, e952, st952⟩ := getF X946 hx hZ hown (host := "") (Or.inl (hw _ (tk 74 rfl))) Via.refl e946 (own_rwF d_v944 (B1.sca 2 rfl)) (g := (mkF m 19 (lt16 x v950) [(.ref x), (.ref x)])) rfl rfl (hb hby d11_19)
          obtain ⟨T953, X953, e953, st953⟩ := getF X952 hx hZ hown (host := "") (Or.inl (hw _ (tk 13 rfl))) Via.refl e952 (B1.fld 0 rfl) (g := (mkF m 25 (lt16 x v950) [(.ref x), (.int (v944 + 1)), (.ref x)])) rfl rfl (hb hby d11_25)
          obtain ⟨T954, h954, X954, e954, W954, st954⟩ := putF X953 hx hZ hown (host := "") (Or.inl (hw _ (tk 74 rfl))) Via.refl e953 (B1.sca 2 rfl) B1.exa (Or.inl (hw _ (tk 75 rfl))) (hw _ (tk 2 rfl)) (ty := .int) (by decide) rfl rfl (g := (mkF m 29 (lt16 x v950) [(.int ((v944 + 1) % (Int32.ofNat nc))), (.ref x)])) rfl rfl (hb hby d11_29)
          obtain ⟨M954, d_M954, hf955⟩ := own_nam hf951
          clear hf951
          have B954 := B1.put hSl 2 rfl W954
          rw [← d_M954] at B954
          have O954 := O1.wr W954 B1.oldx
          have N954 := Fr.snoc X954 N1 B1.oldx
          obtain ⟨v956, d_v956, hf957⟩ := own_nai hf955
          clear hf955
          obtain ⟨T958, X958, e958, st958⟩ := getF X954 hx hZ hown (host := "") (Or.inl (hw _ (tk 76 rfl))) Via.refl e954 (own_rwF d_v956 (B954.sca 3 rfl)) (g := (mkF m 34 (lt16 x v950) [(.ref x), (.ref x)])) rfl rfl (hb hby d11_34)
          obtain ⟨T959, h959, X959, e959, W959, st959⟩ := putF X958 hx hZ hown (host := "") (Or.inl (hw _ (tk 76 rfl))) Via.refl e958 (B954.sca 3 rfl) B954.exa (Or.inl (hw _ (tk 77 rfl))) (hw _ (tk 2 rfl)) (ty := .int) (by decide) rfl rfl (g := (mkF m 39 (lt16 x v950) [(.int (v956 - 1)), (.ref x)])) rfl rfl (hb hby d11_39)
          obtain ⟨M959, d_M959, hf960⟩ := own_nam hf957
          clear hf957
          have B959 := B954.put hSl 3 rfl W959
          rw [← d_M959] at B959
          have O959 := O954.wr W959 B954.oldx
          have N959 := Fr.snoc X959 N954 B954.oldx
          obtain ⟨T961, X961, e961, st961⟩ := getF X959 hx hZ hown (host := "") (Or.inl (hw _ (tk 47 rfl))) Via.refl e959 (B959.fld 7 rfl) (g := (mkF m 43 (lt16 x v950) [(.ref x)])) rfl rfl (hb hby d11_43)
          obtain ⟨g962, hf963⟩ := own_gd hf960
          clear hf960
          obtain ⟨cl964, Ar964, hin964⟩ := B959.at 5 (Or.inl (by decide)) g962
          have At964 : Arr Z h959 (A 5) cl964 .boolean := Ar964
          obtain ⟨T965, h965, X965, e965, W965, st965⟩ := stZ X961 hx hZ e961 At964 (j := v950) hin964 (g := (mkF m 48 (lt16 x v950) [(.int 0), (.int v950), (.ref (A 5))])) rfl rfl (hb hby d11_48)
          obtain ⟨M965, d_M965, hf966⟩ := own_nam hf963
          clear hf963
          have B965 := B959.wr (v := (0 : Int32)) 5 (Or.inl (by decide)) g962 W965 (by decide)
          rw [← d_M965] at B965
          have O965 := O959.wr W965 (B959.old 5 (Or.inl (by decide)))
          have N965 := Fr.snoc X965 N959 (B959.old 5 (Or.inl (by decide)))
          obtain ⟨v1168, M1168, hc1168, hf1169⟩ := own_bnd hf966
          clear hf966
          obtain ⟨cq1168, q1168, q1168'⟩ := B965.exa.cell
          obtain ⟨_, _, ⟨T1168, L1168, k1168, n1168⟩, -, X1168, ⟨Lc1168, hQ1168, l1168, y1168, z1168⟩, st1168⟩ := X965.privateBack hx (y := Y46) hown (mvT hZ (hw _ (tk 86 rfl))) (mvT hZ (hw _ (tk 87 rfl))) (own_selP rfl (mvT hZ (hw _ (tk 2 rfl))) (Cond.privateMethod_at (mvP hZ (hw _ (tk 88 rfl)) (args := #[]))) (mvT hZ (hw _ (tk 87 rfl))) (by decide)) (Cond.privateMethod_at (mvP hZ (hw _ (tk 88 rfl)) (args := #[]))) (mvT hZ (hw _ (tk 89 rfl))) (by decide) (backOf (W := 0) (rm12 l Z a0 hw [] hSl ex x A K S0 nc M965 v950 v1168 M1168 h965 n0 O965 B965 hc1168) hZ (hw _ (tk 89 rfl)) (hw _ (tk 3 rfl)) (by decide) (by decide)) (g := (mkF m 51 (lt16 x v950) [(.int v950), (.ref x)])) rfl (by rw [hml]; rfl) (Steps.refl _) (a := x) (by rw [e965]; exact q1168) q1168' (argsL := [(.int v950)]) (rest := []) (lenOf pd_7 rfl) rfl (by show 2 * 0 + _ ≤ _; exact Nat.le_of_eq rfl) (hb hby d11_51) (fun _ _ => ⟨rfl, e965, (by decide : 0 + 0 ≤ _), (by decide : 0 + 0 ≤ _)⟩)
          dsimp only [Pt.U, Pt.locs, Pt.cells, Pt.slots] at X1168 l1168 y1168 z1168 st1168 hQ1168
          rw [l1168, y1168, z1168] at X1168
          obtain ⟨rv1168, N1168q, O1168, B1168⟩ := hQ1168
          subst rv1168
          have N1168 := Fr.app N965 N1168q
          have pre1170 : Cm p e below E0 (T1168.setTop (mkF m 54 (lt16 x v950) [(.int v1168)])) := fun t kt => by
            refine pre941 t ?_
            show Sp p e below T940 (mkF m 4 (lt27 x s1) [(.int v938)]) _
            refine XS.ifNo X940.here hx rfl (hb hby d11_4) rfl ((if0 _ _).trans (tlt hc942).2.2.2) ?_
            show Sp p e below T940 (mkF m 7 (lt27 x s1) []) _
            refine XS.aloadN X940.here hx rfl (hb hby d11_7) rfl rfl ?_
            show Sp p e below T940 (mkF m 8 (lt27 x s1) [(.ref x)]) _
            refine st943 _ ?_
            show Sp p e below T943 (mkF m 11 (lt27 x s1) [(.ref (A 4))]) _
            refine XS.aloadN X943.here hx rfl (hb hby d11_11) rfl rfl ?_
            show Sp p e below T943 (mkF m 12 (lt27 x s1) [(.ref x), (.ref (A 4))]) _
            refine st946 _ ?_
            show Sp p e below T946 (mkF m 15 (lt27 x s1) [(.int v944), (.ref (A 4))]) _
            refine X946.iaload hx (j := v944) (v := (.int v950)) (by rw [e946]; exact Ar949.1) (State.isArrayOf_alike hZ.alike At949.2.1) At949.2.2 hin949 hat949 (g := (mkF m 15 (lt27 x s1) [(.int v944), (.ref (A 4))])) rfl rfl (hb hby d11_15) _ ?_
            show Sp p e below T946 (mkF m 16 (lt27 x s1) [(.int v950)]) _
            refine XS.istoreNS X946.here hx rfl (hb hby d11_16) rfl rfl u1 ?_
            refine XS.aloadN X946.here hx rfl (hb hby d11_17) rfl rfl ?_
            show Sp p e below T946 (mkF m 18 (lt16 x v950) [(.ref x)]) _
            refine XS.aloadN X946.here hx rfl (hb hby d11_18) rfl rfl ?_
            show Sp p e below T946 (mkF m 19 (lt16 x v950) [(.ref x), (.ref x)]) _
            refine st952 _ ?_
            show Sp p e below T952 (mkF m 22 (lt16 x v950) [(.int v944), (.ref x)]) _
            refine XS.iconst X952.here hx rfl (hb hby d11_22) ?_
            refine XS.iadd X952.here hx rfl (hb hby d11_23) rfl ?_
            show Sp p e below T952 (mkF m 24 (lt16 x v950) [(.int (v944 + 1)), (.ref x)]) _
            refine XS.aloadN X952.here hx rfl (hb hby d11_24) rfl rfl ?_
            show Sp p e below T952 (mkF m 25 (lt16 x v950) [(.ref x), (.int (v944 + 1)), (.ref x)]) _
            refine st953 _ ?_
            show Sp p e below T953 (mkF m 28 (lt16 x v950) [(.int (Int32.ofNat nc)), (.int (v944 + 1)), (.ref x)]) _
            refine iremM X953 hx rfl (hb hby d11_28) rfl B1.ncz ?_
            show Sp p e below T953 (mkF m 29 (lt16 x v950) [(.int ((v944 + 1) % (Int32.ofNat nc))), (.ref x)]) _
            refine st954 _ ?_
            show Sp p e below T954 (mkF m 32 (lt16 x v950) []) _
            refine XS.aloadN X954.here hx rfl (hb hby d11_32) rfl rfl ?_
            refine XS.dup X954.here hx rfl (hb hby d11_33) rfl rfl ?_
            show Sp p e below T954 (mkF m 34 (lt16 x v950) [(.ref x), (.ref x)]) _
            refine st958 _ ?_
            show Sp p e below T958 (mkF m 37 (lt16 x v950) [(.int v956), (.ref x)]) _
            refine XS.iconst X958.here hx rfl (hb hby d11_37) ?_
            refine XS.isub X958.here hx rfl (hb hby d11_38) rfl ?_
            show Sp p e below T958 (mkF m 39 (lt16 x v950) [(.int (v956 - 1)), (.ref x)]) _
            refine st959 _ ?_
            show Sp p e below T959 (mkF m 42 (lt16 x v950) []) _
            refine XS.aloadN X959.here hx rfl (hb hby d11_42) rfl rfl ?_
            show Sp p e below T959 (mkF m 43 (lt16 x v950) [(.ref x)]) _
            refine st961 _ ?_
            show Sp p e below T961 (mkF m 46 (lt16 x v950) [(.ref (A 5))]) _
            refine XS.iloadN X961.here hx rfl (hb hby d11_46) rfl ?_
            refine XS.iconst X961.here hx rfl (hb hby d11_47) ?_
            show Sp p e below T961 (mkF m 48 (lt16 x v950) [(.int 0), (.int v950), (.ref (A 5))]) _
            refine st965 _ ?_
            show Sp p e below T965 (mkF m 49 (lt16 x v950) []) _
            refine XS.aloadN X965.here hx rfl (hb hby d11_49) rfl rfl ?_
            refine XS.iloadN X965.here hx rfl (hb hby d11_50) rfl ?_
            show Sp p e below T965 (mkF m 51 (lt16 x v950) [(.int v950), (.ref x)]) _
            refine st1168.trans ?_
            show Sp p e below T1168 (mkF m 54 (lt16 x v950) [(.int v1168)]) _
            exact kt
          by_cases hc1171 : v1168 = (0 : Int32)
          · rw [own_eqT hc1171] at hf1169
            obtain ⟨v1204, M1204, hc1204, hf1205⟩ := own_bnd hf1169
            clear hf1169
            obtain ⟨cq1204, q1204, q1204'⟩ := B1168.exa.cell
            obtain ⟨_, _, ⟨T1204, L1204, k1204, n1204⟩, -, X1204, ⟨Lc1204, hQ1204, l1204, y1204, z1204⟩, st1204⟩ := X1168.privateBack hx (y := Y48) hown (mvT hZ (hw _ (tk 129 rfl))) (mvT hZ (hw _ (tk 130 rfl))) (own_selP rfl (mvT hZ (hw _ (tk 2 rfl))) (Cond.privateMethod_at (mvP hZ (hw _ (tk 131 rfl)) (args := #[]))) (mvT hZ (hw _ (tk 130 rfl))) (by decide)) (Cond.privateMethod_at (mvP hZ (hw _ (tk 131 rfl)) (args := #[]))) (mvT hZ (hw _ (tk 132 rfl))) (by decide) (backOf (W := 0) (rm21 l Z a0 hw [] hSl ex x A K S0 nc M1168 v1204 M1204 T1168.heap n0 O1168 B1168 hc1204) hZ (hw _ (tk 132 rfl)) (hw _ (tk 3 rfl)) (by decide) (by decide)) (g := (mkF m 58 (lt16 x v950) [(.ref x)])) rfl (by rw [hml]; rfl) (Steps.refl _) (a := x) q1204 q1204' (argsL := []) (rest := []) (lenOf pd_8 rfl) rfl (by show 2 * 0 + _ ≤ _; exact Nat.le_of_eq rfl) (hb hby d11_58) (fun _ _ => ⟨rfl, rfl, (by decide : 0 + 0 ≤ _), (by decide : 0 + 0 ≤ _)⟩)
            dsimp only [Pt.U, Pt.locs, Pt.cells, Pt.slots] at X1204 l1204 y1204 z1204 st1204 hQ1204
            rw [l1204, y1204, z1204] at X1204
            obtain ⟨rv1204, N1204q, O1204, B1204⟩ := hQ1204
            subst rv1204
            have N1204 := Fr.app N1168 N1204q
            obtain ⟨rfl, rfl⟩ := own_ret hf1205
            obtain ⟨fs, hr, hrun, hended, hW, hsame⟩ := X1204.leave (v := some (.int 0)) (fun h => by rw [Bd.returns] at h; cases h) (BodyLoose.notSynchronized Bd)
            refine hno ⟨_, _, pre1170 _ ?_, hrun, hended, _, _, rfl, ?_, ⟨_, rfl⟩, hW, hsame.mono (by decide) (by decide)⟩
            · show Sp p e below T1168 (mkF m 54 (lt16 x v950) [(.int v1168)]) _
              refine XS.ifNo X1168.here hx rfl (hb hby d11_54) rfl ((if0 _ _).trans (teq hc1171).2) ?_
              show Sp p e below T1168 (mkF m 57 (lt16 x v950) []) _
              refine XS.aloadN X1168.here hx rfl (hb hby d11_57) rfl rfl ?_
              show Sp p e below T1168 (mkF m 58 (lt16 x v950) [(.ref x)]) _
              refine st1204.trans ?_
              show Sp p e below T1204 (mkF m 61 (lt16 x v950) []) _
              refine XS.iconst X1204.here hx rfl (hb hby d11_61) ?_
              show Sp p e below T1204 (mkF m 62 (lt16 x v950) [(.int 0)]) _
              exact retN X1204 hx (t := .boolean) Bd.returns (by simp) (hb hby d11_62) hr
            · show Q11 Z n0 ex x A K S0 nc _ _ _ T1204.heap _
              exact ⟨rfl, N1204, O1204, B1204⟩
          · rw [own_eqF hc1171] at hf1169
            have pre1206 : Cm p e below E0 (T1168.setTop (mkF m 0 (lt16 x v950) [])) := fun t kt => by
              refine pre1170 t ?_
              show Sp p e below T1168 (mkF m 54 (lt16 x v950) [(.int v1168)]) _
              refine XS.ifYes X1168.here hx rfl (pc0 := 54) (pc' := 63) rfl (hb hby d11_54) rfl ((if0 _ _).trans (feq hc1171).2) (by decide) (by decide) ?_
              show Sp p e below T1168 (mkF m 63 (lt16 x v950) []) _
              refine XS.goto X1168.here hx rfl (pc0 := 63) (pc' := 0) rfl (hb hby d11_63) (by decide) (by decide) ?_
              show Sp p e below T1168 (mkF m 0 (lt16 x v950) []) _
              exact kt
            exact ih M1168 (.val (.int v950)) (Or.inr ⟨_, rfl, rfl⟩) T1168 _ _ X1168 rfl O1168 N1168 B1168 hf1169 pre1206
        · rw [own_ltF hc942] at hf939
          obtain ⟨rfl, rfl⟩ := own_ret hf939
          obtain ⟨fs, hr, hrun, hended, hW, hsame⟩ := X940.leave (v := some (.int 1)) (fun h => by rw [Bd.returns] at h; cases h) (BodyLoose.notSynchronized Bd)
          refine hno ⟨_, _, pre941 _ ?_, hrun, hended, _, _, rfl, ?_, ⟨_, rfl⟩, hW, hsame.mono (by decide) (by decide)⟩
          · show Sp p e below T940 (mkF m 4 (lt27 x s1) [(.int v938)]) _
            refine XS.ifYes X940.here hx rfl (pc0 := 4) (pc' := 66) rfl (hb hby d11_4) rfl ((if0 _ _).trans (flt hc942).2.2.2) (by decide) (by decide) ?_
            show Sp p e below T940 (mkF m 66 (lt27 x s1) []) _
            refine XS.iconst X940.here hx rfl (hb hby d11_66) ?_
            show Sp p e below T940 (mkF m 67 (lt27 x s1) [(.int 1)]) _
            exact retN X940 hx (t := .boolean) Bd.returns (by simp) (hb hby d11_67) hr
          · show Q11 Z n0 ex x A K S0 nc _ _ _ T940.heap _
            rw [e940]
            exact ⟨rfl, N1, O1, B1⟩
  exact (lp 200) M (.unset) (Or.inl rfl) s₁ _ _ X0 e0 O0 N0 B0 hf pre0
theorem pn_15 : plainName "com/example/onetree/onetree/EdgeStates" = true := by first | (simp [plainName, overriddenIn]; done) | decide +kernel
def f15 (nc : Nat) (M : MM) (p1 : Int32) (p2 : Int32) : Option (Int32 × MM) := bnd (f14 nc M p1 p2) fun v934 M934 => cnd (eqB v934 (0 : Int32)) (some ((0 : Int32), M934)) (bnd (f11 nc M934) fun v1207 M1207 => cnd (eqB v1207 (0 : Int32)) (some ((0 : Int32), M1207)) (some ((1 : Int32), M1207)))
theorem ef_15 (m : MethodId) (x : Addr) (A : Nat → Addr) (p1 : Int32) (p2 : Int32) : entryFrame m #[(.ref x), (.int p1), (.int p2)] 3 = mkF m 0 #[.val (.ref x), .val (.int p1), .val (.int p2)] [] := by first | (simp [entryFrame, mkF, argsToLocals, Value.category]; done) | rfl
def Q15 (Z : State) (n0 : Nat) (ex : Bool) (x : Addr) (A : Nat → Addr) (K : Nat → ClassId) (S0 : Addr) (nc : Nat) (rv : Int32) (M' : MM) (v : Option Value) (h : Heap) (L : List Loc) : Prop := v = some (.int rv) ∧ Fr n0 L ∧ Old Z n0 h ∧ EB Z n0 ex h x A K S0 nc M'
set_option maxRecDepth 65536 in
set_option maxHeartbeats 40000000 in
theorem rm15 (l : Launch) (Z : State) (a0 : Array Value) (hw : ∀ d ∈ tables_1, d.before a0 Z = true) (ws : List Jvm.Cond) (hSl : SlotsOK Z) (ex : Bool) (x : Addr) (A : Nat → Addr) (K : Nat → ClassId) (S0 : Addr) (nc : Nat) (M : MM) (p1 : Int32) (p2 : Int32) (rv : Int32) (M' : MM) (h0 : Heap) (n0 : Nat) (O0 : Old Z n0 h0) (B0 : EB Z n0 ex h0 x A K S0 nc M) (hf : f15 nc M p1 p2 = some (rv, M')) :
    MetFree l Y50 (head1 (Jvm.Cond.code Y50 prog_7_method_13_code 3 (some .boolean) :: ws) ({ frames := 5, cells := 0, slots := 0, locals := 77 } : Room)) (fun a U => a = #[(.ref x), (.int p1), (.int p2)] ∧ Z.Warmed39 U.vm ∧ U.heap = h0) (fun _ _ _ _ _ => True) (fun _ U o U' => ∃ v L, o = .returned v ∧ Q15 Z n0 ex x A K S0 nc rv M' v U'.heap L ∧ FrameEnd U o U' L ({ frames := 5, cells := 0, slots := 0, locals := 77 } : Room).cells ({ frames := 5, cells := 0, slots := 0, locals := 77 } : Room).slots) := by
  refine MetFree.of_bodySF (plainFor_of_name pn_15) hisR ?_
  intro p e s m args below meth c s₁ Bd hml0 hP hK
  obtain ⟨rfl, hZ, hh⟩ := hP
  have hx := Bd.exec
  have hby := Bd.bytes
  have hml : c.maxLocals = 3 := hml0
  have hown : s.vm.findClass "com/example/onetree/onetree/EdgeStates" = some m.cls := findClass_of_methodNamed Bd.named
  have X0 : Stand p l e ({ frames := 5, cells := 0, slots := 0, locals := 77 } : Room) s m #[(.ref x), (.int p1), (.int p2)] below meth c s₁ [] 0 0 := Stand.of_body Bd
  have e0 : s₁.heap = h0 := by rw [← hh, Bd.state]; rfl
  have N0 := Fr.nil n0
  have pre0 : ∀ t, Steps p.tables e below (s₁.setTop (mkF m 0 #[.val (.ref x), .val (.int p1), .val (.int p2)] [])) t → Steps p.tables e below (s₁.setTop (entryFrame m #[(.ref x), (.int p1), (.int p2)] 3)) t := fun t k => castTop (ef_15 m x A p1 p2) k
  generalize hE0 : s₁.setTop (entryFrame m #[(.ref x), (.int p1), (.int p2)] 3) = E0 at pre0 ⊢
  apply Classical.byContradiction
  intro hno
  unfold f15 at hf
  obtain ⟨v934, M934, hc934, hf935⟩ := own_bnd hf
  clear hf
  obtain ⟨cq934, q934, q934'⟩ := B0.exa.cell
  obtain ⟨_, _, ⟨T934, L934, k934, n934⟩, -, X934, ⟨Lc934, hQ934, l934, y934, z934⟩, st934⟩ := X0.privateBack hx (y := Y32) hown (mvT hZ (hw _ (tk 95 rfl))) (mvT hZ (hw _ (tk 96 rfl))) (own_selP rfl (mvT hZ (hw _ (tk 2 rfl))) (Cond.privateMethod_at (mvP hZ (hw _ (tk 97 rfl)) (args := #[]))) (mvT hZ (hw _ (tk 96 rfl))) (by decide)) (Cond.privateMethod_at (mvP hZ (hw _ (tk 97 rfl)) (args := #[]))) (mvT hZ (hw _ (tk 98 rfl))) (by decide) (backOf (W := 0) (rm14 l Z a0 hw [] hSl ex x A K S0 nc M p1 p2 v934 M934 h0 n0 O0 B0 hc934) hZ (hw _ (tk 98 rfl)) (hw _ (tk 3 rfl)) (by decide) (by decide)) (g := (mkF m 3 (lt26 x p1 p2) [(.int p2), (.int p1), (.ref x)])) rfl (by rw [hml]; rfl) (Steps.refl _) (a := x) (by rw [e0]; exact q934) q934' (argsL := [(.int p1), (.int p2)]) (rest := []) (lenOf pd_5 rfl) rfl (by show 2 * 0 + _ ≤ _; exact Nat.le_of_eq rfl) (hb hby d15_3) (fun _ _ => ⟨rfl, e0, (by decide : 0 + 0 ≤ _), (by decide : 0 + 0 ≤ _)⟩)
  dsimp only [Pt.U, Pt.locs, Pt.cells, Pt.slots] at X934 l934 y934 z934 st934 hQ934
  rw [l934, y934, z934] at X934
  obtain ⟨rv934, N934q, O934, B934⟩ := hQ934
  subst rv934
  have N934 := Fr.app N0 N934q
  have pre936 : Cm p e below E0 (T934.setTop (mkF m 6 (lt26 x p1 p2) [(.int v934)])) := fun t kt => by
    refine pre0 t ?_
    show Sp p e below s₁ (mkF m 0 (lt26 x p1 p2) []) _
    refine XS.aloadN X0.here hx rfl (hb hby d15_0) rfl rfl ?_
    refine XS.iloadN X0.here hx rfl (hb hby d15_1) rfl ?_
    show Sp p e below s₁ (mkF m 2 (lt26 x p1 p2) [(.int p1), (.ref x)]) _
    refine XS.iloadN X0.here hx rfl (hb hby d15_2) rfl ?_
    show Sp p e below s₁ (mkF m 3 (lt26 x p1 p2) [(.int p2), (.int p1), (.ref x)]) _
    refine st934.trans ?_
    show Sp p e below T934 (mkF m 6 (lt26 x p1 p2) [(.int v934)]) _
    exact kt
  by_cases hc937 : v934 = (0 : Int32)
  · rw [own_eqT hc937] at hf935
    obtain ⟨rfl, rfl⟩ := own_ret hf935
    obtain ⟨fs, hr, hrun, hended, hW, hsame⟩ := X934.leave (v := some (.int 0)) (fun h => by rw [Bd.returns] at h; cases h) (BodyLoose.notSynchronized Bd)
    refine hno ⟨_, _, pre936 _ ?_, hrun, hended, _, _, rfl, ?_, ⟨_, rfl⟩, hW, hsame.mono (by decide) (by decide)⟩
    · show Sp p e below T934 (mkF m 6 (lt26 x p1 p2) [(.int v934)]) _
      refine XS.ifYes X934.here hx rfl (pc0 := 6) (pc' := 20) rfl (hb hby d15_6) rfl ((if0 _ _).trans (teq hc937).1) (by decide) (by decide) ?_
      show Sp p e below T934 (mkF m 20 (lt26 x p1 p2) []) _
      refine XS.iconst X934.here hx rfl (hb hby d15_20) ?_
      show Sp p e below T934 (mkF m 21 (lt26 x p1 p2) [(.int 0)]) _
      exact retN X934 hx (t := .boolean) Bd.returns (by simp) (hb hby d15_21) hr
    · show Q15 Z n0 ex x A K S0 nc _ _ _ T934.heap _
      exact ⟨rfl, N934, O934, B934⟩
  · rw [own_eqF hc937] at hf935
    obtain ⟨v1207, M1207, hc1207, hf1208⟩ := own_bnd hf935
    clear hf935
    obtain ⟨cq1207, q1207, q1207'⟩ := B934.exa.cell
    obtain ⟨_, _, ⟨T1207, L1207, k1207, n1207⟩, -, X1207, ⟨Lc1207, hQ1207, l1207, y1207, z1207⟩, st1207⟩ := X934.privateBack hx (y := Y49) hown (mvT hZ (hw _ (tk 82 rfl))) (mvT hZ (hw _ (tk 83 rfl))) (own_selP rfl (mvT hZ (hw _ (tk 2 rfl))) (Cond.privateMethod_at (mvP hZ (hw _ (tk 84 rfl)) (args := #[]))) (mvT hZ (hw _ (tk 83 rfl))) (by decide)) (Cond.privateMethod_at (mvP hZ (hw _ (tk 84 rfl)) (args := #[]))) (mvT hZ (hw _ (tk 85 rfl))) (by decide) (backOf (W := 0) (rm11 l Z a0 hw [] hSl ex x A K S0 nc M934 v1207 M1207 T934.heap n0 O934 B934 hc1207) hZ (hw _ (tk 85 rfl)) (hw _ (tk 3 rfl)) (by decide) (by decide)) (g := (mkF m 10 (lt26 x p1 p2) [(.ref x)])) rfl (by rw [hml]; rfl) (Steps.refl _) (a := x) q1207 q1207' (argsL := []) (rest := []) (lenOf pd_9 rfl) rfl (by show 2 * 0 + _ ≤ _; exact Nat.le_of_eq rfl) (hb hby d15_10) (fun _ _ => ⟨rfl, rfl, (by decide : 0 + 0 ≤ _), (by decide : 0 + 0 ≤ _)⟩)
    dsimp only [Pt.U, Pt.locs, Pt.cells, Pt.slots] at X1207 l1207 y1207 z1207 st1207 hQ1207
    rw [l1207, y1207, z1207] at X1207
    obtain ⟨rv1207, N1207q, O1207, B1207⟩ := hQ1207
    subst rv1207
    have N1207 := Fr.app N934 N1207q
    have pre1209 : Cm p e below E0 (T1207.setTop (mkF m 13 (lt26 x p1 p2) [(.int v1207)])) := fun t kt => by
      refine pre936 t ?_
      show Sp p e below T934 (mkF m 6 (lt26 x p1 p2) [(.int v934)]) _
      refine XS.ifNo X934.here hx rfl (hb hby d15_6) rfl ((if0 _ _).trans (feq hc937).1) ?_
      show Sp p e below T934 (mkF m 9 (lt26 x p1 p2) []) _
      refine XS.aloadN X934.here hx rfl (hb hby d15_9) rfl rfl ?_
      show Sp p e below T934 (mkF m 10 (lt26 x p1 p2) [(.ref x)]) _
      refine st1207.trans ?_
      show Sp p e below T1207 (mkF m 13 (lt26 x p1 p2) [(.int v1207)]) _
      exact kt
    by_cases hc1210 : v1207 = (0 : Int32)
    · rw [own_eqT hc1210] at hf1208
      obtain ⟨rfl, rfl⟩ := own_ret hf1208
      obtain ⟨fs, hr, hrun, hended, hW, hsame⟩ := X1207.leave (v := some (.int 0)) (fun h => by rw [Bd.returns] at h; cases h) (BodyLoose.notSynchronized Bd)
      refine hno ⟨_, _, pre1209 _ ?_, hrun, hended, _, _, rfl, ?_, ⟨_, rfl⟩, hW, hsame.mono (by decide) (by decide)⟩
      · show Sp p e below T1207 (mkF m 13 (lt26 x p1 p2) [(.int v1207)]) _
        refine XS.ifYes X1207.here hx rfl (pc0 := 13) (pc' := 20) rfl (hb hby d15_13) rfl ((if0 _ _).trans (teq hc1210).1) (by decide) (by decide) ?_
        show Sp p e below T1207 (mkF m 20 (lt26 x p1 p2) []) _
        refine XS.iconst X1207.here hx rfl (hb hby d15_20) ?_
        show Sp p e below T1207 (mkF m 21 (lt26 x p1 p2) [(.int 0)]) _
        exact retN X1207 hx (t := .boolean) Bd.returns (by simp) (hb hby d15_21) hr
      · show Q15 Z n0 ex x A K S0 nc _ _ _ T1207.heap _
        exact ⟨rfl, N1207, O1207, B1207⟩
    · rw [own_eqF hc1210] at hf1208
      obtain ⟨rfl, rfl⟩ := own_ret hf1208
      obtain ⟨fs, hr, hrun, hended, hW, hsame⟩ := X1207.leave (v := some (.int 1)) (fun h => by rw [Bd.returns] at h; cases h) (BodyLoose.notSynchronized Bd)
      refine hno ⟨_, _, pre1209 _ ?_, hrun, hended, _, _, rfl, ?_, ⟨_, rfl⟩, hW, hsame.mono (by decide) (by decide)⟩
      · show Sp p e below T1207 (mkF m 13 (lt26 x p1 p2) [(.int v1207)]) _
        refine XS.ifNo X1207.here hx rfl (hb hby d15_13) rfl ((if0 _ _).trans (feq hc1210).1) ?_
        show Sp p e below T1207 (mkF m 16 (lt26 x p1 p2) []) _
        refine XS.iconst X1207.here hx rfl (hb hby d15_16) ?_
        show Sp p e below T1207 (mkF m 17 (lt26 x p1 p2) [(.int 1)]) _
        refine XS.goto X1207.here hx rfl (pc0 := 17) (pc' := 21) rfl (hb hby d15_17) (by decide) (by decide) ?_
        show Sp p e below T1207 (mkF m 21 (lt26 x p1 p2) [(.int 1)]) _
        exact retN X1207 hx (t := .boolean) Bd.returns (by simp) (hb hby d15_21) hr
      · show Q15 Z n0 ex x A K S0 nc _ _ _ T1207.heap _
        exact ⟨rfl, N1207, O1207, B1207⟩
theorem pn_6 : plainName "com/example/onetree/onetree/EdgeStates" = true := by first | (simp [plainName, overriddenIn]; done) | decide +kernel
def f6 (nc : Nat) (M : MM) (p1 : Int32) (p2 : Int32) : Option (Int32 × MM) := bnd (f7 nc M p1 p2) fun v1214 M1214 => cnd (eqB v1214 (0 : Int32)) (some ((0 : Int32), M1214)) (bnd (f11 nc M1214) fun v1218 M1218 => cnd (eqB v1218 (0 : Int32)) (some ((0 : Int32), M1218)) (some ((1 : Int32), M1218)))
theorem ef_6 (m : MethodId) (x : Addr) (A : Nat → Addr) (p1 : Int32) (p2 : Int32) : entryFrame m #[(.ref x), (.int p1), (.int p2)] 3 = mkF m 0 #[.val (.ref x), .val (.int p1), .val (.int p2)] [] := by first | (simp [entryFrame, mkF, argsToLocals, Value.category]; done) | rfl
def Q6 (Z : State) (n0 : Nat) (ex : Bool) (x : Addr) (A : Nat → Addr) (K : Nat → ClassId) (S0 : Addr) (nc : Nat) (rv : Int32) (M' : MM) (v : Option Value) (h : Heap) (L : List Loc) : Prop := v = some (.int rv) ∧ Fr n0 L ∧ Old Z n0 h ∧ EB Z n0 ex h x A K S0 nc M'
set_option maxRecDepth 65536 in
set_option maxHeartbeats 40000000 in
theorem rm6 (l : Launch) (Z : State) (a0 : Array Value) (hw : ∀ d ∈ tables_1, d.before a0 Z = true) (ws : List Jvm.Cond) (hSl : SlotsOK Z) (ex : Bool) (x : Addr) (A : Nat → Addr) (K : Nat → ClassId) (S0 : Addr) (nc : Nat) (M : MM) (p1 : Int32) (p2 : Int32) (rv : Int32) (M' : MM) (h0 : Heap) (n0 : Nat) (O0 : Old Z n0 h0) (B0 : EB Z n0 ex h0 x A K S0 nc M) (hf : f6 nc M p1 p2 = some (rv, M')) :
    MetFree l Y51 (head1 (Jvm.Cond.code Y51 prog_7_method_12_code 3 (some .boolean) :: ws) ({ frames := 5, cells := 0, slots := 0, locals := 77 } : Room)) (fun a U => a = #[(.ref x), (.int p1), (.int p2)] ∧ Z.Warmed39 U.vm ∧ U.heap = h0) (fun _ _ _ _ _ => True) (fun _ U o U' => ∃ v L, o = .returned v ∧ Q6 Z n0 ex x A K S0 nc rv M' v U'.heap L ∧ FrameEnd U o U' L ({ frames := 5, cells := 0, slots := 0, locals := 77 } : Room).cells ({ frames := 5, cells := 0, slots := 0, locals := 77 } : Room).slots) := by
  refine MetFree.of_bodySF (plainFor_of_name pn_6) hisR ?_
  intro p e s m args below meth c s₁ Bd hml0 hP hK
  obtain ⟨rfl, hZ, hh⟩ := hP
  have hx := Bd.exec
  have hby := Bd.bytes
  have hml : c.maxLocals = 3 := hml0
  have hown : s.vm.findClass "com/example/onetree/onetree/EdgeStates" = some m.cls := findClass_of_methodNamed Bd.named
  have X0 : Stand p l e ({ frames := 5, cells := 0, slots := 0, locals := 77 } : Room) s m #[(.ref x), (.int p1), (.int p2)] below meth c s₁ [] 0 0 := Stand.of_body Bd
  have e0 : s₁.heap = h0 := by rw [← hh, Bd.state]; rfl
  have N0 := Fr.nil n0
  have pre0 : ∀ t, Steps p.tables e below (s₁.setTop (mkF m 0 #[.val (.ref x), .val (.int p1), .val (.int p2)] [])) t → Steps p.tables e below (s₁.setTop (entryFrame m #[(.ref x), (.int p1), (.int p2)] 3)) t := fun t k => castTop (ef_6 m x A p1 p2) k
  generalize hE0 : s₁.setTop (entryFrame m #[(.ref x), (.int p1), (.int p2)] 3) = E0 at pre0 ⊢
  apply Classical.byContradiction
  intro hno
  unfold f6 at hf
  obtain ⟨v1214, M1214, hc1214, hf1215⟩ := own_bnd hf
  clear hf
  obtain ⟨cq1214, q1214, q1214'⟩ := B0.exa.cell
  obtain ⟨_, _, ⟨T1214, L1214, k1214, n1214⟩, -, X1214, ⟨Lc1214, hQ1214, l1214, y1214, z1214⟩, st1214⟩ := X0.privateBack hx (y := Y44) hown (mvT hZ (hw _ (tk 58 rfl))) (mvT hZ (hw _ (tk 59 rfl))) (own_selP rfl (mvT hZ (hw _ (tk 2 rfl))) (Cond.privateMethod_at (mvP hZ (hw _ (tk 60 rfl)) (args := #[]))) (mvT hZ (hw _ (tk 59 rfl))) (by decide)) (Cond.privateMethod_at (mvP hZ (hw _ (tk 60 rfl)) (args := #[]))) (mvT hZ (hw _ (tk 61 rfl))) (by decide) (backOf (W := 0) (rm7 l Z a0 hw [] hSl ex x A K S0 nc M p1 p2 v1214 M1214 h0 n0 O0 B0 hc1214) hZ (hw _ (tk 61 rfl)) (hw _ (tk 3 rfl)) (by decide) (by decide)) (g := (mkF m 3 (lt26 x p1 p2) [(.int p2), (.int p1), (.ref x)])) rfl (by rw [hml]; rfl) (Steps.refl _) (a := x) (by rw [e0]; exact q1214) q1214' (argsL := [(.int p1), (.int p2)]) (rest := []) (lenOf pd_5 rfl) rfl (by show 2 * 0 + _ ≤ _; exact Nat.le_of_eq rfl) (hb hby d6_3) (fun _ _ => ⟨rfl, e0, (by decide : 0 + 0 ≤ _), (by decide : 0 + 0 ≤ _)⟩)
  dsimp only [Pt.U, Pt.locs, Pt.cells, Pt.slots] at X1214 l1214 y1214 z1214 st1214 hQ1214
  rw [l1214, y1214, z1214] at X1214
  obtain ⟨rv1214, N1214q, O1214, B1214⟩ := hQ1214
  subst rv1214
  have N1214 := Fr.app N0 N1214q
  have pre1216 : Cm p e below E0 (T1214.setTop (mkF m 6 (lt26 x p1 p2) [(.int v1214)])) := fun t kt => by
    refine pre0 t ?_
    show Sp p e below s₁ (mkF m 0 (lt26 x p1 p2) []) _
    refine XS.aloadN X0.here hx rfl (hb hby d6_0) rfl rfl ?_
    refine XS.iloadN X0.here hx rfl (hb hby d6_1) rfl ?_
    show Sp p e below s₁ (mkF m 2 (lt26 x p1 p2) [(.int p1), (.ref x)]) _
    refine XS.iloadN X0.here hx rfl (hb hby d6_2) rfl ?_
    show Sp p e below s₁ (mkF m 3 (lt26 x p1 p2) [(.int p2), (.int p1), (.ref x)]) _
    refine st1214.trans ?_
    show Sp p e below T1214 (mkF m 6 (lt26 x p1 p2) [(.int v1214)]) _
    exact kt
  by_cases hc1217 : v1214 = (0 : Int32)
  · rw [own_eqT hc1217] at hf1215
    obtain ⟨rfl, rfl⟩ := own_ret hf1215
    obtain ⟨fs, hr, hrun, hended, hW, hsame⟩ := X1214.leave (v := some (.int 0)) (fun h => by rw [Bd.returns] at h; cases h) (BodyLoose.notSynchronized Bd)
    refine hno ⟨_, _, pre1216 _ ?_, hrun, hended, _, _, rfl, ?_, ⟨_, rfl⟩, hW, hsame.mono (by decide) (by decide)⟩
    · show Sp p e below T1214 (mkF m 6 (lt26 x p1 p2) [(.int v1214)]) _
      refine XS.ifYes X1214.here hx rfl (pc0 := 6) (pc' := 20) rfl (hb hby d6_6) rfl ((if0 _ _).trans (teq hc1217).1) (by decide) (by decide) ?_
      show Sp p e below T1214 (mkF m 20 (lt26 x p1 p2) []) _
      refine XS.iconst X1214.here hx rfl (hb hby d6_20) ?_
      show Sp p e below T1214 (mkF m 21 (lt26 x p1 p2) [(.int 0)]) _
      exact retN X1214 hx (t := .boolean) Bd.returns (by simp) (hb hby d6_21) hr
    · show Q6 Z n0 ex x A K S0 nc _ _ _ T1214.heap _
      exact ⟨rfl, N1214, O1214, B1214⟩
  · rw [own_eqF hc1217] at hf1215
    obtain ⟨v1218, M1218, hc1218, hf1219⟩ := own_bnd hf1215
    clear hf1215
    obtain ⟨cq1218, q1218, q1218'⟩ := B1214.exa.cell
    obtain ⟨_, _, ⟨T1218, L1218, k1218, n1218⟩, -, X1218, ⟨Lc1218, hQ1218, l1218, y1218, z1218⟩, st1218⟩ := X1214.privateBack hx (y := Y49) hown (mvT hZ (hw _ (tk 82 rfl))) (mvT hZ (hw _ (tk 83 rfl))) (own_selP rfl (mvT hZ (hw _ (tk 2 rfl))) (Cond.privateMethod_at (mvP hZ (hw _ (tk 84 rfl)) (args := #[]))) (mvT hZ (hw _ (tk 83 rfl))) (by decide)) (Cond.privateMethod_at (mvP hZ (hw _ (tk 84 rfl)) (args := #[]))) (mvT hZ (hw _ (tk 85 rfl))) (by decide) (backOf (W := 0) (rm11 l Z a0 hw [] hSl ex x A K S0 nc M1214 v1218 M1218 T1214.heap n0 O1214 B1214 hc1218) hZ (hw _ (tk 85 rfl)) (hw _ (tk 3 rfl)) (by decide) (by decide)) (g := (mkF m 10 (lt26 x p1 p2) [(.ref x)])) rfl (by rw [hml]; rfl) (Steps.refl _) (a := x) q1218 q1218' (argsL := []) (rest := []) (lenOf pd_9 rfl) rfl (by show 2 * 0 + _ ≤ _; exact Nat.le_of_eq rfl) (hb hby d6_10) (fun _ _ => ⟨rfl, rfl, (by decide : 0 + 0 ≤ _), (by decide : 0 + 0 ≤ _)⟩)
    dsimp only [Pt.U, Pt.locs, Pt.cells, Pt.slots] at X1218 l1218 y1218 z1218 st1218 hQ1218
    rw [l1218, y1218, z1218] at X1218
    obtain ⟨rv1218, N1218q, O1218, B1218⟩ := hQ1218
    subst rv1218
    have N1218 := Fr.app N1214 N1218q
    have pre1220 : Cm p e below E0 (T1218.setTop (mkF m 13 (lt26 x p1 p2) [(.int v1218)])) := fun t kt => by
      refine pre1216 t ?_
      show Sp p e below T1214 (mkF m 6 (lt26 x p1 p2) [(.int v1214)]) _
      refine XS.ifNo X1214.here hx rfl (hb hby d6_6) rfl ((if0 _ _).trans (feq hc1217).1) ?_
      show Sp p e below T1214 (mkF m 9 (lt26 x p1 p2) []) _
      refine XS.aloadN X1214.here hx rfl (hb hby d6_9) rfl rfl ?_
      show Sp p e below T1214 (mkF m 10 (lt26 x p1 p2) [(.ref x)]) _
      refine st1218.trans ?_
      show Sp p e below T1218 (mkF m 13 (lt26 x p1 p2) [(.int v1218)]) _
      exact kt
    by_cases hc1221 : v1218 = (0 : Int32)
    · rw [own_eqT hc1221] at hf1219
      obtain ⟨rfl, rfl⟩ := own_ret hf1219
      obtain ⟨fs, hr, hrun, hended, hW, hsame⟩ := X1218.leave (v := some (.int 0)) (fun h => by rw [Bd.returns] at h; cases h) (BodyLoose.notSynchronized Bd)
      refine hno ⟨_, _, pre1220 _ ?_, hrun, hended, _, _, rfl, ?_, ⟨_, rfl⟩, hW, hsame.mono (by decide) (by decide)⟩
      · show Sp p e below T1218 (mkF m 13 (lt26 x p1 p2) [(.int v1218)]) _
        refine XS.ifYes X1218.here hx rfl (pc0 := 13) (pc' := 20) rfl (hb hby d6_13) rfl ((if0 _ _).trans (teq hc1221).1) (by decide) (by decide) ?_
        show Sp p e below T1218 (mkF m 20 (lt26 x p1 p2) []) _
        refine XS.iconst X1218.here hx rfl (hb hby d6_20) ?_
        show Sp p e below T1218 (mkF m 21 (lt26 x p1 p2) [(.int 0)]) _
        exact retN X1218 hx (t := .boolean) Bd.returns (by simp) (hb hby d6_21) hr
      · show Q6 Z n0 ex x A K S0 nc _ _ _ T1218.heap _
        exact ⟨rfl, N1218, O1218, B1218⟩
    · rw [own_eqF hc1221] at hf1219
      obtain ⟨rfl, rfl⟩ := own_ret hf1219
      obtain ⟨fs, hr, hrun, hended, hW, hsame⟩ := X1218.leave (v := some (.int 1)) (fun h => by rw [Bd.returns] at h; cases h) (BodyLoose.notSynchronized Bd)
      refine hno ⟨_, _, pre1220 _ ?_, hrun, hended, _, _, rfl, ?_, ⟨_, rfl⟩, hW, hsame.mono (by decide) (by decide)⟩
      · show Sp p e below T1218 (mkF m 13 (lt26 x p1 p2) [(.int v1218)]) _
        refine XS.ifNo X1218.here hx rfl (hb hby d6_13) rfl ((if0 _ _).trans (feq hc1221).1) ?_
        show Sp p e below T1218 (mkF m 16 (lt26 x p1 p2) []) _
        refine XS.iconst X1218.here hx rfl (hb hby d6_16) ?_
        show Sp p e below T1218 (mkF m 17 (lt26 x p1 p2) [(.int 1)]) _
        refine XS.goto X1218.here hx rfl (pc0 := 17) (pc' := 21) rfl (hb hby d6_17) (by decide) (by decide) ?_
        show Sp p e below T1218 (mkF m 21 (lt26 x p1 p2) [(.int 1)]) _
        exact retN X1218 hx (t := .boolean) Bd.returns (by simp) (hb hby d6_21) hr
      · show Q6 Z n0 ex x A K S0 nc _ _ _ T1218.heap _
        exact ⟨rfl, N1218, O1218, B1218⟩
theorem pn_13 : plainName "com/example/onetree/onetree/EdgeStates" = true := by first | (simp [plainName, overriddenIn]; done) | decide +kernel
def f13 (nc : Nat) (M : MM) : Option (Int32 × MM) := nai (ld M 9 0) fun v1225 => some (v1225, M)
theorem ef_13 (m : MethodId) (x : Addr) (A : Nat → Addr) : entryFrame m #[(.ref x)] 1 = mkF m 0 #[.val (.ref x)] [] := by first | (simp [entryFrame, mkF, argsToLocals, Value.category]; done) | rfl
def Q13 (Z : State) (n0 : Nat) (ex : Bool) (x : Addr) (A : Nat → Addr) (K : Nat → ClassId) (S0 : Addr) (nc : Nat) (rv : Int32) (M' : MM) (v : Option Value) (h : Heap) (L : List Loc) : Prop := v = some (.int rv) ∧ Fr n0 L ∧ Old Z n0 h ∧ EB Z n0 ex h x A K S0 nc M'
set_option maxRecDepth 65536 in
set_option maxHeartbeats 40000000 in
theorem rm13 (l : Launch) (Z : State) (a0 : Array Value) (hw : ∀ d ∈ tables_1, d.before a0 Z = true) (ws : List Jvm.Cond) (hSl : SlotsOK Z) (ex : Bool) (x : Addr) (A : Nat → Addr) (K : Nat → ClassId) (S0 : Addr) (nc : Nat) (M : MM) (rv : Int32) (M' : MM) (h0 : Heap) (n0 : Nat) (O0 : Old Z n0 h0) (B0 : EB Z n0 ex h0 x A K S0 nc M) (hf : f13 nc M = some (rv, M')) :
    MetFree l Y52 (head1 (Jvm.Cond.code Y52 prog_7_method_18_code 1 (some .int) :: ws) ({ frames := 0, cells := 0, slots := 0, locals := 0 } : Room)) (fun a U => a = #[(.ref x)] ∧ Z.Warmed39 U.vm ∧ U.heap = h0) (fun _ _ _ _ _ => True) (fun _ U o U' => ∃ v L, o = .returned v ∧ Q13 Z n0 ex x A K S0 nc rv M' v U'.heap L ∧ FrameEnd U o U' L ({ frames := 0, cells := 0, slots := 0, locals := 0 } : Room).cells ({ frames := 0, cells := 0, slots := 0, locals := 0 } : Room).slots) := by
  refine MetFree.of_bodySF (plainFor_of_name pn_13) hisR ?_
  intro p e s m args below meth c s₁ Bd hml0 hP hK
  obtain ⟨rfl, hZ, hh⟩ := hP
  have hx := Bd.exec
  have hby := Bd.bytes
  have hml : c.maxLocals = 1 := hml0
  have hown : s.vm.findClass "com/example/onetree/onetree/EdgeStates" = some m.cls := findClass_of_methodNamed Bd.named
  have X0 : Stand p l e ({ frames := 0, cells := 0, slots := 0, locals := 0 } : Room) s m #[(.ref x)] below meth c s₁ [] 0 0 := Stand.of_body Bd
  have e0 : s₁.heap = h0 := by rw [← hh, Bd.state]; rfl
  have N0 := Fr.nil n0
  have pre0 : ∀ t, Steps p.tables e below (s₁.setTop (mkF m 0 #[.val (.ref x)] [])) t → Steps p.tables e below (s₁.setTop (entryFrame m #[(.ref x)] 1)) t := fun t k => castTop (ef_13 m x A) k
  generalize hE0 : s₁.setTop (entryFrame m #[(.ref x)] 1) = E0 at pre0 ⊢
  apply Classical.byContradiction
  intro hno
  unfold f13 at hf
  obtain ⟨v1225, d_v1225, hf1226⟩ := own_nai hf
  clear hf
  obtain ⟨T1227, X1227, e1227, st1227⟩ := getF X0 hx hZ hown (host := "") (Or.inl (hw _ (tk 68 rfl))) Via.refl e0 (own_rwF d_v1225 (B0.sca 0 rfl)) (g := (mkF m 1 (lt38 x) [(.ref x)])) rfl rfl (hb hby d13_1)
  obtain ⟨rfl, rfl⟩ := own_ret hf1226
  obtain ⟨fs, hr, hrun, hended, hW, hsame⟩ := X1227.leave (v := some (.int v1225)) (fun h => by rw [Bd.returns] at h; cases h) (BodyLoose.notSynchronized Bd)
  refine hno ⟨_, _, pre0 _ ?_, hrun, hended, _, _, rfl, ?_, ⟨_, rfl⟩, hW, hsame.mono (by decide) (by decide)⟩
  · show Sp p e below s₁ (mkF m 0 (lt38 x) []) _
    refine XS.aloadN X0.here hx rfl (hb hby d13_0) rfl rfl ?_
    show Sp p e below s₁ (mkF m 1 (lt38 x) [(.ref x)]) _
    refine st1227 _ ?_
    show Sp p e below T1227 (mkF m 4 (lt38 x) [(.int v1225)]) _
    exact retI X1227 hx Bd.returns (hb hby d13_4) hr
  · show Q13 Z n0 ex x A K S0 nc _ _ _ T1227.heap _
    rw [e1227]
    exact ⟨rfl, N0, O0, B0⟩
theorem pn_16 : plainName "com/example/onetree/onetree/EdgeStates" = true := by first | (simp [plainName, overriddenIn]; done) | decide +kernel
def lp16 (nc : Nat) : Nat → MM → Int32 → Option (Int32 × MM)
  | 0, _, _ => none
  | k + 1, M, al1 => nai (ld M 9 0) fun v1246 => cnd (ltB al1 v1246) (gd (inr (v1246 - (1 : Int32)) (lnR nc 6)) (nai (ld M 6 (ix (v1246 - (1 : Int32)))) fun v1256 => cnd (ltB v1256 (0 : Int32)) (gd (inr (v1246 - (3 : Int32)) (lnR nc 6)) (nai (ld M 6 (ix (v1246 - (3 : Int32)))) fun v1266 => gd (inr (v1256 ^^^ (-1 : Int32)) (lnR nc 2)) (nam (sto M 2 (ix (v1256 ^^^ (-1 : Int32))) v1266) fun M1271 => nai (ld M1271 9 0) fun v1275 => gd (inr (v1275 - (2 : Int32)) (lnR nc 6)) (nai (ld M1271 6 (ix (v1275 - (2 : Int32)))) fun v1281 => gd (inr (v1256 ^^^ (-1 : Int32)) (lnR nc 3)) (nam (sto M1271 3 (ix (v1256 ^^^ (-1 : Int32))) v1281) fun M1286 => nai (ld M1286 9 0) fun v1288 => nam (sto M1286 9 0 (v1288 - (3 : Int32))) fun M1291 => lp16 nc k M1291 al1))))) (gd (inr (v1246 - (2 : Int32)) (lnR nc 6)) (nai (ld M 6 (ix (v1246 - (2 : Int32)))) fun v1299 => nam (sto M 9 0 (v1246 - (2 : Int32))) fun M1302 => nam (sto M1302 10 0 (0 : Int32)) fun M1304 => gd (inr v1299 nc) (gd (inr v1256 nc) (nai (ld M1304 (14 + ix v1299) (ix v1256)) fun v1313 => cnd (eqB v1313 (1 : Int32)) (gd (inr v1299 (lnR nc 0)) (nai (ld M1304 0 (ix v1299)) fun v1321 => nam (sto M1304 0 (ix v1299) (v1321 - (1 : Int32))) fun M1324 => gd (inr v1256 (lnR nc 0)) (nai (ld M1324 0 (ix v1256)) fun v1330 => nam (sto M1324 0 (ix v1256) (v1330 - (1 : Int32))) fun M1333 => nam (sto M1333 (14 + ix v1299) (ix v1256) (0 : Int32)) fun M1338 => nam (sto M1338 (14 + ix v1256) (ix v1299) (0 : Int32)) fun M1343 => lp16 nc k M1343 al1))) (gd (inr v1299 (lnR nc 1)) (nai (ld M1304 1 (ix v1299)) fun v1350 => nam (sto M1304 1 (ix v1299) (v1350 + (1 : Int32))) fun M1353 => gd (inr v1256 (lnR nc 1)) (nai (ld M1353 1 (ix v1256)) fun v1359 => nam (sto M1353 1 (ix v1256) (v1359 + (1 : Int32))) fun M1362 => nam (sto M1362 (14 + ix v1299) (ix v1256) (0 : Int32)) fun M1367 => nam (sto M1367 (14 + ix v1256) (ix v1299) (0 : Int32)) fun M1372 => lp16 nc k M1372 al1))))))))) (some (0, M))
def f16 (nc : Nat) (M : MM) (p1 : Int32) : Option (Int32 × MM) := lp16 nc 200 M p1
theorem ef_16 (m : MethodId) (x : Addr) (A : Nat → Addr) (p1 : Int32) : entryFrame m #[(.ref x), (.int p1)] 5 = mkF m 0 #[.val (.ref x), .val (.int p1), .unset, .unset, .unset] [] := by first | (simp [entryFrame, mkF, argsToLocals, Value.category]; done) | rfl
def Q16 (Z : State) (n0 : Nat) (ex : Bool) (x : Addr) (A : Nat → Addr) (K : Nat → ClassId) (S0 : Addr) (nc : Nat) (rv : Int32) (M' : MM) (v : Option Value) (h : Heap) (L : List Loc) : Prop := v = none ∧ Fr n0 L ∧ Old Z n0 h ∧ EB Z n0 ex h x A K S0 nc M'
set_option maxRecDepth 65536 in
set_option maxHeartbeats 40000000 in
theorem rm16 (l : Launch) (Z : State) (a0 : Array Value) (hw : ∀ d ∈ tables_1, d.before a0 Z = true) (ws : List Jvm.Cond) (hSl : SlotsOK Z) (ex : Bool) (x : Addr) (A : Nat → Addr) (K : Nat → ClassId) (S0 : Addr) (nc : Nat) (M : MM) (p1 : Int32) (rv : Int32) (M' : MM) (h0 : Heap) (n0 : Nat) (O0 : Old Z n0 h0) (B0 : EB Z n0 ex h0 x A K S0 nc M) (hf : f16 nc M p1 = some (rv, M')) :
    MetFree l Y58 (head1 (Jvm.Cond.code Y58 prog_7_method_19_code 5 none :: ws) ({ frames := 0, cells := 0, slots := 0, locals := 0 } : Room)) (fun a U => a = #[(.ref x), (.int p1)] ∧ Z.Warmed39 U.vm ∧ U.heap = h0) (fun _ _ _ _ _ => True) (fun _ U o U' => ∃ v L, o = .returned v ∧ Q16 Z n0 ex x A K S0 nc rv M' v U'.heap L ∧ FrameEnd U o U' L ({ frames := 0, cells := 0, slots := 0, locals := 0 } : Room).cells ({ frames := 0, cells := 0, slots := 0, locals := 0 } : Room).slots) := by
  refine MetFree.of_bodySF (plainFor_of_name pn_16) hisR ?_
  intro p e s m args below meth c s₁ Bd hml0 hP hK
  obtain ⟨rfl, hZ, hh⟩ := hP
  have hx := Bd.exec
  have hby := Bd.bytes
  have hml : c.maxLocals = 5 := hml0
  have hown : s.vm.findClass "com/example/onetree/onetree/EdgeStates" = some m.cls := findClass_of_methodNamed Bd.named
  have X0 : Stand p l e ({ frames := 0, cells := 0, slots := 0, locals := 0 } : Room) s m #[(.ref x), (.int p1)] below meth c s₁ [] 0 0 := Stand.of_body Bd
  have e0 : s₁.heap = h0 := by rw [← hh, Bd.state]; rfl
  have N0 := Fr.nil n0
  have pre0 : ∀ t, Steps p.tables e below (s₁.setTop (mkF m 0 #[.val (.ref x), .val (.int p1), .unset, .unset, .unset] [])) t → Steps p.tables e below (s₁.setTop (entryFrame m #[(.ref x), (.int p1)] 5)) t := fun t k => castTop (ef_16 m x A p1) k
  generalize hE0 : s₁.setTop (entryFrame m #[(.ref x), (.int p1)] 5) = E0 at pre0 ⊢
  apply Classical.byContradiction
  intro hno
  unfold f16 at hf
  have lp : ∀ k : Nat, (∀ (M : MM) (al1 : Int32) (s2 : Slot) (s3 : Slot) (s4 : Slot) (_ : s2 = .unset ∨ ∃ w, s2 = .val w ∧ w.category = 1) (_ : s3 = .unset ∨ ∃ w, s3 = .val w ∧ w.category = 1) (_ : s4 = .unset ∨ ∃ w, s4 = .val w ∧ w.category = 1) (T0 : State) (L1 : List Loc) (h1 : Heap), Stand p l e ({ frames := 0, cells := 0, slots := 0, locals := 0 } : Room) s m #[(.ref x), (.int p1)] below meth c T0 L1 0 0 → T0.heap = h1 → Old Z n0 h1 → Fr n0 L1 → EB Z n0 ex h1 x A K S0 nc M → lp16 nc k M al1 = some (rv, M') → Cm p e below E0 (T0.setTop (mkF m 0 (lt42 x al1 s2 s3 s4) [])) → False) := by
    intro k
    induction k with
    | zero => exact fun M al1 s2 s3 s4 u2 u3 u4 T0 L1 h1 X1 e1 O1 N1 B1 hf pre1 => (by rw [lp16] at hf; cases hf)
    | succ k ih =>
      refine fun M al1 s2 s3 s4 u2 u3 u4 T0 L1 h1 X1 e1 O1 N1 B1 hf pre1 => ?_
      · rw [lp16] at hf
        obtain ⟨v1246, d_v1246, hf1247⟩ := own_nai hf
        clear hf
        obtain ⟨T1248, X1248, e1248, st1248⟩ := getF X1 hx hZ hown (host := "") (Or.inl (hw _ (tk 68 rfl))) Via.refl e1 (own_rwF d_v1246 (B1.sca 0 rfl)) (g := (mkF m 1 (lt42 x al1 s2 s3 s4) [(.ref x)])) rfl rfl (hb hby d16_1)
        have pre1249 : Cm p e below E0 (T1248.setTop (mkF m 5 (lt42 x al1 s2 s3 s4) [(.int al1), (.int v1246)])) := fun t kt => by
          refine pre1 t ?_
          show Sp p e below T0 (mkF m 0 (lt42 x al1 s2 s3 s4) []) _
          refine XS.aloadN X1.here hx rfl (hb hby d16_0) rfl rfl ?_
          show Sp p e below T0 (mkF m 1 (lt42 x al1 s2 s3 s4) [(.ref x)]) _
          refine st1248 _ ?_
          show Sp p e below T1248 (mkF m 4 (lt42 x al1 s2 s3 s4) [(.int v1246)]) _
          refine XS.iloadN X1248.here hx rfl (hb hby d16_4) rfl ?_
          show Sp p e below T1248 (mkF m 5 (lt42 x al1 s2 s3 s4) [(.int al1), (.int v1246)]) _
          exact kt
        by_cases hc1250 : al1 < v1246
        · rw [own_ltT hc1250] at hf1247
          obtain ⟨T1251, X1251, e1251, st1251⟩ := getF X1248 hx hZ hown (host := "") (Or.inl (hw _ (tk 38 rfl))) Via.refl e1248 (B1.fld 8 rfl) (g := (mkF m 9 (lt42 x al1 s2 s3 s4) [(.ref x)])) rfl rfl (hb hby d16_9)
          obtain ⟨T1252, X1252, e1252, st1252⟩ := getF X1251 hx hZ hown (host := "") (Or.inl (hw _ (tk 68 rfl))) Via.refl e1251 (own_rwF d_v1246 (B1.sca 0 rfl)) (g := (mkF m 13 (lt42 x al1 s2 s3 s4) [(.ref x), (.ref (A 6))])) rfl rfl (hb hby d16_13)
          obtain ⟨g1253, hf1254⟩ := own_gd hf1247
          clear hf1247
          obtain ⟨v1256, d_v1256, hf1257⟩ := own_nai hf1254
          clear hf1254
          obtain ⟨cl1255, Ar1255, hin1255, hat1255⟩ := B1.get 6 (Or.inl (by decide)) g1253 d_v1256
          have At1255 : Arr Z h1 (A 6) cl1255 .int := Ar1255
          have pre1258 : Cm p e below E0 (T1252.setTop (mkF m 21 (lt43 x al1 v1256 s3 s4) [(.int v1256)])) := fun t kt => by
            refine pre1249 t ?_
            show Sp p e below T1248 (mkF m 5 (lt42 x al1 s2 s3 s4) [(.int al1), (.int v1246)]) _
            refine XS.icmpNo X1248.here hx rfl (hb hby d16_5) rfl (tlt hc1250).2.2.2 ?_
            show Sp p e below T1248 (mkF m 8 (lt42 x al1 s2 s3 s4) []) _
            refine XS.aloadN X1248.here hx rfl (hb hby d16_8) rfl rfl ?_
            show Sp p e below T1248 (mkF m 9 (lt42 x al1 s2 s3 s4) [(.ref x)]) _
            refine st1251 _ ?_
            show Sp p e below T1251 (mkF m 12 (lt42 x al1 s2 s3 s4) [(.ref (A 6))]) _
            refine XS.aloadN X1251.here hx rfl (hb hby d16_12) rfl rfl ?_
            show Sp p e below T1251 (mkF m 13 (lt42 x al1 s2 s3 s4) [(.ref x), (.ref (A 6))]) _
            refine st1252 _ ?_
            show Sp p e below T1252 (mkF m 16 (lt42 x al1 s2 s3 s4) [(.int v1246), (.ref (A 6))]) _
            refine XS.iconst X1252.here hx rfl (hb hby d16_16) ?_
            refine XS.isub X1252.here hx rfl (hb hby d16_17) rfl ?_
            show Sp p e below T1252 (mkF m 18 (lt42 x al1 s2 s3 s4) [(.int (v1246 - 1)), (.ref (A 6))]) _
            refine X1252.iaload hx (j := (v1246 - 1)) (v := (.int v1256)) (by rw [e1252]; exact Ar1255.1) (State.isArrayOf_alike hZ.alike At1255.2.1) At1255.2.2 hin1255 hat1255 (g := (mkF m 18 (lt42 x al1 s2 s3 s4) [(.int (v1246 - 1)), (.ref (A 6))])) rfl rfl (hb hby d16_18) _ ?_
            show Sp p e below T1252 (mkF m 19 (lt42 x al1 s2 s3 s4) [(.int v1256)]) _
            refine XS.istoreNS X1252.here hx rfl (hb hby d16_19) rfl rfl u2 ?_
            refine XS.iloadN X1252.here hx rfl (hb hby d16_20) rfl ?_
            show Sp p e below T1252 (mkF m 21 (lt43 x al1 v1256 s3 s4) [(.int v1256)]) _
            exact kt
          by_cases hc1259 : v1256 < (0 : Int32)
          · rw [own_ltT hc1259] at hf1257
            obtain ⟨T1260, X1260, e1260, st1260⟩ := getF X1252 hx hZ hown (host := "") (Or.inl (hw _ (tk 40 rfl))) Via.refl e1252 (B1.fld 4 rfl) (g := (mkF m 29 (lt31 x al1 v1256 (v1256 ^^^ (-1)) s4) [(.ref x)])) rfl rfl (hb hby d16_29)
            obtain ⟨T1261, X1261, e1261, st1261⟩ := getF X1260 hx hZ hown (host := "") (Or.inl (hw _ (tk 38 rfl))) Via.refl e1260 (B1.fld 8 rfl) (g := (mkF m 34 (lt31 x al1 v1256 (v1256 ^^^ (-1)) s4) [(.ref x), (.int (v1256 ^^^ (-1))), (.ref (A 2))])) rfl rfl (hb hby d16_34)
            obtain ⟨T1262, X1262, e1262, st1262⟩ := getF X1261 hx hZ hown (host := "") (Or.inl (hw _ (tk 68 rfl))) Via.refl e1261 (own_rwF d_v1246 (B1.sca 0 rfl)) (g := (mkF m 38 (lt31 x al1 v1256 (v1256 ^^^ (-1)) s4) [(.ref x), (.ref (A 6)), (.int (v1256 ^^^ (-1))), (.ref (A 2))])) rfl rfl (hb hby d16_38)
            obtain ⟨g1263, hf1264⟩ := own_gd hf1257
            clear hf1257
            obtain ⟨v1266, d_v1266, hf1267⟩ := own_nai hf1264
            clear hf1264
            obtain ⟨cl1265, Ar1265, hin1265, hat1265⟩ := B1.get 6 (Or.inl (by decide)) g1263 d_v1266
            have At1265 : Arr Z h1 (A 6) cl1265 .int := Ar1265
            obtain ⟨g1268, hf1269⟩ := own_gd hf1267
            clear hf1267
            obtain ⟨cl1270, Ar1270, hin1270⟩ := B1.at 2 (Or.inl (by decide)) g1268
            have At1270 : Arr Z h1 (A 2) cl1270 .int := Ar1270
            obtain ⟨T1271, h1271, X1271, e1271, W1271, st1271⟩ := stI X1262 hx hZ e1262 At1270 (j := (v1256 ^^^ (-1))) hin1270 (g := (mkF m 44 (lt31 x al1 v1256 (v1256 ^^^ (-1)) s4) [(.int v1266), (.int (v1256 ^^^ (-1))), (.ref (A 2))])) rfl rfl (hb hby d16_44)
            obtain ⟨M1271, d_M1271, hf1272⟩ := own_nam hf1269
            clear hf1269
            have B1271 := B1.wr (v := v1266) 2 (Or.inl (by decide)) g1268 W1271 rfl
            rw [← d_M1271] at B1271
            have O1271 := O1.wr W1271 (B1.old 2 (Or.inl (by decide)))
            have N1271 := Fr.snoc X1271 N1 (B1.old 2 (Or.inl (by decide)))
            obtain ⟨T1273, X1273, e1273, st1273⟩ := getF X1271 hx hZ hown (host := "") (Or.inl (hw _ (tk 42 rfl))) Via.refl e1271 (B1271.fld 5 rfl) (g := (mkF m 46 (lt31 x al1 v1256 (v1256 ^^^ (-1)) s4) [(.ref x)])) rfl rfl (hb hby d16_46)
            obtain ⟨T1274, X1274, e1274, st1274⟩ := getF X1273 hx hZ hown (host := "") (Or.inl (hw _ (tk 38 rfl))) Via.refl e1273 (B1271.fld 8 rfl) (g := (mkF m 51 (lt31 x al1 v1256 (v1256 ^^^ (-1)) s4) [(.ref x), (.int (v1256 ^^^ (-1))), (.ref (A 3))])) rfl rfl (hb hby d16_51)
            obtain ⟨v1275, d_v1275, hf1276⟩ := own_nai hf1272
            clear hf1272
            obtain ⟨T1277, X1277, e1277, st1277⟩ := getF X1274 hx hZ hown (host := "") (Or.inl (hw _ (tk 68 rfl))) Via.refl e1274 (own_rwF d_v1275 (B1271.sca 0 rfl)) (g := (mkF m 55 (lt31 x al1 v1256 (v1256 ^^^ (-1)) s4) [(.ref x), (.ref (A 6)), (.int (v1256 ^^^ (-1))), (.ref (A 3))])) rfl rfl (hb hby d16_55)
            obtain ⟨g1278, hf1279⟩ := own_gd hf1276
            clear hf1276
            obtain ⟨v1281, d_v1281, hf1282⟩ := own_nai hf1279
            clear hf1279
            obtain ⟨cl1280, Ar1280, hin1280, hat1280⟩ := B1271.get 6 (Or.inl (by decide)) g1278 d_v1281
            have At1280 : Arr Z h1271 (A 6) cl1280 .int := Ar1280
            obtain ⟨g1283, hf1284⟩ := own_gd hf1282
            clear hf1282
            obtain ⟨cl1285, Ar1285, hin1285⟩ := B1271.at 3 (Or.inl (by decide)) g1283
            have At1285 : Arr Z h1271 (A 3) cl1285 .int := Ar1285
            obtain ⟨T1286, h1286, X1286, e1286, W1286, st1286⟩ := stI X1277 hx hZ e1277 At1285 (j := (v1256 ^^^ (-1))) hin1285 (g := (mkF m 61 (lt31 x al1 v1256 (v1256 ^^^ (-1)) s4) [(.int v1281), (.int (v1256 ^^^ (-1))), (.ref (A 3))])) rfl rfl (hb hby d16_61)
            obtain ⟨M1286, d_M1286, hf1287⟩ := own_nam hf1284
            clear hf1284
            have B1286 := B1271.wr (v := v1281) 3 (Or.inl (by decide)) g1283 W1286 rfl
            rw [← d_M1286] at B1286
            have O1286 := O1271.wr W1286 (B1271.old 3 (Or.inl (by decide)))
            have N1286 := Fr.snoc X1286 N1271 (B1271.old 3 (Or.inl (by decide)))
            obtain ⟨v1288, d_v1288, hf1289⟩ := own_nai hf1287
            clear hf1287
            obtain ⟨T1290, X1290, e1290, st1290⟩ := getF X1286 hx hZ hown (host := "") (Or.inl (hw _ (tk 68 rfl))) Via.refl e1286 (own_rwF d_v1288 (B1286.sca 0 rfl)) (g := (mkF m 64 (lt31 x al1 v1256 (v1256 ^^^ (-1)) s4) [(.ref x), (.ref x)])) rfl rfl (hb hby d16_64)
            obtain ⟨T1291, h1291, X1291, e1291, W1291, st1291⟩ := putF X1290 hx hZ hown (host := "") (Or.inl (hw _ (tk 68 rfl))) Via.refl e1290 (B1286.sca 0 rfl) B1286.exa (Or.inl (hw _ (tk 69 rfl))) (hw _ (tk 2 rfl)) (ty := .int) (by decide) rfl rfl (g := (mkF m 69 (lt31 x al1 v1256 (v1256 ^^^ (-1)) s4) [(.int (v1288 - 3)), (.ref x)])) rfl rfl (hb hby d16_69)
            obtain ⟨M1291, d_M1291, hf1292⟩ := own_nam hf1289
            clear hf1289
            have B1291 := B1286.put hSl 0 rfl W1291
            rw [← d_M1291] at B1291
            have O1291 := O1286.wr W1291 B1286.oldx
            have N1291 := Fr.snoc X1291 N1286 B1286.oldx
            have pre1293 : Cm p e below E0 (T1291.setTop (mkF m 0 (lt31 x al1 v1256 (v1256 ^^^ (-1)) s4) [])) := fun t kt => by
              refine pre1258 t ?_
              show Sp p e below T1252 (mkF m 21 (lt43 x al1 v1256 s3 s4) [(.int v1256)]) _
              refine XS.ifNo X1252.here hx rfl (hb hby d16_21) rfl ((if0 _ _).trans (tlt hc1259).2.1) ?_
              show Sp p e below T1252 (mkF m 24 (lt43 x al1 v1256 s3 s4) []) _
              refine XS.iloadN X1252.here hx rfl (hb hby d16_24) rfl ?_
              refine XS.iconst X1252.here hx rfl (hb hby d16_25) ?_
              show Sp p e below T1252 (mkF m 26 (lt43 x al1 v1256 s3 s4) [(.int (-1)), (.int v1256)]) _
              refine XS.ixor X1252.here hx rfl (hb hby d16_26) rfl ?_
              refine XS.istoreNS X1252.here hx rfl (hb hby d16_27) rfl rfl u3 ?_
              show Sp p e below T1252 (mkF m 28 (lt31 x al1 v1256 (v1256 ^^^ (-1)) s4) []) _
              refine XS.aloadN X1252.here hx rfl (hb hby d16_28) rfl rfl ?_
              show Sp p e below T1252 (mkF m 29 (lt31 x al1 v1256 (v1256 ^^^ (-1)) s4) [(.ref x)]) _
              refine st1260 _ ?_
              show Sp p e below T1260 (mkF m 32 (lt31 x al1 v1256 (v1256 ^^^ (-1)) s4) [(.ref (A 2))]) _
              refine XS.iloadN X1260.here hx rfl (hb hby d16_32) rfl ?_
              refine XS.aloadN X1260.here hx rfl (hb hby d16_33) rfl rfl ?_
              show Sp p e below T1260 (mkF m 34 (lt31 x al1 v1256 (v1256 ^^^ (-1)) s4) [(.ref x), (.int (v1256 ^^^ (-1))), (.ref (A 2))]) _
              refine st1261 _ ?_
              show Sp p e below T1261 (mkF m 37 (lt31 x al1 v1256 (v1256 ^^^ (-1)) s4) [(.ref (A 6)), (.int (v1256 ^^^ (-1))), (.ref (A 2))]) _
              refine XS.aloadN X1261.here hx rfl (hb hby d16_37) rfl rfl ?_
              show Sp p e below T1261 (mkF m 38 (lt31 x al1 v1256 (v1256 ^^^ (-1)) s4) [(.ref x), (.ref (A 6)), (.int (v1256 ^^^ (-1))), (.ref (A 2))]) _
              refine st1262 _ ?_
              show Sp p e below T1262 (mkF m 41 (lt31 x al1 v1256 (v1256 ^^^ (-1)) s4) [(.int v1246), (.ref (A 6)), (.int (v1256 ^^^ (-1))), (.ref (A 2))]) _
              refine XS.iconst X1262.here hx rfl (hb hby d16_41) ?_
              refine XS.isub X1262.here hx rfl (hb hby d16_42) rfl ?_
              show Sp p e below T1262 (mkF m 43 (lt31 x al1 v1256 (v1256 ^^^ (-1)) s4) [(.int (v1246 - 3)), (.ref (A 6)), (.int (v1256 ^^^ (-1))), (.ref (A 2))]) _
              refine X1262.iaload hx (j := (v1246 - 3)) (v := (.int v1266)) (by rw [e1262]; exact Ar1265.1) (State.isArrayOf_alike hZ.alike At1265.2.1) At1265.2.2 hin1265 hat1265 (g := (mkF m 43 (lt31 x al1 v1256 (v1256 ^^^ (-1)) s4) [(.int (v1246 - 3)), (.ref (A 6)), (.int (v1256 ^^^ (-1))), (.ref (A 2))])) rfl rfl (hb hby d16_43) _ ?_
              show Sp p e below T1262 (mkF m 44 (lt31 x al1 v1256 (v1256 ^^^ (-1)) s4) [(.int v1266), (.int (v1256 ^^^ (-1))), (.ref (A 2))]) _
              refine st1271 _ ?_
              show Sp p e below T1271 (mkF m 45 (lt31 x al1 v1256 (v1256 ^^^ (-1)) s4) []) _
              refine XS.aloadN X1271.here hx rfl (hb hby d16_45) rfl rfl ?_
              show Sp p e below T1271 (mkF m 46 (lt31 x al1 v1256 (v1256 ^^^ (-1)) s4) [(.ref x)]) _
              refine st1273 _ ?_
              show Sp p e below T1273 (mkF m 49 (lt31 x al1 v1256 (v1256 ^^^ (-1)) s4) [(.ref (A 3))]) _
              refine XS.iloadN X1273.here hx rfl (hb hby d16_49) rfl ?_
              refine XS.aloadN X1273.here hx rfl (hb hby d16_50) rfl rfl ?_
              show Sp p e below T1273 (mkF m 51 (lt31 x al1 v1256 (v1256 ^^^ (-1)) s4) [(.ref x), (.int (v1256 ^^^ (-1))), (.ref (A 3))]) _
              refine st1274 _ ?_
              show Sp p e below T1274 (mkF m 54 (lt31 x al1 v1256 (v1256 ^^^ (-1)) s4) [(.ref (A 6)), (.int (v1256 ^^^ (-1))), (.ref (A 3))]) _
              refine XS.aloadN X1274.here hx rfl (hb hby d16_54) rfl rfl ?_
              show Sp p e below T1274 (mkF m 55 (lt31 x al1 v1256 (v1256 ^^^ (-1)) s4) [(.ref x), (.ref (A 6)), (.int (v1256 ^^^ (-1))), (.ref (A 3))]) _
              refine st1277 _ ?_
              show Sp p e below T1277 (mkF m 58 (lt31 x al1 v1256 (v1256 ^^^ (-1)) s4) [(.int v1275), (.ref (A 6)), (.int (v1256 ^^^ (-1))), (.ref (A 3))]) _
              refine XS.iconst X1277.here hx rfl (hb hby d16_58) ?_
              refine XS.isub X1277.here hx rfl (hb hby d16_59) rfl ?_
              show Sp p e below T1277 (mkF m 60 (lt31 x al1 v1256 (v1256 ^^^ (-1)) s4) [(.int (v1275 - 2)), (.ref (A 6)), (.int (v1256 ^^^ (-1))), (.ref (A 3))]) _
              refine X1277.iaload hx (j := (v1275 - 2)) (v := (.int v1281)) (by rw [e1277]; exact Ar1280.1) (State.isArrayOf_alike hZ.alike At1280.2.1) At1280.2.2 hin1280 hat1280 (g := (mkF m 60 (lt31 x al1 v1256 (v1256 ^^^ (-1)) s4) [(.int (v1275 - 2)), (.ref (A 6)), (.int (v1256 ^^^ (-1))), (.ref (A 3))])) rfl rfl (hb hby d16_60) _ ?_
              show Sp p e below T1277 (mkF m 61 (lt31 x al1 v1256 (v1256 ^^^ (-1)) s4) [(.int v1281), (.int (v1256 ^^^ (-1))), (.ref (A 3))]) _
              refine st1286 _ ?_
              show Sp p e below T1286 (mkF m 62 (lt31 x al1 v1256 (v1256 ^^^ (-1)) s4) []) _
              refine XS.aloadN X1286.here hx rfl (hb hby d16_62) rfl rfl ?_
              refine XS.dup X1286.here hx rfl (hb hby d16_63) rfl rfl ?_
              show Sp p e below T1286 (mkF m 64 (lt31 x al1 v1256 (v1256 ^^^ (-1)) s4) [(.ref x), (.ref x)]) _
              refine st1290 _ ?_
              show Sp p e below T1290 (mkF m 67 (lt31 x al1 v1256 (v1256 ^^^ (-1)) s4) [(.int v1288), (.ref x)]) _
              refine XS.iconst X1290.here hx rfl (hb hby d16_67) ?_
              refine XS.isub X1290.here hx rfl (hb hby d16_68) rfl ?_
              show Sp p e below T1290 (mkF m 69 (lt31 x al1 v1256 (v1256 ^^^ (-1)) s4) [(.int (v1288 - 3)), (.ref x)]) _
              refine st1291 _ ?_
              show Sp p e below T1291 (mkF m 72 (lt31 x al1 v1256 (v1256 ^^^ (-1)) s4) []) _
              refine XS.goto X1291.here hx rfl (pc0 := 72) (pc' := 0) rfl (hb hby d16_72) (by decide) (by decide) ?_
              show Sp p e below T1291 (mkF m 0 (lt31 x al1 v1256 (v1256 ^^^ (-1)) s4) []) _
              exact kt
            exact ih M1291 al1 (.val (.int v1256)) (.val (.int (v1256 ^^^ (-1)))) s4 (Or.inr ⟨_, rfl, rfl⟩) (Or.inr ⟨_, rfl, rfl⟩) u4 T1291 _ _ X1291 e1291 O1291 N1291 B1291 hf1292 pre1293
          · rw [own_ltF hc1259] at hf1257
            obtain ⟨T1294, X1294, e1294, st1294⟩ := getF X1252 hx hZ hown (host := "") (Or.inl (hw _ (tk 38 rfl))) Via.refl e1252 (B1.fld 8 rfl) (g := (mkF m 76 (lt43 x al1 v1256 s3 s4) [(.ref x)])) rfl rfl (hb hby d16_76)
            obtain ⟨T1295, X1295, e1295, st1295⟩ := getF X1294 hx hZ hown (host := "") (Or.inl (hw _ (tk 68 rfl))) Via.refl e1294 (own_rwF d_v1246 (B1.sca 0 rfl)) (g := (mkF m 80 (lt43 x al1 v1256 s3 s4) [(.ref x), (.ref (A 6))])) rfl rfl (hb hby d16_80)
            obtain ⟨g1296, hf1297⟩ := own_gd hf1257
            clear hf1257
            obtain ⟨v1299, d_v1299, hf1300⟩ := own_nai hf1297
            clear hf1297
            obtain ⟨cl1298, Ar1298, hin1298, hat1298⟩ := B1.get 6 (Or.inl (by decide)) g1296 d_v1299
            have At1298 : Arr Z h1 (A 6) cl1298 .int := Ar1298
            obtain ⟨T1301, X1301, e1301, st1301⟩ := getF X1295 hx hZ hown (host := "") (Or.inl (hw _ (tk 68 rfl))) Via.refl e1295 (own_rwF d_v1246 (B1.sca 0 rfl)) (g := (mkF m 92 (lt37 x al1 v1256 v1299 v1256) [(.ref x), (.ref x)])) rfl rfl (hb hby d16_92)
            obtain ⟨T1302, h1302, X1302, e1302, W1302, st1302⟩ := putF X1301 hx hZ hown (host := "") (Or.inl (hw _ (tk 68 rfl))) Via.refl e1301 (B1.sca 0 rfl) B1.exa (Or.inl (hw _ (tk 69 rfl))) (hw _ (tk 2 rfl)) (ty := .int) (by decide) rfl rfl (g := (mkF m 97 (lt37 x al1 v1256 v1299 v1256) [(.int (v1246 - 2)), (.ref x)])) rfl rfl (hb hby d16_97)
            obtain ⟨M1302, d_M1302, hf1303⟩ := own_nam hf1300
            clear hf1300
            have B1302 := B1.put hSl 0 rfl W1302
            rw [← d_M1302] at B1302
            have O1302 := O1.wr W1302 B1.oldx
            have N1302 := Fr.snoc X1302 N1 B1.oldx
            obtain ⟨T1304, h1304, X1304, e1304, W1304, st1304⟩ := putFN X1302 hx hZ hown (hw _ (tk 66 rfl)) Via.refl e1302 (B1302.sca 1 rfl) B1302.exa (Or.inl (hw _ (tk 67 rfl))) (hw _ (tk 2 rfl)) (ty := .boolean) (v' := (.int 0)) (by decide) rfl (by decide) (g := (mkF m 102 (lt37 x al1 v1256 v1299 v1256) [(.int 0), (.ref x)])) rfl rfl (hb hby d16_102)
            obtain ⟨M1304, d_M1304, hf1305⟩ := own_nam hf1303
            clear hf1303
            have B1304 := B1302.put hSl 1 rfl W1304
            rw [← d_M1304] at B1304
            have O1304 := O1302.wr W1304 B1302.oldx
            have N1304 := Fr.snoc X1304 N1302 B1302.oldx
            obtain ⟨T1306, X1306, e1306, st1306⟩ := getF X1304 hx hZ hown (host := "") (Or.inl (hw _ (tk 22 rfl))) Via.refl e1304 (B1304.fld 1 rfl) (g := (mkF m 106 (lt37 x al1 v1256 v1299 v1256) [(.ref x)])) rfl rfl (hb hby d16_106)
            obtain ⟨g1307, hf1308⟩ := own_gd hf1305
            clear hf1305
            obtain ⟨cl1309, Ar1309, hin1309, hat1309⟩ := B1304.getS g1307
            obtain ⟨g1310, hf1311⟩ := own_gd hf1308
            clear hf1308
            obtain ⟨v1313, d_v1313, hf1314⟩ := own_nai hf1311
            clear hf1311
            obtain ⟨cl1312, Ar1312, hin1312, hat1312⟩ := B1304.get (14 + ix v1299) (B1304.isS g1307) (own_gS g1310) d_v1313
            have At1312 := own_tyA Ar1312
            have pre1315 : Cm p e below E0 (T1306.setTop (mkF m 115 (lt37 x al1 v1256 v1299 v1256) [(.int 1), (.int v1313)])) := fun t kt => by
              refine pre1258 t ?_
              show Sp p e below T1252 (mkF m 21 (lt43 x al1 v1256 s3 s4) [(.int v1256)]) _
              refine XS.ifYes X1252.here hx rfl (pc0 := 21) (pc' := 75) rfl (hb hby d16_21) rfl ((if0 _ _).trans (flt hc1259).2.1) (by decide) (by decide) ?_
              show Sp p e below T1252 (mkF m 75 (lt43 x al1 v1256 s3 s4) []) _
              refine XS.aloadN X1252.here hx rfl (hb hby d16_75) rfl rfl ?_
              show Sp p e below T1252 (mkF m 76 (lt43 x al1 v1256 s3 s4) [(.ref x)]) _
              refine st1294 _ ?_
              show Sp p e below T1294 (mkF m 79 (lt43 x al1 v1256 s3 s4) [(.ref (A 6))]) _
              refine XS.aloadN X1294.here hx rfl (hb hby d16_79) rfl rfl ?_
              show Sp p e below T1294 (mkF m 80 (lt43 x al1 v1256 s3 s4) [(.ref x), (.ref (A 6))]) _
              refine st1295 _ ?_
              show Sp p e below T1295 (mkF m 83 (lt43 x al1 v1256 s3 s4) [(.int v1246), (.ref (A 6))]) _
              refine XS.iconst X1295.here hx rfl (hb hby d16_83) ?_
              refine XS.isub X1295.here hx rfl (hb hby d16_84) rfl ?_
              show Sp p e below T1295 (mkF m 85 (lt43 x al1 v1256 s3 s4) [(.int (v1246 - 2)), (.ref (A 6))]) _
              refine X1295.iaload hx (j := (v1246 - 2)) (v := (.int v1299)) (by rw [e1295]; exact Ar1298.1) (State.isArrayOf_alike hZ.alike At1298.2.1) At1298.2.2 hin1298 hat1298 (g := (mkF m 85 (lt43 x al1 v1256 s3 s4) [(.int (v1246 - 2)), (.ref (A 6))])) rfl rfl (hb hby d16_85) _ ?_
              show Sp p e below T1295 (mkF m 86 (lt43 x al1 v1256 s3 s4) [(.int v1299)]) _
              refine XS.istoreNS X1295.here hx rfl (hb hby d16_86) rfl rfl u3 ?_
              refine XS.iloadN X1295.here hx rfl (hb hby d16_87) rfl ?_
              show Sp p e below T1295 (mkF m 88 (lt31 x al1 v1256 v1299 s4) [(.int v1256)]) _
              refine XS.istoreS X1295.here hx rfl (hb hby d16_88) rfl rfl u4 ?_
              refine XS.aloadN X1295.here hx rfl (hb hby d16_90) rfl rfl ?_
              show Sp p e below T1295 (mkF m 91 (lt37 x al1 v1256 v1299 v1256) [(.ref x)]) _
              refine XS.dup X1295.here hx rfl (hb hby d16_91) rfl rfl ?_
              show Sp p e below T1295 (mkF m 92 (lt37 x al1 v1256 v1299 v1256) [(.ref x), (.ref x)]) _
              refine st1301 _ ?_
              show Sp p e below T1301 (mkF m 95 (lt37 x al1 v1256 v1299 v1256) [(.int v1246), (.ref x)]) _
              refine XS.iconst X1301.here hx rfl (hb hby d16_95) ?_
              refine XS.isub X1301.here hx rfl (hb hby d16_96) rfl ?_
              show Sp p e below T1301 (mkF m 97 (lt37 x al1 v1256 v1299 v1256) [(.int (v1246 - 2)), (.ref x)]) _
              refine st1302 _ ?_
              show Sp p e below T1302 (mkF m 100 (lt37 x al1 v1256 v1299 v1256) []) _
              refine XS.aloadN X1302.here hx rfl (hb hby d16_100) rfl rfl ?_
              refine XS.iconst X1302.here hx rfl (hb hby d16_101) ?_
              show Sp p e below T1302 (mkF m 102 (lt37 x al1 v1256 v1299 v1256) [(.int 0), (.ref x)]) _
              refine st1304 _ ?_
              show Sp p e below T1304 (mkF m 105 (lt37 x al1 v1256 v1299 v1256) []) _
              refine XS.aloadN X1304.here hx rfl (hb hby d16_105) rfl rfl ?_
              show Sp p e below T1304 (mkF m 106 (lt37 x al1 v1256 v1299 v1256) [(.ref x)]) _
              refine st1306 _ ?_
              show Sp p e below T1306 (mkF m 109 (lt37 x al1 v1256 v1299 v1256) [(.ref S0)]) _
              refine XS.iloadN X1306.here hx rfl (hb hby d16_109) rfl ?_
              show Sp p e below T1306 (mkF m 110 (lt37 x al1 v1256 v1299 v1256) [(.int v1299), (.ref S0)]) _
              refine X1306.aaload hx (j := v1299) (v := .ref (A (14 + ix v1299))) (by rw [e1306]; exact Ar1309.1) (State.isArrayOf_alike hZ.alike Ar1309.2.1) rfl Ar1309.2.2 hin1309 hat1309 (g := (mkF m 110 (lt37 x al1 v1256 v1299 v1256) [(.int v1299), (.ref S0)])) rfl rfl (hb hby d16_110) _ ?_
              show Sp p e below T1306 (mkF m 111 (lt37 x al1 v1256 v1299 v1256) [(.ref (A (14 + ix v1299)))]) _
              refine XS.iload X1306.here hx rfl (hb hby d16_111) rfl ?_
              show Sp p e below T1306 (mkF m 113 (lt37 x al1 v1256 v1299 v1256) [(.int v1256), (.ref (A (14 + ix v1299)))]) _
              refine X1306.baloadBytes hx (j := v1256) (v := (.int v1313)) (by rw [e1306]; exact Ar1312.1) (State.isArrayOf_alike hZ.alike At1312.2.1) At1312.2.2 hin1312 hat1312 (g := (mkF m 113 (lt37 x al1 v1256 v1299 v1256) [(.int v1256), (.ref (A (14 + ix v1299)))])) rfl rfl (hb hby d16_113) _ ?_
              show Sp p e below T1306 (mkF m 114 (lt37 x al1 v1256 v1299 v1256) [(.int v1313)]) _
              refine XS.iconst X1306.here hx rfl (hb hby d16_114) ?_
              show Sp p e below T1306 (mkF m 115 (lt37 x al1 v1256 v1299 v1256) [(.int 1), (.int v1313)]) _
              exact kt
            by_cases hc1316 : v1313 = (1 : Int32)
            · rw [own_eqT hc1316] at hf1314
              obtain ⟨T1317, X1317, e1317, st1317⟩ := getF X1306 hx hZ hown (host := "") (Or.inl (hw _ (tk 25 rfl))) Via.refl e1306 (B1304.fld 2 rfl) (g := (mkF m 119 (lt37 x al1 v1256 v1299 v1256) [(.ref x)])) rfl rfl (hb hby d16_119)
              obtain ⟨g1318, hf1319⟩ := own_gd hf1314
              clear hf1314
              obtain ⟨v1321, d_v1321, hf1322⟩ := own_nai hf1319
              clear hf1319
              obtain ⟨cl1320, Ar1320, hin1320, hat1320⟩ := B1304.get 0 (Or.inl (by decide)) g1318 d_v1321
              have At1320 : Arr Z h1304 (A 0) cl1320 .int := Ar1320
              obtain ⟨cl1323, Ar1323, hin1323⟩ := B1304.at 0 (Or.inl (by decide)) g1318
              have At1323 : Arr Z h1304 (A 0) cl1323 .int := Ar1323
              obtain ⟨T1324, h1324, X1324, e1324, W1324, st1324⟩ := stI X1317 hx hZ e1317 At1323 (j := v1299) hin1323 (g := (mkF m 127 (lt37 x al1 v1256 v1299 v1256) [(.int (v1321 - 1)), (.int v1299), (.ref (A 0))])) rfl rfl (hb hby d16_127)
              obtain ⟨M1324, d_M1324, hf1325⟩ := own_nam hf1322
              clear hf1322
              have B1324 := B1304.wr (v := (v1321 - 1)) 0 (Or.inl (by decide)) g1318 W1324 rfl
              rw [← d_M1324] at B1324
              have O1324 := O1304.wr W1324 (B1304.old 0 (Or.inl (by decide)))
              have N1324 := Fr.snoc X1324 N1304 (B1304.old 0 (Or.inl (by decide)))
              obtain ⟨T1326, X1326, e1326, st1326⟩ := getF X1324 hx hZ hown (host := "") (Or.inl (hw _ (tk 25 rfl))) Via.refl e1324 (B1324.fld 2 rfl) (g := (mkF m 129 (lt37 x al1 v1256 v1299 v1256) [(.ref x)])) rfl rfl (hb hby d16_129)
              obtain ⟨g1327, hf1328⟩ := own_gd hf1325
              clear hf1325
              obtain ⟨v1330, d_v1330, hf1331⟩ := own_nai hf1328
              clear hf1328
              obtain ⟨cl1329, Ar1329, hin1329, hat1329⟩ := B1324.get 0 (Or.inl (by decide)) g1327 d_v1330
              have At1329 : Arr Z h1324 (A 0) cl1329 .int := Ar1329
              obtain ⟨cl1332, Ar1332, hin1332⟩ := B1324.at 0 (Or.inl (by decide)) g1327
              have At1332 : Arr Z h1324 (A 0) cl1332 .int := Ar1332
              obtain ⟨T1333, h1333, X1333, e1333, W1333, st1333⟩ := stI X1326 hx hZ e1326 At1332 (j := v1256) hin1332 (g := (mkF m 138 (lt37 x al1 v1256 v1299 v1256) [(.int (v1330 - 1)), (.int v1256), (.ref (A 0))])) rfl rfl (hb hby d16_138)
              obtain ⟨M1333, d_M1333, hf1334⟩ := own_nam hf1331
              clear hf1331
              have B1333 := B1324.wr (v := (v1330 - 1)) 0 (Or.inl (by decide)) g1327 W1333 rfl
              rw [← d_M1333] at B1333
              have O1333 := O1324.wr W1333 (B1324.old 0 (Or.inl (by decide)))
              have N1333 := Fr.snoc X1333 N1324 (B1324.old 0 (Or.inl (by decide)))
              obtain ⟨T1335, X1335, e1335, st1335⟩ := getF X1333 hx hZ hown (host := "") (Or.inl (hw _ (tk 22 rfl))) Via.refl e1333 (B1333.fld 1 rfl) (g := (mkF m 164 (lt37 x al1 v1256 v1299 v1256) [(.ref x)])) rfl rfl (hb hby d16_164)
              obtain ⟨cl1336, Ar1336, hin1336, hat1336⟩ := B1333.getS g1307
              obtain ⟨cl1337, Ar1337, hin1337⟩ := B1333.at (14 + ix v1299) (B1333.isS g1307) (own_gS g1310)
              have At1337 := own_tyA Ar1337
              obtain ⟨T1338, h1338, X1338, e1338, W1338, st1338⟩ := stB X1335 hx hZ e1335 At1337 (j := v1256) hin1337 (g := (mkF m 172 (lt37 x al1 v1256 v1299 v1256) [(.int 0), (.int v1256), (.ref (A (14 + ix v1299)))])) rfl rfl (hb hby d16_172)
              obtain ⟨M1338, d_M1338, hf1339⟩ := own_nam hf1334
              clear hf1334
              have B1338 := B1333.wr (v := (0 : Int32)) (14 + ix v1299) (B1333.isS g1307) (own_gS g1310) W1338 (own_fitS (by decide))
              rw [← d_M1338] at B1338
              have O1338 := O1333.wr W1338 (B1333.old (14 + ix v1299) (B1333.isS g1307))
              have N1338 := Fr.snoc X1338 N1333 (B1333.old (14 + ix v1299) (B1333.isS g1307))
              obtain ⟨T1340, X1340, e1340, st1340⟩ := getF X1338 hx hZ hown (host := "") (Or.inl (hw _ (tk 22 rfl))) Via.refl e1338 (B1338.fld 1 rfl) (g := (mkF m 174 (lt37 x al1 v1256 v1299 v1256) [(.ref x)])) rfl rfl (hb hby d16_174)
              obtain ⟨cl1341, Ar1341, hin1341, hat1341⟩ := B1338.getS g1310
              obtain ⟨cl1342, Ar1342, hin1342⟩ := B1338.at (14 + ix v1256) (B1338.isS g1310) (own_gS g1307)
              have At1342 := own_tyA Ar1342
              obtain ⟨T1343, h1343, X1343, e1343, W1343, st1343⟩ := stB X1340 hx hZ e1340 At1342 (j := v1299) hin1342 (g := (mkF m 182 (lt37 x al1 v1256 v1299 v1256) [(.int 0), (.int v1299), (.ref (A (14 + ix v1256)))])) rfl rfl (hb hby d16_182)
              obtain ⟨M1343, d_M1343, hf1344⟩ := own_nam hf1339
              clear hf1339
              have B1343 := B1338.wr (v := (0 : Int32)) (14 + ix v1256) (B1338.isS g1310) (own_gS g1307) W1343 (own_fitS (by decide))
              rw [← d_M1343] at B1343
              have O1343 := O1338.wr W1343 (B1338.old (14 + ix v1256) (B1338.isS g1310))
              have N1343 := Fr.snoc X1343 N1338 (B1338.old (14 + ix v1256) (B1338.isS g1310))
              have pre1345 : Cm p e below E0 (T1343.setTop (mkF m 0 (lt37 x al1 v1256 v1299 v1256) [])) := fun t kt => by
                refine pre1315 t ?_
                show Sp p e below T1306 (mkF m 115 (lt37 x al1 v1256 v1299 v1256) [(.int 1), (.int v1313)]) _
                refine XS.icmpNo X1306.here hx rfl (hb hby d16_115) rfl (teq hc1316).2 ?_
                show Sp p e below T1306 (mkF m 118 (lt37 x al1 v1256 v1299 v1256) []) _
                refine XS.aloadN X1306.here hx rfl (hb hby d16_118) rfl rfl ?_
                show Sp p e below T1306 (mkF m 119 (lt37 x al1 v1256 v1299 v1256) [(.ref x)]) _
                refine st1317 _ ?_
                show Sp p e below T1317 (mkF m 122 (lt37 x al1 v1256 v1299 v1256) [(.ref (A 0))]) _
                refine XS.iloadN X1317.here hx rfl (hb hby d16_122) rfl ?_
                show Sp p e below T1317 (mkF m 123 (lt37 x al1 v1256 v1299 v1256) [(.int v1299), (.ref (A 0))]) _
                refine XT.dup2 X1317.here hx rfl (hb hby d16_123) rfl rfl rfl ?_
                show Sp p e below T1317 (mkF m 124 (lt37 x al1 v1256 v1299 v1256) [(.int v1299), (.ref (A 0)), (.int v1299), (.ref (A 0))]) _
                refine X1317.iaload hx (j := v1299) (v := (.int v1321)) (by rw [e1317]; exact Ar1320.1) (State.isArrayOf_alike hZ.alike At1320.2.1) At1320.2.2 hin1320 hat1320 (g := (mkF m 124 (lt37 x al1 v1256 v1299 v1256) [(.int v1299), (.ref (A 0)), (.int v1299), (.ref (A 0))])) rfl rfl (hb hby d16_124) _ ?_
                show Sp p e below T1317 (mkF m 125 (lt37 x al1 v1256 v1299 v1256) [(.int v1321), (.int v1299), (.ref (A 0))]) _
                refine XS.iconst X1317.here hx rfl (hb hby d16_125) ?_
                refine XS.isub X1317.here hx rfl (hb hby d16_126) rfl ?_
                show Sp p e below T1317 (mkF m 127 (lt37 x al1 v1256 v1299 v1256) [(.int (v1321 - 1)), (.int v1299), (.ref (A 0))]) _
                refine st1324 _ ?_
                show Sp p e below T1324 (mkF m 128 (lt37 x al1 v1256 v1299 v1256) []) _
                refine XS.aloadN X1324.here hx rfl (hb hby d16_128) rfl rfl ?_
                show Sp p e below T1324 (mkF m 129 (lt37 x al1 v1256 v1299 v1256) [(.ref x)]) _
                refine st1326 _ ?_
                show Sp p e below T1326 (mkF m 132 (lt37 x al1 v1256 v1299 v1256) [(.ref (A 0))]) _
                refine XS.iload X1326.here hx rfl (hb hby d16_132) rfl ?_
                show Sp p e below T1326 (mkF m 134 (lt37 x al1 v1256 v1299 v1256) [(.int v1256), (.ref (A 0))]) _
                refine XT.dup2 X1326.here hx rfl (hb hby d16_134) rfl rfl rfl ?_
                show Sp p e below T1326 (mkF m 135 (lt37 x al1 v1256 v1299 v1256) [(.int v1256), (.ref (A 0)), (.int v1256), (.ref (A 0))]) _
                refine X1326.iaload hx (j := v1256) (v := (.int v1330)) (by rw [e1326]; exact Ar1329.1) (State.isArrayOf_alike hZ.alike At1329.2.1) At1329.2.2 hin1329 hat1329 (g := (mkF m 135 (lt37 x al1 v1256 v1299 v1256) [(.int v1256), (.ref (A 0)), (.int v1256), (.ref (A 0))])) rfl rfl (hb hby d16_135) _ ?_
                show Sp p e below T1326 (mkF m 136 (lt37 x al1 v1256 v1299 v1256) [(.int v1330), (.int v1256), (.ref (A 0))]) _
                refine XS.iconst X1326.here hx rfl (hb hby d16_136) ?_
                refine XS.isub X1326.here hx rfl (hb hby d16_137) rfl ?_
                show Sp p e below T1326 (mkF m 138 (lt37 x al1 v1256 v1299 v1256) [(.int (v1330 - 1)), (.int v1256), (.ref (A 0))]) _
                refine st1333 _ ?_
                show Sp p e below T1333 (mkF m 139 (lt37 x al1 v1256 v1299 v1256) []) _
                refine XS.goto X1333.here hx rfl (pc0 := 139) (pc' := 163) rfl (hb hby d16_139) (by decide) (by decide) ?_
                show Sp p e below T1333 (mkF m 163 (lt37 x al1 v1256 v1299 v1256) []) _
                refine XS.aloadN X1333.here hx rfl (hb hby d16_163) rfl rfl ?_
                show Sp p e below T1333 (mkF m 164 (lt37 x al1 v1256 v1299 v1256) [(.ref x)]) _
                refine st1335 _ ?_
                show Sp p e below T1335 (mkF m 167 (lt37 x al1 v1256 v1299 v1256) [(.ref S0)]) _
                refine XS.iloadN X1335.here hx rfl (hb hby d16_167) rfl ?_
                show Sp p e below T1335 (mkF m 168 (lt37 x al1 v1256 v1299 v1256) [(.int v1299), (.ref S0)]) _
                refine X1335.aaload hx (j := v1299) (v := .ref (A (14 + ix v1299))) (by rw [e1335]; exact Ar1336.1) (State.isArrayOf_alike hZ.alike Ar1336.2.1) rfl Ar1336.2.2 hin1336 hat1336 (g := (mkF m 168 (lt37 x al1 v1256 v1299 v1256) [(.int v1299), (.ref S0)])) rfl rfl (hb hby d16_168) _ ?_
                show Sp p e below T1335 (mkF m 169 (lt37 x al1 v1256 v1299 v1256) [(.ref (A (14 + ix v1299)))]) _
                refine XS.iload X1335.here hx rfl (hb hby d16_169) rfl ?_
                refine XS.iconst X1335.here hx rfl (hb hby d16_171) ?_
                show Sp p e below T1335 (mkF m 172 (lt37 x al1 v1256 v1299 v1256) [(.int 0), (.int v1256), (.ref (A (14 + ix v1299)))]) _
                refine st1338 _ ?_
                show Sp p e below T1338 (mkF m 173 (lt37 x al1 v1256 v1299 v1256) []) _
                refine XS.aloadN X1338.here hx rfl (hb hby d16_173) rfl rfl ?_
                show Sp p e below T1338 (mkF m 174 (lt37 x al1 v1256 v1299 v1256) [(.ref x)]) _
                refine st1340 _ ?_
                show Sp p e below T1340 (mkF m 177 (lt37 x al1 v1256 v1299 v1256) [(.ref S0)]) _
                refine XS.iload X1340.here hx rfl (hb hby d16_177) rfl ?_
                show Sp p e below T1340 (mkF m 179 (lt37 x al1 v1256 v1299 v1256) [(.int v1256), (.ref S0)]) _
                refine X1340.aaload hx (j := v1256) (v := .ref (A (14 + ix v1256))) (by rw [e1340]; exact Ar1341.1) (State.isArrayOf_alike hZ.alike Ar1341.2.1) rfl Ar1341.2.2 hin1341 hat1341 (g := (mkF m 179 (lt37 x al1 v1256 v1299 v1256) [(.int v1256), (.ref S0)])) rfl rfl (hb hby d16_179) _ ?_
                show Sp p e below T1340 (mkF m 180 (lt37 x al1 v1256 v1299 v1256) [(.ref (A (14 + ix v1256)))]) _
                refine XS.iloadN X1340.here hx rfl (hb hby d16_180) rfl ?_
                refine XS.iconst X1340.here hx rfl (hb hby d16_181) ?_
                show Sp p e below T1340 (mkF m 182 (lt37 x al1 v1256 v1299 v1256) [(.int 0), (.int v1299), (.ref (A (14 + ix v1256)))]) _
                refine st1343 _ ?_
                show Sp p e below T1343 (mkF m 183 (lt37 x al1 v1256 v1299 v1256) []) _
                refine XS.goto X1343.here hx rfl (pc0 := 183) (pc' := 0) rfl (hb hby d16_183) (by decide) (by decide) ?_
                show Sp p e below T1343 (mkF m 0 (lt37 x al1 v1256 v1299 v1256) []) _
                exact kt
              exact ih M1343 al1 (.val (.int v1256)) (.val (.int v1299)) (.val (.int v1256)) (Or.inr ⟨_, rfl, rfl⟩) (Or.inr ⟨_, rfl, rfl⟩) (Or.inr ⟨_, rfl, rfl⟩) T1343 _ _ X1343 e1343 O1343 N1343 B1343 hf1344 pre1345
            · rw [own_eqF hc1316] at hf1314
              obtain ⟨T1346, X1346, e1346, st1346⟩ := getF X1306 hx hZ hown (host := "") (Or.inl (hw _ (tk 27 rfl))) Via.refl e1306 (B1304.fld 3 rfl) (g := (mkF m 143 (lt37 x al1 v1256 v1299 v1256) [(.ref x)])) rfl rfl (hb hby d16_143)
              obtain ⟨g1347, hf1348⟩ := own_gd hf1314
              clear hf1314
              obtain ⟨v1350, d_v1350, hf1351⟩ := own_nai hf1348
              clear hf1348
              obtain ⟨cl1349, Ar1349, hin1349, hat1349⟩ := B1304.get 1 (Or.inl (by decide)) g1347 d_v1350
              have At1349 : Arr Z h1304 (A 1) cl1349 .int := Ar1349
              obtain ⟨cl1352, Ar1352, hin1352⟩ := B1304.at 1 (Or.inl (by decide)) g1347
              have At1352 : Arr Z h1304 (A 1) cl1352 .int := Ar1352
              obtain ⟨T1353, h1353, X1353, e1353, W1353, st1353⟩ := stI X1346 hx hZ e1346 At1352 (j := v1299) hin1352 (g := (mkF m 151 (lt37 x al1 v1256 v1299 v1256) [(.int (v1350 + 1)), (.int v1299), (.ref (A 1))])) rfl rfl (hb hby d16_151)
              obtain ⟨M1353, d_M1353, hf1354⟩ := own_nam hf1351
              clear hf1351
              have B1353 := B1304.wr (v := (v1350 + 1)) 1 (Or.inl (by decide)) g1347 W1353 rfl
              rw [← d_M1353] at B1353
              have O1353 := O1304.wr W1353 (B1304.old 1 (Or.inl (by decide)))
              have N1353 := Fr.snoc X1353 N1304 (B1304.old 1 (Or.inl (by decide)))
              obtain ⟨T1355, X1355, e1355, st1355⟩ := getF X1353 hx hZ hown (host := "") (Or.inl (hw _ (tk 27 rfl))) Via.refl e1353 (B1353.fld 3 rfl) (g := (mkF m 153 (lt37 x al1 v1256 v1299 v1256) [(.ref x)])) rfl rfl (hb hby d16_153)
              obtain ⟨g1356, hf1357⟩ := own_gd hf1354
              clear hf1354
              obtain ⟨v1359, d_v1359, hf1360⟩ := own_nai hf1357
              clear hf1357
              obtain ⟨cl1358, Ar1358, hin1358, hat1358⟩ := B1353.get 1 (Or.inl (by decide)) g1356 d_v1359
              have At1358 : Arr Z h1353 (A 1) cl1358 .int := Ar1358
              obtain ⟨cl1361, Ar1361, hin1361⟩ := B1353.at 1 (Or.inl (by decide)) g1356
              have At1361 : Arr Z h1353 (A 1) cl1361 .int := Ar1361
              obtain ⟨T1362, h1362, X1362, e1362, W1362, st1362⟩ := stI X1355 hx hZ e1355 At1361 (j := v1256) hin1361 (g := (mkF m 162 (lt37 x al1 v1256 v1299 v1256) [(.int (v1359 + 1)), (.int v1256), (.ref (A 1))])) rfl rfl (hb hby d16_162)
              obtain ⟨M1362, d_M1362, hf1363⟩ := own_nam hf1360
              clear hf1360
              have B1362 := B1353.wr (v := (v1359 + 1)) 1 (Or.inl (by decide)) g1356 W1362 rfl
              rw [← d_M1362] at B1362
              have O1362 := O1353.wr W1362 (B1353.old 1 (Or.inl (by decide)))
              have N1362 := Fr.snoc X1362 N1353 (B1353.old 1 (Or.inl (by decide)))
              obtain ⟨T1364, X1364, e1364, st1364⟩ := getF X1362 hx hZ hown (host := "") (Or.inl (hw _ (tk 22 rfl))) Via.refl e1362 (B1362.fld 1 rfl) (g := (mkF m 164 (lt37 x al1 v1256 v1299 v1256) [(.ref x)])) rfl rfl (hb hby d16_164)
              obtain ⟨cl1365, Ar1365, hin1365, hat1365⟩ := B1362.getS g1307
              obtain ⟨cl1366, Ar1366, hin1366⟩ := B1362.at (14 + ix v1299) (B1362.isS g1307) (own_gS g1310)
              have At1366 := own_tyA Ar1366
              obtain ⟨T1367, h1367, X1367, e1367, W1367, st1367⟩ := stB X1364 hx hZ e1364 At1366 (j := v1256) hin1366 (g := (mkF m 172 (lt37 x al1 v1256 v1299 v1256) [(.int 0), (.int v1256), (.ref (A (14 + ix v1299)))])) rfl rfl (hb hby d16_172)
              obtain ⟨M1367, d_M1367, hf1368⟩ := own_nam hf1363
              clear hf1363
              have B1367 := B1362.wr (v := (0 : Int32)) (14 + ix v1299) (B1362.isS g1307) (own_gS g1310) W1367 (own_fitS (by decide))
              rw [← d_M1367] at B1367
              have O1367 := O1362.wr W1367 (B1362.old (14 + ix v1299) (B1362.isS g1307))
              have N1367 := Fr.snoc X1367 N1362 (B1362.old (14 + ix v1299) (B1362.isS g1307))
              obtain ⟨T1369, X1369, e1369, st1369⟩ := getF X1367 hx hZ hown (host := "") (Or.inl (hw _ (tk 22 rfl))) Via.refl e1367 (B1367.fld 1 rfl) (g := (mkF m 174 (lt37 x al1 v1256 v1299 v1256) [(.ref x)])) rfl rfl (hb hby d16_174)
              obtain ⟨cl1370, Ar1370, hin1370, hat1370⟩ := B1367.getS g1310
              obtain ⟨cl1371, Ar1371, hin1371⟩ := B1367.at (14 + ix v1256) (B1367.isS g1310) (own_gS g1307)
              have At1371 := own_tyA Ar1371
              obtain ⟨T1372, h1372, X1372, e1372, W1372, st1372⟩ := stB X1369 hx hZ e1369 At1371 (j := v1299) hin1371 (g := (mkF m 182 (lt37 x al1 v1256 v1299 v1256) [(.int 0), (.int v1299), (.ref (A (14 + ix v1256)))])) rfl rfl (hb hby d16_182)
              obtain ⟨M1372, d_M1372, hf1373⟩ := own_nam hf1368
              clear hf1368
              have B1372 := B1367.wr (v := (0 : Int32)) (14 + ix v1256) (B1367.isS g1310) (own_gS g1307) W1372 (own_fitS (by decide))
              rw [← d_M1372] at B1372
              have O1372 := O1367.wr W1372 (B1367.old (14 + ix v1256) (B1367.isS g1310))
              have N1372 := Fr.snoc X1372 N1367 (B1367.old (14 + ix v1256) (B1367.isS g1310))
              have pre1374 : Cm p e below E0 (T1372.setTop (mkF m 0 (lt37 x al1 v1256 v1299 v1256) [])) := fun t kt => by
                refine pre1315 t ?_
                show Sp p e below T1306 (mkF m 115 (lt37 x al1 v1256 v1299 v1256) [(.int 1), (.int v1313)]) _
                refine XS.icmpYes X1306.here hx rfl (pc0 := 115) (pc' := 142) rfl (hb hby d16_115) rfl (feq hc1316).2 (by decide) (by decide) ?_
                show Sp p e below T1306 (mkF m 142 (lt37 x al1 v1256 v1299 v1256) []) _
                refine XS.aloadN X1306.here hx rfl (hb hby d16_142) rfl rfl ?_
                show Sp p e below T1306 (mkF m 143 (lt37 x al1 v1256 v1299 v1256) [(.ref x)]) _
                refine st1346 _ ?_
                show Sp p e below T1346 (mkF m 146 (lt37 x al1 v1256 v1299 v1256) [(.ref (A 1))]) _
                refine XS.iloadN X1346.here hx rfl (hb hby d16_146) rfl ?_
                show Sp p e below T1346 (mkF m 147 (lt37 x al1 v1256 v1299 v1256) [(.int v1299), (.ref (A 1))]) _
                refine XT.dup2 X1346.here hx rfl (hb hby d16_147) rfl rfl rfl ?_
                show Sp p e below T1346 (mkF m 148 (lt37 x al1 v1256 v1299 v1256) [(.int v1299), (.ref (A 1)), (.int v1299), (.ref (A 1))]) _
                refine X1346.iaload hx (j := v1299) (v := (.int v1350)) (by rw [e1346]; exact Ar1349.1) (State.isArrayOf_alike hZ.alike At1349.2.1) At1349.2.2 hin1349 hat1349 (g := (mkF m 148 (lt37 x al1 v1256 v1299 v1256) [(.int v1299), (.ref (A 1)), (.int v1299), (.ref (A 1))])) rfl rfl (hb hby d16_148) _ ?_
                show Sp p e below T1346 (mkF m 149 (lt37 x al1 v1256 v1299 v1256) [(.int v1350), (.int v1299), (.ref (A 1))]) _
                refine XS.iconst X1346.here hx rfl (hb hby d16_149) ?_
                refine XS.iadd X1346.here hx rfl (hb hby d16_150) rfl ?_
                show Sp p e below T1346 (mkF m 151 (lt37 x al1 v1256 v1299 v1256) [(.int (v1350 + 1)), (.int v1299), (.ref (A 1))]) _
                refine st1353 _ ?_
                show Sp p e below T1353 (mkF m 152 (lt37 x al1 v1256 v1299 v1256) []) _
                refine XS.aloadN X1353.here hx rfl (hb hby d16_152) rfl rfl ?_
                show Sp p e below T1353 (mkF m 153 (lt37 x al1 v1256 v1299 v1256) [(.ref x)]) _
                refine st1355 _ ?_
                show Sp p e below T1355 (mkF m 156 (lt37 x al1 v1256 v1299 v1256) [(.ref (A 1))]) _
                refine XS.iload X1355.here hx rfl (hb hby d16_156) rfl ?_
                show Sp p e below T1355 (mkF m 158 (lt37 x al1 v1256 v1299 v1256) [(.int v1256), (.ref (A 1))]) _
                refine XT.dup2 X1355.here hx rfl (hb hby d16_158) rfl rfl rfl ?_
                show Sp p e below T1355 (mkF m 159 (lt37 x al1 v1256 v1299 v1256) [(.int v1256), (.ref (A 1)), (.int v1256), (.ref (A 1))]) _
                refine X1355.iaload hx (j := v1256) (v := (.int v1359)) (by rw [e1355]; exact Ar1358.1) (State.isArrayOf_alike hZ.alike At1358.2.1) At1358.2.2 hin1358 hat1358 (g := (mkF m 159 (lt37 x al1 v1256 v1299 v1256) [(.int v1256), (.ref (A 1)), (.int v1256), (.ref (A 1))])) rfl rfl (hb hby d16_159) _ ?_
                show Sp p e below T1355 (mkF m 160 (lt37 x al1 v1256 v1299 v1256) [(.int v1359), (.int v1256), (.ref (A 1))]) _
                refine XS.iconst X1355.here hx rfl (hb hby d16_160) ?_
                refine XS.iadd X1355.here hx rfl (hb hby d16_161) rfl ?_
                show Sp p e below T1355 (mkF m 162 (lt37 x al1 v1256 v1299 v1256) [(.int (v1359 + 1)), (.int v1256), (.ref (A 1))]) _
                refine st1362 _ ?_
                show Sp p e below T1362 (mkF m 163 (lt37 x al1 v1256 v1299 v1256) []) _
                refine XS.aloadN X1362.here hx rfl (hb hby d16_163) rfl rfl ?_
                show Sp p e below T1362 (mkF m 164 (lt37 x al1 v1256 v1299 v1256) [(.ref x)]) _
                refine st1364 _ ?_
                show Sp p e below T1364 (mkF m 167 (lt37 x al1 v1256 v1299 v1256) [(.ref S0)]) _
                refine XS.iloadN X1364.here hx rfl (hb hby d16_167) rfl ?_
                show Sp p e below T1364 (mkF m 168 (lt37 x al1 v1256 v1299 v1256) [(.int v1299), (.ref S0)]) _
                refine X1364.aaload hx (j := v1299) (v := .ref (A (14 + ix v1299))) (by rw [e1364]; exact Ar1365.1) (State.isArrayOf_alike hZ.alike Ar1365.2.1) rfl Ar1365.2.2 hin1365 hat1365 (g := (mkF m 168 (lt37 x al1 v1256 v1299 v1256) [(.int v1299), (.ref S0)])) rfl rfl (hb hby d16_168) _ ?_
                show Sp p e below T1364 (mkF m 169 (lt37 x al1 v1256 v1299 v1256) [(.ref (A (14 + ix v1299)))]) _
                refine XS.iload X1364.here hx rfl (hb hby d16_169) rfl ?_
                refine XS.iconst X1364.here hx rfl (hb hby d16_171) ?_
                show Sp p e below T1364 (mkF m 172 (lt37 x al1 v1256 v1299 v1256) [(.int 0), (.int v1256), (.ref (A (14 + ix v1299)))]) _
                refine st1367 _ ?_
                show Sp p e below T1367 (mkF m 173 (lt37 x al1 v1256 v1299 v1256) []) _
                refine XS.aloadN X1367.here hx rfl (hb hby d16_173) rfl rfl ?_
                show Sp p e below T1367 (mkF m 174 (lt37 x al1 v1256 v1299 v1256) [(.ref x)]) _
                refine st1369 _ ?_
                show Sp p e below T1369 (mkF m 177 (lt37 x al1 v1256 v1299 v1256) [(.ref S0)]) _
                refine XS.iload X1369.here hx rfl (hb hby d16_177) rfl ?_
                show Sp p e below T1369 (mkF m 179 (lt37 x al1 v1256 v1299 v1256) [(.int v1256), (.ref S0)]) _
                refine X1369.aaload hx (j := v1256) (v := .ref (A (14 + ix v1256))) (by rw [e1369]; exact Ar1370.1) (State.isArrayOf_alike hZ.alike Ar1370.2.1) rfl Ar1370.2.2 hin1370 hat1370 (g := (mkF m 179 (lt37 x al1 v1256 v1299 v1256) [(.int v1256), (.ref S0)])) rfl rfl (hb hby d16_179) _ ?_
                show Sp p e below T1369 (mkF m 180 (lt37 x al1 v1256 v1299 v1256) [(.ref (A (14 + ix v1256)))]) _
                refine XS.iloadN X1369.here hx rfl (hb hby d16_180) rfl ?_
                refine XS.iconst X1369.here hx rfl (hb hby d16_181) ?_
                show Sp p e below T1369 (mkF m 182 (lt37 x al1 v1256 v1299 v1256) [(.int 0), (.int v1299), (.ref (A (14 + ix v1256)))]) _
                refine st1372 _ ?_
                show Sp p e below T1372 (mkF m 183 (lt37 x al1 v1256 v1299 v1256) []) _
                refine XS.goto X1372.here hx rfl (pc0 := 183) (pc' := 0) rfl (hb hby d16_183) (by decide) (by decide) ?_
                show Sp p e below T1372 (mkF m 0 (lt37 x al1 v1256 v1299 v1256) []) _
                exact kt
              exact ih M1372 al1 (.val (.int v1256)) (.val (.int v1299)) (.val (.int v1256)) (Or.inr ⟨_, rfl, rfl⟩) (Or.inr ⟨_, rfl, rfl⟩) (Or.inr ⟨_, rfl, rfl⟩) T1372 _ _ X1372 e1372 O1372 N1372 B1372 hf1373 pre1374
        · rw [own_ltF hc1250] at hf1247
          obtain ⟨rfl, rfl⟩ := own_ret hf1247
          obtain ⟨fs, hr, hrun, hended, hW, hsame⟩ := X1248.leave (v := none) (fun _ => rfl) (BodyLoose.notSynchronized Bd)
          refine hno ⟨_, _, pre1249 _ ?_, hrun, hended, _, _, rfl, ?_, ⟨_, rfl⟩, hW, hsame.mono (by decide) (by decide)⟩
          · show Sp p e below T1248 (mkF m 5 (lt42 x al1 s2 s3 s4) [(.int al1), (.int v1246)]) _
            refine XS.icmpYes X1248.here hx rfl (pc0 := 5) (pc' := 186) rfl (hb hby d16_5) rfl (flt hc1250).2.2.2 (by decide) (by decide) ?_
            show Sp p e below T1248 (mkF m 186 (lt42 x al1 s2 s3 s4) []) _
            exact X1248.returnOut hx Bd.returns (hb hby d16_186) hr
          · show Q16 Z n0 ex x A K S0 nc _ _ _ T1248.heap _
            rw [e1248]
            exact ⟨rfl, N1, O1, B1⟩
  exact (lp 200) M p1 (.unset) (.unset) (.unset) (Or.inl rfl) (Or.inl rfl) (Or.inl rfl) s₁ _ _ X0 e0 O0 N0 B0 hf pre0
theorem pn_17 : plainName "com/example/onetree/onetree/EdgeStates" = true := by first | (simp [plainName, overriddenIn]; done) | decide +kernel
def f17 (nc : Nat) (M : MM) (p1 : Int32) (p2 : Int32) : Option (Int32 × MM) := gd (inr p1 nc) (gd (inr p2 nc) (nai (ld M (14 + ix p1) (ix p2)) fun v1445 => some ((nar .byte v1445), M)))
theorem ef_17 (m : MethodId) (x : Addr) (A : Nat → Addr) (p1 : Int32) (p2 : Int32) : entryFrame m #[(.ref x), (.int p1), (.int p2)] 3 = mkF m 0 #[.val (.ref x), .val (.int p1), .val (.int p2)] [] := by first | (simp [entryFrame, mkF, argsToLocals, Value.category]; done) | rfl
def Q17 (Z : State) (n0 : Nat) (ex : Bool) (x : Addr) (A : Nat → Addr) (K : Nat → ClassId) (S0 : Addr) (nc : Nat) (rv : Int32) (M' : MM) (v : Option Value) (h : Heap) (L : List Loc) : Prop := v = some (.int rv) ∧ Fr n0 L ∧ Old Z n0 h ∧ EB Z n0 ex h x A K S0 nc M'
set_option maxRecDepth 65536 in
set_option maxHeartbeats 40000000 in
theorem rm17 (l : Launch) (Z : State) (a0 : Array Value) (hw : ∀ d ∈ tables_1, d.before a0 Z = true) (ws : List Jvm.Cond) (hSl : SlotsOK Z) (ex : Bool) (x : Addr) (A : Nat → Addr) (K : Nat → ClassId) (S0 : Addr) (nc : Nat) (M : MM) (p1 : Int32) (p2 : Int32) (rv : Int32) (M' : MM) (h0 : Heap) (n0 : Nat) (O0 : Old Z n0 h0) (B0 : EB Z n0 ex h0 x A K S0 nc M) (hf : f17 nc M p1 p2 = some (rv, M')) :
    MetFree l Y69 (head1 (Jvm.Cond.code Y69 prog_7_method_4_code 3 (some .byte) :: ws) ({ frames := 0, cells := 0, slots := 0, locals := 0 } : Room)) (fun a U => a = #[(.ref x), (.int p1), (.int p2)] ∧ Z.Warmed39 U.vm ∧ U.heap = h0) (fun _ _ _ _ _ => True) (fun _ U o U' => ∃ v L, o = .returned v ∧ Q17 Z n0 ex x A K S0 nc rv M' v U'.heap L ∧ FrameEnd U o U' L ({ frames := 0, cells := 0, slots := 0, locals := 0 } : Room).cells ({ frames := 0, cells := 0, slots := 0, locals := 0 } : Room).slots) := by
  refine MetFree.of_bodySF (plainFor_of_name pn_17) hisR ?_
  intro p e s m args below meth c s₁ Bd hml0 hP hK
  obtain ⟨rfl, hZ, hh⟩ := hP
  have hx := Bd.exec
  have hby := Bd.bytes
  have hml : c.maxLocals = 3 := hml0
  have hown : s.vm.findClass "com/example/onetree/onetree/EdgeStates" = some m.cls := findClass_of_methodNamed Bd.named
  have X0 : Stand p l e ({ frames := 0, cells := 0, slots := 0, locals := 0 } : Room) s m #[(.ref x), (.int p1), (.int p2)] below meth c s₁ [] 0 0 := Stand.of_body Bd
  have e0 : s₁.heap = h0 := by rw [← hh, Bd.state]; rfl
  have N0 := Fr.nil n0
  have pre0 : ∀ t, Steps p.tables e below (s₁.setTop (mkF m 0 #[.val (.ref x), .val (.int p1), .val (.int p2)] [])) t → Steps p.tables e below (s₁.setTop (entryFrame m #[(.ref x), (.int p1), (.int p2)] 3)) t := fun t k => castTop (ef_17 m x A p1 p2) k
  generalize hE0 : s₁.setTop (entryFrame m #[(.ref x), (.int p1), (.int p2)] 3) = E0 at pre0 ⊢
  apply Classical.byContradiction
  intro hno
  unfold f17 at hf
  obtain ⟨T1438, X1438, e1438, st1438⟩ := getF X0 hx hZ hown (host := "") (Or.inl (hw _ (tk 22 rfl))) Via.refl e0 (B0.fld 1 rfl) (g := (mkF m 1 (lt26 x p1 p2) [(.ref x)])) rfl rfl (hb hby d17_1)
  obtain ⟨g1439, hf1440⟩ := own_gd hf
  clear hf
  obtain ⟨cl1441, Ar1441, hin1441, hat1441⟩ := B0.getS g1439
  obtain ⟨g1442, hf1443⟩ := own_gd hf1440
  clear hf1440
  obtain ⟨v1445, d_v1445, hf1446⟩ := own_nai hf1443
  clear hf1443
  obtain ⟨cl1444, Ar1444, hin1444, hat1444⟩ := B0.get (14 + ix p1) (B0.isS g1439) (own_gS g1442) d_v1445
  have At1444 := own_tyA Ar1444
  obtain ⟨rfl, rfl⟩ := own_ret hf1446
  obtain ⟨fs, hr, hrun, hended, hW, hsame⟩ := X1438.leave (v := some (.int (nar .byte v1445))) (fun h => by rw [Bd.returns] at h; cases h) (BodyLoose.notSynchronized Bd)
  refine hno ⟨_, _, pre0 _ ?_, hrun, hended, _, _, rfl, ?_, ⟨_, rfl⟩, hW, hsame.mono (by decide) (by decide)⟩
  · show Sp p e below s₁ (mkF m 0 (lt26 x p1 p2) []) _
    refine XS.aloadN X0.here hx rfl (hb hby d17_0) rfl rfl ?_
    show Sp p e below s₁ (mkF m 1 (lt26 x p1 p2) [(.ref x)]) _
    refine st1438 _ ?_
    show Sp p e below T1438 (mkF m 4 (lt26 x p1 p2) [(.ref S0)]) _
    refine XS.iloadN X1438.here hx rfl (hb hby d17_4) rfl ?_
    show Sp p e below T1438 (mkF m 5 (lt26 x p1 p2) [(.int p1), (.ref S0)]) _
    refine X1438.aaload hx (j := p1) (v := .ref (A (14 + ix p1))) (by rw [e1438]; exact Ar1441.1) (State.isArrayOf_alike hZ.alike Ar1441.2.1) rfl Ar1441.2.2 hin1441 hat1441 (g := (mkF m 5 (lt26 x p1 p2) [(.int p1), (.ref S0)])) rfl rfl (hb hby d17_5) _ ?_
    show Sp p e below T1438 (mkF m 6 (lt26 x p1 p2) [(.ref (A (14 + ix p1)))]) _
    refine XS.iloadN X1438.here hx rfl (hb hby d17_6) rfl ?_
    show Sp p e below T1438 (mkF m 7 (lt26 x p1 p2) [(.int p2), (.ref (A (14 + ix p1)))]) _
    refine X1438.baloadBytes hx (j := p2) (v := (.int v1445)) (by rw [e1438]; exact Ar1444.1) (State.isArrayOf_alike hZ.alike At1444.2.1) At1444.2.2 hin1444 hat1444 (g := (mkF m 7 (lt26 x p1 p2) [(.int p2), (.ref (A (14 + ix p1)))])) rfl rfl (hb hby d17_7) _ ?_
    show Sp p e below T1438 (mkF m 8 (lt26 x p1 p2) [(.int v1445)]) _
    exact retN X1438 hx (t := .byte) Bd.returns (by simp) (hb hby d17_8) hr
  · show Q17 Z n0 ex x A K S0 nc _ _ _ T1438.heap _
    rw [e1438]
    exact ⟨rfl, N0, O0, B0⟩
theorem pn_18 : plainName "com/example/onetree/onetree/EdgeStates" = true := by first | (simp [plainName, overriddenIn]; done) | decide +kernel
def f18 (nc : Nat) (M : MM) (p1 : Int32) : Option (Int32 × MM) := gd (inr p1 (lnR nc 1)) (nai (ld M 1 (ix p1)) fun v1455 => some (v1455, M))
theorem ef_18 (m : MethodId) (x : Addr) (A : Nat → Addr) (p1 : Int32) : entryFrame m #[(.ref x), (.int p1)] 2 = mkF m 0 #[.val (.ref x), .val (.int p1)] [] := by first | (simp [entryFrame, mkF, argsToLocals, Value.category]; done) | rfl
def Q18 (Z : State) (n0 : Nat) (ex : Bool) (x : Addr) (A : Nat → Addr) (K : Nat → ClassId) (S0 : Addr) (nc : Nat) (rv : Int32) (M' : MM) (v : Option Value) (h : Heap) (L : List Loc) : Prop := v = some (.int rv) ∧ Fr n0 L ∧ Old Z n0 h ∧ EB Z n0 ex h x A K S0 nc M'
set_option maxRecDepth 65536 in
set_option maxHeartbeats 40000000 in
theorem rm18 (l : Launch) (Z : State) (a0 : Array Value) (hw : ∀ d ∈ tables_1, d.before a0 Z = true) (ws : List Jvm.Cond) (hSl : SlotsOK Z) (ex : Bool) (x : Addr) (A : Nat → Addr) (K : Nat → ClassId) (S0 : Addr) (nc : Nat) (M : MM) (p1 : Int32) (rv : Int32) (M' : MM) (h0 : Heap) (n0 : Nat) (O0 : Old Z n0 h0) (B0 : EB Z n0 ex h0 x A K S0 nc M) (hf : f18 nc M p1 = some (rv, M')) :
    MetFree l Y70 (head1 (Jvm.Cond.code Y70 prog_7_method_5_code 2 (some .int) :: ws) ({ frames := 0, cells := 0, slots := 0, locals := 0 } : Room)) (fun a U => a = #[(.ref x), (.int p1)] ∧ Z.Warmed39 U.vm ∧ U.heap = h0) (fun _ _ _ _ _ => True) (fun _ U o U' => ∃ v L, o = .returned v ∧ Q18 Z n0 ex x A K S0 nc rv M' v U'.heap L ∧ FrameEnd U o U' L ({ frames := 0, cells := 0, slots := 0, locals := 0 } : Room).cells ({ frames := 0, cells := 0, slots := 0, locals := 0 } : Room).slots) := by
  refine MetFree.of_bodySF (plainFor_of_name pn_18) hisR ?_
  intro p e s m args below meth c s₁ Bd hml0 hP hK
  obtain ⟨rfl, hZ, hh⟩ := hP
  have hx := Bd.exec
  have hby := Bd.bytes
  have hml : c.maxLocals = 2 := hml0
  have hown : s.vm.findClass "com/example/onetree/onetree/EdgeStates" = some m.cls := findClass_of_methodNamed Bd.named
  have X0 : Stand p l e ({ frames := 0, cells := 0, slots := 0, locals := 0 } : Room) s m #[(.ref x), (.int p1)] below meth c s₁ [] 0 0 := Stand.of_body Bd
  have e0 : s₁.heap = h0 := by rw [← hh, Bd.state]; rfl
  have N0 := Fr.nil n0
  have pre0 : ∀ t, Steps p.tables e below (s₁.setTop (mkF m 0 #[.val (.ref x), .val (.int p1)] [])) t → Steps p.tables e below (s₁.setTop (entryFrame m #[(.ref x), (.int p1)] 2)) t := fun t k => castTop (ef_18 m x A p1) k
  generalize hE0 : s₁.setTop (entryFrame m #[(.ref x), (.int p1)] 2) = E0 at pre0 ⊢
  apply Classical.byContradiction
  intro hno
  unfold f18 at hf
  obtain ⟨T1451, X1451, e1451, st1451⟩ := getF X0 hx hZ hown (host := "") (Or.inl (hw _ (tk 27 rfl))) Via.refl e0 (B0.fld 3 rfl) (g := (mkF m 1 (lt16 x p1) [(.ref x)])) rfl rfl (hb hby d18_1)
  obtain ⟨g1452, hf1453⟩ := own_gd hf
  clear hf
  obtain ⟨v1455, d_v1455, hf1456⟩ := own_nai hf1453
  clear hf1453
  obtain ⟨cl1454, Ar1454, hin1454, hat1454⟩ := B0.get 1 (Or.inl (by decide)) g1452 d_v1455
  have At1454 : Arr Z h0 (A 1) cl1454 .int := Ar1454
  obtain ⟨rfl, rfl⟩ := own_ret hf1456
  obtain ⟨fs, hr, hrun, hended, hW, hsame⟩ := X1451.leave (v := some (.int v1455)) (fun h => by rw [Bd.returns] at h; cases h) (BodyLoose.notSynchronized Bd)
  refine hno ⟨_, _, pre0 _ ?_, hrun, hended, _, _, rfl, ?_, ⟨_, rfl⟩, hW, hsame.mono (by decide) (by decide)⟩
  · show Sp p e below s₁ (mkF m 0 (lt16 x p1) []) _
    refine XS.aloadN X0.here hx rfl (hb hby d18_0) rfl rfl ?_
    show Sp p e below s₁ (mkF m 1 (lt16 x p1) [(.ref x)]) _
    refine st1451 _ ?_
    show Sp p e below T1451 (mkF m 4 (lt16 x p1) [(.ref (A 1))]) _
    refine XS.iloadN X1451.here hx rfl (hb hby d18_4) rfl ?_
    show Sp p e below T1451 (mkF m 5 (lt16 x p1) [(.int p1), (.ref (A 1))]) _
    refine X1451.iaload hx (j := p1) (v := (.int v1455)) (by rw [e1451]; exact Ar1454.1) (State.isArrayOf_alike hZ.alike At1454.2.1) At1454.2.2 hin1454 hat1454 (g := (mkF m 5 (lt16 x p1) [(.int p1), (.ref (A 1))])) rfl rfl (hb hby d18_5) _ ?_
    show Sp p e below T1451 (mkF m 6 (lt16 x p1) [(.int v1455)]) _
    exact retI X1451 hx Bd.returns (hb hby d18_6) hr
  · show Q18 Z n0 ex x A K S0 nc _ _ _ T1451.heap _
    rw [e1451]
    exact ⟨rfl, N0, O0, B0⟩
theorem pn_19 : plainName "com/example/onetree/onetree/EdgeStates" = true := by first | (simp [plainName, overriddenIn]; done) | decide +kernel
def f19 (nc : Nat) (M : MM) (p1 : Int32) : Option (Int32 × MM) := gd (inr p1 (lnR nc 0)) (nai (ld M 0 (ix p1)) fun v1465 => some (v1465, M))
theorem ef_19 (m : MethodId) (x : Addr) (A : Nat → Addr) (p1 : Int32) : entryFrame m #[(.ref x), (.int p1)] 2 = mkF m 0 #[.val (.ref x), .val (.int p1)] [] := by first | (simp [entryFrame, mkF, argsToLocals, Value.category]; done) | rfl
def Q19 (Z : State) (n0 : Nat) (ex : Bool) (x : Addr) (A : Nat → Addr) (K : Nat → ClassId) (S0 : Addr) (nc : Nat) (rv : Int32) (M' : MM) (v : Option Value) (h : Heap) (L : List Loc) : Prop := v = some (.int rv) ∧ Fr n0 L ∧ Old Z n0 h ∧ EB Z n0 ex h x A K S0 nc M'
set_option maxRecDepth 65536 in
set_option maxHeartbeats 40000000 in
theorem rm19 (l : Launch) (Z : State) (a0 : Array Value) (hw : ∀ d ∈ tables_1, d.before a0 Z = true) (ws : List Jvm.Cond) (hSl : SlotsOK Z) (ex : Bool) (x : Addr) (A : Nat → Addr) (K : Nat → ClassId) (S0 : Addr) (nc : Nat) (M : MM) (p1 : Int32) (rv : Int32) (M' : MM) (h0 : Heap) (n0 : Nat) (O0 : Old Z n0 h0) (B0 : EB Z n0 ex h0 x A K S0 nc M) (hf : f19 nc M p1 = some (rv, M')) :
    MetFree l Y71 (head1 (Jvm.Cond.code Y71 prog_7_method_9_code 2 (some .int) :: ws) ({ frames := 0, cells := 0, slots := 0, locals := 0 } : Room)) (fun a U => a = #[(.ref x), (.int p1)] ∧ Z.Warmed39 U.vm ∧ U.heap = h0) (fun _ _ _ _ _ => True) (fun _ U o U' => ∃ v L, o = .returned v ∧ Q19 Z n0 ex x A K S0 nc rv M' v U'.heap L ∧ FrameEnd U o U' L ({ frames := 0, cells := 0, slots := 0, locals := 0 } : Room).cells ({ frames := 0, cells := 0, slots := 0, locals := 0 } : Room).slots) := by
  refine MetFree.of_bodySF (plainFor_of_name pn_19) hisR ?_
  intro p e s m args below meth c s₁ Bd hml0 hP hK
  obtain ⟨rfl, hZ, hh⟩ := hP
  have hx := Bd.exec
  have hby := Bd.bytes
  have hml : c.maxLocals = 2 := hml0
  have hown : s.vm.findClass "com/example/onetree/onetree/EdgeStates" = some m.cls := findClass_of_methodNamed Bd.named
  have X0 : Stand p l e ({ frames := 0, cells := 0, slots := 0, locals := 0 } : Room) s m #[(.ref x), (.int p1)] below meth c s₁ [] 0 0 := Stand.of_body Bd
  have e0 : s₁.heap = h0 := by rw [← hh, Bd.state]; rfl
  have N0 := Fr.nil n0
  have pre0 : ∀ t, Steps p.tables e below (s₁.setTop (mkF m 0 #[.val (.ref x), .val (.int p1)] [])) t → Steps p.tables e below (s₁.setTop (entryFrame m #[(.ref x), (.int p1)] 2)) t := fun t k => castTop (ef_19 m x A p1) k
  generalize hE0 : s₁.setTop (entryFrame m #[(.ref x), (.int p1)] 2) = E0 at pre0 ⊢
  apply Classical.byContradiction
  intro hno
  unfold f19 at hf
  obtain ⟨T1461, X1461, e1461, st1461⟩ := getF X0 hx hZ hown (host := "") (Or.inl (hw _ (tk 25 rfl))) Via.refl e0 (B0.fld 2 rfl) (g := (mkF m 1 (lt16 x p1) [(.ref x)])) rfl rfl (hb hby d19_1)
  obtain ⟨g1462, hf1463⟩ := own_gd hf
  clear hf
  obtain ⟨v1465, d_v1465, hf1466⟩ := own_nai hf1463
  clear hf1463
  obtain ⟨cl1464, Ar1464, hin1464, hat1464⟩ := B0.get 0 (Or.inl (by decide)) g1462 d_v1465
  have At1464 : Arr Z h0 (A 0) cl1464 .int := Ar1464
  obtain ⟨rfl, rfl⟩ := own_ret hf1466
  obtain ⟨fs, hr, hrun, hended, hW, hsame⟩ := X1461.leave (v := some (.int v1465)) (fun h => by rw [Bd.returns] at h; cases h) (BodyLoose.notSynchronized Bd)
  refine hno ⟨_, _, pre0 _ ?_, hrun, hended, _, _, rfl, ?_, ⟨_, rfl⟩, hW, hsame.mono (by decide) (by decide)⟩
  · show Sp p e below s₁ (mkF m 0 (lt16 x p1) []) _
    refine XS.aloadN X0.here hx rfl (hb hby d19_0) rfl rfl ?_
    show Sp p e below s₁ (mkF m 1 (lt16 x p1) [(.ref x)]) _
    refine st1461 _ ?_
    show Sp p e below T1461 (mkF m 4 (lt16 x p1) [(.ref (A 0))]) _
    refine XS.iloadN X1461.here hx rfl (hb hby d19_4) rfl ?_
    show Sp p e below T1461 (mkF m 5 (lt16 x p1) [(.int p1), (.ref (A 0))]) _
    refine X1461.iaload hx (j := p1) (v := (.int v1465)) (by rw [e1461]; exact Ar1464.1) (State.isArrayOf_alike hZ.alike At1464.2.1) At1464.2.2 hin1464 hat1464 (g := (mkF m 5 (lt16 x p1) [(.int p1), (.ref (A 0))])) rfl rfl (hb hby d19_5) _ ?_
    show Sp p e below T1461 (mkF m 6 (lt16 x p1) [(.int v1465)]) _
    exact retI X1461 hx Bd.returns (hb hby d19_6) hr
  · show Q19 Z n0 ex x A K S0 nc _ _ _ T1461.heap _
    rw [e1461]
    exact ⟨rfl, N0, O0, B0⟩
theorem pn_20 : plainName "com/example/onetree/onetree/EdgeStates" = true := by first | (simp [plainName, overriddenIn]; done) | decide +kernel
def f20 (nc : Nat) (M : MM) (p1 : Int32) : Option (Int32 × MM) := gd (inr p1 (lnR nc 2)) (nai (ld M 2 (ix p1)) fun v1475 => some (v1475, M))
theorem ef_20 (m : MethodId) (x : Addr) (A : Nat → Addr) (p1 : Int32) : entryFrame m #[(.ref x), (.int p1)] 2 = mkF m 0 #[.val (.ref x), .val (.int p1)] [] := by first | (simp [entryFrame, mkF, argsToLocals, Value.category]; done) | rfl
def Q20 (Z : State) (n0 : Nat) (ex : Bool) (x : Addr) (A : Nat → Addr) (K : Nat → ClassId) (S0 : Addr) (nc : Nat) (rv : Int32) (M' : MM) (v : Option Value) (h : Heap) (L : List Loc) : Prop := v = some (.int rv) ∧ Fr n0 L ∧ Old Z n0 h ∧ EB Z n0 ex h x A K S0 nc M'
set_option maxRecDepth 65536 in
set_option maxHeartbeats 40000000 in
theorem rm20 (l : Launch) (Z : State) (a0 : Array Value) (hw : ∀ d ∈ tables_1, d.before a0 Z = true) (ws : List Jvm.Cond) (hSl : SlotsOK Z) (ex : Bool) (x : Addr) (A : Nat → Addr) (K : Nat → ClassId) (S0 : Addr) (nc : Nat) (M : MM) (p1 : Int32) (rv : Int32) (M' : MM) (h0 : Heap) (n0 : Nat) (O0 : Old Z n0 h0) (B0 : EB Z n0 ex h0 x A K S0 nc M) (hf : f20 nc M p1 = some (rv, M')) :
    MetFree l Y72 (head1 (Jvm.Cond.code Y72 prog_7_method_10_code 2 (some .int) :: ws) ({ frames := 0, cells := 0, slots := 0, locals := 0 } : Room)) (fun a U => a = #[(.ref x), (.int p1)] ∧ Z.Warmed39 U.vm ∧ U.heap = h0) (fun _ _ _ _ _ => True) (fun _ U o U' => ∃ v L, o = .returned v ∧ Q20 Z n0 ex x A K S0 nc rv M' v U'.heap L ∧ FrameEnd U o U' L ({ frames := 0, cells := 0, slots := 0, locals := 0 } : Room).cells ({ frames := 0, cells := 0, slots := 0, locals := 0 } : Room).slots) := by
  refine MetFree.of_bodySF (plainFor_of_name pn_20) hisR ?_
  intro p e s m args below meth c s₁ Bd hml0 hP hK
  obtain ⟨rfl, hZ, hh⟩ := hP
  have hx := Bd.exec
  have hby := Bd.bytes
  have hml : c.maxLocals = 2 := hml0
  have hown : s.vm.findClass "com/example/onetree/onetree/EdgeStates" = some m.cls := findClass_of_methodNamed Bd.named
  have X0 : Stand p l e ({ frames := 0, cells := 0, slots := 0, locals := 0 } : Room) s m #[(.ref x), (.int p1)] below meth c s₁ [] 0 0 := Stand.of_body Bd
  have e0 : s₁.heap = h0 := by rw [← hh, Bd.state]; rfl
  have N0 := Fr.nil n0
  have pre0 : ∀ t, Steps p.tables e below (s₁.setTop (mkF m 0 #[.val (.ref x), .val (.int p1)] [])) t → Steps p.tables e below (s₁.setTop (entryFrame m #[(.ref x), (.int p1)] 2)) t := fun t k => castTop (ef_20 m x A p1) k
  generalize hE0 : s₁.setTop (entryFrame m #[(.ref x), (.int p1)] 2) = E0 at pre0 ⊢
  apply Classical.byContradiction
  intro hno
  unfold f20 at hf
  obtain ⟨T1471, X1471, e1471, st1471⟩ := getF X0 hx hZ hown (host := "") (Or.inl (hw _ (tk 40 rfl))) Via.refl e0 (B0.fld 4 rfl) (g := (mkF m 1 (lt16 x p1) [(.ref x)])) rfl rfl (hb hby d20_1)
  obtain ⟨g1472, hf1473⟩ := own_gd hf
  clear hf
  obtain ⟨v1475, d_v1475, hf1476⟩ := own_nai hf1473
  clear hf1473
  obtain ⟨cl1474, Ar1474, hin1474, hat1474⟩ := B0.get 2 (Or.inl (by decide)) g1472 d_v1475
  have At1474 : Arr Z h0 (A 2) cl1474 .int := Ar1474
  obtain ⟨rfl, rfl⟩ := own_ret hf1476
  obtain ⟨fs, hr, hrun, hended, hW, hsame⟩ := X1471.leave (v := some (.int v1475)) (fun h => by rw [Bd.returns] at h; cases h) (BodyLoose.notSynchronized Bd)
  refine hno ⟨_, _, pre0 _ ?_, hrun, hended, _, _, rfl, ?_, ⟨_, rfl⟩, hW, hsame.mono (by decide) (by decide)⟩
  · show Sp p e below s₁ (mkF m 0 (lt16 x p1) []) _
    refine XS.aloadN X0.here hx rfl (hb hby d20_0) rfl rfl ?_
    show Sp p e below s₁ (mkF m 1 (lt16 x p1) [(.ref x)]) _
    refine st1471 _ ?_
    show Sp p e below T1471 (mkF m 4 (lt16 x p1) [(.ref (A 2))]) _
    refine XS.iloadN X1471.here hx rfl (hb hby d20_4) rfl ?_
    show Sp p e below T1471 (mkF m 5 (lt16 x p1) [(.int p1), (.ref (A 2))]) _
    refine X1471.iaload hx (j := p1) (v := (.int v1475)) (by rw [e1471]; exact Ar1474.1) (State.isArrayOf_alike hZ.alike At1474.2.1) At1474.2.2 hin1474 hat1474 (g := (mkF m 5 (lt16 x p1) [(.int p1), (.ref (A 2))])) rfl rfl (hb hby d20_5) _ ?_
    show Sp p e below T1471 (mkF m 6 (lt16 x p1) [(.int v1475)]) _
    exact retI X1471 hx Bd.returns (hb hby d20_6) hr
  · show Q20 Z n0 ex x A K S0 nc _ _ _ T1471.heap _
    rw [e1471]
    exact ⟨rfl, N0, O0, B0⟩
def f0_444 (p0 : Int32) (p1 : Int32) (p2 : Int32) (p3 : Int32) (p4 : Int32) (p5 : Int32) (nc : Nat) (M : MM) (al13 : Int32) (al14 : Int32) (al19 : Int32) (al22 : Int32) (al23 : Int32) (al24 : Int32) (al25 : Int32) : Option (Int32 × MM) := bnd (f13 nc M) fun v1434 M1434 => cnd (eqB v1434 al19) (bnd (f17 nc M1434 al13 al14) fun v1447 M1447 => cnd (eqB v1447 al22) (bnd (f18 nc M1447 al13) fun v1457 M1457 => cnd (eqB v1457 al23) (bnd (f19 nc M1457 al13) fun v1467 M1467 => cnd (eqB v1467 al24) (bnd (f20 nc M1467 al13) fun v1477 M1477 => cnd (eqB v1477 al25) (some ((1 : Int32), M1477)) (some (0, M1477))) (some (0, M1467))) (some (0, M1457))) (some (0, M1447))) (some (0, M1434))
def f0_406 (p0 : Int32) (p1 : Int32) (p2 : Int32) (p3 : Int32) (p4 : Int32) (p5 : Int32) (nc : Nat) (M : MM) (al7 : Int32) (al8 : Int32) (al13 : Int32) (al14 : Int32) (al15 : Int32) (al19 : Int32) (al22 : Int32) (al23 : Int32) (al24 : Int32) : Option (Int32 × MM) := cnd (eqB al15 (0 : Int32)) (f0_444 p0 p1 p2 p3 p4 p5 nc M al13 al14 al19 al22 al23 al24 al13) (cnd (eqB al13 al7) (f0_444 p0 p1 p2 p3 p4 p5 nc M al13 al14 al19 al22 al23 al24 al8) (cnd (eqB al13 al8) (f0_444 p0 p1 p2 p3 p4 p5 nc M al13 al14 al19 al22 al23 al24 al7) (f0_444 p0 p1 p2 p3 p4 p5 nc M al13 al14 al19 al22 al23 al24 al13)))
def f0_389 (p0 : Int32) (p1 : Int32) (p2 : Int32) (p3 : Int32) (p4 : Int32) (p5 : Int32) (nc : Nat) (M : MM) (al7 : Int32) (al8 : Int32) (al13 : Int32) (al14 : Int32) (al15 : Int32) (al19 : Int32) (al20 : Int32) (al22 : Int32) (al23 : Int32) : Option (Int32 × MM) := cnd (eqB al15 (0 : Int32)) (f0_406 p0 p1 p2 p3 p4 p5 nc M al7 al8 al13 al14 al15 al19 al22 al23 (0 : Int32)) (cnd (eqB al20 (0 : Int32)) (f0_406 p0 p1 p2 p3 p4 p5 nc M al7 al8 al13 al14 al15 al19 al22 al23 (0 : Int32)) (f0_406 p0 p1 p2 p3 p4 p5 nc M al7 al8 al13 al14 al15 al19 al22 al23 (1 : Int32)))
def f0_366 (p0 : Int32) (p1 : Int32) (p2 : Int32) (p3 : Int32) (p4 : Int32) (p5 : Int32) (nc : Nat) (M : MM) (al6 : Int32) (al7 : Int32) (al8 : Int32) (al13 : Int32) (al14 : Int32) (al15 : Int32) (al19 : Int32) (al20 : Int32) (al22 : Int32) : Option (Int32 × MM) := cnd (eqB al15 (0 : Int32)) (cnd (eqB al20 (0 : Int32)) (f0_389 p0 p1 p2 p3 p4 p5 nc M al7 al8 al13 al14 al15 al19 al20 al22 (al6 - (1 : Int32))) (f0_389 p0 p1 p2 p3 p4 p5 nc M al7 al8 al13 al14 al15 al19 al20 al22 (al6 - (2 : Int32)))) (f0_389 p0 p1 p2 p3 p4 p5 nc M al7 al8 al13 al14 al15 al19 al20 al22 (al6 - (1 : Int32)))
def f0_345 (p0 : Int32) (p1 : Int32) (p2 : Int32) (p3 : Int32) (p4 : Int32) (p5 : Int32) (nc : Nat) (M : MM) (al6 : Int32) (al7 : Int32) (al8 : Int32) (al13 : Int32) (al14 : Int32) (al15 : Int32) (al19 : Int32) (al20 : Int32) (al21 : Int32) : Option (Int32 × MM) := cnd (eqB al21 (0 : Int32)) (f0_366 p0 p1 p2 p3 p4 p5 nc M al6 al7 al8 al13 al14 al15 al19 al20 (0 : Int32)) (cnd (eqB al15 (0 : Int32)) (f0_366 p0 p1 p2 p3 p4 p5 nc M al6 al7 al8 al13 al14 al15 al19 al20 (2 : Int32)) (f0_366 p0 p1 p2 p3 p4 p5 nc M al6 al7 al8 al13 al14 al15 al19 al20 (1 : Int32)))
def f0_310 (p0 : Int32) (p1 : Int32) (p2 : Int32) (p3 : Int32) (p4 : Int32) (p5 : Int32) (nc : Nat) (M : MM) (al6 : Int32) (al7 : Int32) (al8 : Int32) (al13 : Int32) (al14 : Int32) (al15 : Int32) (al19 : Int32) (al20 : Int32) : Option (Int32 × MM) := cnd (eqB al13 al7) (cnd (eqB al14 al8) (f0_345 p0 p1 p2 p3 p4 p5 nc M al6 al7 al8 al13 al14 al15 al19 al20 (1 : Int32)) (cnd (eqB al13 al8) (cnd (eqB al14 al7) (f0_345 p0 p1 p2 p3 p4 p5 nc M al6 al7 al8 al13 al14 al15 al19 al20 (1 : Int32)) (f0_345 p0 p1 p2 p3 p4 p5 nc M al6 al7 al8 al13 al14 al15 al19 al20 (0 : Int32))) (f0_345 p0 p1 p2 p3 p4 p5 nc M al6 al7 al8 al13 al14 al15 al19 al20 (0 : Int32)))) (cnd (eqB al13 al8) (cnd (eqB al14 al7) (f0_345 p0 p1 p2 p3 p4 p5 nc M al6 al7 al8 al13 al14 al15 al19 al20 (1 : Int32)) (f0_345 p0 p1 p2 p3 p4 p5 nc M al6 al7 al8 al13 al14 al15 al19 al20 (0 : Int32))) (f0_345 p0 p1 p2 p3 p4 p5 nc M al6 al7 al8 al13 al14 al15 al19 al20 (0 : Int32)))
def f0_282 (p0 : Int32) (p1 : Int32) (p2 : Int32) (p3 : Int32) (p4 : Int32) (p5 : Int32) (nc : Nat) (M : MM) (al6 : Int32) (al7 : Int32) (al8 : Int32) (al13 : Int32) (al14 : Int32) (al15 : Int32) (al19 : Int32) : Option (Int32 × MM) := bnd (f16 nc M al19) fun v1375 M1375 => cnd (eqB al13 al7) (f0_310 p0 p1 p2 p3 p4 p5 nc M1375 al6 al7 al8 al13 al14 al15 al19 (1 : Int32)) (cnd (eqB al13 al8) (f0_310 p0 p1 p2 p3 p4 p5 nc M1375 al6 al7 al8 al13 al14 al15 al19 (1 : Int32)) (f0_310 p0 p1 p2 p3 p4 p5 nc M1375 al6 al7 al8 al13 al14 al15 al19 (0 : Int32)))
def f0_254 (p0 : Int32) (p1 : Int32) (p2 : Int32) (p3 : Int32) (p4 : Int32) (p5 : Int32) (nc : Nat) (M : MM) (al6 : Int32) (al7 : Int32) (al8 : Int32) (al11 : Int32) (al12 : Int32) (al13 : Int32) (al14 : Int32) (al15 : Int32) (al17 : Int32) (al19 : Int32) : Option (Int32 × MM) := cnd (eqB al17 (0 : Int32)) (bnd (f15 nc M al11 al12) fun v1240 M1240 => f0_282 p0 p1 p2 p3 p4 p5 nc M1240 al6 al7 al8 al13 al14 al15 al19) (bnd (f6 nc M al11 al12) fun v1243 M1243 => f0_282 p0 p1 p2 p3 p4 p5 nc M1243 al6 al7 al8 al13 al14 al15 al19)
def f0_219 (p0 : Int32) (p1 : Int32) (p2 : Int32) (p3 : Int32) (p4 : Int32) (p5 : Int32) (nc : Nat) (M : MM) (al6 : Int32) (al7 : Int32) (al8 : Int32) (al9 : Int32) (al10 : Int32) (al11 : Int32) (al12 : Int32) (al13 : Int32) (al14 : Int32) (al15 : Int32) (al16 : Int32) (al17 : Int32) : Option (Int32 × MM) := bnd (f13 nc M) fun v1228 M1228 => cnd (eqB al16 (0 : Int32)) (bnd (f15 nc M1228 al9 al10) fun v1232 M1232 => f0_254 p0 p1 p2 p3 p4 p5 nc M1232 al6 al7 al8 al11 al12 al13 al14 al15 al17 v1228) (bnd (f6 nc M1228 al9 al10) fun v1235 M1235 => f0_254 p0 p1 p2 p3 p4 p5 nc M1235 al6 al7 al8 al11 al12 al13 al14 al15 al17 v1228)
def f0_191 (p0 : Int32) (p1 : Int32) (p2 : Int32) (p3 : Int32) (p4 : Int32) (p5 : Int32) (nc : Nat) (M : MM) (al6 : Int32) (al7 : Int32) (al8 : Int32) (al9 : Int32) (al10 : Int32) (al11 : Int32) (al12 : Int32) (al13 : Int32) (al14 : Int32) (al15 : Int32) (al16 : Int32) (al17 : Int32) : Option (Int32 × MM) := cnd (eqB al15 (0 : Int32)) (bnd (f15 nc M al7 al8) fun v1211 M1211 => f0_219 p0 p1 p2 p3 p4 p5 nc M1211 al6 al7 al8 al9 al10 al11 al12 al13 al14 al15 al16 al17) (bnd (f6 nc M al7 al8) fun v1222 M1222 => f0_219 p0 p1 p2 p3 p4 p5 nc M1222 al6 al7 al8 al9 al10 al11 al12 al13 al14 al15 al16 al17)
def f0_180 (p0 : Int32) (p1 : Int32) (p2 : Int32) (p3 : Int32) (p4 : Int32) (p5 : Int32) (al6 : Int32) (al7 : Int32) (al8 : Int32) (al9 : Int32) (al10 : Int32) (al11 : Int32) (al12 : Int32) (al13 : Int32) (al14 : Int32) (al15 : Int32) (al16 : Int32) (al17 : Int32) : Option (Int32 × MM) := cnd (eqB al6 (5 : Int32)) (f0_191 p0 p1 p2 p3 p4 p5 5 M0_5 (5 : Int32) al7 al8 al9 al10 al11 al12 al13 al14 al15 al16 al17) (cnd (eqB al6 (6 : Int32)) (f0_191 p0 p1 p2 p3 p4 p5 6 M0_6 (6 : Int32) al7 al8 al9 al10 al11 al12 al13 al14 al15 al16 al17) (none))
def f0_166 (p0 : Int32) (p1 : Int32) (p2 : Int32) (p3 : Int32) (p4 : Int32) (p5 : Int32) (al6 : Int32) (al7 : Int32) (al8 : Int32) (al9 : Int32) (al10 : Int32) (al11 : Int32) (al12 : Int32) (al13 : Int32) (al14 : Int32) (al15 : Int32) (al16 : Int32) : Option (Int32 × MM) := cnd (eqB (p5 &&& (4 : Int32)) (0 : Int32)) (f0_180 p0 p1 p2 p3 p4 p5 al6 al7 al8 al9 al10 al11 al12 al13 al14 al15 al16 (0 : Int32)) (f0_180 p0 p1 p2 p3 p4 p5 al6 al7 al8 al9 al10 al11 al12 al13 al14 al15 al16 (1 : Int32))
def f0_152 (p0 : Int32) (p1 : Int32) (p2 : Int32) (p3 : Int32) (p4 : Int32) (p5 : Int32) (al6 : Int32) (al7 : Int32) (al8 : Int32) (al9 : Int32) (al10 : Int32) (al11 : Int32) (al12 : Int32) (al13 : Int32) (al14 : Int32) (al15 : Int32) : Option (Int32 × MM) := cnd (eqB (p5 &&& (2 : Int32)) (0 : Int32)) (f0_166 p0 p1 p2 p3 p4 p5 al6 al7 al8 al9 al10 al11 al12 al13 al14 al15 (0 : Int32)) (f0_166 p0 p1 p2 p3 p4 p5 al6 al7 al8 al9 al10 al11 al12 al13 al14 al15 (1 : Int32))
def f0 (p0 : Int32) (p1 : Int32) (p2 : Int32) (p3 : Int32) (p4 : Int32) (p5 : Int32) : Option (Int32 × MM) := nai (((5 : Int32) + (((p5.toUInt32 >>> ((3 : Int32) &&& 31).toUInt32).toInt32) &&& (1 : Int32)))) fun v2 => gd (nzB v2) (nai (((p0 &&& (2147483647 : Int32)) % v2)) fun v8 => gd (nzB (v2 - (1 : Int32))) (nai ((((v8 + (1 : Int32)) + ((p1 &&& (2147483647 : Int32)) % (v2 - (1 : Int32)))) % v2)) fun v14 => nai (((p2 &&& (2147483647 : Int32)) % v2)) fun v18 => nai ((((v18 + (1 : Int32)) + ((p3 &&& (2147483647 : Int32)) % (v2 - (1 : Int32)))) % v2)) fun v22 => nai (((p4 &&& (32767 : Int32)) % v2)) fun v26 => nai ((((v26 + (1 : Int32)) + ((((p4.toUInt32 >>> ((16 : Int32) &&& 31).toUInt32).toInt32) &&& (32767 : Int32)) % (v2 - (1 : Int32)))) % v2)) fun v30 => nai (((((p5.toUInt32 >>> ((4 : Int32) &&& 31).toUInt32).toInt32) &&& (255 : Int32)) % v2)) fun v34 => nai ((((v34 + (1 : Int32)) + ((((p5.toUInt32 >>> ((12 : Int32) &&& 31).toUInt32).toInt32) &&& (255 : Int32)) % (v2 - (1 : Int32)))) % v2)) fun v38 => cnd (eqB (p5 &&& (1 : Int32)) (0 : Int32)) (f0_152 p0 p1 p2 p3 p4 p5 v2 v8 v14 v18 v22 v26 v30 v34 v38 (0 : Int32)) (f0_152 p0 p1 p2 p3 p4 p5 v2 v8 v14 v18 v22 v26 v30 v34 v38 (1 : Int32))))
/-! own plain part: the numbers -/
abbrev c32 (n : Nat) : Int32 := Int32.ofNat n
theorem ix_c32 {n : Nat} (h : n < 4294967296) : ix (c32 n) = n := by
  show (BitVec.ofNat 32 n).toNat = n
  rw [BitVec.toNat_ofNat]; omega
theorem c32_inj {a b : Nat} (ha : a < 4294967296) (hb : b < 4294967296) (h : c32 a = c32 b) : a = b := by
  have := congrArg ix h; rwa [ix_c32 ha, ix_c32 hb] at this
theorem c32_add (a b : Nat) : c32 a + c32 b = c32 (a + b) := (Int32.ofNat_add a b).symm
theorem c32_succ (a : Nat) : c32 a + 1 = c32 (a + 1) := c32_add a 1
theorem c32_sub {a b : Nat} (h : b ≤ a) : c32 a - c32 b = c32 (a - b) := (Int32.ofNat_sub a b h).symm
theorem inr_c32 {a m : Nat} (h : a < m) (hm : m < 4294967296) : inr (c32 a) m = true := by
  show Nat.blt (c32 a).toBitVec.toNat m = true
  rw [show (c32 a).toBitVec.toNat = a from ix_c32 (by omega)]
  exact Nat.ble_eq_true_of_le h
theorem toInt_c32 {a : Nat} (h : a < 2147483648) : (c32 a).toInt = a := Int32.toInt_ofNat_of_lt h
theorem c32_lt {a b : Nat} (ha : a < 2147483648) (hb : b < 2147483648) : c32 a < c32 b ↔ a < b := by
  rw [Int32.lt_iff_toInt_lt, toInt_c32 ha, toInt_c32 hb]; omega
theorem cnd_T {α : Type} {b : Bool} {o u : Option α} (h : b = true) : cnd b o u = o := by rw [h]; rfl
theorem cnd_F {α : Type} {b : Bool} {o u : Option α} (h : b = false) : cnd b o u = u := by rw [h]; rfl
theorem gd_T {α : Type} {b : Bool} {o : Option α} (h : b = true) : gd b o = o := by rw [h]; rfl
theorem c32_rem {a n : Nat} (ha : a < 2147483648) (hn : n < 2147483648) : c32 a % c32 n = c32 (a % n) := by
  apply Int32.toInt_inj.mp
  rw [Int32.toInt_mod, toInt_c32 ha, toInt_c32 hn, toInt_c32 (Nat.lt_of_le_of_lt (Nat.mod_le a n) ha)]
  exact (Int.ofNat_tmod a n).symm ▸ rfl
/-! the rows -/
def Wf (n : Nat) (M : MM) : Prop := M.length = 14 + n ∧ (∀ r, r < 9 → (M.getD r []).length = lnR n r) ∧ (∀ r, 9 ≤ r → r < 13 → (M.getD r []).length = 1) ∧ ∀ a, a < n → (M.getD (14 + a) []).length = n
def okI (n r j : Nat) : Prop := (r < 9 ∧ j < lnR n r) ∨ (9 ≤ r ∧ r < 13 ∧ j = 0) ∨ (14 ≤ r ∧ r < 14 + n ∧ j < n)
def upd (g : Nat → Nat → Int32) (r j : Nat) (v : Int32) : Nat → Nat → Int32 := fun r' j' => if r' = r ∧ j' = j then v else g r' j'
theorem Wf.len {n r j : Nat} {M : MM} (W : Wf n M) (h : okI n r j) : r < M.length ∧ j < (M.getD r []).length := by
  obtain ⟨w1, w2, w3, w4⟩ := W
  rcases h with ⟨h1, h2⟩ | ⟨h1, h2, h3⟩ | ⟨h1, h2, h3⟩
  · exact ⟨by omega, by rw [w2 r h1]; exact h2⟩
  · exact ⟨by omega, by rw [w3 r h1 h2]; omega⟩
  · have := w4 (r - 14) (by omega)
    rw [show 14 + (r - 14) = r by omega] at this
    exact ⟨by omega, by omega⟩
theorem view_sto {n r j : Nat} {M : MM} {v : Int32} (W : Wf n M) (h : okI n r j) : ld (sto M r j v) = upd (ld M) r j v := by
  obtain ⟨h1, h2⟩ := W.len h
  funext r' j'
  unfold upd
  rw [ld_eq, sto_eq, own_gset]
  by_cases e : r' = r
  · subst e
    rw [if_pos ⟨rfl, h1⟩, own_lset _ _ _ _ h2]
    by_cases e2 : j' = j
    · rw [if_pos e2, if_pos ⟨rfl, e2⟩]
    · rw [if_neg e2, if_neg (fun z => e2 z.2), ld_eq]
  · rw [if_neg (fun z => e z.1), if_neg (fun z => e z.1), ld_eq]
theorem Wf_sto {n r j : Nat} {M : MM} {v : Int32} (W : Wf n M) : Wf n (sto M r j v) := by
  obtain ⟨w1, w2, w3, w4⟩ := W
  have key : ∀ s, ((sto M r j v).getD s []).length = (M.getD s []).length := fun s => by
    rw [sto_eq, own_gset]
    split
    · rename_i e; rw [e.1, List.length_set]
    · rfl
  refine ⟨by rw [sto_eq, List.length_set]; exact w1, fun s hs => by rw [key]; exact w2 s hs, fun s h1 h2 => by rw [key]; exact w3 s h1 h2, fun a ha => by rw [key]; exact w4 a ha⟩
theorem upd_same (g : Nat → Nat → Int32) (r j : Nat) (v : Int32) : upd g r j v r j = v := if_pos ⟨rfl, rfl⟩
theorem upd_row {g : Nat → Nat → Int32} {r j r' j' : Nat} {v : Int32} (h : r' ≠ r) : upd g r j v r' j' = g r' j' := if_neg fun z => h z.1
theorem upd_col {g : Nat → Nat → Int32} {r j r' j' : Nat} {v : Int32} (h : j' ≠ j) : upd g r j v r' j' = g r' j' := if_neg fun z => h z.2
/-! sums -/
def sm (f : Nat → Nat) : Nat → Nat
  | 0 => 0
  | n + 1 => sm f n + f n
theorem sm_congr {f f' : Nat → Nat} : ∀ n, (∀ i, i < n → f i = f' i) → sm f n = sm f' n
  | 0, _ => rfl
  | n + 1, h => by unfold sm; rw [sm_congr n fun i hi => h i (by omega), h n (by omega)]
theorem sm_upd {f f' : Nat → Nat} {a : Nat} : ∀ n, a < n → (∀ i, i < n → i ≠ a → f i = f' i) → sm f' n + f a = sm f n + f' a
  | 0, h, _ => absurd h (by omega)
  | n + 1, h, e => by
    unfold sm
    by_cases q : a = n
    · subst q
      rw [sm_congr a fun i hi => e i (by omega) (by omega)]; omega
    · have := sm_upd n (by omega) fun i hi hn => e i (by omega) hn
      rw [e n (by omega) (Ne.symm q)]; omega
theorem sm_le {f : Nat → Nat} {k : Nat} : ∀ n, (∀ i, i < n → f i ≤ k) → sm f n ≤ k * n
  | 0, _ => by simp [sm]
  | n + 1, h => by
    unfold sm
    have := sm_le n fun i hi => h i (by omega)
    have := h n (by omega)
    rw [Nat.mul_succ]; omega
theorem sm_ge {f : Nat → Nat} {k : Nat} : ∀ n, (∀ i, i < n → k ≤ f i) → k * n ≤ sm f n
  | 0, _ => by simp [sm]
  | n + 1, h => by
    unfold sm
    have := sm_ge n fun i hi => h i (by omega)
    have := h n (by omega)
    rw [Nat.mul_succ]; omega
theorem sm_one {f : Nat → Nat} {a : Nat} : ∀ n, a < n → f a ≤ sm f n
  | 0, h => absurd h (by omega)
  | n + 1, h => by
    unfold sm
    by_cases q : a = n
    · subst q; omega
    · have := sm_one (f := f) n (a := a) (by omega); omega
/-! the invariant -/
def F2 (n : Nat) (g : Nat → Nat → Int32) : Nat := sm (fun a => sm (fun b => if g (14 + a) b = 0 then 1 else 0) n) n
def SF (n : Nat) (g : Nat → Nat → Int32) : Nat := sm (fun c => ix (g 0 c)) n
theorem F2_congr {n : Nat} {g g' : Nat → Nat → Int32} (h : ∀ a b, a < n → g (14 + a) b = g' (14 + a) b) : F2 n g = F2 n g' :=
  sm_congr n fun a ha => sm_congr n fun b _ => by rw [h a b ha]
theorem SF_congr {n : Nat} {g g' : Nat → Nat → Int32} (h : ∀ c, g 0 c = g' 0 c) : SF n g = SF n g' := sm_congr n fun c _ => by rw [h c]
def InvE (n k k' : Nat) (g : Nat → Nat → Int32) (t q : Nat) : Prop :=
  g 9 0 = c32 t ∧ g 12 0 = c32 q ∧ (∃ p, p < n ∧ g 11 0 = c32 p) ∧ (∀ j, j < n → ∃ c, c < n ∧ g 4 j = c32 c) ∧ (∀ c, c < n → ∃ e, e < n ∧ g 2 c = c32 e) ∧ (∀ c, c < n → g 0 c = c32 0 ∨ g 0 c = c32 1 ∨ g 0 c = c32 2) ∧
  (∀ a b, a < n → b < n → g (14 + a) b = g (14 + b) a ∧ (a = b → g (14 + a) b = 0)) ∧ t + k' + F2 n g ≤ n * n + 3 * SF n g ∧ q + k + F2 n g ≤ n * n
def Path (n : Nat) (g : Nat → Nat → Int32) : Prop := (∀ c, c < n → g 0 c = c32 0 → g 2 c = c32 c) ∧ ∀ a b, a < n → b < n → a ≠ b → g 0 a ≠ c32 2 → g 0 b ≠ c32 2 → g 2 a ≠ g 2 b
/-- alike in what undo reads -/
def Agr (n t : Nat) (g g' : Nat → Nat → Int32) : Prop := (∀ r, r < 4 → ∀ j, g r j = g' r j) ∧ (∀ j, j < t → g 6 j = g' 6 j) ∧ ∀ a j, a < n → g (14 + a) j = g' (14 + a) j
theorem Agr.refl (n t : Nat) (g : Nat → Nat → Int32) : Agr n t g g := ⟨fun _ _ _ => rfl, fun _ _ => rfl, fun _ _ _ => rfl⟩
theorem Agr.trans {n t : Nat} {g g' g'' : Nat → Nat → Int32} (h : Agr n t g g') (h' : Agr n t g' g'') : Agr n t g g'' := ⟨fun r hr j => (h.1 r hr j).trans (h'.1 r hr j), fun j hj => (h.2.1 j hj).trans (h'.2.1 j hj), fun a j ha => (h.2.2 a j ha).trans (h'.2.2 a j ha)⟩
theorem Path.of {n t : Nat} {g g' : Nat → Nat → Int32} (P : Path n g) (h : Agr n t g g') : Path n g' := by
  have h0 := h.1 0 (by omega)
  have h2 := h.1 2 (by omega)
  exact ⟨fun c hc e => by rw [← h2]; exact P.1 c hc (by rw [h0]; exact e), fun a b ha hb hn e1 e2 => by rw [← h2, ← h2]; exact P.2 a b ha hb hn (by rw [h0]; exact e1) (by rw [h0]; exact e2)⟩
theorem nn_bound {n : Nat} (h : n ≤ 100) : n * n ≤ 10000 := Nat.mul_le_mul h h
theorem SF_le {n k k' t q : Nat} {g : Nat → Nat → Int32} (I : InvE n k k' g t q) : SF n g ≤ 2 * n := sm_le n fun c hc => by
  rcases I.2.2.2.2.2.1 c hc with e | e | e <;> rw [e, ix_c32 (by omega)] <;> omega
theorem F2_ge {n : Nat} {g : Nat → Nat → Int32} (h : ∀ a, a < n → g (14 + a) a = 0) : n ≤ F2 n g := by
  have := sm_ge (f := fun a => sm (fun b => if g (14 + a) b = 0 then 1 else 0) n) (k := 1) n fun a ha => by
    have := sm_one (f := fun b => if g (14 + a) b = 0 then 1 else 0) n ha
    rw [if_pos (h a ha)] at this; exact this
  unfold F2; omega
theorem f9_spec {n k k' t q c : Nat} {M : MM} (hn : 0 < n ∧ n ≤ 100) (W : Wf n M) (I : InvE n (k + 1) k' (ld M) t q) (hc : c < n) :
    ∃ M' q', f9 n M (c32 c) = some (0, M') ∧ Wf n M' ∧ InvE n k k' (ld M') t q' ∧ Agr n 1000000 (ld M) (ld M') := by
  obtain ⟨i1, i2, ⟨p, hp, i3⟩, i4, i5, i6, i7, i8, i9⟩ := I
  have b := nn_bound hn.2
  have e5 : lnR n 5 = n := rfl
  have e4 : lnR n 4 = n := rfl
  unfold f9
  rw [gd_T (inr_c32 (by rw [e5]; exact hc) (by rw [e5]; omega))]
  show ∃ M' q', cnd (eqB (ld M 5 (ix (c32 c))) 0) _ _ = _ ∧ _
  rw [ix_c32 (by omega)]
  cases hb : eqB (ld M 5 c) 0 with
  | false => exact ⟨M, q, rfl, W, ⟨i1, i2, ⟨p, hp, i3⟩, i4, i5, i6, i7, i8, by omega⟩, Agr.refl _ _ _⟩
  | true =>
    have o1 : okI n 5 c := Or.inl ⟨by omega, hc⟩
    have v1 := view_sto (v := (1 : Int32)) W o1
    have W1 := Wf_sto (r := 5) (j := c) (v := (1 : Int32)) W
    obtain ⟨M1, hM1⟩ : ∃ z, z = sto M 5 c 1 := ⟨_, rfl⟩
    rw [← hM1] at v1 W1
    have l11 : ld M1 11 0 = c32 p := by rw [v1, upd_row (by omega)]; exact i3
    have l12 : ld M1 12 0 = c32 q := by rw [v1, upd_row (by omega)]; exact i2
    have jn : (p + q) % n < n := Nat.mod_lt _ hn.1
    have er : (c32 p + c32 q) % c32 n = c32 ((p + q) % n) := by rw [c32_add, c32_rem (by omega) (by omega)]
    have o2 : okI n 4 ((p + q) % n) := Or.inl ⟨by omega, jn⟩
    have v2 := view_sto (v := c32 c) W1 o2
    have W2 := Wf_sto (r := 4) (j := (p + q) % n) (v := c32 c) W1
    obtain ⟨M2, hM2⟩ : ∃ z, z = sto M1 4 ((p + q) % n) (c32 c) := ⟨_, rfl⟩
    rw [← hM2] at v2 W2
    have l12' : ld M2 12 0 = c32 q := by rw [v2, upd_row (by omega)]; exact l12
    have o3 : okI n 12 0 := Or.inr (Or.inl ⟨by omega, by omega, rfl⟩)
    have v3 := view_sto (v := c32 (q + 1)) W2 o3
    have W3 := Wf_sto (r := 12) (j := 0) (v := c32 (q + 1)) W2
    refine ⟨sto M2 12 0 (c32 (q + 1)), q + 1, ?_, W3, ?_, ?_⟩
    · rw [cnd_T rfl, ← hM1]
      show gd (inr ((ld M1 11 0 + ld M1 12 0) % c32 n) (lnR n 4)) (nam (sto M1 4 (ix ((ld M1 11 0 + ld M1 12 0) % c32 n)) (c32 c)) _) = _
      rw [l11, l12, er, gd_T (inr_c32 (by rw [e4]; exact jn) (by rw [e4]; omega)), ix_c32 (by omega), ← hM2]
      show some (0, sto M2 12 0 (ld M2 12 0 + 1)) = _
      rw [l12', c32_succ]
    · have row : ∀ r j, r ≠ 4 → r ≠ 5 → r ≠ 12 → ld (sto M2 12 0 (c32 (q + 1))) r j = ld M r j := fun r j h4 h5 h12 => by rw [v3, upd_row h12, v2, upd_row h4, v1, upd_row h5]
      have eF : F2 n (ld (sto M2 12 0 (c32 (q + 1)))) = F2 n (ld M) := F2_congr fun a b _ => row _ _ (by omega) (by omega) (by omega)
      have eS : SF n (ld (sto M2 12 0 (c32 (q + 1)))) = SF n (ld M) := SF_congr fun c => row _ _ (by omega) (by omega) (by omega)
      refine ⟨by rw [row _ _ (by omega) (by omega) (by omega)]; exact i1, by rw [v3, upd_same], ⟨p, hp, by rw [row _ _ (by omega) (by omega) (by omega)]; exact i3⟩, fun j hj => ?_, fun c hc => by rw [row _ _ (by omega) (by omega) (by omega)]; exact i5 c hc, fun c hc => by rw [row _ _ (by omega) (by omega) (by omega)]; exact i6 c hc, fun a b ha hb => by rw [row _ _ (by omega) (by omega) (by omega), row _ _ (by omega) (by omega) (by omega)]; exact i7 a b ha hb, by rw [eF, eS]; exact i8, by rw [eF]; omega⟩
      rw [v3, upd_row (by omega), v2]
      by_cases e : j = (p + q) % n
      · exact ⟨c, hc, by rw [e, upd_same]⟩
      · rw [upd_col e, v1, upd_row (by omega)]; exact i4 j hj
    · have row : ∀ r j, r ≠ 4 → r ≠ 5 → r ≠ 12 → ld (sto M2 12 0 (c32 (q + 1))) r j = ld M r j := fun r j h4 h5 h12 => by rw [v3, upd_row h12, v2, upd_row h4, v1, upd_row h5]
      exact ⟨fun r hr j => (row r j (by omega) (by omega) (by omega)).symm, fun j _ => (row 6 j (by omega) (by omega) (by omega)).symm, fun a j _ => (row _ j (by omega) (by omega) (by omega)).symm⟩
/-! taking back -/
def uPair (g : Nat → Nat → Int32) (a b : Nat) : Nat → Nat → Int32 :=
  if g (14 + a) b = 1 then upd (upd (upd (upd g 0 a (g 0 a - 1)) 0 b (g 0 b - 1)) (14 + a) b 0) (14 + b) a 0 else upd (upd (upd (upd g 1 a (g 1 a + 1)) 1 b (g 1 b + 1)) (14 + a) b 0) (14 + b) a 0
def uPath (g : Nat → Nat → Int32) (c : Nat) (e z : Int32) : Nat → Nat → Int32 := upd (upd g 2 c e) 3 c z
def Rest (n m : Nat) (C : Nat → Nat → Int32) : Nat → (Nat → Nat → Int32) → Nat → Prop
  | 0, g, t => t = m ∧ Agr n m g C
  | k + 1, g, t => (t = m ∧ Agr n m g C) ∨ (∃ a b, a < n ∧ b < n ∧ a ≠ b ∧ m + 2 ≤ t ∧ g 6 (t - 2) = c32 a ∧ g 6 (t - 1) = c32 b ∧ Rest n m C k (uPair g a b) (t - 2)) ∨ ∃ c, c < n ∧ m + 3 ≤ t ∧ g 6 (t - 1) = c32 c ^^^ (-1 : Int32) ∧ Rest n m C k (uPath g c (g 6 (t - 3)) (g 6 (t - 2))) (t - 3)
theorem upd_congr {g g' : Nat → Nat → Int32} {r j r' j' : Nat} {v v' : Int32} (hv : v = v') (h : g r' j' = g' r' j') : upd g r j v r' j' = upd g' r j v' r' j' := by
  unfold upd; rw [hv, h]
theorem Agr.symm {n t : Nat} {g g' : Nat → Nat → Int32} (h : Agr n t g g') : Agr n t g' g := ⟨fun r hr j => (h.1 r hr j).symm, fun j hj => (h.2.1 j hj).symm, fun a j ha => (h.2.2 a j ha).symm⟩
theorem Agr.mono {n t t' : Nat} {g g' : Nat → Nat → Int32} (h : Agr n t g g') (ht : t' ≤ t) : Agr n t' g g' := ⟨h.1, fun j hj => h.2.1 j (by omega), h.2.2⟩
theorem Agr.upd {n t r j : Nat} {v v' : Int32} {g g' : Nat → Nat → Int32} (h : Agr n t g g') (hv : v = v') : Agr n t (upd g r j v) (upd g' r j v') :=
  ⟨fun r hr j => upd_congr hv (h.1 r hr j), fun j hj => upd_congr hv (h.2.1 j hj), fun a j ha => upd_congr hv (h.2.2 a j ha)⟩
theorem Agr.upair {n t a b : Nat} {g g' : Nat → Nat → Int32} (h : Agr n t g g') (ha : a < n) : Agr n t (uPair g a b) (uPair g' a b) := by
  unfold uPair
  rw [h.2.2 a b ha]
  split
  · exact (((h.upd (by rw [h.1 0 (by omega)])).upd (by rw [h.1 0 (by omega)])).upd rfl).upd rfl
  · exact (((h.upd (by rw [h.1 1 (by omega)])).upd (by rw [h.1 1 (by omega)])).upd rfl).upd rfl
theorem Rest.of {n m : Nat} {C : Nat → Nat → Int32} : ∀ (k : Nat) {g g' : Nat → Nat → Int32} {t : Nat}, Rest n m C k g t → Agr n t g g' → Rest n m C k g' t
  | 0, g, g', t, h, e => ⟨h.1, (h.1 ▸ e).symm.trans h.2⟩
  | k + 1, g, g', t, h, e => by
    rcases h with h | ⟨a, b, ha, hb, hab, ht, h1, h2, h3⟩ | ⟨c, hc, ht, h1, h3⟩
    · exact Or.inl ⟨h.1, (h.1 ▸ e).symm.trans h.2⟩
    · exact Or.inr (Or.inl ⟨a, b, ha, hb, hab, ht, by rw [← e.2.1 _ (by omega)]; exact h1, by rw [← e.2.1 _ (by omega)]; exact h2, Rest.of k h3 ((e.mono (by omega)).upair ha)⟩)
    · refine Or.inr (Or.inr ⟨c, hc, ht, by rw [← e.2.1 _ (by omega)]; exact h1, Rest.of k h3 ?_⟩)
      exact ((e.mono (by omega)).upd (e.2.1 _ (by omega))).upd (e.2.1 _ (by omega))
theorem Rest.more {n m : Nat} {C : Nat → Nat → Int32} : ∀ (k : Nat) {g : Nat → Nat → Int32} {t : Nat}, Rest n m C k g t → Rest n m C (k + 1) g t
  | 0, _, _, h => Or.inl h
  | k + 1, g, t, h => by
    rcases h with h | ⟨a, b, ha, hb, hab, ht, h1, h2, h3⟩ | ⟨c, hc, ht, h1, h3⟩
    · exact Or.inl h
    · exact Or.inr (Or.inl ⟨a, b, ha, hb, hab, ht, h1, h2, Rest.more k h3⟩)
    · exact Or.inr (Or.inr ⟨c, hc, ht, h1, Rest.more k h3⟩)
theorem ltB_T {a b : Nat} (ha : a < 2147483648) (hb : b < 2147483648) (h : a < b) : ltB (c32 a) (c32 b) = true := by
  have := own_ltT (o := some true) (u := some false) ((c32_lt ha hb).mpr h)
  cases e : ltB (c32 a) (c32 b) with
  | true => rfl
  | false => rw [e] at this; cases this
theorem ltB_F {a b : Nat} (ha : a < 2147483648) (hb : b < 2147483648) (h : ¬ a < b) : ltB (c32 a) (c32 b) = false := by
  have := own_ltF (o := some true) (u := some false) (fun z => h ((c32_lt ha hb).mp z))
  cases e : ltB (c32 a) (c32 b) with
  | true => rw [e] at this; cases this
  | false => rfl
theorem ltB_0 {a : Nat} (ha : a < 2147483648) : ltB (c32 a) 0 = false := ltB_F (b := 0) ha (by omega) (by omega)
theorem neg_lt {c : Nat} (h : c < 1000) : ltB (c32 c ^^^ (-1)) 0 = true ∧ (c32 c ^^^ (-1)) ^^^ (-1 : Int32) = c32 c := by
  refine ⟨?_, by rw [Int32.xor_assoc]; simp⟩
  have : ∀ c : Fin 1000, ltB (c32 c.val ^^^ (-1)) 0 = true := by decide +kernel
  exact this ⟨c, h⟩
theorem own_sto {n r j : Nat} {M : MM} {v : Int32} (W : Wf n M) (h : okI n r j) : ∃ M', sto M r j v = M' ∧ Wf n M' ∧ ld M' = upd (ld M) r j v := ⟨_, rfl, Wf_sto W, view_sto W h⟩
theorem p_gd {α : Type} {P : Option α → Prop} {b : Bool} {o : Option α} (h : b = true) (k : P o) : P (gd b o) := by rw [h]; exact k
theorem p_T {α : Type} {P : Option α → Prop} {b : Bool} {o u : Option α} (h : b = true) (k : P o) : P (cnd b o u) := by rw [h]; exact k
theorem p_F {α : Type} {P : Option α → Prop} {b : Bool} {o u : Option α} (h : b = false) (k : P u) : P (cnd b o u) := by rw [h]; exact k
theorem p_nai {α : Type} {P : Option α → Prop} {v w : Int32} {f : Int32 → Option α} (h : v = w) (k : P (f w)) : P (nai v f) := by rw [h]; exact k
theorem p_nam {α : Type} {P : Option α → Prop} {v w : MM} {f : MM → Option α} (h : v = w) (k : P (f w)) : P (nam v f) := by rw [h]; exact k
theorem p_bnd {α β : Type} {P : Option α → Prop} {o : Option (β × MM)} {v : β} {M : MM} {f : β → MM → Option α} (h : o = some (v, M)) (k : P (f v M)) : P (bnd o f) := by rw [h]; exact k
theorem lp16_spec {P : Option (Int32 × MM) → Prop} {n m : Nat} {C : Nat → Nat → Int32} (hn : 0 < n ∧ n ≤ 100) : ∀ (k : Nat) {M : MM} {t F : Nat}, Wf n M → Rest n m C k (ld M) t → ld M 9 0 = c32 t → t ≤ lnR n 6 → k < F →
    (∀ M', Agr n m (ld M') C → ld M' 9 0 = c32 m → Wf n M' → P (some (0, M'))) → P (lp16 n F M (c32 m)) := by
  have hb6 : lnR n 6 ≤ 100000 := by
    have : n * (n - 1) ≤ 100 * 100 := Nat.mul_le_mul hn.2 (by omega)
    show n * (n - 1) + 6 * n ≤ _
    omega
  have g0 : lnR n 0 = n := rfl
  have g1 : lnR n 1 = n := rfl
  have g2 : lnR n 2 = n := rfl
  have g3 : lnR n 3 = n := rfl
  intro k
  induction k with
  | zero =>
    intro M t F W R ht hl hF fin
    obtain ⟨rfl, hC⟩ := R
    obtain ⟨F, rfl⟩ : ∃ z, F = z + 1 := ⟨F - 1, by omega⟩
    rw [lp16]
    exact p_nai ht (p_F (ltB_F (by omega) (by omega) (by omega)) (fin M hC ht W))
  | succ k ih =>
    intro M t F W R ht hl hF fin
    obtain ⟨F, rfl⟩ : ∃ z, F = z + 1 := ⟨F - 1, by omega⟩
    rcases R with ⟨rfl, hC⟩ | ⟨a, b, ha, hb, hab, hm, h1, h2, h3⟩ | ⟨c, hc, hm, h1, h3⟩
    · rw [lp16]
      exact p_nai ht (p_F (ltB_F (by omega) (by omega) (by omega)) (fin M hC ht W))
    · rw [lp16]
      refine p_nai ht (p_T (ltB_T (by omega) (by omega) (by omega)) ?_)
      rw [show c32 t - 1 = c32 (t - 1) from c32_sub (b := 1) (by omega)]
      refine p_gd (inr_c32 (by omega) (by omega)) ?_
      rw [ix_c32 (by omega)]
      refine p_nai h2 (p_F (ltB_0 (by omega)) ?_)
      rw [show c32 t - 2 = c32 (t - 2) from c32_sub (b := 2) (by omega)]
      refine p_gd (inr_c32 (by omega) (by omega)) ?_
      rw [ix_c32 (by omega)]
      refine p_nai h1 ?_
      obtain ⟨M1, e1, W1, v1⟩ := own_sto (v := c32 (t - 2)) W (r := 9) (j := 0) (Or.inr (Or.inl ⟨by omega, by omega, rfl⟩))
      refine p_nam e1 ?_
      obtain ⟨M2, e2, W2, v2⟩ := own_sto (v := (0 : Int32)) W1 (r := 10) (j := 0) (Or.inr (Or.inl ⟨by omega, by omega, rfl⟩))
      refine p_nam e2 ?_
      refine p_gd (inr_c32 ha (by omega)) (p_gd (inr_c32 hb (by omega)) ?_)
      rw [ix_c32 (n := a) (by omega), ix_c32 (n := b) (by omega)]
      have A2 : Agr n (t - 2) (ld M) (ld M2) := by
        rw [v2, v1]
        exact ⟨fun r hr j => by rw [upd_row (by omega), upd_row (by omega)], fun j hj => by rw [upd_row (by omega), upd_row (by omega)], fun a j ha => by rw [upd_row (by omega), upd_row (by omega)]⟩
      have t2 : ld M2 9 0 = c32 (t - 2) := by rw [v2, upd_row (by omega), v1, upd_same]
      have R2 : Rest n m C k (uPair (ld M2) a b) (t - 2) := Rest.of k h3 (A2.upair ha)
      have stp : ∀ (r : Nat) (x y : Int32), r = 0 ∨ r = 1 → uPair (ld M2) a b = upd (upd (upd (upd (ld M2) r a x) r b y) (14 + a) b 0) (14 + b) a 0 →
          ∃ M3 M4 M5 M6, sto M2 r a x = M3 ∧ ld M3 r b = ld M2 r b ∧ sto M3 r b y = M4 ∧ sto M4 (14 + a) b 0 = M5 ∧ sto M5 (14 + b) a 0 = M6 ∧ P (lp16 n F M6 (c32 m)) := by
        intro r x y hr hu
        have ln : lnR n r = n := by rcases hr with rfl | rfl <;> rfl
        obtain ⟨M3, e3, W3, v3⟩ := own_sto (v := x) W2 (r := r) (j := a) (Or.inl ⟨by omega, by omega⟩)
        obtain ⟨M4, e4, W4, v4⟩ := own_sto (v := y) W3 (r := r) (j := b) (Or.inl ⟨by omega, by omega⟩)
        obtain ⟨M5, e5, W5, v5⟩ := own_sto (v := (0 : Int32)) W4 (r := 14 + a) (j := b) (Or.inr (Or.inr ⟨by omega, by omega, hb⟩))
        obtain ⟨M6, e6, W6, v6⟩ := own_sto (v := (0 : Int32)) W5 (r := 14 + b) (j := a) (Or.inr (Or.inr ⟨by omega, by omega, ha⟩))
        have vv : ld M6 = uPair (ld M2) a b := by rw [v6, v5, v4, v3, hu]
        exact ⟨M3, M4, M5, M6, e3, by rw [v3, upd_col (Ne.symm hab)], e4, e5, e6, ih W6 (by rw [vv]; exact R2) (by rw [v6, upd_row (by omega), v5, upd_row (by omega), v4, upd_row (by omega), v3, upd_row (by omega)]; exact t2) (by omega) (by omega) fin⟩
      refine p_nai rfl ?_
      by_cases e : ld M2 (14 + a) b = 1
      · obtain ⟨M3, M4, M5, M6, e3, l3, e4, e5, e6, fi⟩ := stp 0 (ld M2 0 a - 1) (ld M2 0 b - 1) (Or.inl rfl) (by unfold uPair; rw [if_pos e])
        rw [own_eqT e]
        rw [g0]
        exact p_gd (inr_c32 ha (by omega)) (p_nai rfl (p_nam e3 (p_gd (inr_c32 hb (by omega)) (p_nai l3 (p_nam e4 (p_nam e5 (p_nam e6 fi)))))))
      · obtain ⟨M3, M4, M5, M6, e3, l3, e4, e5, e6, fi⟩ := stp 1 (ld M2 1 a + 1) (ld M2 1 b + 1) (Or.inr rfl) (by unfold uPair; rw [if_neg e])
        rw [own_eqF e]
        rw [g1]
        exact p_gd (inr_c32 ha (by omega)) (p_nai rfl (p_nam e3 (p_gd (inr_c32 hb (by omega)) (p_nai l3 (p_nam e4 (p_nam e5 (p_nam e6 fi)))))))
    · obtain ⟨n1, n2⟩ := neg_lt (c := c) (by omega)
      rw [lp16]
      refine p_nai ht (p_T (ltB_T (by omega) (by omega) (by omega)) ?_)
      rw [show c32 t - 1 = c32 (t - 1) from c32_sub (b := 1) (by omega)]
      refine p_gd (inr_c32 (by omega) (by omega)) ?_
      rw [ix_c32 (by omega)]
      refine p_nai h1 (p_T n1 ?_)
      rw [show c32 t - 3 = c32 (t - 3) from c32_sub (b := 3) (by omega)]
      refine p_gd (inr_c32 (by omega) (by omega)) ?_
      rw [ix_c32 (by omega), n2, g2, g3]
      refine p_nai rfl (p_gd (inr_c32 hc (by omega)) ?_)
      rw [ix_c32 (n := c) (by omega)]
      obtain ⟨M1, e1, W1, v1⟩ := own_sto (v := ld M 6 (t - 3)) W (r := 2) (j := c) (Or.inl ⟨by omega, by omega⟩)
      refine p_nam e1 ?_
      have t1 : ld M1 9 0 = c32 t := by rw [v1, upd_row (by omega)]; exact ht
      have l1 : ld M1 6 (t - 2) = ld M 6 (t - 2) := by rw [v1, upd_row (by omega)]
      refine p_nai t1 ?_
      rw [show c32 t - 2 = c32 (t - 2) from c32_sub (b := 2) (by omega)]
      refine p_gd (inr_c32 (by omega) (by omega)) ?_
      rw [ix_c32 (by omega)]
      refine p_nai l1 (p_gd (inr_c32 hc (by omega)) ?_)
      obtain ⟨M2, e2, W2, v2⟩ := own_sto (v := ld M 6 (t - 2)) W1 (r := 3) (j := c) (Or.inl ⟨by omega, by omega⟩)
      refine p_nam e2 ?_
      have t2 : ld M2 9 0 = c32 t := by rw [v2, upd_row (by omega)]; exact t1
      refine p_nai t2 ?_
      rw [show c32 t - 3 = c32 (t - 3) from c32_sub (b := 3) (by omega)]
      obtain ⟨M3, e3, W3, v3⟩ := own_sto (v := c32 (t - 3)) W2 (r := 9) (j := 0) (Or.inr (Or.inl ⟨by omega, by omega, rfl⟩))
      refine p_nam e3 ?_
      refine ih W3 (Rest.of k h3 ?_) (by rw [v3, upd_same]) (by omega) (by omega) fin
      rw [v3, v2, v1]
      exact ⟨fun r hr j => (upd_row (by omega)).symm, fun j hj => (upd_row (by omega)).symm, fun a j ha => (upd_row (by omega)).symm⟩
theorem F2_upd {n a b : Nat} {g : Nat → Nat → Int32} {v : Int32} (ha : a < n) (hb : b < n) (h : g (14 + a) b = 0) (hv : v ≠ 0) : F2 n (upd g (14 + a) b v) + 1 = F2 n g := by
  have inner := sm_upd (f := fun j => if g (14 + a) j = 0 then 1 else 0) (f' := fun j => if upd g (14 + a) b v (14 + a) j = 0 then 1 else 0) (a := b) n hb fun i _ hi => by
    show _ = if upd g (14 + a) b v (14 + a) i = 0 then 1 else 0
    rw [upd_col hi]
  have outer := sm_upd (f := fun a' => sm (fun b => if g (14 + a') b = 0 then 1 else 0) n) (f' := fun a' => sm (fun j => if upd g (14 + a) b v (14 + a') j = 0 then 1 else 0) n) (a := a) n ha fun i _ hi => by
    refine sm_congr n fun j _ => ?_
    rw [upd_row (by omega)]
  have e1 : (if g (14 + a) b = 0 then 1 else 0) = 1 := if_pos h
  have e2 : (if upd g (14 + a) b v (14 + a) b = 0 then 1 else 0) = 0 := if_neg (by rw [upd_same]; exact hv)
  simp only [e1, e2] at inner
  unfold F2
  omega
theorem SF_upd {n a x : Nat} {g : Nat → Nat → Int32} (ha : a < n) (h : g 0 a = c32 x) (hx : x < 100) : SF n (upd g 0 a (c32 (x + 1))) = SF n g + 1 := by
  have := sm_upd (f := fun c => ix (g 0 c)) (f' := fun c => ix (upd g 0 a (c32 (x + 1)) 0 c)) (a := a) n ha fun i _ hi => by
    show _ = ix (upd g 0 a (c32 (x + 1)) 0 i)
    rw [upd_col hi]
  have e1 : ix (g 0 a) = x := by rw [h, ix_c32 (by omega)]
  have e2 : ix (upd g 0 a (c32 (x + 1)) 0 a) = x + 1 := by rw [upd_same, ix_c32 (by omega)]
  simp only [e1, e2] at this
  unfold SF
  omega
theorem F2_row {n r j : Nat} {g : Nat → Nat → Int32} {v : Int32} (h : r < 14) : F2 n (upd g r j v) = F2 n g := F2_congr fun a b _ => upd_row (by omega)
theorem SF_row {n r j : Nat} {g : Nat → Nat → Int32} {v : Int32} (h : 0 < r) : SF n (upd g r j v) = SF n g := SF_congr fun c => upd_row (by omega)
/-- what setState leaves -/
def gSet (g : Nat → Nat → Int32) (t a b : Nat) (s : Int32) : Nat → Nat → Int32 := upd (upd (upd (upd (upd (upd (upd g 10 0 0) 9 0 (c32 (t + 1))) 6 t (c32 a)) 9 0 (c32 (t + 2))) 6 (t + 1) (c32 b)) (14 + a) b s) (14 + b) a s
theorem f8_spec {n t a b : Nat} {M : MM} {s : Int32} (hn : 0 < n ∧ n ≤ 100) (W : Wf n M) (ht : ld M 9 0 = c32 t) (hl : t + 2 ≤ lnR n 6) (ha : a < n) (hb : b < n) (hs : nar .byte s = s) : ∃ M', f8 n M (c32 a) (c32 b) s = some (0, M') ∧ Wf n M' ∧ ld M' = gSet (ld M) t a b s := by
  have hb6 : lnR n 6 ≤ 100000 := by
    have : n * (n - 1) ≤ 100 * 100 := Nat.mul_le_mul hn.2 (by omega)
    show n * (n - 1) + 6 * n ≤ _
    omega
  have o6 : ∀ j, j < t + 2 → okI n 6 j := fun j hj => Or.inl ⟨by omega, by omega⟩
  have o9 : okI n 9 0 := Or.inr (Or.inl ⟨by omega, by omega, rfl⟩)
  obtain ⟨M1, e1, W1, v1⟩ := own_sto (v := (0 : Int32)) W (r := 10) (j := 0) (Or.inr (Or.inl ⟨by omega, by omega, rfl⟩))
  obtain ⟨M2, e2, W2, v2⟩ := own_sto (v := c32 (t + 1)) W1 o9
  obtain ⟨M3, e3, W3, v3⟩ := own_sto (v := c32 a) W2 (o6 t (by omega))
  obtain ⟨M4, e4, W4, v4⟩ := own_sto (v := c32 (t + 2)) W3 o9
  obtain ⟨M5, e5, W5, v5⟩ := own_sto (v := c32 b) W4 (o6 (t + 1) (by omega))
  obtain ⟨M6, e6, W6, v6⟩ := own_sto (v := s) W5 (r := 14 + a) (j := b) (Or.inr (Or.inr ⟨by omega, by omega, hb⟩))
  obtain ⟨M7, e7, W7, v7⟩ := own_sto (v := s) W6 (r := 14 + b) (j := a) (Or.inr (Or.inr ⟨by omega, by omega, ha⟩))
  have t1 : ld M1 9 0 = c32 t := by rw [v1, upd_row (by omega)]; exact ht
  have t3 : ld M3 9 0 = c32 (t + 1) := by rw [v3, upd_row (by omega), v2, upd_same]
  refine ⟨M7, ?_, W7, by rw [v7, v6, v5, v4, v3, v2, v1]; rfl⟩
  unfold f8
  refine p_nam (P := (· = _)) e1 (p_nai (P := (· = _)) t1 ?_)
  rw [c32_succ]
  refine p_nam (P := (· = _)) e2 (p_gd (P := (· = _)) (inr_c32 (by omega) (by omega)) ?_)
  rw [ix_c32 (n := t) (by omega)]
  refine p_nam (P := (· = _)) e3 (p_nai (P := (· = _)) t3 ?_)
  rw [c32_succ]
  refine p_nam (P := (· = _)) e4 (p_gd (P := (· = _)) (inr_c32 (by omega) (by omega)) ?_)
  rw [ix_c32 (n := t + 1) (by omega)]
  refine p_nam (P := (· = _)) e5 (p_gd (P := (· = _)) (inr_c32 ha (by omega)) (p_gd (P := (· = _)) (inr_c32 hb (by omega)) ?_))
  rw [ix_c32 (n := a) (by omega), ix_c32 (n := b) (by omega), hs]
  exact p_nam (P := (· = _)) e6 (p_nam (P := (· = _)) e7 rfl)
/-- what setPathEnd leaves -/
def gEnd (g : Nat → Nat → Int32) (t c : Nat) (e z : Int32) : Nat → Nat → Int32 := upd (upd (upd (upd (upd (upd (upd (upd g 9 0 (c32 (t + 1))) 6 t (g 2 c)) 9 0 (c32 (t + 2))) 6 (t + 1) (g 3 c)) 9 0 (c32 (t + 3))) 6 (t + 2) (c32 c ^^^ (-1 : Int32))) 2 c e) 3 c z
theorem f10_spec {n t c : Nat} {M : MM} {e z : Int32} (hn : 0 < n ∧ n ≤ 100) (W : Wf n M) (ht : ld M 9 0 = c32 t) (hl : t + 3 ≤ lnR n 6) (hc : c < n) : ∃ M', f10 n M (c32 c) e z = some (0, M') ∧ Wf n M' ∧ ld M' = gEnd (ld M) t c e z := by
  have hb6 : lnR n 6 ≤ 100000 := by
    have : n * (n - 1) ≤ 100 * 100 := Nat.mul_le_mul hn.2 (by omega)
    show n * (n - 1) + 6 * n ≤ _
    omega
  have g2 : lnR n 2 = n := rfl
  have g3 : lnR n 3 = n := rfl
  have o6 : ∀ j, j < t + 3 → okI n 6 j := fun j hj => Or.inl ⟨by omega, by omega⟩
  have o9 : okI n 9 0 := Or.inr (Or.inl ⟨by omega, by omega, rfl⟩)
  obtain ⟨M1, e1, W1, v1⟩ := own_sto (v := c32 (t + 1)) W o9
  obtain ⟨M2, e2, W2, v2⟩ := own_sto (v := ld M 2 c) W1 (o6 t (by omega))
  obtain ⟨M3, e3, W3, v3⟩ := own_sto (v := c32 (t + 2)) W2 o9
  obtain ⟨M4, e4, W4, v4⟩ := own_sto (v := ld M 3 c) W3 (o6 (t + 1) (by omega))
  obtain ⟨M5, e5, W5, v5⟩ := own_sto (v := c32 (t + 3)) W4 o9
  obtain ⟨M6, e6, W6, v6⟩ := own_sto (v := c32 c ^^^ (-1)) W5 (o6 (t + 2) (by omega))
  obtain ⟨M7, e7, W7, v7⟩ := own_sto (v := e) W6 (r := 2) (j := c) (Or.inl ⟨by omega, by omega⟩)
  obtain ⟨M8, e8, W8, v8⟩ := own_sto (v := z) W7 (r := 3) (j := c) (Or.inl ⟨by omega, by omega⟩)
  have l1 : ld M1 2 c = ld M 2 c := by rw [v1, upd_row (by omega)]
  have t2 : ld M2 9 0 = c32 (t + 1) := by rw [v2, upd_row (by omega), v1, upd_same]
  have l3 : ld M3 3 c = ld M 3 c := by rw [v3, upd_row (by omega), v2, upd_row (by omega), v1, upd_row (by omega)]
  have t4 : ld M4 9 0 = c32 (t + 2) := by rw [v4, upd_row (by omega), v3, upd_same]
  refine ⟨M8, ?_, W8, by rw [v8, v7, v6, v5, v4, v3, v2, v1]; rfl⟩
  unfold f10
  refine p_nai (P := (· = _)) ht ?_
  rw [c32_succ]
  refine p_nam (P := (· = _)) e1 (p_gd (P := (· = _)) (inr_c32 (by omega) (by omega)) ?_)
  rw [ix_c32 (n := c) (by omega)]
  refine p_nai (P := (· = _)) l1 (p_gd (P := (· = _)) (inr_c32 (by omega) (by omega)) ?_)
  rw [ix_c32 (n := t) (by omega)]
  refine p_nam (P := (· = _)) e2 (p_nai (P := (· = _)) t2 ?_)
  rw [c32_succ]
  refine p_nam (P := (· = _)) e3 (p_gd (P := (· = _)) (inr_c32 (by omega) (by omega)) (p_nai (P := (· = _)) l3 (p_gd (P := (· = _)) (inr_c32 (by omega) (by omega)) ?_)))
  rw [ix_c32 (n := t + 1) (by omega)]
  refine p_nam (P := (· = _)) e4 (p_nai (P := (· = _)) t4 ?_)
  rw [c32_succ]
  refine p_nam (P := (· = _)) e5 (p_gd (P := (· = _)) (inr_c32 (by omega) (by omega)) ?_)
  rw [ix_c32 (n := t + 2) (by omega)]
  exact p_nam (P := (· = _)) e6 (p_nam (P := (· = _)) e7 (p_nam (P := (· = _)) e8 rfl))
theorem gSet_st {g : Nat → Nat → Int32} {t a b x y : Nat} {s : Int32} : gSet g t a b s (14 + x) y = if x = b ∧ y = a then s else if x = a ∧ y = b then s else g (14 + x) y := by
  unfold gSet upd
  by_cases h1 : x = b ∧ y = a
  · rw [if_pos h1, if_pos (by omega)]
  · rw [if_neg h1, if_neg (by omega)]
    by_cases h2 : x = a ∧ y = b
    · rw [if_pos h2, if_pos (by omega)]
    · rw [if_neg h2, if_neg (by omega), if_neg (by omega), if_neg (by omega), if_neg (by omega), if_neg (by omega), if_neg (by omega)]
theorem gSet_lo {g : Nat → Nat → Int32} {t a b r j : Nat} {s : Int32} (h : r < 14) (h6 : r ≠ 6) (h9 : r ≠ 9) (h10 : r ≠ 10) : gSet g t a b s r j = g r j := by
  unfold gSet
  rw [upd_row (by omega), upd_row (by omega), upd_row h6, upd_row h9, upd_row h6, upd_row h9, upd_row h10]
theorem gSet_ts {g : Nat → Nat → Int32} {t a b : Nat} {s : Int32} : gSet g t a b s 9 0 = c32 (t + 2) := by
  unfold gSet
  rw [upd_row (by omega), upd_row (by omega), upd_row (by omega), upd_same]
theorem gSet_tr {g : Nat → Nat → Int32} {t a b j : Nat} {s : Int32} : gSet g t a b s 6 j = if j = t + 1 then c32 b else if j = t then c32 a else g 6 j := by
  unfold gSet upd
  rw [if_neg (by omega), if_neg (by omega)]
  by_cases h1 : j = t + 1
  · rw [if_pos ⟨rfl, h1⟩, if_pos h1]
  · rw [if_neg (fun z => h1 z.2), if_neg h1, if_neg (by omega)]
    by_cases h2 : j = t
    · rw [if_pos ⟨rfl, h2⟩, if_pos h2]
    · rw [if_neg (fun z => h2 z.2), if_neg h2, if_neg (by omega), if_neg (by omega)]
theorem gSet_F2 {n t a b : Nat} {g : Nat → Nat → Int32} {s : Int32} (ha : a < n) (hb : b < n) (hab : a ≠ b) (h1 : g (14 + a) b = 0) (h2 : g (14 + b) a = 0) (hs : s ≠ 0) : F2 n (gSet g t a b s) + 2 = F2 n g := by
  unfold gSet
  have q : ∀ g' : Nat → Nat → Int32, g' = upd (upd (upd (upd (upd g 10 0 0) 9 0 (c32 (t + 1))) 6 t (c32 a)) 9 0 (c32 (t + 2))) 6 (t + 1) (c32 b) → F2 n (upd (upd g' (14 + a) b s) (14 + b) a s) + 2 = F2 n g := by
    intro g' e
    have e0 : F2 n g' = F2 n g := by rw [e, F2_row (by omega), F2_row (by omega), F2_row (by omega), F2_row (by omega), F2_row (by omega)]
    have r1 : g' (14 + a) b = 0 := by rw [e, upd_row (by omega), upd_row (by omega), upd_row (by omega), upd_row (by omega), upd_row (by omega)]; exact h1
    have r2 : g' (14 + b) a = 0 := by rw [e, upd_row (by omega), upd_row (by omega), upd_row (by omega), upd_row (by omega), upd_row (by omega)]; exact h2
    have u1 := F2_upd (v := s) ha hb r1 hs
    have u2 := F2_upd (g := upd g' (14 + a) b s) (v := s) hb ha (by rw [upd_row (by omega)]; exact r2) hs
    omega
  exact q _ rfl
theorem InvE.cap {n k k' t q : Nat} {g : Nat → Nat → Int32} (hn : 0 < n) (I : InvE n k k' g t q) : t + k' ≤ lnR n 6 := by
  have h1 := F2_ge (n := n) (g := g) fun a ha => (I.2.2.2.2.2.2.1 a a ha ha).2 rfl
  have h2 := SF_le I
  have h3 := I.2.2.2.2.2.2.2.1
  show t + k' ≤ n * (n - 1) + 6 * n
  obtain ⟨z, rfl⟩ : ∃ z, n = z + 1 := ⟨n - 1, by omega⟩
  rw [show z + 1 - 1 = z by omega]
  have : (z + 1) * (z + 1) = (z + 1) * z + (z + 1) := Nat.mul_succ _ _
  omega
def St (n k k' m : Nat) (C : Nat → Nat → Int32) (M : MM) (t q : Nat) : Prop := Wf n M ∧ InvE n k k' (ld M) t q ∧ ∃ j, j + m ≤ t ∧ Rest n m C j (ld M) t
theorem St.weak {n k k' k1 k1' m t q : Nat} {C : Nat → Nat → Int32} {M : MM} (S : St n k k' m C M t q) (h : k1 ≤ k) (h' : k1' ≤ k') : St n k1 k1' m C M t q := by
  obtain ⟨W, ⟨i1, i2, i3, i4, i5, i6, i7, i8, i9⟩, R⟩ := S
  exact ⟨W, ⟨i1, i2, i3, i4, i5, i6, i7, by omega, by omega⟩, R⟩
theorem St.enq {n k k' m t q c : Nat} {C : Nat → Nat → Int32} {M : MM} (hn : 0 < n ∧ n ≤ 100) (S : St n (k + 1) k' m C M t q) (hc : c < n) : ∃ M' q', f9 n M (c32 c) = some (0, M') ∧ St n k k' m C M' t q' ∧ Agr n 1000000 (ld M) (ld M') := by
  obtain ⟨W, I, j, hj, R⟩ := S
  obtain ⟨M', q', e, W', I', A⟩ := f9_spec hn W I hc
  have ht : t ≤ 1000000 := by
    have := I.cap hn.1
    have : n * (n - 1) ≤ 100 * 100 := Nat.mul_le_mul hn.2 (by omega)
    have : lnR n 6 = n * (n - 1) + 6 * n := rfl
    omega
  exact ⟨M', q', e, ⟨W', I', j, hj, Rest.of j R (A.mono ht)⟩, A⟩
/-- a free pair is set: the state it leaves, its degrees with it -/
theorem St.pair {n k k' m t q a b r : Nat} {C : Nat → Nat → Int32} {M M' : MM} {s : Int32} {f : Int32 → Int32} (hn : 0 < n ∧ n ≤ 100) (S : St n k k' m C M t q) (ha : a < n) (hb : b < n) (hab : a ≠ b) (h0 : ld M (14 + a) b = 0) (hs : s ≠ 0)
    (W' : Wf n M') (v : ld M' = upd (upd (gSet (ld M) t a b s) r a (f (ld M r a))) r b (f (ld M r b))) (hr : (r = 1 ∧ s = 2 ∧ ∀ x, f x = x - 1) ∨ (r = 0 ∧ s = 1 ∧ (∀ x, f x = x + 1) ∧ ld M 0 a ≠ c32 2 ∧ ld M 0 b ≠ c32 2)) :
    St n (k + 2) (k' + if r = 0 then 6 else 0) m C M' (t + 2) q := by
  obtain ⟨W, I, j, hj, R⟩ := S
  have hcap := I.cap hn.1
  obtain ⟨i1, i2, ⟨p, hp, i3⟩, i4, i5, i6, i7, i8, i9⟩ := I
  have h0' : ld M (14 + b) a = 0 := by rw [← (i7 a b ha hb).1]; exact h0
  have hr2 : r < 2 := by rcases hr with h | h <;> omega
  have lo : ∀ r' j', r' < 14 → r' ≠ 6 → r' ≠ 9 → r' ≠ 10 → r' ≠ r → ld M' r' j' = ld M r' j' := fun r' j' q1 q2 q3 q4 q5 => by rw [v, upd_row q5, upd_row q5, gSet_lo q1 q2 q3 q4]
  have st : ∀ x y, ld M' (14 + x) y = if x = b ∧ y = a then s else if x = a ∧ y = b then s else ld M (14 + x) y := fun x y => by rw [v, upd_row (by omega), upd_row (by omega), gSet_st]
  have dg : ∀ j', ld M' r j' = if j' = b then f (ld M r b) else if j' = a then f (ld M r a) else ld M r j' := fun j' => by
    rw [v]
    by_cases q1 : j' = b
    · rw [if_pos q1, q1, upd_same]
    · rw [if_neg q1, upd_col q1]
      by_cases q2 : j' = a
      · rw [if_pos q2, q2, upd_same]
      · rw [if_neg q2, upd_col q2, gSet_lo (by omega) (by omega) (by omega) (by omega)]
  have tr : ∀ j', ld M' 6 j' = if j' = t + 1 then c32 b else if j' = t then c32 a else ld M 6 j' := fun j' => by rw [v, upd_row (by omega), upd_row (by omega), gSet_tr]
  have ts : ld M' 9 0 = c32 (t + 2) := by rw [v, upd_row (by omega), upd_row (by omega), gSet_ts]
  have eF : F2 n (ld M') + 2 = F2 n (ld M) := by
    rw [v, F2_row (by omega), F2_row (by omega)]; exact gSet_F2 ha hb hab h0 h0' hs
  have fdv : ∀ c, c < n → ld M 0 c ≠ c32 2 → ∃ x, x < 2 ∧ ld M 0 c = c32 x := fun c hc h => by
    rcases i6 c hc with e | e | e
    · exact ⟨0, by omega, e⟩
    · exact ⟨1, by omega, e⟩
    · exact absurd e h
  have eS : SF n (ld M') = SF n (ld M) + if r = 0 then 2 else 0 := by
    rcases hr with ⟨rfl, -, -⟩ | ⟨rfl, -, hf, ga, gb⟩
    · rw [if_neg (by omega)]; exact SF_congr fun c => lo 0 c (by omega) (by omega) (by omega) (by omega) (by omega)
    · obtain ⟨xa, la, ea⟩ := fdv a ha ga
      obtain ⟨xb, lb, eb⟩ := fdv b hb gb
      rw [if_pos rfl, v, hf, hf, ea, eb, c32_succ, c32_succ]
      have e0 : SF n (gSet (ld M) t a b s) = SF n (ld M) := SF_congr fun c => gSet_lo (by omega) (by omega) (by omega) (by omega)
      have u1 := SF_upd (n := n) (a := a) (x := xa) (g := gSet (ld M) t a b s) ha (by rw [gSet_lo (by omega) (by omega) (by omega) (by omega)]; exact ea) (by omega)
      have u2 := SF_upd (n := n) (a := b) (x := xb) (g := upd (gSet (ld M) t a b s) 0 a (c32 (xa + 1))) hb (by rw [upd_col (Ne.symm hab), gSet_lo (by omega) (by omega) (by omega) (by omega)]; exact eb) (by omega)
      omega
  refine ⟨W', ⟨ts, by rw [lo 12 0 (by omega) (by omega) (by omega) (by omega) (by omega)]; exact i2, ⟨p, hp, by rw [lo 11 0 (by omega) (by omega) (by omega) (by omega) (by omega)]; exact i3⟩, fun j' hj' => by rw [lo 4 j' (by omega) (by omega) (by omega) (by omega) (by omega)]; exact i4 j' hj', fun c hc => by rw [lo 2 c (by omega) (by omega) (by omega) (by omega) (by omega)]; exact i5 c hc, fun c hc => ?_, fun x y hx hy => ?_, ?_, by omega⟩, j + 1, by omega, ?_⟩
  · rcases hr with ⟨rfl, -, -⟩ | ⟨rfl, -, hf, ga, gb⟩
    · rw [lo 0 c (by omega) (by omega) (by omega) (by omega) (by omega)]; exact i6 c hc
    · obtain ⟨xa, la, ea⟩ := fdv a ha ga
      obtain ⟨xb, lb, eb⟩ := fdv b hb gb
      rw [dg c, hf, hf, ea, eb, c32_succ, c32_succ]
      have two : ∀ x, x < 2 → c32 (x + 1) = c32 0 ∨ c32 (x + 1) = c32 1 ∨ c32 (x + 1) = c32 2 := fun x hx => by
        match x, hx with
        | 0, _ => exact Or.inr (Or.inl rfl)
        | 1, _ => exact Or.inr (Or.inr rfl)
      split
      · exact two xb lb
      · split
        · exact two xa la
        · exact i6 c hc
  · rw [st x y, st y x]
    refine ⟨?_, fun e => ?_⟩
    · by_cases q1 : x = b ∧ y = a
      · rw [if_pos q1, if_neg (by omega), if_pos ⟨q1.2, q1.1⟩]
      · rw [if_neg q1]
        by_cases q2 : x = a ∧ y = b
        · rw [if_pos q2, if_pos ⟨q2.2, q2.1⟩]
        · rw [if_neg q2, if_neg (fun z => q2 ⟨z.2, z.1⟩), if_neg (fun z => q1 ⟨z.2, z.1⟩)]; exact (i7 x y hx hy).1
    · rw [if_neg (by omega), if_neg (by omega)]; exact (i7 x y hx hy).2 e
  · rw [eS]
    split <;> omega
  · refine Or.inr (Or.inl ⟨a, b, ha, hb, hab, by omega, by rw [tr, if_neg (by omega), if_pos (by omega)], by rw [tr, if_pos (by omega)], ?_⟩)
    rw [show t + 2 - 2 = t by omega]
    refine Rest.of j R ?_
    have g1 : ld M' (14 + a) b = s := by rw [st, if_neg (by omega), if_pos ⟨rfl, rfl⟩]
    have back : ∀ x : Int32, x - 1 + 1 = x ∧ x + 1 - 1 = x := fun x => ⟨Int32.sub_add_cancel x 1, Int32.add_sub_cancel x 1⟩
    -- the degrees' row and its way back
    have key : ∃ h : Int32 → Int32, (∀ x, h (f x) = x) ∧ uPair (ld M') a b = upd (upd (upd (upd (ld M') r a (h (ld M' r a))) r b (h (ld M' r b))) (14 + a) b 0) (14 + b) a 0 := by
      rcases hr with ⟨rfl, rfl, hf⟩ | ⟨rfl, rfl, hf, -, -⟩
      · exact ⟨(· + 1), fun x => by show f x + 1 = x; rw [hf]; exact (back x).1, by unfold uPair; rw [if_neg (by rw [g1]; decide)]⟩
      · exact ⟨(· - 1), fun x => by show f x - 1 = x; rw [hf]; exact (back x).2, by unfold uPair; rw [if_pos g1]⟩
    obtain ⟨h, hh, hu⟩ := key
    rw [hu]
    refine Agr.symm ⟨fun r' hr' j' => ?_, fun j' hj' => ?_, fun x y hx => ?_⟩
    · rw [upd_row (by omega), upd_row (by omega)]
      by_cases q : r' = r
      · subst q
        by_cases q1 : j' = b
        · rw [q1, upd_same, dg b, if_pos rfl, hh]
        · rw [upd_col q1]
          by_cases q2 : j' = a
          · rw [q2, upd_same, dg a, if_neg hab, if_pos rfl, hh]
          · rw [upd_col q2, dg, if_neg q1, if_neg q2]
      · rw [upd_row q, upd_row q, lo r' j' (by omega) (by omega) (by omega) (by omega) q]
    · rw [upd_row (by omega), upd_row (by omega), upd_row (by omega), upd_row (by omega), tr, if_neg (by omega), if_neg (by omega)]
    · unfold upd
      by_cases q1 : x = b ∧ y = a
      · rw [if_pos (by omega), q1.1, q1.2]; exact h0'.symm
      · rw [if_neg (by omega)]
        by_cases q2 : x = a ∧ y = b
        · rw [if_pos (by omega), q2.1, q2.2]; exact h0.symm
        · rw [if_neg (by omega), if_neg (by omega), if_neg (by omega)]
          show ld M' (14 + x) y = ld M (14 + x) y
          rw [st, if_neg q1, if_neg q2]
theorem gEnd_lo {g : Nat → Nat → Int32} {t c r j : Nat} {e z : Int32} (h2 : r ≠ 2) (h3 : r ≠ 3) (h6 : r ≠ 6) (h9 : r ≠ 9) : gEnd g t c e z r j = g r j := by
  unfold gEnd
  rw [upd_row h3, upd_row h2, upd_row h6, upd_row h9, upd_row h6, upd_row h9, upd_row h6, upd_row h9]
theorem gEnd_2 {g : Nat → Nat → Int32} {t c j : Nat} {e z : Int32} : gEnd g t c e z 2 j = if j = c then e else g 2 j := by
  unfold gEnd
  rw [upd_row (by omega)]
  by_cases q : j = c
  · rw [if_pos q, q, upd_same]
  · rw [if_neg q, upd_col q, upd_row (by omega), upd_row (by omega), upd_row (by omega), upd_row (by omega), upd_row (by omega), upd_row (by omega)]
theorem gEnd_3 {g : Nat → Nat → Int32} {t c j : Nat} {e z : Int32} : gEnd g t c e z 3 j = if j = c then z else g 3 j := by
  unfold gEnd
  by_cases q : j = c
  · rw [if_pos q, q, upd_same]
  · rw [if_neg q, upd_col q, upd_row (by omega), upd_row (by omega), upd_row (by omega), upd_row (by omega), upd_row (by omega), upd_row (by omega), upd_row (by omega)]
theorem gEnd_ts {g : Nat → Nat → Int32} {t c : Nat} {e z : Int32} : gEnd g t c e z 9 0 = c32 (t + 3) := by
  unfold gEnd
  rw [upd_row (by omega), upd_row (by omega), upd_row (by omega), upd_same]
theorem gEnd_tr {g : Nat → Nat → Int32} {t c j : Nat} {e z : Int32} : gEnd g t c e z 6 j = if j = t + 2 then c32 c ^^^ (-1 : Int32) else if j = t + 1 then g 3 c else if j = t then g 2 c else g 6 j := by
  unfold gEnd
  rw [upd_row (by omega), upd_row (by omega)]
  by_cases q1 : j = t + 2
  · rw [if_pos q1, q1, upd_same]
  · rw [if_neg q1, upd_col q1, upd_row (by omega)]
    by_cases q2 : j = t + 1
    · rw [if_pos q2, q2, upd_same]
    · rw [if_neg q2, upd_col q2, upd_row (by omega)]
      by_cases q3 : j = t
      · rw [if_pos q3, q3, upd_same]
      · rw [if_neg q3, upd_col q3, upd_row (by omega)]
theorem St.endp {n k k' m t q c e' : Nat} {C : Nat → Nat → Int32} {M M' : MM} {z : Int32} (S : St n k (k' + 3) m C M t q) (hc : c < n) (he : e' < n) (W' : Wf n M') (v : ld M' = gEnd (ld M) t c (c32 e') z) : St n k k' m C M' (t + 3) q := by
  obtain ⟨W, ⟨i1, i2, ⟨p, hp, i3⟩, i4, i5, i6, i7, i8, i9⟩, j, hj, R⟩ := S
  have lo : ∀ r j, r ≠ 2 → r ≠ 3 → r ≠ 6 → r ≠ 9 → ld M' r j = ld M r j := fun r j h2 h3 h6 h9 => by rw [v, gEnd_lo h2 h3 h6 h9]
  have eF : F2 n (ld M') = F2 n (ld M) := F2_congr fun a b _ => lo _ _ (by omega) (by omega) (by omega) (by omega)
  have eS : SF n (ld M') = SF n (ld M) := SF_congr fun c => lo _ _ (by omega) (by omega) (by omega) (by omega)
  refine ⟨W', ⟨by rw [v, gEnd_ts], by rw [lo 12 0 (by omega) (by omega) (by omega) (by omega)]; exact i2, ⟨p, hp, by rw [lo 11 0 (by omega) (by omega) (by omega) (by omega)]; exact i3⟩, fun j hj => by rw [lo 4 j (by omega) (by omega) (by omega) (by omega)]; exact i4 j hj, fun d hd => ?_, fun d hd => by rw [lo 0 d (by omega) (by omega) (by omega) (by omega)]; exact i6 d hd, fun a b ha hb => by rw [lo _ b (by omega) (by omega) (by omega) (by omega), lo _ a (by omega) (by omega) (by omega) (by omega)]; exact i7 a b ha hb, by rw [eF, eS]; omega, by rw [eF]; exact i9⟩, j + 1, by omega, ?_⟩
  · rw [v, gEnd_2]
    split
    · exact ⟨e', he, rfl⟩
    · exact i5 d hd
  · have tr : ∀ j, ld M' 6 j = if j = t + 2 then c32 c ^^^ (-1 : Int32) else if j = t + 1 then ld M 3 c else if j = t then ld M 2 c else ld M 6 j := fun j => by rw [v, gEnd_tr]
    refine Or.inr (Or.inr ⟨c, hc, by omega, by rw [tr, if_pos (by omega)], ?_⟩)
    rw [show t + 3 - 3 = t by omega, show t + 3 - 2 = t + 1 by omega, tr t, if_neg (by omega), if_neg (by omega), if_pos rfl, tr (t + 1), if_neg (by omega), if_pos rfl]
    refine Rest.of j R (Agr.symm ⟨fun r hr j => ?_, fun j hj => ?_, fun a j ha => ?_⟩)
    · unfold uPath
      by_cases q3 : r = 3
      · subst q3
        by_cases q : j = c
        · rw [q, upd_same]
        · rw [upd_col q, upd_row (by omega), v, gEnd_3, if_neg q]
      · rw [upd_row q3]
        by_cases q2 : r = 2
        · subst q2
          by_cases q : j = c
          · rw [q, upd_same]
          · rw [upd_col q, v, gEnd_2, if_neg q]
        · rw [upd_row q2, lo r j q2 q3 (by omega) (by omega)]
    · unfold uPath
      rw [upd_row (by omega), upd_row (by omega), tr, if_neg (by omega), if_neg (by omega), if_neg (by omega)]
    · unfold uPath
      rw [upd_row (by omega), upd_row (by omega), lo _ j (by omega) (by omega) (by omega) (by omega)]
theorem InvE.cap2 {n k k' t q a b : Nat} {g : Nat → Nat → Int32} (hn : 0 < n) (I : InvE n k k' g t q) (ha : a < n) (hb : b < n) (hab : a ≠ b) (h0 : g (14 + a) b = 0) : t + k' + 2 ≤ lnR n 6 := by
  have h0' : g (14 + b) a = 0 := by rw [← (I.2.2.2.2.2.2.1 a b ha hb).1]; exact h0
  have e := gSet_F2 (t := t) (s := 1) ha hb hab h0 h0' (by decide)
  have h1 := F2_ge (n := n) (g := gSet g t a b 1) fun x hx => by
    rw [gSet_st, if_neg (by omega), if_neg (by omega)]; exact (I.2.2.2.2.2.2.1 x x hx hx).2 rfl
  have h2 := SF_le I
  have h3 := I.2.2.2.2.2.2.2.1
  show t + k' + 2 ≤ n * (n - 1) + 6 * n
  obtain ⟨z, rfl⟩ : ∃ z, n = z + 1 := ⟨n - 1, by omega⟩
  rw [show z + 1 - 1 = z by omega]
  have : (z + 1) * (z + 1) = (z + 1) * z + (z + 1) := Nat.mul_succ _ _
  omega
theorem eqB_T {a b : Int32} (h : a = b) : eqB a b = true := by subst h; exact Nat.beq_refl _
theorem eqB_F {a b : Int32} (h : a ≠ b) : eqB a b = false := by
  cases e : eqB a b with
  | false => rfl
  | true => exact absurd (Int32.toBitVec_inj.mp (BitVec.eq_of_toNat_eq (Nat.eq_of_beq_eq_true e))) h
theorem f14_spec {n k k' m t q a b : Nat} {C : Nat → Nat → Int32} {M : MM} (hn : 0 < n ∧ n ≤ 100) (S : St n k k' m C M t q) (Pa : Path n (ld M)) (ha : a < n) (hb : b < n) (hab : a ≠ b) :
    ∃ v M' t' q', f14 n M (c32 a) (c32 b) = some (v, M') ∧ St n k k' m C M' t' q' ∧ Path n (ld M') := by
  have g1 : lnR n 1 = n := rfl
  by_cases h0 : ld M (14 + a) b = 0
  · obtain ⟨M1, e1, W1, v1⟩ := f8_spec (s := 2) hn S.1 S.2.1.1 (by have := S.2.1.cap2 hn.1 ha hb hab h0; omega) ha hb rfl
    have l1 : ld M1 1 a = ld M 1 a := by rw [v1, gSet_lo (by omega) (by omega) (by omega) (by omega)]
    obtain ⟨M2, e2, W2, v2⟩ := own_sto (v := ld M 1 a - 1) W1 (r := 1) (j := a) (Or.inl ⟨by omega, by omega⟩)
    have l2 : ld M2 1 b = ld M 1 b := by rw [v2, upd_col (Ne.symm hab), v1, gSet_lo (by omega) (by omega) (by omega) (by omega)]
    obtain ⟨M3, e3, W3, v3⟩ := own_sto (v := ld M 1 b - 1) W2 (r := 1) (j := b) (Or.inl ⟨by omega, by omega⟩)
    have S3 := S.pair (M' := M3) (r := 1) (s := 2) (f := (· - 1)) hn ha hb hab h0 (by decide) W3 (by rw [v3, v2, v1]) (Or.inl ⟨rfl, rfl, fun _ => rfl⟩)
    rw [if_neg (by omega)] at S3
    obtain ⟨M4, q4, e4, S4, A4⟩ := S3.enq hn ha
    obtain ⟨M5, q5, e5, S5, A5⟩ := S4.enq hn hb
    refine ⟨1, M5, _, _, ?_, S5, ?_⟩
    · unfold f14
      refine p_gd (P := (· = _)) (inr_c32 ha (by omega)) (p_gd (P := (· = _)) (inr_c32 hb (by omega)) ?_)
      rw [ix_c32 (n := a) (by omega), ix_c32 (n := b) (by omega), g1]
      exact p_nai (P := (· = _)) h0 (p_T (P := (· = _)) (eqB_T rfl) (p_bnd (P := (· = _)) e1 (p_gd (P := (· = _)) (inr_c32 ha (by omega)) (p_nai (P := (· = _)) l1 (p_nam (P := (· = _)) e2 (p_gd (P := (· = _)) (inr_c32 hb (by omega)) (p_nai (P := (· = _)) l2 (p_nam (P := (· = _)) e3 (p_bnd (P := (· = _)) e4 (p_bnd (P := (· = _)) e5 rfl))))))))))
    · refine (Path.of ?_ A4).of A5
      have z : ∀ r j, r = 0 ∨ r = 2 → ld M3 r j = ld M r j := fun r j hr => by rw [v3, upd_row (by omega), v2, upd_row (by omega), v1, gSet_lo (by omega) (by omega) (by omega) (by omega)]
      exact ⟨fun c hc e => by rw [z 2 c (Or.inr rfl)]; exact Pa.1 c hc (by rw [← z 0 c (Or.inl rfl)]; exact e), fun x y hx hy hn1 e1 e2 => by rw [z 2 x (Or.inr rfl), z 2 y (Or.inr rfl)]; exact Pa.2 x y hx hy hn1 (by rw [← z 0 x (Or.inl rfl)]; exact e1) (by rw [← z 0 y (Or.inl rfl)]; exact e2)⟩
  · have key : ∃ v, f14 n M (c32 a) (c32 b) = some (v, M) := by
      unfold f14
      rw [gd_T (inr_c32 ha (by omega)), gd_T (inr_c32 hb (by omega)), ix_c32 (n := a) (by omega), ix_c32 (n := b) (by omega)]
      refine p_nai (P := fun x => ∃ v, x = some (v, M)) rfl (p_F (P := fun x => ∃ v, x = some (v, M)) (eqB_F h0) ?_)
      cases eqB (ld M (14 + a) b) 2
      · exact ⟨0, rfl⟩
      · exact ⟨1, rfl⟩
    obtain ⟨v, e⟩ := key
    exact ⟨v, M, t, q, e, S, Pa⟩
theorem Path.merge {n a b ea eb : Nat} {g g' : Nat → Nat → Int32} (hn : n ≤ 100) (Pa : Path n g) (i6 : ∀ c, c < n → g 0 c = c32 0 ∨ g 0 c = c32 1 ∨ g 0 c = c32 2) (ha : a < n) (hb : b < n) (hab : a ≠ b) (ga : g 0 a ≠ c32 2) (gb : g 0 b ≠ c32 2) (la : ea < n) (lb : eb < n) (h2a : g 2 a = c32 ea) (h2b : g 2 b = c32 eb)
    (f0 : ∀ c, c < n → g' 0 c = if c = b then g 0 b + 1 else if c = a then g 0 a + 1 else g 0 c) (f2 : ∀ c, c < n → g' 2 c = if c = eb then c32 ea else if c = ea then c32 eb else g 2 c) : Path n g' ∧ ea ≠ eb := by
  have ne : ea ≠ eb := fun e => Pa.2 a b ha hb hab ga gb (by rw [h2a, h2b, e])
  have one : ∀ x : Int32, x = c32 0 ∨ x = c32 1 ∨ x = c32 2 → x ≠ c32 2 → x + 1 ≠ c32 0 ∧ (x + 1 ≠ c32 2 → x = c32 0) := by
    intro x hx hn2
    rcases hx with rfl | rfl | rfl
    · exact ⟨by decide, fun _ => rfl⟩
    · exact ⟨by decide, fun h => absurd rfl h⟩
    · exact absurd rfl hn2
  have oa := one _ (i6 a ha) ga
  have ob := one _ (i6 b hb) gb
  -- what is no 2 now was none before
  have no2 : ∀ c, c < n → g' 0 c ≠ c32 2 → g 0 c ≠ c32 2 := fun c hc h => by
    rw [f0 c hc] at h
    by_cases q1 : c = b
    · rw [q1]; exact gb
    · rw [if_neg q1] at h
      by_cases q2 : c = a
      · rw [q2]; exact ga
      · rw [if_neg q2] at h; exact h
  have zb : g' 0 b ≠ c32 2 → eb = b := fun h => by
    rw [f0 b hb, if_pos rfl] at h
    have := Pa.1 b hb (ob.2 h)
    exact c32_inj (by omega) (by omega) (h2b.symm.trans this)
  have za : g' 0 a ≠ c32 2 → ea = a := fun h => by
    rw [f0 a ha, if_neg hab, if_pos rfl] at h
    have := Pa.1 a ha (oa.2 h)
    exact c32_inj (by omega) (by omega) (h2a.symm.trans this)
  -- an end that points at ea or eb is a or b
  have at_ : ∀ c, c < n → g 0 c ≠ c32 2 → (g 2 c = c32 ea → c = a) ∧ (g 2 c = c32 eb → c = b) := fun c hc h => by
    refine ⟨fun e => ?_, fun e => ?_⟩
    · rcases Decidable.em (c = a) with q | q
      · exact q
      · exact absurd (e.trans h2a.symm) (Pa.2 c a hc ha q h ga)
    · rcases Decidable.em (c = b) with q | q
      · exact q
      · exact absurd (e.trans h2b.symm) (Pa.2 c b hc hb q h gb)
  refine ⟨⟨fun c hc e => ?_, fun x y hx hy hxy h1 h2 => ?_⟩, ne⟩
  · have cb : c ≠ b := fun z => by rw [f0 c hc, if_pos z] at e; exact ob.1 e
    have ca : c ≠ a := fun z => by rw [f0 c hc, if_neg cb, if_pos z] at e; exact oa.1 e
    rw [f0 c hc, if_neg cb, if_neg ca] at e
    have k := Pa.1 c hc e
    have n2 : g 0 c ≠ c32 2 := by rw [e]; decide
    rw [f2 c hc, if_neg (fun z => cb ((at_ c hc n2).2 (by rw [k, z]))), if_neg (fun z => ca ((at_ c hc n2).1 (by rw [k, z])))]
    exact k
  · have nx := no2 x hx h1
    have ny := no2 y hy h2
    -- one of the two new ends against an old one
    have side : ∀ u w, u < n → w < n → u ≠ w → g' 0 w ≠ c32 2 → g 0 w ≠ c32 2 → w ≠ ea → w ≠ eb → (u = ea ∨ u = eb) → g' 2 u ≠ g 2 w := by
      intro u w hu hw huw hw' hw2 we wf hue e
      rcases hue with rfl | rfl
      · rw [f2 u hu, if_neg ne, if_pos rfl] at e
        have := (at_ w hw hw2).2 e.symm
        subst this
        exact wf (zb hw').symm
      · rw [f2 u hu, if_pos rfl] at e
        have := (at_ w hw hw2).1 e.symm
        subst this
        exact we (za hw').symm
    by_cases qx : x = ea ∨ x = eb
    · by_cases qy : y = ea ∨ y = eb
      · intro e
        rw [f2 x hx, f2 y hy] at e
        rcases qx with rfl | rfl <;> rcases qy with rfl | rfl
        · exact hxy rfl
        · rw [if_neg ne, if_pos rfl, if_pos rfl] at e; exact ne (c32_inj (by omega) (by omega) e.symm)
        · rw [if_pos rfl, if_neg ne, if_pos rfl] at e; exact ne (c32_inj (by omega) (by omega) e)
        · exact hxy rfl
      · have k : g' 2 y = g 2 y := by rw [f2 y hy, if_neg (fun z => qy (Or.inr z)), if_neg (fun z => qy (Or.inl z))]
        rw [k]
        exact side x y hx hy hxy h2 ny (fun z => qy (Or.inl z)) (fun z => qy (Or.inr z)) qx
    · have k : g' 2 x = g 2 x := by rw [f2 x hx, if_neg (fun z => qx (Or.inr z)), if_neg (fun z => qx (Or.inl z))]
      rw [k]
      by_cases qy : y = ea ∨ y = eb
      · exact Ne.symm (side y x hy hx (Ne.symm hxy) h1 nx (fun z => qx (Or.inl z)) (fun z => qx (Or.inr z)) qy)
      · rw [f2 y hy, if_neg (fun z => qy (Or.inr z)), if_neg (fun z => qy (Or.inl z))]
        exact Pa.2 x y hx hy hxy nx ny
/-! what every operation keeps -/
def Ok (n k k' m : Nat) (C : Nat → Nat → Int32) (x : Option (Int32 × MM)) : Prop := ∃ v M' t' q', x = some (v, M') ∧ St n k k' m C M' t' q' ∧ Path n (ld M')
theorem Path.raise {n a b : Nat} {g g' : Nat → Nat → Int32} (Pa : Path n g) (i6 : ∀ c, c < n → g 0 c = c32 0 ∨ g 0 c = c32 1 ∨ g 0 c = c32 2) (ha : a < n) (hb : b < n) (ga : g 0 a ≠ c32 2) (gb : g 0 b ≠ c32 2)
    (f0 : ∀ c, c < n → g' 0 c = if c = b then g 0 b + 1 else if c = a then g 0 a + 1 else g 0 c) (f2 : ∀ c, c < n → g' 2 c = g 2 c) : Path n g' := by
  have one : ∀ x : Int32, x = c32 0 ∨ x = c32 1 ∨ x = c32 2 → x ≠ c32 2 → x + 1 ≠ c32 0 := by
    intro x hx hn2
    rcases hx with rfl | rfl | rfl
    · decide
    · decide
    · exact absurd rfl hn2
  have no2 : ∀ c, c < n → g' 0 c ≠ c32 2 → g 0 c ≠ c32 2 := fun c hc h => by
    rw [f0 c hc] at h
    by_cases q1 : c = b
    · rw [q1]; exact gb
    · rw [if_neg q1] at h
      by_cases q2 : c = a
      · rw [q2]; exact ga
      · rw [if_neg q2] at h; exact h
  refine ⟨fun c hc e => ?_, fun x y hx hy hxy h1 h2 => ?_⟩
  · have cb : c ≠ b := fun z => by rw [f0 c hc, if_pos z] at e; exact one _ (i6 b hb) gb e
    have ca : c ≠ a := fun z => by rw [f0 c hc, if_neg cb, if_pos z] at e; exact one _ (i6 a ha) ga e
    rw [f0 c hc, if_neg cb, if_neg ca] at e
    rw [f2 c hc]; exact Pa.1 c hc e
  · rw [f2 x hx, f2 y hy]; exact Pa.2 x y hx hy hxy (no2 x hx h1) (no2 y hy h2)
theorem Ok.cnd {n k k' m : Nat} {C : Nat → Nat → Int32} {b : Bool} {o u : Option (Int32 × MM)} (h : Ok n k k' m C o) (h' : Ok n k k' m C u) : Ok n k k' m C (cnd b o u) := by
  cases b
  · exact h'
  · exact h
theorem f7_spec {n k k' m t q a b : Nat} {C : Nat → Nat → Int32} {M : MM} (hn : 0 < n ∧ n ≤ 100) (S : St n k k' m C M t q) (Pa : Path n (ld M)) (ha : a < n) (hb : b < n) (hab : a ≠ b) :
    Ok n k k' m C (f7 n M (c32 a) (c32 b)) := by
  have g0 : lnR n 0 = n := rfl
  have g2 : lnR n 2 = n := rfl
  have g3 : lnR n 3 = n := rfl
  have nop : ∀ v, Ok n k k' m C (some (v, M)) := fun v => ⟨v, M, t, q, rfl, S, Pa⟩
  unfold f7
  rw [ix_c32 (n := a) (by omega), ix_c32 (n := b) (by omega), g0, g2, g3]
  refine p_gd (P := Ok n k k' m C) (inr_c32 ha (by omega)) (p_gd (P := Ok n k k' m C) (inr_c32 hb (by omega)) (p_nai (P := Ok n k k' m C) rfl ?_))
  by_cases h0 : ld M (14 + a) b = 0
  case neg => exact p_F (P := Ok n k k' m C) (eqB_F h0) (Ok.cnd (nop _) (nop _))
  refine p_T (P := Ok n k k' m C) (eqB_T h0) (p_gd (P := Ok n k k' m C) (inr_c32 ha (by omega)) (p_nai (P := Ok n k k' m C) rfl ?_))
  by_cases ga : ld M 0 a = c32 2
  case pos => exact p_T (P := Ok n k k' m C) (eqB_T ga) (nop _)
  refine p_F (P := Ok n k k' m C) (eqB_F ga) (p_gd (P := Ok n k k' m C) (inr_c32 hb (by omega)) (p_nai (P := Ok n k k' m C) rfl ?_))
  by_cases gb : ld M 0 b = c32 2
  case pos => exact p_T (P := Ok n k k' m C) (eqB_T gb) (nop _)
  refine p_F (P := Ok n k k' m C) (eqB_F gb) (p_gd (P := Ok n k k' m C) (inr_c32 ha (by omega)) ?_)
  obtain ⟨ea, la, h2a⟩ := S.2.1.2.2.2.2.1 a ha
  obtain ⟨eb, lb, h2b⟩ := S.2.1.2.2.2.2.1 b hb
  refine p_nai (P := Ok n k k' m C) h2a (p_gd (P := Ok n k k' m C) (inr_c32 hb (by omega)) (p_nai (P := Ok n k k' m C) h2b ?_))
  obtain ⟨M1, e1, W1, v1⟩ := f8_spec (s := 1) hn S.1 S.2.1.1 (by have := S.2.1.cap2 hn.1 ha hb hab h0; omega) ha hb rfl
  have l1 : ld M1 0 a = ld M 0 a := by rw [v1, gSet_lo (by omega) (by omega) (by omega) (by omega)]
  obtain ⟨M2, e2, W2, v2⟩ := own_sto (v := ld M 0 a + 1) W1 (r := 0) (j := a) (Or.inl ⟨by omega, by omega⟩)
  have l2 : ld M2 0 b = ld M 0 b := by rw [v2, upd_col (Ne.symm hab), v1, gSet_lo (by omega) (by omega) (by omega) (by omega)]
  obtain ⟨M3, e3, W3, v3⟩ := own_sto (v := ld M 0 b + 1) W2 (r := 0) (j := b) (Or.inl ⟨by omega, by omega⟩)
  have S3 := S.pair (M' := M3) (r := 0) (s := 1) (f := (· + 1)) hn ha hb hab h0 (by decide) W3 (by rw [v3, v2, v1]) (Or.inr ⟨rfl, rfl, fun _ => rfl, ga, gb⟩)
  rw [if_pos rfl] at S3
  obtain ⟨M4, q4, e4, S4, A4⟩ := S3.enq hn ha
  obtain ⟨M5, q5, e5, S5, A5⟩ := S4.enq hn hb
  refine p_bnd (P := Ok n k k' m C) e1 (p_nai (P := Ok n k k' m C) l1 (p_nam (P := Ok n k k' m C) e2 (p_nai (P := Ok n k k' m C) l2 (p_nam (P := Ok n k k' m C) e3 (p_bnd (P := Ok n k k' m C) e4 (p_bnd (P := Ok n k k' m C) e5 ?_))))))
  have A35 := A4.trans A5
  have f0 : ∀ c, c < n → ld M5 0 c = if c = b then ld M 0 b + 1 else if c = a then ld M 0 a + 1 else ld M 0 c := fun c hc => by
    rw [← A35.1 0 (by omega), v3]
    by_cases q1 : c = b
    · rw [if_pos q1, q1, upd_same]
    · rw [if_neg q1, upd_col q1, v2]
      by_cases q2 : c = a
      · rw [if_pos q2, q2, upd_same]
      · rw [if_neg q2, upd_col q2, v1, gSet_lo (by omega) (by omega) (by omega) (by omega)]
  have f2 : ∀ c, c < n → ld M5 2 c = ld M 2 c := fun c hc => by
    rw [← A35.1 2 (by omega), v3, upd_row (by omega), v2, upd_row (by omega), v1, gSet_lo (by omega) (by omega) (by omega) (by omega)]
  by_cases hea : c32 ea = c32 b
  · exact p_T (P := Ok n k k' m C) (eqB_T hea) ⟨1, M5, _, _, rfl, S5.weak (by omega) (by omega), Pa.raise S.2.1.2.2.2.2.2.1 ha hb ga gb f0 f2⟩
  refine p_F (P := Ok n k k' m C) (eqB_F hea) (p_gd (P := Ok n k k' m C) (inr_c32 ha (by omega)) (p_nai (P := Ok n k k' m C) rfl (p_gd (P := Ok n k k' m C) (inr_c32 hb (by omega)) (p_nai (P := Ok n k k' m C) rfl ?_))))
  have cap5 := S5.2.1.cap hn.1
  obtain ⟨M6, e6, W6, v6⟩ := f10_spec (e := c32 eb) (z := ld M5 3 a + ld M5 3 b) hn S5.1 S5.2.1.1 (by omega) la
  have S6 := St.endp (k' := k' + 3) S5 la lb W6 v6
  obtain ⟨M7, e7, W7, v7⟩ := f10_spec (e := c32 ea) (z := ld M5 3 a + ld M5 3 b) hn S6.1 S6.2.1.1 (by omega) lb
  have S7 := St.endp (k' := k') S6 lb la W7 v7
  obtain ⟨P7, ne⟩ := Path.merge (g' := ld M7) hn.2 Pa S.2.1.2.2.2.2.2.1 ha hb hab ga gb la lb h2a h2b (fun c hc => by rw [v7, gEnd_lo (by omega) (by omega) (by omega) (by omega), v6, gEnd_lo (by omega) (by omega) (by omega) (by omega)]; exact f0 c hc) (fun c hc => by rw [v7, gEnd_2, v6, gEnd_2, f2 c hc])
  refine p_bnd (P := Ok n k k' m C) e6 (p_bnd (P := Ok n k k' m C) e7 ?_)
  have nop7 : ∀ v, Ok n k k' m C (some (v, M7)) := fun v => ⟨v, M7, _, _, rfl, S7, P7⟩
  refine Ok.cnd (nop7 _) (Ok.cnd (nop7 _) ?_)
  obtain ⟨v, M8, t8, q8, e8, S8, P8⟩ := f14_spec hn S7 P7 la lb ne
  refine p_bnd (P := Ok n k k' m C) e8 ?_
  exact Ok.cnd ⟨_, M8, _, _, rfl, S8, P8⟩ ⟨_, M8, _, _, rfl, S8, P8⟩
/-! the rules, the ring, the operations -/
theorem Ok.of {n k k' k1 k1' m : Nat} {C : Nat → Nat → Int32} {x : Option (Int32 × MM)} (h : Ok n k k' m C x) (h1 : k1 ≤ k) (h2 : k1' ≤ k') : Ok n k1 k1' m C x := by
  obtain ⟨v, M', t', q', e, S, P⟩ := h
  exact ⟨v, M', t', q', e, S.weak h1 h2, P⟩
theorem lp12_spec {n k k' m a : Nat} {C : Nat → Nat → Int32} (hn : 0 < n ∧ n ≤ 100) (ha : a < n) (z : Int32) : ∀ (F o : Nat) {M : MM} {t q : Nat}, n < F + o → o ≤ n → St n k k' m C M t q → Path n (ld M) → Ok n k k' m C (lp12 n F M (c32 a) z (c32 o)) := by
  intro F
  induction F with
  | zero => intro o M t q h1 h2; omega
  | succ F ih =>
    intro o M t q h1 h2 S Pa
    rw [lp12]
    by_cases hd : o < n
    case neg => exact p_F (P := Ok n k k' m C) (ltB_F (by omega) (by omega) hd) ⟨1, M, t, q, rfl, S, Pa⟩
    refine p_T (P := Ok n k k' m C) (ltB_T (by omega) (by omega) hd) ?_
    rw [c32_succ]
    by_cases hoa : o = a
    · exact p_T (P := Ok n k k' m C) (eqB_T (by rw [hoa])) (ih (o + 1) (by omega) (by omega) S Pa)
    refine p_F (P := Ok n k k' m C) (eqB_F fun e => hoa (c32_inj (by omega) (by omega) e)) (p_gd (P := Ok n k k' m C) (inr_c32 ha (by omega)) (p_gd (P := Ok n k k' m C) (inr_c32 hd (by omega)) (p_nai (P := Ok n k k' m C) rfl ?_)))
    refine Ok.cnd (Ok.cnd ?_ ?_) (ih (o + 1) (by omega) (by omega) S Pa)
    · obtain ⟨v, M', t', q', e, S', P'⟩ := f7_spec hn S Pa ha hd (Ne.symm hoa)
      exact p_bnd (P := Ok n k k' m C) e (Ok.cnd ⟨_, M', t', q', rfl, S', P'⟩ (ih (o + 1) (by omega) (by omega) S' P'))
    · obtain ⟨v, M', t', q', e, S', P'⟩ := f14_spec hn S Pa ha hd (Ne.symm hoa)
      exact p_bnd (P := Ok n k k' m C) e (Ok.cnd ⟨_, M', t', q', rfl, S', P'⟩ (ih (o + 1) (by omega) (by omega) S' P'))
theorem f12_spec {n k k' m t q a : Nat} {C : Nat → Nat → Int32} {M : MM} (hn : 0 < n ∧ n ≤ 100) (S : St n k k' m C M t q) (Pa : Path n (ld M)) (ha : a < n) : Ok n k k' m C (f12 n M (c32 a)) := by
  have g0 : lnR n 0 = n := rfl
  have g1 : lnR n 1 = n := rfl
  have nop : ∀ v, Ok n k k' m C (some (v, M)) := fun v => ⟨v, M, t, q, rfl, S, Pa⟩
  have lp : ∀ z, Ok n k k' m C (lp12 n 200 M (c32 a) z (0 : Int32)) := fun z => lp12_spec hn ha z 200 0 (by omega) (by omega) S Pa
  unfold f12
  rw [g0, g1]
  refine p_gd (P := Ok n k k' m C) (inr_c32 ha (by omega)) (p_nai (P := Ok n k k' m C) rfl (Ok.cnd (nop _) (p_gd (P := Ok n k k' m C) (inr_c32 ha (by omega)) (p_nai (P := Ok n k k' m C) rfl (Ok.cnd ?_ ?_)))))
  · exact p_nai (P := Ok n k k' m C) rfl (Ok.cnd (nop _) (lp _))
  · exact p_nai (P := Ok n k k' m C) rfl (Ok.cnd (lp _) (nop _))
theorem St.pop {n k k' m t q p : Nat} {C : Nat → Nat → Int32} {M M' : MM} (S : St n k k' m C M t q) (hn : 0 < n ∧ n ≤ 100) (Pa : Path n (ld M)) (W' : Wf n M') (lo : ∀ r j, r ≠ 5 → r ≠ 11 → r ≠ 12 → ld M' r j = ld M r j) (hp : p < n) (h11 : ld M' 11 0 = c32 p) (h12 : ld M' 12 0 = c32 (q - 1)) (hq : 0 < q) : St n (k + 1) k' m C M' t (q - 1) ∧ Path n (ld M') := by
  have A : Agr n t (ld M) (ld M') := ⟨fun r hr j => (lo r j (by omega) (by omega) (by omega)).symm, fun j _ => (lo 6 j (by omega) (by omega) (by omega)).symm, fun a j _ => (lo _ j (by omega) (by omega) (by omega)).symm⟩
  refine ⟨?_, Pa.of A⟩
  obtain ⟨W, ⟨i1, i2, i3, i4, i5, i6, i7, i8, i9⟩, j, hj, R⟩ := S
  have eF : F2 n (ld M') = F2 n (ld M) := F2_congr fun a b _ => lo _ _ (by omega) (by omega) (by omega)
  have eS : SF n (ld M') = SF n (ld M) := SF_congr fun c => lo _ _ (by omega) (by omega) (by omega)
  exact ⟨W', ⟨by rw [lo _ _ (by omega) (by omega) (by omega)]; exact i1, h12, ⟨p, hp, h11⟩, fun j hj => by rw [lo _ _ (by omega) (by omega) (by omega)]; exact i4 j hj, fun c hc => by rw [lo _ _ (by omega) (by omega) (by omega)]; exact i5 c hc, fun c hc => by rw [lo _ _ (by omega) (by omega) (by omega)]; exact i6 c hc, fun a b ha hb => by rw [lo _ _ (by omega) (by omega) (by omega), lo _ _ (by omega) (by omega) (by omega)]; exact i7 a b ha hb, by rw [eF, eS]; exact i8, by rw [eF]; omega⟩, j, hj, Rest.of j R A⟩
theorem lp21_spec {n k' m : Nat} {C : Nat → Nat → Int32} (hn : 0 < n ∧ n ≤ 100) : ∀ (F : Nat) {M : MM} {k t q : Nat}, q < F → St n k k' m C M t q → Path n (ld M) → Ok n k k' m C (lp21 n F M) := by
  have b := nn_bound hn.2
  intro F
  induction F with
  | zero => intro M k t q h; omega
  | succ F ih =>
    intro M k t q h S Pa
    have i9 := S.2.1.2.2.2.2.2.2.2.2
    obtain ⟨p, hp, i3⟩ := S.2.1.2.2.1
    obtain ⟨c, hc, i4⟩ := S.2.1.2.2.2.1 p hp
    have g4 : lnR n 4 = n := rfl
    have g5 : lnR n 5 = n := rfl
    rw [lp21]
    refine p_nai (P := Ok n k k' m C) S.2.1.2.1 ?_
    by_cases hq : 0 < q
    case neg => exact p_F (P := Ok n k k' m C) (ltB_F (a := 0) (by omega) (by omega) hq) ⟨0, M, t, q, rfl, S, Pa⟩
    refine p_T (P := Ok n k k' m C) (ltB_T (a := 0) (by omega) (by omega) hq) (p_nai (P := Ok n k k' m C) i3 ?_)
    rw [ix_c32 (n := p) (by omega), g4, g5]
    refine p_gd (P := Ok n k k' m C) (inr_c32 hp (by omega)) (p_nai (P := Ok n k k' m C) i4 (p_gd (P := Ok n k k' m C) (inr_c32 hc (by omega)) ?_))
    rw [ix_c32 (n := c) (by omega)]
    obtain ⟨M1, e1, W1, v1⟩ := own_sto (v := (0 : Int32)) S.1 (r := 5) (j := c) (Or.inl ⟨by omega, by omega⟩)
    have t1 : ld M1 11 0 = c32 p := by rw [v1, upd_row (by omega)]; exact i3
    refine p_nam (P := Ok n k k' m C) e1 (p_nai (P := Ok n k k' m C) t1 ?_)
    rw [c32_succ, c32_rem (by omega) (by omega)]
    obtain ⟨M2, e2, W2, v2⟩ := own_sto (v := c32 ((p + 1) % n)) W1 (r := 11) (j := 0) (Or.inr (Or.inl ⟨by omega, by omega, rfl⟩))
    have t2 : ld M2 12 0 = c32 q := by rw [v2, upd_row (by omega), v1, upd_row (by omega)]; exact S.2.1.2.1
    refine p_nam (P := Ok n k k' m C) e2 (p_nai (P := Ok n k k' m C) t2 ?_)
    rw [show c32 q - 1 = c32 (q - 1) from c32_sub (b := 1) (by omega)]
    obtain ⟨M3, e3, W3, v3⟩ := own_sto (v := c32 (q - 1)) W2 (r := 12) (j := 0) (Or.inr (Or.inl ⟨by omega, by omega, rfl⟩))
    refine p_nam (P := Ok n k k' m C) e3 ?_
    obtain ⟨S3, P3⟩ := S.pop (M' := M3) hn Pa W3 (fun r j h5 h11 h12 => by rw [v3, upd_row h12, v2, upd_row h11, v1, upd_row h5]) (Nat.mod_lt (p + 1) hn.1) (by rw [v3, upd_row (by omega), v2, upd_same]) (by rw [v3, upd_same]) hq
    exact (ih (by omega) S3 P3).of (by omega) (by omega)
theorem lp11_spec {n k' m : Nat} {C : Nat → Nat → Int32} (hn : 0 < n ∧ n ≤ 12) : ∀ (F : Nat) {M : MM} {k t q : Nat}, n * n < F + k → St n k k' m C M t q → Path n (ld M) → Ok n 0 k' m C (lp11 n F M) := by
  have b : n * n ≤ 12 * 12 := Nat.mul_le_mul hn.2 hn.2
  intro F
  induction F with
  | zero =>
    intro M k t q h S
    have i9 := S.2.1.2.2.2.2.2.2.2.2
    omega
  | succ F ih =>
    intro M k t q h S Pa
    have i9 := S.2.1.2.2.2.2.2.2.2.2
    obtain ⟨p, hp, i3⟩ := S.2.1.2.2.1
    obtain ⟨c, hc, i4⟩ := S.2.1.2.2.2.1 p hp
    have g4 : lnR n 4 = n := rfl
    have g5 : lnR n 5 = n := rfl
    rw [lp11]
    refine p_nai (P := Ok n 0 k' m C) S.2.1.2.1 ?_
    by_cases hq : 0 < q
    case neg => exact p_F (P := Ok n 0 k' m C) (ltB_F (a := 0) (by omega) (by omega) hq) ⟨1, M, t, q, rfl, S.weak (by omega) (by omega), Pa⟩
    refine p_T (P := Ok n 0 k' m C) (ltB_T (a := 0) (by omega) (by omega) hq) (p_nai (P := Ok n 0 k' m C) i3 ?_)
    rw [ix_c32 (n := p) (by omega), g4, g5]
    refine p_gd (P := Ok n 0 k' m C) (inr_c32 hp (by omega)) (p_nai (P := Ok n 0 k' m C) i4 ?_)
    rw [c32_succ, c32_rem (by omega) (by omega)]
    obtain ⟨M1, e1, W1, v1⟩ := own_sto (v := c32 ((p + 1) % n)) S.1 (r := 11) (j := 0) (Or.inr (Or.inl ⟨by omega, by omega, rfl⟩))
    have t1 : ld M1 12 0 = c32 q := by rw [v1, upd_row (by omega)]; exact S.2.1.2.1
    refine p_nam (P := Ok n 0 k' m C) e1 (p_nai (P := Ok n 0 k' m C) t1 ?_)
    rw [show c32 q - 1 = c32 (q - 1) from c32_sub (b := 1) (by omega)]
    obtain ⟨M2, e2, W2, v2⟩ := own_sto (v := c32 (q - 1)) W1 (r := 12) (j := 0) (Or.inr (Or.inl ⟨by omega, by omega, rfl⟩))
    refine p_nam (P := Ok n 0 k' m C) e2 (p_gd (P := Ok n 0 k' m C) (inr_c32 hc (by omega)) ?_)
    rw [ix_c32 (n := c) (by omega)]
    obtain ⟨M3, e3, W3, v3⟩ := own_sto (v := (0 : Int32)) W2 (r := 5) (j := c) (Or.inl ⟨by omega, by omega⟩)
    refine p_nam (P := Ok n 0 k' m C) e3 ?_
    obtain ⟨S3, P3⟩ := S.pop (M' := M3) ⟨hn.1, by omega⟩ Pa W3 (fun r j h5 h11 h12 => by rw [v3, upd_row h5, v2, upd_row h12, v1, upd_row h11]) (Nat.mod_lt (p + 1) hn.1) (by rw [v3, upd_row (by omega), v2, upd_row (by omega), v1, upd_same]) (by rw [v3, upd_row (by omega), v2, upd_same]) hq
    obtain ⟨v, M4, t4, q4, e4, S4, P4⟩ := f12_spec ⟨hn.1, by omega⟩ S3 P3 hc
    refine p_bnd (P := Ok n 0 k' m C) e4 (Ok.cnd ?_ (ih (by omega) S4 P4))
    have j9 := S4.2.1.2.2.2.2.2.2.2.2
    obtain ⟨v5, M5, t5, q5, e5, S5, P5⟩ := lp21_spec ⟨hn.1, by omega⟩ 200 (by omega) S4 P4
    exact p_bnd (P := Ok n 0 k' m C) (o := f21 n M4) e5 ⟨_, M5, _, _, rfl, S5.weak (by omega) (by omega), P5⟩
theorem f6_spec {n m t q a b : Nat} {C : Nat → Nat → Int32} {M : MM} (hn : 0 < n ∧ n ≤ 12) (S : St n 0 0 m C M t q) (Pa : Path n (ld M)) (ha : a < n) (hb : b < n) (hab : a ≠ b) : Ok n 0 0 m C (f6 n M (c32 a) (c32 b)) := by
  have bb : n * n ≤ 12 * 12 := Nat.mul_le_mul hn.2 hn.2
  obtain ⟨v, M1, t1, q1, e1, S1, P1⟩ := f7_spec ⟨hn.1, by omega⟩ S Pa ha hb hab
  unfold f6
  refine p_bnd (P := Ok n 0 0 m C) e1 (Ok.cnd ⟨_, M1, _, _, rfl, S1, P1⟩ ?_)
  obtain ⟨v2, M2, t2, q2, e2, S2, P2⟩ := lp11_spec hn 200 (by omega) S1 P1
  exact p_bnd (P := Ok n 0 0 m C) (o := f11 n M1) e2 (Ok.cnd ⟨_, M2, _, _, rfl, S2, P2⟩ ⟨_, M2, _, _, rfl, S2, P2⟩)
theorem f15_spec {n m t q a b : Nat} {C : Nat → Nat → Int32} {M : MM} (hn : 0 < n ∧ n ≤ 12) (S : St n 0 0 m C M t q) (Pa : Path n (ld M)) (ha : a < n) (hb : b < n) (hab : a ≠ b) : Ok n 0 0 m C (f15 n M (c32 a) (c32 b)) := by
  have bb : n * n ≤ 12 * 12 := Nat.mul_le_mul hn.2 hn.2
  obtain ⟨v, M1, t1, q1, e1, S1, P1⟩ := f14_spec ⟨hn.1, by omega⟩ S Pa ha hb hab
  unfold f15
  refine p_bnd (P := Ok n 0 0 m C) e1 (Ok.cnd ⟨_, M1, _, _, rfl, S1, P1⟩ ?_)
  obtain ⟨v2, M2, t2, q2, e2, S2, P2⟩ := lp11_spec hn 200 (by omega) S1 P1
  exact p_bnd (P := Ok n 0 0 m C) (o := f11 n M1) e2 (Ok.cnd ⟨_, M2, _, _, rfl, S2, P2⟩ ⟨_, M2, _, _, rfl, S2, P2⟩)
/-! the law -/
def P1 (x : Option (Int32 × MM)) : Prop := ∃ Mf, x = some (1, Mf)
theorem P1.cnd {b : Bool} {o u : Option (Int32 × MM)} (h : P1 o) (h' : P1 u) : P1 (cnd b o u) := by
  cases b
  · exact h'
  · exact h
theorem cnd_tr {b : Bool} {o u o' u' : Option (Int32 × MM)} (h : P1 o → P1 u) (h' : P1 o' → P1 u') : P1 (cnd b o o') → P1 (cnd b u u') := by
  cases b
  · exact h'
  · exact h
def Tr (x y : Nat) (M M2 : MM) : Prop := ld M 9 0 = ld M2 9 0 ∧ ld M (14 + x) y = ld M2 (14 + x) y ∧ ld M 1 x = ld M2 1 x ∧ ld M 0 x = ld M2 0 x ∧ ld M 2 x = ld M2 2 x
section tail
variable {p0 p1 p2 p3 p4 p5 q0 q1 q2 q3 q4 q5 a6 a7 a8 a15 m b20 b21 b22 b23 b24 b25 : Int32} {n x y : Nat} {M M2 : MM}
theorem e444 (hn : n ≤ 100) (hx : x < n) (hy : y < n) : f0_444 p0 p1 p2 p3 p4 p5 n M (c32 x) (c32 y) m b22 b23 b24 b25 = cnd (eqB (ld M 9 0) m) (cnd (eqB (nar .byte (ld M (14 + x) y)) b22) (cnd (eqB (ld M 1 x) b23) (cnd (eqB (ld M 0 x) b24) (cnd (eqB (ld M 2 x) b25) (some (1, M)) (some (0, M))) (some (0, M))) (some (0, M))) (some (0, M))) (some (0, M)) := by
  have g0 : lnR n 0 = n := rfl
  have g1 : lnR n 1 = n := rfl
  have g2 : lnR n 2 = n := rfl
  have e17 : f17 n M (c32 x) (c32 y) = some (nar .byte (ld M (14 + x) y), M) := by unfold f17; rw [gd_T (inr_c32 hx (by omega)), gd_T (inr_c32 hy (by omega)), ix_c32 (by omega), ix_c32 (by omega)]; rfl
  have e18 : f18 n M (c32 x) = some (ld M 1 x, M) := by unfold f18; rw [g1, gd_T (inr_c32 hx (by omega)), ix_c32 (by omega)]; rfl
  have e19 : f19 n M (c32 x) = some (ld M 0 x, M) := by unfold f19; rw [g0, gd_T (inr_c32 hx (by omega)), ix_c32 (by omega)]; rfl
  have e20 : f20 n M (c32 x) = some (ld M 2 x, M) := by unfold f20; rw [g2, gd_T (inr_c32 hx (by omega)), ix_c32 (by omega)]; rfl
  unfold f0_444
  refine p_bnd (P := (· = _)) (v := ld M 9 0) (M := M) rfl ?_
  cases eqB (ld M 9 0) m
  · rfl
  refine p_bnd (P := (· = _)) e17 ?_
  cases eqB (nar .byte (ld M (14 + x) y)) b22
  · rfl
  refine p_bnd (P := (· = _)) e18 ?_
  cases eqB (ld M 1 x) b23
  · rfl
  refine p_bnd (P := (· = _)) e19 ?_
  cases eqB (ld M 0 x) b24
  · rfl
  exact p_bnd (P := (· = _)) e20 rfl
theorem t444 (hn : n ≤ 100) (hx : x < n) (hy : y < n) (T : Tr x y M M2) : P1 (f0_444 p0 p1 p2 p3 p4 p5 n M (c32 x) (c32 y) m b22 b23 b24 b25) → P1 (f0_444 q0 q1 q2 q3 q4 q5 n M2 (c32 x) (c32 y) m b22 b23 b24 b25) := by
  obtain ⟨h1, h2, h3, h4, h5⟩ := T
  have no : ∀ M M2 : MM, P1 (some (0, M)) → P1 (some (0, M2)) := fun M M2 h => by obtain ⟨z, h⟩ := h; cases h
  rw [e444 hn hx hy, e444 hn hx hy, h1, h2, h3, h4, h5]
  exact cnd_tr (cnd_tr (cnd_tr (cnd_tr (cnd_tr (fun _ => ⟨M2, rfl⟩) (no _ _)) (no _ _)) (no _ _)) (no _ _)) (no _ _)
theorem t406 (hn : n ≤ 100) (hx : x < n) (hy : y < n) (T : Tr x y M M2) : P1 (f0_406 p0 p1 p2 p3 p4 p5 n M a7 a8 (c32 x) (c32 y) a15 m b22 b23 b24) → P1 (f0_406 q0 q1 q2 q3 q4 q5 n M2 a7 a8 (c32 x) (c32 y) a15 m b22 b23 b24) := by
  unfold f0_406
  repeat' (first | exact t444 hn hx hy T | refine cnd_tr ?_ ?_)
theorem t389 (hn : n ≤ 100) (hx : x < n) (hy : y < n) (T : Tr x y M M2) : P1 (f0_389 p0 p1 p2 p3 p4 p5 n M a7 a8 (c32 x) (c32 y) a15 m b20 b22 b23) → P1 (f0_389 q0 q1 q2 q3 q4 q5 n M2 a7 a8 (c32 x) (c32 y) a15 m b20 b22 b23) := by
  unfold f0_389
  repeat' (first | exact t406 hn hx hy T | refine cnd_tr ?_ ?_)
theorem t366 (hn : n ≤ 100) (hx : x < n) (hy : y < n) (T : Tr x y M M2) : P1 (f0_366 p0 p1 p2 p3 p4 p5 n M a6 a7 a8 (c32 x) (c32 y) a15 m b20 b22) → P1 (f0_366 q0 q1 q2 q3 q4 q5 n M2 a6 a7 a8 (c32 x) (c32 y) a15 m b20 b22) := by
  unfold f0_366
  repeat' (first | exact t389 hn hx hy T | refine cnd_tr ?_ ?_)
theorem t345 (hn : n ≤ 100) (hx : x < n) (hy : y < n) (T : Tr x y M M2) : P1 (f0_345 p0 p1 p2 p3 p4 p5 n M a6 a7 a8 (c32 x) (c32 y) a15 m b20 b21) → P1 (f0_345 q0 q1 q2 q3 q4 q5 n M2 a6 a7 a8 (c32 x) (c32 y) a15 m b20 b21) := by
  unfold f0_345
  repeat' (first | exact t366 hn hx hy T | refine cnd_tr ?_ ?_)
theorem t310 (hn : n ≤ 100) (hx : x < n) (hy : y < n) (T : Tr x y M M2) : P1 (f0_310 p0 p1 p2 p3 p4 p5 n M a6 a7 a8 (c32 x) (c32 y) a15 m b20) → P1 (f0_310 q0 q1 q2 q3 q4 q5 n M2 a6 a7 a8 (c32 x) (c32 y) a15 m b20) := by
  unfold f0_310
  repeat' (first | exact t345 hn hx hy T | refine cnd_tr ?_ ?_)
end tail
/-- what the law does behind undo -/
def ftl (p0 p1 p2 p3 p4 p5 : Int32) (nc : Nat) (M : MM) (al6 al7 al8 al13 al14 al15 al19 : Int32) : Option (Int32 × MM) := cnd (eqB al13 al7) (f0_310 p0 p1 p2 p3 p4 p5 nc M al6 al7 al8 al13 al14 al15 al19 1) (cnd (eqB al13 al8) (f0_310 p0 p1 p2 p3 p4 p5 nc M al6 al7 al8 al13 al14 al15 al19 1) (f0_310 p0 p1 p2 p3 p4 p5 nc M al6 al7 al8 al13 al14 al15 al19 0))
def is1 (o : Option (Int32 × MM)) : Bool := match o with | none => false | some (r, _) => eqB r 1
theorem is1_P {o : Option (Int32 × MM)} (h : is1 o = true) : P1 o := by
  cases o with
  | none => cases h
  | some z =>
    obtain ⟨r, M⟩ := z
    have : r = 1 := Int32.toBitVec_inj.mp (BitVec.eq_of_toNat_eq (Nat.eq_of_beq_eq_true h))
    exact ⟨M, by rw [this]⟩
def opA (n : Nat) (M : MM) (e a b : Int32) : Option (Int32 × MM) := cnd (eqB e 0) (f15 n M a b) (f6 n M a b)
def tstM (n : Nat) (e : Int32) (a b : Nat) (M : MM) : Bool := (List.range n).all fun x => (List.range n).all fun y => Nat.beq x y || is1 (ftl 0 0 0 0 0 0 n M (c32 n) (c32 a) (c32 b) (c32 x) (c32 y) e (ld M 9 0))
def tst (n : Nat) (M0 : MM) (e : Int32) (a b : Nat) : Bool := match opA n M0 e (c32 a) (c32 b) with | none => false | some (_, M) => tstM n e a b M
def tstAll (n : Nat) (M0 : MM) : Bool := (List.range n).all fun a => (List.range n).all fun b => Nat.beq a b || (tst n M0 0 a b && tst n M0 1 a b)
set_option maxRecDepth 100000 in
theorem tst5 : tstAll 5 M0_5 = true := by decide +kernel
set_option maxRecDepth 100000 in
theorem tst6 : tstAll 6 M0_6 = true := by decide +kernel
theorem all_lt {n : Nat} {f : Nat → Nat → Bool} (h : ((List.range n).all fun a => (List.range n).all fun b => Nat.beq a b || f a b) = true) {a b : Nat} (ha : a < n) (hb : b < n) (hab : a ≠ b) : f a b = true := by
  have h1 := List.all_eq_true.mp (List.all_eq_true.mp h a (List.mem_range.mpr ha)) b (List.mem_range.mpr hb)
  rcases Bool.or_eq_true _ _ |>.mp h1 with q | q
  · exact absurd (Nat.eq_of_beq_eq_true q) hab
  · exact q
def Ini (n : Nat) (M : MM) : Prop := Wf n M ∧ InvE n 0 0 (ld M) 0 0 ∧ Path n (ld M)
theorem ini_of {n : Nat} {M : MM} (hn : 0 < n ∧ n ≤ 100) (w1 : M.length = 14 + n) (w2 : ∀ r, r < 9 → (M.getD r []).length = lnR n r) (w3 : ∀ r, r < 13 → 9 ≤ r → (M.getD r []).length = 1 ∧ ld M r 0 = 0) (w4 : ∀ a, a < n → (M.getD (14 + a) []).length = n)
    (h4 : ∀ j, j < n → ld M 4 j = c32 0) (h2 : ∀ j, j < n → ld M 2 j = c32 j) (h0 : ∀ j, j < n → ld M 0 j = c32 0) (hs : ∀ a, a < n → ∀ b, b < n → ld M (14 + a) b = 0) (hF : F2 n (ld M) ≤ n * n) : Ini n M := by
  refine ⟨⟨w1, w2, fun r h1 h2 => (w3 r h2 h1).1, w4⟩, ⟨(w3 9 (by omega) (by omega)).2, (w3 12 (by omega) (by omega)).2, ⟨0, hn.1, (w3 11 (by omega) (by omega)).2⟩, fun j hj => ⟨0, hn.1, h4 j hj⟩, fun c hc => ⟨c, hc, h2 c hc⟩, fun c hc => Or.inl (h0 c hc), fun a b ha hb => ⟨by rw [hs a ha b hb, hs b hb a ha], fun _ => hs a ha b hb⟩, by omega, by omega⟩, ⟨fun c hc _ => h2 c hc, fun a b ha hb hab _ _ e => ?_⟩⟩
  rw [h2 a ha, h2 b hb] at e
  exact hab (c32_inj (by omega) (by omega) e)
theorem ini5 : Ini 5 M0_5 := ini_of (by decide) (by decide) (by decide +kernel) (by decide +kernel) (by decide +kernel) (by decide +kernel) (by decide +kernel) (by decide +kernel) (by decide +kernel) (by decide +kernel)
theorem ini6 : Ini 6 M0_6 := ini_of (by decide) (by decide) (by decide +kernel) (by decide +kernel) (by decide +kernel) (by decide +kernel) (by decide +kernel) (by decide +kernel) (by decide +kernel) (by decide +kernel)
theorem opA_spec {n m t q a b : Nat} {C : Nat → Nat → Int32} {M : MM} (e : Int32) (hn : 0 < n ∧ n ≤ 12) (S : St n 0 0 m C M t q) (Pa : Path n (ld M)) (ha : a < n) (hb : b < n) (hab : a ≠ b) : Ok n 0 0 m C (opA n M e (c32 a) (c32 b)) := Ok.cnd (f15_spec hn S Pa ha hb hab) (f6_spec hn S Pa ha hb hab)
theorem cnd_bnd {b : Bool} {o u : Option (Int32 × MM)} {k : Int32 → MM → Option (Int32 × MM)} : cnd b (bnd o k) (bnd u k) = bnd (cnd b o u) k := by cases b <;> rfl
theorem law282 {p0 p1 p2 p3 p4 p5 e : Int32} {n a b x y t t' q : Nat} {M M' : MM} (hn : 0 < n ∧ n ≤ 6) (hx : x < n) (hy : y < n) (h9 : ld M 9 0 = c32 t) (S : St n 0 0 t (ld M) M' t' q) (hT : P1 (ftl 0 0 0 0 0 0 n M (c32 n) (c32 a) (c32 b) (c32 x) (c32 y) e (ld M 9 0))) :
    P1 (f0_282 p0 p1 p2 p3 p4 p5 n M' (c32 n) (c32 a) (c32 b) (c32 x) (c32 y) e (c32 t)) := by
  obtain ⟨W, I, j, hj, R⟩ := S
  have cap := I.cap hn.1
  have c66 : lnR n 6 < 200 := by
    have : n * (n - 1) ≤ 6 * 5 := Nat.mul_le_mul hn.2 (by omega)
    show n * (n - 1) + 6 * n < _
    omega
  unfold f0_282
  refine lp16_spec (P := fun z => P1 (bnd z _)) ⟨hn.1, by omega⟩ j W R I.1 (by omega) (by omega) fun M2 A h2 W2 => ?_
  have T : Tr x y M M2 := ⟨by rw [h9, h2], (A.2.2 x y hx).symm, (A.1 1 (by omega) x).symm, (A.1 0 (by omega) x).symm, (A.1 2 (by omega) x).symm⟩
  rw [h9] at hT
  refine cnd_tr ?_ (cnd_tr ?_ ?_) hT
  · exact t310 (by omega) hx hy T
  · exact t310 (by omega) hx hy T
  · exact t310 (by omega) hx hy T
theorem law191 {p0 p1 p2 p3 p4 p5 e15 e16 e17 : Int32} {n a b c d f g x y : Nat} {M0 : MM} (hn : 0 < n ∧ n ≤ 6) (I0 : Ini n M0) (hT : tstAll n M0 = true) (he : e15 = 0 ∨ e15 = 1) (ha : a < n) (hb : b < n) (hab : a ≠ b) (hc : c < n) (hd : d < n) (hcd : c ≠ d) (hf : f < n) (hg : g < n) (hfg : f ≠ g) (hx : x < n) (hy : y < n) (hxy : x ≠ y) :
    P1 (f0_191 p0 p1 p2 p3 p4 p5 n M0 (c32 n) (c32 a) (c32 b) (c32 c) (c32 d) (c32 f) (c32 g) (c32 x) (c32 y) e15 e16 e17) := by
  have hn12 : 0 < n ∧ n ≤ 12 := ⟨hn.1, by omega⟩
  have t1 : tst n M0 e15 a b = true := by
    have := Bool.and_eq_true _ _ |>.mp (all_lt hT ha hb hab)
    rcases he with rfl | rfl
    · exact this.1
    · exact this.2
  have S0 : St n 0 0 0 (ld M0) M0 0 0 := ⟨I0.1, I0.2.1, 0, by omega, rfl, Agr.refl _ _ _⟩
  obtain ⟨v1, M1, t, q, e1, S1, P1'⟩ := opA_spec e15 hn12 S0 I0.2.2 ha hb hab
  unfold tst at t1
  rw [e1] at t1
  have t2 := is1_P (all_lt t1 hx hy hxy)
  have S1' : St n 0 0 t (ld M1) M1 t q := ⟨S1.1, S1.2.1, 0, by omega, rfl, Agr.refl _ _ _⟩
  have h9 : ld M1 9 0 = c32 t := S1.2.1.1
  unfold f0_191
  rw [cnd_bnd]
  refine p_bnd (P := P1) e1 ?_
  unfold f0_219
  refine p_bnd (P := P1) (o := f13 n M1) (v := ld M1 9 0) (M := M1) rfl ?_
  rw [cnd_bnd]
  obtain ⟨v2, M2, t2', q2, e2, S2, P2⟩ := opA_spec e16 hn12 S1' P1' hc hd hcd
  refine p_bnd (P := P1) e2 ?_
  unfold f0_254
  rw [cnd_bnd]
  obtain ⟨v3, M3, t3, q3, e3, S3, P3⟩ := opA_spec e17 hn12 S2 P2 hf hg hfg
  refine p_bnd (P := P1) e3 ?_
  rw [h9]
  exact law282 hn hx hy h9 S3 t2
/-! the numbers -/
theorem ix_lt (m : Int32) : ix m < 4294967296 := m.toBitVec.isLt
theorem c32_ix (m : Int32) : c32 (ix m) = m := by
  apply Int32.toBitVec_inj.mp
  apply BitVec.eq_of_toNat_eq
  show (BitVec.ofNat 32 m.toBitVec.toNat).toNat = _
  rw [BitVec.toNat_ofNat]
  exact Nat.mod_eq_of_lt (ix_lt m)
theorem ix_and (p : Int32) {k : Nat} (hk : k < 4294967296) : ix (p &&& c32 k) ≤ k := by
  show (p.toBitVec &&& BitVec.ofNat 32 k).toNat ≤ k
  rw [BitVec.toNat_and, BitVec.toNat_ofNat, Nat.mod_eq_of_lt hk]
  exact Nat.and_le_right
theorem own_mod {n k : Nat} (p : Int32) (hn : 0 < n ∧ n ≤ 100) (hk : k < 2147483648) : ∃ a, a < n ∧ (p &&& c32 k) % c32 n = c32 a := by
  have h := ix_and p (k := k) (by omega)
  refine ⟨ix (p &&& c32 k) % n, Nat.mod_lt _ hn.1, ?_⟩
  rw [← c32_rem (by omega) (by omega), c32_ix]
theorem own_nxt {n k a : Nat} (p : Int32) (hn : 1 < n ∧ n ≤ 100) (hk : k < 2147483648) (ha : a < n) : ∃ b, b < n ∧ a ≠ b ∧ ((c32 a + 1) + (p &&& c32 k) % (c32 n - 1)) % c32 n = c32 b := by
  rw [show c32 n - 1 = c32 (n - 1) from c32_sub (b := 1) (by omega), c32_succ]
  obtain ⟨r, hr, e⟩ := own_mod p (n := n - 1) (k := k) ⟨by omega, by omega⟩ hk
  rw [e, c32_add, c32_rem (by omega) (by omega)]
  refine ⟨(a + 1 + r) % n, Nat.mod_lt _ (by omega), fun z => ?_, rfl⟩
  by_cases q : a + 1 + r < n
  · rw [Nat.mod_eq_of_lt q] at z; omega
  · rw [Nat.mod_eq_sub_mod (by omega), Nat.mod_eq_of_lt (by omega)] at z; omega
theorem own_five (p : Int32) : (5 : Int32) + (p &&& 1) = c32 5 ∨ (5 : Int32) + (p &&& 1) = c32 6 := by
  have h : ix (p &&& 1) ≤ 1 := ix_and p (k := 1) (by omega)
  have e := c32_ix (p &&& 1)
  rcases Nat.le_one_iff_eq_zero_or_eq_one.mp h with q | q
  · rw [q] at e; rw [← e]; exact Or.inl rfl
  · rw [q] at e; rw [← e]; exact Or.inr rfl
theorem nz_c32 {n : Nat} (h : 0 < n) (hn : n ≤ 100) : nzB (c32 n) = true := by
  unfold nzB
  rw [eqB_F fun e => by have := c32_inj (b := 0) (by omega) (by omega) e; omega]; rfl
theorem law180 {p0 p1 p2 p3 p4 p5 e15 e16 e17 : Int32} {n a b c d f g x y : Nat} (hn : n = 5 ∨ n = 6) (he : e15 = 0 ∨ e15 = 1) (ha : a < n) (hb : b < n) (hab : a ≠ b) (hc : c < n) (hd : d < n) (hcd : c ≠ d) (hf : f < n) (hg : g < n) (hfg : f ≠ g) (hx : x < n) (hy : y < n) (hxy : x ≠ y) :
    P1 (f0_180 p0 p1 p2 p3 p4 p5 (c32 n) (c32 a) (c32 b) (c32 c) (c32 d) (c32 f) (c32 g) (c32 x) (c32 y) e15 e16 e17) := by
  unfold f0_180
  rcases hn with rfl | rfl
  · exact p_T (P := P1) (eqB_T rfl) (law191 (n := 5) (by decide) ini5 tst5 he ha hb hab hc hd hcd hf hg hfg hx hy hxy)
  · exact p_F (P := P1) (eqB_F (by decide)) (p_T (P := P1) (eqB_T rfl) (law191 (n := 6) (by decide) ini6 tst6 he ha hb hab hc hd hcd hf hg hfg hx hy hxy))
theorem own_law (p0 p1 p2 p3 p4 p5 : Int32) : ∃ Mf, f0 p0 p1 p2 p3 p4 p5 = some (1, Mf) := by
  show P1 _
  unfold f0
  obtain ⟨n, hn, e2⟩ : ∃ n, (n = 5 ∨ n = 6) ∧ (5 : Int32) + (((p5.toUInt32 >>> ((3 : Int32) &&& 31).toUInt32).toInt32) &&& 1) = c32 n := by
    rcases own_five ((p5.toUInt32 >>> ((3 : Int32) &&& 31).toUInt32).toInt32) with q | q
    · exact ⟨5, Or.inl rfl, q⟩
    · exact ⟨6, Or.inr rfl, q⟩
  have h0 : 0 < n ∧ n ≤ 100 := by omega
  have h1 : 1 < n ∧ n ≤ 100 := by omega
  refine p_nai (P := P1) e2 (p_gd (P := P1) (nz_c32 h0.1 h0.2) ?_)
  obtain ⟨a, ha, ea⟩ := own_mod p0 h0 (k := 2147483647) (by omega)
  refine p_nai (P := P1) ea (p_gd (P := P1) ?_ ?_)
  · rw [show c32 n - 1 = c32 (n - 1) from c32_sub (b := 1) (by omega)]
    exact nz_c32 (by omega) (by omega)
  obtain ⟨b, hb, hab, eb⟩ := own_nxt p1 h1 (k := 2147483647) (by omega) ha
  refine p_nai (P := P1) eb ?_
  obtain ⟨c, hc, ec⟩ := own_mod p2 h0 (k := 2147483647) (by omega)
  refine p_nai (P := P1) ec ?_
  obtain ⟨d, hd, hcd, ed⟩ := own_nxt p3 h1 (k := 2147483647) (by omega) hc
  refine p_nai (P := P1) ed ?_
  obtain ⟨f, hf, ef⟩ := own_mod p4 h0 (k := 32767) (by omega)
  refine p_nai (P := P1) ef ?_
  obtain ⟨g, hg, hfg, eg⟩ := own_nxt ((p4.toUInt32 >>> ((16 : Int32) &&& 31).toUInt32).toInt32) h1 (k := 32767) (by omega) hf
  refine p_nai (P := P1) eg ?_
  obtain ⟨x, hx, ex⟩ := own_mod ((p5.toUInt32 >>> ((4 : Int32) &&& 31).toUInt32).toInt32) h0 (k := 255) (by omega)
  refine p_nai (P := P1) ex ?_
  obtain ⟨y, hy, hxy, ey⟩ := own_nxt ((p5.toUInt32 >>> ((12 : Int32) &&& 31).toUInt32).toInt32) h1 (k := 255) (by omega) hx
  refine p_nai (P := P1) ey ?_
  have key : ∀ e15 e16 e17 : Int32, e15 = 0 ∨ e15 = 1 → P1 (f0_180 p0 p1 p2 p3 p4 p5 (c32 n) (c32 a) (c32 b) (c32 c) (c32 d) (c32 f) (c32 g) (c32 x) (c32 y) e15 e16 e17) := fun e15 e16 e17 he => law180 hn he ha hb hab hc hd hcd hf hg hfg hx hy hxy
  unfold f0_152 f0_166
  exact P1.cnd (P1.cnd (P1.cnd (key _ _ _ (Or.inl rfl)) (key _ _ _ (Or.inl rfl))) (P1.cnd (key _ _ _ (Or.inl rfl)) (key _ _ _ (Or.inl rfl)))) (P1.cnd (P1.cnd (key _ _ _ (Or.inr rfl)) (key _ _ _ (Or.inr rfl))) (P1.cnd (key _ _ _ (Or.inr rfl)) (key _ _ _ (Or.inr rfl))))
theorem pn_0 : plainName "com/example/onetree/onetree/EdgeStatesUndoPinLaw" = true := by first | (simp [plainName, overriddenIn]; done) | decide +kernel
theorem ef_0 (m : MethodId) (p0 : Int32) (p1 : Int32) (p2 : Int32) (p3 : Int32) (p4 : Int32) (p5 : Int32) : entryFrame m #[(.int p0), (.int p1), (.int p2), (.int p3), (.int p4), (.int p5)] maxLocals = mkF m 0 #[.val (.int p0), .val (.int p1), .val (.int p2), .val (.int p3), .val (.int p4), .val (.int p5), .unset, .unset, .unset, .unset, .unset, .unset, .unset, .unset, .unset, .unset, .unset, .unset, .unset, .unset, .unset, .unset, .unset, .unset, .unset, .unset] [] := by first | (simp [entryFrame, mkF, argsToLocals, Value.category, maxLocals]; done) | rfl
def Q0 (Z : State) (p0 : Int32) (p1 : Int32) (p2 : Int32) (p3 : Int32) (p4 : Int32) (p5 : Int32) (h0 : Heap) (n0 : Nat) (v : Option Value) (h : Heap) (L : List Loc) : Prop := v = some (.int (1 : Int32)) ∧ Fr n0 L ∧ True
set_option maxRecDepth 65536 in
set_option maxHeartbeats 40000000 in
theorem rm0 (l : Launch) (Z : State) (a0 : Array Value) (hw : ∀ d ∈ tables_1, d.before a0 Z = true) (ws : List Jvm.Cond) (hS : StF Z) (p0 : Int32) (p1 : Int32) (p2 : Int32) (p3 : Int32) (p4 : Int32) (p5 : Int32) (h0 : Heap) (n0 : Nat) (O0 : Old Z n0 h0) :
    MetFree l x (head1 (Jvm.Cond.code x code maxLocals ret :: ws) room_1) (fun a U => a = #[(.int p0), (.int p1), (.int p2), (.int p3), (.int p4), (.int p5)] ∧ Z.Warmed39 U.vm ∧ U.heap = h0) (fun _ _ _ _ _ => True) (fun _ U o U' => ∃ v L, o = .returned v ∧ Q0 Z p0 p1 p2 p3 p4 p5 h0 n0 v U'.heap L ∧ FrameEnd U o U' L room_1.cells room_1.slots) := by
  refine MetFree.of_bodySF (plainFor_of_name pn_0) hisR ?_
  intro p e s m args below meth c s₁ Bd hml0 hP hK
  obtain ⟨rfl, hZ, hh⟩ := hP
  have hx := Bd.exec
  have hby := Bd.bytes
  have hml : c.maxLocals = 26 := hml0
  have hown : s.vm.findClass "com/example/onetree/onetree/EdgeStatesUndoPinLaw" = some m.cls := findClass_of_methodNamed Bd.named
  have hnm := (name_of_methodNamed Bd.named Bd.method).1
  have X0 : Stand p l e room_1 s m #[(.int p0), (.int p1), (.int p2), (.int p3), (.int p4), (.int p5)] below meth c s₁ [] 0 0 := Stand.of_body Bd
  have e0 : s₁.heap = h0 := by rw [← hh, Bd.state]; rfl
  have N0 := Fr.nil n0
  have hS0 := hS
  skip
  have pre0 : ∀ t, Steps p.tables e below (s₁.setTop (mkF m 0 #[.val (.int p0), .val (.int p1), .val (.int p2), .val (.int p3), .val (.int p4), .val (.int p5), .unset, .unset, .unset, .unset, .unset, .unset, .unset, .unset, .unset, .unset, .unset, .unset, .unset, .unset, .unset, .unset, .unset, .unset, .unset, .unset] [])) t → Steps p.tables e below (s₁.setTop (entryFrame m #[(.int p0), (.int p1), (.int p2), (.int p3), (.int p4), (.int p5)] maxLocals)) t := fun t k => castTop (ef_0 m p0 p1 p2 p3 p4 p5) k
  generalize hE0 : s₁.setTop (entryFrame m #[(.int p0), (.int p1), (.int p2), (.int p3), (.int p4), (.int p5)] maxLocals) = E0 at pre0 ⊢
  apply Classical.byContradiction
  intro hno
  obtain ⟨Mf, hf⟩ := own_law p0 p1 p2 p3 p4 p5
  unfold f0 at hf
  have hSl : SlotsOK Z := own_slots (a0 := a0) fun p hp => by
    simp only [nmsE, List.mem_cons, List.not_mem_nil, or_false] at hp
    rcases hp with rfl | rfl | rfl | rfl | rfl | rfl | rfl | rfl | rfl | rfl | rfl | rfl | rfl | rfl | rfl
    · exact (Or.inr (hw _ (tk 14 rfl)))
    · exact (Or.inr (hw _ (tk 23 rfl)))
    · exact (Or.inr (hw _ (tk 26 rfl)))
    · exact (Or.inr (hw _ (tk 28 rfl)))
    · exact (Or.inr (hw _ (tk 41 rfl)))
    · exact (Or.inr (hw _ (tk 43 rfl)))
    · exact (Or.inr (hw _ (tk 45 rfl)))
    · exact (Or.inr (hw _ (tk 48 rfl)))
    · exact (Or.inr (hw _ (tk 39 rfl)))
    · exact (Or.inr (hw _ (tk 50 rfl)))
    · exact (Or.inr (hw _ (tk 52 rfl)))
    · exact (Or.inl (hw _ (tk 69 rfl)))
    · exact (Or.inl (hw _ (tk 67 rfl)))
    · exact (Or.inl (hw _ (tk 75 rfl)))
    · exact (Or.inl (hw _ (tk 77 rfl)))
  have j180 : ∀ (al6 : Int32) (al7 : Int32) (al8 : Int32) (al9 : Int32) (al10 : Int32) (al11 : Int32) (al12 : Int32) (al13 : Int32) (al14 : Int32) (al15 : Int32) (al16 : Int32) (al17 : Int32) (s0 : Slot) (s1 : Slot) (s2 : Slot) (s3 : Slot) (s4 : Slot) (s5 : Slot) (_ : s0 = .unset ∨ ∃ w, s0 = .val w ∧ w.category = 1) (_ : s1 = .unset ∨ ∃ w, s1 = .val w ∧ w.category = 1) (_ : s2 = .unset ∨ ∃ w, s2 = .val w ∧ w.category = 1) (_ : s3 = .unset ∨ ∃ w, s3 = .val w ∧ w.category = 1) (_ : s4 = .unset ∨ ∃ w, s4 = .val w ∧ w.category = 1) (_ : s5 = .unset ∨ ∃ w, s5 = .val w ∧ w.category = 1), f0_180 p0 p1 p2 p3 p4 p5 al6 al7 al8 al9 al10 al11 al12 al13 al14 al15 al16 al17 = some (1, Mf) → Cm p e below E0 (s₁.setTop (mkF m 180 (lt15 s0 s1 s2 s3 s4 s5 al6 al7 al8 al9 al10 al11 al12 al13 al14 al15 al16 al17) [])) → False := by
    intro al6 al7 al8 al9 al10 al11 al12 al13 al14 al15 al16 al17 s0 s1 s2 s3 s4 s5 u0 u1 u2 u3 u4 u5 hf pre1
    unfold f0_180 at hf
    obtain ⟨T53, h53, X53, e53, E53, A53, D53, -, st53⟩ := newO X0 hx hZ hown (hw _ (tk 1 rfl)) (hw _ (tk 2 rfl)) (hw _ (tk 3 rfl)) e0 (g := (mkF m 180 (lt15 s0 s1 s2 s3 s4 s5 al6 al7 al8 al9 al10 al11 al12 al13 al14 al15 al16 al17) [])) rfl (hb hby at_180) (by decide) (by decide)
    obtain ⟨b53, g53⟩ : ∃ z, z = h0.size := ⟨_, rfl⟩
    rw [← g53] at A53 D53 st53
    have g_b53 : n0 ≤ b53 := Nat.le_trans (own_old O0) (Nat.le_of_eq g53.symm)
    have O53 := O0.ext E53
    have F_cities_b53 : Fld Z h53 b53 "com/example/onetree/onetree/EdgeStates" "cities" "I" (.int 0) := D53 (Or.inr (hw _ (tk 14 rfl))) (ty := .int) (by decide)
    have F_fixedEdges_b53 : Fld Z h53 b53 "com/example/onetree/onetree/EdgeStates" "fixedEdges" "[[I" .null := D53 (Or.inr (hw _ (tk 18 rfl))) (ty := (.array (.array .int))) (by decide)
    have F_states_b53 : Fld Z h53 b53 "com/example/onetree/onetree/EdgeStates" "states" "[[B" .null := D53 (Or.inr (hw _ (tk 23 rfl))) (ty := (.array (.array .byte))) (by decide)
    have F_forcedDegree_b53 : Fld Z h53 b53 "com/example/onetree/onetree/EdgeStates" "forcedDegree" "[I" .null := D53 (Or.inr (hw _ (tk 26 rfl))) (ty := (.array .int)) (by decide)
    have F_openDegree_b53 : Fld Z h53 b53 "com/example/onetree/onetree/EdgeStates" "openDegree" "[I" .null := D53 (Or.inr (hw _ (tk 28 rfl))) (ty := (.array .int)) (by decide)
    have F_trail_b53 : Fld Z h53 b53 "com/example/onetree/onetree/EdgeStates" "trail" "[I" .null := D53 (Or.inr (hw _ (tk 39 rfl))) (ty := (.array .int)) (by decide)
    have F_otherEnd_b53 : Fld Z h53 b53 "com/example/onetree/onetree/EdgeStates" "otherEnd" "[I" .null := D53 (Or.inr (hw _ (tk 41 rfl))) (ty := (.array .int)) (by decide)
    have F_pathSize_b53 : Fld Z h53 b53 "com/example/onetree/onetree/EdgeStates" "pathSize" "[I" .null := D53 (Or.inr (hw _ (tk 43 rfl))) (ty := (.array .int)) (by decide)
    have F_pending_b53 : Fld Z h53 b53 "com/example/onetree/onetree/EdgeStates" "pending" "[I" .null := D53 (Or.inr (hw _ (tk 45 rfl))) (ty := (.array .int)) (by decide)
    have F_isPending_b53 : Fld Z h53 b53 "com/example/onetree/onetree/EdgeStates" "isPending" "[Z" .null := D53 (Or.inr (hw _ (tk 48 rfl))) (ty := (.array .boolean)) (by decide)
    have F_listStart_b53 : Fld Z h53 b53 "com/example/onetree/onetree/EdgeStates" "listStart" "[I" .null := D53 (Or.inr (hw _ (tk 50 rfl))) (ty := (.array .int)) (by decide)
    have F_neighbours_b53 : Fld Z h53 b53 "com/example/onetree/onetree/EdgeStates" "neighbours" "[I" .null := D53 (Or.inr (hw _ (tk 52 rfl))) (ty := (.array .int)) (by decide)
    have F_listed_b53 : Fld Z h53 b53 "com/example/onetree/onetree/EdgeStates" "listed" "Z" (.int 0) := D53 (Or.inl (hw _ (tk 67 rfl))) (ty := .boolean) (by decide)
    have F_trailSize_b53 : Fld Z h53 b53 "com/example/onetree/onetree/EdgeStates" "trailSize" "I" (.int 0) := D53 (Or.inl (hw _ (tk 69 rfl))) (ty := .int) (by decide)
    have F_pendingHead_b53 : Fld Z h53 b53 "com/example/onetree/onetree/EdgeStates" "pendingHead" "I" (.int 0) := D53 (Or.inl (hw _ (tk 75 rfl))) (ty := .int) (by decide)
    have F_pendingCount_b53 : Fld Z h53 b53 "com/example/onetree/onetree/EdgeStates" "pendingCount" "I" (.int 0) := D53 (Or.inl (hw _ (tk 77 rfl))) (ty := .int) (by decide)
    have pre54 : Cm p e below E0 (T53.setTop (mkF m 186 (lt15 s0 s1 s2 s3 s4 s5 al6 al7 al8 al9 al10 al11 al12 al13 al14 al15 al16 al17) [(.int al6), (.ref b53), (.ref b53)])) := fun t kt => by
      refine pre1 t ?_
      show Sp p e below s₁ (mkF m 180 (lt15 s0 s1 s2 s3 s4 s5 al6 al7 al8 al9 al10 al11 al12 al13 al14 al15 al16 al17) []) _
      refine st53 _ ?_
      show Sp p e below T53 (mkF m 183 (lt15 s0 s1 s2 s3 s4 s5 al6 al7 al8 al9 al10 al11 al12 al13 al14 al15 al16 al17) [(.ref b53)]) _
      refine XS.dup X53.here hx rfl (hb hby at_183) rfl rfl ?_
      refine XS.iload X53.here hx rfl (hb hby at_184) rfl ?_
      show Sp p e below T53 (mkF m 186 (lt15 s0 s1 s2 s3 s4 s5 al6 al7 al8 al9 al10 al11 al12 al13 al14 al15 al16 al17) [(.int al6), (.ref b53), (.ref b53)]) _
      exact kt
    have j444 : ∀ (nc : Nat) (A : Nat → Addr) (K : Nat → ClassId) (S0 : Addr), ∀ (M : MM) (al13 : Int32) (al14 : Int32) (al19 : Int32) (al22 : Int32) (al23 : Int32) (al24 : Int32) (al25 : Int32) (s0 : Slot) (s1 : Slot) (s2 : Slot) (s3 : Slot) (s4 : Slot) (s5 : Slot) (s6 : Slot) (s7 : Slot) (s8 : Slot) (s9 : Slot) (s10 : Slot) (s11 : Slot) (s12 : Slot) (s15 : Slot) (s16 : Slot) (s17 : Slot) (s20 : Slot) (s21 : Slot) (_ : s0 = .unset ∨ ∃ w, s0 = .val w ∧ w.category = 1) (_ : s1 = .unset ∨ ∃ w, s1 = .val w ∧ w.category = 1) (_ : s2 = .unset ∨ ∃ w, s2 = .val w ∧ w.category = 1) (_ : s3 = .unset ∨ ∃ w, s3 = .val w ∧ w.category = 1) (_ : s4 = .unset ∨ ∃ w, s4 = .val w ∧ w.category = 1) (_ : s5 = .unset ∨ ∃ w, s5 = .val w ∧ w.category = 1) (_ : s6 = .unset ∨ ∃ w, s6 = .val w ∧ w.category = 1) (_ : s7 = .unset ∨ ∃ w, s7 = .val w ∧ w.category = 1) (_ : s8 = .unset ∨ ∃ w, s8 = .val w ∧ w.category = 1) (_ : s9 = .unset ∨ ∃ w, s9 = .val w ∧ w.category = 1) (_ : s10 = .unset ∨ ∃ w, s10 = .val w ∧ w.category = 1) (_ : s11 = .unset ∨ ∃ w, s11 = .val w ∧ w.category = 1) (_ : s12 = .unset ∨ ∃ w, s12 = .val w ∧ w.category = 1) (_ : s15 = .unset ∨ ∃ w, s15 = .val w ∧ w.category = 1) (_ : s16 = .unset ∨ ∃ w, s16 = .val w ∧ w.category = 1) (_ : s17 = .unset ∨ ∃ w, s17 = .val w ∧ w.category = 1) (_ : s20 = .unset ∨ ∃ w, s20 = .val w ∧ w.category = 1) (_ : s21 = .unset ∨ ∃ w, s21 = .val w ∧ w.category = 1) (T0 : State) (L1 : List Loc) (h1 : Heap), Stand p l e room_1 s m #[(.int p0), (.int p1), (.int p2), (.int p3), (.int p4), (.int p5)] below meth c T0 L1 18 197 → T0.heap = h1 → Old Z n0 h1 → Fr n0 L1 → EB Z n0 false h1 b53 A K S0 nc M → f0_444 p0 p1 p2 p3 p4 p5 nc M al13 al14 al19 al22 al23 al24 al25 = some (1, Mf) → Cm p e below E0 (T0.setTop (mkF m 444 (lt53 s0 s1 s2 s3 s4 s5 s6 s7 s8 s9 s10 s11 s12 al13 al14 s15 s16 s17 b53 al19 s20 s21 al22 al23 al24 al25) [])) → False := by
      intro nc A K S0 M al13 al14 al19 al22 al23 al24 al25 s0 s1 s2 s3 s4 s5 s6 s7 s8 s9 s10 s11 s12 s15 s16 s17 s20 s21 u0 u1 u2 u3 u4 u5 u6 u7 u8 u9 u10 u11 u12 u15 u16 u17 u20 u21 T0 L1 h1 X1 e1 O1 N1 B1 hf pre1
      unfold f0_444 at hf
      obtain ⟨v1434, M1434, hc1434, hf1435⟩ := own_bnd hf
      clear hf
      obtain ⟨cq1434, kq1434, q1434a, q1434b, q1434c⟩ := isOf hZ e1 B1.exa
      obtain ⟨_, _, ⟨T1434, L1434, k1434, n1434⟩, -, X1434, ⟨Lc1434, hQ1434, l1434, y1434, z1434⟩, st1434⟩ := X1.virtualBack hx (y := Y52) (z := Y52) hown (mvT hZ (hw _ (tk 90 rfl))) (mvT hZ (hw _ (tk 91 rfl))) (notFace_of_selects (args := #[]) (mvT hZ (hw _ (tk 93 rfl)))) (mvT hZ (hw _ (tk 93 rfl))) (mvT hZ (hw _ (tk 92 rfl))) (by decide) (backOf (W := 0) (rm13 l Z a0 hw [] hSl false b53 A K S0 nc M v1434 M1434 h1 n0 O1 B1 hc1434) hZ (hw _ (tk 94 rfl)) (hw _ (tk 3 rfl)) (by decide) (by decide)) q1434a q1434c (g := (mkF m 446 (lt53 s0 s1 s2 s3 s4 s5 s6 s7 s8 s9 s10 s11 s12 al13 al14 s15 s16 s17 b53 al19 s20 s21 al22 al23 al24 al25) [(.ref b53)])) rfl (by rw [hml]; rfl) (Steps.refl _) (argsL := []) (rest := []) (lenOf pd_10 rfl) rfl (by show 2 * 0 + _ ≤ _; exact Nat.le_of_eq rfl) (hb hby at_446) (fun _ _ => ⟨rfl, e1, (by decide : 18 + 0 ≤ _), (by decide : 197 + 0 ≤ _)⟩)
      dsimp only [Pt.U, Pt.locs, Pt.cells, Pt.slots] at X1434 l1434 y1434 z1434 st1434 hQ1434
      rw [l1434, y1434, z1434] at X1434
      obtain ⟨rv1434, N1434q, O1434, B1434⟩ := hQ1434
      subst rv1434
      have N1434 := Fr.app N1 N1434q
      have pre1436 : Cm p e below E0 (T1434.setTop (mkF m 451 (lt53 s0 s1 s2 s3 s4 s5 s6 s7 s8 s9 s10 s11 s12 al13 al14 s15 s16 s17 b53 al19 s20 s21 al22 al23 al24 al25) [(.int al19), (.int v1434)])) := fun t kt => by
        refine pre1 t ?_
        show Sp p e below T0 (mkF m 444 (lt53 s0 s1 s2 s3 s4 s5 s6 s7 s8 s9 s10 s11 s12 al13 al14 s15 s16 s17 b53 al19 s20 s21 al22 al23 al24 al25) []) _
        refine XS.aload X1.here hx rfl (hb hby at_444) rfl rfl ?_
        show Sp p e below T0 (mkF m 446 (lt53 s0 s1 s2 s3 s4 s5 s6 s7 s8 s9 s10 s11 s12 al13 al14 s15 s16 s17 b53 al19 s20 s21 al22 al23 al24 al25) [(.ref b53)]) _
        refine st1434.trans ?_
        show Sp p e below T1434 (mkF m 449 (lt53 s0 s1 s2 s3 s4 s5 s6 s7 s8 s9 s10 s11 s12 al13 al14 s15 s16 s17 b53 al19 s20 s21 al22 al23 al24 al25) [(.int v1434)]) _
        refine XS.iload X1434.here hx rfl (hb hby at_449) rfl ?_
        show Sp p e below T1434 (mkF m 451 (lt53 s0 s1 s2 s3 s4 s5 s6 s7 s8 s9 s10 s11 s12 al13 al14 s15 s16 s17 b53 al19 s20 s21 al22 al23 al24 al25) [(.int al19), (.int v1434)]) _
        exact kt
      by_cases hc1437 : v1434 = al19
      · rw [own_eqT hc1437] at hf1435
        obtain ⟨v1447, M1447, hc1447, hf1448⟩ := own_bnd hf1435
        clear hf1435
        obtain ⟨cq1447, kq1447, q1447a, q1447b, q1447c⟩ := isOf hZ rfl B1434.exa
        obtain ⟨_, _, ⟨T1447, L1447, k1447, n1447⟩, -, X1447, ⟨Lc1447, hQ1447, l1447, y1447, z1447⟩, st1447⟩ := X1434.virtualBack hx (y := Y69) (z := Y69) hown (mvT hZ (hw _ (tk 109 rfl))) (mvT hZ (hw _ (tk 110 rfl))) (notFace_of_selects (args := #[]) (mvT hZ (hw _ (tk 112 rfl)))) (mvT hZ (hw _ (tk 112 rfl))) (mvT hZ (hw _ (tk 111 rfl))) (by decide) (backOf (W := 0) (rm17 l Z a0 hw [] hSl false b53 A K S0 nc M1434 al13 al14 v1447 M1447 T1434.heap n0 O1434 B1434 hc1447) hZ (hw _ (tk 113 rfl)) (hw _ (tk 3 rfl)) (by decide) (by decide)) q1447a q1447c (g := (mkF m 460 (lt53 s0 s1 s2 s3 s4 s5 s6 s7 s8 s9 s10 s11 s12 al13 al14 s15 s16 s17 b53 al19 s20 s21 al22 al23 al24 al25) [(.int al14), (.int al13), (.ref b53)])) rfl (by rw [hml]; rfl) (Steps.refl _) (argsL := [(.int al13), (.int al14)]) (rest := []) (lenOf pd_11 rfl) rfl (by show 2 * 0 + _ ≤ _; exact Nat.le_of_eq rfl) (hb hby at_460) (fun _ _ => ⟨rfl, rfl, (by decide : 18 + 0 ≤ _), (by decide : 197 + 0 ≤ _)⟩)
        dsimp only [Pt.U, Pt.locs, Pt.cells, Pt.slots] at X1447 l1447 y1447 z1447 st1447 hQ1447
        rw [l1447, y1447, z1447] at X1447
        obtain ⟨rv1447, N1447q, O1447, B1447⟩ := hQ1447
        subst rv1447
        have N1447 := Fr.app N1434 N1447q
        have pre1449 : Cm p e below E0 (T1447.setTop (mkF m 465 (lt53 s0 s1 s2 s3 s4 s5 s6 s7 s8 s9 s10 s11 s12 al13 al14 s15 s16 s17 b53 al19 s20 s21 al22 al23 al24 al25) [(.int al22), (.int v1447)])) := fun t kt => by
          refine pre1436 t ?_
          show Sp p e below T1434 (mkF m 451 (lt53 s0 s1 s2 s3 s4 s5 s6 s7 s8 s9 s10 s11 s12 al13 al14 s15 s16 s17 b53 al19 s20 s21 al22 al23 al24 al25) [(.int al19), (.int v1434)]) _
          refine XS.icmpNo X1434.here hx rfl (hb hby at_451) rfl (teq hc1437).2 ?_
          show Sp p e below T1434 (mkF m 454 (lt53 s0 s1 s2 s3 s4 s5 s6 s7 s8 s9 s10 s11 s12 al13 al14 s15 s16 s17 b53 al19 s20 s21 al22 al23 al24 al25) []) _
          refine XS.aload X1434.here hx rfl (hb hby at_454) rfl rfl ?_
          refine XS.iload X1434.here hx rfl (hb hby at_456) rfl ?_
          show Sp p e below T1434 (mkF m 458 (lt53 s0 s1 s2 s3 s4 s5 s6 s7 s8 s9 s10 s11 s12 al13 al14 s15 s16 s17 b53 al19 s20 s21 al22 al23 al24 al25) [(.int al13), (.ref b53)]) _
          refine XS.iload X1434.here hx rfl (hb hby at_458) rfl ?_
          show Sp p e below T1434 (mkF m 460 (lt53 s0 s1 s2 s3 s4 s5 s6 s7 s8 s9 s10 s11 s12 al13 al14 s15 s16 s17 b53 al19 s20 s21 al22 al23 al24 al25) [(.int al14), (.int al13), (.ref b53)]) _
          refine st1447.trans ?_
          show Sp p e below T1447 (mkF m 463 (lt53 s0 s1 s2 s3 s4 s5 s6 s7 s8 s9 s10 s11 s12 al13 al14 s15 s16 s17 b53 al19 s20 s21 al22 al23 al24 al25) [(.int v1447)]) _
          refine XS.iload X1447.here hx rfl (hb hby at_463) rfl ?_
          show Sp p e below T1447 (mkF m 465 (lt53 s0 s1 s2 s3 s4 s5 s6 s7 s8 s9 s10 s11 s12 al13 al14 s15 s16 s17 b53 al19 s20 s21 al22 al23 al24 al25) [(.int al22), (.int v1447)]) _
          exact kt
        by_cases hc1450 : v1447 = al22
        · rw [own_eqT hc1450] at hf1448
          obtain ⟨v1457, M1457, hc1457, hf1458⟩ := own_bnd hf1448
          clear hf1448
          obtain ⟨cq1457, kq1457, q1457a, q1457b, q1457c⟩ := isOf hZ rfl B1447.exa
          obtain ⟨_, _, ⟨T1457, L1457, k1457, n1457⟩, -, X1457, ⟨Lc1457, hQ1457, l1457, y1457, z1457⟩, st1457⟩ := X1447.virtualBack hx (y := Y70) (z := Y70) hown (mvT hZ (hw _ (tk 114 rfl))) (mvT hZ (hw _ (tk 115 rfl))) (notFace_of_selects (args := #[]) (mvT hZ (hw _ (tk 117 rfl)))) (mvT hZ (hw _ (tk 117 rfl))) (mvT hZ (hw _ (tk 116 rfl))) (by decide) (backOf (W := 0) (rm18 l Z a0 hw [] hSl false b53 A K S0 nc M1447 al13 v1457 M1457 T1447.heap n0 O1447 B1447 hc1457) hZ (hw _ (tk 118 rfl)) (hw _ (tk 3 rfl)) (by decide) (by decide)) q1457a q1457c (g := (mkF m 472 (lt53 s0 s1 s2 s3 s4 s5 s6 s7 s8 s9 s10 s11 s12 al13 al14 s15 s16 s17 b53 al19 s20 s21 al22 al23 al24 al25) [(.int al13), (.ref b53)])) rfl (by rw [hml]; rfl) (Steps.refl _) (argsL := [(.int al13)]) (rest := []) (lenOf pd_12 rfl) rfl (by show 2 * 0 + _ ≤ _; exact Nat.le_of_eq rfl) (hb hby at_472) (fun _ _ => ⟨rfl, rfl, (by decide : 18 + 0 ≤ _), (by decide : 197 + 0 ≤ _)⟩)
          dsimp only [Pt.U, Pt.locs, Pt.cells, Pt.slots] at X1457 l1457 y1457 z1457 st1457 hQ1457
          rw [l1457, y1457, z1457] at X1457
          obtain ⟨rv1457, N1457q, O1457, B1457⟩ := hQ1457
          subst rv1457
          have N1457 := Fr.app N1447 N1457q
          have pre1459 : Cm p e below E0 (T1457.setTop (mkF m 477 (lt53 s0 s1 s2 s3 s4 s5 s6 s7 s8 s9 s10 s11 s12 al13 al14 s15 s16 s17 b53 al19 s20 s21 al22 al23 al24 al25) [(.int al23), (.int v1457)])) := fun t kt => by
            refine pre1449 t ?_
            show Sp p e below T1447 (mkF m 465 (lt53 s0 s1 s2 s3 s4 s5 s6 s7 s8 s9 s10 s11 s12 al13 al14 s15 s16 s17 b53 al19 s20 s21 al22 al23 al24 al25) [(.int al22), (.int v1447)]) _
            refine XS.icmpNo X1447.here hx rfl (hb hby at_465) rfl (teq hc1450).2 ?_
            show Sp p e below T1447 (mkF m 468 (lt53 s0 s1 s2 s3 s4 s5 s6 s7 s8 s9 s10 s11 s12 al13 al14 s15 s16 s17 b53 al19 s20 s21 al22 al23 al24 al25) []) _
            refine XS.aload X1447.here hx rfl (hb hby at_468) rfl rfl ?_
            refine XS.iload X1447.here hx rfl (hb hby at_470) rfl ?_
            show Sp p e below T1447 (mkF m 472 (lt53 s0 s1 s2 s3 s4 s5 s6 s7 s8 s9 s10 s11 s12 al13 al14 s15 s16 s17 b53 al19 s20 s21 al22 al23 al24 al25) [(.int al13), (.ref b53)]) _
            refine st1457.trans ?_
            show Sp p e below T1457 (mkF m 475 (lt53 s0 s1 s2 s3 s4 s5 s6 s7 s8 s9 s10 s11 s12 al13 al14 s15 s16 s17 b53 al19 s20 s21 al22 al23 al24 al25) [(.int v1457)]) _
            refine XS.iload X1457.here hx rfl (hb hby at_475) rfl ?_
            show Sp p e below T1457 (mkF m 477 (lt53 s0 s1 s2 s3 s4 s5 s6 s7 s8 s9 s10 s11 s12 al13 al14 s15 s16 s17 b53 al19 s20 s21 al22 al23 al24 al25) [(.int al23), (.int v1457)]) _
            exact kt
          by_cases hc1460 : v1457 = al23
          · rw [own_eqT hc1460] at hf1458
            obtain ⟨v1467, M1467, hc1467, hf1468⟩ := own_bnd hf1458
            clear hf1458
            obtain ⟨cq1467, kq1467, q1467a, q1467b, q1467c⟩ := isOf hZ rfl B1457.exa
            obtain ⟨_, _, ⟨T1467, L1467, k1467, n1467⟩, -, X1467, ⟨Lc1467, hQ1467, l1467, y1467, z1467⟩, st1467⟩ := X1457.virtualBack hx (y := Y71) (z := Y71) hown (mvT hZ (hw _ (tk 119 rfl))) (mvT hZ (hw _ (tk 120 rfl))) (notFace_of_selects (args := #[]) (mvT hZ (hw _ (tk 122 rfl)))) (mvT hZ (hw _ (tk 122 rfl))) (mvT hZ (hw _ (tk 121 rfl))) (by decide) (backOf (W := 0) (rm19 l Z a0 hw [] hSl false b53 A K S0 nc M1457 al13 v1467 M1467 T1457.heap n0 O1457 B1457 hc1467) hZ (hw _ (tk 123 rfl)) (hw _ (tk 3 rfl)) (by decide) (by decide)) q1467a q1467c (g := (mkF m 484 (lt53 s0 s1 s2 s3 s4 s5 s6 s7 s8 s9 s10 s11 s12 al13 al14 s15 s16 s17 b53 al19 s20 s21 al22 al23 al24 al25) [(.int al13), (.ref b53)])) rfl (by rw [hml]; rfl) (Steps.refl _) (argsL := [(.int al13)]) (rest := []) (lenOf pd_12 rfl) rfl (by show 2 * 0 + _ ≤ _; exact Nat.le_of_eq rfl) (hb hby at_484) (fun _ _ => ⟨rfl, rfl, (by decide : 18 + 0 ≤ _), (by decide : 197 + 0 ≤ _)⟩)
            dsimp only [Pt.U, Pt.locs, Pt.cells, Pt.slots] at X1467 l1467 y1467 z1467 st1467 hQ1467
            rw [l1467, y1467, z1467] at X1467
            obtain ⟨rv1467, N1467q, O1467, B1467⟩ := hQ1467
            subst rv1467
            have N1467 := Fr.app N1457 N1467q
            have pre1469 : Cm p e below E0 (T1467.setTop (mkF m 489 (lt53 s0 s1 s2 s3 s4 s5 s6 s7 s8 s9 s10 s11 s12 al13 al14 s15 s16 s17 b53 al19 s20 s21 al22 al23 al24 al25) [(.int al24), (.int v1467)])) := fun t kt => by
              refine pre1459 t ?_
              show Sp p e below T1457 (mkF m 477 (lt53 s0 s1 s2 s3 s4 s5 s6 s7 s8 s9 s10 s11 s12 al13 al14 s15 s16 s17 b53 al19 s20 s21 al22 al23 al24 al25) [(.int al23), (.int v1457)]) _
              refine XS.icmpNo X1457.here hx rfl (hb hby at_477) rfl (teq hc1460).2 ?_
              show Sp p e below T1457 (mkF m 480 (lt53 s0 s1 s2 s3 s4 s5 s6 s7 s8 s9 s10 s11 s12 al13 al14 s15 s16 s17 b53 al19 s20 s21 al22 al23 al24 al25) []) _
              refine XS.aload X1457.here hx rfl (hb hby at_480) rfl rfl ?_
              refine XS.iload X1457.here hx rfl (hb hby at_482) rfl ?_
              show Sp p e below T1457 (mkF m 484 (lt53 s0 s1 s2 s3 s4 s5 s6 s7 s8 s9 s10 s11 s12 al13 al14 s15 s16 s17 b53 al19 s20 s21 al22 al23 al24 al25) [(.int al13), (.ref b53)]) _
              refine st1467.trans ?_
              show Sp p e below T1467 (mkF m 487 (lt53 s0 s1 s2 s3 s4 s5 s6 s7 s8 s9 s10 s11 s12 al13 al14 s15 s16 s17 b53 al19 s20 s21 al22 al23 al24 al25) [(.int v1467)]) _
              refine XS.iload X1467.here hx rfl (hb hby at_487) rfl ?_
              show Sp p e below T1467 (mkF m 489 (lt53 s0 s1 s2 s3 s4 s5 s6 s7 s8 s9 s10 s11 s12 al13 al14 s15 s16 s17 b53 al19 s20 s21 al22 al23 al24 al25) [(.int al24), (.int v1467)]) _
              exact kt
            by_cases hc1470 : v1467 = al24
            · rw [own_eqT hc1470] at hf1468
              obtain ⟨v1477, M1477, hc1477, hf1478⟩ := own_bnd hf1468
              clear hf1468
              obtain ⟨cq1477, kq1477, q1477a, q1477b, q1477c⟩ := isOf hZ rfl B1467.exa
              obtain ⟨_, _, ⟨T1477, L1477, k1477, n1477⟩, -, X1477, ⟨Lc1477, hQ1477, l1477, y1477, z1477⟩, st1477⟩ := X1467.virtualBack hx (y := Y72) (z := Y72) hown (mvT hZ (hw _ (tk 124 rfl))) (mvT hZ (hw _ (tk 125 rfl))) (notFace_of_selects (args := #[]) (mvT hZ (hw _ (tk 127 rfl)))) (mvT hZ (hw _ (tk 127 rfl))) (mvT hZ (hw _ (tk 126 rfl))) (by decide) (backOf (W := 0) (rm20 l Z a0 hw [] hSl false b53 A K S0 nc M1467 al13 v1477 M1477 T1467.heap n0 O1467 B1467 hc1477) hZ (hw _ (tk 128 rfl)) (hw _ (tk 3 rfl)) (by decide) (by decide)) q1477a q1477c (g := (mkF m 496 (lt53 s0 s1 s2 s3 s4 s5 s6 s7 s8 s9 s10 s11 s12 al13 al14 s15 s16 s17 b53 al19 s20 s21 al22 al23 al24 al25) [(.int al13), (.ref b53)])) rfl (by rw [hml]; rfl) (Steps.refl _) (argsL := [(.int al13)]) (rest := []) (lenOf pd_12 rfl) rfl (by show 2 * 0 + _ ≤ _; exact Nat.le_of_eq rfl) (hb hby at_496) (fun _ _ => ⟨rfl, rfl, (by decide : 18 + 0 ≤ _), (by decide : 197 + 0 ≤ _)⟩)
              dsimp only [Pt.U, Pt.locs, Pt.cells, Pt.slots] at X1477 l1477 y1477 z1477 st1477 hQ1477
              rw [l1477, y1477, z1477] at X1477
              obtain ⟨rv1477, N1477q, O1477, B1477⟩ := hQ1477
              subst rv1477
              have N1477 := Fr.app N1467 N1477q
              have pre1479 : Cm p e below E0 (T1477.setTop (mkF m 501 (lt53 s0 s1 s2 s3 s4 s5 s6 s7 s8 s9 s10 s11 s12 al13 al14 s15 s16 s17 b53 al19 s20 s21 al22 al23 al24 al25) [(.int al25), (.int v1477)])) := fun t kt => by
                refine pre1469 t ?_
                show Sp p e below T1467 (mkF m 489 (lt53 s0 s1 s2 s3 s4 s5 s6 s7 s8 s9 s10 s11 s12 al13 al14 s15 s16 s17 b53 al19 s20 s21 al22 al23 al24 al25) [(.int al24), (.int v1467)]) _
                refine XS.icmpNo X1467.here hx rfl (hb hby at_489) rfl (teq hc1470).2 ?_
                show Sp p e below T1467 (mkF m 492 (lt53 s0 s1 s2 s3 s4 s5 s6 s7 s8 s9 s10 s11 s12 al13 al14 s15 s16 s17 b53 al19 s20 s21 al22 al23 al24 al25) []) _
                refine XS.aload X1467.here hx rfl (hb hby at_492) rfl rfl ?_
                refine XS.iload X1467.here hx rfl (hb hby at_494) rfl ?_
                show Sp p e below T1467 (mkF m 496 (lt53 s0 s1 s2 s3 s4 s5 s6 s7 s8 s9 s10 s11 s12 al13 al14 s15 s16 s17 b53 al19 s20 s21 al22 al23 al24 al25) [(.int al13), (.ref b53)]) _
                refine st1477.trans ?_
                show Sp p e below T1477 (mkF m 499 (lt53 s0 s1 s2 s3 s4 s5 s6 s7 s8 s9 s10 s11 s12 al13 al14 s15 s16 s17 b53 al19 s20 s21 al22 al23 al24 al25) [(.int v1477)]) _
                refine XS.iload X1477.here hx rfl (hb hby at_499) rfl ?_
                show Sp p e below T1477 (mkF m 501 (lt53 s0 s1 s2 s3 s4 s5 s6 s7 s8 s9 s10 s11 s12 al13 al14 s15 s16 s17 b53 al19 s20 s21 al22 al23 al24 al25) [(.int al25), (.int v1477)]) _
                exact kt
              by_cases hc1480 : v1477 = al25
              · rw [own_eqT hc1480] at hf1478
                obtain ⟨fs, hr, hrun, hended, hW, hsame⟩ := X1477.leave (v := some (.int 1)) (fun h => by rw [Bd.returns] at h; cases h) (BodyLoose.notSynchronized Bd)
                refine hno ⟨_, _, pre1479 _ ?_, hrun, hended, _, _, rfl, ?_, ⟨_, rfl⟩, hW, hsame.mono (by decide) (by decide)⟩
                · show Sp p e below T1477 (mkF m 501 (lt53 s0 s1 s2 s3 s4 s5 s6 s7 s8 s9 s10 s11 s12 al13 al14 s15 s16 s17 b53 al19 s20 s21 al22 al23 al24 al25) [(.int al25), (.int v1477)]) _
                  refine XS.icmpNo X1477.here hx rfl (hb hby at_501) rfl (teq hc1480).2 ?_
                  show Sp p e below T1477 (mkF m 504 (lt53 s0 s1 s2 s3 s4 s5 s6 s7 s8 s9 s10 s11 s12 al13 al14 s15 s16 s17 b53 al19 s20 s21 al22 al23 al24 al25) []) _
                  refine XS.iconst X1477.here hx rfl (hb hby at_504) ?_
                  show Sp p e below T1477 (mkF m 505 (lt53 s0 s1 s2 s3 s4 s5 s6 s7 s8 s9 s10 s11 s12 al13 al14 s15 s16 s17 b53 al19 s20 s21 al22 al23 al24 al25) [(.int 1)]) _
                  refine XS.goto X1477.here hx rfl (pc0 := 505) (pc' := 509) rfl (hb hby at_505) (by decide) (by decide) ?_
                  show Sp p e below T1477 (mkF m 509 (lt53 s0 s1 s2 s3 s4 s5 s6 s7 s8 s9 s10 s11 s12 al13 al14 s15 s16 s17 b53 al19 s20 s21 al22 al23 al24 al25) [(.int 1)]) _
                  exact retN X1477 hx (t := .boolean) Bd.returns (by simp) (hb hby at_509) hr
                · show Q0 Z p0 p1 p2 p3 p4 p5 h0 n0 _ T1477.heap _
                  exact ⟨rfl, N1477, trivial⟩
              · rw [own_eqF hc1480] at hf1478
                exact absurd (own_ret hf1478).1 (by decide)
            · rw [own_eqF hc1470] at hf1468
              exact absurd (own_ret hf1468).1 (by decide)
          · rw [own_eqF hc1460] at hf1458
            exact absurd (own_ret hf1458).1 (by decide)
        · rw [own_eqF hc1450] at hf1448
          exact absurd (own_ret hf1448).1 (by decide)
      · rw [own_eqF hc1437] at hf1435
        exact absurd (own_ret hf1435).1 (by decide)
    have j406 : ∀ (nc : Nat) (A : Nat → Addr) (K : Nat → ClassId) (S0 : Addr), ∀ (M : MM) (al7 : Int32) (al8 : Int32) (al13 : Int32) (al14 : Int32) (al15 : Int32) (al19 : Int32) (al22 : Int32) (al23 : Int32) (al24 : Int32) (s0 : Slot) (s1 : Slot) (s2 : Slot) (s3 : Slot) (s4 : Slot) (s5 : Slot) (s6 : Slot) (s9 : Slot) (s10 : Slot) (s11 : Slot) (s12 : Slot) (s16 : Slot) (s17 : Slot) (s20 : Slot) (s21 : Slot) (s25 : Slot) (_ : s0 = .unset ∨ ∃ w, s0 = .val w ∧ w.category = 1) (_ : s1 = .unset ∨ ∃ w, s1 = .val w ∧ w.category = 1) (_ : s2 = .unset ∨ ∃ w, s2 = .val w ∧ w.category = 1) (_ : s3 = .unset ∨ ∃ w, s3 = .val w ∧ w.category = 1) (_ : s4 = .unset ∨ ∃ w, s4 = .val w ∧ w.category = 1) (_ : s5 = .unset ∨ ∃ w, s5 = .val w ∧ w.category = 1) (_ : s6 = .unset ∨ ∃ w, s6 = .val w ∧ w.category = 1) (_ : s9 = .unset ∨ ∃ w, s9 = .val w ∧ w.category = 1) (_ : s10 = .unset ∨ ∃ w, s10 = .val w ∧ w.category = 1) (_ : s11 = .unset ∨ ∃ w, s11 = .val w ∧ w.category = 1) (_ : s12 = .unset ∨ ∃ w, s12 = .val w ∧ w.category = 1) (_ : s16 = .unset ∨ ∃ w, s16 = .val w ∧ w.category = 1) (_ : s17 = .unset ∨ ∃ w, s17 = .val w ∧ w.category = 1) (_ : s20 = .unset ∨ ∃ w, s20 = .val w ∧ w.category = 1) (_ : s21 = .unset ∨ ∃ w, s21 = .val w ∧ w.category = 1) (_ : s25 = .unset ∨ ∃ w, s25 = .val w ∧ w.category = 1) (T0 : State) (L1 : List Loc) (h1 : Heap), Stand p l e room_1 s m #[(.int p0), (.int p1), (.int p2), (.int p3), (.int p4), (.int p5)] below meth c T0 L1 18 197 → T0.heap = h1 → Old Z n0 h1 → Fr n0 L1 → EB Z n0 false h1 b53 A K S0 nc M → f0_406 p0 p1 p2 p3 p4 p5 nc M al7 al8 al13 al14 al15 al19 al22 al23 al24 = some (1, Mf) → Cm p e below E0 (T0.setTop (mkF m 406 (lt51 s0 s1 s2 s3 s4 s5 s6 al7 al8 s9 s10 s11 s12 al13 al14 al15 s16 s17 b53 al19 s20 s21 al22 al23 al24 s25) [])) → False := by
      intro nc A K S0 M al7 al8 al13 al14 al15 al19 al22 al23 al24 s0 s1 s2 s3 s4 s5 s6 s9 s10 s11 s12 s16 s17 s20 s21 s25 u0 u1 u2 u3 u4 u5 u6 u9 u10 u11 u12 u16 u17 u20 u21 u25 T0 L1 h1 X1 e1 O1 N1 B1 hf pre1
      unfold f0_406 at hf
      have pre1424 : Cm p e below E0 (T0.setTop (mkF m 408 (lt51 s0 s1 s2 s3 s4 s5 s6 al7 al8 s9 s10 s11 s12 al13 al14 al15 s16 s17 b53 al19 s20 s21 al22 al23 al24 s25) [(.int al15)])) := fun t kt => by
        refine pre1 t ?_
        show Sp p e below T0 (mkF m 406 (lt51 s0 s1 s2 s3 s4 s5 s6 al7 al8 s9 s10 s11 s12 al13 al14 al15 s16 s17 b53 al19 s20 s21 al22 al23 al24 s25) []) _
        refine XS.iload X1.here hx rfl (hb hby at_406) rfl ?_
        show Sp p e below T0 (mkF m 408 (lt51 s0 s1 s2 s3 s4 s5 s6 al7 al8 s9 s10 s11 s12 al13 al14 al15 s16 s17 b53 al19 s20 s21 al22 al23 al24 s25) [(.int al15)]) _
        exact kt
      by_cases hc1425 : al15 = (0 : Int32)
      · rw [own_eqT hc1425] at hf
        have pre1426 : Cm p e below E0 (T0.setTop (mkF m 444 (lt52 s0 s1 s2 s3 s4 s5 s6 al7 al8 s9 s10 s11 s12 al13 al14 al15 s16 s17 b53 al19 s20 s21 al22 al23 al24 al13) [])) := fun t kt => by
          refine pre1424 t ?_
          show Sp p e below T0 (mkF m 408 (lt51 s0 s1 s2 s3 s4 s5 s6 al7 al8 s9 s10 s11 s12 al13 al14 al15 s16 s17 b53 al19 s20 s21 al22 al23 al24 s25) [(.int al15)]) _
          refine XS.ifNo X1.here hx rfl (hb hby at_408) rfl ((if0 _ _).trans (teq hc1425).2) ?_
          show Sp p e below T0 (mkF m 411 (lt51 s0 s1 s2 s3 s4 s5 s6 al7 al8 s9 s10 s11 s12 al13 al14 al15 s16 s17 b53 al19 s20 s21 al22 al23 al24 s25) []) _
          refine XS.iload X1.here hx rfl (hb hby at_411) rfl ?_
          show Sp p e below T0 (mkF m 413 (lt51 s0 s1 s2 s3 s4 s5 s6 al7 al8 s9 s10 s11 s12 al13 al14 al15 s16 s17 b53 al19 s20 s21 al22 al23 al24 s25) [(.int al13)]) _
          refine XS.goto X1.here hx rfl (pc0 := 413) (pc' := 442) rfl (hb hby at_413) (by decide) (by decide) ?_
          show Sp p e below T0 (mkF m 442 (lt51 s0 s1 s2 s3 s4 s5 s6 al7 al8 s9 s10 s11 s12 al13 al14 al15 s16 s17 b53 al19 s20 s21 al22 al23 al24 s25) [(.int al13)]) _
          refine XS.istoreS X1.here hx rfl (hb hby at_442) rfl rfl u25 ?_
          show Sp p e below T0 (mkF m 444 (lt52 s0 s1 s2 s3 s4 s5 s6 al7 al8 s9 s10 s11 s12 al13 al14 al15 s16 s17 b53 al19 s20 s21 al22 al23 al24 al13) []) _
          exact kt
        exact j444 nc A K S0 M al13 al14 al19 al22 al23 al24 al13 s0 s1 s2 s3 s4 s5 s6 (.val (.int al7)) (.val (.int al8)) s9 s10 s11 s12 (.val (.int al15)) s16 s17 s20 s21 u0 u1 u2 u3 u4 u5 u6 (Or.inr ⟨_, rfl, rfl⟩) (Or.inr ⟨_, rfl, rfl⟩) u9 u10 u11 u12 (Or.inr ⟨_, rfl, rfl⟩) u16 u17 u20 u21 T0 _ _ (X1.more (by decide) (by decide)) e1 O1 N1 B1 hf pre1426
      · rw [own_eqF hc1425] at hf
        have pre1427 : Cm p e below E0 (T0.setTop (mkF m 420 (lt51 s0 s1 s2 s3 s4 s5 s6 al7 al8 s9 s10 s11 s12 al13 al14 al15 s16 s17 b53 al19 s20 s21 al22 al23 al24 s25) [(.int al7), (.int al13)])) := fun t kt => by
          refine pre1424 t ?_
          show Sp p e below T0 (mkF m 408 (lt51 s0 s1 s2 s3 s4 s5 s6 al7 al8 s9 s10 s11 s12 al13 al14 al15 s16 s17 b53 al19 s20 s21 al22 al23 al24 s25) [(.int al15)]) _
          refine XS.ifYes X1.here hx rfl (pc0 := 408) (pc' := 416) rfl (hb hby at_408) rfl ((if0 _ _).trans (feq hc1425).2) (by decide) (by decide) ?_
          show Sp p e below T0 (mkF m 416 (lt51 s0 s1 s2 s3 s4 s5 s6 al7 al8 s9 s10 s11 s12 al13 al14 al15 s16 s17 b53 al19 s20 s21 al22 al23 al24 s25) []) _
          refine XS.iload X1.here hx rfl (hb hby at_416) rfl ?_
          refine XS.iload X1.here hx rfl (hb hby at_418) rfl ?_
          show Sp p e below T0 (mkF m 420 (lt51 s0 s1 s2 s3 s4 s5 s6 al7 al8 s9 s10 s11 s12 al13 al14 al15 s16 s17 b53 al19 s20 s21 al22 al23 al24 s25) [(.int al7), (.int al13)]) _
          exact kt
        by_cases hc1428 : al13 = al7
        · rw [own_eqT hc1428] at hf
          have pre1429 : Cm p e below E0 (T0.setTop (mkF m 444 (lt52 s0 s1 s2 s3 s4 s5 s6 al7 al8 s9 s10 s11 s12 al13 al14 al15 s16 s17 b53 al19 s20 s21 al22 al23 al24 al8) [])) := fun t kt => by
            refine pre1427 t ?_
            show Sp p e below T0 (mkF m 420 (lt51 s0 s1 s2 s3 s4 s5 s6 al7 al8 s9 s10 s11 s12 al13 al14 al15 s16 s17 b53 al19 s20 s21 al22 al23 al24 s25) [(.int al7), (.int al13)]) _
            refine XS.icmpNo X1.here hx rfl (hb hby at_420) rfl (teq hc1428).2 ?_
            show Sp p e below T0 (mkF m 423 (lt51 s0 s1 s2 s3 s4 s5 s6 al7 al8 s9 s10 s11 s12 al13 al14 al15 s16 s17 b53 al19 s20 s21 al22 al23 al24 s25) []) _
            refine XS.iload X1.here hx rfl (hb hby at_423) rfl ?_
            show Sp p e below T0 (mkF m 425 (lt51 s0 s1 s2 s3 s4 s5 s6 al7 al8 s9 s10 s11 s12 al13 al14 al15 s16 s17 b53 al19 s20 s21 al22 al23 al24 s25) [(.int al8)]) _
            refine XS.goto X1.here hx rfl (pc0 := 425) (pc' := 442) rfl (hb hby at_425) (by decide) (by decide) ?_
            show Sp p e below T0 (mkF m 442 (lt51 s0 s1 s2 s3 s4 s5 s6 al7 al8 s9 s10 s11 s12 al13 al14 al15 s16 s17 b53 al19 s20 s21 al22 al23 al24 s25) [(.int al8)]) _
            refine XS.istoreS X1.here hx rfl (hb hby at_442) rfl rfl u25 ?_
            show Sp p e below T0 (mkF m 444 (lt52 s0 s1 s2 s3 s4 s5 s6 al7 al8 s9 s10 s11 s12 al13 al14 al15 s16 s17 b53 al19 s20 s21 al22 al23 al24 al8) []) _
            exact kt
          exact j444 nc A K S0 M al13 al14 al19 al22 al23 al24 al8 s0 s1 s2 s3 s4 s5 s6 (.val (.int al7)) (.val (.int al8)) s9 s10 s11 s12 (.val (.int al15)) s16 s17 s20 s21 u0 u1 u2 u3 u4 u5 u6 (Or.inr ⟨_, rfl, rfl⟩) (Or.inr ⟨_, rfl, rfl⟩) u9 u10 u11 u12 (Or.inr ⟨_, rfl, rfl⟩) u16 u17 u20 u21 T0 _ _ (X1.more (by decide) (by decide)) e1 O1 N1 B1 hf pre1429
        · rw [own_eqF hc1428] at hf
          have pre1430 : Cm p e below E0 (T0.setTop (mkF m 432 (lt51 s0 s1 s2 s3 s4 s5 s6 al7 al8 s9 s10 s11 s12 al13 al14 al15 s16 s17 b53 al19 s20 s21 al22 al23 al24 s25) [(.int al8), (.int al13)])) := fun t kt => by
            refine pre1427 t ?_
            show Sp p e below T0 (mkF m 420 (lt51 s0 s1 s2 s3 s4 s5 s6 al7 al8 s9 s10 s11 s12 al13 al14 al15 s16 s17 b53 al19 s20 s21 al22 al23 al24 s25) [(.int al7), (.int al13)]) _
            refine XS.icmpYes X1.here hx rfl (pc0 := 420) (pc' := 428) rfl (hb hby at_420) rfl (feq hc1428).2 (by decide) (by decide) ?_
            show Sp p e below T0 (mkF m 428 (lt51 s0 s1 s2 s3 s4 s5 s6 al7 al8 s9 s10 s11 s12 al13 al14 al15 s16 s17 b53 al19 s20 s21 al22 al23 al24 s25) []) _
            refine XS.iload X1.here hx rfl (hb hby at_428) rfl ?_
            refine XS.iload X1.here hx rfl (hb hby at_430) rfl ?_
            show Sp p e below T0 (mkF m 432 (lt51 s0 s1 s2 s3 s4 s5 s6 al7 al8 s9 s10 s11 s12 al13 al14 al15 s16 s17 b53 al19 s20 s21 al22 al23 al24 s25) [(.int al8), (.int al13)]) _
            exact kt
          by_cases hc1431 : al13 = al8
          · rw [own_eqT hc1431] at hf
            have pre1432 : Cm p e below E0 (T0.setTop (mkF m 444 (lt52 s0 s1 s2 s3 s4 s5 s6 al7 al8 s9 s10 s11 s12 al13 al14 al15 s16 s17 b53 al19 s20 s21 al22 al23 al24 al7) [])) := fun t kt => by
              refine pre1430 t ?_
              show Sp p e below T0 (mkF m 432 (lt51 s0 s1 s2 s3 s4 s5 s6 al7 al8 s9 s10 s11 s12 al13 al14 al15 s16 s17 b53 al19 s20 s21 al22 al23 al24 s25) [(.int al8), (.int al13)]) _
              refine XS.icmpNo X1.here hx rfl (hb hby at_432) rfl (teq hc1431).2 ?_
              show Sp p e below T0 (mkF m 435 (lt51 s0 s1 s2 s3 s4 s5 s6 al7 al8 s9 s10 s11 s12 al13 al14 al15 s16 s17 b53 al19 s20 s21 al22 al23 al24 s25) []) _
              refine XS.iload X1.here hx rfl (hb hby at_435) rfl ?_
              show Sp p e below T0 (mkF m 437 (lt51 s0 s1 s2 s3 s4 s5 s6 al7 al8 s9 s10 s11 s12 al13 al14 al15 s16 s17 b53 al19 s20 s21 al22 al23 al24 s25) [(.int al7)]) _
              refine XS.goto X1.here hx rfl (pc0 := 437) (pc' := 442) rfl (hb hby at_437) (by decide) (by decide) ?_
              show Sp p e below T0 (mkF m 442 (lt51 s0 s1 s2 s3 s4 s5 s6 al7 al8 s9 s10 s11 s12 al13 al14 al15 s16 s17 b53 al19 s20 s21 al22 al23 al24 s25) [(.int al7)]) _
              refine XS.istoreS X1.here hx rfl (hb hby at_442) rfl rfl u25 ?_
              show Sp p e below T0 (mkF m 444 (lt52 s0 s1 s2 s3 s4 s5 s6 al7 al8 s9 s10 s11 s12 al13 al14 al15 s16 s17 b53 al19 s20 s21 al22 al23 al24 al7) []) _
              exact kt
            exact j444 nc A K S0 M al13 al14 al19 al22 al23 al24 al7 s0 s1 s2 s3 s4 s5 s6 (.val (.int al7)) (.val (.int al8)) s9 s10 s11 s12 (.val (.int al15)) s16 s17 s20 s21 u0 u1 u2 u3 u4 u5 u6 (Or.inr ⟨_, rfl, rfl⟩) (Or.inr ⟨_, rfl, rfl⟩) u9 u10 u11 u12 (Or.inr ⟨_, rfl, rfl⟩) u16 u17 u20 u21 T0 _ _ (X1.more (by decide) (by decide)) e1 O1 N1 B1 hf pre1432
          · rw [own_eqF hc1431] at hf
            have pre1433 : Cm p e below E0 (T0.setTop (mkF m 444 (lt52 s0 s1 s2 s3 s4 s5 s6 al7 al8 s9 s10 s11 s12 al13 al14 al15 s16 s17 b53 al19 s20 s21 al22 al23 al24 al13) [])) := fun t kt => by
              refine pre1430 t ?_
              show Sp p e below T0 (mkF m 432 (lt51 s0 s1 s2 s3 s4 s5 s6 al7 al8 s9 s10 s11 s12 al13 al14 al15 s16 s17 b53 al19 s20 s21 al22 al23 al24 s25) [(.int al8), (.int al13)]) _
              refine XS.icmpYes X1.here hx rfl (pc0 := 432) (pc' := 440) rfl (hb hby at_432) rfl (feq hc1431).2 (by decide) (by decide) ?_
              show Sp p e below T0 (mkF m 440 (lt51 s0 s1 s2 s3 s4 s5 s6 al7 al8 s9 s10 s11 s12 al13 al14 al15 s16 s17 b53 al19 s20 s21 al22 al23 al24 s25) []) _
              refine XS.iload X1.here hx rfl (hb hby at_440) rfl ?_
              refine XS.istoreS X1.here hx rfl (hb hby at_442) rfl rfl u25 ?_
              show Sp p e below T0 (mkF m 444 (lt52 s0 s1 s2 s3 s4 s5 s6 al7 al8 s9 s10 s11 s12 al13 al14 al15 s16 s17 b53 al19 s20 s21 al22 al23 al24 al13) []) _
              exact kt
            exact j444 nc A K S0 M al13 al14 al19 al22 al23 al24 al13 s0 s1 s2 s3 s4 s5 s6 (.val (.int al7)) (.val (.int al8)) s9 s10 s11 s12 (.val (.int al15)) s16 s17 s20 s21 u0 u1 u2 u3 u4 u5 u6 (Or.inr ⟨_, rfl, rfl⟩) (Or.inr ⟨_, rfl, rfl⟩) u9 u10 u11 u12 (Or.inr ⟨_, rfl, rfl⟩) u16 u17 u20 u21 T0 _ _ (X1.more (by decide) (by decide)) e1 O1 N1 B1 hf pre1433
    have j389 : ∀ (nc : Nat) (A : Nat → Addr) (K : Nat → ClassId) (S0 : Addr), ∀ (M : MM) (al7 : Int32) (al8 : Int32) (al13 : Int32) (al14 : Int32) (al15 : Int32) (al19 : Int32) (al20 : Int32) (al22 : Int32) (al23 : Int32) (s0 : Slot) (s1 : Slot) (s2 : Slot) (s3 : Slot) (s4 : Slot) (s5 : Slot) (s6 : Slot) (s9 : Slot) (s10 : Slot) (s11 : Slot) (s12 : Slot) (s16 : Slot) (s17 : Slot) (s21 : Slot) (s24 : Slot) (s25 : Slot) (_ : s0 = .unset ∨ ∃ w, s0 = .val w ∧ w.category = 1) (_ : s1 = .unset ∨ ∃ w, s1 = .val w ∧ w.category = 1) (_ : s2 = .unset ∨ ∃ w, s2 = .val w ∧ w.category = 1) (_ : s3 = .unset ∨ ∃ w, s3 = .val w ∧ w.category = 1) (_ : s4 = .unset ∨ ∃ w, s4 = .val w ∧ w.category = 1) (_ : s5 = .unset ∨ ∃ w, s5 = .val w ∧ w.category = 1) (_ : s6 = .unset ∨ ∃ w, s6 = .val w ∧ w.category = 1) (_ : s9 = .unset ∨ ∃ w, s9 = .val w ∧ w.category = 1) (_ : s10 = .unset ∨ ∃ w, s10 = .val w ∧ w.category = 1) (_ : s11 = .unset ∨ ∃ w, s11 = .val w ∧ w.category = 1) (_ : s12 = .unset ∨ ∃ w, s12 = .val w ∧ w.category = 1) (_ : s16 = .unset ∨ ∃ w, s16 = .val w ∧ w.category = 1) (_ : s17 = .unset ∨ ∃ w, s17 = .val w ∧ w.category = 1) (_ : s21 = .unset ∨ ∃ w, s21 = .val w ∧ w.category = 1) (_ : s24 = .unset ∨ ∃ w, s24 = .val w ∧ w.category = 1) (_ : s25 = .unset ∨ ∃ w, s25 = .val w ∧ w.category = 1) (T0 : State) (L1 : List Loc) (h1 : Heap), Stand p l e room_1 s m #[(.int p0), (.int p1), (.int p2), (.int p3), (.int p4), (.int p5)] below meth c T0 L1 18 197 → T0.heap = h1 → Old Z n0 h1 → Fr n0 L1 → EB Z n0 false h1 b53 A K S0 nc M → f0_389 p0 p1 p2 p3 p4 p5 nc M al7 al8 al13 al14 al15 al19 al20 al22 al23 = some (1, Mf) → Cm p e below E0 (T0.setTop (mkF m 389 (lt49 s0 s1 s2 s3 s4 s5 s6 al7 al8 s9 s10 s11 s12 al13 al14 al15 s16 s17 b53 al19 al20 s21 al22 al23 s24 s25) [])) → False := by
      intro nc A K S0 M al7 al8 al13 al14 al15 al19 al20 al22 al23 s0 s1 s2 s3 s4 s5 s6 s9 s10 s11 s12 s16 s17 s21 s24 s25 u0 u1 u2 u3 u4 u5 u6 u9 u10 u11 u12 u16 u17 u21 u24 u25 T0 L1 h1 X1 e1 O1 N1 B1 hf pre1
      unfold f0_389 at hf
      have pre1417 : Cm p e below E0 (T0.setTop (mkF m 391 (lt49 s0 s1 s2 s3 s4 s5 s6 al7 al8 s9 s10 s11 s12 al13 al14 al15 s16 s17 b53 al19 al20 s21 al22 al23 s24 s25) [(.int al15)])) := fun t kt => by
        refine pre1 t ?_
        show Sp p e below T0 (mkF m 389 (lt49 s0 s1 s2 s3 s4 s5 s6 al7 al8 s9 s10 s11 s12 al13 al14 al15 s16 s17 b53 al19 al20 s21 al22 al23 s24 s25) []) _
        refine XS.iload X1.here hx rfl (hb hby at_389) rfl ?_
        show Sp p e below T0 (mkF m 391 (lt49 s0 s1 s2 s3 s4 s5 s6 al7 al8 s9 s10 s11 s12 al13 al14 al15 s16 s17 b53 al19 al20 s21 al22 al23 s24 s25) [(.int al15)]) _
        exact kt
      by_cases hc1418 : al15 = (0 : Int32)
      · rw [own_eqT hc1418] at hf
        have pre1419 : Cm p e below E0 (T0.setTop (mkF m 406 (lt50 s0 s1 s2 s3 s4 s5 s6 al7 al8 s9 s10 s11 s12 al13 al14 al15 s16 s17 b53 al19 al20 s21 al22 al23 0 s25) [])) := fun t kt => by
          refine pre1417 t ?_
          show Sp p e below T0 (mkF m 391 (lt49 s0 s1 s2 s3 s4 s5 s6 al7 al8 s9 s10 s11 s12 al13 al14 al15 s16 s17 b53 al19 al20 s21 al22 al23 s24 s25) [(.int al15)]) _
          refine XS.ifYes X1.here hx rfl (pc0 := 391) (pc' := 403) rfl (hb hby at_391) rfl ((if0 _ _).trans (teq hc1418).1) (by decide) (by decide) ?_
          show Sp p e below T0 (mkF m 403 (lt49 s0 s1 s2 s3 s4 s5 s6 al7 al8 s9 s10 s11 s12 al13 al14 al15 s16 s17 b53 al19 al20 s21 al22 al23 s24 s25) []) _
          refine XS.iconst X1.here hx rfl (hb hby at_403) ?_
          refine XS.istoreS X1.here hx rfl (hb hby at_404) rfl rfl u24 ?_
          show Sp p e below T0 (mkF m 406 (lt50 s0 s1 s2 s3 s4 s5 s6 al7 al8 s9 s10 s11 s12 al13 al14 al15 s16 s17 b53 al19 al20 s21 al22 al23 0 s25) []) _
          exact kt
        exact j406 nc A K S0 M al7 al8 al13 al14 al15 al19 al22 al23 (0 : Int32) s0 s1 s2 s3 s4 s5 s6 s9 s10 s11 s12 s16 s17 (.val (.int al20)) s21 s25 u0 u1 u2 u3 u4 u5 u6 u9 u10 u11 u12 u16 u17 (Or.inr ⟨_, rfl, rfl⟩) u21 u25 T0 _ _ (X1.more (by decide) (by decide)) e1 O1 N1 B1 hf pre1419
      · rw [own_eqF hc1418] at hf
        have pre1420 : Cm p e below E0 (T0.setTop (mkF m 396 (lt49 s0 s1 s2 s3 s4 s5 s6 al7 al8 s9 s10 s11 s12 al13 al14 al15 s16 s17 b53 al19 al20 s21 al22 al23 s24 s25) [(.int al20)])) := fun t kt => by
          refine pre1417 t ?_
          show Sp p e below T0 (mkF m 391 (lt49 s0 s1 s2 s3 s4 s5 s6 al7 al8 s9 s10 s11 s12 al13 al14 al15 s16 s17 b53 al19 al20 s21 al22 al23 s24 s25) [(.int al15)]) _
          refine XS.ifNo X1.here hx rfl (hb hby at_391) rfl ((if0 _ _).trans (feq hc1418).1) ?_
          show Sp p e below T0 (mkF m 394 (lt49 s0 s1 s2 s3 s4 s5 s6 al7 al8 s9 s10 s11 s12 al13 al14 al15 s16 s17 b53 al19 al20 s21 al22 al23 s24 s25) []) _
          refine XS.iload X1.here hx rfl (hb hby at_394) rfl ?_
          show Sp p e below T0 (mkF m 396 (lt49 s0 s1 s2 s3 s4 s5 s6 al7 al8 s9 s10 s11 s12 al13 al14 al15 s16 s17 b53 al19 al20 s21 al22 al23 s24 s25) [(.int al20)]) _
          exact kt
        by_cases hc1421 : al20 = (0 : Int32)
        · rw [own_eqT hc1421] at hf
          have pre1422 : Cm p e below E0 (T0.setTop (mkF m 406 (lt50 s0 s1 s2 s3 s4 s5 s6 al7 al8 s9 s10 s11 s12 al13 al14 al15 s16 s17 b53 al19 al20 s21 al22 al23 0 s25) [])) := fun t kt => by
            refine pre1420 t ?_
            show Sp p e below T0 (mkF m 396 (lt49 s0 s1 s2 s3 s4 s5 s6 al7 al8 s9 s10 s11 s12 al13 al14 al15 s16 s17 b53 al19 al20 s21 al22 al23 s24 s25) [(.int al20)]) _
            refine XS.ifYes X1.here hx rfl (pc0 := 396) (pc' := 403) rfl (hb hby at_396) rfl ((if0 _ _).trans (teq hc1421).1) (by decide) (by decide) ?_
            show Sp p e below T0 (mkF m 403 (lt49 s0 s1 s2 s3 s4 s5 s6 al7 al8 s9 s10 s11 s12 al13 al14 al15 s16 s17 b53 al19 al20 s21 al22 al23 s24 s25) []) _
            refine XS.iconst X1.here hx rfl (hb hby at_403) ?_
            refine XS.istoreS X1.here hx rfl (hb hby at_404) rfl rfl u24 ?_
            show Sp p e below T0 (mkF m 406 (lt50 s0 s1 s2 s3 s4 s5 s6 al7 al8 s9 s10 s11 s12 al13 al14 al15 s16 s17 b53 al19 al20 s21 al22 al23 0 s25) []) _
            exact kt
          exact j406 nc A K S0 M al7 al8 al13 al14 al15 al19 al22 al23 (0 : Int32) s0 s1 s2 s3 s4 s5 s6 s9 s10 s11 s12 s16 s17 (.val (.int al20)) s21 s25 u0 u1 u2 u3 u4 u5 u6 u9 u10 u11 u12 u16 u17 (Or.inr ⟨_, rfl, rfl⟩) u21 u25 T0 _ _ (X1.more (by decide) (by decide)) e1 O1 N1 B1 hf pre1422
        · rw [own_eqF hc1421] at hf
          have pre1423 : Cm p e below E0 (T0.setTop (mkF m 406 (lt50 s0 s1 s2 s3 s4 s5 s6 al7 al8 s9 s10 s11 s12 al13 al14 al15 s16 s17 b53 al19 al20 s21 al22 al23 1 s25) [])) := fun t kt => by
            refine pre1420 t ?_
            show Sp p e below T0 (mkF m 396 (lt49 s0 s1 s2 s3 s4 s5 s6 al7 al8 s9 s10 s11 s12 al13 al14 al15 s16 s17 b53 al19 al20 s21 al22 al23 s24 s25) [(.int al20)]) _
            refine XS.ifNo X1.here hx rfl (hb hby at_396) rfl ((if0 _ _).trans (feq hc1421).1) ?_
            show Sp p e below T0 (mkF m 399 (lt49 s0 s1 s2 s3 s4 s5 s6 al7 al8 s9 s10 s11 s12 al13 al14 al15 s16 s17 b53 al19 al20 s21 al22 al23 s24 s25) []) _
            refine XS.iconst X1.here hx rfl (hb hby at_399) ?_
            show Sp p e below T0 (mkF m 400 (lt49 s0 s1 s2 s3 s4 s5 s6 al7 al8 s9 s10 s11 s12 al13 al14 al15 s16 s17 b53 al19 al20 s21 al22 al23 s24 s25) [(.int 1)]) _
            refine XS.goto X1.here hx rfl (pc0 := 400) (pc' := 404) rfl (hb hby at_400) (by decide) (by decide) ?_
            show Sp p e below T0 (mkF m 404 (lt49 s0 s1 s2 s3 s4 s5 s6 al7 al8 s9 s10 s11 s12 al13 al14 al15 s16 s17 b53 al19 al20 s21 al22 al23 s24 s25) [(.int 1)]) _
            refine XS.istoreS X1.here hx rfl (hb hby at_404) rfl rfl u24 ?_
            show Sp p e below T0 (mkF m 406 (lt50 s0 s1 s2 s3 s4 s5 s6 al7 al8 s9 s10 s11 s12 al13 al14 al15 s16 s17 b53 al19 al20 s21 al22 al23 1 s25) []) _
            exact kt
          exact j406 nc A K S0 M al7 al8 al13 al14 al15 al19 al22 al23 (1 : Int32) s0 s1 s2 s3 s4 s5 s6 s9 s10 s11 s12 s16 s17 (.val (.int al20)) s21 s25 u0 u1 u2 u3 u4 u5 u6 u9 u10 u11 u12 u16 u17 (Or.inr ⟨_, rfl, rfl⟩) u21 u25 T0 _ _ (X1.more (by decide) (by decide)) e1 O1 N1 B1 hf pre1423
    have j366 : ∀ (nc : Nat) (A : Nat → Addr) (K : Nat → ClassId) (S0 : Addr), ∀ (M : MM) (al6 : Int32) (al7 : Int32) (al8 : Int32) (al13 : Int32) (al14 : Int32) (al15 : Int32) (al19 : Int32) (al20 : Int32) (al22 : Int32) (s0 : Slot) (s1 : Slot) (s2 : Slot) (s3 : Slot) (s4 : Slot) (s5 : Slot) (s9 : Slot) (s10 : Slot) (s11 : Slot) (s12 : Slot) (s16 : Slot) (s17 : Slot) (s21 : Slot) (s23 : Slot) (s24 : Slot) (s25 : Slot) (_ : s0 = .unset ∨ ∃ w, s0 = .val w ∧ w.category = 1) (_ : s1 = .unset ∨ ∃ w, s1 = .val w ∧ w.category = 1) (_ : s2 = .unset ∨ ∃ w, s2 = .val w ∧ w.category = 1) (_ : s3 = .unset ∨ ∃ w, s3 = .val w ∧ w.category = 1) (_ : s4 = .unset ∨ ∃ w, s4 = .val w ∧ w.category = 1) (_ : s5 = .unset ∨ ∃ w, s5 = .val w ∧ w.category = 1) (_ : s9 = .unset ∨ ∃ w, s9 = .val w ∧ w.category = 1) (_ : s10 = .unset ∨ ∃ w, s10 = .val w ∧ w.category = 1) (_ : s11 = .unset ∨ ∃ w, s11 = .val w ∧ w.category = 1) (_ : s12 = .unset ∨ ∃ w, s12 = .val w ∧ w.category = 1) (_ : s16 = .unset ∨ ∃ w, s16 = .val w ∧ w.category = 1) (_ : s17 = .unset ∨ ∃ w, s17 = .val w ∧ w.category = 1) (_ : s21 = .unset ∨ ∃ w, s21 = .val w ∧ w.category = 1) (_ : s23 = .unset ∨ ∃ w, s23 = .val w ∧ w.category = 1) (_ : s24 = .unset ∨ ∃ w, s24 = .val w ∧ w.category = 1) (_ : s25 = .unset ∨ ∃ w, s25 = .val w ∧ w.category = 1) (T0 : State) (L1 : List Loc) (h1 : Heap), Stand p l e room_1 s m #[(.int p0), (.int p1), (.int p2), (.int p3), (.int p4), (.int p5)] below meth c T0 L1 18 197 → T0.heap = h1 → Old Z n0 h1 → Fr n0 L1 → EB Z n0 false h1 b53 A K S0 nc M → f0_366 p0 p1 p2 p3 p4 p5 nc M al6 al7 al8 al13 al14 al15 al19 al20 al22 = some (1, Mf) → Cm p e below E0 (T0.setTop (mkF m 366 (lt47 s0 s1 s2 s3 s4 s5 al6 al7 al8 s9 s10 s11 s12 al13 al14 al15 s16 s17 b53 al19 al20 s21 al22 s23 s24 s25) [])) → False := by
      intro nc A K S0 M al6 al7 al8 al13 al14 al15 al19 al20 al22 s0 s1 s2 s3 s4 s5 s9 s10 s11 s12 s16 s17 s21 s23 s24 s25 u0 u1 u2 u3 u4 u5 u9 u10 u11 u12 u16 u17 u21 u23 u24 u25 T0 L1 h1 X1 e1 O1 N1 B1 hf pre1
      unfold f0_366 at hf
      have pre1410 : Cm p e below E0 (T0.setTop (mkF m 368 (lt47 s0 s1 s2 s3 s4 s5 al6 al7 al8 s9 s10 s11 s12 al13 al14 al15 s16 s17 b53 al19 al20 s21 al22 s23 s24 s25) [(.int al15)])) := fun t kt => by
        refine pre1 t ?_
        show Sp p e below T0 (mkF m 366 (lt47 s0 s1 s2 s3 s4 s5 al6 al7 al8 s9 s10 s11 s12 al13 al14 al15 s16 s17 b53 al19 al20 s21 al22 s23 s24 s25) []) _
        refine XS.iload X1.here hx rfl (hb hby at_366) rfl ?_
        show Sp p e below T0 (mkF m 368 (lt47 s0 s1 s2 s3 s4 s5 al6 al7 al8 s9 s10 s11 s12 al13 al14 al15 s16 s17 b53 al19 al20 s21 al22 s23 s24 s25) [(.int al15)]) _
        exact kt
      by_cases hc1411 : al15 = (0 : Int32)
      · rw [own_eqT hc1411] at hf
        have pre1412 : Cm p e below E0 (T0.setTop (mkF m 373 (lt47 s0 s1 s2 s3 s4 s5 al6 al7 al8 s9 s10 s11 s12 al13 al14 al15 s16 s17 b53 al19 al20 s21 al22 s23 s24 s25) [(.int al20)])) := fun t kt => by
          refine pre1410 t ?_
          show Sp p e below T0 (mkF m 368 (lt47 s0 s1 s2 s3 s4 s5 al6 al7 al8 s9 s10 s11 s12 al13 al14 al15 s16 s17 b53 al19 al20 s21 al22 s23 s24 s25) [(.int al15)]) _
          refine XS.ifNo X1.here hx rfl (hb hby at_368) rfl ((if0 _ _).trans (teq hc1411).2) ?_
          show Sp p e below T0 (mkF m 371 (lt47 s0 s1 s2 s3 s4 s5 al6 al7 al8 s9 s10 s11 s12 al13 al14 al15 s16 s17 b53 al19 al20 s21 al22 s23 s24 s25) []) _
          refine XS.iload X1.here hx rfl (hb hby at_371) rfl ?_
          show Sp p e below T0 (mkF m 373 (lt47 s0 s1 s2 s3 s4 s5 al6 al7 al8 s9 s10 s11 s12 al13 al14 al15 s16 s17 b53 al19 al20 s21 al22 s23 s24 s25) [(.int al20)]) _
          exact kt
        by_cases hc1413 : al20 = (0 : Int32)
        · rw [own_eqT hc1413] at hf
          have pre1414 : Cm p e below E0 (T0.setTop (mkF m 389 (lt48 s0 s1 s2 s3 s4 s5 al6 al7 al8 s9 s10 s11 s12 al13 al14 al15 s16 s17 b53 al19 al20 s21 al22 (al6 - 1) s24 s25) [])) := fun t kt => by
            refine pre1412 t ?_
            show Sp p e below T0 (mkF m 373 (lt47 s0 s1 s2 s3 s4 s5 al6 al7 al8 s9 s10 s11 s12 al13 al14 al15 s16 s17 b53 al19 al20 s21 al22 s23 s24 s25) [(.int al20)]) _
            refine XS.ifYes X1.here hx rfl (pc0 := 373) (pc' := 383) rfl (hb hby at_373) rfl ((if0 _ _).trans (teq hc1413).1) (by decide) (by decide) ?_
            show Sp p e below T0 (mkF m 383 (lt47 s0 s1 s2 s3 s4 s5 al6 al7 al8 s9 s10 s11 s12 al13 al14 al15 s16 s17 b53 al19 al20 s21 al22 s23 s24 s25) []) _
            refine XS.iload X1.here hx rfl (hb hby at_383) rfl ?_
            refine XS.iconst X1.here hx rfl (hb hby at_385) ?_
            show Sp p e below T0 (mkF m 386 (lt47 s0 s1 s2 s3 s4 s5 al6 al7 al8 s9 s10 s11 s12 al13 al14 al15 s16 s17 b53 al19 al20 s21 al22 s23 s24 s25) [(.int 1), (.int al6)]) _
            refine XS.isub X1.here hx rfl (hb hby at_386) rfl ?_
            refine XS.istoreS X1.here hx rfl (hb hby at_387) rfl rfl u23 ?_
            show Sp p e below T0 (mkF m 389 (lt48 s0 s1 s2 s3 s4 s5 al6 al7 al8 s9 s10 s11 s12 al13 al14 al15 s16 s17 b53 al19 al20 s21 al22 (al6 - 1) s24 s25) []) _
            exact kt
          exact j389 nc A K S0 M al7 al8 al13 al14 al15 al19 al20 al22 (al6 - 1) s0 s1 s2 s3 s4 s5 (.val (.int al6)) s9 s10 s11 s12 s16 s17 s21 s24 s25 u0 u1 u2 u3 u4 u5 (Or.inr ⟨_, rfl, rfl⟩) u9 u10 u11 u12 u16 u17 u21 u24 u25 T0 _ _ (X1.more (by decide) (by decide)) e1 O1 N1 B1 hf pre1414
        · rw [own_eqF hc1413] at hf
          have pre1415 : Cm p e below E0 (T0.setTop (mkF m 389 (lt48 s0 s1 s2 s3 s4 s5 al6 al7 al8 s9 s10 s11 s12 al13 al14 al15 s16 s17 b53 al19 al20 s21 al22 (al6 - 2) s24 s25) [])) := fun t kt => by
            refine pre1412 t ?_
            show Sp p e below T0 (mkF m 373 (lt47 s0 s1 s2 s3 s4 s5 al6 al7 al8 s9 s10 s11 s12 al13 al14 al15 s16 s17 b53 al19 al20 s21 al22 s23 s24 s25) [(.int al20)]) _
            refine XS.ifNo X1.here hx rfl (hb hby at_373) rfl ((if0 _ _).trans (feq hc1413).1) ?_
            show Sp p e below T0 (mkF m 376 (lt47 s0 s1 s2 s3 s4 s5 al6 al7 al8 s9 s10 s11 s12 al13 al14 al15 s16 s17 b53 al19 al20 s21 al22 s23 s24 s25) []) _
            refine XS.iload X1.here hx rfl (hb hby at_376) rfl ?_
            refine XS.iconst X1.here hx rfl (hb hby at_378) ?_
            show Sp p e below T0 (mkF m 379 (lt47 s0 s1 s2 s3 s4 s5 al6 al7 al8 s9 s10 s11 s12 al13 al14 al15 s16 s17 b53 al19 al20 s21 al22 s23 s24 s25) [(.int 2), (.int al6)]) _
            refine XS.isub X1.here hx rfl (hb hby at_379) rfl ?_
            show Sp p e below T0 (mkF m 380 (lt47 s0 s1 s2 s3 s4 s5 al6 al7 al8 s9 s10 s11 s12 al13 al14 al15 s16 s17 b53 al19 al20 s21 al22 s23 s24 s25) [(.int (al6 - 2))]) _
            refine XS.goto X1.here hx rfl (pc0 := 380) (pc' := 387) rfl (hb hby at_380) (by decide) (by decide) ?_
            show Sp p e below T0 (mkF m 387 (lt47 s0 s1 s2 s3 s4 s5 al6 al7 al8 s9 s10 s11 s12 al13 al14 al15 s16 s17 b53 al19 al20 s21 al22 s23 s24 s25) [(.int (al6 - 2))]) _
            refine XS.istoreS X1.here hx rfl (hb hby at_387) rfl rfl u23 ?_
            show Sp p e below T0 (mkF m 389 (lt48 s0 s1 s2 s3 s4 s5 al6 al7 al8 s9 s10 s11 s12 al13 al14 al15 s16 s17 b53 al19 al20 s21 al22 (al6 - 2) s24 s25) []) _
            exact kt
          exact j389 nc A K S0 M al7 al8 al13 al14 al15 al19 al20 al22 (al6 - 2) s0 s1 s2 s3 s4 s5 (.val (.int al6)) s9 s10 s11 s12 s16 s17 s21 s24 s25 u0 u1 u2 u3 u4 u5 (Or.inr ⟨_, rfl, rfl⟩) u9 u10 u11 u12 u16 u17 u21 u24 u25 T0 _ _ (X1.more (by decide) (by decide)) e1 O1 N1 B1 hf pre1415
      · rw [own_eqF hc1411] at hf
        have pre1416 : Cm p e below E0 (T0.setTop (mkF m 389 (lt48 s0 s1 s2 s3 s4 s5 al6 al7 al8 s9 s10 s11 s12 al13 al14 al15 s16 s17 b53 al19 al20 s21 al22 (al6 - 1) s24 s25) [])) := fun t kt => by
          refine pre1410 t ?_
          show Sp p e below T0 (mkF m 368 (lt47 s0 s1 s2 s3 s4 s5 al6 al7 al8 s9 s10 s11 s12 al13 al14 al15 s16 s17 b53 al19 al20 s21 al22 s23 s24 s25) [(.int al15)]) _
          refine XS.ifYes X1.here hx rfl (pc0 := 368) (pc' := 383) rfl (hb hby at_368) rfl ((if0 _ _).trans (feq hc1411).2) (by decide) (by decide) ?_
          show Sp p e below T0 (mkF m 383 (lt47 s0 s1 s2 s3 s4 s5 al6 al7 al8 s9 s10 s11 s12 al13 al14 al15 s16 s17 b53 al19 al20 s21 al22 s23 s24 s25) []) _
          refine XS.iload X1.here hx rfl (hb hby at_383) rfl ?_
          refine XS.iconst X1.here hx rfl (hb hby at_385) ?_
          show Sp p e below T0 (mkF m 386 (lt47 s0 s1 s2 s3 s4 s5 al6 al7 al8 s9 s10 s11 s12 al13 al14 al15 s16 s17 b53 al19 al20 s21 al22 s23 s24 s25) [(.int 1), (.int al6)]) _
          refine XS.isub X1.here hx rfl (hb hby at_386) rfl ?_
          refine XS.istoreS X1.here hx rfl (hb hby at_387) rfl rfl u23 ?_
          show Sp p e below T0 (mkF m 389 (lt48 s0 s1 s2 s3 s4 s5 al6 al7 al8 s9 s10 s11 s12 al13 al14 al15 s16 s17 b53 al19 al20 s21 al22 (al6 - 1) s24 s25) []) _
          exact kt
        exact j389 nc A K S0 M al7 al8 al13 al14 al15 al19 al20 al22 (al6 - 1) s0 s1 s2 s3 s4 s5 (.val (.int al6)) s9 s10 s11 s12 s16 s17 s21 s24 s25 u0 u1 u2 u3 u4 u5 (Or.inr ⟨_, rfl, rfl⟩) u9 u10 u11 u12 u16 u17 u21 u24 u25 T0 _ _ (X1.more (by decide) (by decide)) e1 O1 N1 B1 hf pre1416
    have j345 : ∀ (nc : Nat) (A : Nat → Addr) (K : Nat → ClassId) (S0 : Addr), ∀ (M : MM) (al6 : Int32) (al7 : Int32) (al8 : Int32) (al13 : Int32) (al14 : Int32) (al15 : Int32) (al19 : Int32) (al20 : Int32) (al21 : Int32) (s0 : Slot) (s1 : Slot) (s2 : Slot) (s3 : Slot) (s4 : Slot) (s5 : Slot) (s9 : Slot) (s10 : Slot) (s11 : Slot) (s12 : Slot) (s16 : Slot) (s17 : Slot) (s22 : Slot) (s23 : Slot) (s24 : Slot) (s25 : Slot) (_ : s0 = .unset ∨ ∃ w, s0 = .val w ∧ w.category = 1) (_ : s1 = .unset ∨ ∃ w, s1 = .val w ∧ w.category = 1) (_ : s2 = .unset ∨ ∃ w, s2 = .val w ∧ w.category = 1) (_ : s3 = .unset ∨ ∃ w, s3 = .val w ∧ w.category = 1) (_ : s4 = .unset ∨ ∃ w, s4 = .val w ∧ w.category = 1) (_ : s5 = .unset ∨ ∃ w, s5 = .val w ∧ w.category = 1) (_ : s9 = .unset ∨ ∃ w, s9 = .val w ∧ w.category = 1) (_ : s10 = .unset ∨ ∃ w, s10 = .val w ∧ w.category = 1) (_ : s11 = .unset ∨ ∃ w, s11 = .val w ∧ w.category = 1) (_ : s12 = .unset ∨ ∃ w, s12 = .val w ∧ w.category = 1) (_ : s16 = .unset ∨ ∃ w, s16 = .val w ∧ w.category = 1) (_ : s17 = .unset ∨ ∃ w, s17 = .val w ∧ w.category = 1) (_ : s22 = .unset ∨ ∃ w, s22 = .val w ∧ w.category = 1) (_ : s23 = .unset ∨ ∃ w, s23 = .val w ∧ w.category = 1) (_ : s24 = .unset ∨ ∃ w, s24 = .val w ∧ w.category = 1) (_ : s25 = .unset ∨ ∃ w, s25 = .val w ∧ w.category = 1) (T0 : State) (L1 : List Loc) (h1 : Heap), Stand p l e room_1 s m #[(.int p0), (.int p1), (.int p2), (.int p3), (.int p4), (.int p5)] below meth c T0 L1 18 197 → T0.heap = h1 → Old Z n0 h1 → Fr n0 L1 → EB Z n0 false h1 b53 A K S0 nc M → f0_345 p0 p1 p2 p3 p4 p5 nc M al6 al7 al8 al13 al14 al15 al19 al20 al21 = some (1, Mf) → Cm p e below E0 (T0.setTop (mkF m 345 (lt45 s0 s1 s2 s3 s4 s5 al6 al7 al8 s9 s10 s11 s12 al13 al14 al15 s16 s17 b53 al19 al20 al21 s22 s23 s24 s25) [])) → False := by
      intro nc A K S0 M al6 al7 al8 al13 al14 al15 al19 al20 al21 s0 s1 s2 s3 s4 s5 s9 s10 s11 s12 s16 s17 s22 s23 s24 s25 u0 u1 u2 u3 u4 u5 u9 u10 u11 u12 u16 u17 u22 u23 u24 u25 T0 L1 h1 X1 e1 O1 N1 B1 hf pre1
      unfold f0_345 at hf
      have pre1403 : Cm p e below E0 (T0.setTop (mkF m 347 (lt45 s0 s1 s2 s3 s4 s5 al6 al7 al8 s9 s10 s11 s12 al13 al14 al15 s16 s17 b53 al19 al20 al21 s22 s23 s24 s25) [(.int al21)])) := fun t kt => by
        refine pre1 t ?_
        show Sp p e below T0 (mkF m 345 (lt45 s0 s1 s2 s3 s4 s5 al6 al7 al8 s9 s10 s11 s12 al13 al14 al15 s16 s17 b53 al19 al20 al21 s22 s23 s24 s25) []) _
        refine XS.iload X1.here hx rfl (hb hby at_345) rfl ?_
        show Sp p e below T0 (mkF m 347 (lt45 s0 s1 s2 s3 s4 s5 al6 al7 al8 s9 s10 s11 s12 al13 al14 al15 s16 s17 b53 al19 al20 al21 s22 s23 s24 s25) [(.int al21)]) _
        exact kt
      by_cases hc1404 : al21 = (0 : Int32)
      · rw [own_eqT hc1404] at hf
        have pre1405 : Cm p e below E0 (T0.setTop (mkF m 366 (lt46 s0 s1 s2 s3 s4 s5 al6 al7 al8 s9 s10 s11 s12 al13 al14 al15 s16 s17 b53 al19 al20 al21 0 s23 s24 s25) [])) := fun t kt => by
          refine pre1403 t ?_
          show Sp p e below T0 (mkF m 347 (lt45 s0 s1 s2 s3 s4 s5 al6 al7 al8 s9 s10 s11 s12 al13 al14 al15 s16 s17 b53 al19 al20 al21 s22 s23 s24 s25) [(.int al21)]) _
          refine XS.ifNo X1.here hx rfl (hb hby at_347) rfl ((if0 _ _).trans (teq hc1404).2) ?_
          show Sp p e below T0 (mkF m 350 (lt45 s0 s1 s2 s3 s4 s5 al6 al7 al8 s9 s10 s11 s12 al13 al14 al15 s16 s17 b53 al19 al20 al21 s22 s23 s24 s25) []) _
          refine XS.iconst X1.here hx rfl (hb hby at_350) ?_
          show Sp p e below T0 (mkF m 351 (lt45 s0 s1 s2 s3 s4 s5 al6 al7 al8 s9 s10 s11 s12 al13 al14 al15 s16 s17 b53 al19 al20 al21 s22 s23 s24 s25) [(.int 0)]) _
          refine XS.goto X1.here hx rfl (pc0 := 351) (pc' := 364) rfl (hb hby at_351) (by decide) (by decide) ?_
          show Sp p e below T0 (mkF m 364 (lt45 s0 s1 s2 s3 s4 s5 al6 al7 al8 s9 s10 s11 s12 al13 al14 al15 s16 s17 b53 al19 al20 al21 s22 s23 s24 s25) [(.int 0)]) _
          refine XS.istoreS X1.here hx rfl (hb hby at_364) rfl rfl u22 ?_
          show Sp p e below T0 (mkF m 366 (lt46 s0 s1 s2 s3 s4 s5 al6 al7 al8 s9 s10 s11 s12 al13 al14 al15 s16 s17 b53 al19 al20 al21 0 s23 s24 s25) []) _
          exact kt
        exact j366 nc A K S0 M al6 al7 al8 al13 al14 al15 al19 al20 (0 : Int32) s0 s1 s2 s3 s4 s5 s9 s10 s11 s12 s16 s17 (.val (.int al21)) s23 s24 s25 u0 u1 u2 u3 u4 u5 u9 u10 u11 u12 u16 u17 (Or.inr ⟨_, rfl, rfl⟩) u23 u24 u25 T0 _ _ (X1.more (by decide) (by decide)) e1 O1 N1 B1 hf pre1405
      · rw [own_eqF hc1404] at hf
        have pre1406 : Cm p e below E0 (T0.setTop (mkF m 356 (lt45 s0 s1 s2 s3 s4 s5 al6 al7 al8 s9 s10 s11 s12 al13 al14 al15 s16 s17 b53 al19 al20 al21 s22 s23 s24 s25) [(.int al15)])) := fun t kt => by
          refine pre1403 t ?_
          show Sp p e below T0 (mkF m 347 (lt45 s0 s1 s2 s3 s4 s5 al6 al7 al8 s9 s10 s11 s12 al13 al14 al15 s16 s17 b53 al19 al20 al21 s22 s23 s24 s25) [(.int al21)]) _
          refine XS.ifYes X1.here hx rfl (pc0 := 347) (pc' := 354) rfl (hb hby at_347) rfl ((if0 _ _).trans (feq hc1404).2) (by decide) (by decide) ?_
          show Sp p e below T0 (mkF m 354 (lt45 s0 s1 s2 s3 s4 s5 al6 al7 al8 s9 s10 s11 s12 al13 al14 al15 s16 s17 b53 al19 al20 al21 s22 s23 s24 s25) []) _
          refine XS.iload X1.here hx rfl (hb hby at_354) rfl ?_
          show Sp p e below T0 (mkF m 356 (lt45 s0 s1 s2 s3 s4 s5 al6 al7 al8 s9 s10 s11 s12 al13 al14 al15 s16 s17 b53 al19 al20 al21 s22 s23 s24 s25) [(.int al15)]) _
          exact kt
        by_cases hc1407 : al15 = (0 : Int32)
        · rw [own_eqT hc1407] at hf
          have pre1408 : Cm p e below E0 (T0.setTop (mkF m 366 (lt46 s0 s1 s2 s3 s4 s5 al6 al7 al8 s9 s10 s11 s12 al13 al14 al15 s16 s17 b53 al19 al20 al21 2 s23 s24 s25) [])) := fun t kt => by
            refine pre1406 t ?_
            show Sp p e below T0 (mkF m 356 (lt45 s0 s1 s2 s3 s4 s5 al6 al7 al8 s9 s10 s11 s12 al13 al14 al15 s16 s17 b53 al19 al20 al21 s22 s23 s24 s25) [(.int al15)]) _
            refine XS.ifYes X1.here hx rfl (pc0 := 356) (pc' := 363) rfl (hb hby at_356) rfl ((if0 _ _).trans (teq hc1407).1) (by decide) (by decide) ?_
            show Sp p e below T0 (mkF m 363 (lt45 s0 s1 s2 s3 s4 s5 al6 al7 al8 s9 s10 s11 s12 al13 al14 al15 s16 s17 b53 al19 al20 al21 s22 s23 s24 s25) []) _
            refine XS.iconst X1.here hx rfl (hb hby at_363) ?_
            refine XS.istoreS X1.here hx rfl (hb hby at_364) rfl rfl u22 ?_
            show Sp p e below T0 (mkF m 366 (lt46 s0 s1 s2 s3 s4 s5 al6 al7 al8 s9 s10 s11 s12 al13 al14 al15 s16 s17 b53 al19 al20 al21 2 s23 s24 s25) []) _
            exact kt
          exact j366 nc A K S0 M al6 al7 al8 al13 al14 al15 al19 al20 (2 : Int32) s0 s1 s2 s3 s4 s5 s9 s10 s11 s12 s16 s17 (.val (.int al21)) s23 s24 s25 u0 u1 u2 u3 u4 u5 u9 u10 u11 u12 u16 u17 (Or.inr ⟨_, rfl, rfl⟩) u23 u24 u25 T0 _ _ (X1.more (by decide) (by decide)) e1 O1 N1 B1 hf pre1408
        · rw [own_eqF hc1407] at hf
          have pre1409 : Cm p e below E0 (T0.setTop (mkF m 366 (lt46 s0 s1 s2 s3 s4 s5 al6 al7 al8 s9 s10 s11 s12 al13 al14 al15 s16 s17 b53 al19 al20 al21 1 s23 s24 s25) [])) := fun t kt => by
            refine pre1406 t ?_
            show Sp p e below T0 (mkF m 356 (lt45 s0 s1 s2 s3 s4 s5 al6 al7 al8 s9 s10 s11 s12 al13 al14 al15 s16 s17 b53 al19 al20 al21 s22 s23 s24 s25) [(.int al15)]) _
            refine XS.ifNo X1.here hx rfl (hb hby at_356) rfl ((if0 _ _).trans (feq hc1407).1) ?_
            show Sp p e below T0 (mkF m 359 (lt45 s0 s1 s2 s3 s4 s5 al6 al7 al8 s9 s10 s11 s12 al13 al14 al15 s16 s17 b53 al19 al20 al21 s22 s23 s24 s25) []) _
            refine XS.iconst X1.here hx rfl (hb hby at_359) ?_
            show Sp p e below T0 (mkF m 360 (lt45 s0 s1 s2 s3 s4 s5 al6 al7 al8 s9 s10 s11 s12 al13 al14 al15 s16 s17 b53 al19 al20 al21 s22 s23 s24 s25) [(.int 1)]) _
            refine XS.goto X1.here hx rfl (pc0 := 360) (pc' := 364) rfl (hb hby at_360) (by decide) (by decide) ?_
            show Sp p e below T0 (mkF m 364 (lt45 s0 s1 s2 s3 s4 s5 al6 al7 al8 s9 s10 s11 s12 al13 al14 al15 s16 s17 b53 al19 al20 al21 s22 s23 s24 s25) [(.int 1)]) _
            refine XS.istoreS X1.here hx rfl (hb hby at_364) rfl rfl u22 ?_
            show Sp p e below T0 (mkF m 366 (lt46 s0 s1 s2 s3 s4 s5 al6 al7 al8 s9 s10 s11 s12 al13 al14 al15 s16 s17 b53 al19 al20 al21 1 s23 s24 s25) []) _
            exact kt
          exact j366 nc A K S0 M al6 al7 al8 al13 al14 al15 al19 al20 (1 : Int32) s0 s1 s2 s3 s4 s5 s9 s10 s11 s12 s16 s17 (.val (.int al21)) s23 s24 s25 u0 u1 u2 u3 u4 u5 u9 u10 u11 u12 u16 u17 (Or.inr ⟨_, rfl, rfl⟩) u23 u24 u25 T0 _ _ (X1.more (by decide) (by decide)) e1 O1 N1 B1 hf pre1409
    have j310 : ∀ (nc : Nat) (A : Nat → Addr) (K : Nat → ClassId) (S0 : Addr), ∀ (M : MM) (al6 : Int32) (al7 : Int32) (al8 : Int32) (al13 : Int32) (al14 : Int32) (al15 : Int32) (al19 : Int32) (al20 : Int32) (s0 : Slot) (s1 : Slot) (s2 : Slot) (s3 : Slot) (s4 : Slot) (s5 : Slot) (s9 : Slot) (s10 : Slot) (s11 : Slot) (s12 : Slot) (s16 : Slot) (s17 : Slot) (s21 : Slot) (s22 : Slot) (s23 : Slot) (s24 : Slot) (s25 : Slot) (_ : s0 = .unset ∨ ∃ w, s0 = .val w ∧ w.category = 1) (_ : s1 = .unset ∨ ∃ w, s1 = .val w ∧ w.category = 1) (_ : s2 = .unset ∨ ∃ w, s2 = .val w ∧ w.category = 1) (_ : s3 = .unset ∨ ∃ w, s3 = .val w ∧ w.category = 1) (_ : s4 = .unset ∨ ∃ w, s4 = .val w ∧ w.category = 1) (_ : s5 = .unset ∨ ∃ w, s5 = .val w ∧ w.category = 1) (_ : s9 = .unset ∨ ∃ w, s9 = .val w ∧ w.category = 1) (_ : s10 = .unset ∨ ∃ w, s10 = .val w ∧ w.category = 1) (_ : s11 = .unset ∨ ∃ w, s11 = .val w ∧ w.category = 1) (_ : s12 = .unset ∨ ∃ w, s12 = .val w ∧ w.category = 1) (_ : s16 = .unset ∨ ∃ w, s16 = .val w ∧ w.category = 1) (_ : s17 = .unset ∨ ∃ w, s17 = .val w ∧ w.category = 1) (_ : s21 = .unset ∨ ∃ w, s21 = .val w ∧ w.category = 1) (_ : s22 = .unset ∨ ∃ w, s22 = .val w ∧ w.category = 1) (_ : s23 = .unset ∨ ∃ w, s23 = .val w ∧ w.category = 1) (_ : s24 = .unset ∨ ∃ w, s24 = .val w ∧ w.category = 1) (_ : s25 = .unset ∨ ∃ w, s25 = .val w ∧ w.category = 1) (T0 : State) (L1 : List Loc) (h1 : Heap), Stand p l e room_1 s m #[(.int p0), (.int p1), (.int p2), (.int p3), (.int p4), (.int p5)] below meth c T0 L1 18 197 → T0.heap = h1 → Old Z n0 h1 → Fr n0 L1 → EB Z n0 false h1 b53 A K S0 nc M → f0_310 p0 p1 p2 p3 p4 p5 nc M al6 al7 al8 al13 al14 al15 al19 al20 = some (1, Mf) → Cm p e below E0 (T0.setTop (mkF m 310 (lt44 s0 s1 s2 s3 s4 s5 al6 al7 al8 s9 s10 s11 s12 al13 al14 al15 s16 s17 b53 al19 al20 s21 s22 s23 s24 s25) [])) → False := by
      intro nc A K S0 M al6 al7 al8 al13 al14 al15 al19 al20 s0 s1 s2 s3 s4 s5 s9 s10 s11 s12 s16 s17 s21 s22 s23 s24 s25 u0 u1 u2 u3 u4 u5 u9 u10 u11 u12 u16 u17 u21 u22 u23 u24 u25 T0 L1 h1 X1 e1 O1 N1 B1 hf pre1
      unfold f0_310 at hf
      have pre1384 : Cm p e below E0 (T0.setTop (mkF m 314 (lt44 s0 s1 s2 s3 s4 s5 al6 al7 al8 s9 s10 s11 s12 al13 al14 al15 s16 s17 b53 al19 al20 s21 s22 s23 s24 s25) [(.int al7), (.int al13)])) := fun t kt => by
        refine pre1 t ?_
        show Sp p e below T0 (mkF m 310 (lt44 s0 s1 s2 s3 s4 s5 al6 al7 al8 s9 s10 s11 s12 al13 al14 al15 s16 s17 b53 al19 al20 s21 s22 s23 s24 s25) []) _
        refine XS.iload X1.here hx rfl (hb hby at_310) rfl ?_
        refine XS.iload X1.here hx rfl (hb hby at_312) rfl ?_
        show Sp p e below T0 (mkF m 314 (lt44 s0 s1 s2 s3 s4 s5 al6 al7 al8 s9 s10 s11 s12 al13 al14 al15 s16 s17 b53 al19 al20 s21 s22 s23 s24 s25) [(.int al7), (.int al13)]) _
        exact kt
      by_cases hc1385 : al13 = al7
      · rw [own_eqT hc1385] at hf
        have pre1386 : Cm p e below E0 (T0.setTop (mkF m 321 (lt44 s0 s1 s2 s3 s4 s5 al6 al7 al8 s9 s10 s11 s12 al13 al14 al15 s16 s17 b53 al19 al20 s21 s22 s23 s24 s25) [(.int al8), (.int al14)])) := fun t kt => by
          refine pre1384 t ?_
          show Sp p e below T0 (mkF m 314 (lt44 s0 s1 s2 s3 s4 s5 al6 al7 al8 s9 s10 s11 s12 al13 al14 al15 s16 s17 b53 al19 al20 s21 s22 s23 s24 s25) [(.int al7), (.int al13)]) _
          refine XS.icmpNo X1.here hx rfl (hb hby at_314) rfl (teq hc1385).2 ?_
          show Sp p e below T0 (mkF m 317 (lt44 s0 s1 s2 s3 s4 s5 al6 al7 al8 s9 s10 s11 s12 al13 al14 al15 s16 s17 b53 al19 al20 s21 s22 s23 s24 s25) []) _
          refine XS.iload X1.here hx rfl (hb hby at_317) rfl ?_
          refine XS.iload X1.here hx rfl (hb hby at_319) rfl ?_
          show Sp p e below T0 (mkF m 321 (lt44 s0 s1 s2 s3 s4 s5 al6 al7 al8 s9 s10 s11 s12 al13 al14 al15 s16 s17 b53 al19 al20 s21 s22 s23 s24 s25) [(.int al8), (.int al14)]) _
          exact kt
        by_cases hc1387 : al14 = al8
        · rw [own_eqT hc1387] at hf
          have pre1388 : Cm p e below E0 (T0.setTop (mkF m 345 (lt45 s0 s1 s2 s3 s4 s5 al6 al7 al8 s9 s10 s11 s12 al13 al14 al15 s16 s17 b53 al19 al20 1 s22 s23 s24 s25) [])) := fun t kt => by
            refine pre1386 t ?_
            show Sp p e below T0 (mkF m 321 (lt44 s0 s1 s2 s3 s4 s5 al6 al7 al8 s9 s10 s11 s12 al13 al14 al15 s16 s17 b53 al19 al20 s21 s22 s23 s24 s25) [(.int al8), (.int al14)]) _
            refine XS.icmpYes X1.here hx rfl (pc0 := 321) (pc' := 338) rfl (hb hby at_321) rfl (teq hc1387).1 (by decide) (by decide) ?_
            show Sp p e below T0 (mkF m 338 (lt44 s0 s1 s2 s3 s4 s5 al6 al7 al8 s9 s10 s11 s12 al13 al14 al15 s16 s17 b53 al19 al20 s21 s22 s23 s24 s25) []) _
            refine XS.iconst X1.here hx rfl (hb hby at_338) ?_
            show Sp p e below T0 (mkF m 339 (lt44 s0 s1 s2 s3 s4 s5 al6 al7 al8 s9 s10 s11 s12 al13 al14 al15 s16 s17 b53 al19 al20 s21 s22 s23 s24 s25) [(.int 1)]) _
            refine XS.goto X1.here hx rfl (pc0 := 339) (pc' := 343) rfl (hb hby at_339) (by decide) (by decide) ?_
            show Sp p e below T0 (mkF m 343 (lt44 s0 s1 s2 s3 s4 s5 al6 al7 al8 s9 s10 s11 s12 al13 al14 al15 s16 s17 b53 al19 al20 s21 s22 s23 s24 s25) [(.int 1)]) _
            refine XS.istoreS X1.here hx rfl (hb hby at_343) rfl rfl u21 ?_
            show Sp p e below T0 (mkF m 345 (lt45 s0 s1 s2 s3 s4 s5 al6 al7 al8 s9 s10 s11 s12 al13 al14 al15 s16 s17 b53 al19 al20 1 s22 s23 s24 s25) []) _
            exact kt
          exact j345 nc A K S0 M al6 al7 al8 al13 al14 al15 al19 al20 (1 : Int32) s0 s1 s2 s3 s4 s5 s9 s10 s11 s12 s16 s17 s22 s23 s24 s25 u0 u1 u2 u3 u4 u5 u9 u10 u11 u12 u16 u17 u22 u23 u24 u25 T0 _ _ (X1.more (by decide) (by decide)) e1 O1 N1 B1 hf pre1388
        · rw [own_eqF hc1387] at hf
          have pre1389 : Cm p e below E0 (T0.setTop (mkF m 328 (lt44 s0 s1 s2 s3 s4 s5 al6 al7 al8 s9 s10 s11 s12 al13 al14 al15 s16 s17 b53 al19 al20 s21 s22 s23 s24 s25) [(.int al8), (.int al13)])) := fun t kt => by
            refine pre1386 t ?_
            show Sp p e below T0 (mkF m 321 (lt44 s0 s1 s2 s3 s4 s5 al6 al7 al8 s9 s10 s11 s12 al13 al14 al15 s16 s17 b53 al19 al20 s21 s22 s23 s24 s25) [(.int al8), (.int al14)]) _
            refine XS.icmpNo X1.here hx rfl (hb hby at_321) rfl (feq hc1387).1 ?_
            show Sp p e below T0 (mkF m 324 (lt44 s0 s1 s2 s3 s4 s5 al6 al7 al8 s9 s10 s11 s12 al13 al14 al15 s16 s17 b53 al19 al20 s21 s22 s23 s24 s25) []) _
            refine XS.iload X1.here hx rfl (hb hby at_324) rfl ?_
            refine XS.iload X1.here hx rfl (hb hby at_326) rfl ?_
            show Sp p e below T0 (mkF m 328 (lt44 s0 s1 s2 s3 s4 s5 al6 al7 al8 s9 s10 s11 s12 al13 al14 al15 s16 s17 b53 al19 al20 s21 s22 s23 s24 s25) [(.int al8), (.int al13)]) _
            exact kt
          by_cases hc1390 : al13 = al8
          · rw [own_eqT hc1390] at hf
            have pre1391 : Cm p e below E0 (T0.setTop (mkF m 335 (lt44 s0 s1 s2 s3 s4 s5 al6 al7 al8 s9 s10 s11 s12 al13 al14 al15 s16 s17 b53 al19 al20 s21 s22 s23 s24 s25) [(.int al7), (.int al14)])) := fun t kt => by
              refine pre1389 t ?_
              show Sp p e below T0 (mkF m 328 (lt44 s0 s1 s2 s3 s4 s5 al6 al7 al8 s9 s10 s11 s12 al13 al14 al15 s16 s17 b53 al19 al20 s21 s22 s23 s24 s25) [(.int al8), (.int al13)]) _
              refine XS.icmpNo X1.here hx rfl (hb hby at_328) rfl (teq hc1390).2 ?_
              show Sp p e below T0 (mkF m 331 (lt44 s0 s1 s2 s3 s4 s5 al6 al7 al8 s9 s10 s11 s12 al13 al14 al15 s16 s17 b53 al19 al20 s21 s22 s23 s24 s25) []) _
              refine XS.iload X1.here hx rfl (hb hby at_331) rfl ?_
              refine XS.iload X1.here hx rfl (hb hby at_333) rfl ?_
              show Sp p e below T0 (mkF m 335 (lt44 s0 s1 s2 s3 s4 s5 al6 al7 al8 s9 s10 s11 s12 al13 al14 al15 s16 s17 b53 al19 al20 s21 s22 s23 s24 s25) [(.int al7), (.int al14)]) _
              exact kt
            by_cases hc1392 : al14 = al7
            · rw [own_eqT hc1392] at hf
              have pre1393 : Cm p e below E0 (T0.setTop (mkF m 345 (lt45 s0 s1 s2 s3 s4 s5 al6 al7 al8 s9 s10 s11 s12 al13 al14 al15 s16 s17 b53 al19 al20 1 s22 s23 s24 s25) [])) := fun t kt => by
                refine pre1391 t ?_
                show Sp p e below T0 (mkF m 335 (lt44 s0 s1 s2 s3 s4 s5 al6 al7 al8 s9 s10 s11 s12 al13 al14 al15 s16 s17 b53 al19 al20 s21 s22 s23 s24 s25) [(.int al7), (.int al14)]) _
                refine XS.icmpNo X1.here hx rfl (hb hby at_335) rfl (teq hc1392).2 ?_
                show Sp p e below T0 (mkF m 338 (lt44 s0 s1 s2 s3 s4 s5 al6 al7 al8 s9 s10 s11 s12 al13 al14 al15 s16 s17 b53 al19 al20 s21 s22 s23 s24 s25) []) _
                refine XS.iconst X1.here hx rfl (hb hby at_338) ?_
                show Sp p e below T0 (mkF m 339 (lt44 s0 s1 s2 s3 s4 s5 al6 al7 al8 s9 s10 s11 s12 al13 al14 al15 s16 s17 b53 al19 al20 s21 s22 s23 s24 s25) [(.int 1)]) _
                refine XS.goto X1.here hx rfl (pc0 := 339) (pc' := 343) rfl (hb hby at_339) (by decide) (by decide) ?_
                show Sp p e below T0 (mkF m 343 (lt44 s0 s1 s2 s3 s4 s5 al6 al7 al8 s9 s10 s11 s12 al13 al14 al15 s16 s17 b53 al19 al20 s21 s22 s23 s24 s25) [(.int 1)]) _
                refine XS.istoreS X1.here hx rfl (hb hby at_343) rfl rfl u21 ?_
                show Sp p e below T0 (mkF m 345 (lt45 s0 s1 s2 s3 s4 s5 al6 al7 al8 s9 s10 s11 s12 al13 al14 al15 s16 s17 b53 al19 al20 1 s22 s23 s24 s25) []) _
                exact kt
              exact j345 nc A K S0 M al6 al7 al8 al13 al14 al15 al19 al20 (1 : Int32) s0 s1 s2 s3 s4 s5 s9 s10 s11 s12 s16 s17 s22 s23 s24 s25 u0 u1 u2 u3 u4 u5 u9 u10 u11 u12 u16 u17 u22 u23 u24 u25 T0 _ _ (X1.more (by decide) (by decide)) e1 O1 N1 B1 hf pre1393
            · rw [own_eqF hc1392] at hf
              have pre1394 : Cm p e below E0 (T0.setTop (mkF m 345 (lt45 s0 s1 s2 s3 s4 s5 al6 al7 al8 s9 s10 s11 s12 al13 al14 al15 s16 s17 b53 al19 al20 0 s22 s23 s24 s25) [])) := fun t kt => by
                refine pre1391 t ?_
                show Sp p e below T0 (mkF m 335 (lt44 s0 s1 s2 s3 s4 s5 al6 al7 al8 s9 s10 s11 s12 al13 al14 al15 s16 s17 b53 al19 al20 s21 s22 s23 s24 s25) [(.int al7), (.int al14)]) _
                refine XS.icmpYes X1.here hx rfl (pc0 := 335) (pc' := 342) rfl (hb hby at_335) rfl (feq hc1392).2 (by decide) (by decide) ?_
                show Sp p e below T0 (mkF m 342 (lt44 s0 s1 s2 s3 s4 s5 al6 al7 al8 s9 s10 s11 s12 al13 al14 al15 s16 s17 b53 al19 al20 s21 s22 s23 s24 s25) []) _
                refine XS.iconst X1.here hx rfl (hb hby at_342) ?_
                refine XS.istoreS X1.here hx rfl (hb hby at_343) rfl rfl u21 ?_
                show Sp p e below T0 (mkF m 345 (lt45 s0 s1 s2 s3 s4 s5 al6 al7 al8 s9 s10 s11 s12 al13 al14 al15 s16 s17 b53 al19 al20 0 s22 s23 s24 s25) []) _
                exact kt
              exact j345 nc A K S0 M al6 al7 al8 al13 al14 al15 al19 al20 (0 : Int32) s0 s1 s2 s3 s4 s5 s9 s10 s11 s12 s16 s17 s22 s23 s24 s25 u0 u1 u2 u3 u4 u5 u9 u10 u11 u12 u16 u17 u22 u23 u24 u25 T0 _ _ (X1.more (by decide) (by decide)) e1 O1 N1 B1 hf pre1394
          · rw [own_eqF hc1390] at hf
            have pre1395 : Cm p e below E0 (T0.setTop (mkF m 345 (lt45 s0 s1 s2 s3 s4 s5 al6 al7 al8 s9 s10 s11 s12 al13 al14 al15 s16 s17 b53 al19 al20 0 s22 s23 s24 s25) [])) := fun t kt => by
              refine pre1389 t ?_
              show Sp p e below T0 (mkF m 328 (lt44 s0 s1 s2 s3 s4 s5 al6 al7 al8 s9 s10 s11 s12 al13 al14 al15 s16 s17 b53 al19 al20 s21 s22 s23 s24 s25) [(.int al8), (.int al13)]) _
              refine XS.icmpYes X1.here hx rfl (pc0 := 328) (pc' := 342) rfl (hb hby at_328) rfl (feq hc1390).2 (by decide) (by decide) ?_
              show Sp p e below T0 (mkF m 342 (lt44 s0 s1 s2 s3 s4 s5 al6 al7 al8 s9 s10 s11 s12 al13 al14 al15 s16 s17 b53 al19 al20 s21 s22 s23 s24 s25) []) _
              refine XS.iconst X1.here hx rfl (hb hby at_342) ?_
              refine XS.istoreS X1.here hx rfl (hb hby at_343) rfl rfl u21 ?_
              show Sp p e below T0 (mkF m 345 (lt45 s0 s1 s2 s3 s4 s5 al6 al7 al8 s9 s10 s11 s12 al13 al14 al15 s16 s17 b53 al19 al20 0 s22 s23 s24 s25) []) _
              exact kt
            exact j345 nc A K S0 M al6 al7 al8 al13 al14 al15 al19 al20 (0 : Int32) s0 s1 s2 s3 s4 s5 s9 s10 s11 s12 s16 s17 s22 s23 s24 s25 u0 u1 u2 u3 u4 u5 u9 u10 u11 u12 u16 u17 u22 u23 u24 u25 T0 _ _ (X1.more (by decide) (by decide)) e1 O1 N1 B1 hf pre1395
      · rw [own_eqF hc1385] at hf
        have pre1396 : Cm p e below E0 (T0.setTop (mkF m 328 (lt44 s0 s1 s2 s3 s4 s5 al6 al7 al8 s9 s10 s11 s12 al13 al14 al15 s16 s17 b53 al19 al20 s21 s22 s23 s24 s25) [(.int al8), (.int al13)])) := fun t kt => by
          refine pre1384 t ?_
          show Sp p e below T0 (mkF m 314 (lt44 s0 s1 s2 s3 s4 s5 al6 al7 al8 s9 s10 s11 s12 al13 al14 al15 s16 s17 b53 al19 al20 s21 s22 s23 s24 s25) [(.int al7), (.int al13)]) _
          refine XS.icmpYes X1.here hx rfl (pc0 := 314) (pc' := 324) rfl (hb hby at_314) rfl (feq hc1385).2 (by decide) (by decide) ?_
          show Sp p e below T0 (mkF m 324 (lt44 s0 s1 s2 s3 s4 s5 al6 al7 al8 s9 s10 s11 s12 al13 al14 al15 s16 s17 b53 al19 al20 s21 s22 s23 s24 s25) []) _
          refine XS.iload X1.here hx rfl (hb hby at_324) rfl ?_
          refine XS.iload X1.here hx rfl (hb hby at_326) rfl ?_
          show Sp p e below T0 (mkF m 328 (lt44 s0 s1 s2 s3 s4 s5 al6 al7 al8 s9 s10 s11 s12 al13 al14 al15 s16 s17 b53 al19 al20 s21 s22 s23 s24 s25) [(.int al8), (.int al13)]) _
          exact kt
        by_cases hc1397 : al13 = al8
        · rw [own_eqT hc1397] at hf
          have pre1398 : Cm p e below E0 (T0.setTop (mkF m 335 (lt44 s0 s1 s2 s3 s4 s5 al6 al7 al8 s9 s10 s11 s12 al13 al14 al15 s16 s17 b53 al19 al20 s21 s22 s23 s24 s25) [(.int al7), (.int al14)])) := fun t kt => by
            refine pre1396 t ?_
            show Sp p e below T0 (mkF m 328 (lt44 s0 s1 s2 s3 s4 s5 al6 al7 al8 s9 s10 s11 s12 al13 al14 al15 s16 s17 b53 al19 al20 s21 s22 s23 s24 s25) [(.int al8), (.int al13)]) _
            refine XS.icmpNo X1.here hx rfl (hb hby at_328) rfl (teq hc1397).2 ?_
            show Sp p e below T0 (mkF m 331 (lt44 s0 s1 s2 s3 s4 s5 al6 al7 al8 s9 s10 s11 s12 al13 al14 al15 s16 s17 b53 al19 al20 s21 s22 s23 s24 s25) []) _
            refine XS.iload X1.here hx rfl (hb hby at_331) rfl ?_
            refine XS.iload X1.here hx rfl (hb hby at_333) rfl ?_
            show Sp p e below T0 (mkF m 335 (lt44 s0 s1 s2 s3 s4 s5 al6 al7 al8 s9 s10 s11 s12 al13 al14 al15 s16 s17 b53 al19 al20 s21 s22 s23 s24 s25) [(.int al7), (.int al14)]) _
            exact kt
          by_cases hc1399 : al14 = al7
          · rw [own_eqT hc1399] at hf
            have pre1400 : Cm p e below E0 (T0.setTop (mkF m 345 (lt45 s0 s1 s2 s3 s4 s5 al6 al7 al8 s9 s10 s11 s12 al13 al14 al15 s16 s17 b53 al19 al20 1 s22 s23 s24 s25) [])) := fun t kt => by
              refine pre1398 t ?_
              show Sp p e below T0 (mkF m 335 (lt44 s0 s1 s2 s3 s4 s5 al6 al7 al8 s9 s10 s11 s12 al13 al14 al15 s16 s17 b53 al19 al20 s21 s22 s23 s24 s25) [(.int al7), (.int al14)]) _
              refine XS.icmpNo X1.here hx rfl (hb hby at_335) rfl (teq hc1399).2 ?_
              show Sp p e below T0 (mkF m 338 (lt44 s0 s1 s2 s3 s4 s5 al6 al7 al8 s9 s10 s11 s12 al13 al14 al15 s16 s17 b53 al19 al20 s21 s22 s23 s24 s25) []) _
              refine XS.iconst X1.here hx rfl (hb hby at_338) ?_
              show Sp p e below T0 (mkF m 339 (lt44 s0 s1 s2 s3 s4 s5 al6 al7 al8 s9 s10 s11 s12 al13 al14 al15 s16 s17 b53 al19 al20 s21 s22 s23 s24 s25) [(.int 1)]) _
              refine XS.goto X1.here hx rfl (pc0 := 339) (pc' := 343) rfl (hb hby at_339) (by decide) (by decide) ?_
              show Sp p e below T0 (mkF m 343 (lt44 s0 s1 s2 s3 s4 s5 al6 al7 al8 s9 s10 s11 s12 al13 al14 al15 s16 s17 b53 al19 al20 s21 s22 s23 s24 s25) [(.int 1)]) _
              refine XS.istoreS X1.here hx rfl (hb hby at_343) rfl rfl u21 ?_
              show Sp p e below T0 (mkF m 345 (lt45 s0 s1 s2 s3 s4 s5 al6 al7 al8 s9 s10 s11 s12 al13 al14 al15 s16 s17 b53 al19 al20 1 s22 s23 s24 s25) []) _
              exact kt
            exact j345 nc A K S0 M al6 al7 al8 al13 al14 al15 al19 al20 (1 : Int32) s0 s1 s2 s3 s4 s5 s9 s10 s11 s12 s16 s17 s22 s23 s24 s25 u0 u1 u2 u3 u4 u5 u9 u10 u11 u12 u16 u17 u22 u23 u24 u25 T0 _ _ (X1.more (by decide) (by decide)) e1 O1 N1 B1 hf pre1400
          · rw [own_eqF hc1399] at hf
            have pre1401 : Cm p e below E0 (T0.setTop (mkF m 345 (lt45 s0 s1 s2 s3 s4 s5 al6 al7 al8 s9 s10 s11 s12 al13 al14 al15 s16 s17 b53 al19 al20 0 s22 s23 s24 s25) [])) := fun t kt => by
              refine pre1398 t ?_
              show Sp p e below T0 (mkF m 335 (lt44 s0 s1 s2 s3 s4 s5 al6 al7 al8 s9 s10 s11 s12 al13 al14 al15 s16 s17 b53 al19 al20 s21 s22 s23 s24 s25) [(.int al7), (.int al14)]) _
              refine XS.icmpYes X1.here hx rfl (pc0 := 335) (pc' := 342) rfl (hb hby at_335) rfl (feq hc1399).2 (by decide) (by decide) ?_
              show Sp p e below T0 (mkF m 342 (lt44 s0 s1 s2 s3 s4 s5 al6 al7 al8 s9 s10 s11 s12 al13 al14 al15 s16 s17 b53 al19 al20 s21 s22 s23 s24 s25) []) _
              refine XS.iconst X1.here hx rfl (hb hby at_342) ?_
              refine XS.istoreS X1.here hx rfl (hb hby at_343) rfl rfl u21 ?_
              show Sp p e below T0 (mkF m 345 (lt45 s0 s1 s2 s3 s4 s5 al6 al7 al8 s9 s10 s11 s12 al13 al14 al15 s16 s17 b53 al19 al20 0 s22 s23 s24 s25) []) _
              exact kt
            exact j345 nc A K S0 M al6 al7 al8 al13 al14 al15 al19 al20 (0 : Int32) s0 s1 s2 s3 s4 s5 s9 s10 s11 s12 s16 s17 s22 s23 s24 s25 u0 u1 u2 u3 u4 u5 u9 u10 u11 u12 u16 u17 u22 u23 u24 u25 T0 _ _ (X1.more (by decide) (by decide)) e1 O1 N1 B1 hf pre1401
        · rw [own_eqF hc1397] at hf
          have pre1402 : Cm p e below E0 (T0.setTop (mkF m 345 (lt45 s0 s1 s2 s3 s4 s5 al6 al7 al8 s9 s10 s11 s12 al13 al14 al15 s16 s17 b53 al19 al20 0 s22 s23 s24 s25) [])) := fun t kt => by
            refine pre1396 t ?_
            show Sp p e below T0 (mkF m 328 (lt44 s0 s1 s2 s3 s4 s5 al6 al7 al8 s9 s10 s11 s12 al13 al14 al15 s16 s17 b53 al19 al20 s21 s22 s23 s24 s25) [(.int al8), (.int al13)]) _
            refine XS.icmpYes X1.here hx rfl (pc0 := 328) (pc' := 342) rfl (hb hby at_328) rfl (feq hc1397).2 (by decide) (by decide) ?_
            show Sp p e below T0 (mkF m 342 (lt44 s0 s1 s2 s3 s4 s5 al6 al7 al8 s9 s10 s11 s12 al13 al14 al15 s16 s17 b53 al19 al20 s21 s22 s23 s24 s25) []) _
            refine XS.iconst X1.here hx rfl (hb hby at_342) ?_
            refine XS.istoreS X1.here hx rfl (hb hby at_343) rfl rfl u21 ?_
            show Sp p e below T0 (mkF m 345 (lt45 s0 s1 s2 s3 s4 s5 al6 al7 al8 s9 s10 s11 s12 al13 al14 al15 s16 s17 b53 al19 al20 0 s22 s23 s24 s25) []) _
            exact kt
          exact j345 nc A K S0 M al6 al7 al8 al13 al14 al15 al19 al20 (0 : Int32) s0 s1 s2 s3 s4 s5 s9 s10 s11 s12 s16 s17 s22 s23 s24 s25 u0 u1 u2 u3 u4 u5 u9 u10 u11 u12 u16 u17 u22 u23 u24 u25 T0 _ _ (X1.more (by decide) (by decide)) e1 O1 N1 B1 hf pre1402
    have j282 : ∀ (nc : Nat) (A : Nat → Addr) (K : Nat → ClassId) (S0 : Addr), ∀ (M : MM) (al6 : Int32) (al7 : Int32) (al8 : Int32) (al13 : Int32) (al14 : Int32) (al15 : Int32) (al19 : Int32) (s0 : Slot) (s1 : Slot) (s2 : Slot) (s3 : Slot) (s4 : Slot) (s5 : Slot) (s9 : Slot) (s10 : Slot) (s11 : Slot) (s12 : Slot) (s16 : Slot) (s17 : Slot) (s20 : Slot) (s21 : Slot) (s22 : Slot) (s23 : Slot) (s24 : Slot) (s25 : Slot) (_ : s0 = .unset ∨ ∃ w, s0 = .val w ∧ w.category = 1) (_ : s1 = .unset ∨ ∃ w, s1 = .val w ∧ w.category = 1) (_ : s2 = .unset ∨ ∃ w, s2 = .val w ∧ w.category = 1) (_ : s3 = .unset ∨ ∃ w, s3 = .val w ∧ w.category = 1) (_ : s4 = .unset ∨ ∃ w, s4 = .val w ∧ w.category = 1) (_ : s5 = .unset ∨ ∃ w, s5 = .val w ∧ w.category = 1) (_ : s9 = .unset ∨ ∃ w, s9 = .val w ∧ w.category = 1) (_ : s10 = .unset ∨ ∃ w, s10 = .val w ∧ w.category = 1) (_ : s11 = .unset ∨ ∃ w, s11 = .val w ∧ w.category = 1) (_ : s12 = .unset ∨ ∃ w, s12 = .val w ∧ w.category = 1) (_ : s16 = .unset ∨ ∃ w, s16 = .val w ∧ w.category = 1) (_ : s17 = .unset ∨ ∃ w, s17 = .val w ∧ w.category = 1) (_ : s20 = .unset ∨ ∃ w, s20 = .val w ∧ w.category = 1) (_ : s21 = .unset ∨ ∃ w, s21 = .val w ∧ w.category = 1) (_ : s22 = .unset ∨ ∃ w, s22 = .val w ∧ w.category = 1) (_ : s23 = .unset ∨ ∃ w, s23 = .val w ∧ w.category = 1) (_ : s24 = .unset ∨ ∃ w, s24 = .val w ∧ w.category = 1) (_ : s25 = .unset ∨ ∃ w, s25 = .val w ∧ w.category = 1) (T0 : State) (L1 : List Loc) (h1 : Heap), Stand p l e room_1 s m #[(.int p0), (.int p1), (.int p2), (.int p3), (.int p4), (.int p5)] below meth c T0 L1 18 197 → T0.heap = h1 → Old Z n0 h1 → Fr n0 L1 → EB Z n0 false h1 b53 A K S0 nc M → f0_282 p0 p1 p2 p3 p4 p5 nc M al6 al7 al8 al13 al14 al15 al19 = some (1, Mf) → Cm p e below E0 (T0.setTop (mkF m 282 (lt41 s0 s1 s2 s3 s4 s5 al6 al7 al8 s9 s10 s11 s12 al13 al14 al15 s16 s17 b53 al19 s20 s21 s22 s23 s24 s25) [])) → False := by
      intro nc A K S0 M al6 al7 al8 al13 al14 al15 al19 s0 s1 s2 s3 s4 s5 s9 s10 s11 s12 s16 s17 s20 s21 s22 s23 s24 s25 u0 u1 u2 u3 u4 u5 u9 u10 u11 u12 u16 u17 u20 u21 u22 u23 u24 u25 T0 L1 h1 X1 e1 O1 N1 B1 hf pre1
      unfold f0_282 at hf
      obtain ⟨v1375, M1375, hc1375, hf1376⟩ := own_bnd hf
      clear hf
      obtain ⟨cq1375, kq1375, q1375a, q1375b, q1375c⟩ := isOf hZ e1 B1.exa
      obtain ⟨_, _, ⟨T1375, L1375, k1375, n1375⟩, -, X1375, ⟨Lc1375, hQ1375, l1375, y1375, z1375⟩, st1375⟩ := X1.virtualBack hx (y := Y58) (z := Y58) hown (mvT hZ (hw _ (tk 104 rfl))) (mvT hZ (hw _ (tk 105 rfl))) (notFace_of_selects (args := #[]) (mvT hZ (hw _ (tk 107 rfl)))) (mvT hZ (hw _ (tk 107 rfl))) (mvT hZ (hw _ (tk 106 rfl))) (by decide) (backOf (W := 0) (rm16 l Z a0 hw [] hSl false b53 A K S0 nc M al19 v1375 M1375 h1 n0 O1 B1 hc1375) hZ (hw _ (tk 108 rfl)) (hw _ (tk 3 rfl)) (by decide) (by decide)) q1375a q1375c (g := (mkF m 286 (lt41 s0 s1 s2 s3 s4 s5 al6 al7 al8 s9 s10 s11 s12 al13 al14 al15 s16 s17 b53 al19 s20 s21 s22 s23 s24 s25) [(.int al19), (.ref b53)])) rfl (by rw [hml]; rfl) (Steps.refl _) (argsL := [(.int al19)]) (rest := []) (lenOf pd_3 rfl) rfl (by show 2 * 0 + _ ≤ _; exact Nat.le_of_eq rfl) (hb hby at_286) (fun _ _ => ⟨rfl, e1, (by decide : 18 + 0 ≤ _), (by decide : 197 + 0 ≤ _)⟩)
      dsimp only [Pt.U, Pt.locs, Pt.cells, Pt.slots] at X1375 l1375 y1375 z1375 st1375 hQ1375
      rw [l1375, y1375, z1375] at X1375
      obtain ⟨rv1375, N1375q, O1375, B1375⟩ := hQ1375
      subst rv1375
      have N1375 := Fr.app N1 N1375q
      have pre1377 : Cm p e below E0 (T1375.setTop (mkF m 293 (lt41 s0 s1 s2 s3 s4 s5 al6 al7 al8 s9 s10 s11 s12 al13 al14 al15 s16 s17 b53 al19 s20 s21 s22 s23 s24 s25) [(.int al7), (.int al13)])) := fun t kt => by
        refine pre1 t ?_
        show Sp p e below T0 (mkF m 282 (lt41 s0 s1 s2 s3 s4 s5 al6 al7 al8 s9 s10 s11 s12 al13 al14 al15 s16 s17 b53 al19 s20 s21 s22 s23 s24 s25) []) _
        refine XS.aload X1.here hx rfl (hb hby at_282) rfl rfl ?_
        refine XS.iload X1.here hx rfl (hb hby at_284) rfl ?_
        show Sp p e below T0 (mkF m 286 (lt41 s0 s1 s2 s3 s4 s5 al6 al7 al8 s9 s10 s11 s12 al13 al14 al15 s16 s17 b53 al19 s20 s21 s22 s23 s24 s25) [(.int al19), (.ref b53)]) _
        refine st1375.trans ?_
        show Sp p e below T1375 (mkF m 289 (lt41 s0 s1 s2 s3 s4 s5 al6 al7 al8 s9 s10 s11 s12 al13 al14 al15 s16 s17 b53 al19 s20 s21 s22 s23 s24 s25) []) _
        refine XS.iload X1375.here hx rfl (hb hby at_289) rfl ?_
        refine XS.iload X1375.here hx rfl (hb hby at_291) rfl ?_
        show Sp p e below T1375 (mkF m 293 (lt41 s0 s1 s2 s3 s4 s5 al6 al7 al8 s9 s10 s11 s12 al13 al14 al15 s16 s17 b53 al19 s20 s21 s22 s23 s24 s25) [(.int al7), (.int al13)]) _
        exact kt
      by_cases hc1378 : al13 = al7
      · rw [own_eqT hc1378] at hf1376
        have pre1379 : Cm p e below E0 (T1375.setTop (mkF m 310 (lt44 s0 s1 s2 s3 s4 s5 al6 al7 al8 s9 s10 s11 s12 al13 al14 al15 s16 s17 b53 al19 1 s21 s22 s23 s24 s25) [])) := fun t kt => by
          refine pre1377 t ?_
          show Sp p e below T1375 (mkF m 293 (lt41 s0 s1 s2 s3 s4 s5 al6 al7 al8 s9 s10 s11 s12 al13 al14 al15 s16 s17 b53 al19 s20 s21 s22 s23 s24 s25) [(.int al7), (.int al13)]) _
          refine XS.icmpYes X1375.here hx rfl (pc0 := 293) (pc' := 303) rfl (hb hby at_293) rfl (teq hc1378).1 (by decide) (by decide) ?_
          show Sp p e below T1375 (mkF m 303 (lt41 s0 s1 s2 s3 s4 s5 al6 al7 al8 s9 s10 s11 s12 al13 al14 al15 s16 s17 b53 al19 s20 s21 s22 s23 s24 s25) []) _
          refine XS.iconst X1375.here hx rfl (hb hby at_303) ?_
          show Sp p e below T1375 (mkF m 304 (lt41 s0 s1 s2 s3 s4 s5 al6 al7 al8 s9 s10 s11 s12 al13 al14 al15 s16 s17 b53 al19 s20 s21 s22 s23 s24 s25) [(.int 1)]) _
          refine XS.goto X1375.here hx rfl (pc0 := 304) (pc' := 308) rfl (hb hby at_304) (by decide) (by decide) ?_
          show Sp p e below T1375 (mkF m 308 (lt41 s0 s1 s2 s3 s4 s5 al6 al7 al8 s9 s10 s11 s12 al13 al14 al15 s16 s17 b53 al19 s20 s21 s22 s23 s24 s25) [(.int 1)]) _
          refine XS.istoreS X1375.here hx rfl (hb hby at_308) rfl rfl u20 ?_
          show Sp p e below T1375 (mkF m 310 (lt44 s0 s1 s2 s3 s4 s5 al6 al7 al8 s9 s10 s11 s12 al13 al14 al15 s16 s17 b53 al19 1 s21 s22 s23 s24 s25) []) _
          exact kt
        exact j310 nc A K S0 M1375 al6 al7 al8 al13 al14 al15 al19 (1 : Int32) s0 s1 s2 s3 s4 s5 s9 s10 s11 s12 s16 s17 s21 s22 s23 s24 s25 u0 u1 u2 u3 u4 u5 u9 u10 u11 u12 u16 u17 u21 u22 u23 u24 u25 T1375 _ _ (X1375.more (by decide) (by decide)) rfl O1375 N1375 B1375 hf1376 pre1379
      · rw [own_eqF hc1378] at hf1376
        have pre1380 : Cm p e below E0 (T1375.setTop (mkF m 300 (lt41 s0 s1 s2 s3 s4 s5 al6 al7 al8 s9 s10 s11 s12 al13 al14 al15 s16 s17 b53 al19 s20 s21 s22 s23 s24 s25) [(.int al8), (.int al13)])) := fun t kt => by
          refine pre1377 t ?_
          show Sp p e below T1375 (mkF m 293 (lt41 s0 s1 s2 s3 s4 s5 al6 al7 al8 s9 s10 s11 s12 al13 al14 al15 s16 s17 b53 al19 s20 s21 s22 s23 s24 s25) [(.int al7), (.int al13)]) _
          refine XS.icmpNo X1375.here hx rfl (hb hby at_293) rfl (feq hc1378).1 ?_
          show Sp p e below T1375 (mkF m 296 (lt41 s0 s1 s2 s3 s4 s5 al6 al7 al8 s9 s10 s11 s12 al13 al14 al15 s16 s17 b53 al19 s20 s21 s22 s23 s24 s25) []) _
          refine XS.iload X1375.here hx rfl (hb hby at_296) rfl ?_
          refine XS.iload X1375.here hx rfl (hb hby at_298) rfl ?_
          show Sp p e below T1375 (mkF m 300 (lt41 s0 s1 s2 s3 s4 s5 al6 al7 al8 s9 s10 s11 s12 al13 al14 al15 s16 s17 b53 al19 s20 s21 s22 s23 s24 s25) [(.int al8), (.int al13)]) _
          exact kt
        by_cases hc1381 : al13 = al8
        · rw [own_eqT hc1381] at hf1376
          have pre1382 : Cm p e below E0 (T1375.setTop (mkF m 310 (lt44 s0 s1 s2 s3 s4 s5 al6 al7 al8 s9 s10 s11 s12 al13 al14 al15 s16 s17 b53 al19 1 s21 s22 s23 s24 s25) [])) := fun t kt => by
            refine pre1380 t ?_
            show Sp p e below T1375 (mkF m 300 (lt41 s0 s1 s2 s3 s4 s5 al6 al7 al8 s9 s10 s11 s12 al13 al14 al15 s16 s17 b53 al19 s20 s21 s22 s23 s24 s25) [(.int al8), (.int al13)]) _
            refine XS.icmpNo X1375.here hx rfl (hb hby at_300) rfl (teq hc1381).2 ?_
            show Sp p e below T1375 (mkF m 303 (lt41 s0 s1 s2 s3 s4 s5 al6 al7 al8 s9 s10 s11 s12 al13 al14 al15 s16 s17 b53 al19 s20 s21 s22 s23 s24 s25) []) _
            refine XS.iconst X1375.here hx rfl (hb hby at_303) ?_
            show Sp p e below T1375 (mkF m 304 (lt41 s0 s1 s2 s3 s4 s5 al6 al7 al8 s9 s10 s11 s12 al13 al14 al15 s16 s17 b53 al19 s20 s21 s22 s23 s24 s25) [(.int 1)]) _
            refine XS.goto X1375.here hx rfl (pc0 := 304) (pc' := 308) rfl (hb hby at_304) (by decide) (by decide) ?_
            show Sp p e below T1375 (mkF m 308 (lt41 s0 s1 s2 s3 s4 s5 al6 al7 al8 s9 s10 s11 s12 al13 al14 al15 s16 s17 b53 al19 s20 s21 s22 s23 s24 s25) [(.int 1)]) _
            refine XS.istoreS X1375.here hx rfl (hb hby at_308) rfl rfl u20 ?_
            show Sp p e below T1375 (mkF m 310 (lt44 s0 s1 s2 s3 s4 s5 al6 al7 al8 s9 s10 s11 s12 al13 al14 al15 s16 s17 b53 al19 1 s21 s22 s23 s24 s25) []) _
            exact kt
          exact j310 nc A K S0 M1375 al6 al7 al8 al13 al14 al15 al19 (1 : Int32) s0 s1 s2 s3 s4 s5 s9 s10 s11 s12 s16 s17 s21 s22 s23 s24 s25 u0 u1 u2 u3 u4 u5 u9 u10 u11 u12 u16 u17 u21 u22 u23 u24 u25 T1375 _ _ (X1375.more (by decide) (by decide)) rfl O1375 N1375 B1375 hf1376 pre1382
        · rw [own_eqF hc1381] at hf1376
          have pre1383 : Cm p e below E0 (T1375.setTop (mkF m 310 (lt44 s0 s1 s2 s3 s4 s5 al6 al7 al8 s9 s10 s11 s12 al13 al14 al15 s16 s17 b53 al19 0 s21 s22 s23 s24 s25) [])) := fun t kt => by
            refine pre1380 t ?_
            show Sp p e below T1375 (mkF m 300 (lt41 s0 s1 s2 s3 s4 s5 al6 al7 al8 s9 s10 s11 s12 al13 al14 al15 s16 s17 b53 al19 s20 s21 s22 s23 s24 s25) [(.int al8), (.int al13)]) _
            refine XS.icmpYes X1375.here hx rfl (pc0 := 300) (pc' := 307) rfl (hb hby at_300) rfl (feq hc1381).2 (by decide) (by decide) ?_
            show Sp p e below T1375 (mkF m 307 (lt41 s0 s1 s2 s3 s4 s5 al6 al7 al8 s9 s10 s11 s12 al13 al14 al15 s16 s17 b53 al19 s20 s21 s22 s23 s24 s25) []) _
            refine XS.iconst X1375.here hx rfl (hb hby at_307) ?_
            refine XS.istoreS X1375.here hx rfl (hb hby at_308) rfl rfl u20 ?_
            show Sp p e below T1375 (mkF m 310 (lt44 s0 s1 s2 s3 s4 s5 al6 al7 al8 s9 s10 s11 s12 al13 al14 al15 s16 s17 b53 al19 0 s21 s22 s23 s24 s25) []) _
            exact kt
          exact j310 nc A K S0 M1375 al6 al7 al8 al13 al14 al15 al19 (0 : Int32) s0 s1 s2 s3 s4 s5 s9 s10 s11 s12 s16 s17 s21 s22 s23 s24 s25 u0 u1 u2 u3 u4 u5 u9 u10 u11 u12 u16 u17 u21 u22 u23 u24 u25 T1375 _ _ (X1375.more (by decide) (by decide)) rfl O1375 N1375 B1375 hf1376 pre1383
    have j254 : ∀ (nc : Nat) (A : Nat → Addr) (K : Nat → ClassId) (S0 : Addr), ∀ (M : MM) (al6 : Int32) (al7 : Int32) (al8 : Int32) (al11 : Int32) (al12 : Int32) (al13 : Int32) (al14 : Int32) (al15 : Int32) (al17 : Int32) (al19 : Int32) (s0 : Slot) (s1 : Slot) (s2 : Slot) (s3 : Slot) (s4 : Slot) (s5 : Slot) (s9 : Slot) (s10 : Slot) (s16 : Slot) (s20 : Slot) (s21 : Slot) (s22 : Slot) (s23 : Slot) (s24 : Slot) (s25 : Slot) (_ : s0 = .unset ∨ ∃ w, s0 = .val w ∧ w.category = 1) (_ : s1 = .unset ∨ ∃ w, s1 = .val w ∧ w.category = 1) (_ : s2 = .unset ∨ ∃ w, s2 = .val w ∧ w.category = 1) (_ : s3 = .unset ∨ ∃ w, s3 = .val w ∧ w.category = 1) (_ : s4 = .unset ∨ ∃ w, s4 = .val w ∧ w.category = 1) (_ : s5 = .unset ∨ ∃ w, s5 = .val w ∧ w.category = 1) (_ : s9 = .unset ∨ ∃ w, s9 = .val w ∧ w.category = 1) (_ : s10 = .unset ∨ ∃ w, s10 = .val w ∧ w.category = 1) (_ : s16 = .unset ∨ ∃ w, s16 = .val w ∧ w.category = 1) (_ : s20 = .unset ∨ ∃ w, s20 = .val w ∧ w.category = 1) (_ : s21 = .unset ∨ ∃ w, s21 = .val w ∧ w.category = 1) (_ : s22 = .unset ∨ ∃ w, s22 = .val w ∧ w.category = 1) (_ : s23 = .unset ∨ ∃ w, s23 = .val w ∧ w.category = 1) (_ : s24 = .unset ∨ ∃ w, s24 = .val w ∧ w.category = 1) (_ : s25 = .unset ∨ ∃ w, s25 = .val w ∧ w.category = 1) (T0 : State) (L1 : List Loc) (h1 : Heap), Stand p l e room_1 s m #[(.int p0), (.int p1), (.int p2), (.int p3), (.int p4), (.int p5)] below meth c T0 L1 18 197 → T0.heap = h1 → Old Z n0 h1 → Fr n0 L1 → EB Z n0 false h1 b53 A K S0 nc M → f0_254 p0 p1 p2 p3 p4 p5 nc M al6 al7 al8 al11 al12 al13 al14 al15 al17 al19 = some (1, Mf) → Cm p e below E0 (T0.setTop (mkF m 254 (lt40 s0 s1 s2 s3 s4 s5 al6 al7 al8 s9 s10 al11 al12 al13 al14 al15 s16 al17 b53 al19 s20 s21 s22 s23 s24 s25) [])) → False := by
      intro nc A K S0 M al6 al7 al8 al11 al12 al13 al14 al15 al17 al19 s0 s1 s2 s3 s4 s5 s9 s10 s16 s20 s21 s22 s23 s24 s25 u0 u1 u2 u3 u4 u5 u9 u10 u16 u20 u21 u22 u23 u24 u25 T0 L1 h1 X1 e1 O1 N1 B1 hf pre1
      unfold f0_254 at hf
      have pre1238 : Cm p e below E0 (T0.setTop (mkF m 256 (lt40 s0 s1 s2 s3 s4 s5 al6 al7 al8 s9 s10 al11 al12 al13 al14 al15 s16 al17 b53 al19 s20 s21 s22 s23 s24 s25) [(.int al17)])) := fun t kt => by
        refine pre1 t ?_
        show Sp p e below T0 (mkF m 254 (lt40 s0 s1 s2 s3 s4 s5 al6 al7 al8 s9 s10 al11 al12 al13 al14 al15 s16 al17 b53 al19 s20 s21 s22 s23 s24 s25) []) _
        refine XS.iload X1.here hx rfl (hb hby at_254) rfl ?_
        show Sp p e below T0 (mkF m 256 (lt40 s0 s1 s2 s3 s4 s5 al6 al7 al8 s9 s10 al11 al12 al13 al14 al15 s16 al17 b53 al19 s20 s21 s22 s23 s24 s25) [(.int al17)]) _
        exact kt
      by_cases hc1239 : al17 = (0 : Int32)
      · rw [own_eqT hc1239] at hf
        obtain ⟨v1240, M1240, hc1240, hf1241⟩ := own_bnd hf
        clear hf
        obtain ⟨cq1240, kq1240, q1240a, q1240b, q1240c⟩ := isOf hZ e1 B1.exa
        obtain ⟨_, _, ⟨T1240, L1240, k1240, n1240⟩, -, X1240, ⟨Lc1240, hQ1240, l1240, y1240, z1240⟩, st1240⟩ := X1.virtualBack hx (y := Y50) (z := Y50) hown (mvT hZ (hw _ (tk 99 rfl))) (mvT hZ (hw _ (tk 100 rfl))) (notFace_of_selects (args := #[]) (mvT hZ (hw _ (tk 102 rfl)))) (mvT hZ (hw _ (tk 102 rfl))) (mvT hZ (hw _ (tk 101 rfl))) (by decide) (backOf (W := 0) (rm15 l Z a0 hw [] hSl false b53 A K S0 nc M al11 al12 v1240 M1240 h1 n0 O1 B1 hc1240) hZ (hw _ (tk 103 rfl)) (hw _ (tk 3 rfl)) (by decide) (by decide)) q1240a q1240c (g := (mkF m 278 (lt40 s0 s1 s2 s3 s4 s5 al6 al7 al8 s9 s10 al11 al12 al13 al14 al15 s16 al17 b53 al19 s20 s21 s22 s23 s24 s25) [(.int al12), (.int al11), (.ref b53)])) rfl (by rw [hml]; rfl) (Steps.refl _) (argsL := [(.int al11), (.int al12)]) (rest := []) (lenOf pd_5 rfl) rfl (by show 2 * 0 + _ ≤ _; exact Nat.le_of_eq rfl) (hb hby at_278) (fun _ _ => ⟨rfl, e1, (by decide : 18 + 0 ≤ _), (by decide : 197 + 0 ≤ _)⟩)
        dsimp only [Pt.U, Pt.locs, Pt.cells, Pt.slots] at X1240 l1240 y1240 z1240 st1240 hQ1240
        rw [l1240, y1240, z1240] at X1240
        obtain ⟨rv1240, N1240q, O1240, B1240⟩ := hQ1240
        subst rv1240
        have N1240 := Fr.app N1 N1240q
        have pre1242 : Cm p e below E0 (T1240.setTop (mkF m 282 (lt40 s0 s1 s2 s3 s4 s5 al6 al7 al8 s9 s10 al11 al12 al13 al14 al15 s16 al17 b53 al19 s20 s21 s22 s23 s24 s25) [])) := fun t kt => by
          refine pre1238 t ?_
          show Sp p e below T0 (mkF m 256 (lt40 s0 s1 s2 s3 s4 s5 al6 al7 al8 s9 s10 al11 al12 al13 al14 al15 s16 al17 b53 al19 s20 s21 s22 s23 s24 s25) [(.int al17)]) _
          refine XS.ifYes X1.here hx rfl (pc0 := 256) (pc' := 272) rfl (hb hby at_256) rfl ((if0 _ _).trans (teq hc1239).1) (by decide) (by decide) ?_
          show Sp p e below T0 (mkF m 272 (lt40 s0 s1 s2 s3 s4 s5 al6 al7 al8 s9 s10 al11 al12 al13 al14 al15 s16 al17 b53 al19 s20 s21 s22 s23 s24 s25) []) _
          refine XS.aload X1.here hx rfl (hb hby at_272) rfl rfl ?_
          refine XS.iload X1.here hx rfl (hb hby at_274) rfl ?_
          show Sp p e below T0 (mkF m 276 (lt40 s0 s1 s2 s3 s4 s5 al6 al7 al8 s9 s10 al11 al12 al13 al14 al15 s16 al17 b53 al19 s20 s21 s22 s23 s24 s25) [(.int al11), (.ref b53)]) _
          refine XS.iload X1.here hx rfl (hb hby at_276) rfl ?_
          show Sp p e below T0 (mkF m 278 (lt40 s0 s1 s2 s3 s4 s5 al6 al7 al8 s9 s10 al11 al12 al13 al14 al15 s16 al17 b53 al19 s20 s21 s22 s23 s24 s25) [(.int al12), (.int al11), (.ref b53)]) _
          refine st1240.trans ?_
          show Sp p e below T1240 (mkF m 281 (lt40 s0 s1 s2 s3 s4 s5 al6 al7 al8 s9 s10 al11 al12 al13 al14 al15 s16 al17 b53 al19 s20 s21 s22 s23 s24 s25) [(.int v1240)]) _
          refine XS.pop X1240.here hx rfl (hb hby at_281) rfl rfl ?_
          show Sp p e below T1240 (mkF m 282 (lt40 s0 s1 s2 s3 s4 s5 al6 al7 al8 s9 s10 al11 al12 al13 al14 al15 s16 al17 b53 al19 s20 s21 s22 s23 s24 s25) []) _
          exact kt
        exact j282 nc A K S0 M1240 al6 al7 al8 al13 al14 al15 al19 s0 s1 s2 s3 s4 s5 s9 s10 (.val (.int al11)) (.val (.int al12)) s16 (.val (.int al17)) s20 s21 s22 s23 s24 s25 u0 u1 u2 u3 u4 u5 u9 u10 (Or.inr ⟨_, rfl, rfl⟩) (Or.inr ⟨_, rfl, rfl⟩) u16 (Or.inr ⟨_, rfl, rfl⟩) u20 u21 u22 u23 u24 u25 T1240 _ _ (X1240.more (by decide) (by decide)) rfl O1240 N1240 B1240 hf1241 pre1242
      · rw [own_eqF hc1239] at hf
        obtain ⟨v1243, M1243, hc1243, hf1244⟩ := own_bnd hf
        clear hf
        obtain ⟨cq1243, kq1243, q1243a, q1243b, q1243c⟩ := isOf hZ e1 B1.exa
        obtain ⟨_, _, ⟨T1243, L1243, k1243, n1243⟩, -, X1243, ⟨Lc1243, hQ1243, l1243, y1243, z1243⟩, st1243⟩ := X1.virtualBack hx (y := Y51) (z := Y51) hown (mvT hZ (hw _ (tk 53 rfl))) (mvT hZ (hw _ (tk 54 rfl))) (notFace_of_selects (args := #[]) (mvT hZ (hw _ (tk 56 rfl)))) (mvT hZ (hw _ (tk 56 rfl))) (mvT hZ (hw _ (tk 55 rfl))) (by decide) (backOf (W := 0) (rm6 l Z a0 hw [] hSl false b53 A K S0 nc M al11 al12 v1243 M1243 h1 n0 O1 B1 hc1243) hZ (hw _ (tk 57 rfl)) (hw _ (tk 3 rfl)) (by decide) (by decide)) q1243a q1243c (g := (mkF m 265 (lt40 s0 s1 s2 s3 s4 s5 al6 al7 al8 s9 s10 al11 al12 al13 al14 al15 s16 al17 b53 al19 s20 s21 s22 s23 s24 s25) [(.int al12), (.int al11), (.ref b53)])) rfl (by rw [hml]; rfl) (Steps.refl _) (argsL := [(.int al11), (.int al12)]) (rest := []) (lenOf pd_5 rfl) rfl (by show 2 * 0 + _ ≤ _; exact Nat.le_of_eq rfl) (hb hby at_265) (fun _ _ => ⟨rfl, e1, (by decide : 18 + 0 ≤ _), (by decide : 197 + 0 ≤ _)⟩)
        dsimp only [Pt.U, Pt.locs, Pt.cells, Pt.slots] at X1243 l1243 y1243 z1243 st1243 hQ1243
        rw [l1243, y1243, z1243] at X1243
        obtain ⟨rv1243, N1243q, O1243, B1243⟩ := hQ1243
        subst rv1243
        have N1243 := Fr.app N1 N1243q
        have pre1245 : Cm p e below E0 (T1243.setTop (mkF m 282 (lt40 s0 s1 s2 s3 s4 s5 al6 al7 al8 s9 s10 al11 al12 al13 al14 al15 s16 al17 b53 al19 s20 s21 s22 s23 s24 s25) [])) := fun t kt => by
          refine pre1238 t ?_
          show Sp p e below T0 (mkF m 256 (lt40 s0 s1 s2 s3 s4 s5 al6 al7 al8 s9 s10 al11 al12 al13 al14 al15 s16 al17 b53 al19 s20 s21 s22 s23 s24 s25) [(.int al17)]) _
          refine XS.ifNo X1.here hx rfl (hb hby at_256) rfl ((if0 _ _).trans (feq hc1239).1) ?_
          show Sp p e below T0 (mkF m 259 (lt40 s0 s1 s2 s3 s4 s5 al6 al7 al8 s9 s10 al11 al12 al13 al14 al15 s16 al17 b53 al19 s20 s21 s22 s23 s24 s25) []) _
          refine XS.aload X1.here hx rfl (hb hby at_259) rfl rfl ?_
          refine XS.iload X1.here hx rfl (hb hby at_261) rfl ?_
          show Sp p e below T0 (mkF m 263 (lt40 s0 s1 s2 s3 s4 s5 al6 al7 al8 s9 s10 al11 al12 al13 al14 al15 s16 al17 b53 al19 s20 s21 s22 s23 s24 s25) [(.int al11), (.ref b53)]) _
          refine XS.iload X1.here hx rfl (hb hby at_263) rfl ?_
          show Sp p e below T0 (mkF m 265 (lt40 s0 s1 s2 s3 s4 s5 al6 al7 al8 s9 s10 al11 al12 al13 al14 al15 s16 al17 b53 al19 s20 s21 s22 s23 s24 s25) [(.int al12), (.int al11), (.ref b53)]) _
          refine st1243.trans ?_
          show Sp p e below T1243 (mkF m 268 (lt40 s0 s1 s2 s3 s4 s5 al6 al7 al8 s9 s10 al11 al12 al13 al14 al15 s16 al17 b53 al19 s20 s21 s22 s23 s24 s25) [(.int v1243)]) _
          refine XS.pop X1243.here hx rfl (hb hby at_268) rfl rfl ?_
          show Sp p e below T1243 (mkF m 269 (lt40 s0 s1 s2 s3 s4 s5 al6 al7 al8 s9 s10 al11 al12 al13 al14 al15 s16 al17 b53 al19 s20 s21 s22 s23 s24 s25) []) _
          refine XS.goto X1243.here hx rfl (pc0 := 269) (pc' := 282) rfl (hb hby at_269) (by decide) (by decide) ?_
          show Sp p e below T1243 (mkF m 282 (lt40 s0 s1 s2 s3 s4 s5 al6 al7 al8 s9 s10 al11 al12 al13 al14 al15 s16 al17 b53 al19 s20 s21 s22 s23 s24 s25) []) _
          exact kt
        exact j282 nc A K S0 M1243 al6 al7 al8 al13 al14 al15 al19 s0 s1 s2 s3 s4 s5 s9 s10 (.val (.int al11)) (.val (.int al12)) s16 (.val (.int al17)) s20 s21 s22 s23 s24 s25 u0 u1 u2 u3 u4 u5 u9 u10 (Or.inr ⟨_, rfl, rfl⟩) (Or.inr ⟨_, rfl, rfl⟩) u16 (Or.inr ⟨_, rfl, rfl⟩) u20 u21 u22 u23 u24 u25 T1243 _ _ (X1243.more (by decide) (by decide)) rfl O1243 N1243 B1243 hf1244 pre1245
    have j219 : ∀ (nc : Nat) (A : Nat → Addr) (K : Nat → ClassId) (S0 : Addr), ∀ (M : MM) (al6 : Int32) (al7 : Int32) (al8 : Int32) (al9 : Int32) (al10 : Int32) (al11 : Int32) (al12 : Int32) (al13 : Int32) (al14 : Int32) (al15 : Int32) (al16 : Int32) (al17 : Int32) (s0 : Slot) (s1 : Slot) (s2 : Slot) (s3 : Slot) (s4 : Slot) (s5 : Slot) (s19 : Slot) (s20 : Slot) (s21 : Slot) (s22 : Slot) (s23 : Slot) (s24 : Slot) (s25 : Slot) (_ : s0 = .unset ∨ ∃ w, s0 = .val w ∧ w.category = 1) (_ : s1 = .unset ∨ ∃ w, s1 = .val w ∧ w.category = 1) (_ : s2 = .unset ∨ ∃ w, s2 = .val w ∧ w.category = 1) (_ : s3 = .unset ∨ ∃ w, s3 = .val w ∧ w.category = 1) (_ : s4 = .unset ∨ ∃ w, s4 = .val w ∧ w.category = 1) (_ : s5 = .unset ∨ ∃ w, s5 = .val w ∧ w.category = 1) (_ : s19 = .unset ∨ ∃ w, s19 = .val w ∧ w.category = 1) (_ : s20 = .unset ∨ ∃ w, s20 = .val w ∧ w.category = 1) (_ : s21 = .unset ∨ ∃ w, s21 = .val w ∧ w.category = 1) (_ : s22 = .unset ∨ ∃ w, s22 = .val w ∧ w.category = 1) (_ : s23 = .unset ∨ ∃ w, s23 = .val w ∧ w.category = 1) (_ : s24 = .unset ∨ ∃ w, s24 = .val w ∧ w.category = 1) (_ : s25 = .unset ∨ ∃ w, s25 = .val w ∧ w.category = 1) (T0 : State) (L1 : List Loc) (h1 : Heap), Stand p l e room_1 s m #[(.int p0), (.int p1), (.int p2), (.int p3), (.int p4), (.int p5)] below meth c T0 L1 18 197 → T0.heap = h1 → Old Z n0 h1 → Fr n0 L1 → EB Z n0 false h1 b53 A K S0 nc M → f0_219 p0 p1 p2 p3 p4 p5 nc M al6 al7 al8 al9 al10 al11 al12 al13 al14 al15 al16 al17 = some (1, Mf) → Cm p e below E0 (T0.setTop (mkF m 219 (lt25 s0 s1 s2 s3 s4 s5 al6 al7 al8 al9 al10 al11 al12 al13 al14 al15 al16 al17 b53 s19 s20 s21 s22 s23 s24 s25) [])) → False := by
      intro nc A K S0 M al6 al7 al8 al9 al10 al11 al12 al13 al14 al15 al16 al17 s0 s1 s2 s3 s4 s5 s19 s20 s21 s22 s23 s24 s25 u0 u1 u2 u3 u4 u5 u19 u20 u21 u22 u23 u24 u25 T0 L1 h1 X1 e1 O1 N1 B1 hf pre1
      unfold f0_219 at hf
      obtain ⟨v1228, M1228, hc1228, hf1229⟩ := own_bnd hf
      clear hf
      obtain ⟨cq1228, kq1228, q1228a, q1228b, q1228c⟩ := isOf hZ e1 B1.exa
      obtain ⟨_, _, ⟨T1228, L1228, k1228, n1228⟩, -, X1228, ⟨Lc1228, hQ1228, l1228, y1228, z1228⟩, st1228⟩ := X1.virtualBack hx (y := Y52) (z := Y52) hown (mvT hZ (hw _ (tk 90 rfl))) (mvT hZ (hw _ (tk 91 rfl))) (notFace_of_selects (args := #[]) (mvT hZ (hw _ (tk 93 rfl)))) (mvT hZ (hw _ (tk 93 rfl))) (mvT hZ (hw _ (tk 92 rfl))) (by decide) (backOf (W := 0) (rm13 l Z a0 hw [] hSl false b53 A K S0 nc M v1228 M1228 h1 n0 O1 B1 hc1228) hZ (hw _ (tk 94 rfl)) (hw _ (tk 3 rfl)) (by decide) (by decide)) q1228a q1228c (g := (mkF m 221 (lt25 s0 s1 s2 s3 s4 s5 al6 al7 al8 al9 al10 al11 al12 al13 al14 al15 al16 al17 b53 s19 s20 s21 s22 s23 s24 s25) [(.ref b53)])) rfl (by rw [hml]; rfl) (Steps.refl _) (argsL := []) (rest := []) (lenOf pd_10 rfl) rfl (by show 2 * 0 + _ ≤ _; exact Nat.le_of_eq rfl) (hb hby at_221) (fun _ _ => ⟨rfl, e1, (by decide : 18 + 0 ≤ _), (by decide : 197 + 0 ≤ _)⟩)
      dsimp only [Pt.U, Pt.locs, Pt.cells, Pt.slots] at X1228 l1228 y1228 z1228 st1228 hQ1228
      rw [l1228, y1228, z1228] at X1228
      obtain ⟨rv1228, N1228q, O1228, B1228⟩ := hQ1228
      subst rv1228
      have N1228 := Fr.app N1 N1228q
      have pre1230 : Cm p e below E0 (T1228.setTop (mkF m 228 (lt39 s0 s1 s2 s3 s4 s5 al6 al7 al8 al9 al10 al11 al12 al13 al14 al15 al16 al17 b53 v1228 s20 s21 s22 s23 s24 s25) [(.int al16)])) := fun t kt => by
        refine pre1 t ?_
        show Sp p e below T0 (mkF m 219 (lt25 s0 s1 s2 s3 s4 s5 al6 al7 al8 al9 al10 al11 al12 al13 al14 al15 al16 al17 b53 s19 s20 s21 s22 s23 s24 s25) []) _
        refine XS.aload X1.here hx rfl (hb hby at_219) rfl rfl ?_
        show Sp p e below T0 (mkF m 221 (lt25 s0 s1 s2 s3 s4 s5 al6 al7 al8 al9 al10 al11 al12 al13 al14 al15 al16 al17 b53 s19 s20 s21 s22 s23 s24 s25) [(.ref b53)]) _
        refine st1228.trans ?_
        show Sp p e below T1228 (mkF m 224 (lt25 s0 s1 s2 s3 s4 s5 al6 al7 al8 al9 al10 al11 al12 al13 al14 al15 al16 al17 b53 s19 s20 s21 s22 s23 s24 s25) [(.int v1228)]) _
        refine XS.istoreS X1228.here hx rfl (hb hby at_224) rfl rfl u19 ?_
        refine XS.iload X1228.here hx rfl (hb hby at_226) rfl ?_
        show Sp p e below T1228 (mkF m 228 (lt39 s0 s1 s2 s3 s4 s5 al6 al7 al8 al9 al10 al11 al12 al13 al14 al15 al16 al17 b53 v1228 s20 s21 s22 s23 s24 s25) [(.int al16)]) _
        exact kt
      by_cases hc1231 : al16 = (0 : Int32)
      · rw [own_eqT hc1231] at hf1229
        obtain ⟨v1232, M1232, hc1232, hf1233⟩ := own_bnd hf1229
        clear hf1229
        obtain ⟨cq1232, kq1232, q1232a, q1232b, q1232c⟩ := isOf hZ rfl B1228.exa
        obtain ⟨_, _, ⟨T1232, L1232, k1232, n1232⟩, -, X1232, ⟨Lc1232, hQ1232, l1232, y1232, z1232⟩, st1232⟩ := X1228.virtualBack hx (y := Y50) (z := Y50) hown (mvT hZ (hw _ (tk 99 rfl))) (mvT hZ (hw _ (tk 100 rfl))) (notFace_of_selects (args := #[]) (mvT hZ (hw _ (tk 102 rfl)))) (mvT hZ (hw _ (tk 102 rfl))) (mvT hZ (hw _ (tk 101 rfl))) (by decide) (backOf (W := 0) (rm15 l Z a0 hw [] hSl false b53 A K S0 nc M1228 al9 al10 v1232 M1232 T1228.heap n0 O1228 B1228 hc1232) hZ (hw _ (tk 103 rfl)) (hw _ (tk 3 rfl)) (by decide) (by decide)) q1232a q1232c (g := (mkF m 250 (lt39 s0 s1 s2 s3 s4 s5 al6 al7 al8 al9 al10 al11 al12 al13 al14 al15 al16 al17 b53 v1228 s20 s21 s22 s23 s24 s25) [(.int al10), (.int al9), (.ref b53)])) rfl (by rw [hml]; rfl) (Steps.refl _) (argsL := [(.int al9), (.int al10)]) (rest := []) (lenOf pd_5 rfl) rfl (by show 2 * 0 + _ ≤ _; exact Nat.le_of_eq rfl) (hb hby at_250) (fun _ _ => ⟨rfl, rfl, (by decide : 18 + 0 ≤ _), (by decide : 197 + 0 ≤ _)⟩)
        dsimp only [Pt.U, Pt.locs, Pt.cells, Pt.slots] at X1232 l1232 y1232 z1232 st1232 hQ1232
        rw [l1232, y1232, z1232] at X1232
        obtain ⟨rv1232, N1232q, O1232, B1232⟩ := hQ1232
        subst rv1232
        have N1232 := Fr.app N1228 N1232q
        have pre1234 : Cm p e below E0 (T1232.setTop (mkF m 254 (lt39 s0 s1 s2 s3 s4 s5 al6 al7 al8 al9 al10 al11 al12 al13 al14 al15 al16 al17 b53 v1228 s20 s21 s22 s23 s24 s25) [])) := fun t kt => by
          refine pre1230 t ?_
          show Sp p e below T1228 (mkF m 228 (lt39 s0 s1 s2 s3 s4 s5 al6 al7 al8 al9 al10 al11 al12 al13 al14 al15 al16 al17 b53 v1228 s20 s21 s22 s23 s24 s25) [(.int al16)]) _
          refine XS.ifYes X1228.here hx rfl (pc0 := 228) (pc' := 244) rfl (hb hby at_228) rfl ((if0 _ _).trans (teq hc1231).1) (by decide) (by decide) ?_
          show Sp p e below T1228 (mkF m 244 (lt39 s0 s1 s2 s3 s4 s5 al6 al7 al8 al9 al10 al11 al12 al13 al14 al15 al16 al17 b53 v1228 s20 s21 s22 s23 s24 s25) []) _
          refine XS.aload X1228.here hx rfl (hb hby at_244) rfl rfl ?_
          refine XS.iload X1228.here hx rfl (hb hby at_246) rfl ?_
          show Sp p e below T1228 (mkF m 248 (lt39 s0 s1 s2 s3 s4 s5 al6 al7 al8 al9 al10 al11 al12 al13 al14 al15 al16 al17 b53 v1228 s20 s21 s22 s23 s24 s25) [(.int al9), (.ref b53)]) _
          refine XS.iload X1228.here hx rfl (hb hby at_248) rfl ?_
          show Sp p e below T1228 (mkF m 250 (lt39 s0 s1 s2 s3 s4 s5 al6 al7 al8 al9 al10 al11 al12 al13 al14 al15 al16 al17 b53 v1228 s20 s21 s22 s23 s24 s25) [(.int al10), (.int al9), (.ref b53)]) _
          refine st1232.trans ?_
          show Sp p e below T1232 (mkF m 253 (lt39 s0 s1 s2 s3 s4 s5 al6 al7 al8 al9 al10 al11 al12 al13 al14 al15 al16 al17 b53 v1228 s20 s21 s22 s23 s24 s25) [(.int v1232)]) _
          refine XS.pop X1232.here hx rfl (hb hby at_253) rfl rfl ?_
          show Sp p e below T1232 (mkF m 254 (lt39 s0 s1 s2 s3 s4 s5 al6 al7 al8 al9 al10 al11 al12 al13 al14 al15 al16 al17 b53 v1228 s20 s21 s22 s23 s24 s25) []) _
          exact kt
        exact j254 nc A K S0 M1232 al6 al7 al8 al11 al12 al13 al14 al15 al17 v1228 s0 s1 s2 s3 s4 s5 (.val (.int al9)) (.val (.int al10)) (.val (.int al16)) s20 s21 s22 s23 s24 s25 u0 u1 u2 u3 u4 u5 (Or.inr ⟨_, rfl, rfl⟩) (Or.inr ⟨_, rfl, rfl⟩) (Or.inr ⟨_, rfl, rfl⟩) u20 u21 u22 u23 u24 u25 T1232 _ _ (X1232.more (by decide) (by decide)) rfl O1232 N1232 B1232 hf1233 pre1234
      · rw [own_eqF hc1231] at hf1229
        obtain ⟨v1235, M1235, hc1235, hf1236⟩ := own_bnd hf1229
        clear hf1229
        obtain ⟨cq1235, kq1235, q1235a, q1235b, q1235c⟩ := isOf hZ rfl B1228.exa
        obtain ⟨_, _, ⟨T1235, L1235, k1235, n1235⟩, -, X1235, ⟨Lc1235, hQ1235, l1235, y1235, z1235⟩, st1235⟩ := X1228.virtualBack hx (y := Y51) (z := Y51) hown (mvT hZ (hw _ (tk 53 rfl))) (mvT hZ (hw _ (tk 54 rfl))) (notFace_of_selects (args := #[]) (mvT hZ (hw _ (tk 56 rfl)))) (mvT hZ (hw _ (tk 56 rfl))) (mvT hZ (hw _ (tk 55 rfl))) (by decide) (backOf (W := 0) (rm6 l Z a0 hw [] hSl false b53 A K S0 nc M1228 al9 al10 v1235 M1235 T1228.heap n0 O1228 B1228 hc1235) hZ (hw _ (tk 57 rfl)) (hw _ (tk 3 rfl)) (by decide) (by decide)) q1235a q1235c (g := (mkF m 237 (lt39 s0 s1 s2 s3 s4 s5 al6 al7 al8 al9 al10 al11 al12 al13 al14 al15 al16 al17 b53 v1228 s20 s21 s22 s23 s24 s25) [(.int al10), (.int al9), (.ref b53)])) rfl (by rw [hml]; rfl) (Steps.refl _) (argsL := [(.int al9), (.int al10)]) (rest := []) (lenOf pd_5 rfl) rfl (by show 2 * 0 + _ ≤ _; exact Nat.le_of_eq rfl) (hb hby at_237) (fun _ _ => ⟨rfl, rfl, (by decide : 18 + 0 ≤ _), (by decide : 197 + 0 ≤ _)⟩)
        dsimp only [Pt.U, Pt.locs, Pt.cells, Pt.slots] at X1235 l1235 y1235 z1235 st1235 hQ1235
        rw [l1235, y1235, z1235] at X1235
        obtain ⟨rv1235, N1235q, O1235, B1235⟩ := hQ1235
        subst rv1235
        have N1235 := Fr.app N1228 N1235q
        have pre1237 : Cm p e below E0 (T1235.setTop (mkF m 254 (lt39 s0 s1 s2 s3 s4 s5 al6 al7 al8 al9 al10 al11 al12 al13 al14 al15 al16 al17 b53 v1228 s20 s21 s22 s23 s24 s25) [])) := fun t kt => by
          refine pre1230 t ?_
          show Sp p e below T1228 (mkF m 228 (lt39 s0 s1 s2 s3 s4 s5 al6 al7 al8 al9 al10 al11 al12 al13 al14 al15 al16 al17 b53 v1228 s20 s21 s22 s23 s24 s25) [(.int al16)]) _
          refine XS.ifNo X1228.here hx rfl (hb hby at_228) rfl ((if0 _ _).trans (feq hc1231).1) ?_
          show Sp p e below T1228 (mkF m 231 (lt39 s0 s1 s2 s3 s4 s5 al6 al7 al8 al9 al10 al11 al12 al13 al14 al15 al16 al17 b53 v1228 s20 s21 s22 s23 s24 s25) []) _
          refine XS.aload X1228.here hx rfl (hb hby at_231) rfl rfl ?_
          refine XS.iload X1228.here hx rfl (hb hby at_233) rfl ?_
          show Sp p e below T1228 (mkF m 235 (lt39 s0 s1 s2 s3 s4 s5 al6 al7 al8 al9 al10 al11 al12 al13 al14 al15 al16 al17 b53 v1228 s20 s21 s22 s23 s24 s25) [(.int al9), (.ref b53)]) _
          refine XS.iload X1228.here hx rfl (hb hby at_235) rfl ?_
          show Sp p e below T1228 (mkF m 237 (lt39 s0 s1 s2 s3 s4 s5 al6 al7 al8 al9 al10 al11 al12 al13 al14 al15 al16 al17 b53 v1228 s20 s21 s22 s23 s24 s25) [(.int al10), (.int al9), (.ref b53)]) _
          refine st1235.trans ?_
          show Sp p e below T1235 (mkF m 240 (lt39 s0 s1 s2 s3 s4 s5 al6 al7 al8 al9 al10 al11 al12 al13 al14 al15 al16 al17 b53 v1228 s20 s21 s22 s23 s24 s25) [(.int v1235)]) _
          refine XS.pop X1235.here hx rfl (hb hby at_240) rfl rfl ?_
          show Sp p e below T1235 (mkF m 241 (lt39 s0 s1 s2 s3 s4 s5 al6 al7 al8 al9 al10 al11 al12 al13 al14 al15 al16 al17 b53 v1228 s20 s21 s22 s23 s24 s25) []) _
          refine XS.goto X1235.here hx rfl (pc0 := 241) (pc' := 254) rfl (hb hby at_241) (by decide) (by decide) ?_
          show Sp p e below T1235 (mkF m 254 (lt39 s0 s1 s2 s3 s4 s5 al6 al7 al8 al9 al10 al11 al12 al13 al14 al15 al16 al17 b53 v1228 s20 s21 s22 s23 s24 s25) []) _
          exact kt
        exact j254 nc A K S0 M1235 al6 al7 al8 al11 al12 al13 al14 al15 al17 v1228 s0 s1 s2 s3 s4 s5 (.val (.int al9)) (.val (.int al10)) (.val (.int al16)) s20 s21 s22 s23 s24 s25 u0 u1 u2 u3 u4 u5 (Or.inr ⟨_, rfl, rfl⟩) (Or.inr ⟨_, rfl, rfl⟩) (Or.inr ⟨_, rfl, rfl⟩) u20 u21 u22 u23 u24 u25 T1235 _ _ (X1235.more (by decide) (by decide)) rfl O1235 N1235 B1235 hf1236 pre1237
    have j191 : ∀ (nc : Nat) (A : Nat → Addr) (K : Nat → ClassId) (S0 : Addr), ∀ (M : MM) (al6 : Int32) (al7 : Int32) (al8 : Int32) (al9 : Int32) (al10 : Int32) (al11 : Int32) (al12 : Int32) (al13 : Int32) (al14 : Int32) (al15 : Int32) (al16 : Int32) (al17 : Int32) (s0 : Slot) (s1 : Slot) (s2 : Slot) (s3 : Slot) (s4 : Slot) (s5 : Slot) (s19 : Slot) (s20 : Slot) (s21 : Slot) (s22 : Slot) (s23 : Slot) (s24 : Slot) (s25 : Slot) (_ : s0 = .unset ∨ ∃ w, s0 = .val w ∧ w.category = 1) (_ : s1 = .unset ∨ ∃ w, s1 = .val w ∧ w.category = 1) (_ : s2 = .unset ∨ ∃ w, s2 = .val w ∧ w.category = 1) (_ : s3 = .unset ∨ ∃ w, s3 = .val w ∧ w.category = 1) (_ : s4 = .unset ∨ ∃ w, s4 = .val w ∧ w.category = 1) (_ : s5 = .unset ∨ ∃ w, s5 = .val w ∧ w.category = 1) (_ : s19 = .unset ∨ ∃ w, s19 = .val w ∧ w.category = 1) (_ : s20 = .unset ∨ ∃ w, s20 = .val w ∧ w.category = 1) (_ : s21 = .unset ∨ ∃ w, s21 = .val w ∧ w.category = 1) (_ : s22 = .unset ∨ ∃ w, s22 = .val w ∧ w.category = 1) (_ : s23 = .unset ∨ ∃ w, s23 = .val w ∧ w.category = 1) (_ : s24 = .unset ∨ ∃ w, s24 = .val w ∧ w.category = 1) (_ : s25 = .unset ∨ ∃ w, s25 = .val w ∧ w.category = 1) (T0 : State) (L1 : List Loc) (h1 : Heap), Stand p l e room_1 s m #[(.int p0), (.int p1), (.int p2), (.int p3), (.int p4), (.int p5)] below meth c T0 L1 18 197 → T0.heap = h1 → Old Z n0 h1 → Fr n0 L1 → EB Z n0 false h1 b53 A K S0 nc M → f0_191 p0 p1 p2 p3 p4 p5 nc M al6 al7 al8 al9 al10 al11 al12 al13 al14 al15 al16 al17 = some (1, Mf) → Cm p e below E0 (T0.setTop (mkF m 191 (lt25 s0 s1 s2 s3 s4 s5 al6 al7 al8 al9 al10 al11 al12 al13 al14 al15 al16 al17 b53 s19 s20 s21 s22 s23 s24 s25) [])) → False := by
      intro nc A K S0 M al6 al7 al8 al9 al10 al11 al12 al13 al14 al15 al16 al17 s0 s1 s2 s3 s4 s5 s19 s20 s21 s22 s23 s24 s25 u0 u1 u2 u3 u4 u5 u19 u20 u21 u22 u23 u24 u25 T0 L1 h1 X1 e1 O1 N1 B1 hf pre1
      unfold f0_191 at hf
      have pre827 : Cm p e below E0 (T0.setTop (mkF m 193 (lt25 s0 s1 s2 s3 s4 s5 al6 al7 al8 al9 al10 al11 al12 al13 al14 al15 al16 al17 b53 s19 s20 s21 s22 s23 s24 s25) [(.int al15)])) := fun t kt => by
        refine pre1 t ?_
        show Sp p e below T0 (mkF m 191 (lt25 s0 s1 s2 s3 s4 s5 al6 al7 al8 al9 al10 al11 al12 al13 al14 al15 al16 al17 b53 s19 s20 s21 s22 s23 s24 s25) []) _
        refine XS.iload X1.here hx rfl (hb hby at_191) rfl ?_
        show Sp p e below T0 (mkF m 193 (lt25 s0 s1 s2 s3 s4 s5 al6 al7 al8 al9 al10 al11 al12 al13 al14 al15 al16 al17 b53 s19 s20 s21 s22 s23 s24 s25) [(.int al15)]) _
        exact kt
      by_cases hc828 : al15 = (0 : Int32)
      · rw [own_eqT hc828] at hf
        obtain ⟨v1211, M1211, hc1211, hf1212⟩ := own_bnd hf
        clear hf
        obtain ⟨cq1211, kq1211, q1211a, q1211b, q1211c⟩ := isOf hZ e1 B1.exa
        obtain ⟨_, _, ⟨T1211, L1211, k1211, n1211⟩, -, X1211, ⟨Lc1211, hQ1211, l1211, y1211, z1211⟩, st1211⟩ := X1.virtualBack hx (y := Y50) (z := Y50) hown (mvT hZ (hw _ (tk 99 rfl))) (mvT hZ (hw _ (tk 100 rfl))) (notFace_of_selects (args := #[]) (mvT hZ (hw _ (tk 102 rfl)))) (mvT hZ (hw _ (tk 102 rfl))) (mvT hZ (hw _ (tk 101 rfl))) (by decide) (backOf (W := 0) (rm15 l Z a0 hw [] hSl false b53 A K S0 nc M al7 al8 v1211 M1211 h1 n0 O1 B1 hc1211) hZ (hw _ (tk 103 rfl)) (hw _ (tk 3 rfl)) (by decide) (by decide)) q1211a q1211c (g := (mkF m 215 (lt25 s0 s1 s2 s3 s4 s5 al6 al7 al8 al9 al10 al11 al12 al13 al14 al15 al16 al17 b53 s19 s20 s21 s22 s23 s24 s25) [(.int al8), (.int al7), (.ref b53)])) rfl (by rw [hml]; rfl) (Steps.refl _) (argsL := [(.int al7), (.int al8)]) (rest := []) (lenOf pd_5 rfl) rfl (by show 2 * 0 + _ ≤ _; exact Nat.le_of_eq rfl) (hb hby at_215) (fun _ _ => ⟨rfl, e1, (by decide : 18 + 0 ≤ _), (by decide : 197 + 0 ≤ _)⟩)
        dsimp only [Pt.U, Pt.locs, Pt.cells, Pt.slots] at X1211 l1211 y1211 z1211 st1211 hQ1211
        rw [l1211, y1211, z1211] at X1211
        obtain ⟨rv1211, N1211q, O1211, B1211⟩ := hQ1211
        subst rv1211
        have N1211 := Fr.app N1 N1211q
        have pre1213 : Cm p e below E0 (T1211.setTop (mkF m 219 (lt25 s0 s1 s2 s3 s4 s5 al6 al7 al8 al9 al10 al11 al12 al13 al14 al15 al16 al17 b53 s19 s20 s21 s22 s23 s24 s25) [])) := fun t kt => by
          refine pre827 t ?_
          show Sp p e below T0 (mkF m 193 (lt25 s0 s1 s2 s3 s4 s5 al6 al7 al8 al9 al10 al11 al12 al13 al14 al15 al16 al17 b53 s19 s20 s21 s22 s23 s24 s25) [(.int al15)]) _
          refine XS.ifYes X1.here hx rfl (pc0 := 193) (pc' := 209) rfl (hb hby at_193) rfl ((if0 _ _).trans (teq hc828).1) (by decide) (by decide) ?_
          show Sp p e below T0 (mkF m 209 (lt25 s0 s1 s2 s3 s4 s5 al6 al7 al8 al9 al10 al11 al12 al13 al14 al15 al16 al17 b53 s19 s20 s21 s22 s23 s24 s25) []) _
          refine XS.aload X1.here hx rfl (hb hby at_209) rfl rfl ?_
          refine XS.iload X1.here hx rfl (hb hby at_211) rfl ?_
          show Sp p e below T0 (mkF m 213 (lt25 s0 s1 s2 s3 s4 s5 al6 al7 al8 al9 al10 al11 al12 al13 al14 al15 al16 al17 b53 s19 s20 s21 s22 s23 s24 s25) [(.int al7), (.ref b53)]) _
          refine XS.iload X1.here hx rfl (hb hby at_213) rfl ?_
          show Sp p e below T0 (mkF m 215 (lt25 s0 s1 s2 s3 s4 s5 al6 al7 al8 al9 al10 al11 al12 al13 al14 al15 al16 al17 b53 s19 s20 s21 s22 s23 s24 s25) [(.int al8), (.int al7), (.ref b53)]) _
          refine st1211.trans ?_
          show Sp p e below T1211 (mkF m 218 (lt25 s0 s1 s2 s3 s4 s5 al6 al7 al8 al9 al10 al11 al12 al13 al14 al15 al16 al17 b53 s19 s20 s21 s22 s23 s24 s25) [(.int v1211)]) _
          refine XS.pop X1211.here hx rfl (hb hby at_218) rfl rfl ?_
          show Sp p e below T1211 (mkF m 219 (lt25 s0 s1 s2 s3 s4 s5 al6 al7 al8 al9 al10 al11 al12 al13 al14 al15 al16 al17 b53 s19 s20 s21 s22 s23 s24 s25) []) _
          exact kt
        exact j219 nc A K S0 M1211 al6 al7 al8 al9 al10 al11 al12 al13 al14 al15 al16 al17 s0 s1 s2 s3 s4 s5 s19 s20 s21 s22 s23 s24 s25 u0 u1 u2 u3 u4 u5 u19 u20 u21 u22 u23 u24 u25 T1211 _ _ (X1211.more (by decide) (by decide)) rfl O1211 N1211 B1211 hf1212 pre1213
      · rw [own_eqF hc828] at hf
        obtain ⟨v1222, M1222, hc1222, hf1223⟩ := own_bnd hf
        clear hf
        obtain ⟨cq1222, kq1222, q1222a, q1222b, q1222c⟩ := isOf hZ e1 B1.exa
        obtain ⟨_, _, ⟨T1222, L1222, k1222, n1222⟩, -, X1222, ⟨Lc1222, hQ1222, l1222, y1222, z1222⟩, st1222⟩ := X1.virtualBack hx (y := Y51) (z := Y51) hown (mvT hZ (hw _ (tk 53 rfl))) (mvT hZ (hw _ (tk 54 rfl))) (notFace_of_selects (args := #[]) (mvT hZ (hw _ (tk 56 rfl)))) (mvT hZ (hw _ (tk 56 rfl))) (mvT hZ (hw _ (tk 55 rfl))) (by decide) (backOf (W := 0) (rm6 l Z a0 hw [] hSl false b53 A K S0 nc M al7 al8 v1222 M1222 h1 n0 O1 B1 hc1222) hZ (hw _ (tk 57 rfl)) (hw _ (tk 3 rfl)) (by decide) (by decide)) q1222a q1222c (g := (mkF m 202 (lt25 s0 s1 s2 s3 s4 s5 al6 al7 al8 al9 al10 al11 al12 al13 al14 al15 al16 al17 b53 s19 s20 s21 s22 s23 s24 s25) [(.int al8), (.int al7), (.ref b53)])) rfl (by rw [hml]; rfl) (Steps.refl _) (argsL := [(.int al7), (.int al8)]) (rest := []) (lenOf pd_5 rfl) rfl (by show 2 * 0 + _ ≤ _; exact Nat.le_of_eq rfl) (hb hby at_202) (fun _ _ => ⟨rfl, e1, (by decide : 18 + 0 ≤ _), (by decide : 197 + 0 ≤ _)⟩)
        dsimp only [Pt.U, Pt.locs, Pt.cells, Pt.slots] at X1222 l1222 y1222 z1222 st1222 hQ1222
        rw [l1222, y1222, z1222] at X1222
        obtain ⟨rv1222, N1222q, O1222, B1222⟩ := hQ1222
        subst rv1222
        have N1222 := Fr.app N1 N1222q
        have pre1224 : Cm p e below E0 (T1222.setTop (mkF m 219 (lt25 s0 s1 s2 s3 s4 s5 al6 al7 al8 al9 al10 al11 al12 al13 al14 al15 al16 al17 b53 s19 s20 s21 s22 s23 s24 s25) [])) := fun t kt => by
          refine pre827 t ?_
          show Sp p e below T0 (mkF m 193 (lt25 s0 s1 s2 s3 s4 s5 al6 al7 al8 al9 al10 al11 al12 al13 al14 al15 al16 al17 b53 s19 s20 s21 s22 s23 s24 s25) [(.int al15)]) _
          refine XS.ifNo X1.here hx rfl (hb hby at_193) rfl ((if0 _ _).trans (feq hc828).1) ?_
          show Sp p e below T0 (mkF m 196 (lt25 s0 s1 s2 s3 s4 s5 al6 al7 al8 al9 al10 al11 al12 al13 al14 al15 al16 al17 b53 s19 s20 s21 s22 s23 s24 s25) []) _
          refine XS.aload X1.here hx rfl (hb hby at_196) rfl rfl ?_
          refine XS.iload X1.here hx rfl (hb hby at_198) rfl ?_
          show Sp p e below T0 (mkF m 200 (lt25 s0 s1 s2 s3 s4 s5 al6 al7 al8 al9 al10 al11 al12 al13 al14 al15 al16 al17 b53 s19 s20 s21 s22 s23 s24 s25) [(.int al7), (.ref b53)]) _
          refine XS.iload X1.here hx rfl (hb hby at_200) rfl ?_
          show Sp p e below T0 (mkF m 202 (lt25 s0 s1 s2 s3 s4 s5 al6 al7 al8 al9 al10 al11 al12 al13 al14 al15 al16 al17 b53 s19 s20 s21 s22 s23 s24 s25) [(.int al8), (.int al7), (.ref b53)]) _
          refine st1222.trans ?_
          show Sp p e below T1222 (mkF m 205 (lt25 s0 s1 s2 s3 s4 s5 al6 al7 al8 al9 al10 al11 al12 al13 al14 al15 al16 al17 b53 s19 s20 s21 s22 s23 s24 s25) [(.int v1222)]) _
          refine XS.pop X1222.here hx rfl (hb hby at_205) rfl rfl ?_
          show Sp p e below T1222 (mkF m 206 (lt25 s0 s1 s2 s3 s4 s5 al6 al7 al8 al9 al10 al11 al12 al13 al14 al15 al16 al17 b53 s19 s20 s21 s22 s23 s24 s25) []) _
          refine XS.goto X1222.here hx rfl (pc0 := 206) (pc' := 219) rfl (hb hby at_206) (by decide) (by decide) ?_
          show Sp p e below T1222 (mkF m 219 (lt25 s0 s1 s2 s3 s4 s5 al6 al7 al8 al9 al10 al11 al12 al13 al14 al15 al16 al17 b53 s19 s20 s21 s22 s23 s24 s25) []) _
          exact kt
        exact j219 nc A K S0 M1222 al6 al7 al8 al9 al10 al11 al12 al13 al14 al15 al16 al17 s0 s1 s2 s3 s4 s5 s19 s20 s21 s22 s23 s24 s25 u0 u1 u2 u3 u4 u5 u19 u20 u21 u22 u23 u24 u25 T1222 _ _ (X1222.more (by decide) (by decide)) rfl O1222 N1222 B1222 hf1223 pre1224
    by_cases hc55 : al6 = (5 : Int32)
    · rw [own_eqT hc55] at hf
      subst hc55
      obtain ⟨_, _, ⟨T423, L423, k423, n423⟩, -, X423, ⟨Lc423, hQ423, l423, y423, z423⟩, st423⟩ := X53.specialBack hx (y := Y26) rfl hown (mvT hZ (hw _ (tk 4 rfl))) (mvT hZ (hw _ (tk 5 rfl))) (mvT hZ (hw _ (tk 6 rfl))) (by decide) (backOf (W := 1) (rm1x1 l Z a0 hw [] hS0 b53 h53 n0 O53 g_b53 A53 F_cities_b53 F_fixedEdges_b53 F_forcedDegree_b53 F_isPending_b53 F_listStart_b53 F_listed_b53 F_neighbours_b53 F_openDegree_b53 F_otherEnd_b53 F_pathSize_b53 F_pending_b53 F_pendingCount_b53 F_pendingHead_b53 F_states_b53 F_trail_b53 F_trailSize_b53) hZ (hw _ (tk 6 rfl)) (hw _ (tk 3 rfl)) (by decide) (by decide)) (g := (mkF m 186 (lt15 s0 s1 s2 s3 s4 s5 5 al7 al8 al9 al10 al11 al12 al13 al14 al15 al16 al17) [(.int 5), (.ref b53), (.ref b53)])) rfl (by rw [hml]; rfl) (Steps.refl _) (a := b53) (argsL := [(.int 5)]) (rest := [(.ref b53)]) (lenOf pd_3 rfl) rfl (by show 2 * 0 + _ ≤ _; exact Nat.le_of_eq rfl) (hb hby at_186) (fun _ _ => ⟨rfl, e53, (by decide : 1 + 16 ≤ _), (by decide : 16 + 136 ≤ _)⟩)
      dsimp only [Pt.U, Pt.locs, Pt.cells, Pt.slots] at X423 l423 y423 z423 st423 hQ423
      rw [l423, y423, z423] at X423
      obtain ⟨A, K, S0, rv423, N423q, O423, B423⟩ := hQ423
      subst rv423
      have N423 := Fr.app N0 N423q
      have pre424 : Cm p e below E0 (T423.setTop (mkF m 191 (lt24 s0 s1 s2 s3 s4 s5 5 al7 al8 al9 al10 al11 al12 al13 al14 al15 al16 al17 b53) [])) := fun t kt => by
        refine pre54 t ?_
        show Sp p e below T53 (mkF m 186 (lt15 s0 s1 s2 s3 s4 s5 5 al7 al8 al9 al10 al11 al12 al13 al14 al15 al16 al17) [(.int 5), (.ref b53), (.ref b53)]) _
        refine st423.trans ?_
        show Sp p e below T423 (mkF m 189 (lt15 s0 s1 s2 s3 s4 s5 5 al7 al8 al9 al10 al11 al12 al13 al14 al15 al16 al17) [(.ref b53)]) _
        refine XS.astore X423.here hx rfl (hb hby at_189) rfl rfl (l' := (lt24 s0 s1 s2 s3 s4 s5 5 al7 al8 al9 al10 al11 al12 al13 al14 al15 al16 al17 b53)) rfl ?_
        show Sp p e below T423 (mkF m 191 (lt24 s0 s1 s2 s3 s4 s5 5 al7 al8 al9 al10 al11 al12 al13 al14 al15 al16 al17 b53) []) _
        exact kt
      exact j191 5 A K S0 M0_5 (5 : Int32) al7 al8 al9 al10 al11 al12 al13 al14 al15 al16 al17 s0 s1 s2 s3 s4 s5 (.unset) (.unset) (.unset) (.unset) (.unset) (.unset) (.unset) u0 u1 u2 u3 u4 u5 (Or.inl rfl) (Or.inl rfl) (Or.inl rfl) (Or.inl rfl) (Or.inl rfl) (Or.inl rfl) (Or.inl rfl) T423 _ _ (X423.more (by decide) (by decide)) rfl O423 N423 B423 hf pre424
    rw [own_eqF hc55] at hf
    by_cases hc425 : al6 = (6 : Int32)
    · rw [own_eqT hc425] at hf
      subst hc425
      obtain ⟨_, _, ⟨T825, L825, k825, n825⟩, -, X825, ⟨Lc825, hQ825, l825, y825, z825⟩, st825⟩ := X53.specialBack hx (y := Y26) rfl hown (mvT hZ (hw _ (tk 4 rfl))) (mvT hZ (hw _ (tk 5 rfl))) (mvT hZ (hw _ (tk 6 rfl))) (by decide) (backOf (W := 1) (rm1x2 l Z a0 hw [] hS0 b53 h53 n0 O53 g_b53 A53 F_cities_b53 F_fixedEdges_b53 F_forcedDegree_b53 F_isPending_b53 F_listStart_b53 F_listed_b53 F_neighbours_b53 F_openDegree_b53 F_otherEnd_b53 F_pathSize_b53 F_pending_b53 F_pendingCount_b53 F_pendingHead_b53 F_states_b53 F_trail_b53 F_trailSize_b53) hZ (hw _ (tk 6 rfl)) (hw _ (tk 3 rfl)) (by decide) (by decide)) (g := (mkF m 186 (lt15 s0 s1 s2 s3 s4 s5 6 al7 al8 al9 al10 al11 al12 al13 al14 al15 al16 al17) [(.int 6), (.ref b53), (.ref b53)])) rfl (by rw [hml]; rfl) (Steps.refl _) (a := b53) (argsL := [(.int 6)]) (rest := [(.ref b53)]) (lenOf pd_3 rfl) rfl (by show 2 * 0 + _ ≤ _; exact Nat.le_of_eq rfl) (hb hby at_186) (fun _ _ => ⟨rfl, e53, (by decide : 1 + 17 ≤ _), (by decide : 16 + 181 ≤ _)⟩)
      dsimp only [Pt.U, Pt.locs, Pt.cells, Pt.slots] at X825 l825 y825 z825 st825 hQ825
      rw [l825, y825, z825] at X825
      obtain ⟨A, K, S0, rv825, N825q, O825, B825⟩ := hQ825
      subst rv825
      have N825 := Fr.app N0 N825q
      have pre826 : Cm p e below E0 (T825.setTop (mkF m 191 (lt24 s0 s1 s2 s3 s4 s5 6 al7 al8 al9 al10 al11 al12 al13 al14 al15 al16 al17 b53) [])) := fun t kt => by
        refine pre54 t ?_
        show Sp p e below T53 (mkF m 186 (lt15 s0 s1 s2 s3 s4 s5 6 al7 al8 al9 al10 al11 al12 al13 al14 al15 al16 al17) [(.int 6), (.ref b53), (.ref b53)]) _
        refine st825.trans ?_
        show Sp p e below T825 (mkF m 189 (lt15 s0 s1 s2 s3 s4 s5 6 al7 al8 al9 al10 al11 al12 al13 al14 al15 al16 al17) [(.ref b53)]) _
        refine XS.astore X825.here hx rfl (hb hby at_189) rfl rfl (l' := (lt24 s0 s1 s2 s3 s4 s5 6 al7 al8 al9 al10 al11 al12 al13 al14 al15 al16 al17 b53)) rfl ?_
        show Sp p e below T825 (mkF m 191 (lt24 s0 s1 s2 s3 s4 s5 6 al7 al8 al9 al10 al11 al12 al13 al14 al15 al16 al17 b53) []) _
        exact kt
      exact j191 6 A K S0 M0_6 (6 : Int32) al7 al8 al9 al10 al11 al12 al13 al14 al15 al16 al17 s0 s1 s2 s3 s4 s5 (.unset) (.unset) (.unset) (.unset) (.unset) (.unset) (.unset) u0 u1 u2 u3 u4 u5 (Or.inl rfl) (Or.inl rfl) (Or.inl rfl) (Or.inl rfl) (Or.inl rfl) (Or.inl rfl) (Or.inl rfl) T825 _ _ (X825.more (by decide) (by decide)) rfl O825 N825 B825 hf pre826
    rw [own_eqF hc425] at hf
    cases hf
  have j166 : ∀ (al6 : Int32) (al7 : Int32) (al8 : Int32) (al9 : Int32) (al10 : Int32) (al11 : Int32) (al12 : Int32) (al13 : Int32) (al14 : Int32) (al15 : Int32) (al16 : Int32) (s0 : Slot) (s1 : Slot) (s2 : Slot) (s3 : Slot) (s4 : Slot) (_ : s0 = .unset ∨ ∃ w, s0 = .val w ∧ w.category = 1) (_ : s1 = .unset ∨ ∃ w, s1 = .val w ∧ w.category = 1) (_ : s2 = .unset ∨ ∃ w, s2 = .val w ∧ w.category = 1) (_ : s3 = .unset ∨ ∃ w, s3 = .val w ∧ w.category = 1) (_ : s4 = .unset ∨ ∃ w, s4 = .val w ∧ w.category = 1), f0_166 p0 p1 p2 p3 p4 p5 al6 al7 al8 al9 al10 al11 al12 al13 al14 al15 al16 = some (1, Mf) → Cm p e below E0 (s₁.setTop (mkF m 166 (lt13 s0 s1 s2 s3 s4 p5 al6 al7 al8 al9 al10 al11 al12 al13 al14 al15 al16) [])) → False := by
    intro al6 al7 al8 al9 al10 al11 al12 al13 al14 al15 al16 s0 s1 s2 s3 s4 u0 u1 u2 u3 u4 hf pre1
    unfold f0_166 at hf
    have pre49 : Cm p e below E0 (s₁.setTop (mkF m 170 (lt13 s0 s1 s2 s3 s4 p5 al6 al7 al8 al9 al10 al11 al12 al13 al14 al15 al16) [(.int (p5 &&& 4))])) := fun t kt => by
      refine pre1 t ?_
      show Sp p e below s₁ (mkF m 166 (lt13 s0 s1 s2 s3 s4 p5 al6 al7 al8 al9 al10 al11 al12 al13 al14 al15 al16) []) _
      refine XS.iload X0.here hx rfl (hb hby at_166) rfl ?_
      refine XS.iconst X0.here hx rfl (hb hby at_168) ?_
      show Sp p e below s₁ (mkF m 169 (lt13 s0 s1 s2 s3 s4 p5 al6 al7 al8 al9 al10 al11 al12 al13 al14 al15 al16) [(.int 4), (.int p5)]) _
      refine XS.iand X0.here hx rfl (hb hby at_169) rfl ?_
      show Sp p e below s₁ (mkF m 170 (lt13 s0 s1 s2 s3 s4 p5 al6 al7 al8 al9 al10 al11 al12 al13 al14 al15 al16) [(.int (p5 &&& 4))]) _
      exact kt
    by_cases hc50 : (p5 &&& 4) = (0 : Int32)
    · rw [own_eqT hc50] at hf
      have pre51 : Cm p e below E0 (s₁.setTop (mkF m 180 (lt14 s0 s1 s2 s3 s4 p5 al6 al7 al8 al9 al10 al11 al12 al13 al14 al15 al16 0) [])) := fun t kt => by
        refine pre49 t ?_
        show Sp p e below s₁ (mkF m 170 (lt13 s0 s1 s2 s3 s4 p5 al6 al7 al8 al9 al10 al11 al12 al13 al14 al15 al16) [(.int (p5 &&& 4))]) _
        refine XS.ifYes X0.here hx rfl (pc0 := 170) (pc' := 177) rfl (hb hby at_170) rfl ((if0 _ _).trans (teq hc50).1) (by decide) (by decide) ?_
        show Sp p e below s₁ (mkF m 177 (lt13 s0 s1 s2 s3 s4 p5 al6 al7 al8 al9 al10 al11 al12 al13 al14 al15 al16) []) _
        refine XS.iconst X0.here hx rfl (hb hby at_177) ?_
        refine XS.istore X0.here hx rfl (hb hby at_178) rfl (l' := (lt14 s0 s1 s2 s3 s4 p5 al6 al7 al8 al9 al10 al11 al12 al13 al14 al15 al16 0)) rfl ?_
        show Sp p e below s₁ (mkF m 180 (lt14 s0 s1 s2 s3 s4 p5 al6 al7 al8 al9 al10 al11 al12 al13 al14 al15 al16 0) []) _
        exact kt
      exact j180 al6 al7 al8 al9 al10 al11 al12 al13 al14 al15 al16 (0 : Int32) s0 s1 s2 s3 s4 (.val (.int p5)) u0 u1 u2 u3 u4 (Or.inr ⟨_, rfl, rfl⟩) hf pre51
    · rw [own_eqF hc50] at hf
      have pre52 : Cm p e below E0 (s₁.setTop (mkF m 180 (lt14 s0 s1 s2 s3 s4 p5 al6 al7 al8 al9 al10 al11 al12 al13 al14 al15 al16 1) [])) := fun t kt => by
        refine pre49 t ?_
        show Sp p e below s₁ (mkF m 170 (lt13 s0 s1 s2 s3 s4 p5 al6 al7 al8 al9 al10 al11 al12 al13 al14 al15 al16) [(.int (p5 &&& 4))]) _
        refine XS.ifNo X0.here hx rfl (hb hby at_170) rfl ((if0 _ _).trans (feq hc50).1) ?_
        show Sp p e below s₁ (mkF m 173 (lt13 s0 s1 s2 s3 s4 p5 al6 al7 al8 al9 al10 al11 al12 al13 al14 al15 al16) []) _
        refine XS.iconst X0.here hx rfl (hb hby at_173) ?_
        show Sp p e below s₁ (mkF m 174 (lt13 s0 s1 s2 s3 s4 p5 al6 al7 al8 al9 al10 al11 al12 al13 al14 al15 al16) [(.int 1)]) _
        refine XS.goto X0.here hx rfl (pc0 := 174) (pc' := 178) rfl (hb hby at_174) (by decide) (by decide) ?_
        show Sp p e below s₁ (mkF m 178 (lt13 s0 s1 s2 s3 s4 p5 al6 al7 al8 al9 al10 al11 al12 al13 al14 al15 al16) [(.int 1)]) _
        refine XS.istore X0.here hx rfl (hb hby at_178) rfl (l' := (lt14 s0 s1 s2 s3 s4 p5 al6 al7 al8 al9 al10 al11 al12 al13 al14 al15 al16 1)) rfl ?_
        show Sp p e below s₁ (mkF m 180 (lt14 s0 s1 s2 s3 s4 p5 al6 al7 al8 al9 al10 al11 al12 al13 al14 al15 al16 1) []) _
        exact kt
      exact j180 al6 al7 al8 al9 al10 al11 al12 al13 al14 al15 al16 (1 : Int32) s0 s1 s2 s3 s4 (.val (.int p5)) u0 u1 u2 u3 u4 (Or.inr ⟨_, rfl, rfl⟩) hf pre52
  have j152 : ∀ (al6 : Int32) (al7 : Int32) (al8 : Int32) (al9 : Int32) (al10 : Int32) (al11 : Int32) (al12 : Int32) (al13 : Int32) (al14 : Int32) (al15 : Int32) (s0 : Slot) (s1 : Slot) (s2 : Slot) (s3 : Slot) (s4 : Slot) (_ : s0 = .unset ∨ ∃ w, s0 = .val w ∧ w.category = 1) (_ : s1 = .unset ∨ ∃ w, s1 = .val w ∧ w.category = 1) (_ : s2 = .unset ∨ ∃ w, s2 = .val w ∧ w.category = 1) (_ : s3 = .unset ∨ ∃ w, s3 = .val w ∧ w.category = 1) (_ : s4 = .unset ∨ ∃ w, s4 = .val w ∧ w.category = 1), f0_152 p0 p1 p2 p3 p4 p5 al6 al7 al8 al9 al10 al11 al12 al13 al14 al15 = some (1, Mf) → Cm p e below E0 (s₁.setTop (mkF m 152 (lt12 s0 s1 s2 s3 s4 p5 al6 al7 al8 al9 al10 al11 al12 al13 al14 al15) [])) → False := by
    intro al6 al7 al8 al9 al10 al11 al12 al13 al14 al15 s0 s1 s2 s3 s4 u0 u1 u2 u3 u4 hf pre1
    unfold f0_152 at hf
    have pre45 : Cm p e below E0 (s₁.setTop (mkF m 156 (lt12 s0 s1 s2 s3 s4 p5 al6 al7 al8 al9 al10 al11 al12 al13 al14 al15) [(.int (p5 &&& 2))])) := fun t kt => by
      refine pre1 t ?_
      show Sp p e below s₁ (mkF m 152 (lt12 s0 s1 s2 s3 s4 p5 al6 al7 al8 al9 al10 al11 al12 al13 al14 al15) []) _
      refine XS.iload X0.here hx rfl (hb hby at_152) rfl ?_
      refine XS.iconst X0.here hx rfl (hb hby at_154) ?_
      show Sp p e below s₁ (mkF m 155 (lt12 s0 s1 s2 s3 s4 p5 al6 al7 al8 al9 al10 al11 al12 al13 al14 al15) [(.int 2), (.int p5)]) _
      refine XS.iand X0.here hx rfl (hb hby at_155) rfl ?_
      show Sp p e below s₁ (mkF m 156 (lt12 s0 s1 s2 s3 s4 p5 al6 al7 al8 al9 al10 al11 al12 al13 al14 al15) [(.int (p5 &&& 2))]) _
      exact kt
    by_cases hc46 : (p5 &&& 2) = (0 : Int32)
    · rw [own_eqT hc46] at hf
      have pre47 : Cm p e below E0 (s₁.setTop (mkF m 166 (lt13 s0 s1 s2 s3 s4 p5 al6 al7 al8 al9 al10 al11 al12 al13 al14 al15 0) [])) := fun t kt => by
        refine pre45 t ?_
        show Sp p e below s₁ (mkF m 156 (lt12 s0 s1 s2 s3 s4 p5 al6 al7 al8 al9 al10 al11 al12 al13 al14 al15) [(.int (p5 &&& 2))]) _
        refine XS.ifYes X0.here hx rfl (pc0 := 156) (pc' := 163) rfl (hb hby at_156) rfl ((if0 _ _).trans (teq hc46).1) (by decide) (by decide) ?_
        show Sp p e below s₁ (mkF m 163 (lt12 s0 s1 s2 s3 s4 p5 al6 al7 al8 al9 al10 al11 al12 al13 al14 al15) []) _
        refine XS.iconst X0.here hx rfl (hb hby at_163) ?_
        refine XS.istore X0.here hx rfl (hb hby at_164) rfl (l' := (lt13 s0 s1 s2 s3 s4 p5 al6 al7 al8 al9 al10 al11 al12 al13 al14 al15 0)) rfl ?_
        show Sp p e below s₁ (mkF m 166 (lt13 s0 s1 s2 s3 s4 p5 al6 al7 al8 al9 al10 al11 al12 al13 al14 al15 0) []) _
        exact kt
      exact j166 al6 al7 al8 al9 al10 al11 al12 al13 al14 al15 (0 : Int32) s0 s1 s2 s3 s4 u0 u1 u2 u3 u4 hf pre47
    · rw [own_eqF hc46] at hf
      have pre48 : Cm p e below E0 (s₁.setTop (mkF m 166 (lt13 s0 s1 s2 s3 s4 p5 al6 al7 al8 al9 al10 al11 al12 al13 al14 al15 1) [])) := fun t kt => by
        refine pre45 t ?_
        show Sp p e below s₁ (mkF m 156 (lt12 s0 s1 s2 s3 s4 p5 al6 al7 al8 al9 al10 al11 al12 al13 al14 al15) [(.int (p5 &&& 2))]) _
        refine XS.ifNo X0.here hx rfl (hb hby at_156) rfl ((if0 _ _).trans (feq hc46).1) ?_
        show Sp p e below s₁ (mkF m 159 (lt12 s0 s1 s2 s3 s4 p5 al6 al7 al8 al9 al10 al11 al12 al13 al14 al15) []) _
        refine XS.iconst X0.here hx rfl (hb hby at_159) ?_
        show Sp p e below s₁ (mkF m 160 (lt12 s0 s1 s2 s3 s4 p5 al6 al7 al8 al9 al10 al11 al12 al13 al14 al15) [(.int 1)]) _
        refine XS.goto X0.here hx rfl (pc0 := 160) (pc' := 164) rfl (hb hby at_160) (by decide) (by decide) ?_
        show Sp p e below s₁ (mkF m 164 (lt12 s0 s1 s2 s3 s4 p5 al6 al7 al8 al9 al10 al11 al12 al13 al14 al15) [(.int 1)]) _
        refine XS.istore X0.here hx rfl (hb hby at_164) rfl (l' := (lt13 s0 s1 s2 s3 s4 p5 al6 al7 al8 al9 al10 al11 al12 al13 al14 al15 1)) rfl ?_
        show Sp p e below s₁ (mkF m 166 (lt13 s0 s1 s2 s3 s4 p5 al6 al7 al8 al9 al10 al11 al12 al13 al14 al15 1) []) _
        exact kt
      exact j166 al6 al7 al8 al9 al10 al11 al12 al13 al14 al15 (1 : Int32) s0 s1 s2 s3 s4 u0 u1 u2 u3 u4 hf pre48
  have pre1 : Cm p e below E0 (s₁.setTop (mkF m 10 (lt2 p0 p1 p2 p3 p4 p5 ((5 : Int32) + (((p5.toUInt32 >>> ((3 : Int32) &&& 31).toUInt32).toInt32) &&& 1))) [])) := fun t kt => by
    refine pre0 t ?_
    show Sp p e below s₁ (mkF m 0 (lt1 p0 p1 p2 p3 p4 p5) []) _
    refine XS.iconst X0.here hx rfl (hb hby at_0) ?_
    refine XS.iload X0.here hx rfl (hb hby at_1) rfl ?_
    show Sp p e below s₁ (mkF m 3 (lt1 p0 p1 p2 p3 p4 p5) [(.int p5), (.int 5)]) _
    refine XS.iconst X0.here hx rfl (hb hby at_3) ?_
    refine XS.iushr X0.here hx rfl (hb hby at_4) rfl ?_
    show Sp p e below s₁ (mkF m 5 (lt1 p0 p1 p2 p3 p4 p5) [(.int ((p5.toUInt32 >>> ((3 : Int32) &&& 31).toUInt32).toInt32)), (.int 5)]) _
    refine XS.iconst X0.here hx rfl (hb hby at_5) ?_
    refine XS.iand X0.here hx rfl (hb hby at_6) rfl ?_
    show Sp p e below s₁ (mkF m 7 (lt1 p0 p1 p2 p3 p4 p5) [(.int (((p5.toUInt32 >>> ((3 : Int32) &&& 31).toUInt32).toInt32) &&& 1)), (.int 5)]) _
    refine XS.iadd X0.here hx rfl (hb hby at_7) rfl ?_
    refine XS.istore X0.here hx rfl (hb hby at_8) rfl (l' := (lt2 p0 p1 p2 p3 p4 p5 ((5 : Int32) + (((p5.toUInt32 >>> ((3 : Int32) &&& 31).toUInt32).toInt32) &&& 1)))) rfl ?_
    show Sp p e below s₁ (mkF m 10 (lt2 p0 p1 p2 p3 p4 p5 ((5 : Int32) + (((p5.toUInt32 >>> ((3 : Int32) &&& 31).toUInt32).toInt32) &&& 1))) []) _
    exact kt
  obtain ⟨v2, d_v2, hf3⟩ := own_nai hf
  clear hf
  have pre4 : Cm p e below E0 (s₁.setTop (mkF m 10 (lt2 p0 p1 p2 p3 p4 p5 v2) [])) := fun t kt => pre1 t (by rw [← d_v2]; exact kt)
  clear d_v2 pre1
  obtain ⟨g5, hf6⟩ := own_gd hf3
  clear hf3
  have pre7 : Cm p e below E0 (s₁.setTop (mkF m 19 (lt3 p0 p1 p2 p3 p4 p5 v2 ((p0 &&& 2147483647) % v2)) [])) := fun t kt => by
    refine pre4 t ?_
    show Sp p e below s₁ (mkF m 10 (lt2 p0 p1 p2 p3 p4 p5 v2) []) _
    refine XS.iloadN X0.here hx rfl (hb hby at_10) rfl ?_
    show Sp p e below s₁ (mkF m 11 (lt2 p0 p1 p2 p3 p4 p5 v2) [(.int p0)]) _
    refine X0.ldcInt hx hown (mvT hZ (hw _ (tk 0 rfl))) (g := (mkF m 11 (lt2 p0 p1 p2 p3 p4 p5 v2) [(.int p0)])) rfl (hb hby at_11) _ ?_
    show Sp p e below s₁ (mkF m 13 (lt2 p0 p1 p2 p3 p4 p5 v2) [(.int 2147483647), (.int p0)]) _
    refine XS.iand X0.here hx rfl (hb hby at_13) rfl ?_
    refine XS.iload X0.here hx rfl (hb hby at_14) rfl ?_
    show Sp p e below s₁ (mkF m 16 (lt2 p0 p1 p2 p3 p4 p5 v2) [(.int v2), (.int (p0 &&& 2147483647))]) _
    refine iremM X0 hx rfl (hb hby at_16) rfl (own_nz g5) ?_
    show Sp p e below s₁ (mkF m 17 (lt2 p0 p1 p2 p3 p4 p5 v2) [(.int ((p0 &&& 2147483647) % v2))]) _
    refine XS.istore X0.here hx rfl (hb hby at_17) rfl (l' := (lt3 p0 p1 p2 p3 p4 p5 v2 ((p0 &&& 2147483647) % v2))) rfl ?_
    show Sp p e below s₁ (mkF m 19 (lt3 p0 p1 p2 p3 p4 p5 v2 ((p0 &&& 2147483647) % v2)) []) _
    exact kt
  obtain ⟨v8, d_v8, hf9⟩ := own_nai hf6
  clear hf6
  have pre10 : Cm p e below E0 (s₁.setTop (mkF m 19 (lt3 p0 p1 p2 p3 p4 p5 v2 v8) [])) := fun t kt => pre7 t (by rw [← d_v8]; exact kt)
  clear d_v8 pre7
  obtain ⟨g11, hf12⟩ := own_gd hf9
  clear hf9
  have pre13 : Cm p e below E0 (s₁.setTop (mkF m 38 (lt4 p0 p1 p2 p3 p4 p5 v2 v8 (((v8 + 1) + ((p1 &&& 2147483647) % (v2 - 1))) % v2)) [])) := fun t kt => by
    refine pre10 t ?_
    show Sp p e below s₁ (mkF m 19 (lt3 p0 p1 p2 p3 p4 p5 v2 v8) []) _
    refine XS.iload X0.here hx rfl (hb hby at_19) rfl ?_
    refine XS.iconst X0.here hx rfl (hb hby at_21) ?_
    show Sp p e below s₁ (mkF m 22 (lt3 p0 p1 p2 p3 p4 p5 v2 v8) [(.int 1), (.int v8)]) _
    refine XS.iadd X0.here hx rfl (hb hby at_22) rfl ?_
    refine XS.iloadN X0.here hx rfl (hb hby at_23) rfl ?_
    show Sp p e below s₁ (mkF m 24 (lt3 p0 p1 p2 p3 p4 p5 v2 v8) [(.int p1), (.int (v8 + 1))]) _
    refine X0.ldcInt hx hown (mvT hZ (hw _ (tk 0 rfl))) (g := (mkF m 24 (lt3 p0 p1 p2 p3 p4 p5 v2 v8) [(.int p1), (.int (v8 + 1))])) rfl (hb hby at_24) _ ?_
    show Sp p e below s₁ (mkF m 26 (lt3 p0 p1 p2 p3 p4 p5 v2 v8) [(.int 2147483647), (.int p1), (.int (v8 + 1))]) _
    refine XS.iand X0.here hx rfl (hb hby at_26) rfl ?_
    refine XS.iload X0.here hx rfl (hb hby at_27) rfl ?_
    show Sp p e below s₁ (mkF m 29 (lt3 p0 p1 p2 p3 p4 p5 v2 v8) [(.int v2), (.int (p1 &&& 2147483647)), (.int (v8 + 1))]) _
    refine XS.iconst X0.here hx rfl (hb hby at_29) ?_
    refine XS.isub X0.here hx rfl (hb hby at_30) rfl ?_
    show Sp p e below s₁ (mkF m 31 (lt3 p0 p1 p2 p3 p4 p5 v2 v8) [(.int (v2 - 1)), (.int (p1 &&& 2147483647)), (.int (v8 + 1))]) _
    refine iremM X0 hx rfl (hb hby at_31) rfl (own_nz g11) ?_
    show Sp p e below s₁ (mkF m 32 (lt3 p0 p1 p2 p3 p4 p5 v2 v8) [(.int ((p1 &&& 2147483647) % (v2 - 1))), (.int (v8 + 1))]) _
    refine XS.iadd X0.here hx rfl (hb hby at_32) rfl ?_
    refine XS.iload X0.here hx rfl (hb hby at_33) rfl ?_
    show Sp p e below s₁ (mkF m 35 (lt3 p0 p1 p2 p3 p4 p5 v2 v8) [(.int v2), (.int ((v8 + 1) + ((p1 &&& 2147483647) % (v2 - 1))))]) _
    refine iremM X0 hx rfl (hb hby at_35) rfl (own_nz g5) ?_
    show Sp p e below s₁ (mkF m 36 (lt3 p0 p1 p2 p3 p4 p5 v2 v8) [(.int (((v8 + 1) + ((p1 &&& 2147483647) % (v2 - 1))) % v2))]) _
    refine XS.istore X0.here hx rfl (hb hby at_36) rfl (l' := (lt4 p0 p1 p2 p3 p4 p5 v2 v8 (((v8 + 1) + ((p1 &&& 2147483647) % (v2 - 1))) % v2))) rfl ?_
    show Sp p e below s₁ (mkF m 38 (lt4 p0 p1 p2 p3 p4 p5 v2 v8 (((v8 + 1) + ((p1 &&& 2147483647) % (v2 - 1))) % v2)) []) _
    exact kt
  obtain ⟨v14, d_v14, hf15⟩ := own_nai hf12
  clear hf12
  have pre16 : Cm p e below E0 (s₁.setTop (mkF m 38 (lt4 p0 p1 p2 p3 p4 p5 v2 v8 v14) [])) := fun t kt => pre13 t (by rw [← d_v14]; exact kt)
  clear d_v14 pre13
  have pre17 : Cm p e below E0 (s₁.setTop (mkF m 47 (lt5 p0 p1 p2 p3 p4 p5 v2 v8 v14 ((p2 &&& 2147483647) % v2)) [])) := fun t kt => by
    refine pre16 t ?_
    show Sp p e below s₁ (mkF m 38 (lt4 p0 p1 p2 p3 p4 p5 v2 v8 v14) []) _
    refine XS.iloadN X0.here hx rfl (hb hby at_38) rfl ?_
    show Sp p e below s₁ (mkF m 39 (lt4 p0 p1 p2 p3 p4 p5 v2 v8 v14) [(.int p2)]) _
    refine X0.ldcInt hx hown (mvT hZ (hw _ (tk 0 rfl))) (g := (mkF m 39 (lt4 p0 p1 p2 p3 p4 p5 v2 v8 v14) [(.int p2)])) rfl (hb hby at_39) _ ?_
    show Sp p e below s₁ (mkF m 41 (lt4 p0 p1 p2 p3 p4 p5 v2 v8 v14) [(.int 2147483647), (.int p2)]) _
    refine XS.iand X0.here hx rfl (hb hby at_41) rfl ?_
    refine XS.iload X0.here hx rfl (hb hby at_42) rfl ?_
    show Sp p e below s₁ (mkF m 44 (lt4 p0 p1 p2 p3 p4 p5 v2 v8 v14) [(.int v2), (.int (p2 &&& 2147483647))]) _
    refine iremM X0 hx rfl (hb hby at_44) rfl (own_nz g5) ?_
    show Sp p e below s₁ (mkF m 45 (lt4 p0 p1 p2 p3 p4 p5 v2 v8 v14) [(.int ((p2 &&& 2147483647) % v2))]) _
    refine XS.istore X0.here hx rfl (hb hby at_45) rfl (l' := (lt5 p0 p1 p2 p3 p4 p5 v2 v8 v14 ((p2 &&& 2147483647) % v2))) rfl ?_
    show Sp p e below s₁ (mkF m 47 (lt5 p0 p1 p2 p3 p4 p5 v2 v8 v14 ((p2 &&& 2147483647) % v2)) []) _
    exact kt
  obtain ⟨v18, d_v18, hf19⟩ := own_nai hf15
  clear hf15
  have pre20 : Cm p e below E0 (s₁.setTop (mkF m 47 (lt5 p0 p1 p2 p3 p4 p5 v2 v8 v14 v18) [])) := fun t kt => pre17 t (by rw [← d_v18]; exact kt)
  clear d_v18 pre17
  have pre21 : Cm p e below E0 (s₁.setTop (mkF m 66 (lt6 p0 p1 p2 p3 p4 p5 v2 v8 v14 v18 (((v18 + 1) + ((p3 &&& 2147483647) % (v2 - 1))) % v2)) [])) := fun t kt => by
    refine pre20 t ?_
    show Sp p e below s₁ (mkF m 47 (lt5 p0 p1 p2 p3 p4 p5 v2 v8 v14 v18) []) _
    refine XS.iload X0.here hx rfl (hb hby at_47) rfl ?_
    refine XS.iconst X0.here hx rfl (hb hby at_49) ?_
    show Sp p e below s₁ (mkF m 50 (lt5 p0 p1 p2 p3 p4 p5 v2 v8 v14 v18) [(.int 1), (.int v18)]) _
    refine XS.iadd X0.here hx rfl (hb hby at_50) rfl ?_
    refine XS.iloadN X0.here hx rfl (hb hby at_51) rfl ?_
    show Sp p e below s₁ (mkF m 52 (lt5 p0 p1 p2 p3 p4 p5 v2 v8 v14 v18) [(.int p3), (.int (v18 + 1))]) _
    refine X0.ldcInt hx hown (mvT hZ (hw _ (tk 0 rfl))) (g := (mkF m 52 (lt5 p0 p1 p2 p3 p4 p5 v2 v8 v14 v18) [(.int p3), (.int (v18 + 1))])) rfl (hb hby at_52) _ ?_
    show Sp p e below s₁ (mkF m 54 (lt5 p0 p1 p2 p3 p4 p5 v2 v8 v14 v18) [(.int 2147483647), (.int p3), (.int (v18 + 1))]) _
    refine XS.iand X0.here hx rfl (hb hby at_54) rfl ?_
    refine XS.iload X0.here hx rfl (hb hby at_55) rfl ?_
    show Sp p e below s₁ (mkF m 57 (lt5 p0 p1 p2 p3 p4 p5 v2 v8 v14 v18) [(.int v2), (.int (p3 &&& 2147483647)), (.int (v18 + 1))]) _
    refine XS.iconst X0.here hx rfl (hb hby at_57) ?_
    refine XS.isub X0.here hx rfl (hb hby at_58) rfl ?_
    show Sp p e below s₁ (mkF m 59 (lt5 p0 p1 p2 p3 p4 p5 v2 v8 v14 v18) [(.int (v2 - 1)), (.int (p3 &&& 2147483647)), (.int (v18 + 1))]) _
    refine iremM X0 hx rfl (hb hby at_59) rfl (own_nz g11) ?_
    show Sp p e below s₁ (mkF m 60 (lt5 p0 p1 p2 p3 p4 p5 v2 v8 v14 v18) [(.int ((p3 &&& 2147483647) % (v2 - 1))), (.int (v18 + 1))]) _
    refine XS.iadd X0.here hx rfl (hb hby at_60) rfl ?_
    refine XS.iload X0.here hx rfl (hb hby at_61) rfl ?_
    show Sp p e below s₁ (mkF m 63 (lt5 p0 p1 p2 p3 p4 p5 v2 v8 v14 v18) [(.int v2), (.int ((v18 + 1) + ((p3 &&& 2147483647) % (v2 - 1))))]) _
    refine iremM X0 hx rfl (hb hby at_63) rfl (own_nz g5) ?_
    show Sp p e below s₁ (mkF m 64 (lt5 p0 p1 p2 p3 p4 p5 v2 v8 v14 v18) [(.int (((v18 + 1) + ((p3 &&& 2147483647) % (v2 - 1))) % v2))]) _
    refine XS.istore X0.here hx rfl (hb hby at_64) rfl (l' := (lt6 p0 p1 p2 p3 p4 p5 v2 v8 v14 v18 (((v18 + 1) + ((p3 &&& 2147483647) % (v2 - 1))) % v2))) rfl ?_
    show Sp p e below s₁ (mkF m 66 (lt6 p0 p1 p2 p3 p4 p5 v2 v8 v14 v18 (((v18 + 1) + ((p3 &&& 2147483647) % (v2 - 1))) % v2)) []) _
    exact kt
  obtain ⟨v22, d_v22, hf23⟩ := own_nai hf19
  clear hf19
  have pre24 : Cm p e below E0 (s₁.setTop (mkF m 66 (lt6 p0 p1 p2 p3 p4 p5 v2 v8 v14 v18 v22) [])) := fun t kt => pre21 t (by rw [← d_v22]; exact kt)
  clear d_v22 pre21
  have pre25 : Cm p e below E0 (s₁.setTop (mkF m 77 (lt7 p0 p1 p2 p3 p4 p5 v2 v8 v14 v18 v22 ((p4 &&& 32767) % v2)) [])) := fun t kt => by
    refine pre24 t ?_
    show Sp p e below s₁ (mkF m 66 (lt6 p0 p1 p2 p3 p4 p5 v2 v8 v14 v18 v22) []) _
    refine XS.iload X0.here hx rfl (hb hby at_66) rfl ?_
    refine XS.sipush X0.here hx rfl (hb hby at_68) ?_
    show Sp p e below s₁ (mkF m 71 (lt6 p0 p1 p2 p3 p4 p5 v2 v8 v14 v18 v22) [(.int 32767), (.int p4)]) _
    refine XS.iand X0.here hx rfl (hb hby at_71) rfl ?_
    refine XS.iload X0.here hx rfl (hb hby at_72) rfl ?_
    show Sp p e below s₁ (mkF m 74 (lt6 p0 p1 p2 p3 p4 p5 v2 v8 v14 v18 v22) [(.int v2), (.int (p4 &&& 32767))]) _
    refine iremM X0 hx rfl (hb hby at_74) rfl (own_nz g5) ?_
    show Sp p e below s₁ (mkF m 75 (lt6 p0 p1 p2 p3 p4 p5 v2 v8 v14 v18 v22) [(.int ((p4 &&& 32767) % v2))]) _
    refine XS.istore X0.here hx rfl (hb hby at_75) rfl (l' := (lt7 p0 p1 p2 p3 p4 p5 v2 v8 v14 v18 v22 ((p4 &&& 32767) % v2))) rfl ?_
    show Sp p e below s₁ (mkF m 77 (lt7 p0 p1 p2 p3 p4 p5 v2 v8 v14 v18 v22 ((p4 &&& 32767) % v2)) []) _
    exact kt
  obtain ⟨v26, d_v26, hf27⟩ := own_nai hf23
  clear hf23
  have pre28 : Cm p e below E0 (s₁.setTop (mkF m 77 (lt7 p0 p1 p2 p3 p4 p5 v2 v8 v14 v18 v22 v26) [])) := fun t kt => pre25 t (by rw [← d_v26]; exact kt)
  clear d_v26 pre25
  have pre29 : Cm p e below E0 (s₁.setTop (mkF m 101 (lt8 p0 p1 p2 p3 p4 p5 v2 v8 v14 v18 v22 v26 (((v26 + 1) + ((((p4.toUInt32 >>> ((16 : Int32) &&& 31).toUInt32).toInt32) &&& 32767) % (v2 - 1))) % v2)) [])) := fun t kt => by
    refine pre28 t ?_
    show Sp p e below s₁ (mkF m 77 (lt7 p0 p1 p2 p3 p4 p5 v2 v8 v14 v18 v22 v26) []) _
    refine XS.iload X0.here hx rfl (hb hby at_77) rfl ?_
    refine XS.iconst X0.here hx rfl (hb hby at_79) ?_
    show Sp p e below s₁ (mkF m 80 (lt7 p0 p1 p2 p3 p4 p5 v2 v8 v14 v18 v22 v26) [(.int 1), (.int v26)]) _
    refine XS.iadd X0.here hx rfl (hb hby at_80) rfl ?_
    refine XS.iload X0.here hx rfl (hb hby at_81) rfl ?_
    show Sp p e below s₁ (mkF m 83 (lt7 p0 p1 p2 p3 p4 p5 v2 v8 v14 v18 v22 v26) [(.int p4), (.int (v26 + 1))]) _
    refine XS.bipush X0.here hx rfl (hb hby at_83) ?_
    refine XS.iushr X0.here hx rfl (hb hby at_85) rfl ?_
    show Sp p e below s₁ (mkF m 86 (lt7 p0 p1 p2 p3 p4 p5 v2 v8 v14 v18 v22 v26) [(.int ((p4.toUInt32 >>> ((16 : Int32) &&& 31).toUInt32).toInt32)), (.int (v26 + 1))]) _
    refine XS.sipush X0.here hx rfl (hb hby at_86) ?_
    refine XS.iand X0.here hx rfl (hb hby at_89) rfl ?_
    show Sp p e below s₁ (mkF m 90 (lt7 p0 p1 p2 p3 p4 p5 v2 v8 v14 v18 v22 v26) [(.int (((p4.toUInt32 >>> ((16 : Int32) &&& 31).toUInt32).toInt32) &&& 32767)), (.int (v26 + 1))]) _
    refine XS.iload X0.here hx rfl (hb hby at_90) rfl ?_
    refine XS.iconst X0.here hx rfl (hb hby at_92) ?_
    show Sp p e below s₁ (mkF m 93 (lt7 p0 p1 p2 p3 p4 p5 v2 v8 v14 v18 v22 v26) [(.int 1), (.int v2), (.int (((p4.toUInt32 >>> ((16 : Int32) &&& 31).toUInt32).toInt32) &&& 32767)), (.int (v26 + 1))]) _
    refine XS.isub X0.here hx rfl (hb hby at_93) rfl ?_
    show Sp p e below s₁ (mkF m 94 (lt7 p0 p1 p2 p3 p4 p5 v2 v8 v14 v18 v22 v26) [(.int (v2 - 1)), (.int (((p4.toUInt32 >>> ((16 : Int32) &&& 31).toUInt32).toInt32) &&& 32767)), (.int (v26 + 1))]) _
    refine iremM X0 hx rfl (hb hby at_94) rfl (own_nz g11) ?_
    show Sp p e below s₁ (mkF m 95 (lt7 p0 p1 p2 p3 p4 p5 v2 v8 v14 v18 v22 v26) [(.int ((((p4.toUInt32 >>> ((16 : Int32) &&& 31).toUInt32).toInt32) &&& 32767) % (v2 - 1))), (.int (v26 + 1))]) _
    refine XS.iadd X0.here hx rfl (hb hby at_95) rfl ?_
    refine XS.iload X0.here hx rfl (hb hby at_96) rfl ?_
    show Sp p e below s₁ (mkF m 98 (lt7 p0 p1 p2 p3 p4 p5 v2 v8 v14 v18 v22 v26) [(.int v2), (.int ((v26 + 1) + ((((p4.toUInt32 >>> ((16 : Int32) &&& 31).toUInt32).toInt32) &&& 32767) % (v2 - 1))))]) _
    refine iremM X0 hx rfl (hb hby at_98) rfl (own_nz g5) ?_
    show Sp p e below s₁ (mkF m 99 (lt7 p0 p1 p2 p3 p4 p5 v2 v8 v14 v18 v22 v26) [(.int (((v26 + 1) + ((((p4.toUInt32 >>> ((16 : Int32) &&& 31).toUInt32).toInt32) &&& 32767) % (v2 - 1))) % v2))]) _
    refine XS.istore X0.here hx rfl (hb hby at_99) rfl (l' := (lt8 p0 p1 p2 p3 p4 p5 v2 v8 v14 v18 v22 v26 (((v26 + 1) + ((((p4.toUInt32 >>> ((16 : Int32) &&& 31).toUInt32).toInt32) &&& 32767) % (v2 - 1))) % v2))) rfl ?_
    show Sp p e below s₁ (mkF m 101 (lt8 p0 p1 p2 p3 p4 p5 v2 v8 v14 v18 v22 v26 (((v26 + 1) + ((((p4.toUInt32 >>> ((16 : Int32) &&& 31).toUInt32).toInt32) &&& 32767) % (v2 - 1))) % v2)) []) _
    exact kt
  obtain ⟨v30, d_v30, hf31⟩ := own_nai hf27
  clear hf27
  have pre32 : Cm p e below E0 (s₁.setTop (mkF m 101 (lt8 p0 p1 p2 p3 p4 p5 v2 v8 v14 v18 v22 v26 v30) [])) := fun t kt => pre29 t (by rw [← d_v30]; exact kt)
  clear d_v30 pre29
  have pre33 : Cm p e below E0 (s₁.setTop (mkF m 114 (lt9 p0 p1 p2 p3 p4 p5 v2 v8 v14 v18 v22 v26 v30 ((((p5.toUInt32 >>> ((4 : Int32) &&& 31).toUInt32).toInt32) &&& 255) % v2)) [])) := fun t kt => by
    refine pre32 t ?_
    show Sp p e below s₁ (mkF m 101 (lt8 p0 p1 p2 p3 p4 p5 v2 v8 v14 v18 v22 v26 v30) []) _
    refine XS.iload X0.here hx rfl (hb hby at_101) rfl ?_
    refine XS.iconst X0.here hx rfl (hb hby at_103) ?_
    show Sp p e below s₁ (mkF m 104 (lt8 p0 p1 p2 p3 p4 p5 v2 v8 v14 v18 v22 v26 v30) [(.int 4), (.int p5)]) _
    refine XS.iushr X0.here hx rfl (hb hby at_104) rfl ?_
    refine XS.sipush X0.here hx rfl (hb hby at_105) ?_
    show Sp p e below s₁ (mkF m 108 (lt8 p0 p1 p2 p3 p4 p5 v2 v8 v14 v18 v22 v26 v30) [(.int 255), (.int ((p5.toUInt32 >>> ((4 : Int32) &&& 31).toUInt32).toInt32))]) _
    refine XS.iand X0.here hx rfl (hb hby at_108) rfl ?_
    refine XS.iload X0.here hx rfl (hb hby at_109) rfl ?_
    show Sp p e below s₁ (mkF m 111 (lt8 p0 p1 p2 p3 p4 p5 v2 v8 v14 v18 v22 v26 v30) [(.int v2), (.int (((p5.toUInt32 >>> ((4 : Int32) &&& 31).toUInt32).toInt32) &&& 255))]) _
    refine iremM X0 hx rfl (hb hby at_111) rfl (own_nz g5) ?_
    show Sp p e below s₁ (mkF m 112 (lt8 p0 p1 p2 p3 p4 p5 v2 v8 v14 v18 v22 v26 v30) [(.int ((((p5.toUInt32 >>> ((4 : Int32) &&& 31).toUInt32).toInt32) &&& 255) % v2))]) _
    refine XS.istore X0.here hx rfl (hb hby at_112) rfl (l' := (lt9 p0 p1 p2 p3 p4 p5 v2 v8 v14 v18 v22 v26 v30 ((((p5.toUInt32 >>> ((4 : Int32) &&& 31).toUInt32).toInt32) &&& 255) % v2))) rfl ?_
    show Sp p e below s₁ (mkF m 114 (lt9 p0 p1 p2 p3 p4 p5 v2 v8 v14 v18 v22 v26 v30 ((((p5.toUInt32 >>> ((4 : Int32) &&& 31).toUInt32).toInt32) &&& 255) % v2)) []) _
    exact kt
  obtain ⟨v34, d_v34, hf35⟩ := own_nai hf31
  clear hf31
  have pre36 : Cm p e below E0 (s₁.setTop (mkF m 114 (lt9 p0 p1 p2 p3 p4 p5 v2 v8 v14 v18 v22 v26 v30 v34) [])) := fun t kt => pre33 t (by rw [← d_v34]; exact kt)
  clear d_v34 pre33
  have pre37 : Cm p e below E0 (s₁.setTop (mkF m 138 (lt10 p0 p1 p2 p3 p4 p5 v2 v8 v14 v18 v22 v26 v30 v34 (((v34 + 1) + ((((p5.toUInt32 >>> ((12 : Int32) &&& 31).toUInt32).toInt32) &&& 255) % (v2 - 1))) % v2)) [])) := fun t kt => by
    refine pre36 t ?_
    show Sp p e below s₁ (mkF m 114 (lt9 p0 p1 p2 p3 p4 p5 v2 v8 v14 v18 v22 v26 v30 v34) []) _
    refine XS.iload X0.here hx rfl (hb hby at_114) rfl ?_
    refine XS.iconst X0.here hx rfl (hb hby at_116) ?_
    show Sp p e below s₁ (mkF m 117 (lt9 p0 p1 p2 p3 p4 p5 v2 v8 v14 v18 v22 v26 v30 v34) [(.int 1), (.int v34)]) _
    refine XS.iadd X0.here hx rfl (hb hby at_117) rfl ?_
    refine XS.iload X0.here hx rfl (hb hby at_118) rfl ?_
    show Sp p e below s₁ (mkF m 120 (lt9 p0 p1 p2 p3 p4 p5 v2 v8 v14 v18 v22 v26 v30 v34) [(.int p5), (.int (v34 + 1))]) _
    refine XS.bipush X0.here hx rfl (hb hby at_120) ?_
    refine XS.iushr X0.here hx rfl (hb hby at_122) rfl ?_
    show Sp p e below s₁ (mkF m 123 (lt9 p0 p1 p2 p3 p4 p5 v2 v8 v14 v18 v22 v26 v30 v34) [(.int ((p5.toUInt32 >>> ((12 : Int32) &&& 31).toUInt32).toInt32)), (.int (v34 + 1))]) _
    refine XS.sipush X0.here hx rfl (hb hby at_123) ?_
    refine XS.iand X0.here hx rfl (hb hby at_126) rfl ?_
    show Sp p e below s₁ (mkF m 127 (lt9 p0 p1 p2 p3 p4 p5 v2 v8 v14 v18 v22 v26 v30 v34) [(.int (((p5.toUInt32 >>> ((12 : Int32) &&& 31).toUInt32).toInt32) &&& 255)), (.int (v34 + 1))]) _
    refine XS.iload X0.here hx rfl (hb hby at_127) rfl ?_
    refine XS.iconst X0.here hx rfl (hb hby at_129) ?_
    show Sp p e below s₁ (mkF m 130 (lt9 p0 p1 p2 p3 p4 p5 v2 v8 v14 v18 v22 v26 v30 v34) [(.int 1), (.int v2), (.int (((p5.toUInt32 >>> ((12 : Int32) &&& 31).toUInt32).toInt32) &&& 255)), (.int (v34 + 1))]) _
    refine XS.isub X0.here hx rfl (hb hby at_130) rfl ?_
    show Sp p e below s₁ (mkF m 131 (lt9 p0 p1 p2 p3 p4 p5 v2 v8 v14 v18 v22 v26 v30 v34) [(.int (v2 - 1)), (.int (((p5.toUInt32 >>> ((12 : Int32) &&& 31).toUInt32).toInt32) &&& 255)), (.int (v34 + 1))]) _
    refine iremM X0 hx rfl (hb hby at_131) rfl (own_nz g11) ?_
    show Sp p e below s₁ (mkF m 132 (lt9 p0 p1 p2 p3 p4 p5 v2 v8 v14 v18 v22 v26 v30 v34) [(.int ((((p5.toUInt32 >>> ((12 : Int32) &&& 31).toUInt32).toInt32) &&& 255) % (v2 - 1))), (.int (v34 + 1))]) _
    refine XS.iadd X0.here hx rfl (hb hby at_132) rfl ?_
    refine XS.iload X0.here hx rfl (hb hby at_133) rfl ?_
    show Sp p e below s₁ (mkF m 135 (lt9 p0 p1 p2 p3 p4 p5 v2 v8 v14 v18 v22 v26 v30 v34) [(.int v2), (.int ((v34 + 1) + ((((p5.toUInt32 >>> ((12 : Int32) &&& 31).toUInt32).toInt32) &&& 255) % (v2 - 1))))]) _
    refine iremM X0 hx rfl (hb hby at_135) rfl (own_nz g5) ?_
    show Sp p e below s₁ (mkF m 136 (lt9 p0 p1 p2 p3 p4 p5 v2 v8 v14 v18 v22 v26 v30 v34) [(.int (((v34 + 1) + ((((p5.toUInt32 >>> ((12 : Int32) &&& 31).toUInt32).toInt32) &&& 255) % (v2 - 1))) % v2))]) _
    refine XS.istore X0.here hx rfl (hb hby at_136) rfl (l' := (lt10 p0 p1 p2 p3 p4 p5 v2 v8 v14 v18 v22 v26 v30 v34 (((v34 + 1) + ((((p5.toUInt32 >>> ((12 : Int32) &&& 31).toUInt32).toInt32) &&& 255) % (v2 - 1))) % v2))) rfl ?_
    show Sp p e below s₁ (mkF m 138 (lt10 p0 p1 p2 p3 p4 p5 v2 v8 v14 v18 v22 v26 v30 v34 (((v34 + 1) + ((((p5.toUInt32 >>> ((12 : Int32) &&& 31).toUInt32).toInt32) &&& 255) % (v2 - 1))) % v2)) []) _
    exact kt
  obtain ⟨v38, d_v38, hf39⟩ := own_nai hf35
  clear hf35
  have pre40 : Cm p e below E0 (s₁.setTop (mkF m 138 (lt10 p0 p1 p2 p3 p4 p5 v2 v8 v14 v18 v22 v26 v30 v34 v38) [])) := fun t kt => pre37 t (by rw [← d_v38]; exact kt)
  clear d_v38 pre37
  have pre41 : Cm p e below E0 (s₁.setTop (mkF m 142 (lt10 p0 p1 p2 p3 p4 p5 v2 v8 v14 v18 v22 v26 v30 v34 v38) [(.int (p5 &&& 1))])) := fun t kt => by
    refine pre40 t ?_
    show Sp p e below s₁ (mkF m 138 (lt10 p0 p1 p2 p3 p4 p5 v2 v8 v14 v18 v22 v26 v30 v34 v38) []) _
    refine XS.iload X0.here hx rfl (hb hby at_138) rfl ?_
    refine XS.iconst X0.here hx rfl (hb hby at_140) ?_
    show Sp p e below s₁ (mkF m 141 (lt10 p0 p1 p2 p3 p4 p5 v2 v8 v14 v18 v22 v26 v30 v34 v38) [(.int 1), (.int p5)]) _
    refine XS.iand X0.here hx rfl (hb hby at_141) rfl ?_
    show Sp p e below s₁ (mkF m 142 (lt10 p0 p1 p2 p3 p4 p5 v2 v8 v14 v18 v22 v26 v30 v34 v38) [(.int (p5 &&& 1))]) _
    exact kt
  by_cases hc42 : (p5 &&& 1) = (0 : Int32)
  · rw [own_eqT hc42] at hf39
    have pre43 : Cm p e below E0 (s₁.setTop (mkF m 152 (lt11 p0 p1 p2 p3 p4 p5 v2 v8 v14 v18 v22 v26 v30 v34 v38 0) [])) := fun t kt => by
      refine pre41 t ?_
      show Sp p e below s₁ (mkF m 142 (lt10 p0 p1 p2 p3 p4 p5 v2 v8 v14 v18 v22 v26 v30 v34 v38) [(.int (p5 &&& 1))]) _
      refine XS.ifYes X0.here hx rfl (pc0 := 142) (pc' := 149) rfl (hb hby at_142) rfl ((if0 _ _).trans (teq hc42).1) (by decide) (by decide) ?_
      show Sp p e below s₁ (mkF m 149 (lt10 p0 p1 p2 p3 p4 p5 v2 v8 v14 v18 v22 v26 v30 v34 v38) []) _
      refine XS.iconst X0.here hx rfl (hb hby at_149) ?_
      refine XS.istore X0.here hx rfl (hb hby at_150) rfl (l' := (lt11 p0 p1 p2 p3 p4 p5 v2 v8 v14 v18 v22 v26 v30 v34 v38 0)) rfl ?_
      show Sp p e below s₁ (mkF m 152 (lt11 p0 p1 p2 p3 p4 p5 v2 v8 v14 v18 v22 v26 v30 v34 v38 0) []) _
      exact kt
    exact j152 v2 v8 v14 v18 v22 v26 v30 v34 v38 (0 : Int32) (.val (.int p0)) (.val (.int p1)) (.val (.int p2)) (.val (.int p3)) (.val (.int p4)) (Or.inr ⟨_, rfl, rfl⟩) (Or.inr ⟨_, rfl, rfl⟩) (Or.inr ⟨_, rfl, rfl⟩) (Or.inr ⟨_, rfl, rfl⟩) (Or.inr ⟨_, rfl, rfl⟩) hf39 pre43
  · rw [own_eqF hc42] at hf39
    have pre44 : Cm p e below E0 (s₁.setTop (mkF m 152 (lt11 p0 p1 p2 p3 p4 p5 v2 v8 v14 v18 v22 v26 v30 v34 v38 1) [])) := fun t kt => by
      refine pre41 t ?_
      show Sp p e below s₁ (mkF m 142 (lt10 p0 p1 p2 p3 p4 p5 v2 v8 v14 v18 v22 v26 v30 v34 v38) [(.int (p5 &&& 1))]) _
      refine XS.ifNo X0.here hx rfl (hb hby at_142) rfl ((if0 _ _).trans (feq hc42).1) ?_
      show Sp p e below s₁ (mkF m 145 (lt10 p0 p1 p2 p3 p4 p5 v2 v8 v14 v18 v22 v26 v30 v34 v38) []) _
      refine XS.iconst X0.here hx rfl (hb hby at_145) ?_
      show Sp p e below s₁ (mkF m 146 (lt10 p0 p1 p2 p3 p4 p5 v2 v8 v14 v18 v22 v26 v30 v34 v38) [(.int 1)]) _
      refine XS.goto X0.here hx rfl (pc0 := 146) (pc' := 150) rfl (hb hby at_146) (by decide) (by decide) ?_
      show Sp p e below s₁ (mkF m 150 (lt10 p0 p1 p2 p3 p4 p5 v2 v8 v14 v18 v22 v26 v30 v34 v38) [(.int 1)]) _
      refine XS.istore X0.here hx rfl (hb hby at_150) rfl (l' := (lt11 p0 p1 p2 p3 p4 p5 v2 v8 v14 v18 v22 v26 v30 v34 v38 1)) rfl ?_
      show Sp p e below s₁ (mkF m 152 (lt11 p0 p1 p2 p3 p4 p5 v2 v8 v14 v18 v22 v26 v30 v34 v38 1) []) _
      exact kt
    exact j152 v2 v8 v14 v18 v22 v26 v30 v34 v38 (1 : Int32) (.val (.int p0)) (.val (.int p1)) (.val (.int p2)) (.val (.int p3)) (.val (.int p4)) (Or.inr ⟨_, rfl, rfl⟩) (Or.inr ⟨_, rfl, rfl⟩) (Or.inr ⟨_, rfl, rfl⟩) (Or.inr ⟨_, rfl, rfl⟩) (Or.inr ⟨_, rfl, rfl⟩) hf39 pre44

set_option maxRecDepth 65536 in
set_option maxHeartbeats 40000000 in
theorem comes_1 {Post : Tables → Env → Array Value → State → Outcome → State → Prop} (hpost : ∀ tb e args s v u, (limb_1_1.after args s (.returned v) u = true ∧ limb_1_2.after args s (.returned v) u = true ∧ True) → FrameEnd s (.returned v) u (Jvm.fieldLocs frame_1_writes args s ++ Jvm.arrayLocs frame_1_arrays args s ++ Jvm.staticLocs frame_1_statics s) 48 512 → Post tb e args s (.returned v) u) :
    ArmFor flags0 classFile x code maxLocals ret World_1 tables_1 room_1 Calls_1 rest_1 Pre_1 Post := by
  intro l hfl _ _ p e ha hc hk s m args below hf hA hF happ hP
  obtain ⟨hcalls, hrest, hpre⟩ := hP
  obtain ⟨-, -, -, hnamed, -, -, -, hat⟩ := (Spec.applies_iff hf).mp happ
  obtain ⟨hg, hn⟩ := and_e (Cond.before_iff.mp (show (Jvm.Cond.and given_1 narrow_1).before args s = true from hpre))
  obtain ⟨g1481, g1482⟩ := and_e hg
  obtain ⟨g1483, g1484⟩ := and_e g1482
  obtain ⟨g1485, g1486⟩ := and_e g1484
  obtain ⟨g1487, g1488⟩ := and_e g1486
  obtain ⟨g1489, g1490⟩ := and_e g1488
  obtain ⟨g1491, g1492⟩ := and_e g1490
  obtain ⟨w0, w1, w2, w3, w4, w5, rfl⟩ : ∃ w0 w1 w2 w3 w4 w5 : Value, args = #[w0, w1, w2, w3, w4, w5] := by
    have hs : args.size = 6 := by simpa [Cond.value, given_1] using g1481
    obtain ⟨L⟩ := args
    match L, hs with
    | [w0, w1, w2, w3, w4, w5], _ => exact ⟨w0, w1, w2, w3, w4, w5, rfl⟩
  have hw := fun d (hd : d ∈ tables_1) => atoms_spec (ws := Jvm.Cond.code x code maxLocals ret :: tables_1) hat d (List.mem_cons_of_mem _ hd)
  have hfit : Fit s := fun {y c} hc i hi => by
    obtain ⟨ha, rfl⟩ := Array.getElem?_eq_some_iff.mp hc
    have q := List.all_eq_true.mp ((Array.all_eq_true_iff_forall_mem.mp hF) _ (Array.getElem_mem ha)) i (List.mem_range.mpr hi)
    simpa [Array.getElem?_eq_getElem hi] using q
  obtain ⟨i0, ei0⟩ := is_v g1483
  obtain rfl : w0 = (.int i0) := Option.some.inj ei0
  obtain ⟨i1, ei1⟩ := is_v g1485
  obtain rfl : w1 = (.int i1) := Option.some.inj ei1
  obtain ⟨i2, ei2⟩ := is_v g1487
  obtain rfl : w2 = (.int i2) := Option.some.inj ei2
  obtain ⟨i3, ei3⟩ := is_v g1489
  obtain rfl : w3 = (.int i3) := Option.some.inj ei3
  obtain ⟨i4, ei4⟩ := is_v g1491
  obtain rfl : w4 = (.int i4) := Option.some.inj ei4
  obtain ⟨i5, ei5⟩ := is_v g1492
  obtain rfl : w5 = (.int i5) := Option.some.inj ei5
  have hS : StF s := trivial
  obtain ⟨n, o, h1, h2, h3, _, L, rfl, ⟨hv, N, -⟩, hq⟩ := rm0 l s _ hw tables_1 hS i0 i1 i2 i3 i4 i5 s.heap s.heap.size (Old.start s) p e ha hc hk s m _ below hf ((Spec.applies_iff_loose hf).mp happ).1 ⟨rfl, State.Warmed39.refl s, rfl⟩ trivial
  subst hv
  refine ⟨n, _, h1, h2, h3, hpost _ _ _ _ _ _ ⟨Cond.after_iff.mpr rfl, Cond.after_iff.mpr (eq_i res_at (Term.int_eval (1)) rfl), trivial⟩ ⟨hq.1, hq.2.1, (hq.2.2.sift fun y hy => Or.inr (N y hy)).mono (by decide) (by decide)⟩⟩
theorem main_1_1 : Claimed_1_1 := comes_1 fun _ _ _ _ _ _ h hF => ⟨h.1, hF⟩
theorem main_1_2 : Claimed_1_2 := comes_1 fun _ _ _ _ _ _ h hF => ⟨h.2.1, hF⟩
end Jvm.Pilot.@@N@@
namespace Jvm.Pilot.@@N@@
open Jvm Jvm.ClassFile Sem Op Lib Jvm.Free Jvm.Stand Jvm.Pilot.@@N@@.Jvm.D
/-! MADE BY PROGRAM (witnessworld.py) out of the Statement's table words and the real class files: 13 classes; the members and pool entries that the words name. The judged class is class 1, her method 1. -/
namespace start1
open Jvm.ClassFile
def u (s : String) : CpInfo := .utf8 (stringToUtf16 s)
/-- a pool by its gaps: so many unusable entries, then the entry; so many at the end -/
def gap : Nat → List CpInfo → List CpInfo
  | 0, r => r
  | n + 1, r => .unusable :: gap n r
def poolList (es : List (Nat × CpInfo)) (last : Nat) : List CpInfo := es.foldr (fun e r => gap e.1 (e.2 :: r)) (gap last [])
def pool (es : List (Nat × CpInfo)) (last : Nat) : Array CpInfo := ⟨poolList es last⟩
def fileOf (pool : Array CpInfo) (this : Nat) (attrs : Array Attribute := #[]) (ms : Array MethodInfo := #[]) (fl : Nat := 33) (sup : Nat := 0) (ifs : Array Nat := #[]) (fds : Array FieldInfo := #[]) : ClassFile where
  minorVersion := 0
  majorVersion := 65
  constantPool := pool
  accessFlags := fl
  thisClass := this
  superClass := sup
  interfaces := ifs
  fields := fds
  methods := ms
  attributes := attrs
def plain (name : String) (sup : Option ClassId) : Class where
  name := name
  kind := .ordinary
  loader := none
  accessFlags := 33
  super := sup
  interfaces := #[]
  cf := none
  fields := #[]
  methods := #[]
  instanceTypes := #[]
  staticTypes := #[]
  resolved := #[]
  callSites := []
  init := .initialized
  statics := none
  mirror := none

def pool0 : Array CpInfo := pool [(5, u "<init>"), (0, u "()V"), (1, .class_ 10), (1, u "java/lang/Object")] 113

def k0c0 : Code := { maxStack := 0, maxLocals := 1, code := object_method_1_code, exceptionTable := #[], attributes := #[] }
def k0m0 : Method := { name := "<init>", desc := "()V", sig := { parameters := [], returnType := none }, accessFlags := 1, code := some k0c0 }
/-- java/lang/Object -/
def k0 : Class := { plain "java/lang/Object" none with
  accessFlags := 33
  interfaces := #[]
  cf := some (fileOf pool0 8 #[] #[{ accessFlags := 1, nameIndex := 5, descriptorIndex := 6, attributes := #[] }] 33 0 #[] #[])
  fields := #[]
  methods := #[k0m0]
  instanceTypes := #[]
  staticTypes := #[]
  resolved := Array.replicate 124 none
  statics := none }

def pool1 : Array CpInfo := pool [(2, .class_ 4), (1, u "java/lang/Object"), (0, u "<init>"), (0, u "()V"), (0, .integer 2147483647), (0, .class_ 9), (0, u "com/example/onetree/onetree/EdgeStates"), (0, .methodref 8 11), (0, .nameAndType 5 12), (0, u "(I)V"), (0, .methodref 8 14), (0, .nameAndType 15 16), (0, u "force"), (0, u "(II)Z"), (0, .methodref 8 18), (0, .nameAndType 19 16), (0, u "remove"), (0, .methodref 8 21), (0, .nameAndType 22 23), (0, u "mark"), (0, u "()I"), (0, .methodref 8 25), (0, .nameAndType 26 12), (0, u "undo"), (0, .methodref 8 28), (0, .nameAndType 29 30), (0, u "state"), (0, u "(II)B"), (0, .methodref 8 32), (0, .nameAndType 33 34), (0, u "openDegree"), (0, u "(I)I"), (0, .methodref 8 36), (0, .nameAndType 37 34), (0, u "forcedDegree"), (0, .methodref 8 39), (0, .nameAndType 40 34), (0, u "otherEnd"), (0, .class_ 42), (0, u "com/example/onetree/onetree/EdgeStatesUndoPinLaw"), (2, u "law"), (0, u "(IIIIII)Z")] 3

def k1m0 : Method := { name := "<init>", desc := "()V", sig := { parameters := [], returnType := none }, accessFlags := 1, code := none }
def k1c1 : Code := { maxStack := 4, maxLocals := 26, code := code, exceptionTable := #[], attributes := #[] }
def k1m1 : Method := { name := "law", desc := "(IIIIII)Z", sig := { parameters := [.int, .int, .int, .int, .int, .int], returnType := some .boolean }, accessFlags := 9, code := some k1c1 }
/-- com/example/onetree/onetree/EdgeStatesUndoPinLaw -/
def k1 : Class := { plain "com/example/onetree/onetree/EdgeStatesUndoPinLaw" (some 0) with
  accessFlags := 49
  interfaces := #[]
  cf := some (fileOf pool1 41 #[] #[{ accessFlags := 1, nameIndex := 5, descriptorIndex := 6, attributes := #[] }, { accessFlags := 9, nameIndex := 45, descriptorIndex := 46, attributes := #[] }] 49 2 #[] #[])
  fields := #[]
  methods := #[k1m0, k1m1]
  instanceTypes := #[]
  staticTypes := #[]
  resolved := Array.replicate 50 none
  statics := none }

def pool2 : Array CpInfo := pool [(5, .methodref 6 7), (0, .class_ 8), (0, .nameAndType 9 10), (0, u "com/example/onetree/onetree/EdgeStates"), (0, u "<init>"), (0, u "(ILcom/example/onetree/onetree/Instance;)V"), (5, u "()I"), (0, .methodref 18 19), (0, .class_ 20), (0, .nameAndType 9 21), (0, u "java/lang/Object"), (0, u "()V"), (0, .fieldref 6 23), (0, .nameAndType 24 25), (0, u "cities"), (0, u "I"), (0, .class_ 27), (0, u "[I"), (2, u "fixedEdges"), (1, .fieldref 6 33), (0, .nameAndType 30 34), (0, u "[[I"), (0, .class_ 36), (0, u "[[B"), (0, .fieldref 6 38), (0, .nameAndType 39 36), (0, u "states"), (0, .fieldref 6 41), (0, .nameAndType 42 27), (0, u "forcedDegree"), (0, .fieldref 6 44), (0, .nameAndType 45 27), (0, u "openDegree"), (0, .methodref 47 48), (0, .class_ 49), (0, .nameAndType 50 51), (0, u "java/util/Arrays"), (0, u "fill"), (0, u "([II)V"), (3, u "(II)Z"), (0, .long 2), (1, .long 6), (1, .methodref 61 62), (0, .class_ 63), (0, .nameAndType 64 65), (0, u "java/lang/Math"), (0, u "toIntExact"), (0, u "(J)I"), (0, .fieldref 6 67), (0, .nameAndType 68 27), (0, u "trail"), (0, .fieldref 6 70), (0, .nameAndType 71 27), (0, u "otherEnd"), (0, .fieldref 6 73), (0, .nameAndType 74 27), (0, u "pathSize"), (0, .fieldref 6 76), (0, .nameAndType 77 27), (0, u "pending"), (0, .fieldref 6 79), (0, .nameAndType 80 81), (0, u "isPending"), (0, u "[Z"), (0, .fieldref 6 83), (0, .nameAndType 84 27), (0, u "listStart"), (0, .fieldref 6 86), (0, .nameAndType 87 27), (0, u "neighbours"), (3, u "(I)I"), (5, u "(I)Z"), (0, .methodref 6 99), (0, .nameAndType 100 55), (0, u "setForced"), (0, .methodref 6 102), (0, .nameAndType 103 21), (0, u "clearPending"), (0, .methodref 6 105), (0, .nameAndType 106 107), (0, u "enqueue"), (0, u "(I)V"), (0, .methodref 6 109), (0, .nameAndType 110 111), (0, u "propagate"), (0, u "()Z"), (0, .methodref 6 113), (0, .nameAndType 114 55), (0, u "setRemoved"), (0, .fieldref 6 116), (0, .nameAndType 117 118), (0, u "listed"), (0, u "Z"), (0, .fieldref 6 120), (0, .nameAndType 121 25), (0, u "trailSize"), (0, .methodref 6 123), (0, .nameAndType 124 125), (0, u "setState"), (0, u "(IIB)V"), (0, .methodref 6 127), (0, .nameAndType 128 129), (0, u "setPathEnd"), (0, u "(III)V"), (0, .fieldref 6 131), (0, .nameAndType 132 25), (0, u "pendingCount"), (0, .fieldref 6 134), (0, .nameAndType 135 25), (0, u "pendingHead"), (0, .methodref 6 137), (0, .nameAndType 138 97), (0, u "applyDegreeRules"), (12, u "MOST_CITIES"), (0, u "FREE"), (0, u "B"), (2, u "FORCED"), (1, u "REMOVED"), (1, u "PAIR_BYTES"), (0, u "END_BYTES"), (1, u "LONGEST_ARRAY"), (6, u "state"), (0, u "(II)B"), (4, u "force"), (0, u "remove"), (6, u "mark"), (0, u "undo")] 3

def k2c0 : Code := { maxStack := 3, maxLocals := 2, code := prog_7_method_1_code, exceptionTable := #[], attributes := #[] }
def k2m0 : Method := { name := "<init>", desc := "(I)V", sig := { parameters := [.int], returnType := none }, accessFlags := 0, code := some k2c0 }
def k2c1 : Code := { maxStack := 7, maxLocals := 7, code := prog_7_method_3_code, exceptionTable := #[], attributes := #[] }
def k2m1 : Method := { name := "<init>", desc := "(ILcom/example/onetree/onetree/Instance;)V", sig := { parameters := [.int, (.object "com/example/onetree/onetree/Instance")], returnType := none }, accessFlags := 2, code := some k2c1 }
def k2c2 : Code := { maxStack := 2, maxLocals := 3, code := prog_7_method_4_code, exceptionTable := #[], attributes := #[] }
def k2m2 : Method := { name := "state", desc := "(II)B", sig := { parameters := [.int, .int], returnType := some .byte }, accessFlags := 0, code := some k2c2 }
def k2c3 : Code := { maxStack := 2, maxLocals := 2, code := prog_7_method_5_code, exceptionTable := #[], attributes := #[] }
def k2m3 : Method := { name := "openDegree", desc := "(I)I", sig := { parameters := [.int], returnType := some .int }, accessFlags := 0, code := some k2c3 }
def k2c4 : Code := { maxStack := 2, maxLocals := 2, code := prog_7_method_9_code, exceptionTable := #[], attributes := #[] }
def k2m4 : Method := { name := "forcedDegree", desc := "(I)I", sig := { parameters := [.int], returnType := some .int }, accessFlags := 0, code := some k2c4 }
def k2c5 : Code := { maxStack := 2, maxLocals := 2, code := prog_7_method_10_code, exceptionTable := #[], attributes := #[] }
def k2m5 : Method := { name := "otherEnd", desc := "(I)I", sig := { parameters := [.int], returnType := some .int }, accessFlags := 0, code := some k2c5 }
def k2c6 : Code := { maxStack := 3, maxLocals := 3, code := prog_7_method_12_code, exceptionTable := #[], attributes := #[] }
def k2m6 : Method := { name := "force", desc := "(II)Z", sig := { parameters := [.int, .int], returnType := some .boolean }, accessFlags := 0, code := some k2c6 }
def k2c7 : Code := { maxStack := 3, maxLocals := 3, code := prog_7_method_13_code, exceptionTable := #[], attributes := #[] }
def k2m7 : Method := { name := "remove", desc := "(II)Z", sig := { parameters := [.int, .int], returnType := some .boolean }, accessFlags := 0, code := some k2c7 }
def k2c8 : Code := { maxStack := 1, maxLocals := 1, code := prog_7_method_18_code, exceptionTable := #[], attributes := #[] }
def k2m8 : Method := { name := "mark", desc := "()I", sig := { parameters := [], returnType := some .int }, accessFlags := 0, code := some k2c8 }
def k2c9 : Code := { maxStack := 5, maxLocals := 5, code := prog_7_method_19_code, exceptionTable := #[], attributes := #[] }
def k2m9 : Method := { name := "undo", desc := "(I)V", sig := { parameters := [.int], returnType := none }, accessFlags := 0, code := some k2c9 }
def k2c10 : Code := { maxStack := 4, maxLocals := 7, code := prog_7_method_20_code, exceptionTable := #[], attributes := #[] }
def k2m10 : Method := { name := "setForced", desc := "(II)Z", sig := { parameters := [.int, .int], returnType := some .boolean }, accessFlags := 2, code := some k2c10 }
def k2c11 : Code := { maxStack := 4, maxLocals := 4, code := prog_7_method_21_code, exceptionTable := #[], attributes := #[] }
def k2m11 : Method := { name := "setRemoved", desc := "(II)Z", sig := { parameters := [.int, .int], returnType := some .boolean }, accessFlags := 2, code := some k2c11 }
def k2c12 : Code := { maxStack := 3, maxLocals := 2, code := prog_7_method_22_code, exceptionTable := #[], attributes := #[] }
def k2m12 : Method := { name := "propagate", desc := "()Z", sig := { parameters := [], returnType := some .boolean }, accessFlags := 2, code := some k2c12 }
def k2c13 : Code := { maxStack := 3, maxLocals := 1, code := prog_7_method_23_code, exceptionTable := #[], attributes := #[] }
def k2m13 : Method := { name := "clearPending", desc := "()V", sig := { parameters := [], returnType := none }, accessFlags := 2, code := some k2c13 }
def k2c14 : Code := { maxStack := 3, maxLocals := 5, code := prog_7_method_24_code, exceptionTable := #[], attributes := #[] }
def k2m14 : Method := { name := "applyDegreeRules", desc := "(I)Z", sig := { parameters := [.int], returnType := some .boolean }, accessFlags := 2, code := some k2c14 }
def k2c15 : Code := { maxStack := 5, maxLocals := 4, code := prog_7_method_25_code, exceptionTable := #[], attributes := #[] }
def k2m15 : Method := { name := "setState", desc := "(IIB)V", sig := { parameters := [.int, .int, .byte], returnType := none }, accessFlags := 2, code := some k2c15 }
def k2c16 : Code := { maxStack := 5, maxLocals := 4, code := prog_7_method_26_code, exceptionTable := #[], attributes := #[] }
def k2m16 : Method := { name := "setPathEnd", desc := "(III)V", sig := { parameters := [.int, .int, .int], returnType := none }, accessFlags := 2, code := some k2c16 }
def k2c17 : Code := { maxStack := 3, maxLocals := 2, code := prog_7_method_27_code, exceptionTable := #[], attributes := #[] }
def k2m17 : Method := { name := "enqueue", desc := "(I)V", sig := { parameters := [.int], returnType := none }, accessFlags := 2, code := some k2c17 }
/-- com/example/onetree/onetree/EdgeStates -/
def k2 : Class := { plain "com/example/onetree/onetree/EdgeStates" (some 0) with
  accessFlags := 48
  interfaces := #[]
  cf := some (fileOf pool2 6 #[] #[{ accessFlags := 0, nameIndex := 9, descriptorIndex := 107, attributes := #[] }, { accessFlags := 2, nameIndex := 9, descriptorIndex := 10, attributes := #[] }, { accessFlags := 0, nameIndex := 170, descriptorIndex := 171, attributes := #[] }, { accessFlags := 0, nameIndex := 45, descriptorIndex := 91, attributes := #[] }, { accessFlags := 0, nameIndex := 42, descriptorIndex := 91, attributes := #[] }, { accessFlags := 0, nameIndex := 71, descriptorIndex := 91, attributes := #[] }, { accessFlags := 0, nameIndex := 176, descriptorIndex := 55, attributes := #[] }, { accessFlags := 0, nameIndex := 177, descriptorIndex := 55, attributes := #[] }, { accessFlags := 0, nameIndex := 184, descriptorIndex := 16, attributes := #[] }, { accessFlags := 0, nameIndex := 185, descriptorIndex := 107, attributes := #[] }, { accessFlags := 2, nameIndex := 100, descriptorIndex := 55, attributes := #[] }, { accessFlags := 2, nameIndex := 114, descriptorIndex := 55, attributes := #[] }, { accessFlags := 2, nameIndex := 110, descriptorIndex := 111, attributes := #[] }, { accessFlags := 2, nameIndex := 103, descriptorIndex := 21, attributes := #[] }, { accessFlags := 2, nameIndex := 138, descriptorIndex := 97, attributes := #[] }, { accessFlags := 2, nameIndex := 124, descriptorIndex := 125, attributes := #[] }, { accessFlags := 2, nameIndex := 128, descriptorIndex := 129, attributes := #[] }, { accessFlags := 2, nameIndex := 106, descriptorIndex := 107, attributes := #[] }] 48 18 #[] #[{ accessFlags := 24, nameIndex := 152, descriptorIndex := 153, attributes := #[] }, { accessFlags := 24, nameIndex := 156, descriptorIndex := 153, attributes := #[] }, { accessFlags := 24, nameIndex := 158, descriptorIndex := 153, attributes := #[] }, { accessFlags := 24, nameIndex := 160, descriptorIndex := 25, attributes := #[] }, { accessFlags := 24, nameIndex := 161, descriptorIndex := 25, attributes := #[] }, { accessFlags := 26, nameIndex := 163, descriptorIndex := 25, attributes := #[] }, { accessFlags := 24, nameIndex := 151, descriptorIndex := 25, attributes := #[] }, { accessFlags := 18, nameIndex := 24, descriptorIndex := 25, attributes := #[] }, { accessFlags := 18, nameIndex := 39, descriptorIndex := 36, attributes := #[] }, { accessFlags := 18, nameIndex := 42, descriptorIndex := 27, attributes := #[] }, { accessFlags := 18, nameIndex := 45, descriptorIndex := 27, attributes := #[] }, { accessFlags := 18, nameIndex := 71, descriptorIndex := 27, attributes := #[] }, { accessFlags := 18, nameIndex := 74, descriptorIndex := 27, attributes := #[] }, { accessFlags := 18, nameIndex := 68, descriptorIndex := 27, attributes := #[] }, { accessFlags := 2, nameIndex := 121, descriptorIndex := 25, attributes := #[] }, { accessFlags := 18, nameIndex := 84, descriptorIndex := 27, attributes := #[] }, { accessFlags := 18, nameIndex := 87, descriptorIndex := 27, attributes := #[] }, { accessFlags := 2, nameIndex := 117, descriptorIndex := 118, attributes := #[] }, { accessFlags := 18, nameIndex := 30, descriptorIndex := 34, attributes := #[] }, { accessFlags := 18, nameIndex := 77, descriptorIndex := 27, attributes := #[] }, { accessFlags := 18, nameIndex := 80, descriptorIndex := 81, attributes := #[] }, { accessFlags := 2, nameIndex := 135, descriptorIndex := 25, attributes := #[] }, { accessFlags := 2, nameIndex := 132, descriptorIndex := 25, attributes := #[] }])
  fields := #[{ name := "FREE", type := .byte, accessFlags := 24, slot := 0, constantValue := 0 }, { name := "FORCED", type := .byte, accessFlags := 24, slot := 1, constantValue := 0 }, { name := "REMOVED", type := .byte, accessFlags := 24, slot := 2, constantValue := 0 }, { name := "PAIR_BYTES", type := .int, accessFlags := 24, slot := 3, constantValue := 0 }, { name := "END_BYTES", type := .int, accessFlags := 24, slot := 4, constantValue := 0 }, { name := "LONGEST_ARRAY", type := .int, accessFlags := 26, slot := 5, constantValue := 0 }, { name := "MOST_CITIES", type := .int, accessFlags := 24, slot := 6, constantValue := 0 }, { name := "cities", type := .int, accessFlags := 18, slot := 0, constantValue := 0 }, { name := "states", type := (.array (.array .byte)), accessFlags := 18, slot := 1, constantValue := 0 }, { name := "forcedDegree", type := (.array .int), accessFlags := 18, slot := 2, constantValue := 0 }, { name := "openDegree", type := (.array .int), accessFlags := 18, slot := 3, constantValue := 0 }, { name := "otherEnd", type := (.array .int), accessFlags := 18, slot := 4, constantValue := 0 }, { name := "pathSize", type := (.array .int), accessFlags := 18, slot := 5, constantValue := 0 }, { name := "trail", type := (.array .int), accessFlags := 18, slot := 6, constantValue := 0 }, { name := "trailSize", type := .int, accessFlags := 2, slot := 7, constantValue := 0 }, { name := "listStart", type := (.array .int), accessFlags := 18, slot := 8, constantValue := 0 }, { name := "neighbours", type := (.array .int), accessFlags := 18, slot := 9, constantValue := 0 }, { name := "listed", type := .boolean, accessFlags := 2, slot := 10, constantValue := 0 }, { name := "fixedEdges", type := (.array (.array .int)), accessFlags := 18, slot := 11, constantValue := 0 }, { name := "pending", type := (.array .int), accessFlags := 18, slot := 12, constantValue := 0 }, { name := "isPending", type := (.array .boolean), accessFlags := 18, slot := 13, constantValue := 0 }, { name := "pendingHead", type := .int, accessFlags := 2, slot := 14, constantValue := 0 }, { name := "pendingCount", type := .int, accessFlags := 2, slot := 15, constantValue := 0 }]
  methods := #[k2m0, k2m1, k2m2, k2m3, k2m4, k2m5, k2m6, k2m7, k2m8, k2m9, k2m10, k2m11, k2m12, k2m13, k2m14, k2m15, k2m16, k2m17]
  instanceTypes := #[.int, (.array (.array .byte)), (.array .int), (.array .int), (.array .int), (.array .int), (.array .int), .int, (.array .int), (.array .int), .boolean, (.array (.array .int)), (.array .int), (.array .boolean), .int, .int]
  staticTypes := #[.byte, .byte, .byte, .int, .int, .int, .int]
  resolved := Array.replicate 189 none
  statics := none }

def pool3 : Array CpInfo := pool [(2, .class_ 4), (1, u "java/lang/Object"), (0, u "<init>"), (0, u "()V"), (7, .class_ 16), (1, u "java/util/Arrays"), (57, .class_ 76), (1, u "java/util/Arrays$NaturalOrder"), (36, .class_ 115), (1, u "java/util/Arrays$LegacyMergeSort"), (1, u "Z"), (257, .class_ 376), (0, u "java/util/Arrays$ArrayList"), (68, u "$assertionsDisabled"), (269, u "MIN_ARRAY_SORT_GRAN"), (0, u "I"), (2, u "INSERTIONSORT_THRESHOLD"), (120, u "fill"), (4, u "([II)V"), (129, .class_ 976), (0, u "java/util/Arrays$ArrayItr")] 52

def k3m0 : Method := { name := "<init>", desc := "()V", sig := { parameters := [], returnType := none }, accessFlags := 2, code := none }
def k3c1 : Code := { maxStack := 3, maxLocals := 4, code := jdk_65_method_103_code, exceptionTable := #[], attributes := #[] }
def k3m1 : Method := { name := "fill", desc := "([II)V", sig := { parameters := [(.array .int), .int], returnType := none }, accessFlags := 9, code := some k3c1 }
/-- java/util/Arrays -/
def k3 : Class := { plain "java/util/Arrays" (some 0) with
  accessFlags := 49
  interfaces := #[]
  cf := some (fileOf pool3 14 #[.nestMembers #[975, 375, 113, 74]] #[{ accessFlags := 2, nameIndex := 5, descriptorIndex := 6, attributes := #[] }, { accessFlags := 9, nameIndex := 840, descriptorIndex := 845, attributes := #[] }] 49 2 #[] #[{ accessFlags := 26, nameIndex := 715, descriptorIndex := 716, attributes := #[] }, { accessFlags := 26, nameIndex := 719, descriptorIndex := 716, attributes := #[] }, { accessFlags := 4120, nameIndex := 445, descriptorIndex := 117, attributes := #[] }])
  fields := #[{ name := "MIN_ARRAY_SORT_GRAN", type := .int, accessFlags := 26, slot := 0, constantValue := 0 }, { name := "INSERTIONSORT_THRESHOLD", type := .int, accessFlags := 26, slot := 1, constantValue := 0 }, { name := "$assertionsDisabled", type := .boolean, accessFlags := 4120, slot := 2, constantValue := 0 }]
  methods := #[k3m0, k3m1]
  instanceTypes := #[]
  staticTypes := #[.int, .int, .boolean]
  resolved := Array.replicate 1029 none
  statics := none }

def pool4 : Array CpInfo := pool [(1, .class_ 2), (0, u "java/lang/Math"), (1, .class_ 6), (1, u "java/lang/Object"), (0, u "<init>"), (0, u "()V"), (89, .class_ 100), (1, u "java/lang/Math$RandomNumberGeneratorHolder"), (71, u "negativeZeroFloatBits"), (0, u "J"), (2, u "negativeZeroDoubleBits"), (68, u "$assertionsDisabled"), (0, u "Z"), (91, u "twoToTheDoubleScaleDown"), (0, u "D"), (4, u "twoToTheDoubleScaleUp"), (9, u "E"), (3, u "PI"), (2, u "TAU"), (2, u "DEGREES_TO_RADIANS"), (0, u "RADIANS_TO_DEGREES"), (39, u "toIntExact"), (0, u "(J)I")] 53

def k4m0 : Method := { name := "<init>", desc := "()V", sig := { parameters := [], returnType := none }, accessFlags := 2, code := none }
def k4c1 : Code := { maxStack := 4, maxLocals := 2, code := jdk_29_method_43_code, exceptionTable := #[], attributes := #[] }
def k4m1 : Method := { name := "toIntExact", desc := "(J)I", sig := { parameters := [.long], returnType := some .int }, accessFlags := 9, code := some k4c1 }
/-- java/lang/Math -/
def k4 : Class := { plain "java/lang/Math" (some 0) with
  accessFlags := 49
  interfaces := #[]
  cf := some (fileOf pool4 1 #[.nestMembers #[98]] #[{ accessFlags := 2, nameIndex := 7, descriptorIndex := 8, attributes := #[] }, { accessFlags := 9, nameIndex := 405, descriptorIndex := 406, attributes := #[] }] 49 4 #[] #[{ accessFlags := 25, nameIndex := 354, descriptorIndex := 339, attributes := #[] }, { accessFlags := 25, nameIndex := 358, descriptorIndex := 339, attributes := #[] }, { accessFlags := 25, nameIndex := 361, descriptorIndex := 339, attributes := #[] }, { accessFlags := 26, nameIndex := 364, descriptorIndex := 339, attributes := #[] }, { accessFlags := 26, nameIndex := 365, descriptorIndex := 339, attributes := #[] }, { accessFlags := 26, nameIndex := 172, descriptorIndex := 173, attributes := #[] }, { accessFlags := 26, nameIndex := 176, descriptorIndex := 173, attributes := #[] }, { accessFlags := 8, nameIndex := 344, descriptorIndex := 339, attributes := #[] }, { accessFlags := 8, nameIndex := 338, descriptorIndex := 339, attributes := #[] }, { accessFlags := 4120, nameIndex := 245, descriptorIndex := 246, attributes := #[] }])
  fields := #[{ name := "E", type := .double, accessFlags := 25, slot := 0, constantValue := 0 }, { name := "PI", type := .double, accessFlags := 25, slot := 1, constantValue := 0 }, { name := "TAU", type := .double, accessFlags := 25, slot := 2, constantValue := 0 }, { name := "DEGREES_TO_RADIANS", type := .double, accessFlags := 26, slot := 3, constantValue := 0 }, { name := "RADIANS_TO_DEGREES", type := .double, accessFlags := 26, slot := 4, constantValue := 0 }, { name := "negativeZeroFloatBits", type := .long, accessFlags := 26, slot := 5, constantValue := 0 }, { name := "negativeZeroDoubleBits", type := .long, accessFlags := 26, slot := 6, constantValue := 0 }, { name := "twoToTheDoubleScaleUp", type := .double, accessFlags := 8, slot := 7, constantValue := 0 }, { name := "twoToTheDoubleScaleDown", type := .double, accessFlags := 8, slot := 8, constantValue := 0 }, { name := "$assertionsDisabled", type := .boolean, accessFlags := 4120, slot := 9, constantValue := 0 }]
  methods := #[k4m0, k4m1]
  instanceTypes := #[]
  staticTypes := #[.double, .double, .double, .double, .double, .long, .long, .double, .double, .boolean]
  resolved := Array.replicate 460 none
  statics := none }

def pool5 : Array CpInfo := pool [(1, u "java/lang/Cloneable"), (0, .class_ 1), (0, u "java/lang/Object"), (0, .class_ 3)] 3

/-- java/lang/Cloneable -/
def k5 : Class := { plain "java/lang/Cloneable" (some 0) with
  accessFlags := 1537
  interfaces := #[]
  cf := some (fileOf pool5 2 #[] #[] 1537 4 #[] #[])
  fields := #[]
  methods := #[]
  instanceTypes := #[]
  staticTypes := #[]
  resolved := Array.replicate 8 none
  statics := none }

def pool6 : Array CpInfo := pool [(1, u "java/io/Serializable"), (0, .class_ 1), (0, u "java/lang/Object"), (0, .class_ 3)] 3

/-- java/io/Serializable -/
def k6 : Class := { plain "java/io/Serializable" (some 0) with
  accessFlags := 1537
  interfaces := #[]
  cf := some (fileOf pool6 2 #[] #[] 1537 4 #[] #[])
  fields := #[]
  methods := #[]
  instanceTypes := #[]
  staticTypes := #[]
  resolved := Array.replicate 8 none
  statics := none }

/-- the primitive boolean -/
def k7 : Class := { plain "boolean" none with kind := .primitive 'Z', accessFlags := 0x411 }
/-- [Z -/
def k8 : Class := { plain "[Z" (some 0) with kind := .array 7 .boolean, interfaces := #[5, 6], accessFlags := 1041 }

/-- the primitive byte -/
def k9 : Class := { plain "byte" none with kind := .primitive 'B', accessFlags := 0x411 }
/-- [B -/
def k10 : Class := { plain "[B" (some 0) with kind := .array 9 .byte, interfaces := #[5, 6], accessFlags := 1041 }

/-- the primitive int -/
def k11 : Class := { plain "int" none with kind := .primitive 'I', accessFlags := 0x411 }
/-- [I -/
def k12 : Class := { plain "[I" (some 0) with kind := .array 11 .int, interfaces := #[5, 6], accessFlags := 1041 }

def k13 : Class := { plain "[[I" (some 0) with kind := .array 12 (.array .int), interfaces := #[5, 6], accessFlags := 1041 }
def k14 : Class := { plain "[[B" (some 0) with kind := .array 10 (.array .byte), interfaces := #[5, 6], accessFlags := 1041 }
def heap : Heap := #[]
def classes : Array Class := #[k0, k1, k2, k3, k4, k5, k6, k7, k8, k9, k10, k11, k12, k13, k14]
def interned : List (Array UInt16 × Addr) := []
def slotsUsed : Nat := 0
def theMethod : MethodId := ⟨1, 1⟩
def args0 : Array Value := #[.int 5, .int 7, .int 3, .int 2, .int 1, .int 0]
def aboutOver (below : List Frame) : State where
  vm := { classes := classes, interned := interned.toArray }
  heap := heap
  slotsUsed := slotsUsed
  threads := #[{ frames := .invoking theMethod args0 :: below }]
def below0 : List Frame := [.native { method := ⟨0, 0⟩, args := #[] }]
def about1 : State := aboutOver below0
def p0 : Program := .bare "" "" ""
def e0 : Env := launch0.env 0 0 0
theorem w_frames : about1.frames = Frame.invoking theMethod args0 :: below0 := rfl
set_option maxRecDepth 65536 in
theorem w_args : argsFit about1.vm theMethod args0 = true := by decide +kernel
set_option maxRecDepth 65536 in
theorem w_heap : heapFits about1 = true := by decide +kernel
set_option maxRecDepth 65536 in
theorem w_runnable : about1.curStatus? = some .runnable := by decide +kernel
set_option maxRecDepth 65536 in
theorem w_alone : about1.alone = true := by decide +kernel
set_option maxRecDepth 65536 in
theorem w_named : about1.methodNamed? x = some theMethod := by decide +kernel
set_option maxRecDepth 65536 in
theorem w_hears : about1.hears theMethod below0 = true := by decide +kernel
set_option maxRecDepth 65536 in
theorem w_ripe : about1.ripe theMethod args0 below0 = true := by decide +kernel
theorem w_running : about1.status = .running := rfl
set_option maxRecDepth 65536 in
theorem w_room : about1.hasRoom e0.platform room_1 = true :=
  launch0.hasRoom_least _ room_1 (by decide +kernel) (by decide +kernel) (by decide +kernel) (by decide +kernel) (by decide +kernel) (by decide +kernel)
theorem allAtoms_all (ts : List Jvm.Cond) (a : Array Jvm.Value) (st : Jvm.State) : (allAtoms ts).before a st = ts.all (fun c => c.before a st) := by
  induction ts with
  | nil => rfl
  | cons c t ih =>
    show (Jvm.Cond.and c (allAtoms t)).before a st = _
    rw [Jvm.Cond.before_and, ih, List.all_cons]
def words1 : List Jvm.Cond := Jvm.Cond.code x code maxLocals ret :: tables_1
/-- a 'code' word, met by the world's own term for the bytes: nothing is compared byte by byte -/
theorem code_word {y : MethodName} {bytes : ByteArray} {mx : Nat} {rt : Option FieldType} {a : Array Value} {s : State} {m : MethodId} {meth : Method} {c : Code} (h1 : s.methodNamed? y = some m) (h2 : s.vm.method? m = some meth) (h3 : meth.code = some c) (h4 : c.code = bytes)
    (h5 : (c.maxLocals == mx && c.exceptionTable.isEmpty && decide (c.maxStack ≤ mostOperands) && decide (meth.sig.returnType = rt) && !meth.locks && decide (parseMethodDescriptor y.desc = some meth.sig)) = true) : (Jvm.Cond.code y bytes mx rt).before a s = true := by
  simp only [Bool.and_eq_true, beq_iff_eq, Bool.not_eq_true', decide_eq_true_eq] at h5
  obtain ⟨⟨⟨⟨⟨g1, g2⟩, g3⟩, g4⟩, g5⟩, g6⟩ := h5
  simp [Cond.before, Cond.holds, Cond.value, h1, h2, h3, h4, g1, g2, g3, g4, g5, g6]
def isCode : Jvm.Cond → Bool
  | .code _ _ _ _ => true
  | _ => false
theorem all_split {L : List Jvm.Cond} {P : Jvm.Cond → Bool} (h1 : L.all (fun c => isCode c || P c) = true) (h2 : ∀ c ∈ L.filter isCode, P c = true) : L.all P = true := by
  refine List.all_eq_true.mpr fun c hc => ?_
  have h := List.all_eq_true.mp h1 c hc
  rcases Bool.eq_false_or_eq_true (isCode c) with hi | hi
  · exact h2 c (List.mem_filter.mpr ⟨hc, hi⟩)
  · simpa [hi] using h
set_option maxRecDepth 65536 in
theorem w_c0 : (Jvm.Cond.code x code maxLocals ret).before args0 about1 = true := code_word (m := ⟨1, 1⟩) (meth := k1m1) (c := k1c1) (by decide +kernel) rfl rfl rfl (by decide +kernel)
set_option maxRecDepth 65536 in
theorem w_c1 : (Jvm.Cond.code ({ cls := "com/example/onetree/onetree/EdgeStates", name := "<init>", desc := "(I)V" } : Jvm.MethodName) prog_7_method_1_code (2 : Nat) (Option.none : Option Jvm.ClassFile.FieldType)).before args0 about1 = true := code_word (m := ⟨2, 0⟩) (meth := k2m0) (c := k2c0) (by decide +kernel) rfl rfl rfl (by decide +kernel)
set_option maxRecDepth 65536 in
theorem w_c2 : (Jvm.Cond.code ({ cls := "com/example/onetree/onetree/EdgeStates", name := "<init>", desc := "(ILcom/example/onetree/onetree/Instance;)V" } : Jvm.MethodName) prog_7_method_3_code (7 : Nat) (Option.none : Option Jvm.ClassFile.FieldType)).before args0 about1 = true := code_word (m := ⟨2, 1⟩) (meth := k2m1) (c := k2c1) (by decide +kernel) rfl rfl rfl (by decide +kernel)
set_option maxRecDepth 65536 in
theorem w_c3 : (Jvm.Cond.code ({ cls := "java/lang/Object", name := "<init>", desc := "()V" } : Jvm.MethodName) object_method_1_code (1 : Nat) (Option.none : Option Jvm.ClassFile.FieldType)).before args0 about1 = true := code_word (m := ⟨0, 0⟩) (meth := k0m0) (c := k0c0) (by decide +kernel) rfl rfl rfl (by decide +kernel)
set_option maxRecDepth 65536 in
theorem w_c4 : (Jvm.Cond.code ({ cls := "java/util/Arrays", name := "fill", desc := "([II)V" } : Jvm.MethodName) jdk_65_method_103_code (4 : Nat) (Option.none : Option Jvm.ClassFile.FieldType)).before args0 about1 = true := code_word (m := ⟨3, 1⟩) (meth := k3m1) (c := k3c1) (by decide +kernel) rfl rfl rfl (by decide +kernel)
set_option maxRecDepth 65536 in
theorem w_c5 : (Jvm.Cond.code ({ cls := "java/lang/Math", name := "toIntExact", desc := "(J)I" } : Jvm.MethodName) jdk_29_method_43_code (2 : Nat) (Option.some Jvm.ClassFile.FieldType.int)).before args0 about1 = true := code_word (m := ⟨4, 1⟩) (meth := k4m1) (c := k4c1) (by decide +kernel) rfl rfl rfl (by decide +kernel)
set_option maxRecDepth 65536 in
theorem w_c6 : (Jvm.Cond.code ({ cls := "com/example/onetree/onetree/EdgeStates", name := "force", desc := "(II)Z" } : Jvm.MethodName) prog_7_method_12_code (3 : Nat) (Option.some Jvm.ClassFile.FieldType.boolean)).before args0 about1 = true := code_word (m := ⟨2, 6⟩) (meth := k2m6) (c := k2c6) (by decide +kernel) rfl rfl rfl (by decide +kernel)
set_option maxRecDepth 65536 in
theorem w_c7 : (Jvm.Cond.code ({ cls := "com/example/onetree/onetree/EdgeStates", name := "setForced", desc := "(II)Z" } : Jvm.MethodName) prog_7_method_20_code (7 : Nat) (Option.some Jvm.ClassFile.FieldType.boolean)).before args0 about1 = true := code_word (m := ⟨2, 10⟩) (meth := k2m10) (c := k2c10) (by decide +kernel) rfl rfl rfl (by decide +kernel)
set_option maxRecDepth 65536 in
theorem w_c8 : (Jvm.Cond.code ({ cls := "com/example/onetree/onetree/EdgeStates", name := "setState", desc := "(IIB)V" } : Jvm.MethodName) prog_7_method_25_code (4 : Nat) (Option.none : Option Jvm.ClassFile.FieldType)).before args0 about1 = true := code_word (m := ⟨2, 15⟩) (meth := k2m15) (c := k2c15) (by decide +kernel) rfl rfl rfl (by decide +kernel)
set_option maxRecDepth 65536 in
theorem w_c9 : (Jvm.Cond.code ({ cls := "com/example/onetree/onetree/EdgeStates", name := "enqueue", desc := "(I)V" } : Jvm.MethodName) prog_7_method_27_code (2 : Nat) (Option.none : Option Jvm.ClassFile.FieldType)).before args0 about1 = true := code_word (m := ⟨2, 17⟩) (meth := k2m17) (c := k2c17) (by decide +kernel) rfl rfl rfl (by decide +kernel)
set_option maxRecDepth 65536 in
theorem w_c10 : (Jvm.Cond.code ({ cls := "com/example/onetree/onetree/EdgeStates", name := "setPathEnd", desc := "(III)V" } : Jvm.MethodName) prog_7_method_26_code (4 : Nat) (Option.none : Option Jvm.ClassFile.FieldType)).before args0 about1 = true := code_word (m := ⟨2, 16⟩) (meth := k2m16) (c := k2c16) (by decide +kernel) rfl rfl rfl (by decide +kernel)
set_option maxRecDepth 65536 in
theorem w_c11 : (Jvm.Cond.code ({ cls := "com/example/onetree/onetree/EdgeStates", name := "propagate", desc := "()Z" } : Jvm.MethodName) prog_7_method_22_code (2 : Nat) (Option.some Jvm.ClassFile.FieldType.boolean)).before args0 about1 = true := code_word (m := ⟨2, 12⟩) (meth := k2m12) (c := k2c12) (by decide +kernel) rfl rfl rfl (by decide +kernel)
set_option maxRecDepth 65536 in
theorem w_c12 : (Jvm.Cond.code ({ cls := "com/example/onetree/onetree/EdgeStates", name := "applyDegreeRules", desc := "(I)Z" } : Jvm.MethodName) prog_7_method_24_code (5 : Nat) (Option.some Jvm.ClassFile.FieldType.boolean)).before args0 about1 = true := code_word (m := ⟨2, 14⟩) (meth := k2m14) (c := k2c14) (by decide +kernel) rfl rfl rfl (by decide +kernel)
set_option maxRecDepth 65536 in
theorem w_c13 : (Jvm.Cond.code ({ cls := "com/example/onetree/onetree/EdgeStates", name := "mark", desc := "()I" } : Jvm.MethodName) prog_7_method_18_code (1 : Nat) (Option.some Jvm.ClassFile.FieldType.int)).before args0 about1 = true := code_word (m := ⟨2, 8⟩) (meth := k2m8) (c := k2c8) (by decide +kernel) rfl rfl rfl (by decide +kernel)
set_option maxRecDepth 65536 in
theorem w_c14 : (Jvm.Cond.code ({ cls := "com/example/onetree/onetree/EdgeStates", name := "setRemoved", desc := "(II)Z" } : Jvm.MethodName) prog_7_method_21_code (4 : Nat) (Option.some Jvm.ClassFile.FieldType.boolean)).before args0 about1 = true := code_word (m := ⟨2, 11⟩) (meth := k2m11) (c := k2c11) (by decide +kernel) rfl rfl rfl (by decide +kernel)
set_option maxRecDepth 65536 in
theorem w_c15 : (Jvm.Cond.code ({ cls := "com/example/onetree/onetree/EdgeStates", name := "remove", desc := "(II)Z" } : Jvm.MethodName) prog_7_method_13_code (3 : Nat) (Option.some Jvm.ClassFile.FieldType.boolean)).before args0 about1 = true := code_word (m := ⟨2, 7⟩) (meth := k2m7) (c := k2c7) (by decide +kernel) rfl rfl rfl (by decide +kernel)
set_option maxRecDepth 65536 in
theorem w_c16 : (Jvm.Cond.code ({ cls := "com/example/onetree/onetree/EdgeStates", name := "undo", desc := "(I)V" } : Jvm.MethodName) prog_7_method_19_code (5 : Nat) (Option.none : Option Jvm.ClassFile.FieldType)).before args0 about1 = true := code_word (m := ⟨2, 9⟩) (meth := k2m9) (c := k2c9) (by decide +kernel) rfl rfl rfl (by decide +kernel)
set_option maxRecDepth 65536 in
theorem w_c17 : (Jvm.Cond.code ({ cls := "com/example/onetree/onetree/EdgeStates", name := "state", desc := "(II)B" } : Jvm.MethodName) prog_7_method_4_code (3 : Nat) (Option.some Jvm.ClassFile.FieldType.byte)).before args0 about1 = true := code_word (m := ⟨2, 2⟩) (meth := k2m2) (c := k2c2) (by decide +kernel) rfl rfl rfl (by decide +kernel)
set_option maxRecDepth 65536 in
theorem w_c18 : (Jvm.Cond.code ({ cls := "com/example/onetree/onetree/EdgeStates", name := "openDegree", desc := "(I)I" } : Jvm.MethodName) prog_7_method_5_code (2 : Nat) (Option.some Jvm.ClassFile.FieldType.int)).before args0 about1 = true := code_word (m := ⟨2, 3⟩) (meth := k2m3) (c := k2c3) (by decide +kernel) rfl rfl rfl (by decide +kernel)
set_option maxRecDepth 65536 in
theorem w_c19 : (Jvm.Cond.code ({ cls := "com/example/onetree/onetree/EdgeStates", name := "forcedDegree", desc := "(I)I" } : Jvm.MethodName) prog_7_method_9_code (2 : Nat) (Option.some Jvm.ClassFile.FieldType.int)).before args0 about1 = true := code_word (m := ⟨2, 4⟩) (meth := k2m4) (c := k2c4) (by decide +kernel) rfl rfl rfl (by decide +kernel)
set_option maxRecDepth 65536 in
theorem w_c20 : (Jvm.Cond.code ({ cls := "com/example/onetree/onetree/EdgeStates", name := "otherEnd", desc := "(I)I" } : Jvm.MethodName) prog_7_method_10_code (2 : Nat) (Option.some Jvm.ClassFile.FieldType.int)).before args0 about1 = true := code_word (m := ⟨2, 5⟩) (meth := k2m5) (c := k2c5) (by decide +kernel) rfl rfl rfl (by decide +kernel)
set_option maxRecDepth 65536 in
theorem w_c21 : (Jvm.Cond.code ({ cls := "com/example/onetree/onetree/EdgeStates", name := "clearPending", desc := "()V" } : Jvm.MethodName) prog_7_method_23_code (1 : Nat) (Option.none : Option Jvm.ClassFile.FieldType)).before args0 about1 = true := code_word (m := ⟨2, 13⟩) (meth := k2m13) (c := k2c13) (by decide +kernel) rfl rfl rfl (by decide +kernel)
def codes1 : List Jvm.Cond := [Jvm.Cond.code x code maxLocals ret, Jvm.Cond.code ({ cls := "com/example/onetree/onetree/EdgeStates", name := "<init>", desc := "(I)V" } : Jvm.MethodName) prog_7_method_1_code (2 : Nat) (Option.none : Option Jvm.ClassFile.FieldType), Jvm.Cond.code ({ cls := "com/example/onetree/onetree/EdgeStates", name := "<init>", desc := "(ILcom/example/onetree/onetree/Instance;)V" } : Jvm.MethodName) prog_7_method_3_code (7 : Nat) (Option.none : Option Jvm.ClassFile.FieldType), Jvm.Cond.code ({ cls := "java/lang/Object", name := "<init>", desc := "()V" } : Jvm.MethodName) object_method_1_code (1 : Nat) (Option.none : Option Jvm.ClassFile.FieldType), Jvm.Cond.code ({ cls := "java/util/Arrays", name := "fill", desc := "([II)V" } : Jvm.MethodName) jdk_65_method_103_code (4 : Nat) (Option.none : Option Jvm.ClassFile.FieldType), Jvm.Cond.code ({ cls := "java/lang/Math", name := "toIntExact", desc := "(J)I" } : Jvm.MethodName) jdk_29_method_43_code (2 : Nat) (Option.some Jvm.ClassFile.FieldType.int), Jvm.Cond.code ({ cls := "com/example/onetree/onetree/EdgeStates", name := "force", desc := "(II)Z" } : Jvm.MethodName) prog_7_method_12_code (3 : Nat) (Option.some Jvm.ClassFile.FieldType.boolean), Jvm.Cond.code ({ cls := "com/example/onetree/onetree/EdgeStates", name := "setForced", desc := "(II)Z" } : Jvm.MethodName) prog_7_method_20_code (7 : Nat) (Option.some Jvm.ClassFile.FieldType.boolean), Jvm.Cond.code ({ cls := "com/example/onetree/onetree/EdgeStates", name := "setState", desc := "(IIB)V" } : Jvm.MethodName) prog_7_method_25_code (4 : Nat) (Option.none : Option Jvm.ClassFile.FieldType), Jvm.Cond.code ({ cls := "com/example/onetree/onetree/EdgeStates", name := "enqueue", desc := "(I)V" } : Jvm.MethodName) prog_7_method_27_code (2 : Nat) (Option.none : Option Jvm.ClassFile.FieldType), Jvm.Cond.code ({ cls := "com/example/onetree/onetree/EdgeStates", name := "setPathEnd", desc := "(III)V" } : Jvm.MethodName) prog_7_method_26_code (4 : Nat) (Option.none : Option Jvm.ClassFile.FieldType), Jvm.Cond.code ({ cls := "com/example/onetree/onetree/EdgeStates", name := "propagate", desc := "()Z" } : Jvm.MethodName) prog_7_method_22_code (2 : Nat) (Option.some Jvm.ClassFile.FieldType.boolean), Jvm.Cond.code ({ cls := "com/example/onetree/onetree/EdgeStates", name := "applyDegreeRules", desc := "(I)Z" } : Jvm.MethodName) prog_7_method_24_code (5 : Nat) (Option.some Jvm.ClassFile.FieldType.boolean), Jvm.Cond.code ({ cls := "com/example/onetree/onetree/EdgeStates", name := "mark", desc := "()I" } : Jvm.MethodName) prog_7_method_18_code (1 : Nat) (Option.some Jvm.ClassFile.FieldType.int), Jvm.Cond.code ({ cls := "com/example/onetree/onetree/EdgeStates", name := "setRemoved", desc := "(II)Z" } : Jvm.MethodName) prog_7_method_21_code (4 : Nat) (Option.some Jvm.ClassFile.FieldType.boolean), Jvm.Cond.code ({ cls := "com/example/onetree/onetree/EdgeStates", name := "remove", desc := "(II)Z" } : Jvm.MethodName) prog_7_method_13_code (3 : Nat) (Option.some Jvm.ClassFile.FieldType.boolean), Jvm.Cond.code ({ cls := "com/example/onetree/onetree/EdgeStates", name := "undo", desc := "(I)V" } : Jvm.MethodName) prog_7_method_19_code (5 : Nat) (Option.none : Option Jvm.ClassFile.FieldType), Jvm.Cond.code ({ cls := "com/example/onetree/onetree/EdgeStates", name := "state", desc := "(II)B" } : Jvm.MethodName) prog_7_method_4_code (3 : Nat) (Option.some Jvm.ClassFile.FieldType.byte), Jvm.Cond.code ({ cls := "com/example/onetree/onetree/EdgeStates", name := "openDegree", desc := "(I)I" } : Jvm.MethodName) prog_7_method_5_code (2 : Nat) (Option.some Jvm.ClassFile.FieldType.int), Jvm.Cond.code ({ cls := "com/example/onetree/onetree/EdgeStates", name := "forcedDegree", desc := "(I)I" } : Jvm.MethodName) prog_7_method_9_code (2 : Nat) (Option.some Jvm.ClassFile.FieldType.int), Jvm.Cond.code ({ cls := "com/example/onetree/onetree/EdgeStates", name := "otherEnd", desc := "(I)I" } : Jvm.MethodName) prog_7_method_10_code (2 : Nat) (Option.some Jvm.ClassFile.FieldType.int), Jvm.Cond.code ({ cls := "com/example/onetree/onetree/EdgeStates", name := "clearPending", desc := "()V" } : Jvm.MethodName) prog_7_method_23_code (1 : Nat) (Option.none : Option Jvm.ClassFile.FieldType)]
set_option maxRecDepth 65536 in
theorem codes_eq : words1.filter isCode = codes1 := rfl
theorem w_codes : ∀ c ∈ words1.filter isCode, c.before args0 about1 = true := by
  rw [codes_eq]
  intro c hc
  simp only [codes1, List.mem_cons, List.not_mem_nil, or_false] at hc
  rcases hc with rfl | rfl | rfl | rfl | rfl | rfl | rfl | rfl | rfl | rfl | rfl | rfl | rfl | rfl | rfl | rfl | rfl | rfl | rfl | rfl | rfl | rfl
  · exact w_c0
  · exact w_c1
  · exact w_c2
  · exact w_c3
  · exact w_c4
  · exact w_c5
  · exact w_c6
  · exact w_c7
  · exact w_c8
  · exact w_c9
  · exact w_c10
  · exact w_c11
  · exact w_c12
  · exact w_c13
  · exact w_c14
  · exact w_c15
  · exact w_c16
  · exact w_c17
  · exact w_c18
  · exact w_c19
  · exact w_c20
  · exact w_c21
set_option maxRecDepth 65536 in
theorem w_t1 : (words1.take 24).all (fun c => isCode c || c.before args0 about1) = true := by decide +kernel
set_option maxRecDepth 65536 in
theorem w_t2 : ((words1.drop 24).take 24).all (fun c => isCode c || c.before args0 about1) = true := by decide +kernel
set_option maxRecDepth 65536 in
theorem w_t3 : (((words1.drop 24).drop 24).take 24).all (fun c => isCode c || c.before args0 about1) = true := by decide +kernel
set_option maxRecDepth 65536 in
theorem w_t4 : ((((words1.drop 24).drop 24).drop 24).take 24).all (fun c => isCode c || c.before args0 about1) = true := by decide +kernel
set_option maxRecDepth 65536 in
theorem w_t5 : (((((words1.drop 24).drop 24).drop 24).drop 24).take 24).all (fun c => isCode c || c.before args0 about1) = true := by decide +kernel
set_option maxRecDepth 65536 in
theorem w_t6 : (((((words1.drop 24).drop 24).drop 24).drop 24).drop 24).all (fun c => isCode c || c.before args0 about1) = true := by decide +kernel
theorem w_tables : (allAtoms (Jvm.Cond.code x code maxLocals ret :: tables_1)).before args0 about1 = true := by
  rw [allAtoms_all]
  show words1.all (fun c => c.before args0 about1) = true
  refine all_split ?_ w_codes
  rw [← List.take_append_drop 24 words1, List.all_append, w_t1, ← List.take_append_drop 24 (words1.drop 24), List.all_append, w_t2, ← List.take_append_drop 24 ((words1.drop 24).drop 24), List.all_append, w_t3, ← List.take_append_drop 24 (((words1.drop 24).drop 24).drop 24), List.all_append, w_t4, ← List.take_append_drop 24 ((((words1.drop 24).drop 24).drop 24).drop 24), List.all_append, w_t5, w_t6]
  rfl
set_option maxRecDepth 65536 in
theorem w_case : (Jvm.Cond.and given_1 narrow_1).before args0 about1 = true := by decide +kernel
theorem w_applies : (headSpec (Jvm.Cond.code x code maxLocals ret :: tables_1) room_1).applies x e0.platform about1 = true :=
  (Spec.applies_iff w_frames).mpr ⟨w_running, w_runnable, w_alone, w_named, w_hears, w_ripe, w_room, w_tables⟩
theorem atStart : AtStart classFile x code maxLocals ret World_1 tables_1 room_1 Calls_1 rest_1 Pre_1 launch0 p0 e0 about1 theMethod args0 below0 :=
  ⟨lists_1, trivial, launch0.admits_env _ _ _, launch0.least_env, fairChoices_fair.cas, fairChoices_fair.clock, w_frames, w_args, w_heap, w_applies, trivial, trivial, w_case⟩
end start1
theorem witness_1 : WitnessClaimed_1 := ⟨start1.p0, start1.e0, start1.about1, start1.theMethod, start1.args0, start1.below0, start1.atStart⟩
end Jvm.Pilot.@@N@@
