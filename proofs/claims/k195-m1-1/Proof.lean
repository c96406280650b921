import JvmDerived
import JvmDerived.Pilot.@@N@@Statement
import JvmDerived.Pilot.@@N@@Code
set_option linter.unusedVariables false
set_option linter.unusedSimpArgs false
namespace Jvm.RoadKit
open Sem ClassFile Op Lib Jvm.Stand Jvm.Free Jvm.LawKit
section New
variable {p : Program} {l : Launch} {e : Env} {R : Room} {s : State} {m : MethodId} {args : Array Value} {below : List Frame} {meth : Method} {c : Code} {T : State} {locs : List Loc} {cells slots : Nat}
theorem retI (X : Stand p l e R s m args below meth c T locs cells slots) (hx : p.tables.exec = Jvm.exec) {pc : Nat} {Ls : Array Slot} {z : Int32} {rest : List Value} (hret : meth.sig.returnType = some .int) (hd : decode c.code pc = .ok (.ireturn, 1)) {fs : List Frame}
    (hl : ∀ (f : JFrame) (acts : List Action), f.method = m → f.locked = none → f.entered = [] → (doReturn e (T.setTop f) acts (some (.int z))).1 = T.setFrames fs) : Steps p.tables e below (T.setTop (mkF m pc Ls (.int z :: rest))) (T.setFrames fs) := by
  have hm' : T.vm.method? m = some meth := X.method'
  have hn : narrow .int (.int z) = .int z := rfl
  show Steps p.tables e below (T.setTop { method := m, pc := pc, locals := Ls, stack := _ :: rest, locked := none }) _
  jvm_step X.here [X.here.top, hx, hd, hm', hret, hn]
  first | (intro acts; rw [hl _ acts rfl rfl rfl]) | rw [hl _ _ rfl rfl rfl]
  exact Steps.refl _
end New
end Jvm.RoadKit
namespace Jvm.Pilot.@@N@@
open Jvm Jvm.ClassFile Sem Op Lib Jvm.Free Jvm.Stand Jvm.LawKit Jvm.RoadKit Bundle Jvm.Pilot.@@N@@.Jvm.D
theorem tk {L : List Jvm.Cond} {d : Jvm.Cond} (i : Nat) (h : L[i]? = some d) : d ∈ L := List.mem_of_getElem? h
/-! own small facts: what the case says of a pinned static's field -/
theorem own_fld {args : Array Value} {s : State} {t : Term} {C n d : String} {w : Addr} {k : Int32} (ht : t.eval args s none [] s = some (.ref w)) (h : (Cond.eq (.field t C n d) (.int k)).value args s none s [] = some true) : Fld s s.heap w C n d (.int k) := by
  obtain ⟨x, y, hx, hy, -, kin⟩ := cmp_v (Or.inl h)
  obtain rfl : Value.int k = y := Option.some.inj hy
  obtain ⟨z, rfl⟩ := kin
  have e : z = k := by simpa [Cond.value, hx, hy] using h
  subst e
  exact Fld.start ((fld_at ht).symm.trans hx)
theorem own_fldN {args : Array Value} {s : State} {t : Term} {C n d : String} {w : Addr} (ht : t.eval args s none [] s = some (.ref w)) (h : (Cond.eq (.field t C n d) .null).value args s none s [] = some true) : Fld s s.heap w C n d .null :=
  Fld.start ((fld_at ht).symm.trans (null_v h))
theorem own_nsroot {Z : State} {a0 : Array Value} {O K : String} {n : Nat} (w : (Cond.noSuperclass O).before a0 Z = true) (wk : (Cond.instantiable K n).before a0 Z = true) (hn : O ≠ K) : NS Z O K := by
  obtain ⟨c, k, h1, h2, h3, -, -⟩ := Cond.noSuperclass_spec w
  obtain ⟨t, -, g1, -⟩ := Cond.instantiable_spec wk
  have ne := ids_ne h1 g1 hn
  refine ⟨c, t, h1, g1, fun fuel => ?_⟩
  cases fuel with
  | zero => rfl
  | succ f => simp [Vm.isSubclassAux, ne, h2, h3]
theorem own_nsno {Z : State} {a0 : Array Value} {C S K : String} {n : Nat} (w : (Cond.superclass C S).before a0 Z = true) (wk : (Cond.instantiable K n).before a0 Z = true) (ns : NS Z C K) (hn : C ≠ K) : ∃ c t, Z.vm.findClass C = some c ∧ Z.vm.findClass K = some t ∧ Z.vm.assignable c t = false := by
  obtain ⟨c, t, h0, g0, n3⟩ := ns
  obtain ⟨p, k, kp, h1, h2, h3, h4, h5, -, h7⟩ := Cond.superclass_spec h0 w
  obtain ⟨t', k', g1, g2, g3, g4, -⟩ := Cond.instantiable_spec wk
  cases g0.symm.trans g1
  have ne := ids_ne h0 g0 hn
  have g5 : k'.isInterface = false := (Bool.or_eq_false_iff.mp g4).1
  refine ⟨c, t, h0, g0, ?_⟩
  show Z.vm.assignableAux (255 + 1) c t = false
  simp [Vm.assignableAux, ne, h2, g2, h5, g3, g5, Vm.isSubclass, n3]
theorem own_nar {v : Value} {C : String} (h : v.isRef = true) : narrow (.object C) v = v := by rcases ref_cases h with rfl | ⟨a, rfl⟩ <;> rfl
theorem own_fit {v : Value} {C : String} (h : v.isRef = true) : fits (.object C) v = true := by rcases ref_cases h with rfl | ⟨a, rfl⟩ <;> rfl
theorem own_refof {v : Value} (h : v.isRef = true) (n : ¬ v = .null) : ∃ a, v = .ref a := (ref_cases h).elim (fun q => absurd q n) id
theorem own_sint {args : Array Value} {s : State} {t : Term} {k : Int32} (h : (Cond.eq t (.int k)).value args s none s [] = some true) : t.eval args s none [] s = some (.int k) := by
  obtain ⟨x, y, hx, hy, -, kin⟩ := cmp_v (Or.inl h)
  obtain rfl : Value.int k = y := Option.some.inj hy
  obtain ⟨z, rfl⟩ := kin
  have e : z = k := by simpa [Cond.value, hx, hy] using h
  subst e; exact hx
theorem own_snot {args : Array Value} {s : State} {t : Term} {k z : Int32} (ht : t.eval args s none [] s = some (.int z)) (h : (Cond.not (Cond.eq t (.int k))).value args s none s [] = some true) : ¬ z = k := by
  have := not_v h
  intro e
  subst e
  simp [Cond.value, ht, Term.eval] at this
theorem own_seq {args : Array Value} {s : State} {t u : Term} {a b : Addr} (ht : t.eval args s none [] s = some (.ref a)) (hu : u.eval args s none [] s = some (.ref b)) (h : (Cond.eq t u).value args s none s [] = some true) : b = a := by
  have e : a = b := by simpa [Cond.value, ht, hu] using h
  exact e.symm
theorem own_len {args : Array Value} {s : State} {t : Term} {a : Addr} {c : Cell} {ty : FieldType} {n : Int32} (ht : t.eval args s none [] s = some (.ref a)) (A : Arr s s.heap a c ty) (h : (Cond.eq (.length t) (.int n)).value args s none s [] = some true) : c.slots.size < 2 ^ 31 ∧ c.slots.size.toInt32 = n := by
  have e0 := own_sint h
  have hfin := A.fin (Vm.Alike.refl _)
  by_cases hl : c.slots.size < 2 ^ 31
  · rw [len_f ht hfin hl] at e0
    exact ⟨hl, Value.int.inj (Option.some.inj e0)⟩
  · exfalso
    simp [Term.eval, ht, hfin, hl] at e0
theorem own_elem {args : Array Value} {s : State} {t u : Term} {a w : Addr} {c : Cell} {i : Int32} (ht : t.eval args s none [] s = some (.ref a)) (hc : s.heap[a]? = some c) (hu : u.eval args s none [] s = some (.ref w)) (h : (Cond.eq (.elem t (.int i)) u).value args s none s [] = some true) : c.slots[i.toNatClampNeg]? = some (.ref w) := by
  obtain ⟨x, y, hx, hy, k1, k2⟩ := cmp_v (Or.inl h)
  obtain rfl : Value.ref w = y := Option.some.inj (hu.symm.trans hy)
  have e := gotT (eq_R hx hu k2.2 rfl) h
  rw [e] at hx
  exact (elem_in hx ht (Term.int_eval i) hc).2
theorem own_ldcF {p : Program} {l : Launch} {e : Env} {R : Room} {s : State} {m : MethodId} {args : Array Value} {below : List Frame} {meth : Method} {c : Code} {T : State} {locs : List Loc} {cells slots : Nat}
    (X : Stand p l e R s m args below meth c T locs cells slots) (hx : p.tables.exec = Jvm.exec) {own : String} {index : Nat} {b : UInt32} (hown : s.vm.findClass own = some m.cls) (w : (Cond.constantFloat own index b).before args s = true) {g : JFrame} (hg : g.method = m) (hd : decode c.code g.pc = .ok (.ldc index, 2)) :
    ∀ target, Steps p.tables e below (T.setTop { g with pc := g.pc + 2, stack := .float b :: g.stack }) target → Steps p.tables e below (T.setTop g) target := by
  obtain ⟨k, cf, h1, h2, h3⟩ := Cond.constantFloat_spec hown w
  exact X.ldcFloat hx h1 h2 h3 hg hd
theorem own_old {Z : State} {n0 : Nat} {h : Heap} (O : Old Z n0 h) : n0 ≤ h.size := O.1 ▸ O.2.1
theorem own_rand (x m : Int32) (n : Int) (h0 : 0 ≤ m.toInt) (h1 : m.toInt < n) : 0 ≤ (x &&& m).toInt ∧ (x &&& m).toInt < n := by
  have := c_and x m h0; omega
theorem own_rrem (x y : Int32) (n : Int) (h0 : 0 ≤ x.toInt) (hy : y.toInt = n) (hn : 0 < n) : 0 ≤ (x % y).toInt ∧ (x % y).toInt < n := by
  rw [(c_irem x y n hy).1 h0]; exact ⟨Int.emod_nonneg _ (by omega), Int.emod_lt_of_pos _ hn⟩
theorem own_rshr (x q : Int32) (k : Nat) (m : Int) {n : Int} (r : 0 ≤ x.toInt ∧ x.toInt < n) (hk : q.toBitVec.toNat % 32 = k) (hm : (n - 1) / ((2 ^ k : Nat) : Int) < m) : 0 ≤ (x >>> (q &&& 31)).toInt ∧ (x >>> (q &&& 31)).toInt < m := by
  rw [c_ishr x q k hk]
  have hp : (0 : Int) < ((2 ^ k : Nat) : Int) := by exact_mod_cast Nat.two_pow_pos k
  exact ⟨Int.ediv_nonneg r.1 (Int.le_of_lt hp), Int.lt_of_le_of_lt (Int.ediv_le_ediv hp (by omega)) hm⟩
theorem own_off {e c : Int32} {n : Int} (r : 0 ≤ e.toInt ∧ e.toInt < n) (h : decide (n ≤ c.toInt ∨ c.toInt < 0) = true) : ¬ e = c := fun z => by
  subst z
  have := of_decide_eq_true h
  omega
theorem own_below {e c : Int32} {n : Int} (r : 0 ≤ e.toInt ∧ e.toInt < n) (h : n ≤ c.toInt) : e < c := by rw [Int32.lt_iff_toInt_lt]; omega
theorem own_notbelow {e c : Int32} {n : Int} (r : 0 ≤ e.toInt ∧ e.toInt < n) (h : c.toInt ≤ 0) : ¬ e < c := by rw [Int32.lt_iff_toInt_lt]; omega
theorem own_notabove {e c : Int32} {n : Int} (r : 0 ≤ e.toInt ∧ e.toInt < n) (h : n - 1 ≤ c.toInt) : ¬ c < e := by rw [Int32.lt_iff_toInt_lt]; omega
theorem own_above {e c : Int32} {n : Int} (r : 0 ≤ e.toInt ∧ e.toInt < n) (h : c.toInt < 0) : c < e := by rw [Int32.lt_iff_toInt_lt]; omega
theorem own_lt {a b : Int32} {n : Int} (h : a < b) (e : b.toInt = n) : a.toInt < n := by rw [← e]; exact Int32.lt_iff_toInt_lt.mp h
theorem own_ne {a b : Int32} {n : Int} (h : ¬ a = b) (e : b.toInt = n) : a.toInt ≠ n := fun z => h (Int32.toInt_inj.mp (z.trans e.symm))
theorem own_eq {a b : Int32} {n : Int} (e : b.toInt = n) (h : a.toInt = n) : a = b := Int32.toInt_inj.mp (h.trans e.symm)
abbrev Y0 : MethodName := (⟨"com/example/vetd/vetd/DecisionDenyOverPermitPinLaw", "pick", "(I)Lcom/example/vetd/vetd/Decision;"⟩ : MethodName)
abbrev Y1 : MethodName := (⟨"com/example/vetd/vetd/Decision", "denyOverPermit", "(Lcom/example/vetd/vetd/Decision;Lcom/example/vetd/vetd/Decision;)Lcom/example/vetd/vetd/Decision;"⟩ : MethodName)
abbrev Y2 : MethodName := (⟨"com/example/vetd/vetd/DecisionDenyOverPermitPinLaw", "rank", "(Lcom/example/vetd/vetd/Decision;)I"⟩ : MethodName)
abbrev Y3 : MethodName := (⟨"java/lang/Math", "max", "(II)I"⟩ : MethodName)

def StF (Z : State) (w_1 : Addr) (w_2 : Addr) : Prop :=
  Sta Z Z.heap "com/example/vetd/vetd/Decision" "DENY" "Lcom/example/vetd/vetd/Decision;" (.ref w_1) ∧
  Exa Z Z.heap w_1 "com/example/vetd/vetd/Decision" ∧
  Sta Z Z.heap "com/example/vetd/vetd/Decision" "PERMIT" "Lcom/example/vetd/vetd/Decision;" (.ref w_2) ∧
  Exa Z Z.heap w_2 "com/example/vetd/vetd/Decision" ∧
  Fld Z Z.heap w_1 "java/lang/Enum" "ordinal" "I" (.int (1 : Int32)) ∧
  Fld Z Z.heap w_2 "java/lang/Enum" "ordinal" "I" (.int (0 : Int32))
theorem d1_0 : decode method_2_code 0 = .ok (.iload_n 0, 1) := by decide +kernel
theorem d1_1 : decode method_2_code 1 = .ok (.ldc 7, 2) := by decide +kernel
theorem d1_3 : decode method_2_code 3 = .ok (.iand, 1) := by decide +kernel
theorem d1_4 : decode method_2_code 4 = .ok (.iconst 3, 1) := by decide +kernel
theorem d1_5 : decode method_2_code 5 = .ok (.irem, 1) := by decide +kernel
theorem d1_6 : decode method_2_code 6 = .ok (.istore_n 1, 1) := by decide +kernel
theorem d1_7 : decode method_2_code 7 = .ok (.iload_n 1, 1) := by decide +kernel
theorem d1_8 : decode method_2_code 8 = .ok (.ifCond .ne 5, 3) := by decide +kernel
theorem d1_11 : decode method_2_code 11 = .ok (.aconst_null, 1) := by decide +kernel
theorem d1_12 : decode method_2_code 12 = .ok (.areturn, 1) := by decide +kernel
theorem d1_13 : decode method_2_code 13 = .ok (.iload_n 1, 1) := by decide +kernel
theorem d1_14 : decode method_2_code 14 = .ok (.iconst 1, 1) := by decide +kernel
theorem d1_15 : decode method_2_code 15 = .ok (.if_icmp .ne 7, 3) := by decide +kernel
theorem d1_18 : decode method_2_code 18 = .ok (.getstatic 8, 3) := by decide +kernel
theorem d1_21 : decode method_2_code 21 = .ok (.areturn, 1) := by decide +kernel
theorem d1_22 : decode method_2_code 22 = .ok (.getstatic 14, 3) := by decide +kernel
theorem d1_25 : decode method_2_code 25 = .ok (.areturn, 1) := by decide +kernel
theorem pn_1 : plainName "com/example/vetd/vetd/DecisionDenyOverPermitPinLaw" = true := by first | (simp [plainName, overriddenIn]; done) | decide +kernel
theorem ef_1 (m : MethodId) (p0 : Int32) : entryFrame m #[(.int p0)] 2 = mkF m 0 #[.val (.int p0), .unset] [] := by first | (simp [entryFrame, mkF, argsToLocals, Value.category]; done) | rfl
def sp1 (w_1 : Addr) (w_2 : Addr) (p0 : Int32) : Value := (if ((p0 &&& (2147483647 : Int32)) % (3 : Int32)) = (0 : Int32) then .null else (if ((p0 &&& (2147483647 : Int32)) % (3 : Int32)) = (1 : Int32) then (.ref w_2) else (.ref w_1)))
def Q1 (Z : State) (w_1 : Addr) (w_2 : Addr) (p0 : Int32) (h0 : Heap) (n0 : Nat) (v : Option Value) (h : Heap) (L : List Loc) : Prop := v = some (sp1 w_1 w_2 p0) ∧ Fr n0 L ∧ h = h0
set_option maxRecDepth 65536 in
set_option maxHeartbeats 40000000 in
theorem rm1 (l : Launch) (Z : State) (a0 : Array Value) (hw : ∀ d ∈ tables_1, d.before a0 Z = true) (ws : List Jvm.Cond) (w_1 : Addr) (w_2 : Addr) (hS : StF Z w_1 w_2) (p0 : Int32) (h0 : Heap) (n0 : Nat) (O0 : Old Z n0 h0) :
    MetFree l Y0 (head1 (Jvm.Cond.code Y0 method_2_code 2 (some (.object "com/example/vetd/vetd/Decision")) :: ws) ({ frames := 0, cells := 0, slots := 0, locals := 0 } : Room)) (fun a U => a = #[(.int p0)] ∧ Z.Warmed39 U.vm ∧ U.heap = h0) (fun _ _ _ _ _ => True) (fun _ U o U' => ∃ v L, o = .returned v ∧ Q1 Z w_1 w_2 p0 h0 n0 v U'.heap L ∧ FrameEnd U o U' L ({ frames := 0, cells := 0, slots := 0, locals := 0 } : Room).cells ({ frames := 0, cells := 0, slots := 0, locals := 0 } : Room).slots) := by
  refine MetFree.of_bodySF (plainFor_of_name pn_1) hisR ?_
  intro p e s m args below meth c s₁ Bd hml0 hP hK
  obtain ⟨rfl, hZ, hh⟩ := hP
  have hx := Bd.exec
  have hby := Bd.bytes
  have hml : c.maxLocals = 2 := hml0
  have hown : s.vm.findClass "com/example/vetd/vetd/DecisionDenyOverPermitPinLaw" = some m.cls := findClass_of_methodNamed Bd.named
  have hnm := (name_of_methodNamed Bd.named Bd.method).1
  have X0 : Stand p l e ({ frames := 0, cells := 0, slots := 0, locals := 0 } : Room) s m #[(.int p0)] below meth c s₁ [] 0 0 := Stand.of_body Bd
  have e0 : s₁.heap = h0 := by rw [← hh, Bd.state]; rfl
  have N0 := Fr.nil n0
  have hS0 := hS
  obtain ⟨S_1, E_1, S_2, E_2, F_1_ordinal, F_2_ordinal⟩ := hS
  have pre0 : ∀ t, Steps p.tables e below (s₁.setTop (mkF m 0 #[.val (.int p0), .unset] [])) t → Steps p.tables e below (s₁.setTop (entryFrame m #[(.int p0)] 2)) t := fun t k => castTop (ef_1 m p0) k
  have pre7 : ∀ t, Steps p.tables e below (s₁.setTop (mkF m 8 #[.val (.int p0), .val (.int ((p0 &&& (2147483647 : Int32)) % (3 : Int32)))] [(.int ((p0 &&& (2147483647 : Int32)) % (3 : Int32)))])) t → Steps p.tables e below (s₁.setTop (entryFrame m #[(.int p0)] 2)) t := fun t kt => by
    refine pre0 t ?_
    show Steps p.tables e below (s₁.setTop (mkF m 0 #[.val (.int p0), .unset] [])) _
    refine XS.iloadN X0.here hx rfl (hb hby d1_0) rfl ?_
    show Steps p.tables e below (s₁.setTop (mkF m 1 #[.val (.int p0), .unset] [(.int p0)])) _
    refine X0.ldcInt hx hown (mvT hZ (hw _ (tk 4 rfl))) (g := (mkF m 1 #[.val (.int p0), .unset] [(.int p0)])) rfl (hb hby d1_1) _ ?_
    show Steps p.tables e below (s₁.setTop (mkF m 3 #[.val (.int p0), .unset] [(.int (2147483647 : Int32)), (.int p0)])) _
    refine XS.iand X0.here hx rfl (hb hby d1_3) rfl ?_
    show Steps p.tables e below (s₁.setTop (mkF m 4 #[.val (.int p0), .unset] [(.int (p0 &&& (2147483647 : Int32)))])) _
    refine XS.iconst X0.here hx rfl (hb hby d1_4) ?_
    show Steps p.tables e below (s₁.setTop (mkF m 5 #[.val (.int p0), .unset] [(.int (3 : Int32)), (.int (p0 &&& (2147483647 : Int32)))])) _
    refine iremM X0 hx rfl (hb hby d1_5) rfl (by decide : ¬ ((3 : Int32) = (0 : Int32))) ?_
    show Steps p.tables e below (s₁.setTop (mkF m 6 #[.val (.int p0), .unset] [(.int ((p0 &&& (2147483647 : Int32)) % (3 : Int32)))])) _
    refine XS.istoreN X0.here hx rfl (hb hby d1_6) rfl (l' := #[.val (.int p0), .val (.int ((p0 &&& (2147483647 : Int32)) % (3 : Int32)))]) rfl ?_
    show Steps p.tables e below (s₁.setTop (mkF m 7 #[.val (.int p0), .val (.int ((p0 &&& (2147483647 : Int32)) % (3 : Int32)))] [])) _
    refine XS.iloadN X0.here hx rfl (hb hby d1_7) rfl ?_
    show Steps p.tables e below (s₁.setTop (mkF m 8 #[.val (.int p0), .val (.int ((p0 &&& (2147483647 : Int32)) % (3 : Int32)))] [(.int ((p0 &&& (2147483647 : Int32)) % (3 : Int32)))])) _
    exact kt
  by_cases hc8 : ((p0 &&& (2147483647 : Int32)) % (3 : Int32)) = (0 : Int32)
  · obtain ⟨fs, hr, hrun, hended, hW, hsame⟩ := X0.leave (v := some .null) (fun h => by rw [Bd.returns] at h; cases h)
    refine ⟨_, _, pre7 _ ?_, hrun, hended, _, _, rfl, ?_, ⟨_, rfl⟩, hW, hsame.mono (by decide) (by decide)⟩
    · show Steps p.tables e below (s₁.setTop (mkF m 8 #[.val (.int p0), .val (.int ((p0 &&& (2147483647 : Int32)) % (3 : Int32)))] [(.int ((p0 &&& (2147483647 : Int32)) % (3 : Int32)))])) _
      refine XS.ifNo X0.here hx rfl (hb hby d1_8) rfl ((if0 _ _).trans (teq hc8).2) ?_
      show Steps p.tables e below (s₁.setTop (mkF m 11 #[.val (.int p0), .val (.int ((p0 &&& (2147483647 : Int32)) % (3 : Int32)))] [])) _
      refine XS.aconstNull X0.here hx rfl (hb hby d1_11) ?_
      show Steps p.tables e below (s₁.setTop (mkF m 12 #[.val (.int p0), .val (.int ((p0 &&& (2147483647 : Int32)) % (3 : Int32)))] [.null])) _
      jvm_step X0.here [X0.here.top, hx, (hb hby d1_12), X0.method', Bd.returns, Value.isRef, FieldType.isReference]
      first | (intro acts; rw [hr _ acts rfl rfl rfl]) | rw [hr _ _ rfl rfl rfl]
      exact Steps.refl _
    · show Q1 Z w_1 w_2 p0 h0 n0 _ s₁.heap _
      rw [e0]
      exact ⟨by unfold sp1; rw [if_pos hc8], N0, rfl⟩
  · have pre9 : ∀ t, Steps p.tables e below (s₁.setTop (mkF m 15 #[.val (.int p0), .val (.int ((p0 &&& (2147483647 : Int32)) % (3 : Int32)))] [(.int (1 : Int32)), (.int ((p0 &&& (2147483647 : Int32)) % (3 : Int32)))])) t → Steps p.tables e below (s₁.setTop (entryFrame m #[(.int p0)] 2)) t := fun t kt => by
      refine pre7 t ?_
      show Steps p.tables e below (s₁.setTop (mkF m 8 #[.val (.int p0), .val (.int ((p0 &&& (2147483647 : Int32)) % (3 : Int32)))] [(.int ((p0 &&& (2147483647 : Int32)) % (3 : Int32)))])) _
      refine XS.ifYes X0.here hx rfl (pc0 := 8) (pc' := 13) rfl (hb hby d1_8) rfl ((if0 _ _).trans (feq hc8).2) (by decide) (by decide) ?_
      show Steps p.tables e below (s₁.setTop (mkF m 13 #[.val (.int p0), .val (.int ((p0 &&& (2147483647 : Int32)) % (3 : Int32)))] [])) _
      refine XS.iloadN X0.here hx rfl (hb hby d1_13) rfl ?_
      show Steps p.tables e below (s₁.setTop (mkF m 14 #[.val (.int p0), .val (.int ((p0 &&& (2147483647 : Int32)) % (3 : Int32)))] [(.int ((p0 &&& (2147483647 : Int32)) % (3 : Int32)))])) _
      refine XS.iconst X0.here hx rfl (hb hby d1_14) ?_
      show Steps p.tables e below (s₁.setTop (mkF m 15 #[.val (.int p0), .val (.int ((p0 &&& (2147483647 : Int32)) % (3 : Int32)))] [(.int (1 : Int32)), (.int ((p0 &&& (2147483647 : Int32)) % (3 : Int32)))])) _
      exact kt
    by_cases hc10 : ((p0 &&& (2147483647 : Int32)) % (3 : Int32)) = (1 : Int32)
    · obtain ⟨T11, X11, e11, st11⟩ := getS2 X0 hx hZ hown (host := "") (Or.inl (hw _ (tk 21 rfl))) Via.refl e0 (S_2.ext O0.2) (g := (mkF m 18 #[.val (.int p0), .val (.int ((p0 &&& (2147483647 : Int32)) % (3 : Int32)))] [])) rfl (hb hby d1_18)
      obtain ⟨fs, hr, hrun, hended, hW, hsame⟩ := X11.leave (v := some (.ref w_2)) (fun h => by rw [Bd.returns] at h; cases h)
      refine ⟨_, _, pre9 _ ?_, hrun, hended, _, _, rfl, ?_, ⟨_, rfl⟩, hW, hsame.mono (by decide) (by decide)⟩
      · show Steps p.tables e below (s₁.setTop (mkF m 15 #[.val (.int p0), .val (.int ((p0 &&& (2147483647 : Int32)) % (3 : Int32)))] [(.int (1 : Int32)), (.int ((p0 &&& (2147483647 : Int32)) % (3 : Int32)))])) _
        refine XS.icmpNo X0.here hx rfl (hb hby d1_15) rfl (teq hc10).2 ?_
        show Steps p.tables e below (s₁.setTop (mkF m 18 #[.val (.int p0), .val (.int ((p0 &&& (2147483647 : Int32)) % (3 : Int32)))] [])) _
        refine st11 _ ?_
        show Steps p.tables e below (T11.setTop (mkF m 21 #[.val (.int p0), .val (.int ((p0 &&& (2147483647 : Int32)) % (3 : Int32)))] [(.ref w_2)])) _
        jvm_step X11.here [X11.here.top, hx, (hb hby d1_21), X11.method', Bd.returns, Value.isRef, FieldType.isReference]
        first | (intro acts; rw [hr _ acts rfl rfl rfl]) | rw [hr _ _ rfl rfl rfl]
        exact Steps.refl _
      · show Q1 Z w_1 w_2 p0 h0 n0 _ T11.heap _
        rw [e11]
        exact ⟨by unfold sp1; rw [if_neg hc8, if_pos hc10], N0, rfl⟩
    · obtain ⟨T12, X12, e12, st12⟩ := getS2 X0 hx hZ hown (host := "") (Or.inl (hw _ (tk 20 rfl))) Via.refl e0 (S_1.ext O0.2) (g := (mkF m 22 #[.val (.int p0), .val (.int ((p0 &&& (2147483647 : Int32)) % (3 : Int32)))] [])) rfl (hb hby d1_22)
      obtain ⟨fs, hr, hrun, hended, hW, hsame⟩ := X12.leave (v := some (.ref w_1)) (fun h => by rw [Bd.returns] at h; cases h)
      refine ⟨_, _, pre9 _ ?_, hrun, hended, _, _, rfl, ?_, ⟨_, rfl⟩, hW, hsame.mono (by decide) (by decide)⟩
      · show Steps p.tables e below (s₁.setTop (mkF m 15 #[.val (.int p0), .val (.int ((p0 &&& (2147483647 : Int32)) % (3 : Int32)))] [(.int (1 : Int32)), (.int ((p0 &&& (2147483647 : Int32)) % (3 : Int32)))])) _
        refine XS.icmpYes X0.here hx rfl (pc0 := 15) (pc' := 22) rfl (hb hby d1_15) rfl (feq hc10).2 (by decide) (by decide) ?_
        show Steps p.tables e below (s₁.setTop (mkF m 22 #[.val (.int p0), .val (.int ((p0 &&& (2147483647 : Int32)) % (3 : Int32)))] [])) _
        refine st12 _ ?_
        show Steps p.tables e below (T12.setTop (mkF m 25 #[.val (.int p0), .val (.int ((p0 &&& (2147483647 : Int32)) % (3 : Int32)))] [(.ref w_1)])) _
        jvm_step X12.here [X12.here.top, hx, (hb hby d1_25), X12.method', Bd.returns, Value.isRef, FieldType.isReference]
        first | (intro acts; rw [hr _ acts rfl rfl rfl]) | rw [hr _ _ rfl rfl rfl]
        exact Steps.refl _
      · show Q1 Z w_1 w_2 p0 h0 n0 _ T12.heap _
        rw [e12]
        exact ⟨by unfold sp1; rw [if_neg hc8, if_neg hc10], N0, rfl⟩
theorem d2_0 : decode prog_4_method_5_code 0 = .ok (.aconst_null, 1) := by decide +kernel
theorem d2_1 : decode prog_4_method_5_code 1 = .ok (.astore_n 2, 1) := by decide +kernel
theorem d2_2 : decode prog_4_method_5_code 2 = .ok (.aload_n 0, 1) := by decide +kernel
theorem d2_3 : decode prog_4_method_5_code 3 = .ok (.getstatic 7, 3) := by decide +kernel
theorem d2_6 : decode prog_4_method_5_code 6 = .ok (.if_acmp .eq 10, 3) := by decide +kernel
theorem d2_9 : decode prog_4_method_5_code 9 = .ok (.aload_n 1, 1) := by decide +kernel
theorem d2_10 : decode prog_4_method_5_code 10 = .ok (.getstatic 7, 3) := by decide +kernel
theorem d2_13 : decode prog_4_method_5_code 13 = .ok (.if_acmp .ne 10, 3) := by decide +kernel
theorem d2_23 : decode prog_4_method_5_code 23 = .ok (.aload_n 0, 1) := by decide +kernel
theorem d2_24 : decode prog_4_method_5_code 24 = .ok (.getstatic 3, 3) := by decide +kernel
theorem d2_27 : decode prog_4_method_5_code 27 = .ok (.if_acmp .eq 10, 3) := by decide +kernel
theorem d2_30 : decode prog_4_method_5_code 30 = .ok (.aload_n 1, 1) := by decide +kernel
theorem d2_31 : decode prog_4_method_5_code 31 = .ok (.getstatic 3, 3) := by decide +kernel
theorem d2_34 : decode prog_4_method_5_code 34 = .ok (.if_acmp .ne 7, 3) := by decide +kernel
theorem d2_41 : decode prog_4_method_5_code 41 = .ok (.aload_n 2, 1) := by decide +kernel
theorem d2_42 : decode prog_4_method_5_code 42 = .ok (.areturn, 1) := by decide +kernel
theorem pn_2n0_1 : plainName "com/example/vetd/vetd/Decision" = true := by first | (simp [plainName, overriddenIn]; done) | decide +kernel
theorem ef_2n0_1 (m : MethodId)  : entryFrame m #[.null, .null] 3 = mkF m 0 #[.val .null, .val .null, .unset] [] := by first | (simp [entryFrame, mkF, argsToLocals, Value.category]; done) | rfl
def sp2n0_1  : Value := .null
def Q2n0_1 (Z : State) (w_1 : Addr) (w_2 : Addr) (h0 : Heap) (n0 : Nat) (v : Option Value) (h : Heap) (L : List Loc) : Prop := v = some (sp2n0_1) ∧ Fr n0 L ∧ h = h0
set_option maxRecDepth 65536 in
set_option maxHeartbeats 40000000 in
theorem rm2n0_1 (l : Launch) (Z : State) (a0 : Array Value) (hw : ∀ d ∈ tables_1, d.before a0 Z = true) (ws : List Jvm.Cond) (w_1 : Addr) (w_2 : Addr) (hS : StF Z w_1 w_2) (h0 : Heap) (n0 : Nat) (O0 : Old Z n0 h0) :
    MetFree l Y1 (head1 (Jvm.Cond.code Y1 prog_4_method_5_code 3 (some (.object "com/example/vetd/vetd/Decision")) :: ws) ({ frames := 0, cells := 0, slots := 0, locals := 0 } : Room)) (fun a U => a = #[.null, .null] ∧ Z.Warmed39 U.vm ∧ U.heap = h0) (fun _ _ _ _ _ => True) (fun _ U o U' => ∃ v L, o = .returned v ∧ Q2n0_1 Z w_1 w_2 h0 n0 v U'.heap L ∧ FrameEnd U o U' L ({ frames := 0, cells := 0, slots := 0, locals := 0 } : Room).cells ({ frames := 0, cells := 0, slots := 0, locals := 0 } : Room).slots) := by
  refine MetFree.of_bodySF (plainFor_of_name pn_2n0_1) hisR ?_
  intro p e s m args below meth c s₁ Bd hml0 hP hK
  obtain ⟨rfl, hZ, hh⟩ := hP
  have hx := Bd.exec
  have hby := Bd.bytes
  have hml : c.maxLocals = 3 := hml0
  have hown : s.vm.findClass "com/example/vetd/vetd/Decision" = some m.cls := findClass_of_methodNamed Bd.named
  have hnm := (name_of_methodNamed Bd.named Bd.method).1
  have X0 : Stand p l e ({ frames := 0, cells := 0, slots := 0, locals := 0 } : Room) s m #[.null, .null] below meth c s₁ [] 0 0 := Stand.of_body Bd
  have e0 : s₁.heap = h0 := by rw [← hh, Bd.state]; rfl
  have N0 := Fr.nil n0
  have hS0 := hS
  obtain ⟨S_1, E_1, S_2, E_2, F_1_ordinal, F_2_ordinal⟩ := hS
  have pre0 : ∀ t, Steps p.tables e below (s₁.setTop (mkF m 0 #[.val .null, .val .null, .unset] [])) t → Steps p.tables e below (s₁.setTop (entryFrame m #[.null, .null] 3)) t := fun t k => castTop (ef_2n0_1 m ) k
  obtain ⟨T19, X19, e19, st19⟩ := getS2 X0 hx hZ hown (host := "") (Or.inl (hw _ (tk 9 rfl))) Via.refl e0 (S_1.ext O0.2) (g := (mkF m 3 #[.val .null, .val .null, .val .null] [.null])) rfl (hb hby d2_3)
  obtain ⟨T20, X20, e20, st20⟩ := getS2 X19 hx hZ hown (host := "") (Or.inl (hw _ (tk 9 rfl))) Via.refl e19 (S_1.ext O0.2) (g := (mkF m 10 #[.val .null, .val .null, .val .null] [.null])) rfl (hb hby d2_10)
  obtain ⟨T21, X21, e21, st21⟩ := getS2 X20 hx hZ hown (host := "") (Or.inl (hw _ (tk 11 rfl))) Via.refl e20 (S_2.ext O0.2) (g := (mkF m 24 #[.val .null, .val .null, .val .null] [.null])) rfl (hb hby d2_24)
  obtain ⟨T22, X22, e22, st22⟩ := getS2 X21 hx hZ hown (host := "") (Or.inl (hw _ (tk 11 rfl))) Via.refl e21 (S_2.ext O0.2) (g := (mkF m 31 #[.val .null, .val .null, .val .null] [.null])) rfl (hb hby d2_31)
  obtain ⟨fs, hr, hrun, hended, hW, hsame⟩ := X22.leave (v := some .null) (fun h => by rw [Bd.returns] at h; cases h)
  refine ⟨_, _, pre0 _ ?_, hrun, hended, _, _, rfl, ?_, ⟨_, rfl⟩, hW, hsame.mono (by decide) (by decide)⟩
  · show Steps p.tables e below (s₁.setTop (mkF m 0 #[.val .null, .val .null, .unset] [])) _
    refine XS.aconstNull X0.here hx rfl (hb hby d2_0) ?_
    show Steps p.tables e below (s₁.setTop (mkF m 1 #[.val .null, .val .null, .unset] [.null])) _
    refine XS.astoreN X0.here hx rfl (hb hby d2_1) rfl rfl (l' := #[.val .null, .val .null, .val .null]) rfl ?_
    show Steps p.tables e below (s₁.setTop (mkF m 2 #[.val .null, .val .null, .val .null] [])) _
    refine XS.aloadN X0.here hx rfl (hb hby d2_2) rfl rfl ?_
    show Steps p.tables e below (s₁.setTop (mkF m 3 #[.val .null, .val .null, .val .null] [.null])) _
    refine st19 _ ?_
    show Steps p.tables e below (T19.setTop (mkF m 6 #[.val .null, .val .null, .val .null] [(.ref w_1), .null])) _
    refine Jvm.RoadKit.acmp (g := (mkF m 6 #[.val .null, .val .null, .val .null] [(.ref w_1), .null])) X19 hx rfl rfl rfl (pc0 := 6) (pc' := 9) (same := false) rfl (hb hby d2_6) rfl (decide_eq_false nofun) (by decide) (by decide) ?_
    show Steps p.tables e below (T19.setTop (mkF m 9 #[.val .null, .val .null, .val .null] [])) _
    refine XS.aloadN X19.here hx rfl (hb hby d2_9) rfl rfl ?_
    show Steps p.tables e below (T19.setTop (mkF m 10 #[.val .null, .val .null, .val .null] [.null])) _
    refine st20 _ ?_
    show Steps p.tables e below (T20.setTop (mkF m 13 #[.val .null, .val .null, .val .null] [(.ref w_1), .null])) _
    refine Jvm.RoadKit.acmp (g := (mkF m 13 #[.val .null, .val .null, .val .null] [(.ref w_1), .null])) X20 hx rfl rfl rfl (pc0 := 13) (pc' := 23) (same := false) rfl (hb hby d2_13) rfl (decide_eq_false nofun) (by decide) (by decide) ?_
    show Steps p.tables e below (T20.setTop (mkF m 23 #[.val .null, .val .null, .val .null] [])) _
    refine XS.aloadN X20.here hx rfl (hb hby d2_23) rfl rfl ?_
    show Steps p.tables e below (T20.setTop (mkF m 24 #[.val .null, .val .null, .val .null] [.null])) _
    refine st21 _ ?_
    show Steps p.tables e below (T21.setTop (mkF m 27 #[.val .null, .val .null, .val .null] [(.ref w_2), .null])) _
    refine Jvm.RoadKit.acmp (g := (mkF m 27 #[.val .null, .val .null, .val .null] [(.ref w_2), .null])) X21 hx rfl rfl rfl (pc0 := 27) (pc' := 30) (same := false) rfl (hb hby d2_27) rfl (decide_eq_false nofun) (by decide) (by decide) ?_
    show Steps p.tables e below (T21.setTop (mkF m 30 #[.val .null, .val .null, .val .null] [])) _
    refine XS.aloadN X21.here hx rfl (hb hby d2_30) rfl rfl ?_
    show Steps p.tables e below (T21.setTop (mkF m 31 #[.val .null, .val .null, .val .null] [.null])) _
    refine st22 _ ?_
    show Steps p.tables e below (T22.setTop (mkF m 34 #[.val .null, .val .null, .val .null] [(.ref w_2), .null])) _
    refine Jvm.RoadKit.acmp (g := (mkF m 34 #[.val .null, .val .null, .val .null] [(.ref w_2), .null])) X22 hx rfl rfl rfl (pc0 := 34) (pc' := 41) (same := false) rfl (hb hby d2_34) rfl (decide_eq_false nofun) (by decide) (by decide) ?_
    show Steps p.tables e below (T22.setTop (mkF m 41 #[.val .null, .val .null, .val .null] [])) _
    refine XS.aloadN X22.here hx rfl (hb hby d2_41) rfl rfl ?_
    show Steps p.tables e below (T22.setTop (mkF m 42 #[.val .null, .val .null, .val .null] [.null])) _
    jvm_step X22.here [X22.here.top, hx, (hb hby d2_42), X22.method', Bd.returns, Value.isRef, FieldType.isReference]
    first | (intro acts; rw [hr _ acts rfl rfl rfl]) | rw [hr _ _ rfl rfl rfl]
    exact Steps.refl _
  · show Q2n0_1 Z w_1 w_2 h0 n0 _ T22.heap _
    rw [e22]
    exact ⟨by unfold sp2n0_1; rfl, N0, rfl⟩
theorem d3_0 : decode method_3_code 0 = .ok (.aload_n 0, 1) := by decide +kernel
theorem d3_1 : decode method_3_code 1 = .ok (.ifnonnull 5, 3) := by decide +kernel
theorem d3_4 : decode method_3_code 4 = .ok (.iconst 0, 1) := by decide +kernel
theorem d3_5 : decode method_3_code 5 = .ok (.ireturn, 1) := by decide +kernel
theorem pn_3n0 : plainName "com/example/vetd/vetd/DecisionDenyOverPermitPinLaw" = true := by first | (simp [plainName, overriddenIn]; done) | decide +kernel
theorem ef_3n0 (m : MethodId)  : entryFrame m #[.null] 1 = mkF m 0 #[.val .null] [] := by first | (simp [entryFrame, mkF, argsToLocals, Value.category]; done) | rfl
def sp3n0  : Int32 := (0 : Int32)
def Q3n0 (Z : State) (w_1 : Addr) (w_2 : Addr) (h0 : Heap) (n0 : Nat) (v : Option Value) (h : Heap) (L : List Loc) : Prop := v = some (.int (sp3n0)) ∧ Fr n0 L ∧ h = h0
set_option maxRecDepth 65536 in
set_option maxHeartbeats 40000000 in
theorem rm3n0 (l : Launch) (Z : State) (a0 : Array Value) (hw : ∀ d ∈ tables_1, d.before a0 Z = true) (ws : List Jvm.Cond) (w_1 : Addr) (w_2 : Addr) (hS : StF Z w_1 w_2) (h0 : Heap) (n0 : Nat) (O0 : Old Z n0 h0) :
    MetFree l Y2 (head1 (Jvm.Cond.code Y2 method_3_code 1 (some .int) :: ws) ({ frames := 0, cells := 0, slots := 0, locals := 0 } : Room)) (fun a U => a = #[.null] ∧ Z.Warmed39 U.vm ∧ U.heap = h0) (fun _ _ _ _ _ => True) (fun _ U o U' => ∃ v L, o = .returned v ∧ Q3n0 Z w_1 w_2 h0 n0 v U'.heap L ∧ FrameEnd U o U' L ({ frames := 0, cells := 0, slots := 0, locals := 0 } : Room).cells ({ frames := 0, cells := 0, slots := 0, locals := 0 } : Room).slots) := by
  refine MetFree.of_bodySF (plainFor_of_name pn_3n0) hisR ?_
  intro p e s m args below meth c s₁ Bd hml0 hP hK
  obtain ⟨rfl, hZ, hh⟩ := hP
  have hx := Bd.exec
  have hby := Bd.bytes
  have hml : c.maxLocals = 1 := hml0
  have hown : s.vm.findClass "com/example/vetd/vetd/DecisionDenyOverPermitPinLaw" = some m.cls := findClass_of_methodNamed Bd.named
  have hnm := (name_of_methodNamed Bd.named Bd.method).1
  have X0 : Stand p l e ({ frames := 0, cells := 0, slots := 0, locals := 0 } : Room) s m #[.null] below meth c s₁ [] 0 0 := Stand.of_body Bd
  have e0 : s₁.heap = h0 := by rw [← hh, Bd.state]; rfl
  have N0 := Fr.nil n0
  have hS0 := hS
  obtain ⟨S_1, E_1, S_2, E_2, F_1_ordinal, F_2_ordinal⟩ := hS
  have pre0 : ∀ t, Steps p.tables e below (s₁.setTop (mkF m 0 #[.val .null] [])) t → Steps p.tables e below (s₁.setTop (entryFrame m #[.null] 1)) t := fun t k => castTop (ef_3n0 m ) k
  obtain ⟨fs, hr, hrun, hended, hW, hsame⟩ := X0.leave (v := some (.int (0 : Int32))) (fun h => by rw [Bd.returns] at h; cases h)
  refine ⟨_, _, pre0 _ ?_, hrun, hended, _, _, rfl, ?_, ⟨_, rfl⟩, hW, hsame.mono (by decide) (by decide)⟩
  · show Steps p.tables e below (s₁.setTop (mkF m 0 #[.val .null] [])) _
    refine XS.aloadN X0.here hx rfl (hb hby d3_0) rfl rfl ?_
    show Steps p.tables e below (s₁.setTop (mkF m 1 #[.val .null] [.null])) _
    refine XS.ifnonnullNo X0.here hx rfl (hb hby d3_1) rfl ?_
    show Steps p.tables e below (s₁.setTop (mkF m 4 #[.val .null] [])) _
    refine XS.iconst X0.here hx rfl (hb hby d3_4) ?_
    show Steps p.tables e below (s₁.setTop (mkF m 5 #[.val .null] [(.int (0 : Int32))])) _
    exact retI X0 hx Bd.returns (hb hby d3_5) hr
  · show Q3n0 Z w_1 w_2 h0 n0 _ s₁.heap _
    rw [e0]
    exact ⟨by unfold sp3n0; rfl, N0, rfl⟩
theorem d4_0 : decode jdk_29_method_65_code 0 = .ok (.iload_n 0, 1) := by decide +kernel
theorem d4_1 : decode jdk_29_method_65_code 1 = .ok (.iload_n 1, 1) := by decide +kernel
theorem d4_2 : decode jdk_29_method_65_code 2 = .ok (.if_icmp .lt 7, 3) := by decide +kernel
theorem d4_9 : decode jdk_29_method_65_code 9 = .ok (.iload_n 1, 1) := by decide +kernel
theorem d4_10 : decode jdk_29_method_65_code 10 = .ok (.ireturn, 1) := by decide +kernel
theorem d4_5 : decode jdk_29_method_65_code 5 = .ok (.iload_n 0, 1) := by decide +kernel
theorem d4_6 : decode jdk_29_method_65_code 6 = .ok (.goto 4, 3) := by decide +kernel
theorem ef_4 (m : MethodId) (p0 : Int32) (p1 : Int32) : entryFrame m #[(.int p0), (.int p1)] 2 = mkF m 0 #[.val (.int p0), .val (.int p1)] [] := by first | (simp [entryFrame, mkF, argsToLocals, Value.category]; done) | rfl
def sp4 (p0 : Int32) (p1 : Int32) : Int32 := (if p0 < p1 then p1 else p0)
def Q4 (Z : State) (w_1 : Addr) (w_2 : Addr) (p0 : Int32) (p1 : Int32) (h0 : Heap) (n0 : Nat) (v : Option Value) (h : Heap) (L : List Loc) : Prop := v = some (.int (sp4 p0 p1)) ∧ Fr n0 L ∧ h = h0
set_option maxRecDepth 65536 in
set_option maxHeartbeats 40000000 in
theorem rm4 (l : Launch) (Z : State) (a0 : Array Value) (hw : ∀ d ∈ tables_1, d.before a0 Z = true) (ws : List Jvm.Cond) (w_1 : Addr) (w_2 : Addr) (hS : StF Z w_1 w_2) (p0 : Int32) (p1 : Int32) (h0 : Heap) (n0 : Nat) (O0 : Old Z n0 h0) :
    MetFree l Y3 (head1 (Jvm.Cond.code Y3 jdk_29_method_65_code 2 (some .int) :: ws) ({ frames := 0, cells := 0, slots := 0, locals := 0 } : Room)) (fun a U => a = #[(.int p0), (.int p1)] ∧ Z.Warmed39 U.vm ∧ U.heap = h0) (fun _ _ _ _ _ => True) (fun _ U o U' => ∃ v L, o = .returned v ∧ Q4 Z w_1 w_2 p0 p1 h0 n0 v U'.heap L ∧ FrameEnd U o U' L ({ frames := 0, cells := 0, slots := 0, locals := 0 } : Room).cells ({ frames := 0, cells := 0, slots := 0, locals := 0 } : Room).slots) := by
  refine MetFree.of_bodySF (Jvm.Free.JP.mathPlain rfl (by decide +kernel)) hisR ?_
  intro p e s m args below meth c s₁ Bd hml0 hP hK
  obtain ⟨rfl, hZ, hh⟩ := hP
  have hx := Bd.exec
  have hby := Bd.bytes
  have hml : c.maxLocals = 2 := hml0
  have hown : s.vm.findClass "java/lang/Math" = some m.cls := findClass_of_methodNamed Bd.named
  have hnm := (name_of_methodNamed Bd.named Bd.method).1
  have X0 : Stand p l e ({ frames := 0, cells := 0, slots := 0, locals := 0 } : Room) s m #[(.int p0), (.int p1)] below meth c s₁ [] 0 0 := Stand.of_body Bd
  have e0 : s₁.heap = h0 := by rw [← hh, Bd.state]; rfl
  have N0 := Fr.nil n0
  have hS0 := hS
  obtain ⟨S_1, E_1, S_2, E_2, F_1_ordinal, F_2_ordinal⟩ := hS
  have pre0 : ∀ t, Steps p.tables e below (s₁.setTop (mkF m 0 #[.val (.int p0), .val (.int p1)] [])) t → Steps p.tables e below (s₁.setTop (entryFrame m #[(.int p0), (.int p1)] 2)) t := fun t k => castTop (ef_4 m p0 p1) k
  have pre26 : ∀ t, Steps p.tables e below (s₁.setTop (mkF m 2 #[.val (.int p0), .val (.int p1)] [(.int p1), (.int p0)])) t → Steps p.tables e below (s₁.setTop (entryFrame m #[(.int p0), (.int p1)] 2)) t := fun t kt => by
    refine pre0 t ?_
    show Steps p.tables e below (s₁.setTop (mkF m 0 #[.val (.int p0), .val (.int p1)] [])) _
    refine XS.iloadN X0.here hx rfl (hb hby d4_0) rfl ?_
    show Steps p.tables e below (s₁.setTop (mkF m 1 #[.val (.int p0), .val (.int p1)] [(.int p0)])) _
    refine XS.iloadN X0.here hx rfl (hb hby d4_1) rfl ?_
    show Steps p.tables e below (s₁.setTop (mkF m 2 #[.val (.int p0), .val (.int p1)] [(.int p1), (.int p0)])) _
    exact kt
  by_cases hc27 : p0 < p1
  · obtain ⟨fs, hr, hrun, hended, hW, hsame⟩ := X0.leave (v := some (.int p1)) (fun h => by rw [Bd.returns] at h; cases h)
    refine ⟨_, _, pre26 _ ?_, hrun, hended, _, _, rfl, ?_, ⟨_, rfl⟩, hW, hsame.mono (by decide) (by decide)⟩
    · show Steps p.tables e below (s₁.setTop (mkF m 2 #[.val (.int p0), .val (.int p1)] [(.int p1), (.int p0)])) _
      refine XS.icmpYes X0.here hx rfl (pc0 := 2) (pc' := 9) rfl (hb hby d4_2) rfl (tlt hc27).1 (by decide) (by decide) ?_
      show Steps p.tables e below (s₁.setTop (mkF m 9 #[.val (.int p0), .val (.int p1)] [])) _
      refine XS.iloadN X0.here hx rfl (hb hby d4_9) rfl ?_
      show Steps p.tables e below (s₁.setTop (mkF m 10 #[.val (.int p0), .val (.int p1)] [(.int p1)])) _
      exact retI X0 hx Bd.returns (hb hby d4_10) hr
    · show Q4 Z w_1 w_2 p0 p1 h0 n0 _ s₁.heap _
      rw [e0]
      exact ⟨by unfold sp4; rw [if_pos hc27], N0, rfl⟩
  · obtain ⟨fs, hr, hrun, hended, hW, hsame⟩ := X0.leave (v := some (.int p0)) (fun h => by rw [Bd.returns] at h; cases h)
    refine ⟨_, _, pre26 _ ?_, hrun, hended, _, _, rfl, ?_, ⟨_, rfl⟩, hW, hsame.mono (by decide) (by decide)⟩
    · show Steps p.tables e below (s₁.setTop (mkF m 2 #[.val (.int p0), .val (.int p1)] [(.int p1), (.int p0)])) _
      refine XS.icmpNo X0.here hx rfl (hb hby d4_2) rfl (flt hc27).1 ?_
      show Steps p.tables e below (s₁.setTop (mkF m 5 #[.val (.int p0), .val (.int p1)] [])) _
      refine XS.iloadN X0.here hx rfl (hb hby d4_5) rfl ?_
      show Steps p.tables e below (s₁.setTop (mkF m 6 #[.val (.int p0), .val (.int p1)] [(.int p0)])) _
      refine XS.goto X0.here hx rfl (pc0 := 6) (pc' := 10) rfl (hb hby d4_6) (by decide) (by decide) ?_
      show Steps p.tables e below (s₁.setTop (mkF m 10 #[.val (.int p0), .val (.int p1)] [(.int p0)])) _
      exact retI X0 hx Bd.returns (hb hby d4_10) hr
    · show Q4 Z w_1 w_2 p0 p1 h0 n0 _ s₁.heap _
      rw [e0]
      exact ⟨by unfold sp4; rw [if_neg hc27], N0, rfl⟩
theorem d2_16 : decode prog_4_method_5_code 16 = .ok (.getstatic 7, 3) := by decide +kernel
theorem d2_19 : decode prog_4_method_5_code 19 = .ok (.astore_n 2, 1) := by decide +kernel
theorem d2_20 : decode prog_4_method_5_code 20 = .ok (.goto 21, 3) := by decide +kernel
theorem d2_37 : decode prog_4_method_5_code 37 = .ok (.getstatic 3, 3) := by decide +kernel
theorem d2_40 : decode prog_4_method_5_code 40 = .ok (.astore_n 2, 1) := by decide +kernel
theorem pn_2n0 : plainName "com/example/vetd/vetd/Decision" = true := by first | (simp [plainName, overriddenIn]; done) | decide +kernel
theorem ef_2n0 (m : MethodId) (r1 : Addr) : entryFrame m #[.null, (.ref r1)] 3 = mkF m 0 #[.val .null, .val (.ref r1), .unset] [] := by first | (simp [entryFrame, mkF, argsToLocals, Value.category]; done) | rfl
def sp2n0 (w_1 : Addr) (w_2 : Addr) (r1 : Addr) : Value := (if r1 = w_1 then (.ref w_1) else (if r1 = w_2 then (.ref w_2) else .null))
def Q2n0 (Z : State) (w_1 : Addr) (w_2 : Addr) (r1 : Addr) (h0 : Heap) (n0 : Nat) (v : Option Value) (h : Heap) (L : List Loc) : Prop := v = some (sp2n0 w_1 w_2 r1) ∧ Fr n0 L ∧ h = h0
set_option maxRecDepth 65536 in
set_option maxHeartbeats 40000000 in
theorem rm2n0 (l : Launch) (Z : State) (a0 : Array Value) (hw : ∀ d ∈ tables_1, d.before a0 Z = true) (ws : List Jvm.Cond) (w_1 : Addr) (w_2 : Addr) (hS : StF Z w_1 w_2) (r1 : Addr) (h0 : Heap) (n0 : Nat) (O0 : Old Z n0 h0) :
    MetFree l Y1 (head1 (Jvm.Cond.code Y1 prog_4_method_5_code 3 (some (.object "com/example/vetd/vetd/Decision")) :: ws) ({ frames := 0, cells := 0, slots := 0, locals := 0 } : Room)) (fun a U => a = #[.null, (.ref r1)] ∧ Z.Warmed39 U.vm ∧ U.heap = h0) (fun _ _ _ _ _ => True) (fun _ U o U' => ∃ v L, o = .returned v ∧ Q2n0 Z w_1 w_2 r1 h0 n0 v U'.heap L ∧ FrameEnd U o U' L ({ frames := 0, cells := 0, slots := 0, locals := 0 } : Room).cells ({ frames := 0, cells := 0, slots := 0, locals := 0 } : Room).slots) := by
  refine MetFree.of_bodySF (plainFor_of_name pn_2n0) hisR ?_
  intro p e s m args below meth c s₁ Bd hml0 hP hK
  obtain ⟨rfl, hZ, hh⟩ := hP
  have hx := Bd.exec
  have hby := Bd.bytes
  have hml : c.maxLocals = 3 := hml0
  have hown : s.vm.findClass "com/example/vetd/vetd/Decision" = some m.cls := findClass_of_methodNamed Bd.named
  have hnm := (name_of_methodNamed Bd.named Bd.method).1
  have X0 : Stand p l e ({ frames := 0, cells := 0, slots := 0, locals := 0 } : Room) s m #[.null, (.ref r1)] below meth c s₁ [] 0 0 := Stand.of_body Bd
  have e0 : s₁.heap = h0 := by rw [← hh, Bd.state]; rfl
  have N0 := Fr.nil n0
  have hS0 := hS
  obtain ⟨S_1, E_1, S_2, E_2, F_1_ordinal, F_2_ordinal⟩ := hS
  have pre0 : ∀ t, Steps p.tables e below (s₁.setTop (mkF m 0 #[.val .null, .val (.ref r1), .unset] [])) t → Steps p.tables e below (s₁.setTop (entryFrame m #[.null, (.ref r1)] 3)) t := fun t k => castTop (ef_2n0 m r1) k
  obtain ⟨T32, X32, e32, st32⟩ := getS2 X0 hx hZ hown (host := "") (Or.inl (hw _ (tk 9 rfl))) Via.refl e0 (S_1.ext O0.2) (g := (mkF m 3 #[.val .null, .val (.ref r1), .val .null] [.null])) rfl (hb hby d2_3)
  obtain ⟨T33, X33, e33, st33⟩ := getS2 X32 hx hZ hown (host := "") (Or.inl (hw _ (tk 9 rfl))) Via.refl e32 (S_1.ext O0.2) (g := (mkF m 10 #[.val .null, .val (.ref r1), .val .null] [(.ref r1)])) rfl (hb hby d2_10)
  have pre34 : ∀ t, Steps p.tables e below (T33.setTop (mkF m 13 #[.val .null, .val (.ref r1), .val .null] [(.ref w_1), (.ref r1)])) t → Steps p.tables e below (s₁.setTop (entryFrame m #[.null, (.ref r1)] 3)) t := fun t kt => by
    refine pre0 t ?_
    show Steps p.tables e below (s₁.setTop (mkF m 0 #[.val .null, .val (.ref r1), .unset] [])) _
    refine XS.aconstNull X0.here hx rfl (hb hby d2_0) ?_
    show Steps p.tables e below (s₁.setTop (mkF m 1 #[.val .null, .val (.ref r1), .unset] [.null])) _
    refine XS.astoreN X0.here hx rfl (hb hby d2_1) rfl rfl (l' := #[.val .null, .val (.ref r1), .val .null]) rfl ?_
    show Steps p.tables e below (s₁.setTop (mkF m 2 #[.val .null, .val (.ref r1), .val .null] [])) _
    refine XS.aloadN X0.here hx rfl (hb hby d2_2) rfl rfl ?_
    show Steps p.tables e below (s₁.setTop (mkF m 3 #[.val .null, .val (.ref r1), .val .null] [.null])) _
    refine st32 _ ?_
    show Steps p.tables e below (T32.setTop (mkF m 6 #[.val .null, .val (.ref r1), .val .null] [(.ref w_1), .null])) _
    refine Jvm.RoadKit.acmp (g := (mkF m 6 #[.val .null, .val (.ref r1), .val .null] [(.ref w_1), .null])) X32 hx rfl rfl rfl (pc0 := 6) (pc' := 9) (same := false) rfl (hb hby d2_6) rfl (decide_eq_false nofun) (by decide) (by decide) ?_
    show Steps p.tables e below (T32.setTop (mkF m 9 #[.val .null, .val (.ref r1), .val .null] [])) _
    refine XS.aloadN X32.here hx rfl (hb hby d2_9) rfl rfl ?_
    show Steps p.tables e below (T32.setTop (mkF m 10 #[.val .null, .val (.ref r1), .val .null] [(.ref r1)])) _
    refine st33 _ ?_
    show Steps p.tables e below (T33.setTop (mkF m 13 #[.val .null, .val (.ref r1), .val .null] [(.ref w_1), (.ref r1)])) _
    exact kt
  by_cases hc35 : r1 = w_1
  · obtain ⟨T36, X36, e36, st36⟩ := getS2 X33 hx hZ hown (host := "") (Or.inl (hw _ (tk 9 rfl))) Via.refl e33 (S_1.ext O0.2) (g := (mkF m 16 #[.val .null, .val (.ref r1), .val .null] [])) rfl (hb hby d2_16)
    obtain ⟨fs, hr, hrun, hended, hW, hsame⟩ := X36.leave (v := some (.ref w_1)) (fun h => by rw [Bd.returns] at h; cases h)
    refine ⟨_, _, pre34 _ ?_, hrun, hended, _, _, rfl, ?_, ⟨_, rfl⟩, hW, hsame.mono (by decide) (by decide)⟩
    · show Steps p.tables e below (T33.setTop (mkF m 13 #[.val .null, .val (.ref r1), .val .null] [(.ref w_1), (.ref r1)])) _
      refine Jvm.RoadKit.acmp (g := (mkF m 13 #[.val .null, .val (.ref r1), .val .null] [(.ref w_1), (.ref r1)])) X33 hx rfl rfl rfl (pc0 := 13) (pc' := 16) (same := true) rfl (hb hby d2_13) rfl (decide_eq_true (congrArg Value.ref hc35)) (by decide) (by decide) ?_
      show Steps p.tables e below (T33.setTop (mkF m 16 #[.val .null, .val (.ref r1), .val .null] [])) _
      refine st36 _ ?_
      show Steps p.tables e below (T36.setTop (mkF m 19 #[.val .null, .val (.ref r1), .val .null] [(.ref w_1)])) _
      refine XS.astoreN X36.here hx rfl (hb hby d2_19) rfl rfl (l' := #[.val .null, .val (.ref r1), .val (.ref w_1)]) rfl ?_
      show Steps p.tables e below (T36.setTop (mkF m 20 #[.val .null, .val (.ref r1), .val (.ref w_1)] [])) _
      refine XS.goto X36.here hx rfl (pc0 := 20) (pc' := 41) rfl (hb hby d2_20) (by decide) (by decide) ?_
      show Steps p.tables e below (T36.setTop (mkF m 41 #[.val .null, .val (.ref r1), .val (.ref w_1)] [])) _
      refine XS.aloadN X36.here hx rfl (hb hby d2_41) rfl rfl ?_
      show Steps p.tables e below (T36.setTop (mkF m 42 #[.val .null, .val (.ref r1), .val (.ref w_1)] [(.ref w_1)])) _
      jvm_step X36.here [X36.here.top, hx, (hb hby d2_42), X36.method', Bd.returns, Value.isRef, FieldType.isReference]
      first | (intro acts; rw [hr _ acts rfl rfl rfl]) | rw [hr _ _ rfl rfl rfl]
      exact Steps.refl _
    · show Q2n0 Z w_1 w_2 r1 h0 n0 _ T36.heap _
      rw [e36]
      exact ⟨by unfold sp2n0; rw [if_pos hc35], N0, rfl⟩
  · obtain ⟨T37, X37, e37, st37⟩ := getS2 X33 hx hZ hown (host := "") (Or.inl (hw _ (tk 11 rfl))) Via.refl e33 (S_2.ext O0.2) (g := (mkF m 24 #[.val .null, .val (.ref r1), .val .null] [.null])) rfl (hb hby d2_24)
    obtain ⟨T38, X38, e38, st38⟩ := getS2 X37 hx hZ hown (host := "") (Or.inl (hw _ (tk 11 rfl))) Via.refl e37 (S_2.ext O0.2) (g := (mkF m 31 #[.val .null, .val (.ref r1), .val .null] [(.ref r1)])) rfl (hb hby d2_31)
    have pre39 : ∀ t, Steps p.tables e below (T38.setTop (mkF m 34 #[.val .null, .val (.ref r1), .val .null] [(.ref w_2), (.ref r1)])) t → Steps p.tables e below (s₁.setTop (entryFrame m #[.null, (.ref r1)] 3)) t := fun t kt => by
      refine pre34 t ?_
      show Steps p.tables e below (T33.setTop (mkF m 13 #[.val .null, .val (.ref r1), .val .null] [(.ref w_1), (.ref r1)])) _
      refine Jvm.RoadKit.acmp (g := (mkF m 13 #[.val .null, .val (.ref r1), .val .null] [(.ref w_1), (.ref r1)])) X33 hx rfl rfl rfl (pc0 := 13) (pc' := 23) (same := false) rfl (hb hby d2_13) rfl (decide_eq_false fun q => hc35 (Value.ref.inj q)) (by decide) (by decide) ?_
      show Steps p.tables e below (T33.setTop (mkF m 23 #[.val .null, .val (.ref r1), .val .null] [])) _
      refine XS.aloadN X33.here hx rfl (hb hby d2_23) rfl rfl ?_
      show Steps p.tables e below (T33.setTop (mkF m 24 #[.val .null, .val (.ref r1), .val .null] [.null])) _
      refine st37 _ ?_
      show Steps p.tables e below (T37.setTop (mkF m 27 #[.val .null, .val (.ref r1), .val .null] [(.ref w_2), .null])) _
      refine Jvm.RoadKit.acmp (g := (mkF m 27 #[.val .null, .val (.ref r1), .val .null] [(.ref w_2), .null])) X37 hx rfl rfl rfl (pc0 := 27) (pc' := 30) (same := false) rfl (hb hby d2_27) rfl (decide_eq_false nofun) (by decide) (by decide) ?_
      show Steps p.tables e below (T37.setTop (mkF m 30 #[.val .null, .val (.ref r1), .val .null] [])) _
      refine XS.aloadN X37.here hx rfl (hb hby d2_30) rfl rfl ?_
      show Steps p.tables e below (T37.setTop (mkF m 31 #[.val .null, .val (.ref r1), .val .null] [(.ref r1)])) _
      refine st38 _ ?_
      show Steps p.tables e below (T38.setTop (mkF m 34 #[.val .null, .val (.ref r1), .val .null] [(.ref w_2), (.ref r1)])) _
      exact kt
    by_cases hc40 : r1 = w_2
    · obtain ⟨T41, X41, e41, st41⟩ := getS2 X38 hx hZ hown (host := "") (Or.inl (hw _ (tk 11 rfl))) Via.refl e38 (S_2.ext O0.2) (g := (mkF m 37 #[.val .null, .val (.ref r1), .val .null] [])) rfl (hb hby d2_37)
      obtain ⟨fs, hr, hrun, hended, hW, hsame⟩ := X41.leave (v := some (.ref w_2)) (fun h => by rw [Bd.returns] at h; cases h)
      refine ⟨_, _, pre39 _ ?_, hrun, hended, _, _, rfl, ?_, ⟨_, rfl⟩, hW, hsame.mono (by decide) (by decide)⟩
      · show Steps p.tables e below (T38.setTop (mkF m 34 #[.val .null, .val (.ref r1), .val .null] [(.ref w_2), (.ref r1)])) _
        refine Jvm.RoadKit.acmp (g := (mkF m 34 #[.val .null, .val (.ref r1), .val .null] [(.ref w_2), (.ref r1)])) X38 hx rfl rfl rfl (pc0 := 34) (pc' := 37) (same := true) rfl (hb hby d2_34) rfl (decide_eq_true (congrArg Value.ref hc40)) (by decide) (by decide) ?_
        show Steps p.tables e below (T38.setTop (mkF m 37 #[.val .null, .val (.ref r1), .val .null] [])) _
        refine st41 _ ?_
        show Steps p.tables e below (T41.setTop (mkF m 40 #[.val .null, .val (.ref r1), .val .null] [(.ref w_2)])) _
        refine XS.astoreN X41.here hx rfl (hb hby d2_40) rfl rfl (l' := #[.val .null, .val (.ref r1), .val (.ref w_2)]) rfl ?_
        show Steps p.tables e below (T41.setTop (mkF m 41 #[.val .null, .val (.ref r1), .val (.ref w_2)] [])) _
        refine XS.aloadN X41.here hx rfl (hb hby d2_41) rfl rfl ?_
        show Steps p.tables e below (T41.setTop (mkF m 42 #[.val .null, .val (.ref r1), .val (.ref w_2)] [(.ref w_2)])) _
        jvm_step X41.here [X41.here.top, hx, (hb hby d2_42), X41.method', Bd.returns, Value.isRef, FieldType.isReference]
        first | (intro acts; rw [hr _ acts rfl rfl rfl]) | rw [hr _ _ rfl rfl rfl]
        exact Steps.refl _
      · show Q2n0 Z w_1 w_2 r1 h0 n0 _ T41.heap _
        rw [e41]
        exact ⟨by unfold sp2n0; rw [if_neg hc35, if_pos hc40], N0, rfl⟩
    · obtain ⟨fs, hr, hrun, hended, hW, hsame⟩ := X38.leave (v := some .null) (fun h => by rw [Bd.returns] at h; cases h)
      refine ⟨_, _, pre39 _ ?_, hrun, hended, _, _, rfl, ?_, ⟨_, rfl⟩, hW, hsame.mono (by decide) (by decide)⟩
      · show Steps p.tables e below (T38.setTop (mkF m 34 #[.val .null, .val (.ref r1), .val .null] [(.ref w_2), (.ref r1)])) _
        refine Jvm.RoadKit.acmp (g := (mkF m 34 #[.val .null, .val (.ref r1), .val .null] [(.ref w_2), (.ref r1)])) X38 hx rfl rfl rfl (pc0 := 34) (pc' := 41) (same := false) rfl (hb hby d2_34) rfl (decide_eq_false fun q => hc40 (Value.ref.inj q)) (by decide) (by decide) ?_
        show Steps p.tables e below (T38.setTop (mkF m 41 #[.val .null, .val (.ref r1), .val .null] [])) _
        refine XS.aloadN X38.here hx rfl (hb hby d2_41) rfl rfl ?_
        show Steps p.tables e below (T38.setTop (mkF m 42 #[.val .null, .val (.ref r1), .val .null] [.null])) _
        jvm_step X38.here [X38.here.top, hx, (hb hby d2_42), X38.method', Bd.returns, Value.isRef, FieldType.isReference]
        first | (intro acts; rw [hr _ acts rfl rfl rfl]) | rw [hr _ _ rfl rfl rfl]
        exact Steps.refl _
      · show Q2n0 Z w_1 w_2 r1 h0 n0 _ T38.heap _
        rw [e38]
        exact ⟨by unfold sp2n0; rw [if_neg hc35, if_neg hc40], N0, rfl⟩
theorem d3_6 : decode method_3_code 6 = .ok (.aload_n 0, 1) := by decide +kernel
theorem d3_7 : decode method_3_code 7 = .ok (.getstatic 8, 3) := by decide +kernel
theorem d3_10 : decode method_3_code 10 = .ok (.if_acmp .ne 5, 3) := by decide +kernel
theorem d3_13 : decode method_3_code 13 = .ok (.iconst 1, 1) := by decide +kernel
theorem d3_14 : decode method_3_code 14 = .ok (.ireturn, 1) := by decide +kernel
theorem d3_15 : decode method_3_code 15 = .ok (.iconst 2, 1) := by decide +kernel
theorem d3_16 : decode method_3_code 16 = .ok (.ireturn, 1) := by decide +kernel
theorem pn_3 : plainName "com/example/vetd/vetd/DecisionDenyOverPermitPinLaw" = true := by first | (simp [plainName, overriddenIn]; done) | decide +kernel
theorem ef_3 (m : MethodId) (r0 : Addr) : entryFrame m #[(.ref r0)] 1 = mkF m 0 #[.val (.ref r0)] [] := by first | (simp [entryFrame, mkF, argsToLocals, Value.category]; done) | rfl
def sp3 (w_2 : Addr) (r0 : Addr) : Int32 := (if r0 = w_2 then (1 : Int32) else (2 : Int32))
def Q3 (Z : State) (w_1 : Addr) (w_2 : Addr) (r0 : Addr) (h0 : Heap) (n0 : Nat) (v : Option Value) (h : Heap) (L : List Loc) : Prop := v = some (.int (sp3 w_2 r0)) ∧ Fr n0 L ∧ h = h0
set_option maxRecDepth 65536 in
set_option maxHeartbeats 40000000 in
theorem rm3 (l : Launch) (Z : State) (a0 : Array Value) (hw : ∀ d ∈ tables_1, d.before a0 Z = true) (ws : List Jvm.Cond) (w_1 : Addr) (w_2 : Addr) (hS : StF Z w_1 w_2) (r0 : Addr) (h0 : Heap) (n0 : Nat) (O0 : Old Z n0 h0) :
    MetFree l Y2 (head1 (Jvm.Cond.code Y2 method_3_code 1 (some .int) :: ws) ({ frames := 0, cells := 0, slots := 0, locals := 0 } : Room)) (fun a U => a = #[(.ref r0)] ∧ Z.Warmed39 U.vm ∧ U.heap = h0) (fun _ _ _ _ _ => True) (fun _ U o U' => ∃ v L, o = .returned v ∧ Q3 Z w_1 w_2 r0 h0 n0 v U'.heap L ∧ FrameEnd U o U' L ({ frames := 0, cells := 0, slots := 0, locals := 0 } : Room).cells ({ frames := 0, cells := 0, slots := 0, locals := 0 } : Room).slots) := by
  refine MetFree.of_bodySF (plainFor_of_name pn_3) hisR ?_
  intro p e s m args below meth c s₁ Bd hml0 hP hK
  obtain ⟨rfl, hZ, hh⟩ := hP
  have hx := Bd.exec
  have hby := Bd.bytes
  have hml : c.maxLocals = 1 := hml0
  have hown : s.vm.findClass "com/example/vetd/vetd/DecisionDenyOverPermitPinLaw" = some m.cls := findClass_of_methodNamed Bd.named
  have hnm := (name_of_methodNamed Bd.named Bd.method).1
  have X0 : Stand p l e ({ frames := 0, cells := 0, slots := 0, locals := 0 } : Room) s m #[(.ref r0)] below meth c s₁ [] 0 0 := Stand.of_body Bd
  have e0 : s₁.heap = h0 := by rw [← hh, Bd.state]; rfl
  have N0 := Fr.nil n0
  have hS0 := hS
  obtain ⟨S_1, E_1, S_2, E_2, F_1_ordinal, F_2_ordinal⟩ := hS
  have pre0 : ∀ t, Steps p.tables e below (s₁.setTop (mkF m 0 #[.val (.ref r0)] [])) t → Steps p.tables e below (s₁.setTop (entryFrame m #[(.ref r0)] 1)) t := fun t k => castTop (ef_3 m r0) k
  obtain ⟨T44, X44, e44, st44⟩ := getS2 X0 hx hZ hown (host := "") (Or.inl (hw _ (tk 21 rfl))) Via.refl e0 (S_2.ext O0.2) (g := (mkF m 7 #[.val (.ref r0)] [(.ref r0)])) rfl (hb hby d3_7)
  have pre45 : ∀ t, Steps p.tables e below (T44.setTop (mkF m 10 #[.val (.ref r0)] [(.ref w_2), (.ref r0)])) t → Steps p.tables e below (s₁.setTop (entryFrame m #[(.ref r0)] 1)) t := fun t kt => by
    refine pre0 t ?_
    show Steps p.tables e below (s₁.setTop (mkF m 0 #[.val (.ref r0)] [])) _
    refine XS.aloadN X0.here hx rfl (hb hby d3_0) rfl rfl ?_
    show Steps p.tables e below (s₁.setTop (mkF m 1 #[.val (.ref r0)] [(.ref r0)])) _
    refine XS.ifnonnullYes X0.here hx rfl (pc0 := 1) (pc' := 6) rfl (hb hby d3_1) rfl (by decide) (by decide) ?_
    show Steps p.tables e below (s₁.setTop (mkF m 6 #[.val (.ref r0)] [])) _
    refine XS.aloadN X0.here hx rfl (hb hby d3_6) rfl rfl ?_
    show Steps p.tables e below (s₁.setTop (mkF m 7 #[.val (.ref r0)] [(.ref r0)])) _
    refine st44 _ ?_
    show Steps p.tables e below (T44.setTop (mkF m 10 #[.val (.ref r0)] [(.ref w_2), (.ref r0)])) _
    exact kt
  by_cases hc46 : r0 = w_2
  · obtain ⟨fs, hr, hrun, hended, hW, hsame⟩ := X44.leave (v := some (.int (1 : Int32))) (fun h => by rw [Bd.returns] at h; cases h)
    refine ⟨_, _, pre45 _ ?_, hrun, hended, _, _, rfl, ?_, ⟨_, rfl⟩, hW, hsame.mono (by decide) (by decide)⟩
    · show Steps p.tables e below (T44.setTop (mkF m 10 #[.val (.ref r0)] [(.ref w_2), (.ref r0)])) _
      refine Jvm.RoadKit.acmp (g := (mkF m 10 #[.val (.ref r0)] [(.ref w_2), (.ref r0)])) X44 hx rfl rfl rfl (pc0 := 10) (pc' := 13) (same := true) rfl (hb hby d3_10) rfl (decide_eq_true (congrArg Value.ref hc46)) (by decide) (by decide) ?_
      show Steps p.tables e below (T44.setTop (mkF m 13 #[.val (.ref r0)] [])) _
      refine XS.iconst X44.here hx rfl (hb hby d3_13) ?_
      show Steps p.tables e below (T44.setTop (mkF m 14 #[.val (.ref r0)] [(.int (1 : Int32))])) _
      exact retI X44 hx Bd.returns (hb hby d3_14) hr
    · show Q3 Z w_1 w_2 r0 h0 n0 _ T44.heap _
      rw [e44]
      exact ⟨by unfold sp3; rw [if_pos hc46], N0, rfl⟩
  · obtain ⟨fs, hr, hrun, hended, hW, hsame⟩ := X44.leave (v := some (.int (2 : Int32))) (fun h => by rw [Bd.returns] at h; cases h)
    refine ⟨_, _, pre45 _ ?_, hrun, hended, _, _, rfl, ?_, ⟨_, rfl⟩, hW, hsame.mono (by decide) (by decide)⟩
    · show Steps p.tables e below (T44.setTop (mkF m 10 #[.val (.ref r0)] [(.ref w_2), (.ref r0)])) _
      refine Jvm.RoadKit.acmp (g := (mkF m 10 #[.val (.ref r0)] [(.ref w_2), (.ref r0)])) X44 hx rfl rfl rfl (pc0 := 10) (pc' := 15) (same := false) rfl (hb hby d3_10) rfl (decide_eq_false fun q => hc46 (Value.ref.inj q)) (by decide) (by decide) ?_
      show Steps p.tables e below (T44.setTop (mkF m 15 #[.val (.ref r0)] [])) _
      refine XS.iconst X44.here hx rfl (hb hby d3_15) ?_
      show Steps p.tables e below (T44.setTop (mkF m 16 #[.val (.ref r0)] [(.int (2 : Int32))])) _
      exact retI X44 hx Bd.returns (hb hby d3_16) hr
    · show Q3 Z w_1 w_2 r0 h0 n0 _ T44.heap _
      rw [e44]
      exact ⟨by unfold sp3; rw [if_neg hc46], N0, rfl⟩
theorem pn_2n1 : plainName "com/example/vetd/vetd/Decision" = true := by first | (simp [plainName, overriddenIn]; done) | decide +kernel
theorem ef_2n1 (m : MethodId) (r0 : Addr) : entryFrame m #[(.ref r0), .null] 3 = mkF m 0 #[.val (.ref r0), .val .null, .unset] [] := by first | (simp [entryFrame, mkF, argsToLocals, Value.category]; done) | rfl
def sp2n1 (w_1 : Addr) (w_2 : Addr) (r0 : Addr) : Value := (if r0 = w_1 then (.ref w_1) else (if r0 = w_2 then (.ref w_2) else .null))
def Q2n1 (Z : State) (w_1 : Addr) (w_2 : Addr) (r0 : Addr) (h0 : Heap) (n0 : Nat) (v : Option Value) (h : Heap) (L : List Loc) : Prop := v = some (sp2n1 w_1 w_2 r0) ∧ Fr n0 L ∧ h = h0
set_option maxRecDepth 65536 in
set_option maxHeartbeats 40000000 in
theorem rm2n1 (l : Launch) (Z : State) (a0 : Array Value) (hw : ∀ d ∈ tables_1, d.before a0 Z = true) (ws : List Jvm.Cond) (w_1 : Addr) (w_2 : Addr) (hS : StF Z w_1 w_2) (r0 : Addr) (h0 : Heap) (n0 : Nat) (O0 : Old Z n0 h0) :
    MetFree l Y1 (head1 (Jvm.Cond.code Y1 prog_4_method_5_code 3 (some (.object "com/example/vetd/vetd/Decision")) :: ws) ({ frames := 0, cells := 0, slots := 0, locals := 0 } : Room)) (fun a U => a = #[(.ref r0), .null] ∧ Z.Warmed39 U.vm ∧ U.heap = h0) (fun _ _ _ _ _ => True) (fun _ U o U' => ∃ v L, o = .returned v ∧ Q2n1 Z w_1 w_2 r0 h0 n0 v U'.heap L ∧ FrameEnd U o U' L ({ frames := 0, cells := 0, slots := 0, locals := 0 } : Room).cells ({ frames := 0, cells := 0, slots := 0, locals := 0 } : Room).slots) := by
  refine MetFree.of_bodySF (plainFor_of_name pn_2n1) hisR ?_
  intro p e s m args below meth c s₁ Bd hml0 hP hK
  obtain ⟨rfl, hZ, hh⟩ := hP
  have hx := Bd.exec
  have hby := Bd.bytes
  have hml : c.maxLocals = 3 := hml0
  have hown : s.vm.findClass "com/example/vetd/vetd/Decision" = some m.cls := findClass_of_methodNamed Bd.named
  have hnm := (name_of_methodNamed Bd.named Bd.method).1
  have X0 : Stand p l e ({ frames := 0, cells := 0, slots := 0, locals := 0 } : Room) s m #[(.ref r0), .null] below meth c s₁ [] 0 0 := Stand.of_body Bd
  have e0 : s₁.heap = h0 := by rw [← hh, Bd.state]; rfl
  have N0 := Fr.nil n0
  have hS0 := hS
  obtain ⟨S_1, E_1, S_2, E_2, F_1_ordinal, F_2_ordinal⟩ := hS
  have pre0 : ∀ t, Steps p.tables e below (s₁.setTop (mkF m 0 #[.val (.ref r0), .val .null, .unset] [])) t → Steps p.tables e below (s₁.setTop (entryFrame m #[(.ref r0), .null] 3)) t := fun t k => castTop (ef_2n1 m r0) k
  obtain ⟨T61, X61, e61, st61⟩ := getS2 X0 hx hZ hown (host := "") (Or.inl (hw _ (tk 9 rfl))) Via.refl e0 (S_1.ext O0.2) (g := (mkF m 3 #[.val (.ref r0), .val .null, .val .null] [(.ref r0)])) rfl (hb hby d2_3)
  have pre62 : ∀ t, Steps p.tables e below (T61.setTop (mkF m 6 #[.val (.ref r0), .val .null, .val .null] [(.ref w_1), (.ref r0)])) t → Steps p.tables e below (s₁.setTop (entryFrame m #[(.ref r0), .null] 3)) t := fun t kt => by
    refine pre0 t ?_
    show Steps p.tables e below (s₁.setTop (mkF m 0 #[.val (.ref r0), .val .null, .unset] [])) _
    refine XS.aconstNull X0.here hx rfl (hb hby d2_0) ?_
    show Steps p.tables e below (s₁.setTop (mkF m 1 #[.val (.ref r0), .val .null, .unset] [.null])) _
    refine XS.astoreN X0.here hx rfl (hb hby d2_1) rfl rfl (l' := #[.val (.ref r0), .val .null, .val .null]) rfl ?_
    show Steps p.tables e below (s₁.setTop (mkF m 2 #[.val (.ref r0), .val .null, .val .null] [])) _
    refine XS.aloadN X0.here hx rfl (hb hby d2_2) rfl rfl ?_
    show Steps p.tables e below (s₁.setTop (mkF m 3 #[.val (.ref r0), .val .null, .val .null] [(.ref r0)])) _
    refine st61 _ ?_
    show Steps p.tables e below (T61.setTop (mkF m 6 #[.val (.ref r0), .val .null, .val .null] [(.ref w_1), (.ref r0)])) _
    exact kt
  by_cases hc63 : r0 = w_1
  · obtain ⟨T64, X64, e64, st64⟩ := getS2 X61 hx hZ hown (host := "") (Or.inl (hw _ (tk 9 rfl))) Via.refl e61 (S_1.ext O0.2) (g := (mkF m 16 #[.val (.ref r0), .val .null, .val .null] [])) rfl (hb hby d2_16)
    obtain ⟨fs, hr, hrun, hended, hW, hsame⟩ := X64.leave (v := some (.ref w_1)) (fun h => by rw [Bd.returns] at h; cases h)
    refine ⟨_, _, pre62 _ ?_, hrun, hended, _, _, rfl, ?_, ⟨_, rfl⟩, hW, hsame.mono (by decide) (by decide)⟩
    · show Steps p.tables e below (T61.setTop (mkF m 6 #[.val (.ref r0), .val .null, .val .null] [(.ref w_1), (.ref r0)])) _
      refine Jvm.RoadKit.acmp (g := (mkF m 6 #[.val (.ref r0), .val .null, .val .null] [(.ref w_1), (.ref r0)])) X61 hx rfl rfl rfl (pc0 := 6) (pc' := 16) (same := true) rfl (hb hby d2_6) rfl (decide_eq_true (congrArg Value.ref hc63)) (by decide) (by decide) ?_
      show Steps p.tables e below (T61.setTop (mkF m 16 #[.val (.ref r0), .val .null, .val .null] [])) _
      refine st64 _ ?_
      show Steps p.tables e below (T64.setTop (mkF m 19 #[.val (.ref r0), .val .null, .val .null] [(.ref w_1)])) _
      refine XS.astoreN X64.here hx rfl (hb hby d2_19) rfl rfl (l' := #[.val (.ref r0), .val .null, .val (.ref w_1)]) rfl ?_
      show Steps p.tables e below (T64.setTop (mkF m 20 #[.val (.ref r0), .val .null, .val (.ref w_1)] [])) _
      refine XS.goto X64.here hx rfl (pc0 := 20) (pc' := 41) rfl (hb hby d2_20) (by decide) (by decide) ?_
      show Steps p.tables e below (T64.setTop (mkF m 41 #[.val (.ref r0), .val .null, .val (.ref w_1)] [])) _
      refine XS.aloadN X64.here hx rfl (hb hby d2_41) rfl rfl ?_
      show Steps p.tables e below (T64.setTop (mkF m 42 #[.val (.ref r0), .val .null, .val (.ref w_1)] [(.ref w_1)])) _
      jvm_step X64.here [X64.here.top, hx, (hb hby d2_42), X64.method', Bd.returns, Value.isRef, FieldType.isReference]
      first | (intro acts; rw [hr _ acts rfl rfl rfl]) | rw [hr _ _ rfl rfl rfl]
      exact Steps.refl _
    · show Q2n1 Z w_1 w_2 r0 h0 n0 _ T64.heap _
      rw [e64]
      exact ⟨by unfold sp2n1; rw [if_pos hc63], N0, rfl⟩
  · obtain ⟨T65, X65, e65, st65⟩ := getS2 X61 hx hZ hown (host := "") (Or.inl (hw _ (tk 9 rfl))) Via.refl e61 (S_1.ext O0.2) (g := (mkF m 10 #[.val (.ref r0), .val .null, .val .null] [.null])) rfl (hb hby d2_10)
    obtain ⟨T66, X66, e66, st66⟩ := getS2 X65 hx hZ hown (host := "") (Or.inl (hw _ (tk 11 rfl))) Via.refl e65 (S_2.ext O0.2) (g := (mkF m 24 #[.val (.ref r0), .val .null, .val .null] [(.ref r0)])) rfl (hb hby d2_24)
    have pre67 : ∀ t, Steps p.tables e below (T66.setTop (mkF m 27 #[.val (.ref r0), .val .null, .val .null] [(.ref w_2), (.ref r0)])) t → Steps p.tables e below (s₁.setTop (entryFrame m #[(.ref r0), .null] 3)) t := fun t kt => by
      refine pre62 t ?_
      show Steps p.tables e below (T61.setTop (mkF m 6 #[.val (.ref r0), .val .null, .val .null] [(.ref w_1), (.ref r0)])) _
      refine Jvm.RoadKit.acmp (g := (mkF m 6 #[.val (.ref r0), .val .null, .val .null] [(.ref w_1), (.ref r0)])) X61 hx rfl rfl rfl (pc0 := 6) (pc' := 9) (same := false) rfl (hb hby d2_6) rfl (decide_eq_false fun q => hc63 (Value.ref.inj q)) (by decide) (by decide) ?_
      show Steps p.tables e below (T61.setTop (mkF m 9 #[.val (.ref r0), .val .null, .val .null] [])) _
      refine XS.aloadN X61.here hx rfl (hb hby d2_9) rfl rfl ?_
      show Steps p.tables e below (T61.setTop (mkF m 10 #[.val (.ref r0), .val .null, .val .null] [.null])) _
      refine st65 _ ?_
      show Steps p.tables e below (T65.setTop (mkF m 13 #[.val (.ref r0), .val .null, .val .null] [(.ref w_1), .null])) _
      refine Jvm.RoadKit.acmp (g := (mkF m 13 #[.val (.ref r0), .val .null, .val .null] [(.ref w_1), .null])) X65 hx rfl rfl rfl (pc0 := 13) (pc' := 23) (same := false) rfl (hb hby d2_13) rfl (decide_eq_false nofun) (by decide) (by decide) ?_
      show Steps p.tables e below (T65.setTop (mkF m 23 #[.val (.ref r0), .val .null, .val .null] [])) _
      refine XS.aloadN X65.here hx rfl (hb hby d2_23) rfl rfl ?_
      show Steps p.tables e below (T65.setTop (mkF m 24 #[.val (.ref r0), .val .null, .val .null] [(.ref r0)])) _
      refine st66 _ ?_
      show Steps p.tables e below (T66.setTop (mkF m 27 #[.val (.ref r0), .val .null, .val .null] [(.ref w_2), (.ref r0)])) _
      exact kt
    by_cases hc68 : r0 = w_2
    · obtain ⟨T69, X69, e69, st69⟩ := getS2 X66 hx hZ hown (host := "") (Or.inl (hw _ (tk 11 rfl))) Via.refl e66 (S_2.ext O0.2) (g := (mkF m 37 #[.val (.ref r0), .val .null, .val .null] [])) rfl (hb hby d2_37)
      obtain ⟨fs, hr, hrun, hended, hW, hsame⟩ := X69.leave (v := some (.ref w_2)) (fun h => by rw [Bd.returns] at h; cases h)
      refine ⟨_, _, pre67 _ ?_, hrun, hended, _, _, rfl, ?_, ⟨_, rfl⟩, hW, hsame.mono (by decide) (by decide)⟩
      · show Steps p.tables e below (T66.setTop (mkF m 27 #[.val (.ref r0), .val .null, .val .null] [(.ref w_2), (.ref r0)])) _
        refine Jvm.RoadKit.acmp (g := (mkF m 27 #[.val (.ref r0), .val .null, .val .null] [(.ref w_2), (.ref r0)])) X66 hx rfl rfl rfl (pc0 := 27) (pc' := 37) (same := true) rfl (hb hby d2_27) rfl (decide_eq_true (congrArg Value.ref hc68)) (by decide) (by decide) ?_
        show Steps p.tables e below (T66.setTop (mkF m 37 #[.val (.ref r0), .val .null, .val .null] [])) _
        refine st69 _ ?_
        show Steps p.tables e below (T69.setTop (mkF m 40 #[.val (.ref r0), .val .null, .val .null] [(.ref w_2)])) _
        refine XS.astoreN X69.here hx rfl (hb hby d2_40) rfl rfl (l' := #[.val (.ref r0), .val .null, .val (.ref w_2)]) rfl ?_
        show Steps p.tables e below (T69.setTop (mkF m 41 #[.val (.ref r0), .val .null, .val (.ref w_2)] [])) _
        refine XS.aloadN X69.here hx rfl (hb hby d2_41) rfl rfl ?_
        show Steps p.tables e below (T69.setTop (mkF m 42 #[.val (.ref r0), .val .null, .val (.ref w_2)] [(.ref w_2)])) _
        jvm_step X69.here [X69.here.top, hx, (hb hby d2_42), X69.method', Bd.returns, Value.isRef, FieldType.isReference]
        first | (intro acts; rw [hr _ acts rfl rfl rfl]) | rw [hr _ _ rfl rfl rfl]
        exact Steps.refl _
      · show Q2n1 Z w_1 w_2 r0 h0 n0 _ T69.heap _
        rw [e69]
        exact ⟨by unfold sp2n1; rw [if_neg hc63, if_pos hc68], N0, rfl⟩
    · obtain ⟨T70, X70, e70, st70⟩ := getS2 X66 hx hZ hown (host := "") (Or.inl (hw _ (tk 11 rfl))) Via.refl e66 (S_2.ext O0.2) (g := (mkF m 31 #[.val (.ref r0), .val .null, .val .null] [.null])) rfl (hb hby d2_31)
      obtain ⟨fs, hr, hrun, hended, hW, hsame⟩ := X70.leave (v := some .null) (fun h => by rw [Bd.returns] at h; cases h)
      refine ⟨_, _, pre67 _ ?_, hrun, hended, _, _, rfl, ?_, ⟨_, rfl⟩, hW, hsame.mono (by decide) (by decide)⟩
      · show Steps p.tables e below (T66.setTop (mkF m 27 #[.val (.ref r0), .val .null, .val .null] [(.ref w_2), (.ref r0)])) _
        refine Jvm.RoadKit.acmp (g := (mkF m 27 #[.val (.ref r0), .val .null, .val .null] [(.ref w_2), (.ref r0)])) X66 hx rfl rfl rfl (pc0 := 27) (pc' := 30) (same := false) rfl (hb hby d2_27) rfl (decide_eq_false fun q => hc68 (Value.ref.inj q)) (by decide) (by decide) ?_
        show Steps p.tables e below (T66.setTop (mkF m 30 #[.val (.ref r0), .val .null, .val .null] [])) _
        refine XS.aloadN X66.here hx rfl (hb hby d2_30) rfl rfl ?_
        show Steps p.tables e below (T66.setTop (mkF m 31 #[.val (.ref r0), .val .null, .val .null] [.null])) _
        refine st70 _ ?_
        show Steps p.tables e below (T70.setTop (mkF m 34 #[.val (.ref r0), .val .null, .val .null] [(.ref w_2), .null])) _
        refine Jvm.RoadKit.acmp (g := (mkF m 34 #[.val (.ref r0), .val .null, .val .null] [(.ref w_2), .null])) X70 hx rfl rfl rfl (pc0 := 34) (pc' := 41) (same := false) rfl (hb hby d2_34) rfl (decide_eq_false nofun) (by decide) (by decide) ?_
        show Steps p.tables e below (T70.setTop (mkF m 41 #[.val (.ref r0), .val .null, .val .null] [])) _
        refine XS.aloadN X70.here hx rfl (hb hby d2_41) rfl rfl ?_
        show Steps p.tables e below (T70.setTop (mkF m 42 #[.val (.ref r0), .val .null, .val .null] [.null])) _
        jvm_step X70.here [X70.here.top, hx, (hb hby d2_42), X70.method', Bd.returns, Value.isRef, FieldType.isReference]
        first | (intro acts; rw [hr _ acts rfl rfl rfl]) | rw [hr _ _ rfl rfl rfl]
        exact Steps.refl _
      · show Q2n1 Z w_1 w_2 r0 h0 n0 _ T70.heap _
        rw [e70]
        exact ⟨by unfold sp2n1; rw [if_neg hc63, if_neg hc68], N0, rfl⟩
theorem pn_2 : plainName "com/example/vetd/vetd/Decision" = true := by first | (simp [plainName, overriddenIn]; done) | decide +kernel
theorem ef_2 (m : MethodId) (r0 : Addr) (r1 : Addr) : entryFrame m #[(.ref r0), (.ref r1)] 3 = mkF m 0 #[.val (.ref r0), .val (.ref r1), .unset] [] := by first | (simp [entryFrame, mkF, argsToLocals, Value.category]; done) | rfl
def sp2 (w_1 : Addr) (w_2 : Addr) (r0 : Addr) (r1 : Addr) : Value := (if r0 = w_1 then (.ref w_1) else (if r1 = w_1 then (.ref w_1) else (if r0 = w_2 then (.ref w_2) else (if r1 = w_2 then (.ref w_2) else .null))))
def Q2 (Z : State) (w_1 : Addr) (w_2 : Addr) (r0 : Addr) (r1 : Addr) (h0 : Heap) (n0 : Nat) (v : Option Value) (h : Heap) (L : List Loc) : Prop := v = some (sp2 w_1 w_2 r0 r1) ∧ Fr n0 L ∧ h = h0
set_option maxRecDepth 65536 in
set_option maxHeartbeats 40000000 in
theorem rm2 (l : Launch) (Z : State) (a0 : Array Value) (hw : ∀ d ∈ tables_1, d.before a0 Z = true) (ws : List Jvm.Cond) (w_1 : Addr) (w_2 : Addr) (hS : StF Z w_1 w_2) (r0 : Addr) (r1 : Addr) (h0 : Heap) (n0 : Nat) (O0 : Old Z n0 h0) :
    MetFree l Y1 (head1 (Jvm.Cond.code Y1 prog_4_method_5_code 3 (some (.object "com/example/vetd/vetd/Decision")) :: ws) ({ frames := 0, cells := 0, slots := 0, locals := 0 } : Room)) (fun a U => a = #[(.ref r0), (.ref r1)] ∧ Z.Warmed39 U.vm ∧ U.heap = h0) (fun _ _ _ _ _ => True) (fun _ U o U' => ∃ v L, o = .returned v ∧ Q2 Z w_1 w_2 r0 r1 h0 n0 v U'.heap L ∧ FrameEnd U o U' L ({ frames := 0, cells := 0, slots := 0, locals := 0 } : Room).cells ({ frames := 0, cells := 0, slots := 0, locals := 0 } : Room).slots) := by
  refine MetFree.of_bodySF (plainFor_of_name pn_2) hisR ?_
  intro p e s m args below meth c s₁ Bd hml0 hP hK
  obtain ⟨rfl, hZ, hh⟩ := hP
  have hx := Bd.exec
  have hby := Bd.bytes
  have hml : c.maxLocals = 3 := hml0
  have hown : s.vm.findClass "com/example/vetd/vetd/Decision" = some m.cls := findClass_of_methodNamed Bd.named
  have hnm := (name_of_methodNamed Bd.named Bd.method).1
  have X0 : Stand p l e ({ frames := 0, cells := 0, slots := 0, locals := 0 } : Room) s m #[(.ref r0), (.ref r1)] below meth c s₁ [] 0 0 := Stand.of_body Bd
  have e0 : s₁.heap = h0 := by rw [← hh, Bd.state]; rfl
  have N0 := Fr.nil n0
  have hS0 := hS
  obtain ⟨S_1, E_1, S_2, E_2, F_1_ordinal, F_2_ordinal⟩ := hS
  have pre0 : ∀ t, Steps p.tables e below (s₁.setTop (mkF m 0 #[.val (.ref r0), .val (.ref r1), .unset] [])) t → Steps p.tables e below (s₁.setTop (entryFrame m #[(.ref r0), (.ref r1)] 3)) t := fun t k => castTop (ef_2 m r0 r1) k
  obtain ⟨T78, X78, e78, st78⟩ := getS2 X0 hx hZ hown (host := "") (Or.inl (hw _ (tk 9 rfl))) Via.refl e0 (S_1.ext O0.2) (g := (mkF m 3 #[.val (.ref r0), .val (.ref r1), .val .null] [(.ref r0)])) rfl (hb hby d2_3)
  have pre79 : ∀ t, Steps p.tables e below (T78.setTop (mkF m 6 #[.val (.ref r0), .val (.ref r1), .val .null] [(.ref w_1), (.ref r0)])) t → Steps p.tables e below (s₁.setTop (entryFrame m #[(.ref r0), (.ref r1)] 3)) t := fun t kt => by
    refine pre0 t ?_
    show Steps p.tables e below (s₁.setTop (mkF m 0 #[.val (.ref r0), .val (.ref r1), .unset] [])) _
    refine XS.aconstNull X0.here hx rfl (hb hby d2_0) ?_
    show Steps p.tables e below (s₁.setTop (mkF m 1 #[.val (.ref r0), .val (.ref r1), .unset] [.null])) _
    refine XS.astoreN X0.here hx rfl (hb hby d2_1) rfl rfl (l' := #[.val (.ref r0), .val (.ref r1), .val .null]) rfl ?_
    show Steps p.tables e below (s₁.setTop (mkF m 2 #[.val (.ref r0), .val (.ref r1), .val .null] [])) _
    refine XS.aloadN X0.here hx rfl (hb hby d2_2) rfl rfl ?_
    show Steps p.tables e below (s₁.setTop (mkF m 3 #[.val (.ref r0), .val (.ref r1), .val .null] [(.ref r0)])) _
    refine st78 _ ?_
    show Steps p.tables e below (T78.setTop (mkF m 6 #[.val (.ref r0), .val (.ref r1), .val .null] [(.ref w_1), (.ref r0)])) _
    exact kt
  by_cases hc80 : r0 = w_1
  · obtain ⟨T81, X81, e81, st81⟩ := getS2 X78 hx hZ hown (host := "") (Or.inl (hw _ (tk 9 rfl))) Via.refl e78 (S_1.ext O0.2) (g := (mkF m 16 #[.val (.ref r0), .val (.ref r1), .val .null] [])) rfl (hb hby d2_16)
    obtain ⟨fs, hr, hrun, hended, hW, hsame⟩ := X81.leave (v := some (.ref w_1)) (fun h => by rw [Bd.returns] at h; cases h)
    refine ⟨_, _, pre79 _ ?_, hrun, hended, _, _, rfl, ?_, ⟨_, rfl⟩, hW, hsame.mono (by decide) (by decide)⟩
    · show Steps p.tables e below (T78.setTop (mkF m 6 #[.val (.ref r0), .val (.ref r1), .val .null] [(.ref w_1), (.ref r0)])) _
      refine Jvm.RoadKit.acmp (g := (mkF m 6 #[.val (.ref r0), .val (.ref r1), .val .null] [(.ref w_1), (.ref r0)])) X78 hx rfl rfl rfl (pc0 := 6) (pc' := 16) (same := true) rfl (hb hby d2_6) rfl (decide_eq_true (congrArg Value.ref hc80)) (by decide) (by decide) ?_
      show Steps p.tables e below (T78.setTop (mkF m 16 #[.val (.ref r0), .val (.ref r1), .val .null] [])) _
      refine st81 _ ?_
      show Steps p.tables e below (T81.setTop (mkF m 19 #[.val (.ref r0), .val (.ref r1), .val .null] [(.ref w_1)])) _
      refine XS.astoreN X81.here hx rfl (hb hby d2_19) rfl rfl (l' := #[.val (.ref r0), .val (.ref r1), .val (.ref w_1)]) rfl ?_
      show Steps p.tables e below (T81.setTop (mkF m 20 #[.val (.ref r0), .val (.ref r1), .val (.ref w_1)] [])) _
      refine XS.goto X81.here hx rfl (pc0 := 20) (pc' := 41) rfl (hb hby d2_20) (by decide) (by decide) ?_
      show Steps p.tables e below (T81.setTop (mkF m 41 #[.val (.ref r0), .val (.ref r1), .val (.ref w_1)] [])) _
      refine XS.aloadN X81.here hx rfl (hb hby d2_41) rfl rfl ?_
      show Steps p.tables e below (T81.setTop (mkF m 42 #[.val (.ref r0), .val (.ref r1), .val (.ref w_1)] [(.ref w_1)])) _
      jvm_step X81.here [X81.here.top, hx, (hb hby d2_42), X81.method', Bd.returns, Value.isRef, FieldType.isReference]
      first | (intro acts; rw [hr _ acts rfl rfl rfl]) | rw [hr _ _ rfl rfl rfl]
      exact Steps.refl _
    · show Q2 Z w_1 w_2 r0 r1 h0 n0 _ T81.heap _
      rw [e81]
      exact ⟨by unfold sp2; rw [if_pos hc80], N0, rfl⟩
  · obtain ⟨T82, X82, e82, st82⟩ := getS2 X78 hx hZ hown (host := "") (Or.inl (hw _ (tk 9 rfl))) Via.refl e78 (S_1.ext O0.2) (g := (mkF m 10 #[.val (.ref r0), .val (.ref r1), .val .null] [(.ref r1)])) rfl (hb hby d2_10)
    have pre83 : ∀ t, Steps p.tables e below (T82.setTop (mkF m 13 #[.val (.ref r0), .val (.ref r1), .val .null] [(.ref w_1), (.ref r1)])) t → Steps p.tables e below (s₁.setTop (entryFrame m #[(.ref r0), (.ref r1)] 3)) t := fun t kt => by
      refine pre79 t ?_
      show Steps p.tables e below (T78.setTop (mkF m 6 #[.val (.ref r0), .val (.ref r1), .val .null] [(.ref w_1), (.ref r0)])) _
      refine Jvm.RoadKit.acmp (g := (mkF m 6 #[.val (.ref r0), .val (.ref r1), .val .null] [(.ref w_1), (.ref r0)])) X78 hx rfl rfl rfl (pc0 := 6) (pc' := 9) (same := false) rfl (hb hby d2_6) rfl (decide_eq_false fun q => hc80 (Value.ref.inj q)) (by decide) (by decide) ?_
      show Steps p.tables e below (T78.setTop (mkF m 9 #[.val (.ref r0), .val (.ref r1), .val .null] [])) _
      refine XS.aloadN X78.here hx rfl (hb hby d2_9) rfl rfl ?_
      show Steps p.tables e below (T78.setTop (mkF m 10 #[.val (.ref r0), .val (.ref r1), .val .null] [(.ref r1)])) _
      refine st82 _ ?_
      show Steps p.tables e below (T82.setTop (mkF m 13 #[.val (.ref r0), .val (.ref r1), .val .null] [(.ref w_1), (.ref r1)])) _
      exact kt
    by_cases hc84 : r1 = w_1
    · obtain ⟨T85, X85, e85, st85⟩ := getS2 X82 hx hZ hown (host := "") (Or.inl (hw _ (tk 9 rfl))) Via.refl e82 (S_1.ext O0.2) (g := (mkF m 16 #[.val (.ref r0), .val (.ref r1), .val .null] [])) rfl (hb hby d2_16)
      obtain ⟨fs, hr, hrun, hended, hW, hsame⟩ := X85.leave (v := some (.ref w_1)) (fun h => by rw [Bd.returns] at h; cases h)
      refine ⟨_, _, pre83 _ ?_, hrun, hended, _, _, rfl, ?_, ⟨_, rfl⟩, hW, hsame.mono (by decide) (by decide)⟩
      · show Steps p.tables e below (T82.setTop (mkF m 13 #[.val (.ref r0), .val (.ref r1), .val .null] [(.ref w_1), (.ref r1)])) _
        refine Jvm.RoadKit.acmp (g := (mkF m 13 #[.val (.ref r0), .val (.ref r1), .val .null] [(.ref w_1), (.ref r1)])) X82 hx rfl rfl rfl (pc0 := 13) (pc' := 16) (same := true) rfl (hb hby d2_13) rfl (decide_eq_true (congrArg Value.ref hc84)) (by decide) (by decide) ?_
        show Steps p.tables e below (T82.setTop (mkF m 16 #[.val (.ref r0), .val (.ref r1), .val .null] [])) _
        refine st85 _ ?_
        show Steps p.tables e below (T85.setTop (mkF m 19 #[.val (.ref r0), .val (.ref r1), .val .null] [(.ref w_1)])) _
        refine XS.astoreN X85.here hx rfl (hb hby d2_19) rfl rfl (l' := #[.val (.ref r0), .val (.ref r1), .val (.ref w_1)]) rfl ?_
        show Steps p.tables e below (T85.setTop (mkF m 20 #[.val (.ref r0), .val (.ref r1), .val (.ref w_1)] [])) _
        refine XS.goto X85.here hx rfl (pc0 := 20) (pc' := 41) rfl (hb hby d2_20) (by decide) (by decide) ?_
        show Steps p.tables e below (T85.setTop (mkF m 41 #[.val (.ref r0), .val (.ref r1), .val (.ref w_1)] [])) _
        refine XS.aloadN X85.here hx rfl (hb hby d2_41) rfl rfl ?_
        show Steps p.tables e below (T85.setTop (mkF m 42 #[.val (.ref r0), .val (.ref r1), .val (.ref w_1)] [(.ref w_1)])) _
        jvm_step X85.here [X85.here.top, hx, (hb hby d2_42), X85.method', Bd.returns, Value.isRef, FieldType.isReference]
        first | (intro acts; rw [hr _ acts rfl rfl rfl]) | rw [hr _ _ rfl rfl rfl]
        exact Steps.refl _
      · show Q2 Z w_1 w_2 r0 r1 h0 n0 _ T85.heap _
        rw [e85]
        exact ⟨by unfold sp2; rw [if_neg hc80, if_pos hc84], N0, rfl⟩
    · obtain ⟨T86, X86, e86, st86⟩ := getS2 X82 hx hZ hown (host := "") (Or.inl (hw _ (tk 11 rfl))) Via.refl e82 (S_2.ext O0.2) (g := (mkF m 24 #[.val (.ref r0), .val (.ref r1), .val .null] [(.ref r0)])) rfl (hb hby d2_24)
      have pre87 : ∀ t, Steps p.tables e below (T86.setTop (mkF m 27 #[.val (.ref r0), .val (.ref r1), .val .null] [(.ref w_2), (.ref r0)])) t → Steps p.tables e below (s₁.setTop (entryFrame m #[(.ref r0), (.ref r1)] 3)) t := fun t kt => by
        refine pre83 t ?_
        show Steps p.tables e below (T82.setTop (mkF m 13 #[.val (.ref r0), .val (.ref r1), .val .null] [(.ref w_1), (.ref r1)])) _
        refine Jvm.RoadKit.acmp (g := (mkF m 13 #[.val (.ref r0), .val (.ref r1), .val .null] [(.ref w_1), (.ref r1)])) X82 hx rfl rfl rfl (pc0 := 13) (pc' := 23) (same := false) rfl (hb hby d2_13) rfl (decide_eq_false fun q => hc84 (Value.ref.inj q)) (by decide) (by decide) ?_
        show Steps p.tables e below (T82.setTop (mkF m 23 #[.val (.ref r0), .val (.ref r1), .val .null] [])) _
        refine XS.aloadN X82.here hx rfl (hb hby d2_23) rfl rfl ?_
        show Steps p.tables e below (T82.setTop (mkF m 24 #[.val (.ref r0), .val (.ref r1), .val .null] [(.ref r0)])) _
        refine st86 _ ?_
        show Steps p.tables e below (T86.setTop (mkF m 27 #[.val (.ref r0), .val (.ref r1), .val .null] [(.ref w_2), (.ref r0)])) _
        exact kt
      by_cases hc88 : r0 = w_2
      · obtain ⟨T89, X89, e89, st89⟩ := getS2 X86 hx hZ hown (host := "") (Or.inl (hw _ (tk 11 rfl))) Via.refl e86 (S_2.ext O0.2) (g := (mkF m 37 #[.val (.ref r0), .val (.ref r1), .val .null] [])) rfl (hb hby d2_37)
        obtain ⟨fs, hr, hrun, hended, hW, hsame⟩ := X89.leave (v := some (.ref w_2)) (fun h => by rw [Bd.returns] at h; cases h)
        refine ⟨_, _, pre87 _ ?_, hrun, hended, _, _, rfl, ?_, ⟨_, rfl⟩, hW, hsame.mono (by decide) (by decide)⟩
        · show Steps p.tables e below (T86.setTop (mkF m 27 #[.val (.ref r0), .val (.ref r1), .val .null] [(.ref w_2), (.ref r0)])) _
          refine Jvm.RoadKit.acmp (g := (mkF m 27 #[.val (.ref r0), .val (.ref r1), .val .null] [(.ref w_2), (.ref r0)])) X86 hx rfl rfl rfl (pc0 := 27) (pc' := 37) (same := true) rfl (hb hby d2_27) rfl (decide_eq_true (congrArg Value.ref hc88)) (by decide) (by decide) ?_
          show Steps p.tables e below (T86.setTop (mkF m 37 #[.val (.ref r0), .val (.ref r1), .val .null] [])) _
          refine st89 _ ?_
          show Steps p.tables e below (T89.setTop (mkF m 40 #[.val (.ref r0), .val (.ref r1), .val .null] [(.ref w_2)])) _
          refine XS.astoreN X89.here hx rfl (hb hby d2_40) rfl rfl (l' := #[.val (.ref r0), .val (.ref r1), .val (.ref w_2)]) rfl ?_
          show Steps p.tables e below (T89.setTop (mkF m 41 #[.val (.ref r0), .val (.ref r1), .val (.ref w_2)] [])) _
          refine XS.aloadN X89.here hx rfl (hb hby d2_41) rfl rfl ?_
          show Steps p.tables e below (T89.setTop (mkF m 42 #[.val (.ref r0), .val (.ref r1), .val (.ref w_2)] [(.ref w_2)])) _
          jvm_step X89.here [X89.here.top, hx, (hb hby d2_42), X89.method', Bd.returns, Value.isRef, FieldType.isReference]
          first | (intro acts; rw [hr _ acts rfl rfl rfl]) | rw [hr _ _ rfl rfl rfl]
          exact Steps.refl _
        · show Q2 Z w_1 w_2 r0 r1 h0 n0 _ T89.heap _
          rw [e89]
          exact ⟨by unfold sp2; rw [if_neg hc80, if_neg hc84, if_pos hc88], N0, rfl⟩
      · obtain ⟨T90, X90, e90, st90⟩ := getS2 X86 hx hZ hown (host := "") (Or.inl (hw _ (tk 11 rfl))) Via.refl e86 (S_2.ext O0.2) (g := (mkF m 31 #[.val (.ref r0), .val (.ref r1), .val .null] [(.ref r1)])) rfl (hb hby d2_31)
        have pre91 : ∀ t, Steps p.tables e below (T90.setTop (mkF m 34 #[.val (.ref r0), .val (.ref r1), .val .null] [(.ref w_2), (.ref r1)])) t → Steps p.tables e below (s₁.setTop (entryFrame m #[(.ref r0), (.ref r1)] 3)) t := fun t kt => by
          refine pre87 t ?_
          show Steps p.tables e below (T86.setTop (mkF m 27 #[.val (.ref r0), .val (.ref r1), .val .null] [(.ref w_2), (.ref r0)])) _
          refine Jvm.RoadKit.acmp (g := (mkF m 27 #[.val (.ref r0), .val (.ref r1), .val .null] [(.ref w_2), (.ref r0)])) X86 hx rfl rfl rfl (pc0 := 27) (pc' := 30) (same := false) rfl (hb hby d2_27) rfl (decide_eq_false fun q => hc88 (Value.ref.inj q)) (by decide) (by decide) ?_
          show Steps p.tables e below (T86.setTop (mkF m 30 #[.val (.ref r0), .val (.ref r1), .val .null] [])) _
          refine XS.aloadN X86.here hx rfl (hb hby d2_30) rfl rfl ?_
          show Steps p.tables e below (T86.setTop (mkF m 31 #[.val (.ref r0), .val (.ref r1), .val .null] [(.ref r1)])) _
          refine st90 _ ?_
          show Steps p.tables e below (T90.setTop (mkF m 34 #[.val (.ref r0), .val (.ref r1), .val .null] [(.ref w_2), (.ref r1)])) _
          exact kt
        by_cases hc92 : r1 = w_2
        · obtain ⟨T93, X93, e93, st93⟩ := getS2 X90 hx hZ hown (host := "") (Or.inl (hw _ (tk 11 rfl))) Via.refl e90 (S_2.ext O0.2) (g := (mkF m 37 #[.val (.ref r0), .val (.ref r1), .val .null] [])) rfl (hb hby d2_37)
          obtain ⟨fs, hr, hrun, hended, hW, hsame⟩ := X93.leave (v := some (.ref w_2)) (fun h => by rw [Bd.returns] at h; cases h)
          refine ⟨_, _, pre91 _ ?_, hrun, hended, _, _, rfl, ?_, ⟨_, rfl⟩, hW, hsame.mono (by decide) (by decide)⟩
          · show Steps p.tables e below (T90.setTop (mkF m 34 #[.val (.ref r0), .val (.ref r1), .val .null] [(.ref w_2), (.ref r1)])) _
            refine Jvm.RoadKit.acmp (g := (mkF m 34 #[.val (.ref r0), .val (.ref r1), .val .null] [(.ref w_2), (.ref r1)])) X90 hx rfl rfl rfl (pc0 := 34) (pc' := 37) (same := true) rfl (hb hby d2_34) rfl (decide_eq_true (congrArg Value.ref hc92)) (by decide) (by decide) ?_
            show Steps p.tables e below (T90.setTop (mkF m 37 #[.val (.ref r0), .val (.ref r1), .val .null] [])) _
            refine st93 _ ?_
            show Steps p.tables e below (T93.setTop (mkF m 40 #[.val (.ref r0), .val (.ref r1), .val .null] [(.ref w_2)])) _
            refine XS.astoreN X93.here hx rfl (hb hby d2_40) rfl rfl (l' := #[.val (.ref r0), .val (.ref r1), .val (.ref w_2)]) rfl ?_
            show Steps p.tables e below (T93.setTop (mkF m 41 #[.val (.ref r0), .val (.ref r1), .val (.ref w_2)] [])) _
            refine XS.aloadN X93.here hx rfl (hb hby d2_41) rfl rfl ?_
            show Steps p.tables e below (T93.setTop (mkF m 42 #[.val (.ref r0), .val (.ref r1), .val (.ref w_2)] [(.ref w_2)])) _
            jvm_step X93.here [X93.here.top, hx, (hb hby d2_42), X93.method', Bd.returns, Value.isRef, FieldType.isReference]
            first | (intro acts; rw [hr _ acts rfl rfl rfl]) | rw [hr _ _ rfl rfl rfl]
            exact Steps.refl _
          · show Q2 Z w_1 w_2 r0 r1 h0 n0 _ T93.heap _
            rw [e93]
            exact ⟨by unfold sp2; rw [if_neg hc80, if_neg hc84, if_neg hc88, if_pos hc92], N0, rfl⟩
        · obtain ⟨fs, hr, hrun, hended, hW, hsame⟩ := X90.leave (v := some .null) (fun h => by rw [Bd.returns] at h; cases h)
          refine ⟨_, _, pre91 _ ?_, hrun, hended, _, _, rfl, ?_, ⟨_, rfl⟩, hW, hsame.mono (by decide) (by decide)⟩
          · show Steps p.tables e below (T90.setTop (mkF m 34 #[.val (.ref r0), .val (.ref r1), .val .null] [(.ref w_2), (.ref r1)])) _
            refine Jvm.RoadKit.acmp (g := (mkF m 34 #[.val (.ref r0), .val (.ref r1), .val .null] [(.ref w_2), (.ref r1)])) X90 hx rfl rfl rfl (pc0 := 34) (pc' := 41) (same := false) rfl (hb hby d2_34) rfl (decide_eq_false fun q => hc92 (Value.ref.inj q)) (by decide) (by decide) ?_
            show Steps p.tables e below (T90.setTop (mkF m 41 #[.val (.ref r0), .val (.ref r1), .val .null] [])) _
            refine XS.aloadN X90.here hx rfl (hb hby d2_41) rfl rfl ?_
            show Steps p.tables e below (T90.setTop (mkF m 42 #[.val (.ref r0), .val (.ref r1), .val .null] [.null])) _
            jvm_step X90.here [X90.here.top, hx, (hb hby d2_42), X90.method', Bd.returns, Value.isRef, FieldType.isReference]
            first | (intro acts; rw [hr _ acts rfl rfl rfl]) | rw [hr _ _ rfl rfl rfl]
            exact Steps.refl _
          · show Q2 Z w_1 w_2 r0 r1 h0 n0 _ T90.heap _
            rw [e90]
            exact ⟨by unfold sp2; rw [if_neg hc80, if_neg hc84, if_neg hc88, if_neg hc92], N0, rfl⟩
theorem pd_0 : parseMethodDescriptor "(I)Lcom/example/vetd/vetd/Decision;" = some ⟨[.int], some (.object "com/example/vetd/vetd/Decision")⟩ := by decide +kernel
theorem pd_1 : parseMethodDescriptor "(Lcom/example/vetd/vetd/Decision;Lcom/example/vetd/vetd/Decision;)Lcom/example/vetd/vetd/Decision;" = some ⟨[(.object "com/example/vetd/vetd/Decision"), (.object "com/example/vetd/vetd/Decision")], some (.object "com/example/vetd/vetd/Decision")⟩ := by decide +kernel
theorem pd_2 : parseMethodDescriptor "(Lcom/example/vetd/vetd/Decision;)I" = some ⟨[(.object "com/example/vetd/vetd/Decision")], some .int⟩ := by decide +kernel
theorem pd_3 : parseMethodDescriptor "(II)I" = some ⟨[.int, .int], some .int⟩ := by decide +kernel
theorem pn_0 : plainName "com/example/vetd/vetd/DecisionDenyOverPermitPinLaw" = true := by first | (simp [plainName, overriddenIn]; done) | decide +kernel
theorem ef_0 (m : MethodId) (p0 : Int32) (p1 : Int32) : entryFrame m #[(.int p0), (.int p1)] maxLocals = mkF m 0 #[.val (.int p0), .val (.int p1), .unset, .unset, .unset, .unset] [] := by first | (simp [entryFrame, mkF, argsToLocals, Value.category, maxLocals]; done) | rfl
def sp0 (p0 : Int32) (p1 : Int32) : Int32 := (if ((p0 &&& (2147483647 : Int32)) % (3 : Int32)) = (0 : Int32) then (if ((p1 &&& (2147483647 : Int32)) % (3 : Int32)) = (0 : Int32) then (1 : Int32) else (if ((p1 &&& (2147483647 : Int32)) % (3 : Int32)) = (1 : Int32) then (1 : Int32) else (1 : Int32))) else (if ((p0 &&& (2147483647 : Int32)) % (3 : Int32)) = (1 : Int32) then (if ((p1 &&& (2147483647 : Int32)) % (3 : Int32)) = (0 : Int32) then (1 : Int32) else (if ((p1 &&& (2147483647 : Int32)) % (3 : Int32)) = (1 : Int32) then (1 : Int32) else (1 : Int32))) else (if ((p1 &&& (2147483647 : Int32)) % (3 : Int32)) = (0 : Int32) then (1 : Int32) else (if ((p1 &&& (2147483647 : Int32)) % (3 : Int32)) = (1 : Int32) then (1 : Int32) else (1 : Int32)))))
def Q0 (Z : State) (w_1 : Addr) (w_2 : Addr) (p0 : Int32) (p1 : Int32) (h0 : Heap) (n0 : Nat) (v : Option Value) (h : Heap) (L : List Loc) : Prop := v = some (.int (sp0 p0 p1)) ∧ Fr n0 L ∧ h = h0
set_option maxRecDepth 65536 in
set_option maxHeartbeats 40000000 in
theorem rm0 (l : Launch) (Z : State) (a0 : Array Value) (hw : ∀ d ∈ tables_1, d.before a0 Z = true) (ws : List Jvm.Cond) (w_1 : Addr) (w_2 : Addr) (hS : StF Z w_1 w_2) (p0 : Int32) (p1 : Int32) (h0 : Heap) (n0 : Nat) (O0 : Old Z n0 h0) :
    MetFree l x (head1 (Jvm.Cond.code x code maxLocals ret :: ws) room_1) (fun a U => a = #[(.int p0), (.int p1)] ∧ Z.Warmed39 U.vm ∧ U.heap = h0) (fun _ _ _ _ _ => True) (fun _ U o U' => ∃ v L, o = .returned v ∧ Q0 Z w_1 w_2 p0 p1 h0 n0 v U'.heap L ∧ FrameEnd U o U' L room_1.cells room_1.slots) := by
  refine MetFree.of_bodySF (plainFor_of_name pn_0) hisR ?_
  intro p e s m args below meth c s₁ Bd hml0 hP hK
  obtain ⟨rfl, hZ, hh⟩ := hP
  have hx := Bd.exec
  have hby := Bd.bytes
  have hml : c.maxLocals = 6 := hml0
  have hown : s.vm.findClass "com/example/vetd/vetd/DecisionDenyOverPermitPinLaw" = some m.cls := findClass_of_methodNamed Bd.named
  have hnm := (name_of_methodNamed Bd.named Bd.method).1
  have X0 : Stand p l e room_1 s m #[(.int p0), (.int p1)] below meth c s₁ [] 0 0 := Stand.of_body Bd
  have e0 : s₁.heap = h0 := by rw [← hh, Bd.state]; rfl
  have N0 := Fr.nil n0
  have hS0 := hS
  obtain ⟨S_1, E_1, S_2, E_2, F_1_ordinal, F_2_ordinal⟩ := hS
  have pre0 : ∀ t, Steps p.tables e below (s₁.setTop (mkF m 0 #[.val (.int p0), .val (.int p1), .unset, .unset, .unset, .unset] [])) t → Steps p.tables e below (s₁.setTop (entryFrame m #[(.int p0), (.int p1)] maxLocals)) t := fun t k => castTop (ef_0 m p0 p1) k
  have pre13 : ∀ t, Steps p.tables e below (s₁.setTop (mkF m 1 #[.val (.int p0), .val (.int p1), .unset, .unset, .unset, .unset] [(.int p0)])) t → Steps p.tables e below (s₁.setTop (entryFrame m #[(.int p0), (.int p1)] maxLocals)) t := fun t kt => by
    refine pre0 t ?_
    show Steps p.tables e below (s₁.setTop (mkF m 0 #[.val (.int p0), .val (.int p1), .unset, .unset, .unset, .unset] [])) _
    refine XS.iloadN X0.here hx rfl (hb hby at_0) rfl ?_
    show Steps p.tables e below (s₁.setTop (mkF m 1 #[.val (.int p0), .val (.int p1), .unset, .unset, .unset, .unset] [(.int p0)])) _
    exact kt
  by_cases hc14 : ((p0 &&& (2147483647 : Int32)) % (3 : Int32)) = (0 : Int32)
  · obtain ⟨_, _, ⟨T15, L15, k15, n15⟩, -, X15, ⟨Lc15, hQ15, l15, y15, z15⟩, st15⟩ := Jvm.LawKit.callS X0 hx (y := Y0) hown (mvT hZ (hw _ (tk 0 rfl))) (mvT hZ (hw _ (tk 1 rfl))) (mvT hZ (hw _ (tk 2 rfl))) (mvT hZ (hw _ (tk 3 rfl))) (by decide) (backOf (W := 0) (rm1 l Z a0 hw [] w_1 w_2 hS0 p0 h0 n0 O0) hZ (hw _ (tk 3 rfl)) (hw _ (tk 2 rfl)) (by decide) (by decide)) (g := (mkF m 1 #[.val (.int p0), .val (.int p1), .unset, .unset, .unset, .unset] [(.int p0)])) rfl (by rw [hml]; rfl) (argsL := [(.int p0)]) (rest := []) (lenOf pd_0 rfl) rfl (by show 2 * 0 + _ ≤ _; exact Nat.le_of_eq rfl) (hb hby at_1) (fun _ _ => ⟨rfl, e0, (by decide : 0 + 0 ≤ _), (by decide : 0 + 0 ≤ _)⟩)
    dsimp only [Pt.U, Pt.locs, Pt.cells, Pt.slots] at X15 l15 y15 z15 st15 hQ15
    subst l15 y15 z15
    obtain ⟨rv15, N15q, e15⟩ := hQ15
    rw [show sp1 w_1 w_2 p0 = .null from by unfold sp1; rw [if_pos hc14]] at rv15
    subst rv15
    have N15 := Fr.app N0 N15q
    have pre16 : ∀ t, Steps p.tables e below (T15.setTop (mkF m 6 #[.val (.int p0), .val (.int p1), .val .null, .unset, .unset, .unset] [(.int p1)])) t → Steps p.tables e below (s₁.setTop (entryFrame m #[(.int p0), (.int p1)] maxLocals)) t := fun t kt => by
      refine pre13 t ?_
      show Steps p.tables e below (s₁.setTop (mkF m 1 #[.val (.int p0), .val (.int p1), .unset, .unset, .unset, .unset] [(.int p0)])) _
      refine st15 _ ?_
      show Steps p.tables e below (T15.setTop (mkF m 4 #[.val (.int p0), .val (.int p1), .unset, .unset, .unset, .unset] [.null])) _
      refine XS.astoreN X15.here hx rfl (hb hby at_4) rfl rfl (l' := #[.val (.int p0), .val (.int p1), .val .null, .unset, .unset, .unset]) rfl ?_
      show Steps p.tables e below (T15.setTop (mkF m 5 #[.val (.int p0), .val (.int p1), .val .null, .unset, .unset, .unset] [])) _
      refine XS.iloadN X15.here hx rfl (hb hby at_5) rfl ?_
      show Steps p.tables e below (T15.setTop (mkF m 6 #[.val (.int p0), .val (.int p1), .val .null, .unset, .unset, .unset] [(.int p1)])) _
      exact kt
    by_cases hc17 : ((p1 &&& (2147483647 : Int32)) % (3 : Int32)) = (0 : Int32)
    · obtain ⟨_, _, ⟨T18, L18, k18, n18⟩, -, X18, ⟨Lc18, hQ18, l18, y18, z18⟩, st18⟩ := Jvm.LawKit.callS X15 hx (y := Y0) hown (mvT hZ (hw _ (tk 0 rfl))) (mvT hZ (hw _ (tk 1 rfl))) (mvT hZ (hw _ (tk 2 rfl))) (mvT hZ (hw _ (tk 3 rfl))) (by decide) (backOf (W := 0) (rm1 l Z a0 hw [] w_1 w_2 hS0 p1 h0 n0 O0) hZ (hw _ (tk 3 rfl)) (hw _ (tk 2 rfl)) (by decide) (by decide)) (g := (mkF m 6 #[.val (.int p0), .val (.int p1), .val .null, .unset, .unset, .unset] [(.int p1)])) rfl (by rw [hml]; rfl) (argsL := [(.int p1)]) (rest := []) (lenOf pd_0 rfl) rfl (by show 2 * 0 + _ ≤ _; exact Nat.le_of_eq rfl) (hb hby at_6) (fun _ _ => ⟨rfl, e15, (by decide : 0 + 0 ≤ _), (by decide : 0 + 0 ≤ _)⟩)
      dsimp only [Pt.U, Pt.locs, Pt.cells, Pt.slots] at X18 l18 y18 z18 st18 hQ18
      subst l18 y18 z18
      obtain ⟨rv18, N18q, e18⟩ := hQ18
      rw [show sp1 w_1 w_2 p1 = .null from by unfold sp1; rw [if_pos hc17]] at rv18
      subst rv18
      have N18 := Fr.app N15 N18q
      obtain ⟨_, _, ⟨T23, L23, k23, n23⟩, -, X23, ⟨Lc23, hQ23, l23, y23, z23⟩, st23⟩ := Jvm.LawKit.callS X18 hx (y := Y1) hown (mvT hZ (hw _ (tk 5 rfl))) (mvT hZ (hw _ (tk 6 rfl))) (mvT hZ (hw _ (tk 7 rfl))) (mvT hZ (hw _ (tk 8 rfl))) (by decide) (backOf (W := 0) (rm2n0_1 l Z a0 hw [] w_1 w_2 hS0 h0 n0 O0) hZ (hw _ (tk 8 rfl)) (hw _ (tk 7 rfl)) (by decide) (by decide)) (g := (mkF m 12 #[.val (.int p0), .val (.int p1), .val .null, .val .null, .unset, .unset] [.null, .null])) rfl (by rw [hml]; rfl) (argsL := [.null, .null]) (rest := []) (lenOf pd_1 rfl) rfl (by show 2 * 0 + _ ≤ _; exact Nat.le_of_eq rfl) (hb hby at_12) (fun _ _ => ⟨rfl, e18, (by decide : 0 + 0 ≤ _), (by decide : 0 + 0 ≤ _)⟩)
      dsimp only [Pt.U, Pt.locs, Pt.cells, Pt.slots] at X23 l23 y23 z23 st23 hQ23
      subst l23 y23 z23
      obtain ⟨rv23, N23q, e23⟩ := hQ23
      rw [show sp2n0_1 = .null from by unfold sp2n0_1; rfl] at rv23
      subst rv23
      have N23 := Fr.app N18 N23q
      obtain ⟨_, _, ⟨T24, L24, k24, n24⟩, -, X24, ⟨Lc24, hQ24, l24, y24, z24⟩, st24⟩ := Jvm.LawKit.callS X23 hx (y := Y2) hown (mvT hZ (hw _ (tk 13 rfl))) (mvT hZ (hw _ (tk 14 rfl))) (mvT hZ (hw _ (tk 2 rfl))) (mvT hZ (hw _ (tk 15 rfl))) (by decide) (backOf (W := 0) (rm3n0 l Z a0 hw [] w_1 w_2 hS0 h0 n0 O0) hZ (hw _ (tk 15 rfl)) (hw _ (tk 2 rfl)) (by decide) (by decide)) (g := (mkF m 18 #[.val (.int p0), .val (.int p1), .val .null, .val .null, .val .null, .unset] [.null])) rfl (by rw [hml]; rfl) (argsL := [.null]) (rest := []) (lenOf pd_2 rfl) rfl (by show 2 * 0 + _ ≤ _; exact Nat.le_of_eq rfl) (hb hby at_18) (fun _ _ => ⟨rfl, e23, (by decide : 0 + 0 ≤ _), (by decide : 0 + 0 ≤ _)⟩)
      dsimp only [Pt.U, Pt.locs, Pt.cells, Pt.slots] at X24 l24 y24 z24 st24 hQ24
      subst l24 y24 z24
      obtain ⟨rv24, N24q, e24⟩ := hQ24
      rw [show sp3n0 = (0 : Int32) from by unfold sp3n0; rfl] at rv24
      subst rv24
      have N24 := Fr.app N23 N24q
      obtain ⟨_, _, ⟨T25, L25, k25, n25⟩, -, X25, ⟨Lc25, hQ25, l25, y25, z25⟩, st25⟩ := Jvm.LawKit.callS X24 hx (y := Y2) hown (mvT hZ (hw _ (tk 13 rfl))) (mvT hZ (hw _ (tk 14 rfl))) (mvT hZ (hw _ (tk 2 rfl))) (mvT hZ (hw _ (tk 15 rfl))) (by decide) (backOf (W := 1) (rm3n0 l Z a0 hw [] w_1 w_2 hS0 h0 n0 O0) hZ (hw _ (tk 15 rfl)) (hw _ (tk 2 rfl)) (by decide) (by decide)) (g := (mkF m 22 #[.val (.int p0), .val (.int p1), .val .null, .val .null, .val .null, .unset] [.null, (.int (0 : Int32))])) rfl (by rw [hml]; rfl) (argsL := [.null]) (rest := [(.int (0 : Int32))]) (lenOf pd_2 rfl) rfl (by show 2 * 0 + _ ≤ _; exact Nat.le_of_eq rfl) (hb hby at_22) (fun _ _ => ⟨rfl, e24, (by decide : 0 + 0 ≤ _), (by decide : 0 + 0 ≤ _)⟩)
      dsimp only [Pt.U, Pt.locs, Pt.cells, Pt.slots] at X25 l25 y25 z25 st25 hQ25
      subst l25 y25 z25
      obtain ⟨rv25, N25q, e25⟩ := hQ25
      rw [show sp3n0 = (0 : Int32) from by unfold sp3n0; rfl] at rv25
      subst rv25
      have N25 := Fr.app N24 N25q
      obtain ⟨_, _, ⟨T28, L28, k28, n28⟩, -, X28, ⟨Lc28, hQ28, l28, y28, z28⟩, st28⟩ := Jvm.LawKit.callS X25 hx (y := Y3) hown (mvT hZ (hw _ (tk 16 rfl))) (mvT hZ (hw _ (tk 17 rfl))) (mvT hZ (hw _ (tk 18 rfl))) (mvT hZ (hw _ (tk 19 rfl))) (by decide) (backOf (W := 0) (rm4 l Z a0 hw [] w_1 w_2 hS0 (0 : Int32) (0 : Int32) h0 n0 O0) hZ (hw _ (tk 19 rfl)) (hw _ (tk 18 rfl)) (by decide) (by decide)) (g := (mkF m 25 #[.val (.int p0), .val (.int p1), .val .null, .val .null, .val .null, .unset] [(.int (0 : Int32)), (.int (0 : Int32))])) rfl (by rw [hml]; rfl) (argsL := [(.int (0 : Int32)), (.int (0 : Int32))]) (rest := []) (lenOf pd_3 rfl) rfl (by show 2 * 0 + _ ≤ _; exact Nat.le_of_eq rfl) (hb hby at_25) (fun _ _ => ⟨rfl, e25, (by decide : 0 + 0 ≤ _), (by decide : 0 + 0 ≤ _)⟩)
      dsimp only [Pt.U, Pt.locs, Pt.cells, Pt.slots] at X28 l28 y28 z28 st28 hQ28
      subst l28 y28 z28
      obtain ⟨rv28, N28q, e28⟩ := hQ28
      rw [show sp4 (0 : Int32) (0 : Int32) = (0 : Int32) from by unfold sp4; rw [if_neg (by decide : ¬ ((0 : Int32) < (0 : Int32)))]] at rv28
      subst rv28
      have N28 := Fr.app N25 N28q
      obtain ⟨_, _, ⟨T29, L29, k29, n29⟩, -, X29, ⟨Lc29, hQ29, l29, y29, z29⟩, st29⟩ := Jvm.LawKit.callS X28 hx (y := Y2) hown (mvT hZ (hw _ (tk 13 rfl))) (mvT hZ (hw _ (tk 14 rfl))) (mvT hZ (hw _ (tk 2 rfl))) (mvT hZ (hw _ (tk 15 rfl))) (by decide) (backOf (W := 0) (rm3n0 l Z a0 hw [] w_1 w_2 hS0 h0 n0 O0) hZ (hw _ (tk 15 rfl)) (hw _ (tk 2 rfl)) (by decide) (by decide)) (g := (mkF m 32 #[.val (.int p0), .val (.int p1), .val .null, .val .null, .val .null, .val (.int (0 : Int32))] [.null])) rfl (by rw [hml]; rfl) (argsL := [.null]) (rest := []) (lenOf pd_2 rfl) rfl (by show 2 * 0 + _ ≤ _; exact Nat.le_of_eq rfl) (hb hby at_32) (fun _ _ => ⟨rfl, e28, (by decide : 0 + 0 ≤ _), (by decide : 0 + 0 ≤ _)⟩)
      dsimp only [Pt.U, Pt.locs, Pt.cells, Pt.slots] at X29 l29 y29 z29 st29 hQ29
      subst l29 y29 z29
      obtain ⟨rv29, N29q, e29⟩ := hQ29
      rw [show sp3n0 = (0 : Int32) from by unfold sp3n0; rfl] at rv29
      subst rv29
      have N29 := Fr.app N28 N29q
      obtain ⟨fs, hr, hrun, hended, hW, hsame⟩ := X29.leave (v := some (.int (1 : Int32))) (fun h => by rw [Bd.returns] at h; cases h)
      refine ⟨_, _, pre16 _ ?_, hrun, hended, _, _, rfl, ?_, ⟨_, rfl⟩, hW, hsame.mono (by decide) (by decide)⟩
      · show Steps p.tables e below (T15.setTop (mkF m 6 #[.val (.int p0), .val (.int p1), .val .null, .unset, .unset, .unset] [(.int p1)])) _
        refine st18 _ ?_
        show Steps p.tables e below (T18.setTop (mkF m 9 #[.val (.int p0), .val (.int p1), .val .null, .unset, .unset, .unset] [.null])) _
        refine XS.astoreN X18.here hx rfl (hb hby at_9) rfl rfl (l' := #[.val (.int p0), .val (.int p1), .val .null, .val .null, .unset, .unset]) rfl ?_
        show Steps p.tables e below (T18.setTop (mkF m 10 #[.val (.int p0), .val (.int p1), .val .null, .val .null, .unset, .unset] [])) _
        refine XS.aloadN X18.here hx rfl (hb hby at_10) rfl rfl ?_
        show Steps p.tables e below (T18.setTop (mkF m 11 #[.val (.int p0), .val (.int p1), .val .null, .val .null, .unset, .unset] [.null])) _
        refine XS.aloadN X18.here hx rfl (hb hby at_11) rfl rfl ?_
        show Steps p.tables e below (T18.setTop (mkF m 12 #[.val (.int p0), .val (.int p1), .val .null, .val .null, .unset, .unset] [.null, .null])) _
        refine st23 _ ?_
        show Steps p.tables e below (T23.setTop (mkF m 15 #[.val (.int p0), .val (.int p1), .val .null, .val .null, .unset, .unset] [.null])) _
        refine XS.astore X23.here hx rfl (hb hby at_15) rfl rfl (l' := #[.val (.int p0), .val (.int p1), .val .null, .val .null, .val .null, .unset]) rfl ?_
        show Steps p.tables e below (T23.setTop (mkF m 17 #[.val (.int p0), .val (.int p1), .val .null, .val .null, .val .null, .unset] [])) _
        refine XS.aloadN X23.here hx rfl (hb hby at_17) rfl rfl ?_
        show Steps p.tables e below (T23.setTop (mkF m 18 #[.val (.int p0), .val (.int p1), .val .null, .val .null, .val .null, .unset] [.null])) _
        refine st24 _ ?_
        show Steps p.tables e below (T24.setTop (mkF m 21 #[.val (.int p0), .val (.int p1), .val .null, .val .null, .val .null, .unset] [(.int (0 : Int32))])) _
        refine XS.aloadN X24.here hx rfl (hb hby at_21) rfl rfl ?_
        show Steps p.tables e below (T24.setTop (mkF m 22 #[.val (.int p0), .val (.int p1), .val .null, .val .null, .val .null, .unset] [.null, (.int (0 : Int32))])) _
        refine st25 _ ?_
        show Steps p.tables e below (T25.setTop (mkF m 25 #[.val (.int p0), .val (.int p1), .val .null, .val .null, .val .null, .unset] [(.int (0 : Int32)), (.int (0 : Int32))])) _
        refine st28 _ ?_
        show Steps p.tables e below (T28.setTop (mkF m 28 #[.val (.int p0), .val (.int p1), .val .null, .val .null, .val .null, .unset] [(.int (0 : Int32))])) _
        refine XS.istore X28.here hx rfl (hb hby at_28) rfl (l' := #[.val (.int p0), .val (.int p1), .val .null, .val .null, .val .null, .val (.int (0 : Int32))]) rfl ?_
        show Steps p.tables e below (T28.setTop (mkF m 30 #[.val (.int p0), .val (.int p1), .val .null, .val .null, .val .null, .val (.int (0 : Int32))] [])) _
        refine XS.aload X28.here hx rfl (hb hby at_30) rfl rfl ?_
        show Steps p.tables e below (T28.setTop (mkF m 32 #[.val (.int p0), .val (.int p1), .val .null, .val .null, .val .null, .val (.int (0 : Int32))] [.null])) _
        refine st29 _ ?_
        show Steps p.tables e below (T29.setTop (mkF m 35 #[.val (.int p0), .val (.int p1), .val .null, .val .null, .val .null, .val (.int (0 : Int32))] [(.int (0 : Int32))])) _
        refine XS.iload X29.here hx rfl (hb hby at_35) rfl ?_
        show Steps p.tables e below (T29.setTop (mkF m 37 #[.val (.int p0), .val (.int p1), .val .null, .val .null, .val .null, .val (.int (0 : Int32))] [(.int (0 : Int32)), (.int (0 : Int32))])) _
        refine XS.icmpNo X29.here hx rfl (hb hby at_37) rfl (teq (by decide : ((0 : Int32) = (0 : Int32)))).2 ?_
        show Steps p.tables e below (T29.setTop (mkF m 40 #[.val (.int p0), .val (.int p1), .val .null, .val .null, .val .null, .val (.int (0 : Int32))] [])) _
        refine XS.iconst X29.here hx rfl (hb hby at_40) ?_
        show Steps p.tables e below (T29.setTop (mkF m 41 #[.val (.int p0), .val (.int p1), .val .null, .val .null, .val .null, .val (.int (0 : Int32))] [(.int (1 : Int32))])) _
        refine XS.goto X29.here hx rfl (pc0 := 41) (pc' := 45) rfl (hb hby at_41) (by decide) (by decide) ?_
        show Steps p.tables e below (T29.setTop (mkF m 45 #[.val (.int p0), .val (.int p1), .val .null, .val .null, .val .null, .val (.int (0 : Int32))] [(.int (1 : Int32))])) _
        exact retN X29 hx (t := .boolean) Bd.returns (by simp) (hb hby at_45) hr
      · show Q0 Z w_1 w_2 p0 p1 h0 n0 _ T29.heap _
        rw [e29]
        exact ⟨by unfold sp0; rw [if_pos hc14, if_pos hc17], N29, rfl⟩
    · by_cases hc30 : ((p1 &&& (2147483647 : Int32)) % (3 : Int32)) = (1 : Int32)
      · obtain ⟨_, _, ⟨T31, L31, k31, n31⟩, -, X31, ⟨Lc31, hQ31, l31, y31, z31⟩, st31⟩ := Jvm.LawKit.callS X15 hx (y := Y0) hown (mvT hZ (hw _ (tk 0 rfl))) (mvT hZ (hw _ (tk 1 rfl))) (mvT hZ (hw _ (tk 2 rfl))) (mvT hZ (hw _ (tk 3 rfl))) (by decide) (backOf (W := 0) (rm1 l Z a0 hw [] w_1 w_2 hS0 p1 h0 n0 O0) hZ (hw _ (tk 3 rfl)) (hw _ (tk 2 rfl)) (by decide) (by decide)) (g := (mkF m 6 #[.val (.int p0), .val (.int p1), .val .null, .unset, .unset, .unset] [(.int p1)])) rfl (by rw [hml]; rfl) (argsL := [(.int p1)]) (rest := []) (lenOf pd_0 rfl) rfl (by show 2 * 0 + _ ≤ _; exact Nat.le_of_eq rfl) (hb hby at_6) (fun _ _ => ⟨rfl, e15, (by decide : 0 + 0 ≤ _), (by decide : 0 + 0 ≤ _)⟩)
        dsimp only [Pt.U, Pt.locs, Pt.cells, Pt.slots] at X31 l31 y31 z31 st31 hQ31
        subst l31 y31 z31
        obtain ⟨rv31, N31q, e31⟩ := hQ31
        rw [show sp1 w_1 w_2 p1 = (.ref w_2) from by unfold sp1; rw [if_neg hc17, if_pos hc30]] at rv31
        subst rv31
        have N31 := Fr.app N15 N31q
        obtain ⟨_, _, ⟨T42, L42, k42, n42⟩, -, X42, ⟨Lc42, hQ42, l42, y42, z42⟩, st42⟩ := Jvm.LawKit.callS X31 hx (y := Y1) hown (mvT hZ (hw _ (tk 5 rfl))) (mvT hZ (hw _ (tk 6 rfl))) (mvT hZ (hw _ (tk 7 rfl))) (mvT hZ (hw _ (tk 8 rfl))) (by decide) (backOf (W := 0) (rm2n0 l Z a0 hw [] w_1 w_2 hS0 w_2 h0 n0 O0) hZ (hw _ (tk 8 rfl)) (hw _ (tk 7 rfl)) (by decide) (by decide)) (g := (mkF m 12 #[.val (.int p0), .val (.int p1), .val .null, .val (.ref w_2), .unset, .unset] [(.ref w_2), .null])) rfl (by rw [hml]; rfl) (argsL := [.null, (.ref w_2)]) (rest := []) (lenOf pd_1 rfl) rfl (by show 2 * 0 + _ ≤ _; exact Nat.le_of_eq rfl) (hb hby at_12) (fun _ _ => ⟨rfl, e31, (by decide : 0 + 0 ≤ _), (by decide : 0 + 0 ≤ _)⟩)
        dsimp only [Pt.U, Pt.locs, Pt.cells, Pt.slots] at X42 l42 y42 z42 st42 hQ42
        subst l42 y42 z42
        obtain ⟨rv42, N42q, e42⟩ := hQ42
        rw [show sp2n0 w_1 w_2 w_2 = (.ref w_2) from by unfold sp2n0; rw [if_neg (Fld.ne F_2_ordinal F_1_ordinal (by decide)), if_pos rfl]] at rv42
        subst rv42
        have N42 := Fr.app N31 N42q
        obtain ⟨_, _, ⟨T43, L43, k43, n43⟩, -, X43, ⟨Lc43, hQ43, l43, y43, z43⟩, st43⟩ := Jvm.LawKit.callS X42 hx (y := Y2) hown (mvT hZ (hw _ (tk 13 rfl))) (mvT hZ (hw _ (tk 14 rfl))) (mvT hZ (hw _ (tk 2 rfl))) (mvT hZ (hw _ (tk 15 rfl))) (by decide) (backOf (W := 0) (rm3n0 l Z a0 hw [] w_1 w_2 hS0 h0 n0 O0) hZ (hw _ (tk 15 rfl)) (hw _ (tk 2 rfl)) (by decide) (by decide)) (g := (mkF m 18 #[.val (.int p0), .val (.int p1), .val .null, .val (.ref w_2), .val (.ref w_2), .unset] [.null])) rfl (by rw [hml]; rfl) (argsL := [.null]) (rest := []) (lenOf pd_2 rfl) rfl (by show 2 * 0 + _ ≤ _; exact Nat.le_of_eq rfl) (hb hby at_18) (fun _ _ => ⟨rfl, e42, (by decide : 0 + 0 ≤ _), (by decide : 0 + 0 ≤ _)⟩)
        dsimp only [Pt.U, Pt.locs, Pt.cells, Pt.slots] at X43 l43 y43 z43 st43 hQ43
        subst l43 y43 z43
        obtain ⟨rv43, N43q, e43⟩ := hQ43
        rw [show sp3n0 = (0 : Int32) from by unfold sp3n0; rfl] at rv43
        subst rv43
        have N43 := Fr.app N42 N43q
        obtain ⟨_, _, ⟨T47, L47, k47, n47⟩, -, X47, ⟨Lc47, hQ47, l47, y47, z47⟩, st47⟩ := Jvm.LawKit.callS X43 hx (y := Y2) hown (mvT hZ (hw _ (tk 13 rfl))) (mvT hZ (hw _ (tk 14 rfl))) (mvT hZ (hw _ (tk 2 rfl))) (mvT hZ (hw _ (tk 15 rfl))) (by decide) (backOf (W := 1) (rm3 l Z a0 hw [] w_1 w_2 hS0 w_2 h0 n0 O0) hZ (hw _ (tk 15 rfl)) (hw _ (tk 2 rfl)) (by decide) (by decide)) (g := (mkF m 22 #[.val (.int p0), .val (.int p1), .val .null, .val (.ref w_2), .val (.ref w_2), .unset] [(.ref w_2), (.int (0 : Int32))])) rfl (by rw [hml]; rfl) (argsL := [(.ref w_2)]) (rest := [(.int (0 : Int32))]) (lenOf pd_2 rfl) rfl (by show 2 * 0 + _ ≤ _; exact Nat.le_of_eq rfl) (hb hby at_22) (fun _ _ => ⟨rfl, e43, (by decide : 0 + 0 ≤ _), (by decide : 0 + 0 ≤ _)⟩)
        dsimp only [Pt.U, Pt.locs, Pt.cells, Pt.slots] at X47 l47 y47 z47 st47 hQ47
        subst l47 y47 z47
        obtain ⟨rv47, N47q, e47⟩ := hQ47
        rw [show sp3 w_2 w_2 = (1 : Int32) from by unfold sp3; rw [if_pos rfl]] at rv47
        subst rv47
        have N47 := Fr.app N43 N47q
        obtain ⟨_, _, ⟨T48, L48, k48, n48⟩, -, X48, ⟨Lc48, hQ48, l48, y48, z48⟩, st48⟩ := Jvm.LawKit.callS X47 hx (y := Y3) hown (mvT hZ (hw _ (tk 16 rfl))) (mvT hZ (hw _ (tk 17 rfl))) (mvT hZ (hw _ (tk 18 rfl))) (mvT hZ (hw _ (tk 19 rfl))) (by decide) (backOf (W := 0) (rm4 l Z a0 hw [] w_1 w_2 hS0 (0 : Int32) (1 : Int32) h0 n0 O0) hZ (hw _ (tk 19 rfl)) (hw _ (tk 18 rfl)) (by decide) (by decide)) (g := (mkF m 25 #[.val (.int p0), .val (.int p1), .val .null, .val (.ref w_2), .val (.ref w_2), .unset] [(.int (1 : Int32)), (.int (0 : Int32))])) rfl (by rw [hml]; rfl) (argsL := [(.int (0 : Int32)), (.int (1 : Int32))]) (rest := []) (lenOf pd_3 rfl) rfl (by show 2 * 0 + _ ≤ _; exact Nat.le_of_eq rfl) (hb hby at_25) (fun _ _ => ⟨rfl, e47, (by decide : 0 + 0 ≤ _), (by decide : 0 + 0 ≤ _)⟩)
        dsimp only [Pt.U, Pt.locs, Pt.cells, Pt.slots] at X48 l48 y48 z48 st48 hQ48
        subst l48 y48 z48
        obtain ⟨rv48, N48q, e48⟩ := hQ48
        rw [show sp4 (0 : Int32) (1 : Int32) = (1 : Int32) from by unfold sp4; rw [if_pos (by decide : ((0 : Int32) < (1 : Int32)))]] at rv48
        subst rv48
        have N48 := Fr.app N47 N48q
        obtain ⟨_, _, ⟨T49, L49, k49, n49⟩, -, X49, ⟨Lc49, hQ49, l49, y49, z49⟩, st49⟩ := Jvm.LawKit.callS X48 hx (y := Y2) hown (mvT hZ (hw _ (tk 13 rfl))) (mvT hZ (hw _ (tk 14 rfl))) (mvT hZ (hw _ (tk 2 rfl))) (mvT hZ (hw _ (tk 15 rfl))) (by decide) (backOf (W := 0) (rm3 l Z a0 hw [] w_1 w_2 hS0 w_2 h0 n0 O0) hZ (hw _ (tk 15 rfl)) (hw _ (tk 2 rfl)) (by decide) (by decide)) (g := (mkF m 32 #[.val (.int p0), .val (.int p1), .val .null, .val (.ref w_2), .val (.ref w_2), .val (.int (1 : Int32))] [(.ref w_2)])) rfl (by rw [hml]; rfl) (argsL := [(.ref w_2)]) (rest := []) (lenOf pd_2 rfl) rfl (by show 2 * 0 + _ ≤ _; exact Nat.le_of_eq rfl) (hb hby at_32) (fun _ _ => ⟨rfl, e48, (by decide : 0 + 0 ≤ _), (by decide : 0 + 0 ≤ _)⟩)
        dsimp only [Pt.U, Pt.locs, Pt.cells, Pt.slots] at X49 l49 y49 z49 st49 hQ49
        subst l49 y49 z49
        obtain ⟨rv49, N49q, e49⟩ := hQ49
        rw [show sp3 w_2 w_2 = (1 : Int32) from by unfold sp3; rw [if_pos rfl]] at rv49
        subst rv49
        have N49 := Fr.app N48 N49q
        obtain ⟨fs, hr, hrun, hended, hW, hsame⟩ := X49.leave (v := some (.int (1 : Int32))) (fun h => by rw [Bd.returns] at h; cases h)
        refine ⟨_, _, pre16 _ ?_, hrun, hended, _, _, rfl, ?_, ⟨_, rfl⟩, hW, hsame.mono (by decide) (by decide)⟩
        · show Steps p.tables e below (T15.setTop (mkF m 6 #[.val (.int p0), .val (.int p1), .val .null, .unset, .unset, .unset] [(.int p1)])) _
          refine st31 _ ?_
          show Steps p.tables e below (T31.setTop (mkF m 9 #[.val (.int p0), .val (.int p1), .val .null, .unset, .unset, .unset] [(.ref w_2)])) _
          refine XS.astoreN X31.here hx rfl (hb hby at_9) rfl rfl (l' := #[.val (.int p0), .val (.int p1), .val .null, .val (.ref w_2), .unset, .unset]) rfl ?_
          show Steps p.tables e below (T31.setTop (mkF m 10 #[.val (.int p0), .val (.int p1), .val .null, .val (.ref w_2), .unset, .unset] [])) _
          refine XS.aloadN X31.here hx rfl (hb hby at_10) rfl rfl ?_
          show Steps p.tables e below (T31.setTop (mkF m 11 #[.val (.int p0), .val (.int p1), .val .null, .val (.ref w_2), .unset, .unset] [.null])) _
          refine XS.aloadN X31.here hx rfl (hb hby at_11) rfl rfl ?_
          show Steps p.tables e below (T31.setTop (mkF m 12 #[.val (.int p0), .val (.int p1), .val .null, .val (.ref w_2), .unset, .unset] [(.ref w_2), .null])) _
          refine st42 _ ?_
          show Steps p.tables e below (T42.setTop (mkF m 15 #[.val (.int p0), .val (.int p1), .val .null, .val (.ref w_2), .unset, .unset] [(.ref w_2)])) _
          refine XS.astore X42.here hx rfl (hb hby at_15) rfl rfl (l' := #[.val (.int p0), .val (.int p1), .val .null, .val (.ref w_2), .val (.ref w_2), .unset]) rfl ?_
          show Steps p.tables e below (T42.setTop (mkF m 17 #[.val (.int p0), .val (.int p1), .val .null, .val (.ref w_2), .val (.ref w_2), .unset] [])) _
          refine XS.aloadN X42.here hx rfl (hb hby at_17) rfl rfl ?_
          show Steps p.tables e below (T42.setTop (mkF m 18 #[.val (.int p0), .val (.int p1), .val .null, .val (.ref w_2), .val (.ref w_2), .unset] [.null])) _
          refine st43 _ ?_
          show Steps p.tables e below (T43.setTop (mkF m 21 #[.val (.int p0), .val (.int p1), .val .null, .val (.ref w_2), .val (.ref w_2), .unset] [(.int (0 : Int32))])) _
          refine XS.aloadN X43.here hx rfl (hb hby at_21) rfl rfl ?_
          show Steps p.tables e below (T43.setTop (mkF m 22 #[.val (.int p0), .val (.int p1), .val .null, .val (.ref w_2), .val (.ref w_2), .unset] [(.ref w_2), (.int (0 : Int32))])) _
          refine st47 _ ?_
          show Steps p.tables e below (T47.setTop (mkF m 25 #[.val (.int p0), .val (.int p1), .val .null, .val (.ref w_2), .val (.ref w_2), .unset] [(.int (1 : Int32)), (.int (0 : Int32))])) _
          refine st48 _ ?_
          show Steps p.tables e below (T48.setTop (mkF m 28 #[.val (.int p0), .val (.int p1), .val .null, .val (.ref w_2), .val (.ref w_2), .unset] [(.int (1 : Int32))])) _
          refine XS.istore X48.here hx rfl (hb hby at_28) rfl (l' := #[.val (.int p0), .val (.int p1), .val .null, .val (.ref w_2), .val (.ref w_2), .val (.int (1 : Int32))]) rfl ?_
          show Steps p.tables e below (T48.setTop (mkF m 30 #[.val (.int p0), .val (.int p1), .val .null, .val (.ref w_2), .val (.ref w_2), .val (.int (1 : Int32))] [])) _
          refine XS.aload X48.here hx rfl (hb hby at_30) rfl rfl ?_
          show Steps p.tables e below (T48.setTop (mkF m 32 #[.val (.int p0), .val (.int p1), .val .null, .val (.ref w_2), .val (.ref w_2), .val (.int (1 : Int32))] [(.ref w_2)])) _
          refine st49 _ ?_
          show Steps p.tables e below (T49.setTop (mkF m 35 #[.val (.int p0), .val (.int p1), .val .null, .val (.ref w_2), .val (.ref w_2), .val (.int (1 : Int32))] [(.int (1 : Int32))])) _
          refine XS.iload X49.here hx rfl (hb hby at_35) rfl ?_
          show Steps p.tables e below (T49.setTop (mkF m 37 #[.val (.int p0), .val (.int p1), .val .null, .val (.ref w_2), .val (.ref w_2), .val (.int (1 : Int32))] [(.int (1 : Int32)), (.int (1 : Int32))])) _
          refine XS.icmpNo X49.here hx rfl (hb hby at_37) rfl (teq (by decide : ((1 : Int32) = (1 : Int32)))).2 ?_
          show Steps p.tables e below (T49.setTop (mkF m 40 #[.val (.int p0), .val (.int p1), .val .null, .val (.ref w_2), .val (.ref w_2), .val (.int (1 : Int32))] [])) _
          refine XS.iconst X49.here hx rfl (hb hby at_40) ?_
          show Steps p.tables e below (T49.setTop (mkF m 41 #[.val (.int p0), .val (.int p1), .val .null, .val (.ref w_2), .val (.ref w_2), .val (.int (1 : Int32))] [(.int (1 : Int32))])) _
          refine XS.goto X49.here hx rfl (pc0 := 41) (pc' := 45) rfl (hb hby at_41) (by decide) (by decide) ?_
          show Steps p.tables e below (T49.setTop (mkF m 45 #[.val (.int p0), .val (.int p1), .val .null, .val (.ref w_2), .val (.ref w_2), .val (.int (1 : Int32))] [(.int (1 : Int32))])) _
          exact retN X49 hx (t := .boolean) Bd.returns (by simp) (hb hby at_45) hr
        · show Q0 Z w_1 w_2 p0 p1 h0 n0 _ T49.heap _
          rw [e49]
          exact ⟨by unfold sp0; rw [if_pos hc14, if_neg hc17, if_pos hc30], N49, rfl⟩
      · obtain ⟨_, _, ⟨T50, L50, k50, n50⟩, -, X50, ⟨Lc50, hQ50, l50, y50, z50⟩, st50⟩ := Jvm.LawKit.callS X15 hx (y := Y0) hown (mvT hZ (hw _ (tk 0 rfl))) (mvT hZ (hw _ (tk 1 rfl))) (mvT hZ (hw _ (tk 2 rfl))) (mvT hZ (hw _ (tk 3 rfl))) (by decide) (backOf (W := 0) (rm1 l Z a0 hw [] w_1 w_2 hS0 p1 h0 n0 O0) hZ (hw _ (tk 3 rfl)) (hw _ (tk 2 rfl)) (by decide) (by decide)) (g := (mkF m 6 #[.val (.int p0), .val (.int p1), .val .null, .unset, .unset, .unset] [(.int p1)])) rfl (by rw [hml]; rfl) (argsL := [(.int p1)]) (rest := []) (lenOf pd_0 rfl) rfl (by show 2 * 0 + _ ≤ _; exact Nat.le_of_eq rfl) (hb hby at_6) (fun _ _ => ⟨rfl, e15, (by decide : 0 + 0 ≤ _), (by decide : 0 + 0 ≤ _)⟩)
        dsimp only [Pt.U, Pt.locs, Pt.cells, Pt.slots] at X50 l50 y50 z50 st50 hQ50
        subst l50 y50 z50
        obtain ⟨rv50, N50q, e50⟩ := hQ50
        rw [show sp1 w_1 w_2 p1 = (.ref w_1) from by unfold sp1; rw [if_neg hc17, if_neg hc30]] at rv50
        subst rv50
        have N50 := Fr.app N15 N50q
        obtain ⟨_, _, ⟨T51, L51, k51, n51⟩, -, X51, ⟨Lc51, hQ51, l51, y51, z51⟩, st51⟩ := Jvm.LawKit.callS X50 hx (y := Y1) hown (mvT hZ (hw _ (tk 5 rfl))) (mvT hZ (hw _ (tk 6 rfl))) (mvT hZ (hw _ (tk 7 rfl))) (mvT hZ (hw _ (tk 8 rfl))) (by decide) (backOf (W := 0) (rm2n0 l Z a0 hw [] w_1 w_2 hS0 w_1 h0 n0 O0) hZ (hw _ (tk 8 rfl)) (hw _ (tk 7 rfl)) (by decide) (by decide)) (g := (mkF m 12 #[.val (.int p0), .val (.int p1), .val .null, .val (.ref w_1), .unset, .unset] [(.ref w_1), .null])) rfl (by rw [hml]; rfl) (argsL := [.null, (.ref w_1)]) (rest := []) (lenOf pd_1 rfl) rfl (by show 2 * 0 + _ ≤ _; exact Nat.le_of_eq rfl) (hb hby at_12) (fun _ _ => ⟨rfl, e50, (by decide : 0 + 0 ≤ _), (by decide : 0 + 0 ≤ _)⟩)
        dsimp only [Pt.U, Pt.locs, Pt.cells, Pt.slots] at X51 l51 y51 z51 st51 hQ51
        subst l51 y51 z51
        obtain ⟨rv51, N51q, e51⟩ := hQ51
        rw [show sp2n0 w_1 w_2 w_1 = (.ref w_1) from by unfold sp2n0; rw [if_pos rfl]] at rv51
        subst rv51
        have N51 := Fr.app N50 N51q
        obtain ⟨_, _, ⟨T52, L52, k52, n52⟩, -, X52, ⟨Lc52, hQ52, l52, y52, z52⟩, st52⟩ := Jvm.LawKit.callS X51 hx (y := Y2) hown (mvT hZ (hw _ (tk 13 rfl))) (mvT hZ (hw _ (tk 14 rfl))) (mvT hZ (hw _ (tk 2 rfl))) (mvT hZ (hw _ (tk 15 rfl))) (by decide) (backOf (W := 0) (rm3n0 l Z a0 hw [] w_1 w_2 hS0 h0 n0 O0) hZ (hw _ (tk 15 rfl)) (hw _ (tk 2 rfl)) (by decide) (by decide)) (g := (mkF m 18 #[.val (.int p0), .val (.int p1), .val .null, .val (.ref w_1), .val (.ref w_1), .unset] [.null])) rfl (by rw [hml]; rfl) (argsL := [.null]) (rest := []) (lenOf pd_2 rfl) rfl (by show 2 * 0 + _ ≤ _; exact Nat.le_of_eq rfl) (hb hby at_18) (fun _ _ => ⟨rfl, e51, (by decide : 0 + 0 ≤ _), (by decide : 0 + 0 ≤ _)⟩)
        dsimp only [Pt.U, Pt.locs, Pt.cells, Pt.slots] at X52 l52 y52 z52 st52 hQ52
        subst l52 y52 z52
        obtain ⟨rv52, N52q, e52⟩ := hQ52
        rw [show sp3n0 = (0 : Int32) from by unfold sp3n0; rfl] at rv52
        subst rv52
        have N52 := Fr.app N51 N52q
        obtain ⟨_, _, ⟨T53, L53, k53, n53⟩, -, X53, ⟨Lc53, hQ53, l53, y53, z53⟩, st53⟩ := Jvm.LawKit.callS X52 hx (y := Y2) hown (mvT hZ (hw _ (tk 13 rfl))) (mvT hZ (hw _ (tk 14 rfl))) (mvT hZ (hw _ (tk 2 rfl))) (mvT hZ (hw _ (tk 15 rfl))) (by decide) (backOf (W := 1) (rm3 l Z a0 hw [] w_1 w_2 hS0 w_1 h0 n0 O0) hZ (hw _ (tk 15 rfl)) (hw _ (tk 2 rfl)) (by decide) (by decide)) (g := (mkF m 22 #[.val (.int p0), .val (.int p1), .val .null, .val (.ref w_1), .val (.ref w_1), .unset] [(.ref w_1), (.int (0 : Int32))])) rfl (by rw [hml]; rfl) (argsL := [(.ref w_1)]) (rest := [(.int (0 : Int32))]) (lenOf pd_2 rfl) rfl (by show 2 * 0 + _ ≤ _; exact Nat.le_of_eq rfl) (hb hby at_22) (fun _ _ => ⟨rfl, e52, (by decide : 0 + 0 ≤ _), (by decide : 0 + 0 ≤ _)⟩)
        dsimp only [Pt.U, Pt.locs, Pt.cells, Pt.slots] at X53 l53 y53 z53 st53 hQ53
        subst l53 y53 z53
        obtain ⟨rv53, N53q, e53⟩ := hQ53
        rw [show sp3 w_2 w_1 = (2 : Int32) from by unfold sp3; rw [if_neg (Fld.ne F_1_ordinal F_2_ordinal (by decide))]] at rv53
        subst rv53
        have N53 := Fr.app N52 N53q
        obtain ⟨_, _, ⟨T54, L54, k54, n54⟩, -, X54, ⟨Lc54, hQ54, l54, y54, z54⟩, st54⟩ := Jvm.LawKit.callS X53 hx (y := Y3) hown (mvT hZ (hw _ (tk 16 rfl))) (mvT hZ (hw _ (tk 17 rfl))) (mvT hZ (hw _ (tk 18 rfl))) (mvT hZ (hw _ (tk 19 rfl))) (by decide) (backOf (W := 0) (rm4 l Z a0 hw [] w_1 w_2 hS0 (0 : Int32) (2 : Int32) h0 n0 O0) hZ (hw _ (tk 19 rfl)) (hw _ (tk 18 rfl)) (by decide) (by decide)) (g := (mkF m 25 #[.val (.int p0), .val (.int p1), .val .null, .val (.ref w_1), .val (.ref w_1), .unset] [(.int (2 : Int32)), (.int (0 : Int32))])) rfl (by rw [hml]; rfl) (argsL := [(.int (0 : Int32)), (.int (2 : Int32))]) (rest := []) (lenOf pd_3 rfl) rfl (by show 2 * 0 + _ ≤ _; exact Nat.le_of_eq rfl) (hb hby at_25) (fun _ _ => ⟨rfl, e53, (by decide : 0 + 0 ≤ _), (by decide : 0 + 0 ≤ _)⟩)
        dsimp only [Pt.U, Pt.locs, Pt.cells, Pt.slots] at X54 l54 y54 z54 st54 hQ54
        subst l54 y54 z54
        obtain ⟨rv54, N54q, e54⟩ := hQ54
        rw [show sp4 (0 : Int32) (2 : Int32) = (2 : Int32) from by unfold sp4; rw [if_pos (by decide : ((0 : Int32) < (2 : Int32)))]] at rv54
        subst rv54
        have N54 := Fr.app N53 N54q
        obtain ⟨_, _, ⟨T55, L55, k55, n55⟩, -, X55, ⟨Lc55, hQ55, l55, y55, z55⟩, st55⟩ := Jvm.LawKit.callS X54 hx (y := Y2) hown (mvT hZ (hw _ (tk 13 rfl))) (mvT hZ (hw _ (tk 14 rfl))) (mvT hZ (hw _ (tk 2 rfl))) (mvT hZ (hw _ (tk 15 rfl))) (by decide) (backOf (W := 0) (rm3 l Z a0 hw [] w_1 w_2 hS0 w_1 h0 n0 O0) hZ (hw _ (tk 15 rfl)) (hw _ (tk 2 rfl)) (by decide) (by decide)) (g := (mkF m 32 #[.val (.int p0), .val (.int p1), .val .null, .val (.ref w_1), .val (.ref w_1), .val (.int (2 : Int32))] [(.ref w_1)])) rfl (by rw [hml]; rfl) (argsL := [(.ref w_1)]) (rest := []) (lenOf pd_2 rfl) rfl (by show 2 * 0 + _ ≤ _; exact Nat.le_of_eq rfl) (hb hby at_32) (fun _ _ => ⟨rfl, e54, (by decide : 0 + 0 ≤ _), (by decide : 0 + 0 ≤ _)⟩)
        dsimp only [Pt.U, Pt.locs, Pt.cells, Pt.slots] at X55 l55 y55 z55 st55 hQ55
        subst l55 y55 z55
        obtain ⟨rv55, N55q, e55⟩ := hQ55
        rw [show sp3 w_2 w_1 = (2 : Int32) from by unfold sp3; rw [if_neg (Fld.ne F_1_ordinal F_2_ordinal (by decide))]] at rv55
        subst rv55
        have N55 := Fr.app N54 N55q
        obtain ⟨fs, hr, hrun, hended, hW, hsame⟩ := X55.leave (v := some (.int (1 : Int32))) (fun h => by rw [Bd.returns] at h; cases h)
        refine ⟨_, _, pre16 _ ?_, hrun, hended, _, _, rfl, ?_, ⟨_, rfl⟩, hW, hsame.mono (by decide) (by decide)⟩
        · show Steps p.tables e below (T15.setTop (mkF m 6 #[.val (.int p0), .val (.int p1), .val .null, .unset, .unset, .unset] [(.int p1)])) _
          refine st50 _ ?_
          show Steps p.tables e below (T50.setTop (mkF m 9 #[.val (.int p0), .val (.int p1), .val .null, .unset, .unset, .unset] [(.ref w_1)])) _
          refine XS.astoreN X50.here hx rfl (hb hby at_9) rfl rfl (l' := #[.val (.int p0), .val (.int p1), .val .null, .val (.ref w_1), .unset, .unset]) rfl ?_
          show Steps p.tables e below (T50.setTop (mkF m 10 #[.val (.int p0), .val (.int p1), .val .null, .val (.ref w_1), .unset, .unset] [])) _
          refine XS.aloadN X50.here hx rfl (hb hby at_10) rfl rfl ?_
          show Steps p.tables e below (T50.setTop (mkF m 11 #[.val (.int p0), .val (.int p1), .val .null, .val (.ref w_1), .unset, .unset] [.null])) _
          refine XS.aloadN X50.here hx rfl (hb hby at_11) rfl rfl ?_
          show Steps p.tables e below (T50.setTop (mkF m 12 #[.val (.int p0), .val (.int p1), .val .null, .val (.ref w_1), .unset, .unset] [(.ref w_1), .null])) _
          refine st51 _ ?_
          show Steps p.tables e below (T51.setTop (mkF m 15 #[.val (.int p0), .val (.int p1), .val .null, .val (.ref w_1), .unset, .unset] [(.ref w_1)])) _
          refine XS.astore X51.here hx rfl (hb hby at_15) rfl rfl (l' := #[.val (.int p0), .val (.int p1), .val .null, .val (.ref w_1), .val (.ref w_1), .unset]) rfl ?_
          show Steps p.tables e below (T51.setTop (mkF m 17 #[.val (.int p0), .val (.int p1), .val .null, .val (.ref w_1), .val (.ref w_1), .unset] [])) _
          refine XS.aloadN X51.here hx rfl (hb hby at_17) rfl rfl ?_
          show Steps p.tables e below (T51.setTop (mkF m 18 #[.val (.int p0), .val (.int p1), .val .null, .val (.ref w_1), .val (.ref w_1), .unset] [.null])) _
          refine st52 _ ?_
          show Steps p.tables e below (T52.setTop (mkF m 21 #[.val (.int p0), .val (.int p1), .val .null, .val (.ref w_1), .val (.ref w_1), .unset] [(.int (0 : Int32))])) _
          refine XS.aloadN X52.here hx rfl (hb hby at_21) rfl rfl ?_
          show Steps p.tables e below (T52.setTop (mkF m 22 #[.val (.int p0), .val (.int p1), .val .null, .val (.ref w_1), .val (.ref w_1), .unset] [(.ref w_1), (.int (0 : Int32))])) _
          refine st53 _ ?_
          show Steps p.tables e below (T53.setTop (mkF m 25 #[.val (.int p0), .val (.int p1), .val .null, .val (.ref w_1), .val (.ref w_1), .unset] [(.int (2 : Int32)), (.int (0 : Int32))])) _
          refine st54 _ ?_
          show Steps p.tables e below (T54.setTop (mkF m 28 #[.val (.int p0), .val (.int p1), .val .null, .val (.ref w_1), .val (.ref w_1), .unset] [(.int (2 : Int32))])) _
          refine XS.istore X54.here hx rfl (hb hby at_28) rfl (l' := #[.val (.int p0), .val (.int p1), .val .null, .val (.ref w_1), .val (.ref w_1), .val (.int (2 : Int32))]) rfl ?_
          show Steps p.tables e below (T54.setTop (mkF m 30 #[.val (.int p0), .val (.int p1), .val .null, .val (.ref w_1), .val (.ref w_1), .val (.int (2 : Int32))] [])) _
          refine XS.aload X54.here hx rfl (hb hby at_30) rfl rfl ?_
          show Steps p.tables e below (T54.setTop (mkF m 32 #[.val (.int p0), .val (.int p1), .val .null, .val (.ref w_1), .val (.ref w_1), .val (.int (2 : Int32))] [(.ref w_1)])) _
          refine st55 _ ?_
          show Steps p.tables e below (T55.setTop (mkF m 35 #[.val (.int p0), .val (.int p1), .val .null, .val (.ref w_1), .val (.ref w_1), .val (.int (2 : Int32))] [(.int (2 : Int32))])) _
          refine XS.iload X55.here hx rfl (hb hby at_35) rfl ?_
          show Steps p.tables e below (T55.setTop (mkF m 37 #[.val (.int p0), .val (.int p1), .val .null, .val (.ref w_1), .val (.ref w_1), .val (.int (2 : Int32))] [(.int (2 : Int32)), (.int (2 : Int32))])) _
          refine XS.icmpNo X55.here hx rfl (hb hby at_37) rfl (teq (by decide : ((2 : Int32) = (2 : Int32)))).2 ?_
          show Steps p.tables e below (T55.setTop (mkF m 40 #[.val (.int p0), .val (.int p1), .val .null, .val (.ref w_1), .val (.ref w_1), .val (.int (2 : Int32))] [])) _
          refine XS.iconst X55.here hx rfl (hb hby at_40) ?_
          show Steps p.tables e below (T55.setTop (mkF m 41 #[.val (.int p0), .val (.int p1), .val .null, .val (.ref w_1), .val (.ref w_1), .val (.int (2 : Int32))] [(.int (1 : Int32))])) _
          refine XS.goto X55.here hx rfl (pc0 := 41) (pc' := 45) rfl (hb hby at_41) (by decide) (by decide) ?_
          show Steps p.tables e below (T55.setTop (mkF m 45 #[.val (.int p0), .val (.int p1), .val .null, .val (.ref w_1), .val (.ref w_1), .val (.int (2 : Int32))] [(.int (1 : Int32))])) _
          exact retN X55 hx (t := .boolean) Bd.returns (by simp) (hb hby at_45) hr
        · show Q0 Z w_1 w_2 p0 p1 h0 n0 _ T55.heap _
          rw [e55]
          exact ⟨by unfold sp0; rw [if_pos hc14, if_neg hc17, if_neg hc30], N55, rfl⟩
  · by_cases hc56 : ((p0 &&& (2147483647 : Int32)) % (3 : Int32)) = (1 : Int32)
    · obtain ⟨_, _, ⟨T57, L57, k57, n57⟩, -, X57, ⟨Lc57, hQ57, l57, y57, z57⟩, st57⟩ := Jvm.LawKit.callS X0 hx (y := Y0) hown (mvT hZ (hw _ (tk 0 rfl))) (mvT hZ (hw _ (tk 1 rfl))) (mvT hZ (hw _ (tk 2 rfl))) (mvT hZ (hw _ (tk 3 rfl))) (by decide) (backOf (W := 0) (rm1 l Z a0 hw [] w_1 w_2 hS0 p0 h0 n0 O0) hZ (hw _ (tk 3 rfl)) (hw _ (tk 2 rfl)) (by decide) (by decide)) (g := (mkF m 1 #[.val (.int p0), .val (.int p1), .unset, .unset, .unset, .unset] [(.int p0)])) rfl (by rw [hml]; rfl) (argsL := [(.int p0)]) (rest := []) (lenOf pd_0 rfl) rfl (by show 2 * 0 + _ ≤ _; exact Nat.le_of_eq rfl) (hb hby at_1) (fun _ _ => ⟨rfl, e0, (by decide : 0 + 0 ≤ _), (by decide : 0 + 0 ≤ _)⟩)
      dsimp only [Pt.U, Pt.locs, Pt.cells, Pt.slots] at X57 l57 y57 z57 st57 hQ57
      subst l57 y57 z57
      obtain ⟨rv57, N57q, e57⟩ := hQ57
      rw [show sp1 w_1 w_2 p0 = (.ref w_2) from by unfold sp1; rw [if_neg hc14, if_pos hc56]] at rv57
      subst rv57
      have N57 := Fr.app N0 N57q
      have pre58 : ∀ t, Steps p.tables e below (T57.setTop (mkF m 6 #[.val (.int p0), .val (.int p1), .val (.ref w_2), .unset, .unset, .unset] [(.int p1)])) t → Steps p.tables e below (s₁.setTop (entryFrame m #[(.int p0), (.int p1)] maxLocals)) t := fun t kt => by
        refine pre13 t ?_
        show Steps p.tables e below (s₁.setTop (mkF m 1 #[.val (.int p0), .val (.int p1), .unset, .unset, .unset, .unset] [(.int p0)])) _
        refine st57 _ ?_
        show Steps p.tables e below (T57.setTop (mkF m 4 #[.val (.int p0), .val (.int p1), .unset, .unset, .unset, .unset] [(.ref w_2)])) _
        refine XS.astoreN X57.here hx rfl (hb hby at_4) rfl rfl (l' := #[.val (.int p0), .val (.int p1), .val (.ref w_2), .unset, .unset, .unset]) rfl ?_
        show Steps p.tables e below (T57.setTop (mkF m 5 #[.val (.int p0), .val (.int p1), .val (.ref w_2), .unset, .unset, .unset] [])) _
        refine XS.iloadN X57.here hx rfl (hb hby at_5) rfl ?_
        show Steps p.tables e below (T57.setTop (mkF m 6 #[.val (.int p0), .val (.int p1), .val (.ref w_2), .unset, .unset, .unset] [(.int p1)])) _
        exact kt
      by_cases hc59 : ((p1 &&& (2147483647 : Int32)) % (3 : Int32)) = (0 : Int32)
      · obtain ⟨_, _, ⟨T60, L60, k60, n60⟩, -, X60, ⟨Lc60, hQ60, l60, y60, z60⟩, st60⟩ := Jvm.LawKit.callS X57 hx (y := Y0) hown (mvT hZ (hw _ (tk 0 rfl))) (mvT hZ (hw _ (tk 1 rfl))) (mvT hZ (hw _ (tk 2 rfl))) (mvT hZ (hw _ (tk 3 rfl))) (by decide) (backOf (W := 0) (rm1 l Z a0 hw [] w_1 w_2 hS0 p1 h0 n0 O0) hZ (hw _ (tk 3 rfl)) (hw _ (tk 2 rfl)) (by decide) (by decide)) (g := (mkF m 6 #[.val (.int p0), .val (.int p1), .val (.ref w_2), .unset, .unset, .unset] [(.int p1)])) rfl (by rw [hml]; rfl) (argsL := [(.int p1)]) (rest := []) (lenOf pd_0 rfl) rfl (by show 2 * 0 + _ ≤ _; exact Nat.le_of_eq rfl) (hb hby at_6) (fun _ _ => ⟨rfl, e57, (by decide : 0 + 0 ≤ _), (by decide : 0 + 0 ≤ _)⟩)
        dsimp only [Pt.U, Pt.locs, Pt.cells, Pt.slots] at X60 l60 y60 z60 st60 hQ60
        subst l60 y60 z60
        obtain ⟨rv60, N60q, e60⟩ := hQ60
        rw [show sp1 w_1 w_2 p1 = .null from by unfold sp1; rw [if_pos hc59]] at rv60
        subst rv60
        have N60 := Fr.app N57 N60q
        obtain ⟨_, _, ⟨T71, L71, k71, n71⟩, -, X71, ⟨Lc71, hQ71, l71, y71, z71⟩, st71⟩ := Jvm.LawKit.callS X60 hx (y := Y1) hown (mvT hZ (hw _ (tk 5 rfl))) (mvT hZ (hw _ (tk 6 rfl))) (mvT hZ (hw _ (tk 7 rfl))) (mvT hZ (hw _ (tk 8 rfl))) (by decide) (backOf (W := 0) (rm2n1 l Z a0 hw [] w_1 w_2 hS0 w_2 h0 n0 O0) hZ (hw _ (tk 8 rfl)) (hw _ (tk 7 rfl)) (by decide) (by decide)) (g := (mkF m 12 #[.val (.int p0), .val (.int p1), .val (.ref w_2), .val .null, .unset, .unset] [.null, (.ref w_2)])) rfl (by rw [hml]; rfl) (argsL := [(.ref w_2), .null]) (rest := []) (lenOf pd_1 rfl) rfl (by show 2 * 0 + _ ≤ _; exact Nat.le_of_eq rfl) (hb hby at_12) (fun _ _ => ⟨rfl, e60, (by decide : 0 + 0 ≤ _), (by decide : 0 + 0 ≤ _)⟩)
        dsimp only [Pt.U, Pt.locs, Pt.cells, Pt.slots] at X71 l71 y71 z71 st71 hQ71
        subst l71 y71 z71
        obtain ⟨rv71, N71q, e71⟩ := hQ71
        rw [show sp2n1 w_1 w_2 w_2 = (.ref w_2) from by unfold sp2n1; rw [if_neg (Fld.ne F_2_ordinal F_1_ordinal (by decide)), if_pos rfl]] at rv71
        subst rv71
        have N71 := Fr.app N60 N71q
        obtain ⟨_, _, ⟨T72, L72, k72, n72⟩, -, X72, ⟨Lc72, hQ72, l72, y72, z72⟩, st72⟩ := Jvm.LawKit.callS X71 hx (y := Y2) hown (mvT hZ (hw _ (tk 13 rfl))) (mvT hZ (hw _ (tk 14 rfl))) (mvT hZ (hw _ (tk 2 rfl))) (mvT hZ (hw _ (tk 15 rfl))) (by decide) (backOf (W := 0) (rm3 l Z a0 hw [] w_1 w_2 hS0 w_2 h0 n0 O0) hZ (hw _ (tk 15 rfl)) (hw _ (tk 2 rfl)) (by decide) (by decide)) (g := (mkF m 18 #[.val (.int p0), .val (.int p1), .val (.ref w_2), .val .null, .val (.ref w_2), .unset] [(.ref w_2)])) rfl (by rw [hml]; rfl) (argsL := [(.ref w_2)]) (rest := []) (lenOf pd_2 rfl) rfl (by show 2 * 0 + _ ≤ _; exact Nat.le_of_eq rfl) (hb hby at_18) (fun _ _ => ⟨rfl, e71, (by decide : 0 + 0 ≤ _), (by decide : 0 + 0 ≤ _)⟩)
        dsimp only [Pt.U, Pt.locs, Pt.cells, Pt.slots] at X72 l72 y72 z72 st72 hQ72
        subst l72 y72 z72
        obtain ⟨rv72, N72q, e72⟩ := hQ72
        rw [show sp3 w_2 w_2 = (1 : Int32) from by unfold sp3; rw [if_pos rfl]] at rv72
        subst rv72
        have N72 := Fr.app N71 N72q
        obtain ⟨_, _, ⟨T73, L73, k73, n73⟩, -, X73, ⟨Lc73, hQ73, l73, y73, z73⟩, st73⟩ := Jvm.LawKit.callS X72 hx (y := Y2) hown (mvT hZ (hw _ (tk 13 rfl))) (mvT hZ (hw _ (tk 14 rfl))) (mvT hZ (hw _ (tk 2 rfl))) (mvT hZ (hw _ (tk 15 rfl))) (by decide) (backOf (W := 1) (rm3n0 l Z a0 hw [] w_1 w_2 hS0 h0 n0 O0) hZ (hw _ (tk 15 rfl)) (hw _ (tk 2 rfl)) (by decide) (by decide)) (g := (mkF m 22 #[.val (.int p0), .val (.int p1), .val (.ref w_2), .val .null, .val (.ref w_2), .unset] [.null, (.int (1 : Int32))])) rfl (by rw [hml]; rfl) (argsL := [.null]) (rest := [(.int (1 : Int32))]) (lenOf pd_2 rfl) rfl (by show 2 * 0 + _ ≤ _; exact Nat.le_of_eq rfl) (hb hby at_22) (fun _ _ => ⟨rfl, e72, (by decide : 0 + 0 ≤ _), (by decide : 0 + 0 ≤ _)⟩)
        dsimp only [Pt.U, Pt.locs, Pt.cells, Pt.slots] at X73 l73 y73 z73 st73 hQ73
        subst l73 y73 z73
        obtain ⟨rv73, N73q, e73⟩ := hQ73
        rw [show sp3n0 = (0 : Int32) from by unfold sp3n0; rfl] at rv73
        subst rv73
        have N73 := Fr.app N72 N73q
        obtain ⟨_, _, ⟨T74, L74, k74, n74⟩, -, X74, ⟨Lc74, hQ74, l74, y74, z74⟩, st74⟩ := Jvm.LawKit.callS X73 hx (y := Y3) hown (mvT hZ (hw _ (tk 16 rfl))) (mvT hZ (hw _ (tk 17 rfl))) (mvT hZ (hw _ (tk 18 rfl))) (mvT hZ (hw _ (tk 19 rfl))) (by decide) (backOf (W := 0) (rm4 l Z a0 hw [] w_1 w_2 hS0 (1 : Int32) (0 : Int32) h0 n0 O0) hZ (hw _ (tk 19 rfl)) (hw _ (tk 18 rfl)) (by decide) (by decide)) (g := (mkF m 25 #[.val (.int p0), .val (.int p1), .val (.ref w_2), .val .null, .val (.ref w_2), .unset] [(.int (0 : Int32)), (.int (1 : Int32))])) rfl (by rw [hml]; rfl) (argsL := [(.int (1 : Int32)), (.int (0 : Int32))]) (rest := []) (lenOf pd_3 rfl) rfl (by show 2 * 0 + _ ≤ _; exact Nat.le_of_eq rfl) (hb hby at_25) (fun _ _ => ⟨rfl, e73, (by decide : 0 + 0 ≤ _), (by decide : 0 + 0 ≤ _)⟩)
        dsimp only [Pt.U, Pt.locs, Pt.cells, Pt.slots] at X74 l74 y74 z74 st74 hQ74
        subst l74 y74 z74
        obtain ⟨rv74, N74q, e74⟩ := hQ74
        rw [show sp4 (1 : Int32) (0 : Int32) = (1 : Int32) from by unfold sp4; rw [if_neg (by decide : ¬ ((1 : Int32) < (0 : Int32)))]] at rv74
        subst rv74
        have N74 := Fr.app N73 N74q
        obtain ⟨_, _, ⟨T75, L75, k75, n75⟩, -, X75, ⟨Lc75, hQ75, l75, y75, z75⟩, st75⟩ := Jvm.LawKit.callS X74 hx (y := Y2) hown (mvT hZ (hw _ (tk 13 rfl))) (mvT hZ (hw _ (tk 14 rfl))) (mvT hZ (hw _ (tk 2 rfl))) (mvT hZ (hw _ (tk 15 rfl))) (by decide) (backOf (W := 0) (rm3 l Z a0 hw [] w_1 w_2 hS0 w_2 h0 n0 O0) hZ (hw _ (tk 15 rfl)) (hw _ (tk 2 rfl)) (by decide) (by decide)) (g := (mkF m 32 #[.val (.int p0), .val (.int p1), .val (.ref w_2), .val .null, .val (.ref w_2), .val (.int (1 : Int32))] [(.ref w_2)])) rfl (by rw [hml]; rfl) (argsL := [(.ref w_2)]) (rest := []) (lenOf pd_2 rfl) rfl (by show 2 * 0 + _ ≤ _; exact Nat.le_of_eq rfl) (hb hby at_32) (fun _ _ => ⟨rfl, e74, (by decide : 0 + 0 ≤ _), (by decide : 0 + 0 ≤ _)⟩)
        dsimp only [Pt.U, Pt.locs, Pt.cells, Pt.slots] at X75 l75 y75 z75 st75 hQ75
        subst l75 y75 z75
        obtain ⟨rv75, N75q, e75⟩ := hQ75
        rw [show sp3 w_2 w_2 = (1 : Int32) from by unfold sp3; rw [if_pos rfl]] at rv75
        subst rv75
        have N75 := Fr.app N74 N75q
        obtain ⟨fs, hr, hrun, hended, hW, hsame⟩ := X75.leave (v := some (.int (1 : Int32))) (fun h => by rw [Bd.returns] at h; cases h)
        refine ⟨_, _, pre58 _ ?_, hrun, hended, _, _, rfl, ?_, ⟨_, rfl⟩, hW, hsame.mono (by decide) (by decide)⟩
        · show Steps p.tables e below (T57.setTop (mkF m 6 #[.val (.int p0), .val (.int p1), .val (.ref w_2), .unset, .unset, .unset] [(.int p1)])) _
          refine st60 _ ?_
          show Steps p.tables e below (T60.setTop (mkF m 9 #[.val (.int p0), .val (.int p1), .val (.ref w_2), .unset, .unset, .unset] [.null])) _
          refine XS.astoreN X60.here hx rfl (hb hby at_9) rfl rfl (l' := #[.val (.int p0), .val (.int p1), .val (.ref w_2), .val .null, .unset, .unset]) rfl ?_
          show Steps p.tables e below (T60.setTop (mkF m 10 #[.val (.int p0), .val (.int p1), .val (.ref w_2), .val .null, .unset, .unset] [])) _
          refine XS.aloadN X60.here hx rfl (hb hby at_10) rfl rfl ?_
          show Steps p.tables e below (T60.setTop (mkF m 11 #[.val (.int p0), .val (.int p1), .val (.ref w_2), .val .null, .unset, .unset] [(.ref w_2)])) _
          refine XS.aloadN X60.here hx rfl (hb hby at_11) rfl rfl ?_
          show Steps p.tables e below (T60.setTop (mkF m 12 #[.val (.int p0), .val (.int p1), .val (.ref w_2), .val .null, .unset, .unset] [.null, (.ref w_2)])) _
          refine st71 _ ?_
          show Steps p.tables e below (T71.setTop (mkF m 15 #[.val (.int p0), .val (.int p1), .val (.ref w_2), .val .null, .unset, .unset] [(.ref w_2)])) _
          refine XS.astore X71.here hx rfl (hb hby at_15) rfl rfl (l' := #[.val (.int p0), .val (.int p1), .val (.ref w_2), .val .null, .val (.ref w_2), .unset]) rfl ?_
          show Steps p.tables e below (T71.setTop (mkF m 17 #[.val (.int p0), .val (.int p1), .val (.ref w_2), .val .null, .val (.ref w_2), .unset] [])) _
          refine XS.aloadN X71.here hx rfl (hb hby at_17) rfl rfl ?_
          show Steps p.tables e below (T71.setTop (mkF m 18 #[.val (.int p0), .val (.int p1), .val (.ref w_2), .val .null, .val (.ref w_2), .unset] [(.ref w_2)])) _
          refine st72 _ ?_
          show Steps p.tables e below (T72.setTop (mkF m 21 #[.val (.int p0), .val (.int p1), .val (.ref w_2), .val .null, .val (.ref w_2), .unset] [(.int (1 : Int32))])) _
          refine XS.aloadN X72.here hx rfl (hb hby at_21) rfl rfl ?_
          show Steps p.tables e below (T72.setTop (mkF m 22 #[.val (.int p0), .val (.int p1), .val (.ref w_2), .val .null, .val (.ref w_2), .unset] [.null, (.int (1 : Int32))])) _
          refine st73 _ ?_
          show Steps p.tables e below (T73.setTop (mkF m 25 #[.val (.int p0), .val (.int p1), .val (.ref w_2), .val .null, .val (.ref w_2), .unset] [(.int (0 : Int32)), (.int (1 : Int32))])) _
          refine st74 _ ?_
          show Steps p.tables e below (T74.setTop (mkF m 28 #[.val (.int p0), .val (.int p1), .val (.ref w_2), .val .null, .val (.ref w_2), .unset] [(.int (1 : Int32))])) _
          refine XS.istore X74.here hx rfl (hb hby at_28) rfl (l' := #[.val (.int p0), .val (.int p1), .val (.ref w_2), .val .null, .val (.ref w_2), .val (.int (1 : Int32))]) rfl ?_
          show Steps p.tables e below (T74.setTop (mkF m 30 #[.val (.int p0), .val (.int p1), .val (.ref w_2), .val .null, .val (.ref w_2), .val (.int (1 : Int32))] [])) _
          refine XS.aload X74.here hx rfl (hb hby at_30) rfl rfl ?_
          show Steps p.tables e below (T74.setTop (mkF m 32 #[.val (.int p0), .val (.int p1), .val (.ref w_2), .val .null, .val (.ref w_2), .val (.int (1 : Int32))] [(.ref w_2)])) _
          refine st75 _ ?_
          show Steps p.tables e below (T75.setTop (mkF m 35 #[.val (.int p0), .val (.int p1), .val (.ref w_2), .val .null, .val (.ref w_2), .val (.int (1 : Int32))] [(.int (1 : Int32))])) _
          refine XS.iload X75.here hx rfl (hb hby at_35) rfl ?_
          show Steps p.tables e below (T75.setTop (mkF m 37 #[.val (.int p0), .val (.int p1), .val (.ref w_2), .val .null, .val (.ref w_2), .val (.int (1 : Int32))] [(.int (1 : Int32)), (.int (1 : Int32))])) _
          refine XS.icmpNo X75.here hx rfl (hb hby at_37) rfl (teq (by decide : ((1 : Int32) = (1 : Int32)))).2 ?_
          show Steps p.tables e below (T75.setTop (mkF m 40 #[.val (.int p0), .val (.int p1), .val (.ref w_2), .val .null, .val (.ref w_2), .val (.int (1 : Int32))] [])) _
          refine XS.iconst X75.here hx rfl (hb hby at_40) ?_
          show Steps p.tables e below (T75.setTop (mkF m 41 #[.val (.int p0), .val (.int p1), .val (.ref w_2), .val .null, .val (.ref w_2), .val (.int (1 : Int32))] [(.int (1 : Int32))])) _
          refine XS.goto X75.here hx rfl (pc0 := 41) (pc' := 45) rfl (hb hby at_41) (by decide) (by decide) ?_
          show Steps p.tables e below (T75.setTop (mkF m 45 #[.val (.int p0), .val (.int p1), .val (.ref w_2), .val .null, .val (.ref w_2), .val (.int (1 : Int32))] [(.int (1 : Int32))])) _
          exact retN X75 hx (t := .boolean) Bd.returns (by simp) (hb hby at_45) hr
        · show Q0 Z w_1 w_2 p0 p1 h0 n0 _ T75.heap _
          rw [e75]
          exact ⟨by unfold sp0; rw [if_neg hc14, if_pos hc56, if_pos hc59], N75, rfl⟩
      · by_cases hc76 : ((p1 &&& (2147483647 : Int32)) % (3 : Int32)) = (1 : Int32)
        · obtain ⟨_, _, ⟨T77, L77, k77, n77⟩, -, X77, ⟨Lc77, hQ77, l77, y77, z77⟩, st77⟩ := Jvm.LawKit.callS X57 hx (y := Y0) hown (mvT hZ (hw _ (tk 0 rfl))) (mvT hZ (hw _ (tk 1 rfl))) (mvT hZ (hw _ (tk 2 rfl))) (mvT hZ (hw _ (tk 3 rfl))) (by decide) (backOf (W := 0) (rm1 l Z a0 hw [] w_1 w_2 hS0 p1 h0 n0 O0) hZ (hw _ (tk 3 rfl)) (hw _ (tk 2 rfl)) (by decide) (by decide)) (g := (mkF m 6 #[.val (.int p0), .val (.int p1), .val (.ref w_2), .unset, .unset, .unset] [(.int p1)])) rfl (by rw [hml]; rfl) (argsL := [(.int p1)]) (rest := []) (lenOf pd_0 rfl) rfl (by show 2 * 0 + _ ≤ _; exact Nat.le_of_eq rfl) (hb hby at_6) (fun _ _ => ⟨rfl, e57, (by decide : 0 + 0 ≤ _), (by decide : 0 + 0 ≤ _)⟩)
          dsimp only [Pt.U, Pt.locs, Pt.cells, Pt.slots] at X77 l77 y77 z77 st77 hQ77
          subst l77 y77 z77
          obtain ⟨rv77, N77q, e77⟩ := hQ77
          rw [show sp1 w_1 w_2 p1 = (.ref w_2) from by unfold sp1; rw [if_neg hc59, if_pos hc76]] at rv77
          subst rv77
          have N77 := Fr.app N57 N77q
          obtain ⟨_, _, ⟨T94, L94, k94, n94⟩, -, X94, ⟨Lc94, hQ94, l94, y94, z94⟩, st94⟩ := Jvm.LawKit.callS X77 hx (y := Y1) hown (mvT hZ (hw _ (tk 5 rfl))) (mvT hZ (hw _ (tk 6 rfl))) (mvT hZ (hw _ (tk 7 rfl))) (mvT hZ (hw _ (tk 8 rfl))) (by decide) (backOf (W := 0) (rm2 l Z a0 hw [] w_1 w_2 hS0 w_2 w_2 h0 n0 O0) hZ (hw _ (tk 8 rfl)) (hw _ (tk 7 rfl)) (by decide) (by decide)) (g := (mkF m 12 #[.val (.int p0), .val (.int p1), .val (.ref w_2), .val (.ref w_2), .unset, .unset] [(.ref w_2), (.ref w_2)])) rfl (by rw [hml]; rfl) (argsL := [(.ref w_2), (.ref w_2)]) (rest := []) (lenOf pd_1 rfl) rfl (by show 2 * 0 + _ ≤ _; exact Nat.le_of_eq rfl) (hb hby at_12) (fun _ _ => ⟨rfl, e77, (by decide : 0 + 0 ≤ _), (by decide : 0 + 0 ≤ _)⟩)
          dsimp only [Pt.U, Pt.locs, Pt.cells, Pt.slots] at X94 l94 y94 z94 st94 hQ94
          subst l94 y94 z94
          obtain ⟨rv94, N94q, e94⟩ := hQ94
          rw [show sp2 w_1 w_2 w_2 w_2 = (.ref w_2) from by unfold sp2; rw [if_neg (Fld.ne F_2_ordinal F_1_ordinal (by decide)), if_neg (Fld.ne F_2_ordinal F_1_ordinal (by decide)), if_pos rfl]] at rv94
          subst rv94
          have N94 := Fr.app N77 N94q
          obtain ⟨_, _, ⟨T95, L95, k95, n95⟩, -, X95, ⟨Lc95, hQ95, l95, y95, z95⟩, st95⟩ := Jvm.LawKit.callS X94 hx (y := Y2) hown (mvT hZ (hw _ (tk 13 rfl))) (mvT hZ (hw _ (tk 14 rfl))) (mvT hZ (hw _ (tk 2 rfl))) (mvT hZ (hw _ (tk 15 rfl))) (by decide) (backOf (W := 0) (rm3 l Z a0 hw [] w_1 w_2 hS0 w_2 h0 n0 O0) hZ (hw _ (tk 15 rfl)) (hw _ (tk 2 rfl)) (by decide) (by decide)) (g := (mkF m 18 #[.val (.int p0), .val (.int p1), .val (.ref w_2), .val (.ref w_2), .val (.ref w_2), .unset] [(.ref w_2)])) rfl (by rw [hml]; rfl) (argsL := [(.ref w_2)]) (rest := []) (lenOf pd_2 rfl) rfl (by show 2 * 0 + _ ≤ _; exact Nat.le_of_eq rfl) (hb hby at_18) (fun _ _ => ⟨rfl, e94, (by decide : 0 + 0 ≤ _), (by decide : 0 + 0 ≤ _)⟩)
          dsimp only [Pt.U, Pt.locs, Pt.cells, Pt.slots] at X95 l95 y95 z95 st95 hQ95
          subst l95 y95 z95
          obtain ⟨rv95, N95q, e95⟩ := hQ95
          rw [show sp3 w_2 w_2 = (1 : Int32) from by unfold sp3; rw [if_pos rfl]] at rv95
          subst rv95
          have N95 := Fr.app N94 N95q
          obtain ⟨_, _, ⟨T96, L96, k96, n96⟩, -, X96, ⟨Lc96, hQ96, l96, y96, z96⟩, st96⟩ := Jvm.LawKit.callS X95 hx (y := Y2) hown (mvT hZ (hw _ (tk 13 rfl))) (mvT hZ (hw _ (tk 14 rfl))) (mvT hZ (hw _ (tk 2 rfl))) (mvT hZ (hw _ (tk 15 rfl))) (by decide) (backOf (W := 1) (rm3 l Z a0 hw [] w_1 w_2 hS0 w_2 h0 n0 O0) hZ (hw _ (tk 15 rfl)) (hw _ (tk 2 rfl)) (by decide) (by decide)) (g := (mkF m 22 #[.val (.int p0), .val (.int p1), .val (.ref w_2), .val (.ref w_2), .val (.ref w_2), .unset] [(.ref w_2), (.int (1 : Int32))])) rfl (by rw [hml]; rfl) (argsL := [(.ref w_2)]) (rest := [(.int (1 : Int32))]) (lenOf pd_2 rfl) rfl (by show 2 * 0 + _ ≤ _; exact Nat.le_of_eq rfl) (hb hby at_22) (fun _ _ => ⟨rfl, e95, (by decide : 0 + 0 ≤ _), (by decide : 0 + 0 ≤ _)⟩)
          dsimp only [Pt.U, Pt.locs, Pt.cells, Pt.slots] at X96 l96 y96 z96 st96 hQ96
          subst l96 y96 z96
          obtain ⟨rv96, N96q, e96⟩ := hQ96
          rw [show sp3 w_2 w_2 = (1 : Int32) from by unfold sp3; rw [if_pos rfl]] at rv96
          subst rv96
          have N96 := Fr.app N95 N96q
          obtain ⟨_, _, ⟨T97, L97, k97, n97⟩, -, X97, ⟨Lc97, hQ97, l97, y97, z97⟩, st97⟩ := Jvm.LawKit.callS X96 hx (y := Y3) hown (mvT hZ (hw _ (tk 16 rfl))) (mvT hZ (hw _ (tk 17 rfl))) (mvT hZ (hw _ (tk 18 rfl))) (mvT hZ (hw _ (tk 19 rfl))) (by decide) (backOf (W := 0) (rm4 l Z a0 hw [] w_1 w_2 hS0 (1 : Int32) (1 : Int32) h0 n0 O0) hZ (hw _ (tk 19 rfl)) (hw _ (tk 18 rfl)) (by decide) (by decide)) (g := (mkF m 25 #[.val (.int p0), .val (.int p1), .val (.ref w_2), .val (.ref w_2), .val (.ref w_2), .unset] [(.int (1 : Int32)), (.int (1 : Int32))])) rfl (by rw [hml]; rfl) (argsL := [(.int (1 : Int32)), (.int (1 : Int32))]) (rest := []) (lenOf pd_3 rfl) rfl (by show 2 * 0 + _ ≤ _; exact Nat.le_of_eq rfl) (hb hby at_25) (fun _ _ => ⟨rfl, e96, (by decide : 0 + 0 ≤ _), (by decide : 0 + 0 ≤ _)⟩)
          dsimp only [Pt.U, Pt.locs, Pt.cells, Pt.slots] at X97 l97 y97 z97 st97 hQ97
          subst l97 y97 z97
          obtain ⟨rv97, N97q, e97⟩ := hQ97
          rw [show sp4 (1 : Int32) (1 : Int32) = (1 : Int32) from by unfold sp4; rw [if_neg (by decide : ¬ ((1 : Int32) < (1 : Int32)))]] at rv97
          subst rv97
          have N97 := Fr.app N96 N97q
          obtain ⟨_, _, ⟨T98, L98, k98, n98⟩, -, X98, ⟨Lc98, hQ98, l98, y98, z98⟩, st98⟩ := Jvm.LawKit.callS X97 hx (y := Y2) hown (mvT hZ (hw _ (tk 13 rfl))) (mvT hZ (hw _ (tk 14 rfl))) (mvT hZ (hw _ (tk 2 rfl))) (mvT hZ (hw _ (tk 15 rfl))) (by decide) (backOf (W := 0) (rm3 l Z a0 hw [] w_1 w_2 hS0 w_2 h0 n0 O0) hZ (hw _ (tk 15 rfl)) (hw _ (tk 2 rfl)) (by decide) (by decide)) (g := (mkF m 32 #[.val (.int p0), .val (.int p1), .val (.ref w_2), .val (.ref w_2), .val (.ref w_2), .val (.int (1 : Int32))] [(.ref w_2)])) rfl (by rw [hml]; rfl) (argsL := [(.ref w_2)]) (rest := []) (lenOf pd_2 rfl) rfl (by show 2 * 0 + _ ≤ _; exact Nat.le_of_eq rfl) (hb hby at_32) (fun _ _ => ⟨rfl, e97, (by decide : 0 + 0 ≤ _), (by decide : 0 + 0 ≤ _)⟩)
          dsimp only [Pt.U, Pt.locs, Pt.cells, Pt.slots] at X98 l98 y98 z98 st98 hQ98
          subst l98 y98 z98
          obtain ⟨rv98, N98q, e98⟩ := hQ98
          rw [show sp3 w_2 w_2 = (1 : Int32) from by unfold sp3; rw [if_pos rfl]] at rv98
          subst rv98
          have N98 := Fr.app N97 N98q
          obtain ⟨fs, hr, hrun, hended, hW, hsame⟩ := X98.leave (v := some (.int (1 : Int32))) (fun h => by rw [Bd.returns] at h; cases h)
          refine ⟨_, _, pre58 _ ?_, hrun, hended, _, _, rfl, ?_, ⟨_, rfl⟩, hW, hsame.mono (by decide) (by decide)⟩
          · show Steps p.tables e below (T57.setTop (mkF m 6 #[.val (.int p0), .val (.int p1), .val (.ref w_2), .unset, .unset, .unset] [(.int p1)])) _
            refine st77 _ ?_
            show Steps p.tables e below (T77.setTop (mkF m 9 #[.val (.int p0), .val (.int p1), .val (.ref w_2), .unset, .unset, .unset] [(.ref w_2)])) _
            refine XS.astoreN X77.here hx rfl (hb hby at_9) rfl rfl (l' := #[.val (.int p0), .val (.int p1), .val (.ref w_2), .val (.ref w_2), .unset, .unset]) rfl ?_
            show Steps p.tables e below (T77.setTop (mkF m 10 #[.val (.int p0), .val (.int p1), .val (.ref w_2), .val (.ref w_2), .unset, .unset] [])) _
            refine XS.aloadN X77.here hx rfl (hb hby at_10) rfl rfl ?_
            show Steps p.tables e below (T77.setTop (mkF m 11 #[.val (.int p0), .val (.int p1), .val (.ref w_2), .val (.ref w_2), .unset, .unset] [(.ref w_2)])) _
            refine XS.aloadN X77.here hx rfl (hb hby at_11) rfl rfl ?_
            show Steps p.tables e below (T77.setTop (mkF m 12 #[.val (.int p0), .val (.int p1), .val (.ref w_2), .val (.ref w_2), .unset, .unset] [(.ref w_2), (.ref w_2)])) _
            refine st94 _ ?_
            show Steps p.tables e below (T94.setTop (mkF m 15 #[.val (.int p0), .val (.int p1), .val (.ref w_2), .val (.ref w_2), .unset, .unset] [(.ref w_2)])) _
            refine XS.astore X94.here hx rfl (hb hby at_15) rfl rfl (l' := #[.val (.int p0), .val (.int p1), .val (.ref w_2), .val (.ref w_2), .val (.ref w_2), .unset]) rfl ?_
            show Steps p.tables e below (T94.setTop (mkF m 17 #[.val (.int p0), .val (.int p1), .val (.ref w_2), .val (.ref w_2), .val (.ref w_2), .unset] [])) _
            refine XS.aloadN X94.here hx rfl (hb hby at_17) rfl rfl ?_
            show Steps p.tables e below (T94.setTop (mkF m 18 #[.val (.int p0), .val (.int p1), .val (.ref w_2), .val (.ref w_2), .val (.ref w_2), .unset] [(.ref w_2)])) _
            refine st95 _ ?_
            show Steps p.tables e below (T95.setTop (mkF m 21 #[.val (.int p0), .val (.int p1), .val (.ref w_2), .val (.ref w_2), .val (.ref w_2), .unset] [(.int (1 : Int32))])) _
            refine XS.aloadN X95.here hx rfl (hb hby at_21) rfl rfl ?_
            show Steps p.tables e below (T95.setTop (mkF m 22 #[.val (.int p0), .val (.int p1), .val (.ref w_2), .val (.ref w_2), .val (.ref w_2), .unset] [(.ref w_2), (.int (1 : Int32))])) _
            refine st96 _ ?_
            show Steps p.tables e below (T96.setTop (mkF m 25 #[.val (.int p0), .val (.int p1), .val (.ref w_2), .val (.ref w_2), .val (.ref w_2), .unset] [(.int (1 : Int32)), (.int (1 : Int32))])) _
            refine st97 _ ?_
            show Steps p.tables e below (T97.setTop (mkF m 28 #[.val (.int p0), .val (.int p1), .val (.ref w_2), .val (.ref w_2), .val (.ref w_2), .unset] [(.int (1 : Int32))])) _
            refine XS.istore X97.here hx rfl (hb hby at_28) rfl (l' := #[.val (.int p0), .val (.int p1), .val (.ref w_2), .val (.ref w_2), .val (.ref w_2), .val (.int (1 : Int32))]) rfl ?_
            show Steps p.tables e below (T97.setTop (mkF m 30 #[.val (.int p0), .val (.int p1), .val (.ref w_2), .val (.ref w_2), .val (.ref w_2), .val (.int (1 : Int32))] [])) _
            refine XS.aload X97.here hx rfl (hb hby at_30) rfl rfl ?_
            show Steps p.tables e below (T97.setTop (mkF m 32 #[.val (.int p0), .val (.int p1), .val (.ref w_2), .val (.ref w_2), .val (.ref w_2), .val (.int (1 : Int32))] [(.ref w_2)])) _
            refine st98 _ ?_
            show Steps p.tables e below (T98.setTop (mkF m 35 #[.val (.int p0), .val (.int p1), .val (.ref w_2), .val (.ref w_2), .val (.ref w_2), .val (.int (1 : Int32))] [(.int (1 : Int32))])) _
            refine XS.iload X98.here hx rfl (hb hby at_35) rfl ?_
            show Steps p.tables e below (T98.setTop (mkF m 37 #[.val (.int p0), .val (.int p1), .val (.ref w_2), .val (.ref w_2), .val (.ref w_2), .val (.int (1 : Int32))] [(.int (1 : Int32)), (.int (1 : Int32))])) _
            refine XS.icmpNo X98.here hx rfl (hb hby at_37) rfl (teq (by decide : ((1 : Int32) = (1 : Int32)))).2 ?_
            show Steps p.tables e below (T98.setTop (mkF m 40 #[.val (.int p0), .val (.int p1), .val (.ref w_2), .val (.ref w_2), .val (.ref w_2), .val (.int (1 : Int32))] [])) _
            refine XS.iconst X98.here hx rfl (hb hby at_40) ?_
            show Steps p.tables e below (T98.setTop (mkF m 41 #[.val (.int p0), .val (.int p1), .val (.ref w_2), .val (.ref w_2), .val (.ref w_2), .val (.int (1 : Int32))] [(.int (1 : Int32))])) _
            refine XS.goto X98.here hx rfl (pc0 := 41) (pc' := 45) rfl (hb hby at_41) (by decide) (by decide) ?_
            show Steps p.tables e below (T98.setTop (mkF m 45 #[.val (.int p0), .val (.int p1), .val (.ref w_2), .val (.ref w_2), .val (.ref w_2), .val (.int (1 : Int32))] [(.int (1 : Int32))])) _
            exact retN X98 hx (t := .boolean) Bd.returns (by simp) (hb hby at_45) hr
          · show Q0 Z w_1 w_2 p0 p1 h0 n0 _ T98.heap _
            rw [e98]
            exact ⟨by unfold sp0; rw [if_neg hc14, if_pos hc56, if_neg hc59, if_pos hc76], N98, rfl⟩
        · obtain ⟨_, _, ⟨T99, L99, k99, n99⟩, -, X99, ⟨Lc99, hQ99, l99, y99, z99⟩, st99⟩ := Jvm.LawKit.callS X57 hx (y := Y0) hown (mvT hZ (hw _ (tk 0 rfl))) (mvT hZ (hw _ (tk 1 rfl))) (mvT hZ (hw _ (tk 2 rfl))) (mvT hZ (hw _ (tk 3 rfl))) (by decide) (backOf (W := 0) (rm1 l Z a0 hw [] w_1 w_2 hS0 p1 h0 n0 O0) hZ (hw _ (tk 3 rfl)) (hw _ (tk 2 rfl)) (by decide) (by decide)) (g := (mkF m 6 #[.val (.int p0), .val (.int p1), .val (.ref w_2), .unset, .unset, .unset] [(.int p1)])) rfl (by rw [hml]; rfl) (argsL := [(.int p1)]) (rest := []) (lenOf pd_0 rfl) rfl (by show 2 * 0 + _ ≤ _; exact Nat.le_of_eq rfl) (hb hby at_6) (fun _ _ => ⟨rfl, e57, (by decide : 0 + 0 ≤ _), (by decide : 0 + 0 ≤ _)⟩)
          dsimp only [Pt.U, Pt.locs, Pt.cells, Pt.slots] at X99 l99 y99 z99 st99 hQ99
          subst l99 y99 z99
          obtain ⟨rv99, N99q, e99⟩ := hQ99
          rw [show sp1 w_1 w_2 p1 = (.ref w_1) from by unfold sp1; rw [if_neg hc59, if_neg hc76]] at rv99
          subst rv99
          have N99 := Fr.app N57 N99q
          obtain ⟨_, _, ⟨T100, L100, k100, n100⟩, -, X100, ⟨Lc100, hQ100, l100, y100, z100⟩, st100⟩ := Jvm.LawKit.callS X99 hx (y := Y1) hown (mvT hZ (hw _ (tk 5 rfl))) (mvT hZ (hw _ (tk 6 rfl))) (mvT hZ (hw _ (tk 7 rfl))) (mvT hZ (hw _ (tk 8 rfl))) (by decide) (backOf (W := 0) (rm2 l Z a0 hw [] w_1 w_2 hS0 w_2 w_1 h0 n0 O0) hZ (hw _ (tk 8 rfl)) (hw _ (tk 7 rfl)) (by decide) (by decide)) (g := (mkF m 12 #[.val (.int p0), .val (.int p1), .val (.ref w_2), .val (.ref w_1), .unset, .unset] [(.ref w_1), (.ref w_2)])) rfl (by rw [hml]; rfl) (argsL := [(.ref w_2), (.ref w_1)]) (rest := []) (lenOf pd_1 rfl) rfl (by show 2 * 0 + _ ≤ _; exact Nat.le_of_eq rfl) (hb hby at_12) (fun _ _ => ⟨rfl, e99, (by decide : 0 + 0 ≤ _), (by decide : 0 + 0 ≤ _)⟩)
          dsimp only [Pt.U, Pt.locs, Pt.cells, Pt.slots] at X100 l100 y100 z100 st100 hQ100
          subst l100 y100 z100
          obtain ⟨rv100, N100q, e100⟩ := hQ100
          rw [show sp2 w_1 w_2 w_2 w_1 = (.ref w_1) from by unfold sp2; rw [if_neg (Fld.ne F_2_ordinal F_1_ordinal (by decide)), if_pos rfl]] at rv100
          subst rv100
          have N100 := Fr.app N99 N100q
          obtain ⟨_, _, ⟨T101, L101, k101, n101⟩, -, X101, ⟨Lc101, hQ101, l101, y101, z101⟩, st101⟩ := Jvm.LawKit.callS X100 hx (y := Y2) hown (mvT hZ (hw _ (tk 13 rfl))) (mvT hZ (hw _ (tk 14 rfl))) (mvT hZ (hw _ (tk 2 rfl))) (mvT hZ (hw _ (tk 15 rfl))) (by decide) (backOf (W := 0) (rm3 l Z a0 hw [] w_1 w_2 hS0 w_2 h0 n0 O0) hZ (hw _ (tk 15 rfl)) (hw _ (tk 2 rfl)) (by decide) (by decide)) (g := (mkF m 18 #[.val (.int p0), .val (.int p1), .val (.ref w_2), .val (.ref w_1), .val (.ref w_1), .unset] [(.ref w_2)])) rfl (by rw [hml]; rfl) (argsL := [(.ref w_2)]) (rest := []) (lenOf pd_2 rfl) rfl (by show 2 * 0 + _ ≤ _; exact Nat.le_of_eq rfl) (hb hby at_18) (fun _ _ => ⟨rfl, e100, (by decide : 0 + 0 ≤ _), (by decide : 0 + 0 ≤ _)⟩)
          dsimp only [Pt.U, Pt.locs, Pt.cells, Pt.slots] at X101 l101 y101 z101 st101 hQ101
          subst l101 y101 z101
          obtain ⟨rv101, N101q, e101⟩ := hQ101
          rw [show sp3 w_2 w_2 = (1 : Int32) from by unfold sp3; rw [if_pos rfl]] at rv101
          subst rv101
          have N101 := Fr.app N100 N101q
          obtain ⟨_, _, ⟨T102, L102, k102, n102⟩, -, X102, ⟨Lc102, hQ102, l102, y102, z102⟩, st102⟩ := Jvm.LawKit.callS X101 hx (y := Y2) hown (mvT hZ (hw _ (tk 13 rfl))) (mvT hZ (hw _ (tk 14 rfl))) (mvT hZ (hw _ (tk 2 rfl))) (mvT hZ (hw _ (tk 15 rfl))) (by decide) (backOf (W := 1) (rm3 l Z a0 hw [] w_1 w_2 hS0 w_1 h0 n0 O0) hZ (hw _ (tk 15 rfl)) (hw _ (tk 2 rfl)) (by decide) (by decide)) (g := (mkF m 22 #[.val (.int p0), .val (.int p1), .val (.ref w_2), .val (.ref w_1), .val (.ref w_1), .unset] [(.ref w_1), (.int (1 : Int32))])) rfl (by rw [hml]; rfl) (argsL := [(.ref w_1)]) (rest := [(.int (1 : Int32))]) (lenOf pd_2 rfl) rfl (by show 2 * 0 + _ ≤ _; exact Nat.le_of_eq rfl) (hb hby at_22) (fun _ _ => ⟨rfl, e101, (by decide : 0 + 0 ≤ _), (by decide : 0 + 0 ≤ _)⟩)
          dsimp only [Pt.U, Pt.locs, Pt.cells, Pt.slots] at X102 l102 y102 z102 st102 hQ102
          subst l102 y102 z102
          obtain ⟨rv102, N102q, e102⟩ := hQ102
          rw [show sp3 w_2 w_1 = (2 : Int32) from by unfold sp3; rw [if_neg (Fld.ne F_1_ordinal F_2_ordinal (by decide))]] at rv102
          subst rv102
          have N102 := Fr.app N101 N102q
          obtain ⟨_, _, ⟨T103, L103, k103, n103⟩, -, X103, ⟨Lc103, hQ103, l103, y103, z103⟩, st103⟩ := Jvm.LawKit.callS X102 hx (y := Y3) hown (mvT hZ (hw _ (tk 16 rfl))) (mvT hZ (hw _ (tk 17 rfl))) (mvT hZ (hw _ (tk 18 rfl))) (mvT hZ (hw _ (tk 19 rfl))) (by decide) (backOf (W := 0) (rm4 l Z a0 hw [] w_1 w_2 hS0 (1 : Int32) (2 : Int32) h0 n0 O0) hZ (hw _ (tk 19 rfl)) (hw _ (tk 18 rfl)) (by decide) (by decide)) (g := (mkF m 25 #[.val (.int p0), .val (.int p1), .val (.ref w_2), .val (.ref w_1), .val (.ref w_1), .unset] [(.int (2 : Int32)), (.int (1 : Int32))])) rfl (by rw [hml]; rfl) (argsL := [(.int (1 : Int32)), (.int (2 : Int32))]) (rest := []) (lenOf pd_3 rfl) rfl (by show 2 * 0 + _ ≤ _; exact Nat.le_of_eq rfl) (hb hby at_25) (fun _ _ => ⟨rfl, e102, (by decide : 0 + 0 ≤ _), (by decide : 0 + 0 ≤ _)⟩)
          dsimp only [Pt.U, Pt.locs, Pt.cells, Pt.slots] at X103 l103 y103 z103 st103 hQ103
          subst l103 y103 z103
          obtain ⟨rv103, N103q, e103⟩ := hQ103
          rw [show sp4 (1 : Int32) (2 : Int32) = (2 : Int32) from by unfold sp4; rw [if_pos (by decide : ((1 : Int32) < (2 : Int32)))]] at rv103
          subst rv103
          have N103 := Fr.app N102 N103q
          obtain ⟨_, _, ⟨T104, L104, k104, n104⟩, -, X104, ⟨Lc104, hQ104, l104, y104, z104⟩, st104⟩ := Jvm.LawKit.callS X103 hx (y := Y2) hown (mvT hZ (hw _ (tk 13 rfl))) (mvT hZ (hw _ (tk 14 rfl))) (mvT hZ (hw _ (tk 2 rfl))) (mvT hZ (hw _ (tk 15 rfl))) (by decide) (backOf (W := 0) (rm3 l Z a0 hw [] w_1 w_2 hS0 w_1 h0 n0 O0) hZ (hw _ (tk 15 rfl)) (hw _ (tk 2 rfl)) (by decide) (by decide)) (g := (mkF m 32 #[.val (.int p0), .val (.int p1), .val (.ref w_2), .val (.ref w_1), .val (.ref w_1), .val (.int (2 : Int32))] [(.ref w_1)])) rfl (by rw [hml]; rfl) (argsL := [(.ref w_1)]) (rest := []) (lenOf pd_2 rfl) rfl (by show 2 * 0 + _ ≤ _; exact Nat.le_of_eq rfl) (hb hby at_32) (fun _ _ => ⟨rfl, e103, (by decide : 0 + 0 ≤ _), (by decide : 0 + 0 ≤ _)⟩)
          dsimp only [Pt.U, Pt.locs, Pt.cells, Pt.slots] at X104 l104 y104 z104 st104 hQ104
          subst l104 y104 z104
          obtain ⟨rv104, N104q, e104⟩ := hQ104
          rw [show sp3 w_2 w_1 = (2 : Int32) from by unfold sp3; rw [if_neg (Fld.ne F_1_ordinal F_2_ordinal (by decide))]] at rv104
          subst rv104
          have N104 := Fr.app N103 N104q
          obtain ⟨fs, hr, hrun, hended, hW, hsame⟩ := X104.leave (v := some (.int (1 : Int32))) (fun h => by rw [Bd.returns] at h; cases h)
          refine ⟨_, _, pre58 _ ?_, hrun, hended, _, _, rfl, ?_, ⟨_, rfl⟩, hW, hsame.mono (by decide) (by decide)⟩
          · show Steps p.tables e below (T57.setTop (mkF m 6 #[.val (.int p0), .val (.int p1), .val (.ref w_2), .unset, .unset, .unset] [(.int p1)])) _
            refine st99 _ ?_
            show Steps p.tables e below (T99.setTop (mkF m 9 #[.val (.int p0), .val (.int p1), .val (.ref w_2), .unset, .unset, .unset] [(.ref w_1)])) _
            refine XS.astoreN X99.here hx rfl (hb hby at_9) rfl rfl (l' := #[.val (.int p0), .val (.int p1), .val (.ref w_2), .val (.ref w_1), .unset, .unset]) rfl ?_
            show Steps p.tables e below (T99.setTop (mkF m 10 #[.val (.int p0), .val (.int p1), .val (.ref w_2), .val (.ref w_1), .unset, .unset] [])) _
            refine XS.aloadN X99.here hx rfl (hb hby at_10) rfl rfl ?_
            show Steps p.tables e below (T99.setTop (mkF m 11 #[.val (.int p0), .val (.int p1), .val (.ref w_2), .val (.ref w_1), .unset, .unset] [(.ref w_2)])) _
            refine XS.aloadN X99.here hx rfl (hb hby at_11) rfl rfl ?_
            show Steps p.tables e below (T99.setTop (mkF m 12 #[.val (.int p0), .val (.int p1), .val (.ref w_2), .val (.ref w_1), .unset, .unset] [(.ref w_1), (.ref w_2)])) _
            refine st100 _ ?_
            show Steps p.tables e below (T100.setTop (mkF m 15 #[.val (.int p0), .val (.int p1), .val (.ref w_2), .val (.ref w_1), .unset, .unset] [(.ref w_1)])) _
            refine XS.astore X100.here hx rfl (hb hby at_15) rfl rfl (l' := #[.val (.int p0), .val (.int p1), .val (.ref w_2), .val (.ref w_1), .val (.ref w_1), .unset]) rfl ?_
            show Steps p.tables e below (T100.setTop (mkF m 17 #[.val (.int p0), .val (.int p1), .val (.ref w_2), .val (.ref w_1), .val (.ref w_1), .unset] [])) _
            refine XS.aloadN X100.here hx rfl (hb hby at_17) rfl rfl ?_
            show Steps p.tables e below (T100.setTop (mkF m 18 #[.val (.int p0), .val (.int p1), .val (.ref w_2), .val (.ref w_1), .val (.ref w_1), .unset] [(.ref w_2)])) _
            refine st101 _ ?_
            show Steps p.tables e below (T101.setTop (mkF m 21 #[.val (.int p0), .val (.int p1), .val (.ref w_2), .val (.ref w_1), .val (.ref w_1), .unset] [(.int (1 : Int32))])) _
            refine XS.aloadN X101.here hx rfl (hb hby at_21) rfl rfl ?_
            show Steps p.tables e below (T101.setTop (mkF m 22 #[.val (.int p0), .val (.int p1), .val (.ref w_2), .val (.ref w_1), .val (.ref w_1), .unset] [(.ref w_1), (.int (1 : Int32))])) _
            refine st102 _ ?_
            show Steps p.tables e below (T102.setTop (mkF m 25 #[.val (.int p0), .val (.int p1), .val (.ref w_2), .val (.ref w_1), .val (.ref w_1), .unset] [(.int (2 : Int32)), (.int (1 : Int32))])) _
            refine st103 _ ?_
            show Steps p.tables e below (T103.setTop (mkF m 28 #[.val (.int p0), .val (.int p1), .val (.ref w_2), .val (.ref w_1), .val (.ref w_1), .unset] [(.int (2 : Int32))])) _
            refine XS.istore X103.here hx rfl (hb hby at_28) rfl (l' := #[.val (.int p0), .val (.int p1), .val (.ref w_2), .val (.ref w_1), .val (.ref w_1), .val (.int (2 : Int32))]) rfl ?_
            show Steps p.tables e below (T103.setTop (mkF m 30 #[.val (.int p0), .val (.int p1), .val (.ref w_2), .val (.ref w_1), .val (.ref w_1), .val (.int (2 : Int32))] [])) _
            refine XS.aload X103.here hx rfl (hb hby at_30) rfl rfl ?_
            show Steps p.tables e below (T103.setTop (mkF m 32 #[.val (.int p0), .val (.int p1), .val (.ref w_2), .val (.ref w_1), .val (.ref w_1), .val (.int (2 : Int32))] [(.ref w_1)])) _
            refine st104 _ ?_
            show Steps p.tables e below (T104.setTop (mkF m 35 #[.val (.int p0), .val (.int p1), .val (.ref w_2), .val (.ref w_1), .val (.ref w_1), .val (.int (2 : Int32))] [(.int (2 : Int32))])) _
            refine XS.iload X104.here hx rfl (hb hby at_35) rfl ?_
            show Steps p.tables e below (T104.setTop (mkF m 37 #[.val (.int p0), .val (.int p1), .val (.ref w_2), .val (.ref w_1), .val (.ref w_1), .val (.int (2 : Int32))] [(.int (2 : Int32)), (.int (2 : Int32))])) _
            refine XS.icmpNo X104.here hx rfl (hb hby at_37) rfl (teq (by decide : ((2 : Int32) = (2 : Int32)))).2 ?_
            show Steps p.tables e below (T104.setTop (mkF m 40 #[.val (.int p0), .val (.int p1), .val (.ref w_2), .val (.ref w_1), .val (.ref w_1), .val (.int (2 : Int32))] [])) _
            refine XS.iconst X104.here hx rfl (hb hby at_40) ?_
            show Steps p.tables e below (T104.setTop (mkF m 41 #[.val (.int p0), .val (.int p1), .val (.ref w_2), .val (.ref w_1), .val (.ref w_1), .val (.int (2 : Int32))] [(.int (1 : Int32))])) _
            refine XS.goto X104.here hx rfl (pc0 := 41) (pc' := 45) rfl (hb hby at_41) (by decide) (by decide) ?_
            show Steps p.tables e below (T104.setTop (mkF m 45 #[.val (.int p0), .val (.int p1), .val (.ref w_2), .val (.ref w_1), .val (.ref w_1), .val (.int (2 : Int32))] [(.int (1 : Int32))])) _
            exact retN X104 hx (t := .boolean) Bd.returns (by simp) (hb hby at_45) hr
          · show Q0 Z w_1 w_2 p0 p1 h0 n0 _ T104.heap _
            rw [e104]
            exact ⟨by unfold sp0; rw [if_neg hc14, if_pos hc56, if_neg hc59, if_neg hc76], N104, rfl⟩
    · obtain ⟨_, _, ⟨T105, L105, k105, n105⟩, -, X105, ⟨Lc105, hQ105, l105, y105, z105⟩, st105⟩ := Jvm.LawKit.callS X0 hx (y := Y0) hown (mvT hZ (hw _ (tk 0 rfl))) (mvT hZ (hw _ (tk 1 rfl))) (mvT hZ (hw _ (tk 2 rfl))) (mvT hZ (hw _ (tk 3 rfl))) (by decide) (backOf (W := 0) (rm1 l Z a0 hw [] w_1 w_2 hS0 p0 h0 n0 O0) hZ (hw _ (tk 3 rfl)) (hw _ (tk 2 rfl)) (by decide) (by decide)) (g := (mkF m 1 #[.val (.int p0), .val (.int p1), .unset, .unset, .unset, .unset] [(.int p0)])) rfl (by rw [hml]; rfl) (argsL := [(.int p0)]) (rest := []) (lenOf pd_0 rfl) rfl (by show 2 * 0 + _ ≤ _; exact Nat.le_of_eq rfl) (hb hby at_1) (fun _ _ => ⟨rfl, e0, (by decide : 0 + 0 ≤ _), (by decide : 0 + 0 ≤ _)⟩)
      dsimp only [Pt.U, Pt.locs, Pt.cells, Pt.slots] at X105 l105 y105 z105 st105 hQ105
      subst l105 y105 z105
      obtain ⟨rv105, N105q, e105⟩ := hQ105
      rw [show sp1 w_1 w_2 p0 = (.ref w_1) from by unfold sp1; rw [if_neg hc14, if_neg hc56]] at rv105
      subst rv105
      have N105 := Fr.app N0 N105q
      have pre106 : ∀ t, Steps p.tables e below (T105.setTop (mkF m 6 #[.val (.int p0), .val (.int p1), .val (.ref w_1), .unset, .unset, .unset] [(.int p1)])) t → Steps p.tables e below (s₁.setTop (entryFrame m #[(.int p0), (.int p1)] maxLocals)) t := fun t kt => by
        refine pre13 t ?_
        show Steps p.tables e below (s₁.setTop (mkF m 1 #[.val (.int p0), .val (.int p1), .unset, .unset, .unset, .unset] [(.int p0)])) _
        refine st105 _ ?_
        show Steps p.tables e below (T105.setTop (mkF m 4 #[.val (.int p0), .val (.int p1), .unset, .unset, .unset, .unset] [(.ref w_1)])) _
        refine XS.astoreN X105.here hx rfl (hb hby at_4) rfl rfl (l' := #[.val (.int p0), .val (.int p1), .val (.ref w_1), .unset, .unset, .unset]) rfl ?_
        show Steps p.tables e below (T105.setTop (mkF m 5 #[.val (.int p0), .val (.int p1), .val (.ref w_1), .unset, .unset, .unset] [])) _
        refine XS.iloadN X105.here hx rfl (hb hby at_5) rfl ?_
        show Steps p.tables e below (T105.setTop (mkF m 6 #[.val (.int p0), .val (.int p1), .val (.ref w_1), .unset, .unset, .unset] [(.int p1)])) _
        exact kt
      by_cases hc107 : ((p1 &&& (2147483647 : Int32)) % (3 : Int32)) = (0 : Int32)
      · obtain ⟨_, _, ⟨T108, L108, k108, n108⟩, -, X108, ⟨Lc108, hQ108, l108, y108, z108⟩, st108⟩ := Jvm.LawKit.callS X105 hx (y := Y0) hown (mvT hZ (hw _ (tk 0 rfl))) (mvT hZ (hw _ (tk 1 rfl))) (mvT hZ (hw _ (tk 2 rfl))) (mvT hZ (hw _ (tk 3 rfl))) (by decide) (backOf (W := 0) (rm1 l Z a0 hw [] w_1 w_2 hS0 p1 h0 n0 O0) hZ (hw _ (tk 3 rfl)) (hw _ (tk 2 rfl)) (by decide) (by decide)) (g := (mkF m 6 #[.val (.int p0), .val (.int p1), .val (.ref w_1), .unset, .unset, .unset] [(.int p1)])) rfl (by rw [hml]; rfl) (argsL := [(.int p1)]) (rest := []) (lenOf pd_0 rfl) rfl (by show 2 * 0 + _ ≤ _; exact Nat.le_of_eq rfl) (hb hby at_6) (fun _ _ => ⟨rfl, e105, (by decide : 0 + 0 ≤ _), (by decide : 0 + 0 ≤ _)⟩)
        dsimp only [Pt.U, Pt.locs, Pt.cells, Pt.slots] at X108 l108 y108 z108 st108 hQ108
        subst l108 y108 z108
        obtain ⟨rv108, N108q, e108⟩ := hQ108
        rw [show sp1 w_1 w_2 p1 = .null from by unfold sp1; rw [if_pos hc107]] at rv108
        subst rv108
        have N108 := Fr.app N105 N108q
        obtain ⟨_, _, ⟨T109, L109, k109, n109⟩, -, X109, ⟨Lc109, hQ109, l109, y109, z109⟩, st109⟩ := Jvm.LawKit.callS X108 hx (y := Y1) hown (mvT hZ (hw _ (tk 5 rfl))) (mvT hZ (hw _ (tk 6 rfl))) (mvT hZ (hw _ (tk 7 rfl))) (mvT hZ (hw _ (tk 8 rfl))) (by decide) (backOf (W := 0) (rm2n1 l Z a0 hw [] w_1 w_2 hS0 w_1 h0 n0 O0) hZ (hw _ (tk 8 rfl)) (hw _ (tk 7 rfl)) (by decide) (by decide)) (g := (mkF m 12 #[.val (.int p0), .val (.int p1), .val (.ref w_1), .val .null, .unset, .unset] [.null, (.ref w_1)])) rfl (by rw [hml]; rfl) (argsL := [(.ref w_1), .null]) (rest := []) (lenOf pd_1 rfl) rfl (by show 2 * 0 + _ ≤ _; exact Nat.le_of_eq rfl) (hb hby at_12) (fun _ _ => ⟨rfl, e108, (by decide : 0 + 0 ≤ _), (by decide : 0 + 0 ≤ _)⟩)
        dsimp only [Pt.U, Pt.locs, Pt.cells, Pt.slots] at X109 l109 y109 z109 st109 hQ109
        subst l109 y109 z109
        obtain ⟨rv109, N109q, e109⟩ := hQ109
        rw [show sp2n1 w_1 w_2 w_1 = (.ref w_1) from by unfold sp2n1; rw [if_pos rfl]] at rv109
        subst rv109
        have N109 := Fr.app N108 N109q
        obtain ⟨_, _, ⟨T110, L110, k110, n110⟩, -, X110, ⟨Lc110, hQ110, l110, y110, z110⟩, st110⟩ := Jvm.LawKit.callS X109 hx (y := Y2) hown (mvT hZ (hw _ (tk 13 rfl))) (mvT hZ (hw _ (tk 14 rfl))) (mvT hZ (hw _ (tk 2 rfl))) (mvT hZ (hw _ (tk 15 rfl))) (by decide) (backOf (W := 0) (rm3 l Z a0 hw [] w_1 w_2 hS0 w_1 h0 n0 O0) hZ (hw _ (tk 15 rfl)) (hw _ (tk 2 rfl)) (by decide) (by decide)) (g := (mkF m 18 #[.val (.int p0), .val (.int p1), .val (.ref w_1), .val .null, .val (.ref w_1), .unset] [(.ref w_1)])) rfl (by rw [hml]; rfl) (argsL := [(.ref w_1)]) (rest := []) (lenOf pd_2 rfl) rfl (by show 2 * 0 + _ ≤ _; exact Nat.le_of_eq rfl) (hb hby at_18) (fun _ _ => ⟨rfl, e109, (by decide : 0 + 0 ≤ _), (by decide : 0 + 0 ≤ _)⟩)
        dsimp only [Pt.U, Pt.locs, Pt.cells, Pt.slots] at X110 l110 y110 z110 st110 hQ110
        subst l110 y110 z110
        obtain ⟨rv110, N110q, e110⟩ := hQ110
        rw [show sp3 w_2 w_1 = (2 : Int32) from by unfold sp3; rw [if_neg (Fld.ne F_1_ordinal F_2_ordinal (by decide))]] at rv110
        subst rv110
        have N110 := Fr.app N109 N110q
        obtain ⟨_, _, ⟨T111, L111, k111, n111⟩, -, X111, ⟨Lc111, hQ111, l111, y111, z111⟩, st111⟩ := Jvm.LawKit.callS X110 hx (y := Y2) hown (mvT hZ (hw _ (tk 13 rfl))) (mvT hZ (hw _ (tk 14 rfl))) (mvT hZ (hw _ (tk 2 rfl))) (mvT hZ (hw _ (tk 15 rfl))) (by decide) (backOf (W := 1) (rm3n0 l Z a0 hw [] w_1 w_2 hS0 h0 n0 O0) hZ (hw _ (tk 15 rfl)) (hw _ (tk 2 rfl)) (by decide) (by decide)) (g := (mkF m 22 #[.val (.int p0), .val (.int p1), .val (.ref w_1), .val .null, .val (.ref w_1), .unset] [.null, (.int (2 : Int32))])) rfl (by rw [hml]; rfl) (argsL := [.null]) (rest := [(.int (2 : Int32))]) (lenOf pd_2 rfl) rfl (by show 2 * 0 + _ ≤ _; exact Nat.le_of_eq rfl) (hb hby at_22) (fun _ _ => ⟨rfl, e110, (by decide : 0 + 0 ≤ _), (by decide : 0 + 0 ≤ _)⟩)
        dsimp only [Pt.U, Pt.locs, Pt.cells, Pt.slots] at X111 l111 y111 z111 st111 hQ111
        subst l111 y111 z111
        obtain ⟨rv111, N111q, e111⟩ := hQ111
        rw [show sp3n0 = (0 : Int32) from by unfold sp3n0; rfl] at rv111
        subst rv111
        have N111 := Fr.app N110 N111q
        obtain ⟨_, _, ⟨T112, L112, k112, n112⟩, -, X112, ⟨Lc112, hQ112, l112, y112, z112⟩, st112⟩ := Jvm.LawKit.callS X111 hx (y := Y3) hown (mvT hZ (hw _ (tk 16 rfl))) (mvT hZ (hw _ (tk 17 rfl))) (mvT hZ (hw _ (tk 18 rfl))) (mvT hZ (hw _ (tk 19 rfl))) (by decide) (backOf (W := 0) (rm4 l Z a0 hw [] w_1 w_2 hS0 (2 : Int32) (0 : Int32) h0 n0 O0) hZ (hw _ (tk 19 rfl)) (hw _ (tk 18 rfl)) (by decide) (by decide)) (g := (mkF m 25 #[.val (.int p0), .val (.int p1), .val (.ref w_1), .val .null, .val (.ref w_1), .unset] [(.int (0 : Int32)), (.int (2 : Int32))])) rfl (by rw [hml]; rfl) (argsL := [(.int (2 : Int32)), (.int (0 : Int32))]) (rest := []) (lenOf pd_3 rfl) rfl (by show 2 * 0 + _ ≤ _; exact Nat.le_of_eq rfl) (hb hby at_25) (fun _ _ => ⟨rfl, e111, (by decide : 0 + 0 ≤ _), (by decide : 0 + 0 ≤ _)⟩)
        dsimp only [Pt.U, Pt.locs, Pt.cells, Pt.slots] at X112 l112 y112 z112 st112 hQ112
        subst l112 y112 z112
        obtain ⟨rv112, N112q, e112⟩ := hQ112
        rw [show sp4 (2 : Int32) (0 : Int32) = (2 : Int32) from by unfold sp4; rw [if_neg (by decide : ¬ ((2 : Int32) < (0 : Int32)))]] at rv112
        subst rv112
        have N112 := Fr.app N111 N112q
        obtain ⟨_, _, ⟨T113, L113, k113, n113⟩, -, X113, ⟨Lc113, hQ113, l113, y113, z113⟩, st113⟩ := Jvm.LawKit.callS X112 hx (y := Y2) hown (mvT hZ (hw _ (tk 13 rfl))) (mvT hZ (hw _ (tk 14 rfl))) (mvT hZ (hw _ (tk 2 rfl))) (mvT hZ (hw _ (tk 15 rfl))) (by decide) (backOf (W := 0) (rm3 l Z a0 hw [] w_1 w_2 hS0 w_1 h0 n0 O0) hZ (hw _ (tk 15 rfl)) (hw _ (tk 2 rfl)) (by decide) (by decide)) (g := (mkF m 32 #[.val (.int p0), .val (.int p1), .val (.ref w_1), .val .null, .val (.ref w_1), .val (.int (2 : Int32))] [(.ref w_1)])) rfl (by rw [hml]; rfl) (argsL := [(.ref w_1)]) (rest := []) (lenOf pd_2 rfl) rfl (by show 2 * 0 + _ ≤ _; exact Nat.le_of_eq rfl) (hb hby at_32) (fun _ _ => ⟨rfl, e112, (by decide : 0 + 0 ≤ _), (by decide : 0 + 0 ≤ _)⟩)
        dsimp only [Pt.U, Pt.locs, Pt.cells, Pt.slots] at X113 l113 y113 z113 st113 hQ113
        subst l113 y113 z113
        obtain ⟨rv113, N113q, e113⟩ := hQ113
        rw [show sp3 w_2 w_1 = (2 : Int32) from by unfold sp3; rw [if_neg (Fld.ne F_1_ordinal F_2_ordinal (by decide))]] at rv113
        subst rv113
        have N113 := Fr.app N112 N113q
        obtain ⟨fs, hr, hrun, hended, hW, hsame⟩ := X113.leave (v := some (.int (1 : Int32))) (fun h => by rw [Bd.returns] at h; cases h)
        refine ⟨_, _, pre106 _ ?_, hrun, hended, _, _, rfl, ?_, ⟨_, rfl⟩, hW, hsame.mono (by decide) (by decide)⟩
        · show Steps p.tables e below (T105.setTop (mkF m 6 #[.val (.int p0), .val (.int p1), .val (.ref w_1), .unset, .unset, .unset] [(.int p1)])) _
          refine st108 _ ?_
          show Steps p.tables e below (T108.setTop (mkF m 9 #[.val (.int p0), .val (.int p1), .val (.ref w_1), .unset, .unset, .unset] [.null])) _
          refine XS.astoreN X108.here hx rfl (hb hby at_9) rfl rfl (l' := #[.val (.int p0), .val (.int p1), .val (.ref w_1), .val .null, .unset, .unset]) rfl ?_
          show Steps p.tables e below (T108.setTop (mkF m 10 #[.val (.int p0), .val (.int p1), .val (.ref w_1), .val .null, .unset, .unset] [])) _
          refine XS.aloadN X108.here hx rfl (hb hby at_10) rfl rfl ?_
          show Steps p.tables e below (T108.setTop (mkF m 11 #[.val (.int p0), .val (.int p1), .val (.ref w_1), .val .null, .unset, .unset] [(.ref w_1)])) _
          refine XS.aloadN X108.here hx rfl (hb hby at_11) rfl rfl ?_
          show Steps p.tables e below (T108.setTop (mkF m 12 #[.val (.int p0), .val (.int p1), .val (.ref w_1), .val .null, .unset, .unset] [.null, (.ref w_1)])) _
          refine st109 _ ?_
          show Steps p.tables e below (T109.setTop (mkF m 15 #[.val (.int p0), .val (.int p1), .val (.ref w_1), .val .null, .unset, .unset] [(.ref w_1)])) _
          refine XS.astore X109.here hx rfl (hb hby at_15) rfl rfl (l' := #[.val (.int p0), .val (.int p1), .val (.ref w_1), .val .null, .val (.ref w_1), .unset]) rfl ?_
          show Steps p.tables e below (T109.setTop (mkF m 17 #[.val (.int p0), .val (.int p1), .val (.ref w_1), .val .null, .val (.ref w_1), .unset] [])) _
          refine XS.aloadN X109.here hx rfl (hb hby at_17) rfl rfl ?_
          show Steps p.tables e below (T109.setTop (mkF m 18 #[.val (.int p0), .val (.int p1), .val (.ref w_1), .val .null, .val (.ref w_1), .unset] [(.ref w_1)])) _
          refine st110 _ ?_
          show Steps p.tables e below (T110.setTop (mkF m 21 #[.val (.int p0), .val (.int p1), .val (.ref w_1), .val .null, .val (.ref w_1), .unset] [(.int (2 : Int32))])) _
          refine XS.aloadN X110.here hx rfl (hb hby at_21) rfl rfl ?_
          show Steps p.tables e below (T110.setTop (mkF m 22 #[.val (.int p0), .val (.int p1), .val (.ref w_1), .val .null, .val (.ref w_1), .unset] [.null, (.int (2 : Int32))])) _
          refine st111 _ ?_
          show Steps p.tables e below (T111.setTop (mkF m 25 #[.val (.int p0), .val (.int p1), .val (.ref w_1), .val .null, .val (.ref w_1), .unset] [(.int (0 : Int32)), (.int (2 : Int32))])) _
          refine st112 _ ?_
          show Steps p.tables e below (T112.setTop (mkF m 28 #[.val (.int p0), .val (.int p1), .val (.ref w_1), .val .null, .val (.ref w_1), .unset] [(.int (2 : Int32))])) _
          refine XS.istore X112.here hx rfl (hb hby at_28) rfl (l' := #[.val (.int p0), .val (.int p1), .val (.ref w_1), .val .null, .val (.ref w_1), .val (.int (2 : Int32))]) rfl ?_
          show Steps p.tables e below (T112.setTop (mkF m 30 #[.val (.int p0), .val (.int p1), .val (.ref w_1), .val .null, .val (.ref w_1), .val (.int (2 : Int32))] [])) _
          refine XS.aload X112.here hx rfl (hb hby at_30) rfl rfl ?_
          show Steps p.tables e below (T112.setTop (mkF m 32 #[.val (.int p0), .val (.int p1), .val (.ref w_1), .val .null, .val (.ref w_1), .val (.int (2 : Int32))] [(.ref w_1)])) _
          refine st113 _ ?_
          show Steps p.tables e below (T113.setTop (mkF m 35 #[.val (.int p0), .val (.int p1), .val (.ref w_1), .val .null, .val (.ref w_1), .val (.int (2 : Int32))] [(.int (2 : Int32))])) _
          refine XS.iload X113.here hx rfl (hb hby at_35) rfl ?_
          show Steps p.tables e below (T113.setTop (mkF m 37 #[.val (.int p0), .val (.int p1), .val (.ref w_1), .val .null, .val (.ref w_1), .val (.int (2 : Int32))] [(.int (2 : Int32)), (.int (2 : Int32))])) _
          refine XS.icmpNo X113.here hx rfl (hb hby at_37) rfl (teq (by decide : ((2 : Int32) = (2 : Int32)))).2 ?_
          show Steps p.tables e below (T113.setTop (mkF m 40 #[.val (.int p0), .val (.int p1), .val (.ref w_1), .val .null, .val (.ref w_1), .val (.int (2 : Int32))] [])) _
          refine XS.iconst X113.here hx rfl (hb hby at_40) ?_
          show Steps p.tables e below (T113.setTop (mkF m 41 #[.val (.int p0), .val (.int p1), .val (.ref w_1), .val .null, .val (.ref w_1), .val (.int (2 : Int32))] [(.int (1 : Int32))])) _
          refine XS.goto X113.here hx rfl (pc0 := 41) (pc' := 45) rfl (hb hby at_41) (by decide) (by decide) ?_
          show Steps p.tables e below (T113.setTop (mkF m 45 #[.val (.int p0), .val (.int p1), .val (.ref w_1), .val .null, .val (.ref w_1), .val (.int (2 : Int32))] [(.int (1 : Int32))])) _
          exact retN X113 hx (t := .boolean) Bd.returns (by simp) (hb hby at_45) hr
        · show Q0 Z w_1 w_2 p0 p1 h0 n0 _ T113.heap _
          rw [e113]
          exact ⟨by unfold sp0; rw [if_neg hc14, if_neg hc56, if_pos hc107], N113, rfl⟩
      · by_cases hc114 : ((p1 &&& (2147483647 : Int32)) % (3 : Int32)) = (1 : Int32)
        · obtain ⟨_, _, ⟨T115, L115, k115, n115⟩, -, X115, ⟨Lc115, hQ115, l115, y115, z115⟩, st115⟩ := Jvm.LawKit.callS X105 hx (y := Y0) hown (mvT hZ (hw _ (tk 0 rfl))) (mvT hZ (hw _ (tk 1 rfl))) (mvT hZ (hw _ (tk 2 rfl))) (mvT hZ (hw _ (tk 3 rfl))) (by decide) (backOf (W := 0) (rm1 l Z a0 hw [] w_1 w_2 hS0 p1 h0 n0 O0) hZ (hw _ (tk 3 rfl)) (hw _ (tk 2 rfl)) (by decide) (by decide)) (g := (mkF m 6 #[.val (.int p0), .val (.int p1), .val (.ref w_1), .unset, .unset, .unset] [(.int p1)])) rfl (by rw [hml]; rfl) (argsL := [(.int p1)]) (rest := []) (lenOf pd_0 rfl) rfl (by show 2 * 0 + _ ≤ _; exact Nat.le_of_eq rfl) (hb hby at_6) (fun _ _ => ⟨rfl, e105, (by decide : 0 + 0 ≤ _), (by decide : 0 + 0 ≤ _)⟩)
          dsimp only [Pt.U, Pt.locs, Pt.cells, Pt.slots] at X115 l115 y115 z115 st115 hQ115
          subst l115 y115 z115
          obtain ⟨rv115, N115q, e115⟩ := hQ115
          rw [show sp1 w_1 w_2 p1 = (.ref w_2) from by unfold sp1; rw [if_neg hc107, if_pos hc114]] at rv115
          subst rv115
          have N115 := Fr.app N105 N115q
          obtain ⟨_, _, ⟨T116, L116, k116, n116⟩, -, X116, ⟨Lc116, hQ116, l116, y116, z116⟩, st116⟩ := Jvm.LawKit.callS X115 hx (y := Y1) hown (mvT hZ (hw _ (tk 5 rfl))) (mvT hZ (hw _ (tk 6 rfl))) (mvT hZ (hw _ (tk 7 rfl))) (mvT hZ (hw _ (tk 8 rfl))) (by decide) (backOf (W := 0) (rm2 l Z a0 hw [] w_1 w_2 hS0 w_1 w_2 h0 n0 O0) hZ (hw _ (tk 8 rfl)) (hw _ (tk 7 rfl)) (by decide) (by decide)) (g := (mkF m 12 #[.val (.int p0), .val (.int p1), .val (.ref w_1), .val (.ref w_2), .unset, .unset] [(.ref w_2), (.ref w_1)])) rfl (by rw [hml]; rfl) (argsL := [(.ref w_1), (.ref w_2)]) (rest := []) (lenOf pd_1 rfl) rfl (by show 2 * 0 + _ ≤ _; exact Nat.le_of_eq rfl) (hb hby at_12) (fun _ _ => ⟨rfl, e115, (by decide : 0 + 0 ≤ _), (by decide : 0 + 0 ≤ _)⟩)
          dsimp only [Pt.U, Pt.locs, Pt.cells, Pt.slots] at X116 l116 y116 z116 st116 hQ116
          subst l116 y116 z116
          obtain ⟨rv116, N116q, e116⟩ := hQ116
          rw [show sp2 w_1 w_2 w_1 w_2 = (.ref w_1) from by unfold sp2; rw [if_pos rfl]] at rv116
          subst rv116
          have N116 := Fr.app N115 N116q
          obtain ⟨_, _, ⟨T117, L117, k117, n117⟩, -, X117, ⟨Lc117, hQ117, l117, y117, z117⟩, st117⟩ := Jvm.LawKit.callS X116 hx (y := Y2) hown (mvT hZ (hw _ (tk 13 rfl))) (mvT hZ (hw _ (tk 14 rfl))) (mvT hZ (hw _ (tk 2 rfl))) (mvT hZ (hw _ (tk 15 rfl))) (by decide) (backOf (W := 0) (rm3 l Z a0 hw [] w_1 w_2 hS0 w_1 h0 n0 O0) hZ (hw _ (tk 15 rfl)) (hw _ (tk 2 rfl)) (by decide) (by decide)) (g := (mkF m 18 #[.val (.int p0), .val (.int p1), .val (.ref w_1), .val (.ref w_2), .val (.ref w_1), .unset] [(.ref w_1)])) rfl (by rw [hml]; rfl) (argsL := [(.ref w_1)]) (rest := []) (lenOf pd_2 rfl) rfl (by show 2 * 0 + _ ≤ _; exact Nat.le_of_eq rfl) (hb hby at_18) (fun _ _ => ⟨rfl, e116, (by decide : 0 + 0 ≤ _), (by decide : 0 + 0 ≤ _)⟩)
          dsimp only [Pt.U, Pt.locs, Pt.cells, Pt.slots] at X117 l117 y117 z117 st117 hQ117
          subst l117 y117 z117
          obtain ⟨rv117, N117q, e117⟩ := hQ117
          rw [show sp3 w_2 w_1 = (2 : Int32) from by unfold sp3; rw [if_neg (Fld.ne F_1_ordinal F_2_ordinal (by decide))]] at rv117
          subst rv117
          have N117 := Fr.app N116 N117q
          obtain ⟨_, _, ⟨T118, L118, k118, n118⟩, -, X118, ⟨Lc118, hQ118, l118, y118, z118⟩, st118⟩ := Jvm.LawKit.callS X117 hx (y := Y2) hown (mvT hZ (hw _ (tk 13 rfl))) (mvT hZ (hw _ (tk 14 rfl))) (mvT hZ (hw _ (tk 2 rfl))) (mvT hZ (hw _ (tk 15 rfl))) (by decide) (backOf (W := 1) (rm3 l Z a0 hw [] w_1 w_2 hS0 w_2 h0 n0 O0) hZ (hw _ (tk 15 rfl)) (hw _ (tk 2 rfl)) (by decide) (by decide)) (g := (mkF m 22 #[.val (.int p0), .val (.int p1), .val (.ref w_1), .val (.ref w_2), .val (.ref w_1), .unset] [(.ref w_2), (.int (2 : Int32))])) rfl (by rw [hml]; rfl) (argsL := [(.ref w_2)]) (rest := [(.int (2 : Int32))]) (lenOf pd_2 rfl) rfl (by show 2 * 0 + _ ≤ _; exact Nat.le_of_eq rfl) (hb hby at_22) (fun _ _ => ⟨rfl, e117, (by decide : 0 + 0 ≤ _), (by decide : 0 + 0 ≤ _)⟩)
          dsimp only [Pt.U, Pt.locs, Pt.cells, Pt.slots] at X118 l118 y118 z118 st118 hQ118
          subst l118 y118 z118
          obtain ⟨rv118, N118q, e118⟩ := hQ118
          rw [show sp3 w_2 w_2 = (1 : Int32) from by unfold sp3; rw [if_pos rfl]] at rv118
          subst rv118
          have N118 := Fr.app N117 N118q
          obtain ⟨_, _, ⟨T119, L119, k119, n119⟩, -, X119, ⟨Lc119, hQ119, l119, y119, z119⟩, st119⟩ := Jvm.LawKit.callS X118 hx (y := Y3) hown (mvT hZ (hw _ (tk 16 rfl))) (mvT hZ (hw _ (tk 17 rfl))) (mvT hZ (hw _ (tk 18 rfl))) (mvT hZ (hw _ (tk 19 rfl))) (by decide) (backOf (W := 0) (rm4 l Z a0 hw [] w_1 w_2 hS0 (2 : Int32) (1 : Int32) h0 n0 O0) hZ (hw _ (tk 19 rfl)) (hw _ (tk 18 rfl)) (by decide) (by decide)) (g := (mkF m 25 #[.val (.int p0), .val (.int p1), .val (.ref w_1), .val (.ref w_2), .val (.ref w_1), .unset] [(.int (1 : Int32)), (.int (2 : Int32))])) rfl (by rw [hml]; rfl) (argsL := [(.int (2 : Int32)), (.int (1 : Int32))]) (rest := []) (lenOf pd_3 rfl) rfl (by show 2 * 0 + _ ≤ _; exact Nat.le_of_eq rfl) (hb hby at_25) (fun _ _ => ⟨rfl, e118, (by decide : 0 + 0 ≤ _), (by decide : 0 + 0 ≤ _)⟩)
          dsimp only [Pt.U, Pt.locs, Pt.cells, Pt.slots] at X119 l119 y119 z119 st119 hQ119
          subst l119 y119 z119
          obtain ⟨rv119, N119q, e119⟩ := hQ119
          rw [show sp4 (2 : Int32) (1 : Int32) = (2 : Int32) from by unfold sp4; rw [if_neg (by decide : ¬ ((2 : Int32) < (1 : Int32)))]] at rv119
          subst rv119
          have N119 := Fr.app N118 N119q
          obtain ⟨_, _, ⟨T120, L120, k120, n120⟩, -, X120, ⟨Lc120, hQ120, l120, y120, z120⟩, st120⟩ := Jvm.LawKit.callS X119 hx (y := Y2) hown (mvT hZ (hw _ (tk 13 rfl))) (mvT hZ (hw _ (tk 14 rfl))) (mvT hZ (hw _ (tk 2 rfl))) (mvT hZ (hw _ (tk 15 rfl))) (by decide) (backOf (W := 0) (rm3 l Z a0 hw [] w_1 w_2 hS0 w_1 h0 n0 O0) hZ (hw _ (tk 15 rfl)) (hw _ (tk 2 rfl)) (by decide) (by decide)) (g := (mkF m 32 #[.val (.int p0), .val (.int p1), .val (.ref w_1), .val (.ref w_2), .val (.ref w_1), .val (.int (2 : Int32))] [(.ref w_1)])) rfl (by rw [hml]; rfl) (argsL := [(.ref w_1)]) (rest := []) (lenOf pd_2 rfl) rfl (by show 2 * 0 + _ ≤ _; exact Nat.le_of_eq rfl) (hb hby at_32) (fun _ _ => ⟨rfl, e119, (by decide : 0 + 0 ≤ _), (by decide : 0 + 0 ≤ _)⟩)
          dsimp only [Pt.U, Pt.locs, Pt.cells, Pt.slots] at X120 l120 y120 z120 st120 hQ120
          subst l120 y120 z120
          obtain ⟨rv120, N120q, e120⟩ := hQ120
          rw [show sp3 w_2 w_1 = (2 : Int32) from by unfold sp3; rw [if_neg (Fld.ne F_1_ordinal F_2_ordinal (by decide))]] at rv120
          subst rv120
          have N120 := Fr.app N119 N120q
          obtain ⟨fs, hr, hrun, hended, hW, hsame⟩ := X120.leave (v := some (.int (1 : Int32))) (fun h => by rw [Bd.returns] at h; cases h)
          refine ⟨_, _, pre106 _ ?_, hrun, hended, _, _, rfl, ?_, ⟨_, rfl⟩, hW, hsame.mono (by decide) (by decide)⟩
          · show Steps p.tables e below (T105.setTop (mkF m 6 #[.val (.int p0), .val (.int p1), .val (.ref w_1), .unset, .unset, .unset] [(.int p1)])) _
            refine st115 _ ?_
            show Steps p.tables e below (T115.setTop (mkF m 9 #[.val (.int p0), .val (.int p1), .val (.ref w_1), .unset, .unset, .unset] [(.ref w_2)])) _
            refine XS.astoreN X115.here hx rfl (hb hby at_9) rfl rfl (l' := #[.val (.int p0), .val (.int p1), .val (.ref w_1), .val (.ref w_2), .unset, .unset]) rfl ?_
            show Steps p.tables e below (T115.setTop (mkF m 10 #[.val (.int p0), .val (.int p1), .val (.ref w_1), .val (.ref w_2), .unset, .unset] [])) _
            refine XS.aloadN X115.here hx rfl (hb hby at_10) rfl rfl ?_
            show Steps p.tables e below (T115.setTop (mkF m 11 #[.val (.int p0), .val (.int p1), .val (.ref w_1), .val (.ref w_2), .unset, .unset] [(.ref w_1)])) _
            refine XS.aloadN X115.here hx rfl (hb hby at_11) rfl rfl ?_
            show Steps p.tables e below (T115.setTop (mkF m 12 #[.val (.int p0), .val (.int p1), .val (.ref w_1), .val (.ref w_2), .unset, .unset] [(.ref w_2), (.ref w_1)])) _
            refine st116 _ ?_
            show Steps p.tables e below (T116.setTop (mkF m 15 #[.val (.int p0), .val (.int p1), .val (.ref w_1), .val (.ref w_2), .unset, .unset] [(.ref w_1)])) _
            refine XS.astore X116.here hx rfl (hb hby at_15) rfl rfl (l' := #[.val (.int p0), .val (.int p1), .val (.ref w_1), .val (.ref w_2), .val (.ref w_1), .unset]) rfl ?_
            show Steps p.tables e below (T116.setTop (mkF m 17 #[.val (.int p0), .val (.int p1), .val (.ref w_1), .val (.ref w_2), .val (.ref w_1), .unset] [])) _
            refine XS.aloadN X116.here hx rfl (hb hby at_17) rfl rfl ?_
            show Steps p.tables e below (T116.setTop (mkF m 18 #[.val (.int p0), .val (.int p1), .val (.ref w_1), .val (.ref w_2), .val (.ref w_1), .unset] [(.ref w_1)])) _
            refine st117 _ ?_
            show Steps p.tables e below (T117.setTop (mkF m 21 #[.val (.int p0), .val (.int p1), .val (.ref w_1), .val (.ref w_2), .val (.ref w_1), .unset] [(.int (2 : Int32))])) _
            refine XS.aloadN X117.here hx rfl (hb hby at_21) rfl rfl ?_
            show Steps p.tables e below (T117.setTop (mkF m 22 #[.val (.int p0), .val (.int p1), .val (.ref w_1), .val (.ref w_2), .val (.ref w_1), .unset] [(.ref w_2), (.int (2 : Int32))])) _
            refine st118 _ ?_
            show Steps p.tables e below (T118.setTop (mkF m 25 #[.val (.int p0), .val (.int p1), .val (.ref w_1), .val (.ref w_2), .val (.ref w_1), .unset] [(.int (1 : Int32)), (.int (2 : Int32))])) _
            refine st119 _ ?_
            show Steps p.tables e below (T119.setTop (mkF m 28 #[.val (.int p0), .val (.int p1), .val (.ref w_1), .val (.ref w_2), .val (.ref w_1), .unset] [(.int (2 : Int32))])) _
            refine XS.istore X119.here hx rfl (hb hby at_28) rfl (l' := #[.val (.int p0), .val (.int p1), .val (.ref w_1), .val (.ref w_2), .val (.ref w_1), .val (.int (2 : Int32))]) rfl ?_
            show Steps p.tables e below (T119.setTop (mkF m 30 #[.val (.int p0), .val (.int p1), .val (.ref w_1), .val (.ref w_2), .val (.ref w_1), .val (.int (2 : Int32))] [])) _
            refine XS.aload X119.here hx rfl (hb hby at_30) rfl rfl ?_
            show Steps p.tables e below (T119.setTop (mkF m 32 #[.val (.int p0), .val (.int p1), .val (.ref w_1), .val (.ref w_2), .val (.ref w_1), .val (.int (2 : Int32))] [(.ref w_1)])) _
            refine st120 _ ?_
            show Steps p.tables e below (T120.setTop (mkF m 35 #[.val (.int p0), .val (.int p1), .val (.ref w_1), .val (.ref w_2), .val (.ref w_1), .val (.int (2 : Int32))] [(.int (2 : Int32))])) _
            refine XS.iload X120.here hx rfl (hb hby at_35) rfl ?_
            show Steps p.tables e below (T120.setTop (mkF m 37 #[.val (.int p0), .val (.int p1), .val (.ref w_1), .val (.ref w_2), .val (.ref w_1), .val (.int (2 : Int32))] [(.int (2 : Int32)), (.int (2 : Int32))])) _
            refine XS.icmpNo X120.here hx rfl (hb hby at_37) rfl (teq (by decide : ((2 : Int32) = (2 : Int32)))).2 ?_
            show Steps p.tables e below (T120.setTop (mkF m 40 #[.val (.int p0), .val (.int p1), .val (.ref w_1), .val (.ref w_2), .val (.ref w_1), .val (.int (2 : Int32))] [])) _
            refine XS.iconst X120.here hx rfl (hb hby at_40) ?_
            show Steps p.tables e below (T120.setTop (mkF m 41 #[.val (.int p0), .val (.int p1), .val (.ref w_1), .val (.ref w_2), .val (.ref w_1), .val (.int (2 : Int32))] [(.int (1 : Int32))])) _
            refine XS.goto X120.here hx rfl (pc0 := 41) (pc' := 45) rfl (hb hby at_41) (by decide) (by decide) ?_
            show Steps p.tables e below (T120.setTop (mkF m 45 #[.val (.int p0), .val (.int p1), .val (.ref w_1), .val (.ref w_2), .val (.ref w_1), .val (.int (2 : Int32))] [(.int (1 : Int32))])) _
            exact retN X120 hx (t := .boolean) Bd.returns (by simp) (hb hby at_45) hr
          · show Q0 Z w_1 w_2 p0 p1 h0 n0 _ T120.heap _
            rw [e120]
            exact ⟨by unfold sp0; rw [if_neg hc14, if_neg hc56, if_neg hc107, if_pos hc114], N120, rfl⟩
        · obtain ⟨_, _, ⟨T121, L121, k121, n121⟩, -, X121, ⟨Lc121, hQ121, l121, y121, z121⟩, st121⟩ := Jvm.LawKit.callS X105 hx (y := Y0) hown (mvT hZ (hw _ (tk 0 rfl))) (mvT hZ (hw _ (tk 1 rfl))) (mvT hZ (hw _ (tk 2 rfl))) (mvT hZ (hw _ (tk 3 rfl))) (by decide) (backOf (W := 0) (rm1 l Z a0 hw [] w_1 w_2 hS0 p1 h0 n0 O0) hZ (hw _ (tk 3 rfl)) (hw _ (tk 2 rfl)) (by decide) (by decide)) (g := (mkF m 6 #[.val (.int p0), .val (.int p1), .val (.ref w_1), .unset, .unset, .unset] [(.int p1)])) rfl (by rw [hml]; rfl) (argsL := [(.int p1)]) (rest := []) (lenOf pd_0 rfl) rfl (by show 2 * 0 + _ ≤ _; exact Nat.le_of_eq rfl) (hb hby at_6) (fun _ _ => ⟨rfl, e105, (by decide : 0 + 0 ≤ _), (by decide : 0 + 0 ≤ _)⟩)
          dsimp only [Pt.U, Pt.locs, Pt.cells, Pt.slots] at X121 l121 y121 z121 st121 hQ121
          subst l121 y121 z121
          obtain ⟨rv121, N121q, e121⟩ := hQ121
          rw [show sp1 w_1 w_2 p1 = (.ref w_1) from by unfold sp1; rw [if_neg hc107, if_neg hc114]] at rv121
          subst rv121
          have N121 := Fr.app N105 N121q
          obtain ⟨_, _, ⟨T122, L122, k122, n122⟩, -, X122, ⟨Lc122, hQ122, l122, y122, z122⟩, st122⟩ := Jvm.LawKit.callS X121 hx (y := Y1) hown (mvT hZ (hw _ (tk 5 rfl))) (mvT hZ (hw _ (tk 6 rfl))) (mvT hZ (hw _ (tk 7 rfl))) (mvT hZ (hw _ (tk 8 rfl))) (by decide) (backOf (W := 0) (rm2 l Z a0 hw [] w_1 w_2 hS0 w_1 w_1 h0 n0 O0) hZ (hw _ (tk 8 rfl)) (hw _ (tk 7 rfl)) (by decide) (by decide)) (g := (mkF m 12 #[.val (.int p0), .val (.int p1), .val (.ref w_1), .val (.ref w_1), .unset, .unset] [(.ref w_1), (.ref w_1)])) rfl (by rw [hml]; rfl) (argsL := [(.ref w_1), (.ref w_1)]) (rest := []) (lenOf pd_1 rfl) rfl (by show 2 * 0 + _ ≤ _; exact Nat.le_of_eq rfl) (hb hby at_12) (fun _ _ => ⟨rfl, e121, (by decide : 0 + 0 ≤ _), (by decide : 0 + 0 ≤ _)⟩)
          dsimp only [Pt.U, Pt.locs, Pt.cells, Pt.slots] at X122 l122 y122 z122 st122 hQ122
          subst l122 y122 z122
          obtain ⟨rv122, N122q, e122⟩ := hQ122
          rw [show sp2 w_1 w_2 w_1 w_1 = (.ref w_1) from by unfold sp2; rw [if_pos rfl]] at rv122
          subst rv122
          have N122 := Fr.app N121 N122q
          obtain ⟨_, _, ⟨T123, L123, k123, n123⟩, -, X123, ⟨Lc123, hQ123, l123, y123, z123⟩, st123⟩ := Jvm.LawKit.callS X122 hx (y := Y2) hown (mvT hZ (hw _ (tk 13 rfl))) (mvT hZ (hw _ (tk 14 rfl))) (mvT hZ (hw _ (tk 2 rfl))) (mvT hZ (hw _ (tk 15 rfl))) (by decide) (backOf (W := 0) (rm3 l Z a0 hw [] w_1 w_2 hS0 w_1 h0 n0 O0) hZ (hw _ (tk 15 rfl)) (hw _ (tk 2 rfl)) (by decide) (by decide)) (g := (mkF m 18 #[.val (.int p0), .val (.int p1), .val (.ref w_1), .val (.ref w_1), .val (.ref w_1), .unset] [(.ref w_1)])) rfl (by rw [hml]; rfl) (argsL := [(.ref w_1)]) (rest := []) (lenOf pd_2 rfl) rfl (by show 2 * 0 + _ ≤ _; exact Nat.le_of_eq rfl) (hb hby at_18) (fun _ _ => ⟨rfl, e122, (by decide : 0 + 0 ≤ _), (by decide : 0 + 0 ≤ _)⟩)
          dsimp only [Pt.U, Pt.locs, Pt.cells, Pt.slots] at X123 l123 y123 z123 st123 hQ123
          subst l123 y123 z123
          obtain ⟨rv123, N123q, e123⟩ := hQ123
          rw [show sp3 w_2 w_1 = (2 : Int32) from by unfold sp3; rw [if_neg (Fld.ne F_1_ordinal F_2_ordinal (by decide))]] at rv123
          subst rv123
          have N123 := Fr.app N122 N123q
          obtain ⟨_, _, ⟨T124, L124, k124, n124⟩, -, X124, ⟨Lc124, hQ124, l124, y124, z124⟩, st124⟩ := Jvm.LawKit.callS X123 hx (y := Y2) hown (mvT hZ (hw _ (tk 13 rfl))) (mvT hZ (hw _ (tk 14 rfl))) (mvT hZ (hw _ (tk 2 rfl))) (mvT hZ (hw _ (tk 15 rfl))) (by decide) (backOf (W := 1) (rm3 l Z a0 hw [] w_1 w_2 hS0 w_1 h0 n0 O0) hZ (hw _ (tk 15 rfl)) (hw _ (tk 2 rfl)) (by decide) (by decide)) (g := (mkF m 22 #[.val (.int p0), .val (.int p1), .val (.ref w_1), .val (.ref w_1), .val (.ref w_1), .unset] [(.ref w_1), (.int (2 : Int32))])) rfl (by rw [hml]; rfl) (argsL := [(.ref w_1)]) (rest := [(.int (2 : Int32))]) (lenOf pd_2 rfl) rfl (by show 2 * 0 + _ ≤ _; exact Nat.le_of_eq rfl) (hb hby at_22) (fun _ _ => ⟨rfl, e123, (by decide : 0 + 0 ≤ _), (by decide : 0 + 0 ≤ _)⟩)
          dsimp only [Pt.U, Pt.locs, Pt.cells, Pt.slots] at X124 l124 y124 z124 st124 hQ124
          subst l124 y124 z124
          obtain ⟨rv124, N124q, e124⟩ := hQ124
          rw [show sp3 w_2 w_1 = (2 : Int32) from by unfold sp3; rw [if_neg (Fld.ne F_1_ordinal F_2_ordinal (by decide))]] at rv124
          subst rv124
          have N124 := Fr.app N123 N124q
          obtain ⟨_, _, ⟨T125, L125, k125, n125⟩, -, X125, ⟨Lc125, hQ125, l125, y125, z125⟩, st125⟩ := Jvm.LawKit.callS X124 hx (y := Y3) hown (mvT hZ (hw _ (tk 16 rfl))) (mvT hZ (hw _ (tk 17 rfl))) (mvT hZ (hw _ (tk 18 rfl))) (mvT hZ (hw _ (tk 19 rfl))) (by decide) (backOf (W := 0) (rm4 l Z a0 hw [] w_1 w_2 hS0 (2 : Int32) (2 : Int32) h0 n0 O0) hZ (hw _ (tk 19 rfl)) (hw _ (tk 18 rfl)) (by decide) (by decide)) (g := (mkF m 25 #[.val (.int p0), .val (.int p1), .val (.ref w_1), .val (.ref w_1), .val (.ref w_1), .unset] [(.int (2 : Int32)), (.int (2 : Int32))])) rfl (by rw [hml]; rfl) (argsL := [(.int (2 : Int32)), (.int (2 : Int32))]) (rest := []) (lenOf pd_3 rfl) rfl (by show 2 * 0 + _ ≤ _; exact Nat.le_of_eq rfl) (hb hby at_25) (fun _ _ => ⟨rfl, e124, (by decide : 0 + 0 ≤ _), (by decide : 0 + 0 ≤ _)⟩)
          dsimp only [Pt.U, Pt.locs, Pt.cells, Pt.slots] at X125 l125 y125 z125 st125 hQ125
          subst l125 y125 z125
          obtain ⟨rv125, N125q, e125⟩ := hQ125
          rw [show sp4 (2 : Int32) (2 : Int32) = (2 : Int32) from by unfold sp4; rw [if_neg (by decide : ¬ ((2 : Int32) < (2 : Int32)))]] at rv125
          subst rv125
          have N125 := Fr.app N124 N125q
          obtain ⟨_, _, ⟨T126, L126, k126, n126⟩, -, X126, ⟨Lc126, hQ126, l126, y126, z126⟩, st126⟩ := Jvm.LawKit.callS X125 hx (y := Y2) hown (mvT hZ (hw _ (tk 13 rfl))) (mvT hZ (hw _ (tk 14 rfl))) (mvT hZ (hw _ (tk 2 rfl))) (mvT hZ (hw _ (tk 15 rfl))) (by decide) (backOf (W := 0) (rm3 l Z a0 hw [] w_1 w_2 hS0 w_1 h0 n0 O0) hZ (hw _ (tk 15 rfl)) (hw _ (tk 2 rfl)) (by decide) (by decide)) (g := (mkF m 32 #[.val (.int p0), .val (.int p1), .val (.ref w_1), .val (.ref w_1), .val (.ref w_1), .val (.int (2 : Int32))] [(.ref w_1)])) rfl (by rw [hml]; rfl) (argsL := [(.ref w_1)]) (rest := []) (lenOf pd_2 rfl) rfl (by show 2 * 0 + _ ≤ _; exact Nat.le_of_eq rfl) (hb hby at_32) (fun _ _ => ⟨rfl, e125, (by decide : 0 + 0 ≤ _), (by decide : 0 + 0 ≤ _)⟩)
          dsimp only [Pt.U, Pt.locs, Pt.cells, Pt.slots] at X126 l126 y126 z126 st126 hQ126
          subst l126 y126 z126
          obtain ⟨rv126, N126q, e126⟩ := hQ126
          rw [show sp3 w_2 w_1 = (2 : Int32) from by unfold sp3; rw [if_neg (Fld.ne F_1_ordinal F_2_ordinal (by decide))]] at rv126
          subst rv126
          have N126 := Fr.app N125 N126q
          obtain ⟨fs, hr, hrun, hended, hW, hsame⟩ := X126.leave (v := some (.int (1 : Int32))) (fun h => by rw [Bd.returns] at h; cases h)
          refine ⟨_, _, pre106 _ ?_, hrun, hended, _, _, rfl, ?_, ⟨_, rfl⟩, hW, hsame.mono (by decide) (by decide)⟩
          · show Steps p.tables e below (T105.setTop (mkF m 6 #[.val (.int p0), .val (.int p1), .val (.ref w_1), .unset, .unset, .unset] [(.int p1)])) _
            refine st121 _ ?_
            show Steps p.tables e below (T121.setTop (mkF m 9 #[.val (.int p0), .val (.int p1), .val (.ref w_1), .unset, .unset, .unset] [(.ref w_1)])) _
            refine XS.astoreN X121.here hx rfl (hb hby at_9) rfl rfl (l' := #[.val (.int p0), .val (.int p1), .val (.ref w_1), .val (.ref w_1), .unset, .unset]) rfl ?_
            show Steps p.tables e below (T121.setTop (mkF m 10 #[.val (.int p0), .val (.int p1), .val (.ref w_1), .val (.ref w_1), .unset, .unset] [])) _
            refine XS.aloadN X121.here hx rfl (hb hby at_10) rfl rfl ?_
            show Steps p.tables e below (T121.setTop (mkF m 11 #[.val (.int p0), .val (.int p1), .val (.ref w_1), .val (.ref w_1), .unset, .unset] [(.ref w_1)])) _
            refine XS.aloadN X121.here hx rfl (hb hby at_11) rfl rfl ?_
            show Steps p.tables e below (T121.setTop (mkF m 12 #[.val (.int p0), .val (.int p1), .val (.ref w_1), .val (.ref w_1), .unset, .unset] [(.ref w_1), (.ref w_1)])) _
            refine st122 _ ?_
            show Steps p.tables e below (T122.setTop (mkF m 15 #[.val (.int p0), .val (.int p1), .val (.ref w_1), .val (.ref w_1), .unset, .unset] [(.ref w_1)])) _
            refine XS.astore X122.here hx rfl (hb hby at_15) rfl rfl (l' := #[.val (.int p0), .val (.int p1), .val (.ref w_1), .val (.ref w_1), .val (.ref w_1), .unset]) rfl ?_
            show Steps p.tables e below (T122.setTop (mkF m 17 #[.val (.int p0), .val (.int p1), .val (.ref w_1), .val (.ref w_1), .val (.ref w_1), .unset] [])) _
            refine XS.aloadN X122.here hx rfl (hb hby at_17) rfl rfl ?_
            show Steps p.tables e below (T122.setTop (mkF m 18 #[.val (.int p0), .val (.int p1), .val (.ref w_1), .val (.ref w_1), .val (.ref w_1), .unset] [(.ref w_1)])) _
            refine st123 _ ?_
            show Steps p.tables e below (T123.setTop (mkF m 21 #[.val (.int p0), .val (.int p1), .val (.ref w_1), .val (.ref w_1), .val (.ref w_1), .unset] [(.int (2 : Int32))])) _
            refine XS.aloadN X123.here hx rfl (hb hby at_21) rfl rfl ?_
            show Steps p.tables e below (T123.setTop (mkF m 22 #[.val (.int p0), .val (.int p1), .val (.ref w_1), .val (.ref w_1), .val (.ref w_1), .unset] [(.ref w_1), (.int (2 : Int32))])) _
            refine st124 _ ?_
            show Steps p.tables e below (T124.setTop (mkF m 25 #[.val (.int p0), .val (.int p1), .val (.ref w_1), .val (.ref w_1), .val (.ref w_1), .unset] [(.int (2 : Int32)), (.int (2 : Int32))])) _
            refine st125 _ ?_
            show Steps p.tables e below (T125.setTop (mkF m 28 #[.val (.int p0), .val (.int p1), .val (.ref w_1), .val (.ref w_1), .val (.ref w_1), .unset] [(.int (2 : Int32))])) _
            refine XS.istore X125.here hx rfl (hb hby at_28) rfl (l' := #[.val (.int p0), .val (.int p1), .val (.ref w_1), .val (.ref w_1), .val (.ref w_1), .val (.int (2 : Int32))]) rfl ?_
            show Steps p.tables e below (T125.setTop (mkF m 30 #[.val (.int p0), .val (.int p1), .val (.ref w_1), .val (.ref w_1), .val (.ref w_1), .val (.int (2 : Int32))] [])) _
            refine XS.aload X125.here hx rfl (hb hby at_30) rfl rfl ?_
            show Steps p.tables e below (T125.setTop (mkF m 32 #[.val (.int p0), .val (.int p1), .val (.ref w_1), .val (.ref w_1), .val (.ref w_1), .val (.int (2 : Int32))] [(.ref w_1)])) _
            refine st126 _ ?_
            show Steps p.tables e below (T126.setTop (mkF m 35 #[.val (.int p0), .val (.int p1), .val (.ref w_1), .val (.ref w_1), .val (.ref w_1), .val (.int (2 : Int32))] [(.int (2 : Int32))])) _
            refine XS.iload X126.here hx rfl (hb hby at_35) rfl ?_
            show Steps p.tables e below (T126.setTop (mkF m 37 #[.val (.int p0), .val (.int p1), .val (.ref w_1), .val (.ref w_1), .val (.ref w_1), .val (.int (2 : Int32))] [(.int (2 : Int32)), (.int (2 : Int32))])) _
            refine XS.icmpNo X126.here hx rfl (hb hby at_37) rfl (teq (by decide : ((2 : Int32) = (2 : Int32)))).2 ?_
            show Steps p.tables e below (T126.setTop (mkF m 40 #[.val (.int p0), .val (.int p1), .val (.ref w_1), .val (.ref w_1), .val (.ref w_1), .val (.int (2 : Int32))] [])) _
            refine XS.iconst X126.here hx rfl (hb hby at_40) ?_
            show Steps p.tables e below (T126.setTop (mkF m 41 #[.val (.int p0), .val (.int p1), .val (.ref w_1), .val (.ref w_1), .val (.ref w_1), .val (.int (2 : Int32))] [(.int (1 : Int32))])) _
            refine XS.goto X126.here hx rfl (pc0 := 41) (pc' := 45) rfl (hb hby at_41) (by decide) (by decide) ?_
            show Steps p.tables e below (T126.setTop (mkF m 45 #[.val (.int p0), .val (.int p1), .val (.ref w_1), .val (.ref w_1), .val (.ref w_1), .val (.int (2 : Int32))] [(.int (1 : Int32))])) _
            exact retN X126 hx (t := .boolean) Bd.returns (by simp) (hb hby at_45) hr
          · show Q0 Z w_1 w_2 p0 p1 h0 n0 _ T126.heap _
            rw [e126]
            exact ⟨by unfold sp0; rw [if_neg hc14, if_neg hc56, if_neg hc107, if_neg hc114], N126, rfl⟩

theorem own_plain (p0 : Int32) (p1 : Int32) : sp0 p0 p1 = (1 : Int32) := by
  unfold sp0
  repeat' split
  all_goals rfl
set_option maxRecDepth 65536 in
set_option maxHeartbeats 40000000 in
theorem comes_1 {Post : Tables → Env → Array Value → State → Outcome → State → Prop} (hpost : ∀ tb e args s v u, (limb_1_1.after args s (.returned v) u = true ∧ limb_1_2.after args s (.returned v) u = true ∧ True) → FrameEnd s (.returned v) u (Jvm.fieldLocs frame_1_writes args s ++ Jvm.arrayLocs frame_1_arrays args s ++ Jvm.staticLocs frame_1_statics s) 0 0 → Post tb e args s (.returned v) u) :
    ArmFor flags0 classFile x code maxLocals ret World_1 tables_1 room_1 Calls_1 rest_1 Pre_1 Post := by
  intro l hfl _ _ p e ha hc hk s m args below hf hA hF happ hP
  obtain ⟨hcalls, hrest, hpre⟩ := hP
  obtain ⟨-, -, -, hnamed, -, -, -, hat⟩ := (Spec.applies_iff hf).mp happ
  obtain ⟨hg, hn⟩ := and_e (Cond.before_iff.mp (show (Jvm.Cond.and given_1 narrow_1).before args s = true from hpre))
  obtain ⟨g127, g128⟩ := and_e hg
  obtain ⟨g129, g130⟩ := and_e g128
  obtain ⟨w0, w1, rfl⟩ : ∃ w0 w1 : Value, args = #[w0, w1] := by
    have hs : args.size = 2 := by simpa [Cond.value, given_1] using g127
    obtain ⟨L⟩ := args
    match L, hs with
    | [w0, w1], _ => exact ⟨w0, w1, rfl⟩
  have hw := fun d (hd : d ∈ tables_1) => atoms_spec (ws := Jvm.Cond.code x code maxLocals ret :: tables_1) hat d (List.mem_cons_of_mem _ hd)
  have hfit : Fit s := fun {y c} hc i hi => by
    obtain ⟨ha, rfl⟩ := Array.getElem?_eq_some_iff.mp hc
    have q := List.all_eq_true.mp ((Array.all_eq_true_iff_forall_mem.mp hF) _ (Array.getElem_mem ha)) i (List.mem_range.mpr hi)
    simpa [Array.getElem?_eq_getElem hi] using q
  obtain ⟨i0, ei0⟩ := is_v g129
  obtain rfl : w0 = (.int i0) := Option.some.inj ei0
  obtain ⟨i1, ei1⟩ := is_v g130
  obtain rfl : w1 = (.int i1) := Option.some.inj ei1
  obtain ⟨n1, n2⟩ := and_e hn
  obtain ⟨n3, n4⟩ := and_e n2
  obtain ⟨n5, n6⟩ := and_e n4
  obtain ⟨w_1, ew_1⟩ := exa_v n1
  have S_1 : Sta s s.heap "com/example/vetd/vetd/Decision" "DENY" "Lcom/example/vetd/vetd/Decision;" (.ref w_1) := Sta.start ew_1 (Or.inr ⟨(hw _ (tk 7 rfl)), (hw _ (tk 10 rfl))⟩)
  have E_1 : Exa s s.heap w_1 "com/example/vetd/vetd/Decision" := Exa.start ew_1 n1
  obtain ⟨w_2, ew_2⟩ := exa_v n3
  have S_2 : Sta s s.heap "com/example/vetd/vetd/Decision" "PERMIT" "Lcom/example/vetd/vetd/Decision;" (.ref w_2) := Sta.start ew_2 (Or.inr ⟨(hw _ (tk 7 rfl)), (hw _ (tk 12 rfl))⟩)
  have E_2 : Exa s s.heap w_2 "com/example/vetd/vetd/Decision" := Exa.start ew_2 n3
  have F_1_ordinal : Fld s s.heap w_1 "java/lang/Enum" "ordinal" "I" (.int (1 : Int32)) := own_fld ew_1 n5
  have F_2_ordinal : Fld s s.heap w_2 "java/lang/Enum" "ordinal" "I" (.int (0 : Int32)) := own_fld ew_2 n6
  have hS : StF s w_1 w_2 := ⟨S_1, E_1, S_2, E_2, F_1_ordinal, F_2_ordinal⟩
  obtain ⟨n, o, h1, h2, h3, _, L, rfl, ⟨hv, N, -⟩, hq⟩ := rm0 l s _ hw tables_1 w_1 w_2 hS i0 i1 s.heap s.heap.size (Old.start s) p e ha hc hk s m _ below hf ((Spec.applies_iff_loose hf).mp happ).1 ⟨rfl, State.Warmed39.refl s, rfl⟩ trivial
  rw [own_plain i0 i1] at hv
  subst hv
  refine ⟨n, _, h1, h2, h3, hpost _ _ _ _ _ _ ⟨Cond.after_iff.mpr rfl, Cond.after_iff.mpr (eq_i res_at (Term.int_eval (1)) rfl), trivial⟩ ⟨hq.1, hq.2.1, (hq.2.2.sift fun y hy => Or.inr (N y hy)).mono (by decide) (by decide)⟩⟩
theorem main_1_1 : Claimed_1_1 := comes_1 fun _ _ _ _ _ _ h hF => ⟨h.1, hF⟩
theorem main_1_2 : Claimed_1_2 := comes_1 fun _ _ _ _ _ _ h hF => ⟨h.2.1, hF⟩
end Jvm.Pilot.@@N@@
namespace Jvm.Pilot.@@N@@
open Jvm Jvm.ClassFile Sem Op Lib Jvm.Free Jvm.Stand Jvm.Pilot.@@N@@.Jvm.D
/-! MADE BY PROGRAM (witnessworld.py) out of the Statement's table words and the real class files: 13 classes; the members and pool entries that the words name. The judged class is class 1, her method 3. -/
namespace start1
open Jvm.ClassFile
def u (s : String) : CpInfo := .utf8 (stringToUtf16 s)
/-- a pool by its gaps: so many unusable entries, then the entry; so many at the end -/
def gap : Nat → List CpInfo → List CpInfo
  | 0, r => r
  | n + 1, r => .unusable :: gap n r
def poolList (es : List (Nat × CpInfo)) (last : Nat) : List CpInfo := es.foldr (fun e r => gap e.1 (e.2 :: r)) (gap last [])
def pool (es : List (Nat × CpInfo)) (last : Nat) : Array CpInfo := ⟨poolList es last⟩
def fileOf (pool : Array CpInfo) (this : Nat) (attrs : Array Attribute := #[]) (ms : Array MethodInfo := #[]) (fl : Nat := 33) (sup : Nat := 0) (ifs : Array Nat := #[]) (fds : Array FieldInfo := #[]) : ClassFile where
  minorVersion := 0
  majorVersion := 65
  constantPool := pool
  accessFlags := fl
  thisClass := this
  superClass := sup
  interfaces := ifs
  fields := fds
  methods := ms
  attributes := attrs
def plain (name : String) (sup : Option ClassId) : Class where
  name := name
  kind := .ordinary
  loader := none
  accessFlags := 33
  super := sup
  interfaces := #[]
  cf := none
  fields := #[]
  methods := #[]
  instanceTypes := #[]
  staticTypes := #[]
  resolved := #[]
  callSites := []
  init := .initialized
  statics := none
  mirror := none

def pool0 : Array CpInfo := pool [(5, u "<init>"), (0, u "()V"), (1, .class_ 10), (1, u "java/lang/Object")] 113

def k0m0 : Method := { name := "<init>", desc := "()V", sig := { parameters := [], returnType := none }, accessFlags := 1, code := none }
/-- java/lang/Object -/
def k0 : Class := { plain "java/lang/Object" none with
  accessFlags := 33
  interfaces := #[]
  cf := some (fileOf pool0 8 #[] #[{ accessFlags := 1, nameIndex := 5, descriptorIndex := 6, attributes := #[] }] 33 0 #[] #[])
  fields := #[]
  methods := #[k0m0]
  instanceTypes := #[]
  staticTypes := #[]
  resolved := Array.replicate 124 none
  statics := none }

def pool1 : Array CpInfo := pool [(2, .class_ 4), (1, u "java/lang/Object"), (0, u "<init>"), (0, u "()V"), (0, .integer 2147483647), (0, .fieldref 9 10), (0, .class_ 11), (0, .nameAndType 12 13), (0, u "com/example/vetd/vetd/Decision"), (0, u "PERMIT"), (0, u "Lcom/example/vetd/vetd/Decision;"), (0, .fieldref 9 15), (0, .nameAndType 16 13), (0, u "DENY"), (0, .methodref 18 19), (0, .class_ 20), (0, .nameAndType 21 22), (0, u "com/example/vetd/vetd/DecisionDenyOverPermitPinLaw"), (0, u "pick"), (0, u "(I)Lcom/example/vetd/vetd/Decision;"), (0, .methodref 9 24), (0, .nameAndType 25 26), (0, u "denyOverPermit"), (0, u "(Lcom/example/vetd/vetd/Decision;Lcom/example/vetd/vetd/Decision;)Lcom/example/vetd/vetd/Decision;"), (0, .methodref 18 28), (0, .nameAndType 29 30), (0, u "rank"), (0, u "(Lcom/example/vetd/vetd/Decision;)I"), (0, .methodref 32 33), (0, .class_ 34), (0, .nameAndType 35 36), (0, u "java/lang/Math"), (0, u "max"), (0, u "(II)I"), (3, u "law"), (0, u "(II)Z")] 2

def k1m0 : Method := { name := "<init>", desc := "()V", sig := { parameters := [], returnType := none }, accessFlags := 2, code := none }
def k1c1 : Code := { maxStack := 2, maxLocals := 2, code := method_2_code, exceptionTable := #[], attributes := #[] }
def k1m1 : Method := { name := "pick", desc := "(I)Lcom/example/vetd/vetd/Decision;", sig := { parameters := [.int], returnType := some (.object "com/example/vetd/vetd/Decision") }, accessFlags := 10, code := some k1c1 }
def k1c2 : Code := { maxStack := 2, maxLocals := 1, code := method_3_code, exceptionTable := #[], attributes := #[] }
def k1m2 : Method := { name := "rank", desc := "(Lcom/example/vetd/vetd/Decision;)I", sig := { parameters := [(.object "com/example/vetd/vetd/Decision")], returnType := some .int }, accessFlags := 10, code := some k1c2 }
def k1c3 : Code := { maxStack := 2, maxLocals := 6, code := code, exceptionTable := #[], attributes := #[] }
def k1m3 : Method := { name := "law", desc := "(II)Z", sig := { parameters := [.int, .int], returnType := some .boolean }, accessFlags := 9, code := some k1c3 }
/-- com/example/vetd/vetd/DecisionDenyOverPermitPinLaw -/
def k1 : Class := { plain "com/example/vetd/vetd/DecisionDenyOverPermitPinLaw" (some 0) with
  accessFlags := 49
  interfaces := #[]
  cf := some (fileOf pool1 18 #[] #[{ accessFlags := 2, nameIndex := 5, descriptorIndex := 6, attributes := #[] }, { accessFlags := 10, nameIndex := 21, descriptorIndex := 22, attributes := #[] }, { accessFlags := 10, nameIndex := 29, descriptorIndex := 30, attributes := #[] }, { accessFlags := 9, nameIndex := 40, descriptorIndex := 41, attributes := #[] }] 49 2 #[] #[])
  fields := #[]
  methods := #[k1m0, k1m1, k1m2, k1m3]
  instanceTypes := #[]
  staticTypes := #[]
  resolved := Array.replicate 44 none
  statics := none }

def pool2 : Array CpInfo := pool [(1, .class_ 2), (0, u "java/lang/constant/Constable"), (0, .class_ 4), (0, u "java/lang/Object")] 6

/-- java/lang/constant/Constable -/
def k2 : Class := { plain "java/lang/constant/Constable" (some 0) with
  accessFlags := 1537
  interfaces := #[]
  cf := some (fileOf pool2 1 #[] #[] 1537 3 #[] #[])
  fields := #[]
  methods := #[]
  instanceTypes := #[]
  staticTypes := #[]
  resolved := Array.replicate 11 none
  statics := none }

def pool3 : Array CpInfo := pool [(1, .class_ 2), (0, u "java/lang/Comparable"), (0, .class_ 4), (0, u "java/lang/Object")] 7

/-- java/lang/Comparable -/
def k3 : Class := { plain "java/lang/Comparable" (some 0) with
  accessFlags := 1537
  interfaces := #[]
  cf := some (fileOf pool3 1 #[] #[] 1537 3 #[] #[])
  fields := #[]
  methods := #[]
  instanceTypes := #[]
  staticTypes := #[]
  resolved := Array.replicate 12 none
  statics := none }

def pool4 : Array CpInfo := pool [(1, .class_ 2), (0, u "java/io/Serializable"), (0, .class_ 4), (0, u "java/lang/Object")] 2

/-- java/io/Serializable -/
def k4 : Class := { plain "java/io/Serializable" (some 0) with
  accessFlags := 1537
  interfaces := #[]
  cf := some (fileOf pool4 1 #[] #[] 1537 3 #[] #[])
  fields := #[]
  methods := #[]
  instanceTypes := #[]
  staticTypes := #[]
  resolved := Array.replicate 7 none
  statics := none }

def pool5 : Array CpInfo := pool [(2, .class_ 4), (1, u "java/lang/Enum"), (0, u "name"), (0, u "Ljava/lang/String;"), (2, u "ordinal"), (0, u "I"), (1, .class_ 14), (1, u "java/lang/Object"), (4, u "hash"), (86, .class_ 108), (1, u "java/lang/Enum$EnumDesc"), (2, .class_ 112), (0, u "java/lang/constant/Constable"), (0, .class_ 114), (0, u "java/lang/Comparable"), (0, .class_ 116), (0, u "java/io/Serializable")] 87

/-- java/lang/Enum -/
def k5 : Class := { plain "java/lang/Enum" (some 0) with
  accessFlags := 1057
  interfaces := #[2, 3, 4]
  cf := some (fileOf pool5 2 #[.nestMembers #[106]] #[] 1057 12 #[111, 113, 115] #[{ accessFlags := 18, nameIndex := 5, descriptorIndex := 6, attributes := #[] }, { accessFlags := 18, nameIndex := 9, descriptorIndex := 10, attributes := #[] }, { accessFlags := 2, nameIndex := 19, descriptorIndex := 10, attributes := #[] }])
  fields := #[{ name := "name", type := (.object "java/lang/String"), accessFlags := 18, slot := 0, constantValue := 0 }, { name := "ordinal", type := .int, accessFlags := 18, slot := 1, constantValue := 0 }, { name := "hash", type := .int, accessFlags := 2, slot := 2, constantValue := 0 }]
  methods := #[]
  instanceTypes := #[(.object "java/lang/String"), .int, .int]
  staticTypes := #[]
  resolved := Array.replicate 204 none
  statics := none }

def pool6 : Array CpInfo := pool [(1, .class_ 2), (0, u "com/example/vetd/vetd/Decision"), (0, .fieldref 1 4), (0, .nameAndType 5 6), (0, u "PERMIT"), (0, u "Lcom/example/vetd/vetd/Decision;"), (0, .fieldref 1 8), (0, .nameAndType 9 6), (0, u "DENY"), (2, u "$VALUES"), (0, u "[Lcom/example/vetd/vetd/Decision;"), (6, .class_ 22), (1, u "java/lang/Enum"), (37, u "denyOverPermit"), (0, u "(Lcom/example/vetd/vetd/Decision;Lcom/example/vetd/vetd/Decision;)Lcom/example/vetd/vetd/Decision;")] 5

def k6c0 : Code := { maxStack := 2, maxLocals := 3, code := prog_4_method_5_code, exceptionTable := #[], attributes := #[] }
def k6m0 : Method := { name := "denyOverPermit", desc := "(Lcom/example/vetd/vetd/Decision;Lcom/example/vetd/vetd/Decision;)Lcom/example/vetd/vetd/Decision;", sig := { parameters := [(.object "com/example/vetd/vetd/Decision"), (.object "com/example/vetd/vetd/Decision")], returnType := some (.object "com/example/vetd/vetd/Decision") }, accessFlags := 8, code := some k6c0 }
/-- com/example/vetd/vetd/Decision -/
def k6 : Class := { plain "com/example/vetd/vetd/Decision" (some 5) with
  accessFlags := 16433
  interfaces := #[]
  cf := some (fileOf pool6 1 #[] #[{ accessFlags := 8, nameIndex := 60, descriptorIndex := 61, attributes := #[] }] 16433 20 #[] #[{ accessFlags := 16409, nameIndex := 5, descriptorIndex := 6, attributes := #[] }, { accessFlags := 16409, nameIndex := 9, descriptorIndex := 6, attributes := #[] }, { accessFlags := 4122, nameIndex := 12, descriptorIndex := 13, attributes := #[] }])
  fields := #[{ name := "PERMIT", type := (.object "com/example/vetd/vetd/Decision"), accessFlags := 16409, slot := 0, constantValue := 0 }, { name := "DENY", type := (.object "com/example/vetd/vetd/Decision"), accessFlags := 16409, slot := 1, constantValue := 0 }, { name := "$VALUES", type := (.array (.object "com/example/vetd/vetd/Decision")), accessFlags := 4122, slot := 2, constantValue := 0 }]
  methods := #[k6m0]
  instanceTypes := #[(.object "java/lang/String"), .int, .int]
  staticTypes := #[(.object "com/example/vetd/vetd/Decision"), (.object "com/example/vetd/vetd/Decision"), (.array (.object "com/example/vetd/vetd/Decision"))]
  resolved := Array.replicate 67 none
  statics := some 0 }

def pool7 : Array CpInfo := pool [(1, .class_ 2), (0, u "java/lang/Math"), (1, .class_ 6), (1, u "java/lang/Object"), (0, u "<init>"), (0, u "()V"), (89, .class_ 100), (1, u "java/lang/Math$RandomNumberGeneratorHolder"), (71, u "negativeZeroFloatBits"), (0, u "J"), (2, u "negativeZeroDoubleBits"), (21, u "max"), (46, u "$assertionsDisabled"), (0, u "Z"), (88, u "(II)I"), (2, u "twoToTheDoubleScaleDown"), (0, u "D"), (4, u "twoToTheDoubleScaleUp"), (9, u "E"), (3, u "PI"), (2, u "TAU"), (2, u "DEGREES_TO_RADIANS"), (0, u "RADIANS_TO_DEGREES")] 94

def k7m0 : Method := { name := "<init>", desc := "()V", sig := { parameters := [], returnType := none }, accessFlags := 2, code := none }
def k7c1 : Code := { maxStack := 2, maxLocals := 2, code := jdk_29_method_65_code, exceptionTable := #[], attributes := #[] }
def k7m1 : Method := { name := "max", desc := "(II)I", sig := { parameters := [.int, .int], returnType := some .int }, accessFlags := 9, code := some k7c1 }
/-- java/lang/Math -/
def k7 : Class := { plain "java/lang/Math" (some 0) with
  accessFlags := 49
  interfaces := #[]
  cf := some (fileOf pool7 1 #[.nestMembers #[98]] #[{ accessFlags := 2, nameIndex := 7, descriptorIndex := 8, attributes := #[] }, { accessFlags := 9, nameIndex := 198, descriptorIndex := 335, attributes := #[] }] 49 4 #[] #[{ accessFlags := 25, nameIndex := 354, descriptorIndex := 339, attributes := #[] }, { accessFlags := 25, nameIndex := 358, descriptorIndex := 339, attributes := #[] }, { accessFlags := 25, nameIndex := 361, descriptorIndex := 339, attributes := #[] }, { accessFlags := 26, nameIndex := 364, descriptorIndex := 339, attributes := #[] }, { accessFlags := 26, nameIndex := 365, descriptorIndex := 339, attributes := #[] }, { accessFlags := 26, nameIndex := 172, descriptorIndex := 173, attributes := #[] }, { accessFlags := 26, nameIndex := 176, descriptorIndex := 173, attributes := #[] }, { accessFlags := 8, nameIndex := 344, descriptorIndex := 339, attributes := #[] }, { accessFlags := 8, nameIndex := 338, descriptorIndex := 339, attributes := #[] }, { accessFlags := 4120, nameIndex := 245, descriptorIndex := 246, attributes := #[] }])
  fields := #[{ name := "E", type := .double, accessFlags := 25, slot := 0, constantValue := 0 }, { name := "PI", type := .double, accessFlags := 25, slot := 1, constantValue := 0 }, { name := "TAU", type := .double, accessFlags := 25, slot := 2, constantValue := 0 }, { name := "DEGREES_TO_RADIANS", type := .double, accessFlags := 26, slot := 3, constantValue := 0 }, { name := "RADIANS_TO_DEGREES", type := .double, accessFlags := 26, slot := 4, constantValue := 0 }, { name := "negativeZeroFloatBits", type := .long, accessFlags := 26, slot := 5, constantValue := 0 }, { name := "negativeZeroDoubleBits", type := .long, accessFlags := 26, slot := 6, constantValue := 0 }, { name := "twoToTheDoubleScaleUp", type := .double, accessFlags := 8, slot := 7, constantValue := 0 }, { name := "twoToTheDoubleScaleDown", type := .double, accessFlags := 8, slot := 8, constantValue := 0 }, { name := "$assertionsDisabled", type := .boolean, accessFlags := 4120, slot := 9, constantValue := 0 }]
  methods := #[k7m0, k7m1]
  instanceTypes := #[]
  staticTypes := #[.double, .double, .double, .double, .double, .long, .long, .double, .double, .boolean]
  resolved := Array.replicate 460 none
  statics := none }

def pool8 : Array CpInfo := pool [(1, u "java/lang/Cloneable"), (0, .class_ 1), (0, u "java/lang/Object"), (0, .class_ 3)] 3

/-- java/lang/Cloneable -/
def k8 : Class := { plain "java/lang/Cloneable" (some 0) with
  accessFlags := 1537
  interfaces := #[]
  cf := some (fileOf pool8 2 #[] #[] 1537 4 #[] #[])
  fields := #[]
  methods := #[]
  instanceTypes := #[]
  staticTypes := #[]
  resolved := Array.replicate 8 none
  statics := none }

/-- the primitive byte -/
def k9 : Class := { plain "byte" none with kind := .primitive 'B', accessFlags := 0x411 }
/-- [B -/
def k10 : Class := { plain "[B" (some 0) with kind := .array 9 .byte, interfaces := #[8, 4], accessFlags := 1041 }

/-- the primitive int -/
def k11 : Class := { plain "int" none with kind := .primitive 'I', accessFlags := 0x411 }
/-- [I -/
def k12 : Class := { plain "[I" (some 0) with kind := .array 11 .int, interfaces := #[8, 4], accessFlags := 1041 }

def heap : Heap := #[{ cls := 6, slots := #[.ref 2, .ref 1, .null], vm := .statics 6 },
  { cls := 6, slots := #[.null, .int 1, .int 0], vm := .none },
  { cls := 6, slots := #[.null, .int 0, .int 0], vm := .none }]
def classes : Array Class := #[k0, k1, k2, k3, k4, k5, k6, k7, k8, k9, k10, k11, k12]
def interned : List (Array UInt16 × Addr) := []
def slotsUsed : Nat := 9
def theMethod : MethodId := ⟨1, 3⟩
def args0 : Array Value := #[.int 5, .int 7]
def aboutOver (below : List Frame) : State where
  vm := { classes := classes, interned := interned.toArray }
  heap := heap
  slotsUsed := slotsUsed
  threads := #[{ frames := .invoking theMethod args0 :: below }]
def below0 : List Frame := [.native { method := ⟨0, 0⟩, args := #[] }]
def about1 : State := aboutOver below0
def p0 : Program := .bare "" "" ""
def e0 : Env := launch0.env 0 0 0
theorem w_frames : about1.frames = Frame.invoking theMethod args0 :: below0 := rfl
set_option maxRecDepth 65536 in
theorem w_args : argsFit about1.vm theMethod args0 = true := by decide +kernel
set_option maxRecDepth 65536 in
theorem w_heap : heapFits about1 = true := by decide +kernel
set_option maxRecDepth 65536 in
theorem w_runnable : about1.curStatus? = some .runnable := by decide +kernel
set_option maxRecDepth 65536 in
theorem w_alone : about1.alone = true := by decide +kernel
set_option maxRecDepth 65536 in
theorem w_named : about1.methodNamed? x = some theMethod := by decide +kernel
set_option maxRecDepth 65536 in
theorem w_hears : about1.hears theMethod below0 = true := by decide +kernel
set_option maxRecDepth 65536 in
theorem w_ripe : about1.ripe theMethod args0 below0 = true := by decide +kernel
theorem w_running : about1.status = .running := rfl
set_option maxRecDepth 65536 in
theorem w_room : about1.hasRoom e0.platform room_1 = true :=
  launch0.hasRoom_least _ room_1 (by decide +kernel) (by decide +kernel) (by decide +kernel) (by decide +kernel) (by decide +kernel) (by decide +kernel)
theorem allAtoms_all (ts : List Jvm.Cond) (a : Array Jvm.Value) (st : Jvm.State) : (allAtoms ts).before a st = ts.all (fun c => c.before a st) := by
  induction ts with
  | nil => rfl
  | cons c t ih =>
    show (Jvm.Cond.and c (allAtoms t)).before a st = _
    rw [Jvm.Cond.before_and, ih, List.all_cons]
def words1 : List Jvm.Cond := Jvm.Cond.code x code maxLocals ret :: tables_1
/-- a 'code' word, met by the world's own term for the bytes: nothing is compared byte by byte -/
theorem code_word {y : MethodName} {bytes : ByteArray} {mx : Nat} {rt : Option FieldType} {a : Array Value} {s : State} {m : MethodId} {meth : Method} {c : Code} (h1 : s.methodNamed? y = some m) (h2 : s.vm.method? m = some meth) (h3 : meth.code = some c) (h4 : c.code = bytes)
    (h5 : (c.maxLocals == mx && c.exceptionTable.isEmpty && decide (c.maxStack ≤ mostOperands) && decide (meth.sig.returnType = rt) && !meth.locks && decide (parseMethodDescriptor y.desc = some meth.sig)) = true) : (Jvm.Cond.code y bytes mx rt).before a s = true := by
  simp only [Bool.and_eq_true, beq_iff_eq, Bool.not_eq_true', decide_eq_true_eq] at h5
  obtain ⟨⟨⟨⟨⟨g1, g2⟩, g3⟩, g4⟩, g5⟩, g6⟩ := h5
  simp [Cond.before, Cond.holds, Cond.value, h1, h2, h3, h4, g1, g2, g3, g4, g5, g6]
def isCode : Jvm.Cond → Bool
  | .code _ _ _ _ => true
  | _ => false
theorem all_split {L : List Jvm.Cond} {P : Jvm.Cond → Bool} (h1 : L.all (fun c => isCode c || P c) = true) (h2 : ∀ c ∈ L.filter isCode, P c = true) : L.all P = true := by
  refine List.all_eq_true.mpr fun c hc => ?_
  have h := List.all_eq_true.mp h1 c hc
  rcases Bool.eq_false_or_eq_true (isCode c) with hi | hi
  · exact h2 c (List.mem_filter.mpr ⟨hc, hi⟩)
  · simpa [hi] using h
set_option maxRecDepth 65536 in
theorem w_c0 : (Jvm.Cond.code x code maxLocals ret).before args0 about1 = true := code_word (m := ⟨1, 3⟩) (meth := k1m3) (c := k1c3) (by decide +kernel) rfl rfl rfl (by decide +kernel)
set_option maxRecDepth 65536 in
theorem w_c1 : (Jvm.Cond.code ({ cls := "com/example/vetd/vetd/DecisionDenyOverPermitPinLaw", name := "pick", desc := "(I)Lcom/example/vetd/vetd/Decision;" } : Jvm.MethodName) method_2_code (2 : Nat) (Option.some (Jvm.ClassFile.FieldType.object "com/example/vetd/vetd/Decision"))).before args0 about1 = true := code_word (m := ⟨1, 1⟩) (meth := k1m1) (c := k1c1) (by decide +kernel) rfl rfl rfl (by decide +kernel)
set_option maxRecDepth 65536 in
theorem w_c2 : (Jvm.Cond.code ({ cls := "com/example/vetd/vetd/Decision", name := "denyOverPermit", desc := "(Lcom/example/vetd/vetd/Decision;Lcom/example/vetd/vetd/Decision;)Lcom/example/vetd/vetd/Decision;" } : Jvm.MethodName) prog_4_method_5_code (3 : Nat) (Option.some (Jvm.ClassFile.FieldType.object "com/example/vetd/vetd/Decision"))).before args0 about1 = true := code_word (m := ⟨6, 0⟩) (meth := k6m0) (c := k6c0) (by decide +kernel) rfl rfl rfl (by decide +kernel)
set_option maxRecDepth 65536 in
theorem w_c3 : (Jvm.Cond.code ({ cls := "com/example/vetd/vetd/DecisionDenyOverPermitPinLaw", name := "rank", desc := "(Lcom/example/vetd/vetd/Decision;)I" } : Jvm.MethodName) method_3_code (1 : Nat) (Option.some Jvm.ClassFile.FieldType.int)).before args0 about1 = true := code_word (m := ⟨1, 2⟩) (meth := k1m2) (c := k1c2) (by decide +kernel) rfl rfl rfl (by decide +kernel)
set_option maxRecDepth 65536 in
theorem w_c4 : (Jvm.Cond.code ({ cls := "java/lang/Math", name := "max", desc := "(II)I" } : Jvm.MethodName) jdk_29_method_65_code (2 : Nat) (Option.some Jvm.ClassFile.FieldType.int)).before args0 about1 = true := code_word (m := ⟨7, 1⟩) (meth := k7m1) (c := k7c1) (by decide +kernel) rfl rfl rfl (by decide +kernel)
def codes1 : List Jvm.Cond := [Jvm.Cond.code x code maxLocals ret, Jvm.Cond.code ({ cls := "com/example/vetd/vetd/DecisionDenyOverPermitPinLaw", name := "pick", desc := "(I)Lcom/example/vetd/vetd/Decision;" } : Jvm.MethodName) method_2_code (2 : Nat) (Option.some (Jvm.ClassFile.FieldType.object "com/example/vetd/vetd/Decision")), Jvm.Cond.code ({ cls := "com/example/vetd/vetd/Decision", name := "denyOverPermit", desc := "(Lcom/example/vetd/vetd/Decision;Lcom/example/vetd/vetd/Decision;)Lcom/example/vetd/vetd/Decision;" } : Jvm.MethodName) prog_4_method_5_code (3 : Nat) (Option.some (Jvm.ClassFile.FieldType.object "com/example/vetd/vetd/Decision")), Jvm.Cond.code ({ cls := "com/example/vetd/vetd/DecisionDenyOverPermitPinLaw", name := "rank", desc := "(Lcom/example/vetd/vetd/Decision;)I" } : Jvm.MethodName) method_3_code (1 : Nat) (Option.some Jvm.ClassFile.FieldType.int), Jvm.Cond.code ({ cls := "java/lang/Math", name := "max", desc := "(II)I" } : Jvm.MethodName) jdk_29_method_65_code (2 : Nat) (Option.some Jvm.ClassFile.FieldType.int)]
set_option maxRecDepth 65536 in
theorem codes_eq : words1.filter isCode = codes1 := rfl
theorem w_codes : ∀ c ∈ words1.filter isCode, c.before args0 about1 = true := by
  rw [codes_eq]
  intro c hc
  simp only [codes1, List.mem_cons, List.not_mem_nil, or_false] at hc
  rcases hc with rfl | rfl | rfl | rfl | rfl
  · exact w_c0
  · exact w_c1
  · exact w_c2
  · exact w_c3
  · exact w_c4
set_option maxRecDepth 65536 in
theorem w_t1 : words1.all (fun c => isCode c || c.before args0 about1) = true := by decide +kernel
theorem w_tables : (allAtoms (Jvm.Cond.code x code maxLocals ret :: tables_1)).before args0 about1 = true := by
  rw [allAtoms_all]
  show words1.all (fun c => c.before args0 about1) = true
  refine all_split ?_ w_codes
  rw [w_t1]
set_option maxRecDepth 65536 in
theorem w_case : (Jvm.Cond.and given_1 narrow_1).before args0 about1 = true := by decide +kernel
theorem w_applies : (headSpec (Jvm.Cond.code x code maxLocals ret :: tables_1) room_1).applies x e0.platform about1 = true :=
  (Spec.applies_iff w_frames).mpr ⟨w_running, w_runnable, w_alone, w_named, w_hears, w_ripe, w_room, w_tables⟩
theorem atStart : AtStart classFile x code maxLocals ret World_1 tables_1 room_1 Calls_1 rest_1 Pre_1 launch0 p0 e0 about1 theMethod args0 below0 :=
  ⟨lists_1, trivial, launch0.admits_env _ _ _, launch0.least_env, fairChoices_fair.cas, fairChoices_fair.clock, w_frames, w_args, w_heap, w_applies, trivial, trivial, w_case⟩
end start1
theorem witness_1 : WitnessClaimed_1 := ⟨start1.p0, start1.e0, start1.about1, start1.theMethod, start1.args0, start1.below0, start1.atStart⟩
end Jvm.Pilot.@@N@@
