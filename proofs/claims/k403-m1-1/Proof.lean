import JvmDerived
import JvmDerived.Pilot.@@N@@Statement
import JvmDerived.Pilot.@@N@@Code
set_option linter.unusedVariables false
set_option linter.unusedSimpArgs false
namespace Jvm.RoadKit
open Sem ClassFile Op Lib Jvm.Stand Jvm.Free Jvm.LawKit
section New
variable {p : Program} {l : Launch} {e : Env} {R : Room} {s : State} {m : MethodId} {args : Array Value} {below : List Frame} {meth : Method} {c : Code} {T : State} {locs : List Loc} {cells slots : Nat}
theorem retI (X : Stand p l e R s m args below meth c T locs cells slots) (hx : p.tables.exec = Jvm.exec) {pc : Nat} {Ls : Array Slot} {z : Int32} {rest : List Value} (hret : meth.sig.returnType = some .int) (hd : decode c.code pc = .ok (.ireturn, 1)) {fs : List Frame}
    (hl : ∀ (f : JFrame) (acts : List Action), f.method = m → f.locked = none → f.entered = [] → (doReturn e (T.setTop f) acts (some (.int z))).1 = T.setFrames fs) : Steps p.tables e below (T.setTop (mkF m pc Ls (.int z :: rest))) (T.setFrames fs) := by
  have hm' : T.vm.method? m = some meth := X.method'
  have hn : narrow .int (.int z) = .int z := rfl
  show Steps p.tables e below (T.setTop { method := m, pc := pc, locals := Ls, stack := _ :: rest, locked := none }) _
  jvm_step X.here [X.here.top, hx, hd, hm', hret, hn]
  first | (intro acts; rw [hl _ acts rfl rfl rfl]) | rw [hl _ _ rfl rfl rfl]
  exact Steps.refl _
end New
end Jvm.RoadKit
namespace Jvm.Pilot.@@N@@
open Jvm Jvm.ClassFile Sem Op Lib Jvm.Free Jvm.Stand Jvm.LawKit Jvm.RoadKit Bundle Jvm.Pilot.@@N@@.Jvm.D
theorem tk {L : List Jvm.Cond} {d : Jvm.Cond} (i : Nat) (h : L[i]? = some d) : d ∈ L := List.mem_of_getElem? h
/-! own small facts: what the case says of a pinned static's field -/
theorem own_fld {args : Array Value} {s : State} {t : Term} {C n d : String} {w : Addr} {k : Int32} (ht : t.eval args s none [] s = some (.ref w)) (h : (Cond.eq (.field t C n d) (.int k)).value args s none s [] = some true) : Fld s s.heap w C n d (.int k) := by
  obtain ⟨x, y, hx, hy, -, kin⟩ := cmp_v (Or.inl h)
  obtain rfl : Value.int k = y := Option.some.inj hy
  obtain ⟨z, rfl⟩ := kin
  have e : z = k := by simpa [Cond.value, hx, hy] using h
  subst e
  exact Fld.start ((fld_at ht).symm.trans hx)
theorem own_fldN {args : Array Value} {s : State} {t : Term} {C n d : String} {w : Addr} (ht : t.eval args s none [] s = some (.ref w)) (h : (Cond.eq (.field t C n d) .null).value args s none s [] = some true) : Fld s s.heap w C n d .null :=
  Fld.start ((fld_at ht).symm.trans (null_v h))
theorem own_nsroot {Z : State} {a0 : Array Value} {O K : String} {n : Nat} (w : (Cond.noSuperclass O).before a0 Z = true) (wk : (Cond.instantiable K n).before a0 Z = true) (hn : O ≠ K) : NS Z O K := by
  obtain ⟨c, k, h1, h2, h3, -, -⟩ := Cond.noSuperclass_spec w
  obtain ⟨t, -, g1, -⟩ := Cond.instantiable_spec wk
  have ne := ids_ne h1 g1 hn
  refine ⟨c, t, h1, g1, fun fuel => ?_⟩
  cases fuel with
  | zero => rfl
  | succ f => simp [Vm.isSubclassAux, ne, h2, h3]
theorem own_nsno {Z : State} {a0 : Array Value} {C S K : String} {n : Nat} (w : (Cond.superclass C S).before a0 Z = true) (wk : (Cond.instantiable K n).before a0 Z = true) (ns : NS Z C K) (hn : C ≠ K) : ∃ c t, Z.vm.findClass C = some c ∧ Z.vm.findClass K = some t ∧ Z.vm.assignable c t = false := by
  obtain ⟨c, t, h0, g0, n3⟩ := ns
  obtain ⟨p, k, kp, h1, h2, h3, h4, h5, -, h7⟩ := Cond.superclass_spec h0 w
  obtain ⟨t', k', g1, g2, g3, g4, -⟩ := Cond.instantiable_spec wk
  cases g0.symm.trans g1
  have ne := ids_ne h0 g0 hn
  have g5 : k'.isInterface = false := (Bool.or_eq_false_iff.mp g4).1
  refine ⟨c, t, h0, g0, ?_⟩
  show Z.vm.assignableAux (255 + 1) c t = false
  simp [Vm.assignableAux, ne, h2, g2, h5, g3, g5, Vm.isSubclass, n3]
theorem own_nar {v : Value} {C : String} (h : v.isRef = true) : narrow (.object C) v = v := by rcases ref_cases h with rfl | ⟨a, rfl⟩ <;> rfl
theorem own_fit {v : Value} {C : String} (h : v.isRef = true) : fits (.object C) v = true := by rcases ref_cases h with rfl | ⟨a, rfl⟩ <;> rfl
theorem own_refof {v : Value} (h : v.isRef = true) (n : ¬ v = .null) : ∃ a, v = .ref a := (ref_cases h).elim (fun q => absurd q n) id
theorem own_sint {args : Array Value} {s : State} {t : Term} {k : Int32} (h : (Cond.eq t (.int k)).value args s none s [] = some true) : t.eval args s none [] s = some (.int k) := by
  obtain ⟨x, y, hx, hy, -, kin⟩ := cmp_v (Or.inl h)
  obtain rfl : Value.int k = y := Option.some.inj hy
  obtain ⟨z, rfl⟩ := kin
  have e : z = k := by simpa [Cond.value, hx, hy] using h
  subst e; exact hx
theorem own_snot {args : Array Value} {s : State} {t : Term} {k z : Int32} (ht : t.eval args s none [] s = some (.int z)) (h : (Cond.not (Cond.eq t (.int k))).value args s none s [] = some true) : ¬ z = k := by
  have := not_v h
  intro e
  subst e
  simp [Cond.value, ht, Term.eval] at this
theorem own_seq {args : Array Value} {s : State} {t u : Term} {a b : Addr} (ht : t.eval args s none [] s = some (.ref a)) (hu : u.eval args s none [] s = some (.ref b)) (h : (Cond.eq t u).value args s none s [] = some true) : b = a := by
  have e : a = b := by simpa [Cond.value, ht, hu] using h
  exact e.symm
theorem own_len {args : Array Value} {s : State} {t : Term} {a : Addr} {c : Cell} {ty : FieldType} {n : Int32} (ht : t.eval args s none [] s = some (.ref a)) (A : Arr s s.heap a c ty) (h : (Cond.eq (.length t) (.int n)).value args s none s [] = some true) : c.slots.size < 2 ^ 31 ∧ c.slots.size.toInt32 = n := by
  have e0 := own_sint h
  have hfin := A.fin (Vm.Alike.refl _)
  by_cases hl : c.slots.size < 2 ^ 31
  · rw [len_f ht hfin hl] at e0
    exact ⟨hl, Value.int.inj (Option.some.inj e0)⟩
  · exfalso
    simp [Term.eval, ht, hfin, hl] at e0
theorem own_elem {args : Array Value} {s : State} {t u : Term} {a w : Addr} {c : Cell} {i : Int32} (ht : t.eval args s none [] s = some (.ref a)) (hc : s.heap[a]? = some c) (hu : u.eval args s none [] s = some (.ref w)) (h : (Cond.eq (.elem t (.int i)) u).value args s none s [] = some true) : c.slots[i.toNatClampNeg]? = some (.ref w) := by
  obtain ⟨x, y, hx, hy, k1, k2⟩ := cmp_v (Or.inl h)
  obtain rfl : Value.ref w = y := Option.some.inj (hu.symm.trans hy)
  have e := gotT (eq_R hx hu k2.2 rfl) h
  rw [e] at hx
  exact (elem_in hx ht (Term.int_eval i) hc).2
theorem own_ldcF {p : Program} {l : Launch} {e : Env} {R : Room} {s : State} {m : MethodId} {args : Array Value} {below : List Frame} {meth : Method} {c : Code} {T : State} {locs : List Loc} {cells slots : Nat}
    (X : Stand p l e R s m args below meth c T locs cells slots) (hx : p.tables.exec = Jvm.exec) {own : String} {index : Nat} {b : UInt32} (hown : s.vm.findClass own = some m.cls) (w : (Cond.constantFloat own index b).before args s = true) {g : JFrame} (hg : g.method = m) (hd : decode c.code g.pc = .ok (.ldc index, 2)) :
    ∀ target, Steps p.tables e below (T.setTop { g with pc := g.pc + 2, stack := .float b :: g.stack }) target → Steps p.tables e below (T.setTop g) target := by
  obtain ⟨k, cf, h1, h2, h3⟩ := Cond.constantFloat_spec hown w
  exact X.ldcFloat hx h1 h2 h3 hg hd
theorem own_old {Z : State} {n0 : Nat} {h : Heap} (O : Old Z n0 h) : n0 ≤ h.size := O.1 ▸ O.2.1
theorem own_rand (x m : Int32) (n : Int) (h0 : 0 ≤ m.toInt) (h1 : m.toInt < n) : 0 ≤ (x &&& m).toInt ∧ (x &&& m).toInt < n := by
  have := c_and x m h0; omega
theorem own_rrem (x y : Int32) (n : Int) (h0 : 0 ≤ x.toInt) (hy : y.toInt = n) (hn : 0 < n) : 0 ≤ (x % y).toInt ∧ (x % y).toInt < n := by
  rw [(c_irem x y n hy).1 h0]; exact ⟨Int.emod_nonneg _ (by omega), Int.emod_lt_of_pos _ hn⟩
theorem own_rshr (x q : Int32) (k : Nat) (m : Int) {n : Int} (r : 0 ≤ x.toInt ∧ x.toInt < n) (hk : q.toBitVec.toNat % 32 = k) (hm : (n - 1) / ((2 ^ k : Nat) : Int) < m) : 0 ≤ (x >>> (q &&& 31)).toInt ∧ (x >>> (q &&& 31)).toInt < m := by
  rw [c_ishr x q k hk]
  have hp : (0 : Int) < ((2 ^ k : Nat) : Int) := by exact_mod_cast Nat.two_pow_pos k
  exact ⟨Int.ediv_nonneg r.1 (Int.le_of_lt hp), Int.lt_of_le_of_lt (Int.ediv_le_ediv hp (by omega)) hm⟩
theorem own_off {e c : Int32} {n : Int} (r : 0 ≤ e.toInt ∧ e.toInt < n) (h : decide (n ≤ c.toInt ∨ c.toInt < 0) = true) : ¬ e = c := fun z => by
  subst z
  have := of_decide_eq_true h
  omega
theorem own_below {e c : Int32} {n : Int} (r : 0 ≤ e.toInt ∧ e.toInt < n) (h : n ≤ c.toInt) : e < c := by rw [Int32.lt_iff_toInt_lt]; omega
theorem own_notbelow {e c : Int32} {n : Int} (r : 0 ≤ e.toInt ∧ e.toInt < n) (h : c.toInt ≤ 0) : ¬ e < c := by rw [Int32.lt_iff_toInt_lt]; omega
theorem own_notabove {e c : Int32} {n : Int} (r : 0 ≤ e.toInt ∧ e.toInt < n) (h : n - 1 ≤ c.toInt) : ¬ c < e := by rw [Int32.lt_iff_toInt_lt]; omega
theorem own_above {e c : Int32} {n : Int} (r : 0 ≤ e.toInt ∧ e.toInt < n) (h : c.toInt < 0) : c < e := by rw [Int32.lt_iff_toInt_lt]; omega
theorem own_lt {a b : Int32} {n : Int} (h : a < b) (e : b.toInt = n) : a.toInt < n := by rw [← e]; exact Int32.lt_iff_toInt_lt.mp h
theorem own_ne {a b : Int32} {n : Int} (h : ¬ a = b) (e : b.toInt = n) : a.toInt ≠ n := fun z => h (Int32.toInt_inj.mp (z.trans e.symm))
theorem own_eq {a b : Int32} {n : Int} (e : b.toInt = n) (h : a.toInt = n) : a = b := Int32.toInt_inj.mp (h.trans e.symm)
abbrev Y0 : MethodName := (⟨"com/example/pairoff/pairoff/RoleIsMarketMakerPinLaw", "pick", "(I)Lcom/example/pairoff/pairoff/Role;"⟩ : MethodName)
abbrev Y1 : MethodName := (⟨"com/example/pairoff/pairoff/Role", "isMarketMaker", "()Z"⟩ : MethodName)

def StF (Z : State) (w_1 : Addr) (w_2 : Addr) (w_3 : Addr) (w_4 : Addr) (w_5 : Addr) : Prop :=
  Sta Z Z.heap "com/example/pairoff/pairoff/Role" "CUSTOMER" "Lcom/example/pairoff/pairoff/Role;" (.ref w_1) ∧
  Exa Z Z.heap w_1 "com/example/pairoff/pairoff/Role" ∧
  Sta Z Z.heap "com/example/pairoff/pairoff/Role" "MARKET_MAKER" "Lcom/example/pairoff/pairoff/Role;" (.ref w_2) ∧
  Exa Z Z.heap w_2 "com/example/pairoff/pairoff/Role" ∧
  Sta Z Z.heap "com/example/pairoff/pairoff/Role" "SPECIALIST" "Lcom/example/pairoff/pairoff/Role;" (.ref w_3) ∧
  Exa Z Z.heap w_3 "com/example/pairoff/pairoff/Role" ∧
  Sta Z Z.heap "com/example/pairoff/pairoff/Role" "PROFESSIONAL" "Lcom/example/pairoff/pairoff/Role;" (.ref w_4) ∧
  Exa Z Z.heap w_4 "com/example/pairoff/pairoff/Role" ∧
  Sta Z Z.heap "com/example/pairoff/pairoff/Role" "BROKER_DEALER" "Lcom/example/pairoff/pairoff/Role;" (.ref w_5) ∧
  Exa Z Z.heap w_5 "com/example/pairoff/pairoff/Role" ∧
  Fld Z Z.heap w_1 "java/lang/Enum" "ordinal" "I" (.int (0 : Int32)) ∧
  Fld Z Z.heap w_2 "java/lang/Enum" "ordinal" "I" (.int (3 : Int32)) ∧
  Fld Z Z.heap w_3 "java/lang/Enum" "ordinal" "I" (.int (4 : Int32)) ∧
  Fld Z Z.heap w_4 "java/lang/Enum" "ordinal" "I" (.int (1 : Int32)) ∧
  Fld Z Z.heap w_5 "java/lang/Enum" "ordinal" "I" (.int (2 : Int32))
theorem d1_0 : decode method_2_code 0 = .ok (.iload_n 0, 1) := by decide +kernel
theorem d1_1 : decode method_2_code 1 = .ok (.ifCond .ne 7, 3) := by decide +kernel
theorem d1_4 : decode method_2_code 4 = .ok (.getstatic 7, 3) := by decide +kernel
theorem d1_7 : decode method_2_code 7 = .ok (.areturn, 1) := by decide +kernel
theorem d1_8 : decode method_2_code 8 = .ok (.iload_n 0, 1) := by decide +kernel
theorem d1_9 : decode method_2_code 9 = .ok (.iconst 1, 1) := by decide +kernel
theorem d1_10 : decode method_2_code 10 = .ok (.if_icmp .ne 7, 3) := by decide +kernel
theorem d1_13 : decode method_2_code 13 = .ok (.getstatic 13, 3) := by decide +kernel
theorem d1_16 : decode method_2_code 16 = .ok (.areturn, 1) := by decide +kernel
theorem d1_17 : decode method_2_code 17 = .ok (.iload_n 0, 1) := by decide +kernel
theorem d1_18 : decode method_2_code 18 = .ok (.iconst 2, 1) := by decide +kernel
theorem d1_19 : decode method_2_code 19 = .ok (.if_icmp .ne 7, 3) := by decide +kernel
theorem d1_22 : decode method_2_code 22 = .ok (.getstatic 16, 3) := by decide +kernel
theorem d1_25 : decode method_2_code 25 = .ok (.areturn, 1) := by decide +kernel
theorem d1_26 : decode method_2_code 26 = .ok (.iload_n 0, 1) := by decide +kernel
theorem d1_27 : decode method_2_code 27 = .ok (.iconst 3, 1) := by decide +kernel
theorem d1_28 : decode method_2_code 28 = .ok (.if_icmp .ne 7, 3) := by decide +kernel
theorem d1_31 : decode method_2_code 31 = .ok (.getstatic 19, 3) := by decide +kernel
theorem d1_34 : decode method_2_code 34 = .ok (.areturn, 1) := by decide +kernel
theorem d1_35 : decode method_2_code 35 = .ok (.getstatic 22, 3) := by decide +kernel
theorem d1_38 : decode method_2_code 38 = .ok (.areturn, 1) := by decide +kernel
theorem pn_1 : plainName "com/example/pairoff/pairoff/RoleIsMarketMakerPinLaw" = true := by first | (simp [plainName, overriddenIn]; done) | decide +kernel
theorem ef_1 (m : MethodId) (p0 : Int32) : entryFrame m #[(.int p0)] 1 = mkF m 0 #[.val (.int p0)] [] := by first | (simp [entryFrame, mkF, argsToLocals, Value.category]; done) | rfl
def sp1 (w_1 : Addr) (w_2 : Addr) (w_3 : Addr) (w_4 : Addr) (w_5 : Addr) (p0 : Int32) : Value := (if p0 = (0 : Int32) then (.ref w_1) else (if p0 = (1 : Int32) then (.ref w_4) else (if p0 = (2 : Int32) then (.ref w_5) else (if p0 = (3 : Int32) then (.ref w_2) else (.ref w_3)))))
def Q1 (Z : State) (w_1 : Addr) (w_2 : Addr) (w_3 : Addr) (w_4 : Addr) (w_5 : Addr) (p0 : Int32) (h0 : Heap) (n0 : Nat) (v : Option Value) (h : Heap) (L : List Loc) : Prop := v = some (sp1 w_1 w_2 w_3 w_4 w_5 p0) ∧ Fr n0 L ∧ h = h0
set_option maxRecDepth 65536 in
set_option maxHeartbeats 40000000 in
theorem rm1 (l : Launch) (Z : State) (a0 : Array Value) (hw : ∀ d ∈ tables_1, d.before a0 Z = true) (ws : List Jvm.Cond) (w_1 : Addr) (w_2 : Addr) (w_3 : Addr) (w_4 : Addr) (w_5 : Addr) (hS : StF Z w_1 w_2 w_3 w_4 w_5) (p0 : Int32) (h0 : Heap) (n0 : Nat) (O0 : Old Z n0 h0) :
    MetFree l Y0 (head1 (Jvm.Cond.code Y0 method_2_code 1 (some (.object "com/example/pairoff/pairoff/Role")) :: ws) ({ frames := 0, cells := 0, slots := 0, locals := 0 } : Room)) (fun a U => a = #[(.int p0)] ∧ Z.Warmed39 U.vm ∧ U.heap = h0) (fun _ _ _ _ _ => True) (fun _ U o U' => ∃ v L, o = .returned v ∧ Q1 Z w_1 w_2 w_3 w_4 w_5 p0 h0 n0 v U'.heap L ∧ FrameEnd U o U' L ({ frames := 0, cells := 0, slots := 0, locals := 0 } : Room).cells ({ frames := 0, cells := 0, slots := 0, locals := 0 } : Room).slots) := by
  refine MetFree.of_bodySF (plainFor_of_name pn_1) hisR ?_
  intro p e s m args below meth c s₁ Bd hml0 hP hK
  obtain ⟨rfl, hZ, hh⟩ := hP
  have hx := Bd.exec
  have hby := Bd.bytes
  have hml : c.maxLocals = 1 := hml0
  have hown : s.vm.findClass "com/example/pairoff/pairoff/RoleIsMarketMakerPinLaw" = some m.cls := findClass_of_methodNamed Bd.named
  have hnm := (name_of_methodNamed Bd.named Bd.method).1
  have X0 : Stand p l e ({ frames := 0, cells := 0, slots := 0, locals := 0 } : Room) s m #[(.int p0)] below meth c s₁ [] 0 0 := Stand.of_body Bd
  have e0 : s₁.heap = h0 := by rw [← hh, Bd.state]; rfl
  have N0 := Fr.nil n0
  have hS0 := hS
  obtain ⟨S_1, E_1, S_2, E_2, S_3, E_3, S_4, E_4, S_5, E_5, F_1_ordinal, F_2_ordinal, F_3_ordinal, F_4_ordinal, F_5_ordinal⟩ := hS
  have pre0 : ∀ t, Steps p.tables e below (s₁.setTop (mkF m 0 #[.val (.int p0)] [])) t → Steps p.tables e below (s₁.setTop (entryFrame m #[(.int p0)] 1)) t := fun t k => castTop (ef_1 m p0) k
  have pre19 : ∀ t, Steps p.tables e below (s₁.setTop (mkF m 1 #[.val (.int p0)] [(.int p0)])) t → Steps p.tables e below (s₁.setTop (entryFrame m #[(.int p0)] 1)) t := fun t kt => by
    refine pre0 t ?_
    show Steps p.tables e below (s₁.setTop (mkF m 0 #[.val (.int p0)] [])) _
    refine XS.iloadN X0.here hx rfl (hb hby d1_0) rfl ?_
    show Steps p.tables e below (s₁.setTop (mkF m 1 #[.val (.int p0)] [(.int p0)])) _
    exact kt
  by_cases hc20 : p0 = (0 : Int32)
  · obtain ⟨T21, X21, e21, st21⟩ := getS2 X0 hx hZ hown (host := "") (Or.inl (hw _ (tk 5 rfl))) Via.refl e0 (S_1.ext O0.2) (g := (mkF m 4 #[.val (.int p0)] [])) rfl (hb hby d1_4)
    obtain ⟨fs, hr, hrun, hended, hW, hsame⟩ := X21.leave (v := some (.ref w_1)) (fun h => by rw [Bd.returns] at h; cases h)
    refine ⟨_, _, pre19 _ ?_, hrun, hended, _, _, rfl, ?_, ⟨_, rfl⟩, hW, hsame.mono (by decide) (by decide)⟩
    · show Steps p.tables e below (s₁.setTop (mkF m 1 #[.val (.int p0)] [(.int p0)])) _
      refine XS.ifNo X0.here hx rfl (hb hby d1_1) rfl ((if0 _ _).trans (teq hc20).2) ?_
      show Steps p.tables e below (s₁.setTop (mkF m 4 #[.val (.int p0)] [])) _
      refine st21 _ ?_
      show Steps p.tables e below (T21.setTop (mkF m 7 #[.val (.int p0)] [(.ref w_1)])) _
      jvm_step X21.here [X21.here.top, hx, (hb hby d1_7), X21.method', Bd.returns, Value.isRef, FieldType.isReference]
      first | (intro acts; rw [hr _ acts rfl rfl rfl]) | rw [hr _ _ rfl rfl rfl]
      exact Steps.refl _
    · show Q1 Z w_1 w_2 w_3 w_4 w_5 p0 h0 n0 _ T21.heap _
      rw [e21]
      exact ⟨by unfold sp1; rw [if_pos hc20], N0, rfl⟩
  · have pre22 : ∀ t, Steps p.tables e below (s₁.setTop (mkF m 10 #[.val (.int p0)] [(.int (1 : Int32)), (.int p0)])) t → Steps p.tables e below (s₁.setTop (entryFrame m #[(.int p0)] 1)) t := fun t kt => by
      refine pre19 t ?_
      show Steps p.tables e below (s₁.setTop (mkF m 1 #[.val (.int p0)] [(.int p0)])) _
      refine XS.ifYes X0.here hx rfl (pc0 := 1) (pc' := 8) rfl (hb hby d1_1) rfl ((if0 _ _).trans (feq hc20).2) (by decide) (by decide) ?_
      show Steps p.tables e below (s₁.setTop (mkF m 8 #[.val (.int p0)] [])) _
      refine XS.iloadN X0.here hx rfl (hb hby d1_8) rfl ?_
      show Steps p.tables e below (s₁.setTop (mkF m 9 #[.val (.int p0)] [(.int p0)])) _
      refine XS.iconst X0.here hx rfl (hb hby d1_9) ?_
      show Steps p.tables e below (s₁.setTop (mkF m 10 #[.val (.int p0)] [(.int (1 : Int32)), (.int p0)])) _
      exact kt
    by_cases hc23 : p0 = (1 : Int32)
    · obtain ⟨T24, X24, e24, st24⟩ := getS2 X0 hx hZ hown (host := "") (Or.inl (hw _ (tk 18 rfl))) Via.refl e0 (S_4.ext O0.2) (g := (mkF m 13 #[.val (.int p0)] [])) rfl (hb hby d1_13)
      obtain ⟨fs, hr, hrun, hended, hW, hsame⟩ := X24.leave (v := some (.ref w_4)) (fun h => by rw [Bd.returns] at h; cases h)
      refine ⟨_, _, pre22 _ ?_, hrun, hended, _, _, rfl, ?_, ⟨_, rfl⟩, hW, hsame.mono (by decide) (by decide)⟩
      · show Steps p.tables e below (s₁.setTop (mkF m 10 #[.val (.int p0)] [(.int (1 : Int32)), (.int p0)])) _
        refine XS.icmpNo X0.here hx rfl (hb hby d1_10) rfl (teq hc23).2 ?_
        show Steps p.tables e below (s₁.setTop (mkF m 13 #[.val (.int p0)] [])) _
        refine st24 _ ?_
        show Steps p.tables e below (T24.setTop (mkF m 16 #[.val (.int p0)] [(.ref w_4)])) _
        jvm_step X24.here [X24.here.top, hx, (hb hby d1_16), X24.method', Bd.returns, Value.isRef, FieldType.isReference]
        first | (intro acts; rw [hr _ acts rfl rfl rfl]) | rw [hr _ _ rfl rfl rfl]
        exact Steps.refl _
      · show Q1 Z w_1 w_2 w_3 w_4 w_5 p0 h0 n0 _ T24.heap _
        rw [e24]
        exact ⟨by unfold sp1; rw [if_neg hc20, if_pos hc23], N0, rfl⟩
    · have pre25 : ∀ t, Steps p.tables e below (s₁.setTop (mkF m 19 #[.val (.int p0)] [(.int (2 : Int32)), (.int p0)])) t → Steps p.tables e below (s₁.setTop (entryFrame m #[(.int p0)] 1)) t := fun t kt => by
        refine pre22 t ?_
        show Steps p.tables e below (s₁.setTop (mkF m 10 #[.val (.int p0)] [(.int (1 : Int32)), (.int p0)])) _
        refine XS.icmpYes X0.here hx rfl (pc0 := 10) (pc' := 17) rfl (hb hby d1_10) rfl (feq hc23).2 (by decide) (by decide) ?_
        show Steps p.tables e below (s₁.setTop (mkF m 17 #[.val (.int p0)] [])) _
        refine XS.iloadN X0.here hx rfl (hb hby d1_17) rfl ?_
        show Steps p.tables e below (s₁.setTop (mkF m 18 #[.val (.int p0)] [(.int p0)])) _
        refine XS.iconst X0.here hx rfl (hb hby d1_18) ?_
        show Steps p.tables e below (s₁.setTop (mkF m 19 #[.val (.int p0)] [(.int (2 : Int32)), (.int p0)])) _
        exact kt
      by_cases hc26 : p0 = (2 : Int32)
      · obtain ⟨T27, X27, e27, st27⟩ := getS2 X0 hx hZ hown (host := "") (Or.inl (hw _ (tk 21 rfl))) Via.refl e0 (S_5.ext O0.2) (g := (mkF m 22 #[.val (.int p0)] [])) rfl (hb hby d1_22)
        obtain ⟨fs, hr, hrun, hended, hW, hsame⟩ := X27.leave (v := some (.ref w_5)) (fun h => by rw [Bd.returns] at h; cases h)
        refine ⟨_, _, pre25 _ ?_, hrun, hended, _, _, rfl, ?_, ⟨_, rfl⟩, hW, hsame.mono (by decide) (by decide)⟩
        · show Steps p.tables e below (s₁.setTop (mkF m 19 #[.val (.int p0)] [(.int (2 : Int32)), (.int p0)])) _
          refine XS.icmpNo X0.here hx rfl (hb hby d1_19) rfl (teq hc26).2 ?_
          show Steps p.tables e below (s₁.setTop (mkF m 22 #[.val (.int p0)] [])) _
          refine st27 _ ?_
          show Steps p.tables e below (T27.setTop (mkF m 25 #[.val (.int p0)] [(.ref w_5)])) _
          jvm_step X27.here [X27.here.top, hx, (hb hby d1_25), X27.method', Bd.returns, Value.isRef, FieldType.isReference]
          first | (intro acts; rw [hr _ acts rfl rfl rfl]) | rw [hr _ _ rfl rfl rfl]
          exact Steps.refl _
        · show Q1 Z w_1 w_2 w_3 w_4 w_5 p0 h0 n0 _ T27.heap _
          rw [e27]
          exact ⟨by unfold sp1; rw [if_neg hc20, if_neg hc23, if_pos hc26], N0, rfl⟩
      · have pre28 : ∀ t, Steps p.tables e below (s₁.setTop (mkF m 28 #[.val (.int p0)] [(.int (3 : Int32)), (.int p0)])) t → Steps p.tables e below (s₁.setTop (entryFrame m #[(.int p0)] 1)) t := fun t kt => by
          refine pre25 t ?_
          show Steps p.tables e below (s₁.setTop (mkF m 19 #[.val (.int p0)] [(.int (2 : Int32)), (.int p0)])) _
          refine XS.icmpYes X0.here hx rfl (pc0 := 19) (pc' := 26) rfl (hb hby d1_19) rfl (feq hc26).2 (by decide) (by decide) ?_
          show Steps p.tables e below (s₁.setTop (mkF m 26 #[.val (.int p0)] [])) _
          refine XS.iloadN X0.here hx rfl (hb hby d1_26) rfl ?_
          show Steps p.tables e below (s₁.setTop (mkF m 27 #[.val (.int p0)] [(.int p0)])) _
          refine XS.iconst X0.here hx rfl (hb hby d1_27) ?_
          show Steps p.tables e below (s₁.setTop (mkF m 28 #[.val (.int p0)] [(.int (3 : Int32)), (.int p0)])) _
          exact kt
        by_cases hc29 : p0 = (3 : Int32)
        · obtain ⟨T30, X30, e30, st30⟩ := getS2 X0 hx hZ hown (host := "") (Or.inl (hw _ (tk 17 rfl))) Via.refl e0 (S_2.ext O0.2) (g := (mkF m 31 #[.val (.int p0)] [])) rfl (hb hby d1_31)
          obtain ⟨fs, hr, hrun, hended, hW, hsame⟩ := X30.leave (v := some (.ref w_2)) (fun h => by rw [Bd.returns] at h; cases h)
          refine ⟨_, _, pre28 _ ?_, hrun, hended, _, _, rfl, ?_, ⟨_, rfl⟩, hW, hsame.mono (by decide) (by decide)⟩
          · show Steps p.tables e below (s₁.setTop (mkF m 28 #[.val (.int p0)] [(.int (3 : Int32)), (.int p0)])) _
            refine XS.icmpNo X0.here hx rfl (hb hby d1_28) rfl (teq hc29).2 ?_
            show Steps p.tables e below (s₁.setTop (mkF m 31 #[.val (.int p0)] [])) _
            refine st30 _ ?_
            show Steps p.tables e below (T30.setTop (mkF m 34 #[.val (.int p0)] [(.ref w_2)])) _
            jvm_step X30.here [X30.here.top, hx, (hb hby d1_34), X30.method', Bd.returns, Value.isRef, FieldType.isReference]
            first | (intro acts; rw [hr _ acts rfl rfl rfl]) | rw [hr _ _ rfl rfl rfl]
            exact Steps.refl _
          · show Q1 Z w_1 w_2 w_3 w_4 w_5 p0 h0 n0 _ T30.heap _
            rw [e30]
            exact ⟨by unfold sp1; rw [if_neg hc20, if_neg hc23, if_neg hc26, if_pos hc29], N0, rfl⟩
        · obtain ⟨T31, X31, e31, st31⟩ := getS2 X0 hx hZ hown (host := "") (Or.inl (hw _ (tk 20 rfl))) Via.refl e0 (S_3.ext O0.2) (g := (mkF m 35 #[.val (.int p0)] [])) rfl (hb hby d1_35)
          obtain ⟨fs, hr, hrun, hended, hW, hsame⟩ := X31.leave (v := some (.ref w_3)) (fun h => by rw [Bd.returns] at h; cases h)
          refine ⟨_, _, pre28 _ ?_, hrun, hended, _, _, rfl, ?_, ⟨_, rfl⟩, hW, hsame.mono (by decide) (by decide)⟩
          · show Steps p.tables e below (s₁.setTop (mkF m 28 #[.val (.int p0)] [(.int (3 : Int32)), (.int p0)])) _
            refine XS.icmpYes X0.here hx rfl (pc0 := 28) (pc' := 35) rfl (hb hby d1_28) rfl (feq hc29).2 (by decide) (by decide) ?_
            show Steps p.tables e below (s₁.setTop (mkF m 35 #[.val (.int p0)] [])) _
            refine st31 _ ?_
            show Steps p.tables e below (T31.setTop (mkF m 38 #[.val (.int p0)] [(.ref w_3)])) _
            jvm_step X31.here [X31.here.top, hx, (hb hby d1_38), X31.method', Bd.returns, Value.isRef, FieldType.isReference]
            first | (intro acts; rw [hr _ acts rfl rfl rfl]) | rw [hr _ _ rfl rfl rfl]
            exact Steps.refl _
          · show Q1 Z w_1 w_2 w_3 w_4 w_5 p0 h0 n0 _ T31.heap _
            rw [e31]
            exact ⟨by unfold sp1; rw [if_neg hc20, if_neg hc23, if_neg hc26, if_neg hc29], N0, rfl⟩
theorem d2_0 : decode prog_37_method_4_code 0 = .ok (.aload_n 0, 1) := by decide +kernel
theorem d2_1 : decode prog_37_method_4_code 1 = .ok (.getstatic 13, 3) := by decide +kernel
theorem d2_4 : decode prog_37_method_4_code 4 = .ok (.if_acmp .eq 10, 3) := by decide +kernel
theorem d2_14 : decode prog_37_method_4_code 14 = .ok (.iconst 1, 1) := by decide +kernel
theorem d2_15 : decode prog_37_method_4_code 15 = .ok (.goto 4, 3) := by decide +kernel
theorem d2_19 : decode prog_37_method_4_code 19 = .ok (.ireturn, 1) := by decide +kernel
theorem d2_7 : decode prog_37_method_4_code 7 = .ok (.aload_n 0, 1) := by decide +kernel
theorem d2_8 : decode prog_37_method_4_code 8 = .ok (.getstatic 16, 3) := by decide +kernel
theorem d2_11 : decode prog_37_method_4_code 11 = .ok (.if_acmp .ne 7, 3) := by decide +kernel
theorem d2_18 : decode prog_37_method_4_code 18 = .ok (.iconst 0, 1) := by decide +kernel
theorem pn_2 : plainName "com/example/pairoff/pairoff/Role" = true := by first | (simp [plainName, overriddenIn]; done) | decide +kernel
theorem ef_2 (m : MethodId) (r0 : Addr) : entryFrame m #[(.ref r0)] 1 = mkF m 0 #[.val (.ref r0)] [] := by first | (simp [entryFrame, mkF, argsToLocals, Value.category]; done) | rfl
def sp2 (w_2 : Addr) (w_3 : Addr) (r0 : Addr) : Int32 := (if r0 = w_2 then (1 : Int32) else (if r0 = w_3 then (1 : Int32) else (0 : Int32)))
def Q2 (Z : State) (w_1 : Addr) (w_2 : Addr) (w_3 : Addr) (w_4 : Addr) (w_5 : Addr) (r0 : Addr) (h0 : Heap) (n0 : Nat) (v : Option Value) (h : Heap) (L : List Loc) : Prop := v = some (.int (sp2 w_2 w_3 r0)) ∧ Fr n0 L ∧ h = h0
set_option maxRecDepth 65536 in
set_option maxHeartbeats 40000000 in
theorem rm2 (l : Launch) (Z : State) (a0 : Array Value) (hw : ∀ d ∈ tables_1, d.before a0 Z = true) (ws : List Jvm.Cond) (w_1 : Addr) (w_2 : Addr) (w_3 : Addr) (w_4 : Addr) (w_5 : Addr) (hS : StF Z w_1 w_2 w_3 w_4 w_5) (r0 : Addr) (h0 : Heap) (n0 : Nat) (O0 : Old Z n0 h0) :
    MetFree l Y1 (head1 (Jvm.Cond.code Y1 prog_37_method_4_code 1 (some .boolean) :: ws) ({ frames := 0, cells := 0, slots := 0, locals := 0 } : Room)) (fun a U => a = #[(.ref r0)] ∧ Z.Warmed39 U.vm ∧ U.heap = h0) (fun _ _ _ _ _ => True) (fun _ U o U' => ∃ v L, o = .returned v ∧ Q2 Z w_1 w_2 w_3 w_4 w_5 r0 h0 n0 v U'.heap L ∧ FrameEnd U o U' L ({ frames := 0, cells := 0, slots := 0, locals := 0 } : Room).cells ({ frames := 0, cells := 0, slots := 0, locals := 0 } : Room).slots) := by
  refine MetFree.of_bodySF (plainFor_of_name pn_2) hisR ?_
  intro p e s m args below meth c s₁ Bd hml0 hP hK
  obtain ⟨rfl, hZ, hh⟩ := hP
  have hx := Bd.exec
  have hby := Bd.bytes
  have hml : c.maxLocals = 1 := hml0
  have hown : s.vm.findClass "com/example/pairoff/pairoff/Role" = some m.cls := findClass_of_methodNamed Bd.named
  have hnm := (name_of_methodNamed Bd.named Bd.method).1
  have X0 : Stand p l e ({ frames := 0, cells := 0, slots := 0, locals := 0 } : Room) s m #[(.ref r0)] below meth c s₁ [] 0 0 := Stand.of_body Bd
  have e0 : s₁.heap = h0 := by rw [← hh, Bd.state]; rfl
  have N0 := Fr.nil n0
  have hS0 := hS
  obtain ⟨S_1, E_1, S_2, E_2, S_3, E_3, S_4, E_4, S_5, E_5, F_1_ordinal, F_2_ordinal, F_3_ordinal, F_4_ordinal, F_5_ordinal⟩ := hS
  have pre0 : ∀ t, Steps p.tables e below (s₁.setTop (mkF m 0 #[.val (.ref r0)] [])) t → Steps p.tables e below (s₁.setTop (entryFrame m #[(.ref r0)] 1)) t := fun t k => castTop (ef_2 m r0) k
  obtain ⟨T35, X35, e35, st35⟩ := getS2 X0 hx hZ hown (host := "") (Or.inl (hw _ (tk 13 rfl))) Via.refl e0 (S_2.ext O0.2) (g := (mkF m 1 #[.val (.ref r0)] [(.ref r0)])) rfl (hb hby d2_1)
  have pre36 : ∀ t, Steps p.tables e below (T35.setTop (mkF m 4 #[.val (.ref r0)] [(.ref w_2), (.ref r0)])) t → Steps p.tables e below (s₁.setTop (entryFrame m #[(.ref r0)] 1)) t := fun t kt => by
    refine pre0 t ?_
    show Steps p.tables e below (s₁.setTop (mkF m 0 #[.val (.ref r0)] [])) _
    refine XS.aloadN X0.here hx rfl (hb hby d2_0) rfl rfl ?_
    show Steps p.tables e below (s₁.setTop (mkF m 1 #[.val (.ref r0)] [(.ref r0)])) _
    refine st35 _ ?_
    show Steps p.tables e below (T35.setTop (mkF m 4 #[.val (.ref r0)] [(.ref w_2), (.ref r0)])) _
    exact kt
  by_cases hc37 : r0 = w_2
  · obtain ⟨fs, hr, hrun, hended, hW, hsame⟩ := X35.leave (v := some (.int (1 : Int32))) (fun h => by rw [Bd.returns] at h; cases h)
    refine ⟨_, _, pre36 _ ?_, hrun, hended, _, _, rfl, ?_, ⟨_, rfl⟩, hW, hsame.mono (by decide) (by decide)⟩
    · show Steps p.tables e below (T35.setTop (mkF m 4 #[.val (.ref r0)] [(.ref w_2), (.ref r0)])) _
      refine Jvm.RoadKit.acmp (g := (mkF m 4 #[.val (.ref r0)] [(.ref w_2), (.ref r0)])) X35 hx rfl rfl rfl (pc0 := 4) (pc' := 14) (same := true) rfl (hb hby d2_4) rfl (decide_eq_true (congrArg Value.ref hc37)) (by decide) (by decide) ?_
      show Steps p.tables e below (T35.setTop (mkF m 14 #[.val (.ref r0)] [])) _
      refine XS.iconst X35.here hx rfl (hb hby d2_14) ?_
      show Steps p.tables e below (T35.setTop (mkF m 15 #[.val (.ref r0)] [(.int (1 : Int32))])) _
      refine XS.goto X35.here hx rfl (pc0 := 15) (pc' := 19) rfl (hb hby d2_15) (by decide) (by decide) ?_
      show Steps p.tables e below (T35.setTop (mkF m 19 #[.val (.ref r0)] [(.int (1 : Int32))])) _
      exact retN X35 hx (t := .boolean) Bd.returns (by simp) (hb hby d2_19) hr
    · show Q2 Z w_1 w_2 w_3 w_4 w_5 r0 h0 n0 _ T35.heap _
      rw [e35]
      exact ⟨by unfold sp2; rw [if_pos hc37], N0, rfl⟩
  · obtain ⟨T38, X38, e38, st38⟩ := getS2 X35 hx hZ hown (host := "") (Or.inl (hw _ (tk 15 rfl))) Via.refl e35 (S_3.ext O0.2) (g := (mkF m 8 #[.val (.ref r0)] [(.ref r0)])) rfl (hb hby d2_8)
    have pre39 : ∀ t, Steps p.tables e below (T38.setTop (mkF m 11 #[.val (.ref r0)] [(.ref w_3), (.ref r0)])) t → Steps p.tables e below (s₁.setTop (entryFrame m #[(.ref r0)] 1)) t := fun t kt => by
      refine pre36 t ?_
      show Steps p.tables e below (T35.setTop (mkF m 4 #[.val (.ref r0)] [(.ref w_2), (.ref r0)])) _
      refine Jvm.RoadKit.acmp (g := (mkF m 4 #[.val (.ref r0)] [(.ref w_2), (.ref r0)])) X35 hx rfl rfl rfl (pc0 := 4) (pc' := 7) (same := false) rfl (hb hby d2_4) rfl (decide_eq_false fun q => hc37 (Value.ref.inj q)) (by decide) (by decide) ?_
      show Steps p.tables e below (T35.setTop (mkF m 7 #[.val (.ref r0)] [])) _
      refine XS.aloadN X35.here hx rfl (hb hby d2_7) rfl rfl ?_
      show Steps p.tables e below (T35.setTop (mkF m 8 #[.val (.ref r0)] [(.ref r0)])) _
      refine st38 _ ?_
      show Steps p.tables e below (T38.setTop (mkF m 11 #[.val (.ref r0)] [(.ref w_3), (.ref r0)])) _
      exact kt
    by_cases hc40 : r0 = w_3
    · obtain ⟨fs, hr, hrun, hended, hW, hsame⟩ := X38.leave (v := some (.int (1 : Int32))) (fun h => by rw [Bd.returns] at h; cases h)
      refine ⟨_, _, pre39 _ ?_, hrun, hended, _, _, rfl, ?_, ⟨_, rfl⟩, hW, hsame.mono (by decide) (by decide)⟩
      · show Steps p.tables e below (T38.setTop (mkF m 11 #[.val (.ref r0)] [(.ref w_3), (.ref r0)])) _
        refine Jvm.RoadKit.acmp (g := (mkF m 11 #[.val (.ref r0)] [(.ref w_3), (.ref r0)])) X38 hx rfl rfl rfl (pc0 := 11) (pc' := 14) (same := true) rfl (hb hby d2_11) rfl (decide_eq_true (congrArg Value.ref hc40)) (by decide) (by decide) ?_
        show Steps p.tables e below (T38.setTop (mkF m 14 #[.val (.ref r0)] [])) _
        refine XS.iconst X38.here hx rfl (hb hby d2_14) ?_
        show Steps p.tables e below (T38.setTop (mkF m 15 #[.val (.ref r0)] [(.int (1 : Int32))])) _
        refine XS.goto X38.here hx rfl (pc0 := 15) (pc' := 19) rfl (hb hby d2_15) (by decide) (by decide) ?_
        show Steps p.tables e below (T38.setTop (mkF m 19 #[.val (.ref r0)] [(.int (1 : Int32))])) _
        exact retN X38 hx (t := .boolean) Bd.returns (by simp) (hb hby d2_19) hr
      · show Q2 Z w_1 w_2 w_3 w_4 w_5 r0 h0 n0 _ T38.heap _
        rw [e38]
        exact ⟨by unfold sp2; rw [if_neg hc37, if_pos hc40], N0, rfl⟩
    · obtain ⟨fs, hr, hrun, hended, hW, hsame⟩ := X38.leave (v := some (.int (0 : Int32))) (fun h => by rw [Bd.returns] at h; cases h)
      refine ⟨_, _, pre39 _ ?_, hrun, hended, _, _, rfl, ?_, ⟨_, rfl⟩, hW, hsame.mono (by decide) (by decide)⟩
      · show Steps p.tables e below (T38.setTop (mkF m 11 #[.val (.ref r0)] [(.ref w_3), (.ref r0)])) _
        refine Jvm.RoadKit.acmp (g := (mkF m 11 #[.val (.ref r0)] [(.ref w_3), (.ref r0)])) X38 hx rfl rfl rfl (pc0 := 11) (pc' := 18) (same := false) rfl (hb hby d2_11) rfl (decide_eq_false fun q => hc40 (Value.ref.inj q)) (by decide) (by decide) ?_
        show Steps p.tables e below (T38.setTop (mkF m 18 #[.val (.ref r0)] [])) _
        refine XS.iconst X38.here hx rfl (hb hby d2_18) ?_
        show Steps p.tables e below (T38.setTop (mkF m 19 #[.val (.ref r0)] [(.int (0 : Int32))])) _
        exact retN X38 hx (t := .boolean) Bd.returns (by simp) (hb hby d2_19) hr
      · show Q2 Z w_1 w_2 w_3 w_4 w_5 r0 h0 n0 _ T38.heap _
        rw [e38]
        exact ⟨by unfold sp2; rw [if_neg hc37, if_neg hc40], N0, rfl⟩
theorem pd_0 : parseMethodDescriptor "(I)Lcom/example/pairoff/pairoff/Role;" = some ⟨[.int], some (.object "com/example/pairoff/pairoff/Role")⟩ := by decide +kernel
theorem pd_1 : parseMethodDescriptor "()Z" = some ⟨[], some .boolean⟩ := by decide +kernel
theorem pn_0 : plainName "com/example/pairoff/pairoff/RoleIsMarketMakerPinLaw" = true := by first | (simp [plainName, overriddenIn]; done) | decide +kernel
theorem ef_0 (m : MethodId) (p0 : Int32) : entryFrame m #[(.int p0)] maxLocals = mkF m 0 #[.val (.int p0), .unset, .unset, .unset] [] := by first | (simp [entryFrame, mkF, argsToLocals, Value.category, maxLocals]; done) | rfl
def sp0 (p0 : Int32) : Int32 := (if ((p0 &&& (2147483647 : Int32)) % (5 : Int32)) = (0 : Int32) then (1 : Int32) else (if ((p0 &&& (2147483647 : Int32)) % (5 : Int32)) = (1 : Int32) then (1 : Int32) else (if ((p0 &&& (2147483647 : Int32)) % (5 : Int32)) = (2 : Int32) then (1 : Int32) else (if ((p0 &&& (2147483647 : Int32)) % (5 : Int32)) = (3 : Int32) then (1 : Int32) else (if ((p0 &&& (2147483647 : Int32)) % (5 : Int32)) = (4 : Int32) then (1 : Int32) else (0 : Int32))))))
def Q0 (Z : State) (w_1 : Addr) (w_2 : Addr) (w_3 : Addr) (w_4 : Addr) (w_5 : Addr) (p0 : Int32) (h0 : Heap) (n0 : Nat) (v : Option Value) (h : Heap) (L : List Loc) : Prop := v = some (.int (sp0 p0)) ∧ Fr n0 L ∧ h = h0
set_option maxRecDepth 65536 in
set_option maxHeartbeats 40000000 in
theorem rm0 (l : Launch) (Z : State) (a0 : Array Value) (hw : ∀ d ∈ tables_1, d.before a0 Z = true) (ws : List Jvm.Cond) (w_1 : Addr) (w_2 : Addr) (w_3 : Addr) (w_4 : Addr) (w_5 : Addr) (hS : StF Z w_1 w_2 w_3 w_4 w_5) (p0 : Int32) (h0 : Heap) (n0 : Nat) (O0 : Old Z n0 h0) :
    MetFree l x (head1 (Jvm.Cond.code x code maxLocals ret :: ws) room_1) (fun a U => a = #[(.int p0)] ∧ Z.Warmed39 U.vm ∧ U.heap = h0) (fun _ _ _ _ _ => True) (fun _ U o U' => ∃ v L, o = .returned v ∧ Q0 Z w_1 w_2 w_3 w_4 w_5 p0 h0 n0 v U'.heap L ∧ FrameEnd U o U' L room_1.cells room_1.slots) := by
  refine MetFree.of_bodySF (plainFor_of_name pn_0) hisR ?_
  intro p e s m args below meth c s₁ Bd hml0 hP hK
  obtain ⟨rfl, hZ, hh⟩ := hP
  have hx := Bd.exec
  have hby := Bd.bytes
  have hml : c.maxLocals = 4 := hml0
  have hown : s.vm.findClass "com/example/pairoff/pairoff/RoleIsMarketMakerPinLaw" = some m.cls := findClass_of_methodNamed Bd.named
  have hnm := (name_of_methodNamed Bd.named Bd.method).1
  have X0 : Stand p l e room_1 s m #[(.int p0)] below meth c s₁ [] 0 0 := Stand.of_body Bd
  have e0 : s₁.heap = h0 := by rw [← hh, Bd.state]; rfl
  have N0 := Fr.nil n0
  have hS0 := hS
  obtain ⟨S_1, E_1, S_2, E_2, S_3, E_3, S_4, E_4, S_5, E_5, F_1_ordinal, F_2_ordinal, F_3_ordinal, F_4_ordinal, F_5_ordinal⟩ := hS
  have pre0 : ∀ t, Steps p.tables e below (s₁.setTop (mkF m 0 #[.val (.int p0), .unset, .unset, .unset] [])) t → Steps p.tables e below (s₁.setTop (entryFrame m #[(.int p0)] maxLocals)) t := fun t k => castTop (ef_0 m p0) k
  have pre32 : ∀ t, Steps p.tables e below (s₁.setTop (mkF m 8 #[.val (.int p0), .val (.int ((p0 &&& (2147483647 : Int32)) % (5 : Int32))), .unset, .unset] [(.int ((p0 &&& (2147483647 : Int32)) % (5 : Int32)))])) t → Steps p.tables e below (s₁.setTop (entryFrame m #[(.int p0)] maxLocals)) t := fun t kt => by
    refine pre0 t ?_
    show Steps p.tables e below (s₁.setTop (mkF m 0 #[.val (.int p0), .unset, .unset, .unset] [])) _
    refine XS.iloadN X0.here hx rfl (hb hby at_0) rfl ?_
    show Steps p.tables e below (s₁.setTop (mkF m 1 #[.val (.int p0), .unset, .unset, .unset] [(.int p0)])) _
    refine X0.ldcInt hx hown (mvT hZ (hw _ (tk 0 rfl))) (g := (mkF m 1 #[.val (.int p0), .unset, .unset, .unset] [(.int p0)])) rfl (hb hby at_1) _ ?_
    show Steps p.tables e below (s₁.setTop (mkF m 3 #[.val (.int p0), .unset, .unset, .unset] [(.int (2147483647 : Int32)), (.int p0)])) _
    refine XS.iand X0.here hx rfl (hb hby at_3) rfl ?_
    show Steps p.tables e below (s₁.setTop (mkF m 4 #[.val (.int p0), .unset, .unset, .unset] [(.int (p0 &&& (2147483647 : Int32)))])) _
    refine XS.iconst X0.here hx rfl (hb hby at_4) ?_
    show Steps p.tables e below (s₁.setTop (mkF m 5 #[.val (.int p0), .unset, .unset, .unset] [(.int (5 : Int32)), (.int (p0 &&& (2147483647 : Int32)))])) _
    refine iremM X0 hx rfl (hb hby at_5) rfl (by decide : ¬ ((5 : Int32) = (0 : Int32))) ?_
    show Steps p.tables e below (s₁.setTop (mkF m 6 #[.val (.int p0), .unset, .unset, .unset] [(.int ((p0 &&& (2147483647 : Int32)) % (5 : Int32)))])) _
    refine XS.istoreN X0.here hx rfl (hb hby at_6) rfl (l' := #[.val (.int p0), .val (.int ((p0 &&& (2147483647 : Int32)) % (5 : Int32))), .unset, .unset]) rfl ?_
    show Steps p.tables e below (s₁.setTop (mkF m 7 #[.val (.int p0), .val (.int ((p0 &&& (2147483647 : Int32)) % (5 : Int32))), .unset, .unset] [])) _
    refine XS.iloadN X0.here hx rfl (hb hby at_7) rfl ?_
    show Steps p.tables e below (s₁.setTop (mkF m 8 #[.val (.int p0), .val (.int ((p0 &&& (2147483647 : Int32)) % (5 : Int32))), .unset, .unset] [(.int ((p0 &&& (2147483647 : Int32)) % (5 : Int32)))])) _
    exact kt
  by_cases hc33 : ((p0 &&& (2147483647 : Int32)) % (5 : Int32)) = (0 : Int32)
  · obtain ⟨_, _, ⟨T34, L34, k34, n34⟩, -, X34, ⟨Lc34, hQ34, l34, y34, z34⟩, st34⟩ := Jvm.LawKit.callS X0 hx (y := Y0) hown (mvT hZ (hw _ (tk 1 rfl))) (mvT hZ (hw _ (tk 2 rfl))) (mvT hZ (hw _ (tk 3 rfl))) (mvT hZ (hw _ (tk 4 rfl))) (by decide) (backOf (W := 0) (rm1 l Z a0 hw [] w_1 w_2 w_3 w_4 w_5 hS0 ((p0 &&& (2147483647 : Int32)) % (5 : Int32)) h0 n0 O0) hZ (hw _ (tk 4 rfl)) (hw _ (tk 3 rfl)) (by decide) (by decide)) (g := (mkF m 8 #[.val (.int p0), .val (.int ((p0 &&& (2147483647 : Int32)) % (5 : Int32))), .unset, .unset] [(.int ((p0 &&& (2147483647 : Int32)) % (5 : Int32)))])) rfl (by rw [hml]; rfl) (argsL := [(.int ((p0 &&& (2147483647 : Int32)) % (5 : Int32)))]) (rest := []) (lenOf pd_0 rfl) rfl (by show 2 * 0 + _ ≤ _; exact Nat.le_of_eq rfl) (hb hby at_8) (fun _ _ => ⟨rfl, e0, (by decide : 0 + 0 ≤ _), (by decide : 0 + 0 ≤ _)⟩)
    dsimp only [Pt.U, Pt.locs, Pt.cells, Pt.slots] at X34 l34 y34 z34 st34 hQ34
    subst l34 y34 z34
    obtain ⟨rv34, N34q, e34⟩ := hQ34
    rw [show sp1 w_1 w_2 w_3 w_4 w_5 ((p0 &&& (2147483647 : Int32)) % (5 : Int32)) = (.ref w_1) from by unfold sp1; rw [if_pos hc33]] at rv34
    subst rv34
    have N34 := Fr.app N0 N34q
    obtain ⟨cq41, kq41, q41a, q41b, q41c⟩ := isOf hZ e34 (E_1.ext O0.2)
    obtain ⟨_, _, ⟨T41, L41, k41, n41⟩, -, X41, ⟨Lc41, hQ41, l41, y41, z41⟩, st41⟩ := X34.virtualBack hx (y := Y1) (z := Y1) hown (mvT hZ (hw _ (tk 8 rfl))) (mvT hZ (hw _ (tk 9 rfl))) (notFace_of_selects (args := #[]) (mvT hZ (hw _ (tk 11 rfl)))) (mvT hZ (hw _ (tk 11 rfl))) (mvT hZ (hw _ (tk 10 rfl))) (by decide) (backOf (W := 0) (rm2 l Z a0 hw [] w_1 w_2 w_3 w_4 w_5 hS0 w_1 h0 n0 O0) hZ (hw _ (tk 12 rfl)) (hw _ (tk 6 rfl)) (by decide) (by decide)) q41a q41c (g := (mkF m 29 #[.val (.int p0), .val (.int ((p0 &&& (2147483647 : Int32)) % (5 : Int32))), .val (.ref w_1), .val (.int (0 : Int32))] [(.ref w_1)])) rfl (by rw [hml]; rfl) (Steps.refl _) (argsL := []) (rest := []) (lenOf pd_1 rfl) rfl (by show 2 * 0 + _ ≤ _; exact Nat.le_of_eq rfl) (hb hby at_29) (fun _ _ => ⟨rfl, e34, (by decide : 0 + 0 ≤ _), (by decide : 0 + 0 ≤ _)⟩)
    dsimp only [Pt.U, Pt.locs, Pt.cells, Pt.slots] at X41 l41 y41 z41 st41 hQ41
    subst l41 y41 z41
    obtain ⟨rv41, N41q, e41⟩ := hQ41
    rw [show sp2 w_2 w_3 w_1 = (0 : Int32) from by unfold sp2; rw [if_neg (Fld.ne F_1_ordinal F_2_ordinal (by decide)), if_neg (Fld.ne F_1_ordinal F_3_ordinal (by decide))]] at rv41
    subst rv41
    have N41 := Fr.app N34 N41q
    obtain ⟨fs, hr, hrun, hended, hW, hsame⟩ := X41.leave (v := some (.int (1 : Int32))) (fun h => by rw [Bd.returns] at h; cases h)
    refine ⟨_, _, pre32 _ ?_, hrun, hended, _, _, rfl, ?_, ⟨_, rfl⟩, hW, hsame.mono (by decide) (by decide)⟩
    · show Steps p.tables e below (s₁.setTop (mkF m 8 #[.val (.int p0), .val (.int ((p0 &&& (2147483647 : Int32)) % (5 : Int32))), .unset, .unset] [(.int ((p0 &&& (2147483647 : Int32)) % (5 : Int32)))])) _
      refine st34 _ ?_
      show Steps p.tables e below (T34.setTop (mkF m 11 #[.val (.int p0), .val (.int ((p0 &&& (2147483647 : Int32)) % (5 : Int32))), .unset, .unset] [(.ref w_1)])) _
      refine XS.astoreN X34.here hx rfl (hb hby at_11) rfl rfl (l' := #[.val (.int p0), .val (.int ((p0 &&& (2147483647 : Int32)) % (5 : Int32))), .val (.ref w_1), .unset]) rfl ?_
      show Steps p.tables e below (T34.setTop (mkF m 12 #[.val (.int p0), .val (.int ((p0 &&& (2147483647 : Int32)) % (5 : Int32))), .val (.ref w_1), .unset] [])) _
      refine XS.iloadN X34.here hx rfl (hb hby at_12) rfl ?_
      show Steps p.tables e below (T34.setTop (mkF m 13 #[.val (.int p0), .val (.int ((p0 &&& (2147483647 : Int32)) % (5 : Int32))), .val (.ref w_1), .unset] [(.int ((p0 &&& (2147483647 : Int32)) % (5 : Int32)))])) _
      refine XS.iconst X34.here hx rfl (hb hby at_13) ?_
      show Steps p.tables e below (T34.setTop (mkF m 14 #[.val (.int p0), .val (.int ((p0 &&& (2147483647 : Int32)) % (5 : Int32))), .val (.ref w_1), .unset] [(.int (3 : Int32)), (.int ((p0 &&& (2147483647 : Int32)) % (5 : Int32)))])) _
      refine XS.icmpNo X34.here hx rfl (hb hby at_14) rfl (feq (by rw [hc33] <;> decide : ¬ (((p0 &&& (2147483647 : Int32)) % (5 : Int32)) = (3 : Int32)))).1 ?_
      show Steps p.tables e below (T34.setTop (mkF m 17 #[.val (.int p0), .val (.int ((p0 &&& (2147483647 : Int32)) % (5 : Int32))), .val (.ref w_1), .unset] [])) _
      refine XS.iloadN X34.here hx rfl (hb hby at_17) rfl ?_
      show Steps p.tables e below (T34.setTop (mkF m 18 #[.val (.int p0), .val (.int ((p0 &&& (2147483647 : Int32)) % (5 : Int32))), .val (.ref w_1), .unset] [(.int ((p0 &&& (2147483647 : Int32)) % (5 : Int32)))])) _
      refine XS.iconst X34.here hx rfl (hb hby at_18) ?_
      show Steps p.tables e below (T34.setTop (mkF m 19 #[.val (.int p0), .val (.int ((p0 &&& (2147483647 : Int32)) % (5 : Int32))), .val (.ref w_1), .unset] [(.int (4 : Int32)), (.int ((p0 &&& (2147483647 : Int32)) % (5 : Int32)))])) _
      refine XS.icmpYes X34.here hx rfl (pc0 := 19) (pc' := 26) rfl (hb hby at_19) rfl (feq (by rw [hc33] <;> decide : ¬ (((p0 &&& (2147483647 : Int32)) % (5 : Int32)) = (4 : Int32)))).2 (by decide) (by decide) ?_
      show Steps p.tables e below (T34.setTop (mkF m 26 #[.val (.int p0), .val (.int ((p0 &&& (2147483647 : Int32)) % (5 : Int32))), .val (.ref w_1), .unset] [])) _
      refine XS.iconst X34.here hx rfl (hb hby at_26) ?_
      show Steps p.tables e below (T34.setTop (mkF m 27 #[.val (.int p0), .val (.int ((p0 &&& (2147483647 : Int32)) % (5 : Int32))), .val (.ref w_1), .unset] [(.int (0 : Int32))])) _
      refine XS.istoreN X34.here hx rfl (hb hby at_27) rfl (l' := #[.val (.int p0), .val (.int ((p0 &&& (2147483647 : Int32)) % (5 : Int32))), .val (.ref w_1), .val (.int (0 : Int32))]) rfl ?_
      show Steps p.tables e below (T34.setTop (mkF m 28 #[.val (.int p0), .val (.int ((p0 &&& (2147483647 : Int32)) % (5 : Int32))), .val (.ref w_1), .val (.int (0 : Int32))] [])) _
      refine XS.aloadN X34.here hx rfl (hb hby at_28) rfl rfl ?_
      show Steps p.tables e below (T34.setTop (mkF m 29 #[.val (.int p0), .val (.int ((p0 &&& (2147483647 : Int32)) % (5 : Int32))), .val (.ref w_1), .val (.int (0 : Int32))] [(.ref w_1)])) _
      refine st41.trans ?_
      show Steps p.tables e below (T41.setTop (mkF m 32 #[.val (.int p0), .val (.int ((p0 &&& (2147483647 : Int32)) % (5 : Int32))), .val (.ref w_1), .val (.int (0 : Int32))] [(.int (0 : Int32))])) _
      refine XS.iloadN X41.here hx rfl (hb hby at_32) rfl ?_
      show Steps p.tables e below (T41.setTop (mkF m 33 #[.val (.int p0), .val (.int ((p0 &&& (2147483647 : Int32)) % (5 : Int32))), .val (.ref w_1), .val (.int (0 : Int32))] [(.int (0 : Int32)), (.int (0 : Int32))])) _
      refine XS.icmpNo X41.here hx rfl (hb hby at_33) rfl (teq (by decide : ((0 : Int32) = (0 : Int32)))).2 ?_
      show Steps p.tables e below (T41.setTop (mkF m 36 #[.val (.int p0), .val (.int ((p0 &&& (2147483647 : Int32)) % (5 : Int32))), .val (.ref w_1), .val (.int (0 : Int32))] [])) _
      refine XS.iconst X41.here hx rfl (hb hby at_36) ?_
      show Steps p.tables e below (T41.setTop (mkF m 37 #[.val (.int p0), .val (.int ((p0 &&& (2147483647 : Int32)) % (5 : Int32))), .val (.ref w_1), .val (.int (0 : Int32))] [(.int (1 : Int32))])) _
      refine XS.goto X41.here hx rfl (pc0 := 37) (pc' := 41) rfl (hb hby at_37) (by decide) (by decide) ?_
      show Steps p.tables e below (T41.setTop (mkF m 41 #[.val (.int p0), .val (.int ((p0 &&& (2147483647 : Int32)) % (5 : Int32))), .val (.ref w_1), .val (.int (0 : Int32))] [(.int (1 : Int32))])) _
      exact retN X41 hx (t := .boolean) Bd.returns (by simp) (hb hby at_41) hr
    · show Q0 Z w_1 w_2 w_3 w_4 w_5 p0 h0 n0 _ T41.heap _
      rw [e41]
      exact ⟨by unfold sp0; rw [if_pos hc33], N41, rfl⟩
  · by_cases hc42 : ((p0 &&& (2147483647 : Int32)) % (5 : Int32)) = (1 : Int32)
    · obtain ⟨_, _, ⟨T43, L43, k43, n43⟩, -, X43, ⟨Lc43, hQ43, l43, y43, z43⟩, st43⟩ := Jvm.LawKit.callS X0 hx (y := Y0) hown (mvT hZ (hw _ (tk 1 rfl))) (mvT hZ (hw _ (tk 2 rfl))) (mvT hZ (hw _ (tk 3 rfl))) (mvT hZ (hw _ (tk 4 rfl))) (by decide) (backOf (W := 0) (rm1 l Z a0 hw [] w_1 w_2 w_3 w_4 w_5 hS0 ((p0 &&& (2147483647 : Int32)) % (5 : Int32)) h0 n0 O0) hZ (hw _ (tk 4 rfl)) (hw _ (tk 3 rfl)) (by decide) (by decide)) (g := (mkF m 8 #[.val (.int p0), .val (.int ((p0 &&& (2147483647 : Int32)) % (5 : Int32))), .unset, .unset] [(.int ((p0 &&& (2147483647 : Int32)) % (5 : Int32)))])) rfl (by rw [hml]; rfl) (argsL := [(.int ((p0 &&& (2147483647 : Int32)) % (5 : Int32)))]) (rest := []) (lenOf pd_0 rfl) rfl (by show 2 * 0 + _ ≤ _; exact Nat.le_of_eq rfl) (hb hby at_8) (fun _ _ => ⟨rfl, e0, (by decide : 0 + 0 ≤ _), (by decide : 0 + 0 ≤ _)⟩)
      dsimp only [Pt.U, Pt.locs, Pt.cells, Pt.slots] at X43 l43 y43 z43 st43 hQ43
      subst l43 y43 z43
      obtain ⟨rv43, N43q, e43⟩ := hQ43
      rw [show sp1 w_1 w_2 w_3 w_4 w_5 ((p0 &&& (2147483647 : Int32)) % (5 : Int32)) = (.ref w_4) from by unfold sp1; rw [if_neg hc33, if_pos hc42]] at rv43
      subst rv43
      have N43 := Fr.app N0 N43q
      obtain ⟨cq44, kq44, q44a, q44b, q44c⟩ := isOf hZ e43 (E_4.ext O0.2)
      obtain ⟨_, _, ⟨T44, L44, k44, n44⟩, -, X44, ⟨Lc44, hQ44, l44, y44, z44⟩, st44⟩ := X43.virtualBack hx (y := Y1) (z := Y1) hown (mvT hZ (hw _ (tk 8 rfl))) (mvT hZ (hw _ (tk 9 rfl))) (notFace_of_selects (args := #[]) (mvT hZ (hw _ (tk 11 rfl)))) (mvT hZ (hw _ (tk 11 rfl))) (mvT hZ (hw _ (tk 10 rfl))) (by decide) (backOf (W := 0) (rm2 l Z a0 hw [] w_1 w_2 w_3 w_4 w_5 hS0 w_4 h0 n0 O0) hZ (hw _ (tk 12 rfl)) (hw _ (tk 6 rfl)) (by decide) (by decide)) q44a q44c (g := (mkF m 29 #[.val (.int p0), .val (.int ((p0 &&& (2147483647 : Int32)) % (5 : Int32))), .val (.ref w_4), .val (.int (0 : Int32))] [(.ref w_4)])) rfl (by rw [hml]; rfl) (Steps.refl _) (argsL := []) (rest := []) (lenOf pd_1 rfl) rfl (by show 2 * 0 + _ ≤ _; exact Nat.le_of_eq rfl) (hb hby at_29) (fun _ _ => ⟨rfl, e43, (by decide : 0 + 0 ≤ _), (by decide : 0 + 0 ≤ _)⟩)
      dsimp only [Pt.U, Pt.locs, Pt.cells, Pt.slots] at X44 l44 y44 z44 st44 hQ44
      subst l44 y44 z44
      obtain ⟨rv44, N44q, e44⟩ := hQ44
      rw [show sp2 w_2 w_3 w_4 = (0 : Int32) from by unfold sp2; rw [if_neg (Fld.ne F_4_ordinal F_2_ordinal (by decide)), if_neg (Fld.ne F_4_ordinal F_3_ordinal (by decide))]] at rv44
      subst rv44
      have N44 := Fr.app N43 N44q
      obtain ⟨fs, hr, hrun, hended, hW, hsame⟩ := X44.leave (v := some (.int (1 : Int32))) (fun h => by rw [Bd.returns] at h; cases h)
      refine ⟨_, _, pre32 _ ?_, hrun, hended, _, _, rfl, ?_, ⟨_, rfl⟩, hW, hsame.mono (by decide) (by decide)⟩
      · show Steps p.tables e below (s₁.setTop (mkF m 8 #[.val (.int p0), .val (.int ((p0 &&& (2147483647 : Int32)) % (5 : Int32))), .unset, .unset] [(.int ((p0 &&& (2147483647 : Int32)) % (5 : Int32)))])) _
        refine st43 _ ?_
        show Steps p.tables e below (T43.setTop (mkF m 11 #[.val (.int p0), .val (.int ((p0 &&& (2147483647 : Int32)) % (5 : Int32))), .unset, .unset] [(.ref w_4)])) _
        refine XS.astoreN X43.here hx rfl (hb hby at_11) rfl rfl (l' := #[.val (.int p0), .val (.int ((p0 &&& (2147483647 : Int32)) % (5 : Int32))), .val (.ref w_4), .unset]) rfl ?_
        show Steps p.tables e below (T43.setTop (mkF m 12 #[.val (.int p0), .val (.int ((p0 &&& (2147483647 : Int32)) % (5 : Int32))), .val (.ref w_4), .unset] [])) _
        refine XS.iloadN X43.here hx rfl (hb hby at_12) rfl ?_
        show Steps p.tables e below (T43.setTop (mkF m 13 #[.val (.int p0), .val (.int ((p0 &&& (2147483647 : Int32)) % (5 : Int32))), .val (.ref w_4), .unset] [(.int ((p0 &&& (2147483647 : Int32)) % (5 : Int32)))])) _
        refine XS.iconst X43.here hx rfl (hb hby at_13) ?_
        show Steps p.tables e below (T43.setTop (mkF m 14 #[.val (.int p0), .val (.int ((p0 &&& (2147483647 : Int32)) % (5 : Int32))), .val (.ref w_4), .unset] [(.int (3 : Int32)), (.int ((p0 &&& (2147483647 : Int32)) % (5 : Int32)))])) _
        refine XS.icmpNo X43.here hx rfl (hb hby at_14) rfl (feq (by rw [hc42] <;> decide : ¬ (((p0 &&& (2147483647 : Int32)) % (5 : Int32)) = (3 : Int32)))).1 ?_
        show Steps p.tables e below (T43.setTop (mkF m 17 #[.val (.int p0), .val (.int ((p0 &&& (2147483647 : Int32)) % (5 : Int32))), .val (.ref w_4), .unset] [])) _
        refine XS.iloadN X43.here hx rfl (hb hby at_17) rfl ?_
        show Steps p.tables e below (T43.setTop (mkF m 18 #[.val (.int p0), .val (.int ((p0 &&& (2147483647 : Int32)) % (5 : Int32))), .val (.ref w_4), .unset] [(.int ((p0 &&& (2147483647 : Int32)) % (5 : Int32)))])) _
        refine XS.iconst X43.here hx rfl (hb hby at_18) ?_
        show Steps p.tables e below (T43.setTop (mkF m 19 #[.val (.int p0), .val (.int ((p0 &&& (2147483647 : Int32)) % (5 : Int32))), .val (.ref w_4), .unset] [(.int (4 : Int32)), (.int ((p0 &&& (2147483647 : Int32)) % (5 : Int32)))])) _
        refine XS.icmpYes X43.here hx rfl (pc0 := 19) (pc' := 26) rfl (hb hby at_19) rfl (feq (by rw [hc42] <;> decide : ¬ (((p0 &&& (2147483647 : Int32)) % (5 : Int32)) = (4 : Int32)))).2 (by decide) (by decide) ?_
        show Steps p.tables e below (T43.setTop (mkF m 26 #[.val (.int p0), .val (.int ((p0 &&& (2147483647 : Int32)) % (5 : Int32))), .val (.ref w_4), .unset] [])) _
        refine XS.iconst X43.here hx rfl (hb hby at_26) ?_
        show Steps p.tables e below (T43.setTop (mkF m 27 #[.val (.int p0), .val (.int ((p0 &&& (2147483647 : Int32)) % (5 : Int32))), .val (.ref w_4), .unset] [(.int (0 : Int32))])) _
        refine XS.istoreN X43.here hx rfl (hb hby at_27) rfl (l' := #[.val (.int p0), .val (.int ((p0 &&& (2147483647 : Int32)) % (5 : Int32))), .val (.ref w_4), .val (.int (0 : Int32))]) rfl ?_
        show Steps p.tables e below (T43.setTop (mkF m 28 #[.val (.int p0), .val (.int ((p0 &&& (2147483647 : Int32)) % (5 : Int32))), .val (.ref w_4), .val (.int (0 : Int32))] [])) _
        refine XS.aloadN X43.here hx rfl (hb hby at_28) rfl rfl ?_
        show Steps p.tables e below (T43.setTop (mkF m 29 #[.val (.int p0), .val (.int ((p0 &&& (2147483647 : Int32)) % (5 : Int32))), .val (.ref w_4), .val (.int (0 : Int32))] [(.ref w_4)])) _
        refine st44.trans ?_
        show Steps p.tables e below (T44.setTop (mkF m 32 #[.val (.int p0), .val (.int ((p0 &&& (2147483647 : Int32)) % (5 : Int32))), .val (.ref w_4), .val (.int (0 : Int32))] [(.int (0 : Int32))])) _
        refine XS.iloadN X44.here hx rfl (hb hby at_32) rfl ?_
        show Steps p.tables e below (T44.setTop (mkF m 33 #[.val (.int p0), .val (.int ((p0 &&& (2147483647 : Int32)) % (5 : Int32))), .val (.ref w_4), .val (.int (0 : Int32))] [(.int (0 : Int32)), (.int (0 : Int32))])) _
        refine XS.icmpNo X44.here hx rfl (hb hby at_33) rfl (teq (by decide : ((0 : Int32) = (0 : Int32)))).2 ?_
        show Steps p.tables e below (T44.setTop (mkF m 36 #[.val (.int p0), .val (.int ((p0 &&& (2147483647 : Int32)) % (5 : Int32))), .val (.ref w_4), .val (.int (0 : Int32))] [])) _
        refine XS.iconst X44.here hx rfl (hb hby at_36) ?_
        show Steps p.tables e below (T44.setTop (mkF m 37 #[.val (.int p0), .val (.int ((p0 &&& (2147483647 : Int32)) % (5 : Int32))), .val (.ref w_4), .val (.int (0 : Int32))] [(.int (1 : Int32))])) _
        refine XS.goto X44.here hx rfl (pc0 := 37) (pc' := 41) rfl (hb hby at_37) (by decide) (by decide) ?_
        show Steps p.tables e below (T44.setTop (mkF m 41 #[.val (.int p0), .val (.int ((p0 &&& (2147483647 : Int32)) % (5 : Int32))), .val (.ref w_4), .val (.int (0 : Int32))] [(.int (1 : Int32))])) _
        exact retN X44 hx (t := .boolean) Bd.returns (by simp) (hb hby at_41) hr
      · show Q0 Z w_1 w_2 w_3 w_4 w_5 p0 h0 n0 _ T44.heap _
        rw [e44]
        exact ⟨by unfold sp0; rw [if_neg hc33, if_pos hc42], N44, rfl⟩
    · by_cases hc45 : ((p0 &&& (2147483647 : Int32)) % (5 : Int32)) = (2 : Int32)
      · obtain ⟨_, _, ⟨T46, L46, k46, n46⟩, -, X46, ⟨Lc46, hQ46, l46, y46, z46⟩, st46⟩ := Jvm.LawKit.callS X0 hx (y := Y0) hown (mvT hZ (hw _ (tk 1 rfl))) (mvT hZ (hw _ (tk 2 rfl))) (mvT hZ (hw _ (tk 3 rfl))) (mvT hZ (hw _ (tk 4 rfl))) (by decide) (backOf (W := 0) (rm1 l Z a0 hw [] w_1 w_2 w_3 w_4 w_5 hS0 ((p0 &&& (2147483647 : Int32)) % (5 : Int32)) h0 n0 O0) hZ (hw _ (tk 4 rfl)) (hw _ (tk 3 rfl)) (by decide) (by decide)) (g := (mkF m 8 #[.val (.int p0), .val (.int ((p0 &&& (2147483647 : Int32)) % (5 : Int32))), .unset, .unset] [(.int ((p0 &&& (2147483647 : Int32)) % (5 : Int32)))])) rfl (by rw [hml]; rfl) (argsL := [(.int ((p0 &&& (2147483647 : Int32)) % (5 : Int32)))]) (rest := []) (lenOf pd_0 rfl) rfl (by show 2 * 0 + _ ≤ _; exact Nat.le_of_eq rfl) (hb hby at_8) (fun _ _ => ⟨rfl, e0, (by decide : 0 + 0 ≤ _), (by decide : 0 + 0 ≤ _)⟩)
        dsimp only [Pt.U, Pt.locs, Pt.cells, Pt.slots] at X46 l46 y46 z46 st46 hQ46
        subst l46 y46 z46
        obtain ⟨rv46, N46q, e46⟩ := hQ46
        rw [show sp1 w_1 w_2 w_3 w_4 w_5 ((p0 &&& (2147483647 : Int32)) % (5 : Int32)) = (.ref w_5) from by unfold sp1; rw [if_neg hc33, if_neg hc42, if_pos hc45]] at rv46
        subst rv46
        have N46 := Fr.app N0 N46q
        obtain ⟨cq47, kq47, q47a, q47b, q47c⟩ := isOf hZ e46 (E_5.ext O0.2)
        obtain ⟨_, _, ⟨T47, L47, k47, n47⟩, -, X47, ⟨Lc47, hQ47, l47, y47, z47⟩, st47⟩ := X46.virtualBack hx (y := Y1) (z := Y1) hown (mvT hZ (hw _ (tk 8 rfl))) (mvT hZ (hw _ (tk 9 rfl))) (notFace_of_selects (args := #[]) (mvT hZ (hw _ (tk 11 rfl)))) (mvT hZ (hw _ (tk 11 rfl))) (mvT hZ (hw _ (tk 10 rfl))) (by decide) (backOf (W := 0) (rm2 l Z a0 hw [] w_1 w_2 w_3 w_4 w_5 hS0 w_5 h0 n0 O0) hZ (hw _ (tk 12 rfl)) (hw _ (tk 6 rfl)) (by decide) (by decide)) q47a q47c (g := (mkF m 29 #[.val (.int p0), .val (.int ((p0 &&& (2147483647 : Int32)) % (5 : Int32))), .val (.ref w_5), .val (.int (0 : Int32))] [(.ref w_5)])) rfl (by rw [hml]; rfl) (Steps.refl _) (argsL := []) (rest := []) (lenOf pd_1 rfl) rfl (by show 2 * 0 + _ ≤ _; exact Nat.le_of_eq rfl) (hb hby at_29) (fun _ _ => ⟨rfl, e46, (by decide : 0 + 0 ≤ _), (by decide : 0 + 0 ≤ _)⟩)
        dsimp only [Pt.U, Pt.locs, Pt.cells, Pt.slots] at X47 l47 y47 z47 st47 hQ47
        subst l47 y47 z47
        obtain ⟨rv47, N47q, e47⟩ := hQ47
        rw [show sp2 w_2 w_3 w_5 = (0 : Int32) from by unfold sp2; rw [if_neg (Fld.ne F_5_ordinal F_2_ordinal (by decide)), if_neg (Fld.ne F_5_ordinal F_3_ordinal (by decide))]] at rv47
        subst rv47
        have N47 := Fr.app N46 N47q
        obtain ⟨fs, hr, hrun, hended, hW, hsame⟩ := X47.leave (v := some (.int (1 : Int32))) (fun h => by rw [Bd.returns] at h; cases h)
        refine ⟨_, _, pre32 _ ?_, hrun, hended, _, _, rfl, ?_, ⟨_, rfl⟩, hW, hsame.mono (by decide) (by decide)⟩
        · show Steps p.tables e below (s₁.setTop (mkF m 8 #[.val (.int p0), .val (.int ((p0 &&& (2147483647 : Int32)) % (5 : Int32))), .unset, .unset] [(.int ((p0 &&& (2147483647 : Int32)) % (5 : Int32)))])) _
          refine st46 _ ?_
          show Steps p.tables e below (T46.setTop (mkF m 11 #[.val (.int p0), .val (.int ((p0 &&& (2147483647 : Int32)) % (5 : Int32))), .unset, .unset] [(.ref w_5)])) _
          refine XS.astoreN X46.here hx rfl (hb hby at_11) rfl rfl (l' := #[.val (.int p0), .val (.int ((p0 &&& (2147483647 : Int32)) % (5 : Int32))), .val (.ref w_5), .unset]) rfl ?_
          show Steps p.tables e below (T46.setTop (mkF m 12 #[.val (.int p0), .val (.int ((p0 &&& (2147483647 : Int32)) % (5 : Int32))), .val (.ref w_5), .unset] [])) _
          refine XS.iloadN X46.here hx rfl (hb hby at_12) rfl ?_
          show Steps p.tables e below (T46.setTop (mkF m 13 #[.val (.int p0), .val (.int ((p0 &&& (2147483647 : Int32)) % (5 : Int32))), .val (.ref w_5), .unset] [(.int ((p0 &&& (2147483647 : Int32)) % (5 : Int32)))])) _
          refine XS.iconst X46.here hx rfl (hb hby at_13) ?_
          show Steps p.tables e below (T46.setTop (mkF m 14 #[.val (.int p0), .val (.int ((p0 &&& (2147483647 : Int32)) % (5 : Int32))), .val (.ref w_5), .unset] [(.int (3 : Int32)), (.int ((p0 &&& (2147483647 : Int32)) % (5 : Int32)))])) _
          refine XS.icmpNo X46.here hx rfl (hb hby at_14) rfl (feq (by rw [hc45] <;> decide : ¬ (((p0 &&& (2147483647 : Int32)) % (5 : Int32)) = (3 : Int32)))).1 ?_
          show Steps p.tables e below (T46.setTop (mkF m 17 #[.val (.int p0), .val (.int ((p0 &&& (2147483647 : Int32)) % (5 : Int32))), .val (.ref w_5), .unset] [])) _
          refine XS.iloadN X46.here hx rfl (hb hby at_17) rfl ?_
          show Steps p.tables e below (T46.setTop (mkF m 18 #[.val (.int p0), .val (.int ((p0 &&& (2147483647 : Int32)) % (5 : Int32))), .val (.ref w_5), .unset] [(.int ((p0 &&& (2147483647 : Int32)) % (5 : Int32)))])) _
          refine XS.iconst X46.here hx rfl (hb hby at_18) ?_
          show Steps p.tables e below (T46.setTop (mkF m 19 #[.val (.int p0), .val (.int ((p0 &&& (2147483647 : Int32)) % (5 : Int32))), .val (.ref w_5), .unset] [(.int (4 : Int32)), (.int ((p0 &&& (2147483647 : Int32)) % (5 : Int32)))])) _
          refine XS.icmpYes X46.here hx rfl (pc0 := 19) (pc' := 26) rfl (hb hby at_19) rfl (feq (by rw [hc45] <;> decide : ¬ (((p0 &&& (2147483647 : Int32)) % (5 : Int32)) = (4 : Int32)))).2 (by decide) (by decide) ?_
          show Steps p.tables e below (T46.setTop (mkF m 26 #[.val (.int p0), .val (.int ((p0 &&& (2147483647 : Int32)) % (5 : Int32))), .val (.ref w_5), .unset] [])) _
          refine XS.iconst X46.here hx rfl (hb hby at_26) ?_
          show Steps p.tables e below (T46.setTop (mkF m 27 #[.val (.int p0), .val (.int ((p0 &&& (2147483647 : Int32)) % (5 : Int32))), .val (.ref w_5), .unset] [(.int (0 : Int32))])) _
          refine XS.istoreN X46.here hx rfl (hb hby at_27) rfl (l' := #[.val (.int p0), .val (.int ((p0 &&& (2147483647 : Int32)) % (5 : Int32))), .val (.ref w_5), .val (.int (0 : Int32))]) rfl ?_
          show Steps p.tables e below (T46.setTop (mkF m 28 #[.val (.int p0), .val (.int ((p0 &&& (2147483647 : Int32)) % (5 : Int32))), .val (.ref w_5), .val (.int (0 : Int32))] [])) _
          refine XS.aloadN X46.here hx rfl (hb hby at_28) rfl rfl ?_
          show Steps p.tables e below (T46.setTop (mkF m 29 #[.val (.int p0), .val (.int ((p0 &&& (2147483647 : Int32)) % (5 : Int32))), .val (.ref w_5), .val (.int (0 : Int32))] [(.ref w_5)])) _
          refine st47.trans ?_
          show Steps p.tables e below (T47.setTop (mkF m 32 #[.val (.int p0), .val (.int ((p0 &&& (2147483647 : Int32)) % (5 : Int32))), .val (.ref w_5), .val (.int (0 : Int32))] [(.int (0 : Int32))])) _
          refine XS.iloadN X47.here hx rfl (hb hby at_32) rfl ?_
          show Steps p.tables e below (T47.setTop (mkF m 33 #[.val (.int p0), .val (.int ((p0 &&& (2147483647 : Int32)) % (5 : Int32))), .val (.ref w_5), .val (.int (0 : Int32))] [(.int (0 : Int32)), (.int (0 : Int32))])) _
          refine XS.icmpNo X47.here hx rfl (hb hby at_33) rfl (teq (by decide : ((0 : Int32) = (0 : Int32)))).2 ?_
          show Steps p.tables e below (T47.setTop (mkF m 36 #[.val (.int p0), .val (.int ((p0 &&& (2147483647 : Int32)) % (5 : Int32))), .val (.ref w_5), .val (.int (0 : Int32))] [])) _
          refine XS.iconst X47.here hx rfl (hb hby at_36) ?_
          show Steps p.tables e below (T47.setTop (mkF m 37 #[.val (.int p0), .val (.int ((p0 &&& (2147483647 : Int32)) % (5 : Int32))), .val (.ref w_5), .val (.int (0 : Int32))] [(.int (1 : Int32))])) _
          refine XS.goto X47.here hx rfl (pc0 := 37) (pc' := 41) rfl (hb hby at_37) (by decide) (by decide) ?_
          show Steps p.tables e below (T47.setTop (mkF m 41 #[.val (.int p0), .val (.int ((p0 &&& (2147483647 : Int32)) % (5 : Int32))), .val (.ref w_5), .val (.int (0 : Int32))] [(.int (1 : Int32))])) _
          exact retN X47 hx (t := .boolean) Bd.returns (by simp) (hb hby at_41) hr
        · show Q0 Z w_1 w_2 w_3 w_4 w_5 p0 h0 n0 _ T47.heap _
          rw [e47]
          exact ⟨by unfold sp0; rw [if_neg hc33, if_neg hc42, if_pos hc45], N47, rfl⟩
      · by_cases hc48 : ((p0 &&& (2147483647 : Int32)) % (5 : Int32)) = (3 : Int32)
        · obtain ⟨_, _, ⟨T49, L49, k49, n49⟩, -, X49, ⟨Lc49, hQ49, l49, y49, z49⟩, st49⟩ := Jvm.LawKit.callS X0 hx (y := Y0) hown (mvT hZ (hw _ (tk 1 rfl))) (mvT hZ (hw _ (tk 2 rfl))) (mvT hZ (hw _ (tk 3 rfl))) (mvT hZ (hw _ (tk 4 rfl))) (by decide) (backOf (W := 0) (rm1 l Z a0 hw [] w_1 w_2 w_3 w_4 w_5 hS0 ((p0 &&& (2147483647 : Int32)) % (5 : Int32)) h0 n0 O0) hZ (hw _ (tk 4 rfl)) (hw _ (tk 3 rfl)) (by decide) (by decide)) (g := (mkF m 8 #[.val (.int p0), .val (.int ((p0 &&& (2147483647 : Int32)) % (5 : Int32))), .unset, .unset] [(.int ((p0 &&& (2147483647 : Int32)) % (5 : Int32)))])) rfl (by rw [hml]; rfl) (argsL := [(.int ((p0 &&& (2147483647 : Int32)) % (5 : Int32)))]) (rest := []) (lenOf pd_0 rfl) rfl (by show 2 * 0 + _ ≤ _; exact Nat.le_of_eq rfl) (hb hby at_8) (fun _ _ => ⟨rfl, e0, (by decide : 0 + 0 ≤ _), (by decide : 0 + 0 ≤ _)⟩)
          dsimp only [Pt.U, Pt.locs, Pt.cells, Pt.slots] at X49 l49 y49 z49 st49 hQ49
          subst l49 y49 z49
          obtain ⟨rv49, N49q, e49⟩ := hQ49
          rw [show sp1 w_1 w_2 w_3 w_4 w_5 ((p0 &&& (2147483647 : Int32)) % (5 : Int32)) = (.ref w_2) from by unfold sp1; rw [if_neg hc33, if_neg hc42, if_neg hc45, if_pos hc48]] at rv49
          subst rv49
          have N49 := Fr.app N0 N49q
          obtain ⟨cq50, kq50, q50a, q50b, q50c⟩ := isOf hZ e49 (E_2.ext O0.2)
          obtain ⟨_, _, ⟨T50, L50, k50, n50⟩, -, X50, ⟨Lc50, hQ50, l50, y50, z50⟩, st50⟩ := X49.virtualBack hx (y := Y1) (z := Y1) hown (mvT hZ (hw _ (tk 8 rfl))) (mvT hZ (hw _ (tk 9 rfl))) (notFace_of_selects (args := #[]) (mvT hZ (hw _ (tk 11 rfl)))) (mvT hZ (hw _ (tk 11 rfl))) (mvT hZ (hw _ (tk 10 rfl))) (by decide) (backOf (W := 0) (rm2 l Z a0 hw [] w_1 w_2 w_3 w_4 w_5 hS0 w_2 h0 n0 O0) hZ (hw _ (tk 12 rfl)) (hw _ (tk 6 rfl)) (by decide) (by decide)) q50a q50c (g := (mkF m 29 #[.val (.int p0), .val (.int ((p0 &&& (2147483647 : Int32)) % (5 : Int32))), .val (.ref w_2), .val (.int (1 : Int32))] [(.ref w_2)])) rfl (by rw [hml]; rfl) (Steps.refl _) (argsL := []) (rest := []) (lenOf pd_1 rfl) rfl (by show 2 * 0 + _ ≤ _; exact Nat.le_of_eq rfl) (hb hby at_29) (fun _ _ => ⟨rfl, e49, (by decide : 0 + 0 ≤ _), (by decide : 0 + 0 ≤ _)⟩)
          dsimp only [Pt.U, Pt.locs, Pt.cells, Pt.slots] at X50 l50 y50 z50 st50 hQ50
          subst l50 y50 z50
          obtain ⟨rv50, N50q, e50⟩ := hQ50
          rw [show sp2 w_2 w_3 w_2 = (1 : Int32) from by unfold sp2; rw [if_pos rfl]] at rv50
          subst rv50
          have N50 := Fr.app N49 N50q
          obtain ⟨fs, hr, hrun, hended, hW, hsame⟩ := X50.leave (v := some (.int (1 : Int32))) (fun h => by rw [Bd.returns] at h; cases h)
          refine ⟨_, _, pre32 _ ?_, hrun, hended, _, _, rfl, ?_, ⟨_, rfl⟩, hW, hsame.mono (by decide) (by decide)⟩
          · show Steps p.tables e below (s₁.setTop (mkF m 8 #[.val (.int p0), .val (.int ((p0 &&& (2147483647 : Int32)) % (5 : Int32))), .unset, .unset] [(.int ((p0 &&& (2147483647 : Int32)) % (5 : Int32)))])) _
            refine st49 _ ?_
            show Steps p.tables e below (T49.setTop (mkF m 11 #[.val (.int p0), .val (.int ((p0 &&& (2147483647 : Int32)) % (5 : Int32))), .unset, .unset] [(.ref w_2)])) _
            refine XS.astoreN X49.here hx rfl (hb hby at_11) rfl rfl (l' := #[.val (.int p0), .val (.int ((p0 &&& (2147483647 : Int32)) % (5 : Int32))), .val (.ref w_2), .unset]) rfl ?_
            show Steps p.tables e below (T49.setTop (mkF m 12 #[.val (.int p0), .val (.int ((p0 &&& (2147483647 : Int32)) % (5 : Int32))), .val (.ref w_2), .unset] [])) _
            refine XS.iloadN X49.here hx rfl (hb hby at_12) rfl ?_
            show Steps p.tables e below (T49.setTop (mkF m 13 #[.val (.int p0), .val (.int ((p0 &&& (2147483647 : Int32)) % (5 : Int32))), .val (.ref w_2), .unset] [(.int ((p0 &&& (2147483647 : Int32)) % (5 : Int32)))])) _
            refine XS.iconst X49.here hx rfl (hb hby at_13) ?_
            show Steps p.tables e below (T49.setTop (mkF m 14 #[.val (.int p0), .val (.int ((p0 &&& (2147483647 : Int32)) % (5 : Int32))), .val (.ref w_2), .unset] [(.int (3 : Int32)), (.int ((p0 &&& (2147483647 : Int32)) % (5 : Int32)))])) _
            refine XS.icmpYes X49.here hx rfl (pc0 := 14) (pc' := 22) rfl (hb hby at_14) rfl (teq hc48).1 (by decide) (by decide) ?_
            show Steps p.tables e below (T49.setTop (mkF m 22 #[.val (.int p0), .val (.int ((p0 &&& (2147483647 : Int32)) % (5 : Int32))), .val (.ref w_2), .unset] [])) _
            refine XS.iconst X49.here hx rfl (hb hby at_22) ?_
            show Steps p.tables e below (T49.setTop (mkF m 23 #[.val (.int p0), .val (.int ((p0 &&& (2147483647 : Int32)) % (5 : Int32))), .val (.ref w_2), .unset] [(.int (1 : Int32))])) _
            refine XS.goto X49.here hx rfl (pc0 := 23) (pc' := 27) rfl (hb hby at_23) (by decide) (by decide) ?_
            show Steps p.tables e below (T49.setTop (mkF m 27 #[.val (.int p0), .val (.int ((p0 &&& (2147483647 : Int32)) % (5 : Int32))), .val (.ref w_2), .unset] [(.int (1 : Int32))])) _
            refine XS.istoreN X49.here hx rfl (hb hby at_27) rfl (l' := #[.val (.int p0), .val (.int ((p0 &&& (2147483647 : Int32)) % (5 : Int32))), .val (.ref w_2), .val (.int (1 : Int32))]) rfl ?_
            show Steps p.tables e below (T49.setTop (mkF m 28 #[.val (.int p0), .val (.int ((p0 &&& (2147483647 : Int32)) % (5 : Int32))), .val (.ref w_2), .val (.int (1 : Int32))] [])) _
            refine XS.aloadN X49.here hx rfl (hb hby at_28) rfl rfl ?_
            show Steps p.tables e below (T49.setTop (mkF m 29 #[.val (.int p0), .val (.int ((p0 &&& (2147483647 : Int32)) % (5 : Int32))), .val (.ref w_2), .val (.int (1 : Int32))] [(.ref w_2)])) _
            refine st50.trans ?_
            show Steps p.tables e below (T50.setTop (mkF m 32 #[.val (.int p0), .val (.int ((p0 &&& (2147483647 : Int32)) % (5 : Int32))), .val (.ref w_2), .val (.int (1 : Int32))] [(.int (1 : Int32))])) _
            refine XS.iloadN X50.here hx rfl (hb hby at_32) rfl ?_
            show Steps p.tables e below (T50.setTop (mkF m 33 #[.val (.int p0), .val (.int ((p0 &&& (2147483647 : Int32)) % (5 : Int32))), .val (.ref w_2), .val (.int (1 : Int32))] [(.int (1 : Int32)), (.int (1 : Int32))])) _
            refine XS.icmpNo X50.here hx rfl (hb hby at_33) rfl (teq (by decide : ((1 : Int32) = (1 : Int32)))).2 ?_
            show Steps p.tables e below (T50.setTop (mkF m 36 #[.val (.int p0), .val (.int ((p0 &&& (2147483647 : Int32)) % (5 : Int32))), .val (.ref w_2), .val (.int (1 : Int32))] [])) _
            refine XS.iconst X50.here hx rfl (hb hby at_36) ?_
            show Steps p.tables e below (T50.setTop (mkF m 37 #[.val (.int p0), .val (.int ((p0 &&& (2147483647 : Int32)) % (5 : Int32))), .val (.ref w_2), .val (.int (1 : Int32))] [(.int (1 : Int32))])) _
            refine XS.goto X50.here hx rfl (pc0 := 37) (pc' := 41) rfl (hb hby at_37) (by decide) (by decide) ?_
            show Steps p.tables e below (T50.setTop (mkF m 41 #[.val (.int p0), .val (.int ((p0 &&& (2147483647 : Int32)) % (5 : Int32))), .val (.ref w_2), .val (.int (1 : Int32))] [(.int (1 : Int32))])) _
            exact retN X50 hx (t := .boolean) Bd.returns (by simp) (hb hby at_41) hr
          · show Q0 Z w_1 w_2 w_3 w_4 w_5 p0 h0 n0 _ T50.heap _
            rw [e50]
            exact ⟨by unfold sp0; rw [if_neg hc33, if_neg hc42, if_neg hc45, if_pos hc48], N50, rfl⟩
        · obtain ⟨_, _, ⟨T51, L51, k51, n51⟩, -, X51, ⟨Lc51, hQ51, l51, y51, z51⟩, st51⟩ := Jvm.LawKit.callS X0 hx (y := Y0) hown (mvT hZ (hw _ (tk 1 rfl))) (mvT hZ (hw _ (tk 2 rfl))) (mvT hZ (hw _ (tk 3 rfl))) (mvT hZ (hw _ (tk 4 rfl))) (by decide) (backOf (W := 0) (rm1 l Z a0 hw [] w_1 w_2 w_3 w_4 w_5 hS0 ((p0 &&& (2147483647 : Int32)) % (5 : Int32)) h0 n0 O0) hZ (hw _ (tk 4 rfl)) (hw _ (tk 3 rfl)) (by decide) (by decide)) (g := (mkF m 8 #[.val (.int p0), .val (.int ((p0 &&& (2147483647 : Int32)) % (5 : Int32))), .unset, .unset] [(.int ((p0 &&& (2147483647 : Int32)) % (5 : Int32)))])) rfl (by rw [hml]; rfl) (argsL := [(.int ((p0 &&& (2147483647 : Int32)) % (5 : Int32)))]) (rest := []) (lenOf pd_0 rfl) rfl (by show 2 * 0 + _ ≤ _; exact Nat.le_of_eq rfl) (hb hby at_8) (fun _ _ => ⟨rfl, e0, (by decide : 0 + 0 ≤ _), (by decide : 0 + 0 ≤ _)⟩)
          dsimp only [Pt.U, Pt.locs, Pt.cells, Pt.slots] at X51 l51 y51 z51 st51 hQ51
          subst l51 y51 z51
          obtain ⟨rv51, N51q, e51⟩ := hQ51
          rw [show sp1 w_1 w_2 w_3 w_4 w_5 ((p0 &&& (2147483647 : Int32)) % (5 : Int32)) = (.ref w_3) from by unfold sp1; rw [if_neg hc33, if_neg hc42, if_neg hc45, if_neg hc48]] at rv51
          subst rv51
          have N51 := Fr.app N0 N51q
          have pre52 : ∀ t, Steps p.tables e below (T51.setTop (mkF m 19 #[.val (.int p0), .val (.int ((p0 &&& (2147483647 : Int32)) % (5 : Int32))), .val (.ref w_3), .unset] [(.int (4 : Int32)), (.int ((p0 &&& (2147483647 : Int32)) % (5 : Int32)))])) t → Steps p.tables e below (s₁.setTop (entryFrame m #[(.int p0)] maxLocals)) t := fun t kt => by
            refine pre32 t ?_
            show Steps p.tables e below (s₁.setTop (mkF m 8 #[.val (.int p0), .val (.int ((p0 &&& (2147483647 : Int32)) % (5 : Int32))), .unset, .unset] [(.int ((p0 &&& (2147483647 : Int32)) % (5 : Int32)))])) _
            refine st51 _ ?_
            show Steps p.tables e below (T51.setTop (mkF m 11 #[.val (.int p0), .val (.int ((p0 &&& (2147483647 : Int32)) % (5 : Int32))), .unset, .unset] [(.ref w_3)])) _
            refine XS.astoreN X51.here hx rfl (hb hby at_11) rfl rfl (l' := #[.val (.int p0), .val (.int ((p0 &&& (2147483647 : Int32)) % (5 : Int32))), .val (.ref w_3), .unset]) rfl ?_
            show Steps p.tables e below (T51.setTop (mkF m 12 #[.val (.int p0), .val (.int ((p0 &&& (2147483647 : Int32)) % (5 : Int32))), .val (.ref w_3), .unset] [])) _
            refine XS.iloadN X51.here hx rfl (hb hby at_12) rfl ?_
            show Steps p.tables e below (T51.setTop (mkF m 13 #[.val (.int p0), .val (.int ((p0 &&& (2147483647 : Int32)) % (5 : Int32))), .val (.ref w_3), .unset] [(.int ((p0 &&& (2147483647 : Int32)) % (5 : Int32)))])) _
            refine XS.iconst X51.here hx rfl (hb hby at_13) ?_
            show Steps p.tables e below (T51.setTop (mkF m 14 #[.val (.int p0), .val (.int ((p0 &&& (2147483647 : Int32)) % (5 : Int32))), .val (.ref w_3), .unset] [(.int (3 : Int32)), (.int ((p0 &&& (2147483647 : Int32)) % (5 : Int32)))])) _
            refine XS.icmpNo X51.here hx rfl (hb hby at_14) rfl (feq hc48).1 ?_
            show Steps p.tables e below (T51.setTop (mkF m 17 #[.val (.int p0), .val (.int ((p0 &&& (2147483647 : Int32)) % (5 : Int32))), .val (.ref w_3), .unset] [])) _
            refine XS.iloadN X51.here hx rfl (hb hby at_17) rfl ?_
            show Steps p.tables e below (T51.setTop (mkF m 18 #[.val (.int p0), .val (.int ((p0 &&& (2147483647 : Int32)) % (5 : Int32))), .val (.ref w_3), .unset] [(.int ((p0 &&& (2147483647 : Int32)) % (5 : Int32)))])) _
            refine XS.iconst X51.here hx rfl (hb hby at_18) ?_
            show Steps p.tables e below (T51.setTop (mkF m 19 #[.val (.int p0), .val (.int ((p0 &&& (2147483647 : Int32)) % (5 : Int32))), .val (.ref w_3), .unset] [(.int (4 : Int32)), (.int ((p0 &&& (2147483647 : Int32)) % (5 : Int32)))])) _
            exact kt
          by_cases hc53 : ((p0 &&& (2147483647 : Int32)) % (5 : Int32)) = (4 : Int32)
          · obtain ⟨cq54, kq54, q54a, q54b, q54c⟩ := isOf hZ e51 (E_3.ext O0.2)
            obtain ⟨_, _, ⟨T54, L54, k54, n54⟩, -, X54, ⟨Lc54, hQ54, l54, y54, z54⟩, st54⟩ := X51.virtualBack hx (y := Y1) (z := Y1) hown (mvT hZ (hw _ (tk 8 rfl))) (mvT hZ (hw _ (tk 9 rfl))) (notFace_of_selects (args := #[]) (mvT hZ (hw _ (tk 11 rfl)))) (mvT hZ (hw _ (tk 11 rfl))) (mvT hZ (hw _ (tk 10 rfl))) (by decide) (backOf (W := 0) (rm2 l Z a0 hw [] w_1 w_2 w_3 w_4 w_5 hS0 w_3 h0 n0 O0) hZ (hw _ (tk 12 rfl)) (hw _ (tk 6 rfl)) (by decide) (by decide)) q54a q54c (g := (mkF m 29 #[.val (.int p0), .val (.int ((p0 &&& (2147483647 : Int32)) % (5 : Int32))), .val (.ref w_3), .val (.int (1 : Int32))] [(.ref w_3)])) rfl (by rw [hml]; rfl) (Steps.refl _) (argsL := []) (rest := []) (lenOf pd_1 rfl) rfl (by show 2 * 0 + _ ≤ _; exact Nat.le_of_eq rfl) (hb hby at_29) (fun _ _ => ⟨rfl, e51, (by decide : 0 + 0 ≤ _), (by decide : 0 + 0 ≤ _)⟩)
            dsimp only [Pt.U, Pt.locs, Pt.cells, Pt.slots] at X54 l54 y54 z54 st54 hQ54
            subst l54 y54 z54
            obtain ⟨rv54, N54q, e54⟩ := hQ54
            rw [show sp2 w_2 w_3 w_3 = (1 : Int32) from by unfold sp2; rw [if_neg (Fld.ne F_3_ordinal F_2_ordinal (by decide)), if_pos rfl]] at rv54
            subst rv54
            have N54 := Fr.app N51 N54q
            obtain ⟨fs, hr, hrun, hended, hW, hsame⟩ := X54.leave (v := some (.int (1 : Int32))) (fun h => by rw [Bd.returns] at h; cases h)
            refine ⟨_, _, pre52 _ ?_, hrun, hended, _, _, rfl, ?_, ⟨_, rfl⟩, hW, hsame.mono (by decide) (by decide)⟩
            · show Steps p.tables e below (T51.setTop (mkF m 19 #[.val (.int p0), .val (.int ((p0 &&& (2147483647 : Int32)) % (5 : Int32))), .val (.ref w_3), .unset] [(.int (4 : Int32)), (.int ((p0 &&& (2147483647 : Int32)) % (5 : Int32)))])) _
              refine XS.icmpNo X51.here hx rfl (hb hby at_19) rfl (teq hc53).2 ?_
              show Steps p.tables e below (T51.setTop (mkF m 22 #[.val (.int p0), .val (.int ((p0 &&& (2147483647 : Int32)) % (5 : Int32))), .val (.ref w_3), .unset] [])) _
              refine XS.iconst X51.here hx rfl (hb hby at_22) ?_
              show Steps p.tables e below (T51.setTop (mkF m 23 #[.val (.int p0), .val (.int ((p0 &&& (2147483647 : Int32)) % (5 : Int32))), .val (.ref w_3), .unset] [(.int (1 : Int32))])) _
              refine XS.goto X51.here hx rfl (pc0 := 23) (pc' := 27) rfl (hb hby at_23) (by decide) (by decide) ?_
              show Steps p.tables e below (T51.setTop (mkF m 27 #[.val (.int p0), .val (.int ((p0 &&& (2147483647 : Int32)) % (5 : Int32))), .val (.ref w_3), .unset] [(.int (1 : Int32))])) _
              refine XS.istoreN X51.here hx rfl (hb hby at_27) rfl (l' := #[.val (.int p0), .val (.int ((p0 &&& (2147483647 : Int32)) % (5 : Int32))), .val (.ref w_3), .val (.int (1 : Int32))]) rfl ?_
              show Steps p.tables e below (T51.setTop (mkF m 28 #[.val (.int p0), .val (.int ((p0 &&& (2147483647 : Int32)) % (5 : Int32))), .val (.ref w_3), .val (.int (1 : Int32))] [])) _
              refine XS.aloadN X51.here hx rfl (hb hby at_28) rfl rfl ?_
              show Steps p.tables e below (T51.setTop (mkF m 29 #[.val (.int p0), .val (.int ((p0 &&& (2147483647 : Int32)) % (5 : Int32))), .val (.ref w_3), .val (.int (1 : Int32))] [(.ref w_3)])) _
              refine st54.trans ?_
              show Steps p.tables e below (T54.setTop (mkF m 32 #[.val (.int p0), .val (.int ((p0 &&& (2147483647 : Int32)) % (5 : Int32))), .val (.ref w_3), .val (.int (1 : Int32))] [(.int (1 : Int32))])) _
              refine XS.iloadN X54.here hx rfl (hb hby at_32) rfl ?_
              show Steps p.tables e below (T54.setTop (mkF m 33 #[.val (.int p0), .val (.int ((p0 &&& (2147483647 : Int32)) % (5 : Int32))), .val (.ref w_3), .val (.int (1 : Int32))] [(.int (1 : Int32)), (.int (1 : Int32))])) _
              refine XS.icmpNo X54.here hx rfl (hb hby at_33) rfl (teq (by decide : ((1 : Int32) = (1 : Int32)))).2 ?_
              show Steps p.tables e below (T54.setTop (mkF m 36 #[.val (.int p0), .val (.int ((p0 &&& (2147483647 : Int32)) % (5 : Int32))), .val (.ref w_3), .val (.int (1 : Int32))] [])) _
              refine XS.iconst X54.here hx rfl (hb hby at_36) ?_
              show Steps p.tables e below (T54.setTop (mkF m 37 #[.val (.int p0), .val (.int ((p0 &&& (2147483647 : Int32)) % (5 : Int32))), .val (.ref w_3), .val (.int (1 : Int32))] [(.int (1 : Int32))])) _
              refine XS.goto X54.here hx rfl (pc0 := 37) (pc' := 41) rfl (hb hby at_37) (by decide) (by decide) ?_
              show Steps p.tables e below (T54.setTop (mkF m 41 #[.val (.int p0), .val (.int ((p0 &&& (2147483647 : Int32)) % (5 : Int32))), .val (.ref w_3), .val (.int (1 : Int32))] [(.int (1 : Int32))])) _
              exact retN X54 hx (t := .boolean) Bd.returns (by simp) (hb hby at_41) hr
            · show Q0 Z w_1 w_2 w_3 w_4 w_5 p0 h0 n0 _ T54.heap _
              rw [e54]
              exact ⟨by unfold sp0; rw [if_neg hc33, if_neg hc42, if_neg hc45, if_neg hc48, if_pos hc53], N54, rfl⟩
          · obtain ⟨cq55, kq55, q55a, q55b, q55c⟩ := isOf hZ e51 (E_3.ext O0.2)
            obtain ⟨_, _, ⟨T55, L55, k55, n55⟩, -, X55, ⟨Lc55, hQ55, l55, y55, z55⟩, st55⟩ := X51.virtualBack hx (y := Y1) (z := Y1) hown (mvT hZ (hw _ (tk 8 rfl))) (mvT hZ (hw _ (tk 9 rfl))) (notFace_of_selects (args := #[]) (mvT hZ (hw _ (tk 11 rfl)))) (mvT hZ (hw _ (tk 11 rfl))) (mvT hZ (hw _ (tk 10 rfl))) (by decide) (backOf (W := 0) (rm2 l Z a0 hw [] w_1 w_2 w_3 w_4 w_5 hS0 w_3 h0 n0 O0) hZ (hw _ (tk 12 rfl)) (hw _ (tk 6 rfl)) (by decide) (by decide)) q55a q55c (g := (mkF m 29 #[.val (.int p0), .val (.int ((p0 &&& (2147483647 : Int32)) % (5 : Int32))), .val (.ref w_3), .val (.int (0 : Int32))] [(.ref w_3)])) rfl (by rw [hml]; rfl) (Steps.refl _) (argsL := []) (rest := []) (lenOf pd_1 rfl) rfl (by show 2 * 0 + _ ≤ _; exact Nat.le_of_eq rfl) (hb hby at_29) (fun _ _ => ⟨rfl, e51, (by decide : 0 + 0 ≤ _), (by decide : 0 + 0 ≤ _)⟩)
            dsimp only [Pt.U, Pt.locs, Pt.cells, Pt.slots] at X55 l55 y55 z55 st55 hQ55
            subst l55 y55 z55
            obtain ⟨rv55, N55q, e55⟩ := hQ55
            rw [show sp2 w_2 w_3 w_3 = (1 : Int32) from by unfold sp2; rw [if_neg (Fld.ne F_3_ordinal F_2_ordinal (by decide)), if_pos rfl]] at rv55
            subst rv55
            have N55 := Fr.app N51 N55q
            obtain ⟨fs, hr, hrun, hended, hW, hsame⟩ := X55.leave (v := some (.int (0 : Int32))) (fun h => by rw [Bd.returns] at h; cases h)
            refine ⟨_, _, pre52 _ ?_, hrun, hended, _, _, rfl, ?_, ⟨_, rfl⟩, hW, hsame.mono (by decide) (by decide)⟩
            · show Steps p.tables e below (T51.setTop (mkF m 19 #[.val (.int p0), .val (.int ((p0 &&& (2147483647 : Int32)) % (5 : Int32))), .val (.ref w_3), .unset] [(.int (4 : Int32)), (.int ((p0 &&& (2147483647 : Int32)) % (5 : Int32)))])) _
              refine XS.icmpYes X51.here hx rfl (pc0 := 19) (pc' := 26) rfl (hb hby at_19) rfl (feq hc53).2 (by decide) (by decide) ?_
              show Steps p.tables e below (T51.setTop (mkF m 26 #[.val (.int p0), .val (.int ((p0 &&& (2147483647 : Int32)) % (5 : Int32))), .val (.ref w_3), .unset] [])) _
              refine XS.iconst X51.here hx rfl (hb hby at_26) ?_
              show Steps p.tables e below (T51.setTop (mkF m 27 #[.val (.int p0), .val (.int ((p0 &&& (2147483647 : Int32)) % (5 : Int32))), .val (.ref w_3), .unset] [(.int (0 : Int32))])) _
              refine XS.istoreN X51.here hx rfl (hb hby at_27) rfl (l' := #[.val (.int p0), .val (.int ((p0 &&& (2147483647 : Int32)) % (5 : Int32))), .val (.ref w_3), .val (.int (0 : Int32))]) rfl ?_
              show Steps p.tables e below (T51.setTop (mkF m 28 #[.val (.int p0), .val (.int ((p0 &&& (2147483647 : Int32)) % (5 : Int32))), .val (.ref w_3), .val (.int (0 : Int32))] [])) _
              refine XS.aloadN X51.here hx rfl (hb hby at_28) rfl rfl ?_
              show Steps p.tables e below (T51.setTop (mkF m 29 #[.val (.int p0), .val (.int ((p0 &&& (2147483647 : Int32)) % (5 : Int32))), .val (.ref w_3), .val (.int (0 : Int32))] [(.ref w_3)])) _
              refine st55.trans ?_
              show Steps p.tables e below (T55.setTop (mkF m 32 #[.val (.int p0), .val (.int ((p0 &&& (2147483647 : Int32)) % (5 : Int32))), .val (.ref w_3), .val (.int (0 : Int32))] [(.int (1 : Int32))])) _
              refine XS.iloadN X55.here hx rfl (hb hby at_32) rfl ?_
              show Steps p.tables e below (T55.setTop (mkF m 33 #[.val (.int p0), .val (.int ((p0 &&& (2147483647 : Int32)) % (5 : Int32))), .val (.ref w_3), .val (.int (0 : Int32))] [(.int (0 : Int32)), (.int (1 : Int32))])) _
              refine XS.icmpYes X55.here hx rfl (pc0 := 33) (pc' := 40) rfl (hb hby at_33) rfl (feq (by decide : ¬ ((1 : Int32) = (0 : Int32)))).2 (by decide) (by decide) ?_
              show Steps p.tables e below (T55.setTop (mkF m 40 #[.val (.int p0), .val (.int ((p0 &&& (2147483647 : Int32)) % (5 : Int32))), .val (.ref w_3), .val (.int (0 : Int32))] [])) _
              refine XS.iconst X55.here hx rfl (hb hby at_40) ?_
              show Steps p.tables e below (T55.setTop (mkF m 41 #[.val (.int p0), .val (.int ((p0 &&& (2147483647 : Int32)) % (5 : Int32))), .val (.ref w_3), .val (.int (0 : Int32))] [(.int (0 : Int32))])) _
              exact retN X55 hx (t := .boolean) Bd.returns (by simp) (hb hby at_41) hr
            · show Q0 Z w_1 w_2 w_3 w_4 w_5 p0 h0 n0 _ T55.heap _
              rw [e55]
              exact ⟨by unfold sp0; rw [if_neg hc33, if_neg hc42, if_neg hc45, if_neg hc48, if_neg hc53], N55, rfl⟩

theorem own_plain (p0 : Int32) : sp0 p0 = (1 : Int32) := by
  unfold sp0
  have r := own_rrem (p0 &&& (2147483647 : Int32)) (5 : Int32) 5 (own_rand p0 (2147483647 : Int32) 2147483648 (by decide) (by decide)).1 (by decide) (by decide)
  generalize ((p0 &&& (2147483647 : Int32)) % (5 : Int32)) = t at *
  have q : t.toInt = 0 ∨ t.toInt = 1 ∨ t.toInt = 2 ∨ t.toInt = 3 ∨ t.toInt = 4 := by omega
  rcases q with q | q | q | q | q
  · obtain rfl : t = 0 := own_eq (n := 0) (by decide) q
    decide
  · obtain rfl : t = 1 := own_eq (n := 1) (by decide) q
    decide
  · obtain rfl : t = 2 := own_eq (n := 2) (by decide) q
    decide
  · obtain rfl : t = 3 := own_eq (n := 3) (by decide) q
    decide
  · obtain rfl : t = 4 := own_eq (n := 4) (by decide) q
    decide
set_option maxRecDepth 65536 in
set_option maxHeartbeats 40000000 in
theorem comes_1 {Post : Tables → Env → Array Value → State → Outcome → State → Prop} (hpost : ∀ tb e args s v u, (limb_1_1.after args s (.returned v) u = true ∧ limb_1_2.after args s (.returned v) u = true ∧ True) → FrameEnd s (.returned v) u (Jvm.fieldLocs frame_1_writes args s ++ Jvm.arrayLocs frame_1_arrays args s ++ Jvm.staticLocs frame_1_statics s) 0 0 → Post tb e args s (.returned v) u) :
    ArmFor flags0 classFile x code maxLocals ret World_1 tables_1 room_1 Calls_1 rest_1 Pre_1 Post := by
  intro l hfl _ _ p e ha hc hk s m args below hf hA hF happ hP
  obtain ⟨hcalls, hrest, hpre⟩ := hP
  obtain ⟨-, -, -, hnamed, -, -, -, hat⟩ := (Spec.applies_iff hf).mp happ
  obtain ⟨hg, hn⟩ := and_e (Cond.before_iff.mp (show (Jvm.Cond.and given_1 narrow_1).before args s = true from hpre))
  obtain ⟨g56, g57⟩ := and_e hg
  obtain ⟨w0, rfl⟩ : ∃ w0 : Value, args = #[w0] := by
    have hs : args.size = 1 := by simpa [Cond.value, given_1] using g56
    obtain ⟨L⟩ := args
    match L, hs with
    | [w0], _ => exact ⟨w0, rfl⟩
  have hw := fun d (hd : d ∈ tables_1) => atoms_spec (ws := Jvm.Cond.code x code maxLocals ret :: tables_1) hat d (List.mem_cons_of_mem _ hd)
  have hfit : Fit s := fun {y c} hc i hi => by
    obtain ⟨ha, rfl⟩ := Array.getElem?_eq_some_iff.mp hc
    have q := List.all_eq_true.mp ((Array.all_eq_true_iff_forall_mem.mp hF) _ (Array.getElem_mem ha)) i (List.mem_range.mpr hi)
    simpa [Array.getElem?_eq_getElem hi] using q
  obtain ⟨i0, ei0⟩ := is_v g57
  obtain rfl : w0 = (.int i0) := Option.some.inj ei0
  obtain ⟨n1, n2⟩ := and_e hn
  obtain ⟨n3, n4⟩ := and_e n2
  obtain ⟨n5, n6⟩ := and_e n4
  obtain ⟨n7, n8⟩ := and_e n6
  obtain ⟨n9, n10⟩ := and_e n8
  obtain ⟨n11, n12⟩ := and_e n10
  obtain ⟨n13, n14⟩ := and_e n12
  obtain ⟨n15, n16⟩ := and_e n14
  obtain ⟨n17, n18⟩ := and_e n16
  obtain ⟨w_1, ew_1⟩ := exa_v n1
  have S_1 : Sta s s.heap "com/example/pairoff/pairoff/Role" "CUSTOMER" "Lcom/example/pairoff/pairoff/Role;" (.ref w_1) := Sta.start ew_1 (Or.inr ⟨(hw _ (tk 6 rfl)), (hw _ (tk 7 rfl))⟩)
  have E_1 : Exa s s.heap w_1 "com/example/pairoff/pairoff/Role" := Exa.start ew_1 n1
  obtain ⟨w_2, ew_2⟩ := exa_v n3
  have S_2 : Sta s s.heap "com/example/pairoff/pairoff/Role" "MARKET_MAKER" "Lcom/example/pairoff/pairoff/Role;" (.ref w_2) := Sta.start ew_2 (Or.inr ⟨(hw _ (tk 6 rfl)), (hw _ (tk 14 rfl))⟩)
  have E_2 : Exa s s.heap w_2 "com/example/pairoff/pairoff/Role" := Exa.start ew_2 n3
  obtain ⟨w_3, ew_3⟩ := exa_v n9
  have S_3 : Sta s s.heap "com/example/pairoff/pairoff/Role" "SPECIALIST" "Lcom/example/pairoff/pairoff/Role;" (.ref w_3) := Sta.start ew_3 (Or.inr ⟨(hw _ (tk 6 rfl)), (hw _ (tk 16 rfl))⟩)
  have E_3 : Exa s s.heap w_3 "com/example/pairoff/pairoff/Role" := Exa.start ew_3 n9
  obtain ⟨w_4, ew_4⟩ := exa_v n13
  have S_4 : Sta s s.heap "com/example/pairoff/pairoff/Role" "PROFESSIONAL" "Lcom/example/pairoff/pairoff/Role;" (.ref w_4) := Sta.start ew_4 (Or.inr ⟨(hw _ (tk 6 rfl)), (hw _ (tk 19 rfl))⟩)
  have E_4 : Exa s s.heap w_4 "com/example/pairoff/pairoff/Role" := Exa.start ew_4 n13
  obtain ⟨w_5, ew_5⟩ := exa_v n17
  have S_5 : Sta s s.heap "com/example/pairoff/pairoff/Role" "BROKER_DEALER" "Lcom/example/pairoff/pairoff/Role;" (.ref w_5) := Sta.start ew_5 (Or.inr ⟨(hw _ (tk 6 rfl)), (hw _ (tk 22 rfl))⟩)
  have E_5 : Exa s s.heap w_5 "com/example/pairoff/pairoff/Role" := Exa.start ew_5 n17
  have F_1_ordinal : Fld s s.heap w_1 "java/lang/Enum" "ordinal" "I" (.int (0 : Int32)) := own_fld ew_1 n5
  have F_2_ordinal : Fld s s.heap w_2 "java/lang/Enum" "ordinal" "I" (.int (3 : Int32)) := own_fld ew_2 n7
  have F_3_ordinal : Fld s s.heap w_3 "java/lang/Enum" "ordinal" "I" (.int (4 : Int32)) := own_fld ew_3 n11
  have F_4_ordinal : Fld s s.heap w_4 "java/lang/Enum" "ordinal" "I" (.int (1 : Int32)) := own_fld ew_4 n15
  have F_5_ordinal : Fld s s.heap w_5 "java/lang/Enum" "ordinal" "I" (.int (2 : Int32)) := own_fld ew_5 n18
  have hS : StF s w_1 w_2 w_3 w_4 w_5 := ⟨S_1, E_1, S_2, E_2, S_3, E_3, S_4, E_4, S_5, E_5, F_1_ordinal, F_2_ordinal, F_3_ordinal, F_4_ordinal, F_5_ordinal⟩
  obtain ⟨n, o, h1, h2, h3, _, L, rfl, ⟨hv, N, -⟩, hq⟩ := rm0 l s _ hw tables_1 w_1 w_2 w_3 w_4 w_5 hS i0 s.heap s.heap.size (Old.start s) p e ha hc hk s m _ below hf ((Spec.applies_iff_loose hf).mp happ).1 ⟨rfl, State.Warmed39.refl s, rfl⟩ trivial
  rw [own_plain i0] at hv
  subst hv
  refine ⟨n, _, h1, h2, h3, hpost _ _ _ _ _ _ ⟨Cond.after_iff.mpr rfl, Cond.after_iff.mpr (eq_i res_at (Term.int_eval (1)) rfl), trivial⟩ ⟨hq.1, hq.2.1, (hq.2.2.sift fun y hy => Or.inr (N y hy)).mono (by decide) (by decide)⟩⟩
theorem main_1_1 : Claimed_1_1 := comes_1 fun _ _ _ _ _ _ h hF => ⟨h.1, hF⟩
theorem main_1_2 : Claimed_1_2 := comes_1 fun _ _ _ _ _ _ h hF => ⟨h.2.1, hF⟩
end Jvm.Pilot.@@N@@
namespace Jvm.Pilot.@@N@@
open Jvm Jvm.ClassFile Sem Op Lib Jvm.Free Jvm.Stand Jvm.Pilot.@@N@@.Jvm.D
/-! MADE BY PROGRAM (witnessworld.py) out of the Statement's table words and the real class files: 12 classes; the members and pool entries that the words name. The judged class is class 1, her method 2. -/
namespace start1
open Jvm.ClassFile
def u (s : String) : CpInfo := .utf8 (stringToUtf16 s)
/-- a pool by its gaps: so many unusable entries, then the entry; so many at the end -/
def gap : Nat → List CpInfo → List CpInfo
  | 0, r => r
  | n + 1, r => .unusable :: gap n r
def poolList (es : List (Nat × CpInfo)) (last : Nat) : List CpInfo := es.foldr (fun e r => gap e.1 (e.2 :: r)) (gap last [])
def pool (es : List (Nat × CpInfo)) (last : Nat) : Array CpInfo := ⟨poolList es last⟩
def fileOf (pool : Array CpInfo) (this : Nat) (attrs : Array Attribute := #[]) (ms : Array MethodInfo := #[]) (fl : Nat := 33) (sup : Nat := 0) (ifs : Array Nat := #[]) (fds : Array FieldInfo := #[]) : ClassFile where
  minorVersion := 0
  majorVersion := 65
  constantPool := pool
  accessFlags := fl
  thisClass := this
  superClass := sup
  interfaces := ifs
  fields := fds
  methods := ms
  attributes := attrs
def plain (name : String) (sup : Option ClassId) : Class where
  name := name
  kind := .ordinary
  loader := none
  accessFlags := 33
  super := sup
  interfaces := #[]
  cf := none
  fields := #[]
  methods := #[]
  instanceTypes := #[]
  staticTypes := #[]
  resolved := #[]
  callSites := []
  init := .initialized
  statics := none
  mirror := none

def pool0 : Array CpInfo := pool [(5, u "<init>"), (0, u "()V"), (1, .class_ 10), (1, u "java/lang/Object")] 113

def k0m0 : Method := { name := "<init>", desc := "()V", sig := { parameters := [], returnType := none }, accessFlags := 1, code := none }
/-- java/lang/Object -/
def k0 : Class := { plain "java/lang/Object" none with
  accessFlags := 33
  interfaces := #[]
  cf := some (fileOf pool0 8 #[] #[{ accessFlags := 1, nameIndex := 5, descriptorIndex := 6, attributes := #[] }] 33 0 #[] #[])
  fields := #[]
  methods := #[k0m0]
  instanceTypes := #[]
  staticTypes := #[]
  resolved := Array.replicate 124 none
  statics := none }

def pool1 : Array CpInfo := pool [(2, .class_ 4), (1, u "java/lang/Object"), (0, u "<init>"), (0, u "()V"), (0, .fieldref 8 9), (0, .class_ 10), (0, .nameAndType 11 12), (0, u "com/example/pairoff/pairoff/Role"), (0, u "CUSTOMER"), (0, u "Lcom/example/pairoff/pairoff/Role;"), (0, .fieldref 8 14), (0, .nameAndType 15 12), (0, u "PROFESSIONAL"), (0, .fieldref 8 17), (0, .nameAndType 18 12), (0, u "BROKER_DEALER"), (0, .fieldref 8 20), (0, .nameAndType 21 12), (0, u "MARKET_MAKER"), (0, .fieldref 8 23), (0, .nameAndType 24 12), (0, u "SPECIALIST"), (0, .integer 2147483647), (0, .methodref 27 28), (0, .class_ 29), (0, .nameAndType 30 31), (0, u "com/example/pairoff/pairoff/RoleIsMarketMakerPinLaw"), (0, u "pick"), (0, u "(I)Lcom/example/pairoff/pairoff/Role;"), (0, .methodref 8 33), (0, .nameAndType 34 35), (0, u "isMarketMaker"), (0, u "()Z"), (3, u "law"), (0, u "(I)Z")] 2

def k1m0 : Method := { name := "<init>", desc := "()V", sig := { parameters := [], returnType := none }, accessFlags := 2, code := none }
def k1c1 : Code := { maxStack := 2, maxLocals := 1, code := method_2_code, exceptionTable := #[], attributes := #[] }
def k1m1 : Method := { name := "pick", desc := "(I)Lcom/example/pairoff/pairoff/Role;", sig := { parameters := [.int], returnType := some (.object "com/example/pairoff/pairoff/Role") }, accessFlags := 10, code := some k1c1 }
def k1c2 : Code := { maxStack := 2, maxLocals := 4, code := code, exceptionTable := #[], attributes := #[] }
def k1m2 : Method := { name := "law", desc := "(I)Z", sig := { parameters := [.int], returnType := some .boolean }, accessFlags := 9, code := some k1c2 }
/-- com/example/pairoff/pairoff/RoleIsMarketMakerPinLaw -/
def k1 : Class := { plain "com/example/pairoff/pairoff/RoleIsMarketMakerPinLaw" (some 0) with
  accessFlags := 49
  interfaces := #[]
  cf := some (fileOf pool1 27 #[] #[{ accessFlags := 2, nameIndex := 5, descriptorIndex := 6, attributes := #[] }, { accessFlags := 10, nameIndex := 30, descriptorIndex := 31, attributes := #[] }, { accessFlags := 9, nameIndex := 39, descriptorIndex := 40, attributes := #[] }] 49 2 #[] #[])
  fields := #[]
  methods := #[k1m0, k1m1, k1m2]
  instanceTypes := #[]
  staticTypes := #[]
  resolved := Array.replicate 43 none
  statics := none }

def pool2 : Array CpInfo := pool [(1, .class_ 2), (0, u "java/lang/constant/Constable"), (0, .class_ 4), (0, u "java/lang/Object")] 6

/-- java/lang/constant/Constable -/
def k2 : Class := { plain "java/lang/constant/Constable" (some 0) with
  accessFlags := 1537
  interfaces := #[]
  cf := some (fileOf pool2 1 #[] #[] 1537 3 #[] #[])
  fields := #[]
  methods := #[]
  instanceTypes := #[]
  staticTypes := #[]
  resolved := Array.replicate 11 none
  statics := none }

def pool3 : Array CpInfo := pool [(1, .class_ 2), (0, u "java/lang/Comparable"), (0, .class_ 4), (0, u "java/lang/Object")] 7

/-- java/lang/Comparable -/
def k3 : Class := { plain "java/lang/Comparable" (some 0) with
  accessFlags := 1537
  interfaces := #[]
  cf := some (fileOf pool3 1 #[] #[] 1537 3 #[] #[])
  fields := #[]
  methods := #[]
  instanceTypes := #[]
  staticTypes := #[]
  resolved := Array.replicate 12 none
  statics := none }

def pool4 : Array CpInfo := pool [(1, .class_ 2), (0, u "java/io/Serializable"), (0, .class_ 4), (0, u "java/lang/Object")] 2

/-- java/io/Serializable -/
def k4 : Class := { plain "java/io/Serializable" (some 0) with
  accessFlags := 1537
  interfaces := #[]
  cf := some (fileOf pool4 1 #[] #[] 1537 3 #[] #[])
  fields := #[]
  methods := #[]
  instanceTypes := #[]
  staticTypes := #[]
  resolved := Array.replicate 7 none
  statics := none }

def pool5 : Array CpInfo := pool [(2, .class_ 4), (1, u "java/lang/Enum"), (0, u "name"), (0, u "Ljava/lang/String;"), (2, u "ordinal"), (0, u "I"), (1, .class_ 14), (1, u "java/lang/Object"), (4, u "hash"), (86, .class_ 108), (1, u "java/lang/Enum$EnumDesc"), (2, .class_ 112), (0, u "java/lang/constant/Constable"), (0, .class_ 114), (0, u "java/lang/Comparable"), (0, .class_ 116), (0, u "java/io/Serializable")] 87

/-- java/lang/Enum -/
def k5 : Class := { plain "java/lang/Enum" (some 0) with
  accessFlags := 1057
  interfaces := #[2, 3, 4]
  cf := some (fileOf pool5 2 #[.nestMembers #[106]] #[] 1057 12 #[111, 113, 115] #[{ accessFlags := 18, nameIndex := 5, descriptorIndex := 6, attributes := #[] }, { accessFlags := 18, nameIndex := 9, descriptorIndex := 10, attributes := #[] }, { accessFlags := 2, nameIndex := 19, descriptorIndex := 10, attributes := #[] }])
  fields := #[{ name := "name", type := (.object "java/lang/String"), accessFlags := 18, slot := 0, constantValue := 0 }, { name := "ordinal", type := .int, accessFlags := 18, slot := 1, constantValue := 0 }, { name := "hash", type := .int, accessFlags := 2, slot := 2, constantValue := 0 }]
  methods := #[]
  instanceTypes := #[(.object "java/lang/String"), .int, .int]
  staticTypes := #[]
  resolved := Array.replicate 204 none
  statics := none }

def pool6 : Array CpInfo := pool [(1, .class_ 2), (0, u "com/example/pairoff/pairoff/Role"), (2, u "CUSTOMER"), (0, u "Lcom/example/pairoff/pairoff/Role;"), (2, u "PROFESSIONAL"), (2, u "BROKER_DEALER"), (0, .fieldref 1 14), (0, .nameAndType 15 6), (0, u "MARKET_MAKER"), (0, .fieldref 1 17), (0, .nameAndType 18 6), (0, u "SPECIALIST"), (2, u "$VALUES"), (0, u "[Lcom/example/pairoff/pairoff/Role;"), (6, .class_ 31), (1, u "java/lang/Enum"), (8, u "label"), (0, u "Ljava/lang/String;"), (29, u "isMarketMaker"), (0, u "()Z")] 8

def k6c0 : Code := { maxStack := 2, maxLocals := 1, code := prog_37_method_4_code, exceptionTable := #[], attributes := #[] }
def k6m0 : Method := { name := "isMarketMaker", desc := "()Z", sig := { parameters := [], returnType := some .boolean }, accessFlags := 1, code := some k6c0 }
/-- com/example/pairoff/pairoff/Role -/
def k6 : Class := { plain "com/example/pairoff/pairoff/Role" (some 5) with
  accessFlags := 16433
  interfaces := #[]
  cf := some (fileOf pool6 1 #[] #[{ accessFlags := 1, nameIndex := 71, descriptorIndex := 72, attributes := #[] }] 16433 29 #[] #[{ accessFlags := 16409, nameIndex := 5, descriptorIndex := 6, attributes := #[] }, { accessFlags := 16409, nameIndex := 9, descriptorIndex := 6, attributes := #[] }, { accessFlags := 16409, nameIndex := 12, descriptorIndex := 6, attributes := #[] }, { accessFlags := 16409, nameIndex := 15, descriptorIndex := 6, attributes := #[] }, { accessFlags := 16409, nameIndex := 18, descriptorIndex := 6, attributes := #[] }, { accessFlags := 18, nameIndex := 40, descriptorIndex := 41, attributes := #[] }, { accessFlags := 4122, nameIndex := 21, descriptorIndex := 22, attributes := #[] }])
  fields := #[{ name := "CUSTOMER", type := (.object "com/example/pairoff/pairoff/Role"), accessFlags := 16409, slot := 0, constantValue := 0 }, { name := "PROFESSIONAL", type := (.object "com/example/pairoff/pairoff/Role"), accessFlags := 16409, slot := 1, constantValue := 0 }, { name := "BROKER_DEALER", type := (.object "com/example/pairoff/pairoff/Role"), accessFlags := 16409, slot := 2, constantValue := 0 }, { name := "MARKET_MAKER", type := (.object "com/example/pairoff/pairoff/Role"), accessFlags := 16409, slot := 3, constantValue := 0 }, { name := "SPECIALIST", type := (.object "com/example/pairoff/pairoff/Role"), accessFlags := 16409, slot := 4, constantValue := 0 }, { name := "label", type := (.object "java/lang/String"), accessFlags := 18, slot := 3, constantValue := 0 }, { name := "$VALUES", type := (.array (.object "com/example/pairoff/pairoff/Role")), accessFlags := 4122, slot := 5, constantValue := 0 }]
  methods := #[k6m0]
  instanceTypes := #[(.object "java/lang/String"), .int, .int, (.object "java/lang/String")]
  staticTypes := #[(.object "com/example/pairoff/pairoff/Role"), (.object "com/example/pairoff/pairoff/Role"), (.object "com/example/pairoff/pairoff/Role"), (.object "com/example/pairoff/pairoff/Role"), (.object "com/example/pairoff/pairoff/Role"), (.array (.object "com/example/pairoff/pairoff/Role"))]
  resolved := Array.replicate 81 none
  statics := some 0 }

def pool7 : Array CpInfo := pool [(1, u "java/lang/Cloneable"), (0, .class_ 1), (0, u "java/lang/Object"), (0, .class_ 3)] 3

/-- java/lang/Cloneable -/
def k7 : Class := { plain "java/lang/Cloneable" (some 0) with
  accessFlags := 1537
  interfaces := #[]
  cf := some (fileOf pool7 2 #[] #[] 1537 4 #[] #[])
  fields := #[]
  methods := #[]
  instanceTypes := #[]
  staticTypes := #[]
  resolved := Array.replicate 8 none
  statics := none }

/-- the primitive byte -/
def k8 : Class := { plain "byte" none with kind := .primitive 'B', accessFlags := 0x411 }
/-- [B -/
def k9 : Class := { plain "[B" (some 0) with kind := .array 8 .byte, interfaces := #[7, 4], accessFlags := 1041 }

/-- the primitive int -/
def k10 : Class := { plain "int" none with kind := .primitive 'I', accessFlags := 0x411 }
/-- [I -/
def k11 : Class := { plain "[I" (some 0) with kind := .array 10 .int, interfaces := #[7, 4], accessFlags := 1041 }

def heap : Heap := #[{ cls := 6, slots := #[.ref 1, .ref 4, .ref 5, .ref 2, .ref 3, .null], vm := .statics 6 },
  { cls := 6, slots := #[.null, .int 0, .int 0, .null], vm := .none },
  { cls := 6, slots := #[.null, .int 3, .int 0, .null], vm := .none },
  { cls := 6, slots := #[.null, .int 4, .int 0, .null], vm := .none },
  { cls := 6, slots := #[.null, .int 1, .int 0, .null], vm := .none },
  { cls := 6, slots := #[.null, .int 2, .int 0, .null], vm := .none }]
def classes : Array Class := #[k0, k1, k2, k3, k4, k5, k6, k7, k8, k9, k10, k11]
def interned : List (Array UInt16 × Addr) := []
def slotsUsed : Nat := 26
def theMethod : MethodId := ⟨1, 2⟩
def args0 : Array Value := #[.int 5]
def aboutOver (below : List Frame) : State where
  vm := { classes := classes, interned := interned.toArray }
  heap := heap
  slotsUsed := slotsUsed
  threads := #[{ frames := .invoking theMethod args0 :: below }]
def below0 : List Frame := [.native { method := ⟨0, 0⟩, args := #[] }]
def about1 : State := aboutOver below0
def p0 : Program := .bare "" "" ""
def e0 : Env := launch0.env 0 0 0
theorem w_frames : about1.frames = Frame.invoking theMethod args0 :: below0 := rfl
set_option maxRecDepth 65536 in
theorem w_args : argsFit about1.vm theMethod args0 = true := by decide +kernel
set_option maxRecDepth 65536 in
theorem w_heap : heapFits about1 = true := by decide +kernel
set_option maxRecDepth 65536 in
theorem w_runnable : about1.curStatus? = some .runnable := by decide +kernel
set_option maxRecDepth 65536 in
theorem w_alone : about1.alone = true := by decide +kernel
set_option maxRecDepth 65536 in
theorem w_named : about1.methodNamed? x = some theMethod := by decide +kernel
set_option maxRecDepth 65536 in
theorem w_hears : about1.hears theMethod below0 = true := by decide +kernel
set_option maxRecDepth 65536 in
theorem w_ripe : about1.ripe theMethod args0 below0 = true := by decide +kernel
theorem w_running : about1.status = .running := rfl
set_option maxRecDepth 65536 in
theorem w_room : about1.hasRoom e0.platform room_1 = true :=
  launch0.hasRoom_least _ room_1 (by decide +kernel) (by decide +kernel) (by decide +kernel) (by decide +kernel) (by decide +kernel) (by decide +kernel)
theorem allAtoms_all (ts : List Jvm.Cond) (a : Array Jvm.Value) (st : Jvm.State) : (allAtoms ts).before a st = ts.all (fun c => c.before a st) := by
  induction ts with
  | nil => rfl
  | cons c t ih =>
    show (Jvm.Cond.and c (allAtoms t)).before a st = _
    rw [Jvm.Cond.before_and, ih, List.all_cons]
def words1 : List Jvm.Cond := Jvm.Cond.code x code maxLocals ret :: tables_1
/-- a 'code' word, met by the world's own term for the bytes: nothing is compared byte by byte -/
theorem code_word {y : MethodName} {bytes : ByteArray} {mx : Nat} {rt : Option FieldType} {a : Array Value} {s : State} {m : MethodId} {meth : Method} {c : Code} (h1 : s.methodNamed? y = some m) (h2 : s.vm.method? m = some meth) (h3 : meth.code = some c) (h4 : c.code = bytes)
    (h5 : (c.maxLocals == mx && c.exceptionTable.isEmpty && decide (c.maxStack ≤ mostOperands) && decide (meth.sig.returnType = rt) && !meth.locks && decide (parseMethodDescriptor y.desc = some meth.sig)) = true) : (Jvm.Cond.code y bytes mx rt).before a s = true := by
  simp only [Bool.and_eq_true, beq_iff_eq, Bool.not_eq_true', decide_eq_true_eq] at h5
  obtain ⟨⟨⟨⟨⟨g1, g2⟩, g3⟩, g4⟩, g5⟩, g6⟩ := h5
  simp [Cond.before, Cond.holds, Cond.value, h1, h2, h3, h4, g1, g2, g3, g4, g5, g6]
def isCode : Jvm.Cond → Bool
  | .code _ _ _ _ => true
  | _ => false
theorem all_split {L : List Jvm.Cond} {P : Jvm.Cond → Bool} (h1 : L.all (fun c => isCode c || P c) = true) (h2 : ∀ c ∈ L.filter isCode, P c = true) : L.all P = true := by
  refine List.all_eq_true.mpr fun c hc => ?_
  have h := List.all_eq_true.mp h1 c hc
  rcases Bool.eq_false_or_eq_true (isCode c) with hi | hi
  · exact h2 c (List.mem_filter.mpr ⟨hc, hi⟩)
  · simpa [hi] using h
set_option maxRecDepth 65536 in
theorem w_c0 : (Jvm.Cond.code x code maxLocals ret).before args0 about1 = true := code_word (m := ⟨1, 2⟩) (meth := k1m2) (c := k1c2) (by decide +kernel) rfl rfl rfl (by decide +kernel)
set_option maxRecDepth 65536 in
theorem w_c1 : (Jvm.Cond.code ({ cls := "com/example/pairoff/pairoff/RoleIsMarketMakerPinLaw", name := "pick", desc := "(I)Lcom/example/pairoff/pairoff/Role;" } : Jvm.MethodName) method_2_code (1 : Nat) (Option.some (Jvm.ClassFile.FieldType.object "com/example/pairoff/pairoff/Role"))).before args0 about1 = true := code_word (m := ⟨1, 1⟩) (meth := k1m1) (c := k1c1) (by decide +kernel) rfl rfl rfl (by decide +kernel)
set_option maxRecDepth 65536 in
theorem w_c2 : (Jvm.Cond.code ({ cls := "com/example/pairoff/pairoff/Role", name := "isMarketMaker", desc := "()Z" } : Jvm.MethodName) prog_37_method_4_code (1 : Nat) (Option.some Jvm.ClassFile.FieldType.boolean)).before args0 about1 = true := code_word (m := ⟨6, 0⟩) (meth := k6m0) (c := k6c0) (by decide +kernel) rfl rfl rfl (by decide +kernel)
def codes1 : List Jvm.Cond := [Jvm.Cond.code x code maxLocals ret, Jvm.Cond.code ({ cls := "com/example/pairoff/pairoff/RoleIsMarketMakerPinLaw", name := "pick", desc := "(I)Lcom/example/pairoff/pairoff/Role;" } : Jvm.MethodName) method_2_code (1 : Nat) (Option.some (Jvm.ClassFile.FieldType.object "com/example/pairoff/pairoff/Role")), Jvm.Cond.code ({ cls := "com/example/pairoff/pairoff/Role", name := "isMarketMaker", desc := "()Z" } : Jvm.MethodName) prog_37_method_4_code (1 : Nat) (Option.some Jvm.ClassFile.FieldType.boolean)]
set_option maxRecDepth 65536 in
theorem codes_eq : words1.filter isCode = codes1 := rfl
theorem w_codes : ∀ c ∈ words1.filter isCode, c.before args0 about1 = true := by
  rw [codes_eq]
  intro c hc
  simp only [codes1, List.mem_cons, List.not_mem_nil, or_false] at hc
  rcases hc with rfl | rfl | rfl
  · exact w_c0
  · exact w_c1
  · exact w_c2
set_option maxRecDepth 65536 in
theorem w_t1 : words1.all (fun c => isCode c || c.before args0 about1) = true := by decide +kernel
theorem w_tables : (allAtoms (Jvm.Cond.code x code maxLocals ret :: tables_1)).before args0 about1 = true := by
  rw [allAtoms_all]
  show words1.all (fun c => c.before args0 about1) = true
  refine all_split ?_ w_codes
  rw [w_t1]
set_option maxRecDepth 65536 in
theorem w_case : (Jvm.Cond.and given_1 narrow_1).before args0 about1 = true := by decide +kernel
theorem w_applies : (headSpec (Jvm.Cond.code x code maxLocals ret :: tables_1) room_1).applies x e0.platform about1 = true :=
  (Spec.applies_iff w_frames).mpr ⟨w_running, w_runnable, w_alone, w_named, w_hears, w_ripe, w_room, w_tables⟩
theorem atStart : AtStart classFile x code maxLocals ret World_1 tables_1 room_1 Calls_1 rest_1 Pre_1 launch0 p0 e0 about1 theMethod args0 below0 :=
  ⟨lists_1, trivial, launch0.admits_env _ _ _, launch0.least_env, fairChoices_fair.cas, fairChoices_fair.clock, w_frames, w_args, w_heap, w_applies, trivial, trivial, w_case⟩
end start1
theorem witness_1 : WitnessClaimed_1 := ⟨start1.p0, start1.e0, start1.about1, start1.theMethod, start1.args0, start1.below0, start1.atStart⟩
end Jvm.Pilot.@@N@@
