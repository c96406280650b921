import JvmDerived
import JvmDerived.Pilot.@@N@@Statement
import JvmDerived.Pilot.@@N@@Code
set_option linter.unusedVariables false
set_option linter.unusedSimpArgs false
namespace Jvm.RoadKit
open Sem ClassFile Op Lib Jvm.Stand Jvm.Free Jvm.LawKit
section New
variable {p : Program} {l : Launch} {e : Env} {R : Room} {s : State} {m : MethodId} {args : Array Value} {below : List Frame} {meth : Method} {c : Code} {T : State} {locs : List Loc} {cells slots : Nat}
theorem retI (X : Stand p l e R s m args below meth c T locs cells slots) (hx : p.tables.exec = Jvm.exec) {pc : Nat} {Ls : Array Slot} {z : Int32} {rest : List Value} (hret : meth.sig.returnType = some .int) (hd : decode c.code pc = .ok (.ireturn, 1)) {fs : List Frame}
    (hl : ∀ (f : JFrame) (acts : List Action), f.method = m → f.locked = none → f.entered = [] → (doReturn e (T.setTop f) acts (some (.int z))).1 = T.setFrames fs) : Steps p.tables e below (T.setTop (mkF m pc Ls (.int z :: rest))) (T.setFrames fs) := by
  have hm' : T.vm.method? m = some meth := X.method'
  have hn : narrow .int (.int z) = .int z := rfl
  show Steps p.tables e below (T.setTop { method := m, pc := pc, locals := Ls, stack := _ :: rest, locked := none }) _
  jvm_step X.here [X.here.top, hx, hd, hm', hret, hn]
  first | (intro acts; rw [hl _ acts rfl rfl rfl]) | rw [hl _ _ rfl rfl rfl]
  exact Steps.refl _
end New
end Jvm.RoadKit
namespace Jvm.Pilot.@@N@@
open Jvm Jvm.ClassFile Sem Op Lib Jvm.Free Jvm.Stand Jvm.LawKit Jvm.RoadKit Bundle Jvm.Pilot.@@N@@.Jvm.D
theorem tk {L : List Jvm.Cond} {d : Jvm.Cond} (i : Nat) (h : L[i]? = some d) : d ∈ L := List.mem_of_getElem? h
/-! own small facts: what the case says of a pinned static's field -/
theorem own_fld {args : Array Value} {s : State} {t : Term} {C n d : String} {w : Addr} {k : Int32} (ht : t.eval args s none [] s = some (.ref w)) (h : (Cond.eq (.field t C n d) (.int k)).value args s none s [] = some true) : Fld s s.heap w C n d (.int k) := by
  obtain ⟨x, y, hx, hy, -, kin⟩ := cmp_v (Or.inl h)
  obtain rfl : Value.int k = y := Option.some.inj hy
  obtain ⟨z, rfl⟩ := kin
  have e : z = k := by simpa [Cond.value, hx, hy] using h
  subst e
  exact Fld.start ((fld_at ht).symm.trans hx)
theorem own_fldN {args : Array Value} {s : State} {t : Term} {C n d : String} {w : Addr} (ht : t.eval args s none [] s = some (.ref w)) (h : (Cond.eq (.field t C n d) .null).value args s none s [] = some true) : Fld s s.heap w C n d .null :=
  Fld.start ((fld_at ht).symm.trans (null_v h))
theorem own_nsroot {Z : State} {a0 : Array Value} {O K : String} {n : Nat} (w : (Cond.noSuperclass O).before a0 Z = true) (wk : (Cond.instantiable K n).before a0 Z = true) (hn : O ≠ K) : NS Z O K := by
  obtain ⟨c, k, h1, h2, h3, -, -⟩ := Cond.noSuperclass_spec w
  obtain ⟨t, -, g1, -⟩ := Cond.instantiable_spec wk
  have ne := ids_ne h1 g1 hn
  refine ⟨c, t, h1, g1, fun fuel => ?_⟩
  cases fuel with
  | zero => rfl
  | succ f => simp [Vm.isSubclassAux, ne, h2, h3]
theorem own_nsno {Z : State} {a0 : Array Value} {C S K : String} {n : Nat} (w : (Cond.superclass C S).before a0 Z = true) (wk : (Cond.instantiable K n).before a0 Z = true) (ns : NS Z C K) (hn : C ≠ K) : ∃ c t, Z.vm.findClass C = some c ∧ Z.vm.findClass K = some t ∧ Z.vm.assignable c t = false := by
  obtain ⟨c, t, h0, g0, n3⟩ := ns
  obtain ⟨p, k, kp, h1, h2, h3, h4, h5, -, h7⟩ := Cond.superclass_spec h0 w
  obtain ⟨t', k', g1, g2, g3, g4, -⟩ := Cond.instantiable_spec wk
  cases g0.symm.trans g1
  have ne := ids_ne h0 g0 hn
  have g5 : k'.isInterface = false := (Bool.or_eq_false_iff.mp g4).1
  refine ⟨c, t, h0, g0, ?_⟩
  show Z.vm.assignableAux (255 + 1) c t = false
  simp [Vm.assignableAux, ne, h2, g2, h5, g3, g5, Vm.isSubclass, n3]
theorem own_nar {v : Value} {C : String} (h : v.isRef = true) : narrow (.object C) v = v := by rcases ref_cases h with rfl | ⟨a, rfl⟩ <;> rfl
theorem own_fit {v : Value} {C : String} (h : v.isRef = true) : fits (.object C) v = true := by rcases ref_cases h with rfl | ⟨a, rfl⟩ <;> rfl
theorem own_refof {v : Value} (h : v.isRef = true) (n : ¬ v = .null) : ∃ a, v = .ref a := (ref_cases h).elim (fun q => absurd q n) id
theorem own_sint {args : Array Value} {s : State} {t : Term} {k : Int32} (h : (Cond.eq t (.int k)).value args s none s [] = some true) : t.eval args s none [] s = some (.int k) := by
  obtain ⟨x, y, hx, hy, -, kin⟩ := cmp_v (Or.inl h)
  obtain rfl : Value.int k = y := Option.some.inj hy
  obtain ⟨z, rfl⟩ := kin
  have e : z = k := by simpa [Cond.value, hx, hy] using h
  subst e; exact hx
theorem own_snot {args : Array Value} {s : State} {t : Term} {k z : Int32} (ht : t.eval args s none [] s = some (.int z)) (h : (Cond.not (Cond.eq t (.int k))).value args s none s [] = some true) : ¬ z = k := by
  have := not_v h
  intro e
  subst e
  simp [Cond.value, ht, Term.eval] at this
theorem own_seq {args : Array Value} {s : State} {t u : Term} {a b : Addr} (ht : t.eval args s none [] s = some (.ref a)) (hu : u.eval args s none [] s = some (.ref b)) (h : (Cond.eq t u).value args s none s [] = some true) : b = a := by
  have e : a = b := by simpa [Cond.value, ht, hu] using h
  exact e.symm
theorem own_len {args : Array Value} {s : State} {t : Term} {a : Addr} {c : Cell} {ty : FieldType} {n : Int32} (ht : t.eval args s none [] s = some (.ref a)) (A : Arr s s.heap a c ty) (h : (Cond.eq (.length t) (.int n)).value args s none s [] = some true) : c.slots.size < 2 ^ 31 ∧ c.slots.size.toInt32 = n := by
  have e0 := own_sint h
  have hfin := A.fin (Vm.Alike.refl _)
  by_cases hl : c.slots.size < 2 ^ 31
  · rw [len_f ht hfin hl] at e0
    exact ⟨hl, Value.int.inj (Option.some.inj e0)⟩
  · exfalso
    simp [Term.eval, ht, hfin, hl] at e0
theorem own_elem {args : Array Value} {s : State} {t u : Term} {a w : Addr} {c : Cell} {i : Int32} (ht : t.eval args s none [] s = some (.ref a)) (hc : s.heap[a]? = some c) (hu : u.eval args s none [] s = some (.ref w)) (h : (Cond.eq (.elem t (.int i)) u).value args s none s [] = some true) : c.slots[i.toNatClampNeg]? = some (.ref w) := by
  obtain ⟨x, y, hx, hy, k1, k2⟩ := cmp_v (Or.inl h)
  obtain rfl : Value.ref w = y := Option.some.inj (hu.symm.trans hy)
  have e := gotT (eq_R hx hu k2.2 rfl) h
  rw [e] at hx
  exact (elem_in hx ht (Term.int_eval i) hc).2
theorem own_ldcF {p : Program} {l : Launch} {e : Env} {R : Room} {s : State} {m : MethodId} {args : Array Value} {below : List Frame} {meth : Method} {c : Code} {T : State} {locs : List Loc} {cells slots : Nat}
    (X : Stand p l e R s m args below meth c T locs cells slots) (hx : p.tables.exec = Jvm.exec) {own : String} {index : Nat} {b : UInt32} (hown : s.vm.findClass own = some m.cls) (w : (Cond.constantFloat own index b).before args s = true) {g : JFrame} (hg : g.method = m) (hd : decode c.code g.pc = .ok (.ldc index, 2)) :
    ∀ target, Steps p.tables e below (T.setTop { g with pc := g.pc + 2, stack := .float b :: g.stack }) target → Steps p.tables e below (T.setTop g) target := by
  obtain ⟨k, cf, h1, h2, h3⟩ := Cond.constantFloat_spec hown w
  exact X.ldcFloat hx h1 h2 h3 hg hd
theorem own_old {Z : State} {n0 : Nat} {h : Heap} (O : Old Z n0 h) : n0 ≤ h.size := O.1 ▸ O.2.1
theorem own_rand (x m : Int32) (n : Int) (h0 : 0 ≤ m.toInt) (h1 : m.toInt < n) : 0 ≤ (x &&& m).toInt ∧ (x &&& m).toInt < n := by
  have := c_and x m h0; omega
theorem own_rrem (x y : Int32) (n : Int) (h0 : 0 ≤ x.toInt) (hy : y.toInt = n) (hn : 0 < n) : 0 ≤ (x % y).toInt ∧ (x % y).toInt < n := by
  rw [(c_irem x y n hy).1 h0]; exact ⟨Int.emod_nonneg _ (by omega), Int.emod_lt_of_pos _ hn⟩
theorem own_rshr (x q : Int32) (k : Nat) (m : Int) {n : Int} (r : 0 ≤ x.toInt ∧ x.toInt < n) (hk : q.toBitVec.toNat % 32 = k) (hm : (n - 1) / ((2 ^ k : Nat) : Int) < m) : 0 ≤ (x >>> (q &&& 31)).toInt ∧ (x >>> (q &&& 31)).toInt < m := by
  rw [c_ishr x q k hk]
  have hp : (0 : Int) < ((2 ^ k : Nat) : Int) := by exact_mod_cast Nat.two_pow_pos k
  exact ⟨Int.ediv_nonneg r.1 (Int.le_of_lt hp), Int.lt_of_le_of_lt (Int.ediv_le_ediv hp (by omega)) hm⟩
theorem own_off {e c : Int32} {n : Int} (r : 0 ≤ e.toInt ∧ e.toInt < n) (h : decide (n ≤ c.toInt ∨ c.toInt < 0) = true) : ¬ e = c := fun z => by
  subst z
  have := of_decide_eq_true h
  omega
theorem own_below {e c : Int32} {n : Int} (r : 0 ≤ e.toInt ∧ e.toInt < n) (h : n ≤ c.toInt) : e < c := by rw [Int32.lt_iff_toInt_lt]; omega
theorem own_notbelow {e c : Int32} {n : Int} (r : 0 ≤ e.toInt ∧ e.toInt < n) (h : c.toInt ≤ 0) : ¬ e < c := by rw [Int32.lt_iff_toInt_lt]; omega
theorem own_notabove {e c : Int32} {n : Int} (r : 0 ≤ e.toInt ∧ e.toInt < n) (h : n - 1 ≤ c.toInt) : ¬ c < e := by rw [Int32.lt_iff_toInt_lt]; omega
theorem own_above {e c : Int32} {n : Int} (r : 0 ≤ e.toInt ∧ e.toInt < n) (h : c.toInt < 0) : c < e := by rw [Int32.lt_iff_toInt_lt]; omega
theorem own_lt {a b : Int32} {n : Int} (h : a < b) (e : b.toInt = n) : a.toInt < n := by rw [← e]; exact Int32.lt_iff_toInt_lt.mp h
theorem own_ne {a b : Int32} {n : Int} (h : ¬ a = b) (e : b.toInt = n) : a.toInt ≠ n := fun z => h (Int32.toInt_inj.mp (z.trans e.symm))
theorem own_eq {a b : Int32} {n : Int} (e : b.toInt = n) (h : a.toInt = n) : a = b := Int32.toInt_inj.mp (h.trans e.symm)
theorem d1_0 : decode prog_33_method_7_code 0 = .ok (.invokestatic 61, 3) := by decide +kernel
theorem d2_0 : decode prog_33_method_1_code 0 = .ok (.getstatic 10, 3) := by decide +kernel
theorem d2_3 : decode prog_33_method_1_code 3 = .ok (.invokevirtual 14, 3) := by decide +kernel
theorem d2_6 : decode prog_33_method_1_code 6 = .ok (.checkcast 15, 3) := by decide +kernel
theorem d2_9 : decode prog_33_method_1_code 9 = .ok (.areturn, 1) := by decide +kernel
abbrev Y0 : MethodName := (⟨"flankwise/reversi/Side", "values", "()[Lflankwise/reversi/Side;"⟩ : MethodName)
theorem pd_0 : parseMethodDescriptor "()[Lflankwise/reversi/Side;" = some ⟨[], some (.array (.object "flankwise/reversi/Side"))⟩ := by decide +kernel
theorem d1_3 : decode prog_33_method_7_code 3 = .ok (.astore_n 1, 1) := by decide +kernel
theorem d1_4 : decode prog_33_method_7_code 4 = .ok (.aload_n 1, 1) := by decide +kernel
theorem d1_5 : decode prog_33_method_7_code 5 = .ok (.arraylength, 1) := by decide +kernel
theorem d1_6 : decode prog_33_method_7_code 6 = .ok (.istore_n 2, 1) := by decide +kernel
theorem d1_7 : decode prog_33_method_7_code 7 = .ok (.iconst 0, 1) := by decide +kernel
theorem d1_8 : decode prog_33_method_7_code 8 = .ok (.istore_n 3, 1) := by decide +kernel
theorem d1_9 : decode prog_33_method_7_code 9 = .ok (.iload_n 3, 1) := by decide +kernel
theorem d1_10 : decode prog_33_method_7_code 10 = .ok (.iload_n 2, 1) := by decide +kernel
theorem d1_11 : decode prog_33_method_7_code 11 = .ok (.if_icmp .ge 26, 3) := by decide +kernel
theorem d1_14 : decode prog_33_method_7_code 14 = .ok (.aload_n 1, 1) := by decide +kernel
theorem d1_15 : decode prog_33_method_7_code 15 = .ok (.iload_n 3, 1) := by decide +kernel
theorem d1_16 : decode prog_33_method_7_code 16 = .ok (.aaload, 1) := by decide +kernel
theorem d1_17 : decode prog_33_method_7_code 17 = .ok (.astore 4, 2) := by decide +kernel
theorem d1_19 : decode prog_33_method_7_code 19 = .ok (.aload 4, 2) := by decide +kernel
theorem d1_21 : decode prog_33_method_7_code 21 = .ok (.getfield 29, 3) := by decide +kernel
theorem d1_24 : decode prog_33_method_7_code 24 = .ok (.iload_n 0, 1) := by decide +kernel
theorem d1_25 : decode prog_33_method_7_code 25 = .ok (.if_icmp .ne 6, 3) := by decide +kernel
theorem d1_28 : decode prog_33_method_7_code 28 = .ok (.aload 4, 2) := by decide +kernel
theorem d1_30 : decode prog_33_method_7_code 30 = .ok (.areturn, 1) := by decide +kernel
abbrev Y1 : MethodName := (⟨"flankwise/reversi/Side", "ofLetter", "(C)Lflankwise/reversi/Side;"⟩ : MethodName)
theorem pd_1 : parseMethodDescriptor "(C)Lflankwise/reversi/Side;" = some ⟨[.char], some (.object "flankwise/reversi/Side")⟩ := by decide +kernel
theorem d1_31 : decode prog_33_method_7_code 31 = .ok (.iinc 3 1, 3) := by decide +kernel
theorem d1_34 : decode prog_33_method_7_code 34 = .ok (.goto (-25), 3) := by decide +kernel
theorem d1_37 : decode prog_33_method_7_code 37 = .ok (.aconst_null, 1) := by decide +kernel
theorem d1_38 : decode prog_33_method_7_code 38 = .ok (.areturn, 1) := by decide +kernel

def StF (Z : State) (w_1 : Addr) (w_2 : Addr) (w_3 : Addr) (k_1 : ClassId) : Prop :=
  Sta Z Z.heap "flankwise/reversi/Side" "$VALUES" "[Lflankwise/reversi/Side;" (.ref w_1) ∧
  Sta Z Z.heap "flankwise/reversi/Side" "BLACK" "Lflankwise/reversi/Side;" (.ref w_2) ∧
  Exa Z Z.heap w_2 "flankwise/reversi/Side" ∧
  Sta Z Z.heap "flankwise/reversi/Side" "WHITE" "Lflankwise/reversi/Side;" (.ref w_3) ∧
  Exa Z Z.heap w_3 "flankwise/reversi/Side" ∧
  Exa Z Z.heap w_1 "[Lflankwise/reversi/Side;" ∧
  Fld Z Z.heap w_2 "flankwise/reversi/Side" "letter" "C" (.int (88 : Int32)) ∧
  Fld Z Z.heap w_3 "flankwise/reversi/Side" "letter" "C" (.int (79 : Int32)) ∧
  Arv Z Z.heap w_1 k_1 (.object "flankwise/reversi/Side") (2 : Int32) [(.ref w_2), (.ref w_3)] .null
theorem pn_2x1 : plainName "flankwise/reversi/Side" = true := by first | (simp [plainName, overriddenIn]; done) | decide +kernel
theorem ef_2x1 (m : MethodId)  : entryFrame m #[] 0 = mkF m 0 #[] [] := by first | (simp [entryFrame, mkF, argsToLocals, Value.category]; done) | rfl
def Q2x1 (Z : State) (w_1 : Addr) (w_2 : Addr) (w_3 : Addr) (k_1 : ClassId) (h0 : Heap) (n0 : Nat) (v : Option Value) (h : Heap) (L : List Loc) : Prop := ∃ (b21 : Addr) (k21 : ClassId), v = some (.ref b21) ∧ Fr n0 L ∧ Old Z n0 h ∧ Keep h0 h [] ∧ n0 ≤ b21 ∧ h0.size ≤ b21 ∧ Arv Z h b21 k21 (.object "flankwise/reversi/Side") (2 : Int32) [(.ref w_2), (.ref w_3)] .null ∧ Exa Z h b21 "[Lflankwise/reversi/Side;"
set_option maxRecDepth 65536 in
set_option maxHeartbeats 40000000 in
theorem rm2x1 (l : Launch) (Z : State) (a0 : Array Value) (hw : ∀ d ∈ tables_1, d.before a0 Z = true) (ws : List Jvm.Cond) (w_1 : Addr) (w_2 : Addr) (w_3 : Addr) (k_1 : ClassId) (hS : StF Z w_1 w_2 w_3 k_1) (h0 : Heap) (n0 : Nat) (O0 : Old Z n0 h0) :
    MetFree l Y0 (head1 (Jvm.Cond.code Y0 prog_33_method_1_code 0 (some (.array (.object "flankwise/reversi/Side"))) :: ws) ({ frames := 1, cells := 1, slots := 2, locals := 14 } : Room)) (fun a U => a = #[] ∧ Z.Warmed39 U.vm ∧ U.heap = h0) (fun _ _ _ _ _ => True) (fun _ U o U' => ∃ v L, o = .returned v ∧ Q2x1 Z w_1 w_2 w_3 k_1 h0 n0 v U'.heap L ∧ FrameEnd U o U' L ({ frames := 1, cells := 1, slots := 2, locals := 14 } : Room).cells ({ frames := 1, cells := 1, slots := 2, locals := 14 } : Room).slots) := by
  refine MetFree.of_bodySF (plainFor_of_name pn_2x1) hisR ?_
  intro p e s m args below meth c s₁ Bd hml0 hP hK
  obtain ⟨rfl, hZ, hh⟩ := hP
  have hx := Bd.exec
  have hby := Bd.bytes
  have hml : c.maxLocals = 0 := hml0
  have hown : s.vm.findClass "flankwise/reversi/Side" = some m.cls := findClass_of_methodNamed Bd.named
  have hnm := (name_of_methodNamed Bd.named Bd.method).1
  have X0 : Stand p l e ({ frames := 1, cells := 1, slots := 2, locals := 14 } : Room) s m #[] below meth c s₁ [] 0 0 := Stand.of_body Bd
  have e0 : s₁.heap = h0 := by rw [← hh, Bd.state]; rfl
  have N0 := Fr.nil n0
  have hS0 := hS
  obtain ⟨S_1, S_2, E_2, S_3, E_3, E_1, F_2_letter, F_3_letter, V_1⟩ := hS
  have pre0 : ∀ t, Steps p.tables e below (s₁.setTop (mkF m 0 #[] [])) t → Steps p.tables e below (s₁.setTop (entryFrame m #[] 0)) t := fun t k => castTop (ef_2x1 m ) k
  obtain ⟨T19, X19, e19, st19⟩ := getS2 X0 hx hZ hown (host := "") (Or.inl (hw _ (tk 7 rfl))) Via.refl e0 (S_1.ext O0.2) (g := (mkF m 0 #[] [])) rfl (hb hby d2_0)
  obtain ⟨cl20, Ar20, qa20, Sa20, Ma20, Ha20, Ga20⟩ := id (V_1.ext O0.2)
  have Fc20 : FitC Z cl20 := fitC_of Ar20 fun i hi v hv => by rw [Ha20 i hi] at hv; cases hv; exact Ga20 i hi
  obtain ⟨T21, h21, X21, e21, E21, A21, EA21, st21⟩ := cloneA X19 hx hZ hown (hw _ (tk 9 rfl)) (hw _ (tk 10 rfl)) (hw _ (tk 14 rfl)) (hw _ (tk 12 rfl)) (hw _ (tk 13 rfl)) (hw _ (tk 15 rfl)) e19 Ar20 (E_1.ext O0.2) Fc20 (g := (mkF m 3 #[] [(.ref w_1)])) rfl (by rw [hml]; rfl) rfl (hb hby d2_3) (by decide) (W := 0) (cap := 2) (by show 2 * 0 + _ ≤ _; exact Nat.le_of_eq rfl) (by decide) (by rw [Sa20]; decide) (by decide) (by decide)
  obtain ⟨b21, g21⟩ : ∃ z, z = h0.size := ⟨_, rfl⟩
  rw [← g21] at A21 EA21 st21
  have g_b21 : n0 ≤ b21 := Nat.le_trans (own_old O0) (Nat.le_of_eq g21.symm)
  have sz_b21 : h0.size ≤ b21 := Nat.le_trans (Keep.refl h0 []).1 (Nat.le_of_eq g21.symm)
  have O21 : Old Z n0 h21 := O0.ext E21
  have K21 : Keep h0 h21 [] := (Keep.refl h0 []).ext E21
  have V_b21 : Arv Z h21 b21 cl20.cls (.object "flankwise/reversi/Side") (2 : Int32) [(.ref w_2), (.ref w_3)] .null := ⟨_, A21, rfl, Sa20, Ma20, Ha20, Ga20⟩
  obtain ⟨k21, kk21⟩ : ∃ z, z = cl20.cls := ⟨_, rfl⟩
  rw [← kk21] at V_b21
  obtain ⟨T22, X22, e22, st22⟩ := castY X21 hx hZ hown (hw _ (tk 19 rfl)) e21 (Ins.self EA21) (g := (mkF m 6 #[] [(.ref b21)])) rfl rfl (hb hby d2_6)
  obtain ⟨fs, hr, hrun, hended, hW, hsame⟩ := X22.leave (v := some (.ref b21)) (fun h => by rw [Bd.returns] at h; cases h)
  refine ⟨_, _, pre0 _ ?_, hrun, hended, _, _, rfl, ?_, ⟨_, rfl⟩, hW, hsame.mono (by decide) (by decide)⟩
  · show Steps p.tables e below (s₁.setTop (mkF m 0 #[] [])) _
    refine st19 _ ?_
    show Steps p.tables e below (T19.setTop (mkF m 3 #[] [(.ref w_1)])) _
    refine st21 _ ?_
    show Steps p.tables e below (T21.setTop (mkF m 6 #[] [(.ref b21)])) _
    refine st22 _ ?_
    show Steps p.tables e below (T22.setTop (mkF m 9 #[] [(.ref b21)])) _
    jvm_step X22.here [X22.here.top, hx, (hb hby d2_9), X22.method', Bd.returns, Value.isRef, FieldType.isReference]
    first | (intro acts; rw [hr _ acts rfl rfl rfl]) | rw [hr _ _ rfl rfl rfl]
    exact Steps.refl _
  · show Q2x1 Z w_1 w_2 w_3 k_1 h0 n0 _ T22.heap _
    rw [e22]
    exact ⟨b21, k21, rfl, N0, O21, K21, g_b21, sz_b21, V_b21, EA21⟩
theorem pn_1x1 : plainName "flankwise/reversi/Side" = true := by first | (simp [plainName, overriddenIn]; done) | decide +kernel
theorem ef_1x1 (m : MethodId)  : entryFrame m #[(.int (88 : Int32))] 5 = mkF m 0 #[.val (.int (88 : Int32)), .unset, .unset, .unset, .unset] [] := by first | (simp [entryFrame, mkF, argsToLocals, Value.category]; done) | rfl
def Q1x1 (Z : State) (w_1 : Addr) (w_2 : Addr) (w_3 : Addr) (k_1 : ClassId) (h0 : Heap) (n0 : Nat) (v : Option Value) (h : Heap) (L : List Loc) : Prop := v = some (.ref w_2) ∧ Fr n0 L ∧ Old Z n0 h ∧ Keep h0 h []
set_option maxRecDepth 65536 in
set_option maxHeartbeats 40000000 in
theorem rm1x1 (l : Launch) (Z : State) (a0 : Array Value) (hw : ∀ d ∈ tables_1, d.before a0 Z = true) (ws : List Jvm.Cond) (w_1 : Addr) (w_2 : Addr) (w_3 : Addr) (k_1 : ClassId) (hS : StF Z w_1 w_2 w_3 k_1) (h0 : Heap) (n0 : Nat) (O0 : Old Z n0 h0) :
    MetFree l Y1 (head1 (Jvm.Cond.code Y1 prog_33_method_7_code 5 (some (.object "flankwise/reversi/Side")) :: ws) ({ frames := 2, cells := 1, slots := 2, locals := 25 } : Room)) (fun a U => a = #[(.int (88 : Int32))] ∧ Z.Warmed39 U.vm ∧ U.heap = h0) (fun _ _ _ _ _ => True) (fun _ U o U' => ∃ v L, o = .returned v ∧ Q1x1 Z w_1 w_2 w_3 k_1 h0 n0 v U'.heap L ∧ FrameEnd U o U' L ({ frames := 2, cells := 1, slots := 2, locals := 25 } : Room).cells ({ frames := 2, cells := 1, slots := 2, locals := 25 } : Room).slots) := by
  refine MetFree.of_bodySF (plainFor_of_name pn_1x1) hisR ?_
  intro p e s m args below meth c s₁ Bd hml0 hP hK
  obtain ⟨rfl, hZ, hh⟩ := hP
  have hx := Bd.exec
  have hby := Bd.bytes
  have hml : c.maxLocals = 5 := hml0
  have hown : s.vm.findClass "flankwise/reversi/Side" = some m.cls := findClass_of_methodNamed Bd.named
  have hnm := (name_of_methodNamed Bd.named Bd.method).1
  have X0 : Stand p l e ({ frames := 2, cells := 1, slots := 2, locals := 25 } : Room) s m #[(.int (88 : Int32))] below meth c s₁ [] 0 0 := Stand.of_body Bd
  have e0 : s₁.heap = h0 := by rw [← hh, Bd.state]; rfl
  have N0 := Fr.nil n0
  have hS0 := hS
  obtain ⟨S_1, S_2, E_2, S_3, E_3, E_1, F_2_letter, F_3_letter, V_1⟩ := hS
  have pre0 : ∀ t, Steps p.tables e below (s₁.setTop (mkF m 0 #[.val (.int (88 : Int32)), .unset, .unset, .unset, .unset] [])) t → Steps p.tables e below (s₁.setTop (entryFrame m #[(.int (88 : Int32))] 5)) t := fun t k => castTop (ef_1x1 m ) k
  obtain ⟨_, _, ⟨T23, L23, k23, n23⟩, -, X23, ⟨Lc23, hQ23, l23, y23, z23⟩, st23⟩ := Jvm.LawKit.callS X0 hx (y := Y0) hown (mvT hZ (hw _ (tk 4 rfl))) (mvT hZ (hw _ (tk 5 rfl))) (mvT hZ (hw _ (tk 2 rfl))) (mvT hZ (hw _ (tk 6 rfl))) (by decide) (backOf (W := 0) (rm2x1 l Z a0 hw [] w_1 w_2 w_3 k_1 hS0 h0 n0 O0) hZ (hw _ (tk 6 rfl)) (hw _ (tk 2 rfl)) (by decide) (by decide)) (g := (mkF m 0 #[.val (.int (88 : Int32)), .unset, .unset, .unset, .unset] [])) rfl (by rw [hml]; rfl) (argsL := []) (rest := []) (lenOf pd_0 rfl) rfl (by show 2 * 0 + _ ≤ _; exact Nat.le_of_eq rfl) (hb hby d1_0) (fun _ _ => ⟨rfl, e0, (by decide : 0 + 1 ≤ _), (by decide : 0 + 2 ≤ _)⟩)
  dsimp only [Pt.U, Pt.locs, Pt.cells, Pt.slots] at X23 l23 y23 z23 st23 hQ23
  subst l23 y23 z23
  obtain ⟨b21_23, k21_23, rv23, N23q, O23, K23c, Fx23_0, Fx23_1, Fx23_2, Fx23_3⟩ := hQ23
  subst rv23
  have N23 := Fr.app N0 N23q
  have K23 : Keep h0 T23.heap [] := (Keep.refl h0 []).trans K23c all0
  have g_b21_23 := Fx23_0
  have sz_b21_23 : h0.size ≤ b21_23 := Nat.le_trans (Keep.refl h0 []).1 Fx23_1
  obtain ⟨cl24, Ar24, qa24, Sa24, Ma24, Ha24, Ga24⟩ := id Fx23_2
  obtain ⟨cl25, Ar25, qa25, Sa25, Ma25, Ha25, Ga25⟩ := id Fx23_2
  have hin25 : ¬ ((0 : Int32) < 0 ∨ cl25.slots.size ≤ ((0 : Int32)).toNatClampNeg) := by  exact inb_of Sa25 ⟨by decide, by decide⟩
  have hat25 : cl25.slots[((0 : Int32)).toNatClampNeg]? = some (.ref w_2) := Has.at Ha25 hin25 (by rfl)
  obtain ⟨T26, X26, e26, st26⟩ := getF X23 hx hZ hown (host := "") (Or.inl (hw _ (tk 21 rfl))) Via.refl rfl (F_2_letter.ext O23.2) (g := (mkF m 21 #[.val (.int (88 : Int32)), .val (.ref b21_23), .val (.int (2 : Int32)), .val (.int (0 : Int32)), .val (.ref w_2)] [(.ref w_2)])) rfl rfl (hb hby d1_21)
  obtain ⟨fs, hr, hrun, hended, hW, hsame⟩ := X26.leave (v := some (.ref w_2)) (fun h => by rw [Bd.returns] at h; cases h)
  refine ⟨_, _, pre0 _ ?_, hrun, hended, _, _, rfl, ?_, ⟨_, rfl⟩, hW, hsame.mono (by decide) (by decide)⟩
  · show Steps p.tables e below (s₁.setTop (mkF m 0 #[.val (.int (88 : Int32)), .unset, .unset, .unset, .unset] [])) _
    refine st23 _ ?_
    show Steps p.tables e below (T23.setTop (mkF m 3 #[.val (.int (88 : Int32)), .unset, .unset, .unset, .unset] [(.ref b21_23)])) _
    refine XS.astoreN X23.here hx rfl (hb hby d1_3) rfl rfl (l' := #[.val (.int (88 : Int32)), .val (.ref b21_23), .unset, .unset, .unset]) rfl ?_
    show Steps p.tables e below (T23.setTop (mkF m 4 #[.val (.int (88 : Int32)), .val (.ref b21_23), .unset, .unset, .unset] [])) _
    refine XS.aloadN X23.here hx rfl (hb hby d1_4) rfl rfl ?_
    show Steps p.tables e below (T23.setTop (mkF m 5 #[.val (.int (88 : Int32)), .val (.ref b21_23), .unset, .unset, .unset] [(.ref b21_23)])) _
    refine X23.arraylength hx Ar24.1 (State.isArrayOf_alike hZ.alike Ar24.2.1) (g := (mkF m 5 #[.val (.int (88 : Int32)), .val (.ref b21_23), .unset, .unset, .unset] [(.ref b21_23)])) rfl rfl (hb hby d1_5) _ ?_
    rw [len_of Sa24 Ma24]
    show Steps p.tables e below (T23.setTop (mkF m 6 #[.val (.int (88 : Int32)), .val (.ref b21_23), .unset, .unset, .unset] [(.int (2 : Int32))])) _
    refine XS.istoreN X23.here hx rfl (hb hby d1_6) rfl (l' := #[.val (.int (88 : Int32)), .val (.ref b21_23), .val (.int (2 : Int32)), .unset, .unset]) rfl ?_
    show Steps p.tables e below (T23.setTop (mkF m 7 #[.val (.int (88 : Int32)), .val (.ref b21_23), .val (.int (2 : Int32)), .unset, .unset] [])) _
    refine XS.iconst X23.here hx rfl (hb hby d1_7) ?_
    show Steps p.tables e below (T23.setTop (mkF m 8 #[.val (.int (88 : Int32)), .val (.ref b21_23), .val (.int (2 : Int32)), .unset, .unset] [(.int (0 : Int32))])) _
    refine XS.istoreN X23.here hx rfl (hb hby d1_8) rfl (l' := #[.val (.int (88 : Int32)), .val (.ref b21_23), .val (.int (2 : Int32)), .val (.int (0 : Int32)), .unset]) rfl ?_
    show Steps p.tables e below (T23.setTop (mkF m 9 #[.val (.int (88 : Int32)), .val (.ref b21_23), .val (.int (2 : Int32)), .val (.int (0 : Int32)), .unset] [])) _
    refine XS.iloadN X23.here hx rfl (hb hby d1_9) rfl ?_
    show Steps p.tables e below (T23.setTop (mkF m 10 #[.val (.int (88 : Int32)), .val (.ref b21_23), .val (.int (2 : Int32)), .val (.int (0 : Int32)), .unset] [(.int (0 : Int32))])) _
    refine XS.iloadN X23.here hx rfl (hb hby d1_10) rfl ?_
    show Steps p.tables e below (T23.setTop (mkF m 11 #[.val (.int (88 : Int32)), .val (.ref b21_23), .val (.int (2 : Int32)), .val (.int (0 : Int32)), .unset] [(.int (2 : Int32)), (.int (0 : Int32))])) _
    refine XS.icmpNo X23.here hx rfl (hb hby d1_11) rfl (tlt (by decide : ((0 : Int32) < (2 : Int32)))).2.1 ?_
    show Steps p.tables e below (T23.setTop (mkF m 14 #[.val (.int (88 : Int32)), .val (.ref b21_23), .val (.int (2 : Int32)), .val (.int (0 : Int32)), .unset] [])) _
    refine XS.aloadN X23.here hx rfl (hb hby d1_14) rfl rfl ?_
    show Steps p.tables e below (T23.setTop (mkF m 15 #[.val (.int (88 : Int32)), .val (.ref b21_23), .val (.int (2 : Int32)), .val (.int (0 : Int32)), .unset] [(.ref b21_23)])) _
    refine XS.iloadN X23.here hx rfl (hb hby d1_15) rfl ?_
    show Steps p.tables e below (T23.setTop (mkF m 16 #[.val (.int (88 : Int32)), .val (.ref b21_23), .val (.int (2 : Int32)), .val (.int (0 : Int32)), .unset] [(.int (0 : Int32)), (.ref b21_23)])) _
    refine X23.aaload hx (j := (0 : Int32)) (v := (.ref w_2)) Ar25.1 (State.isArrayOf_alike hZ.alike Ar25.2.1) rfl Ar25.2.2 hin25 hat25 (g := (mkF m 16 #[.val (.int (88 : Int32)), .val (.ref b21_23), .val (.int (2 : Int32)), .val (.int (0 : Int32)), .unset] [(.int (0 : Int32)), (.ref b21_23)])) rfl rfl (hb hby d1_16) _ ?_
    show Steps p.tables e below (T23.setTop (mkF m 17 #[.val (.int (88 : Int32)), .val (.ref b21_23), .val (.int (2 : Int32)), .val (.int (0 : Int32)), .unset] [(.ref w_2)])) _
    refine XS.astore X23.here hx rfl (hb hby d1_17) rfl rfl (l' := #[.val (.int (88 : Int32)), .val (.ref b21_23), .val (.int (2 : Int32)), .val (.int (0 : Int32)), .val (.ref w_2)]) rfl ?_
    show Steps p.tables e below (T23.setTop (mkF m 19 #[.val (.int (88 : Int32)), .val (.ref b21_23), .val (.int (2 : Int32)), .val (.int (0 : Int32)), .val (.ref w_2)] [])) _
    refine XS.aload X23.here hx rfl (hb hby d1_19) rfl rfl ?_
    show Steps p.tables e below (T23.setTop (mkF m 21 #[.val (.int (88 : Int32)), .val (.ref b21_23), .val (.int (2 : Int32)), .val (.int (0 : Int32)), .val (.ref w_2)] [(.ref w_2)])) _
    refine st26 _ ?_
    show Steps p.tables e below (T26.setTop (mkF m 24 #[.val (.int (88 : Int32)), .val (.ref b21_23), .val (.int (2 : Int32)), .val (.int (0 : Int32)), .val (.ref w_2)] [(.int (88 : Int32))])) _
    refine XS.iloadN X26.here hx rfl (hb hby d1_24) rfl ?_
    show Steps p.tables e below (T26.setTop (mkF m 25 #[.val (.int (88 : Int32)), .val (.ref b21_23), .val (.int (2 : Int32)), .val (.int (0 : Int32)), .val (.ref w_2)] [(.int (88 : Int32)), (.int (88 : Int32))])) _
    refine XS.icmpNo X26.here hx rfl (hb hby d1_25) rfl (teq (by decide : ((88 : Int32) = (88 : Int32)))).2 ?_
    show Steps p.tables e below (T26.setTop (mkF m 28 #[.val (.int (88 : Int32)), .val (.ref b21_23), .val (.int (2 : Int32)), .val (.int (0 : Int32)), .val (.ref w_2)] [])) _
    refine XS.aload X26.here hx rfl (hb hby d1_28) rfl rfl ?_
    show Steps p.tables e below (T26.setTop (mkF m 30 #[.val (.int (88 : Int32)), .val (.ref b21_23), .val (.int (2 : Int32)), .val (.int (0 : Int32)), .val (.ref w_2)] [(.ref w_2)])) _
    jvm_step X26.here [X26.here.top, hx, (hb hby d1_30), X26.method', Bd.returns, Value.isRef, FieldType.isReference]
    first | (intro acts; rw [hr _ acts rfl rfl rfl]) | rw [hr _ _ rfl rfl rfl]
    exact Steps.refl _
  · show Q1x1 Z w_1 w_2 w_3 k_1 h0 n0 _ T26.heap _
    rw [e26]
    exact ⟨rfl, N23, O23, K23⟩
theorem pn_1x2 : plainName "flankwise/reversi/Side" = true := by first | (simp [plainName, overriddenIn]; done) | decide +kernel
theorem ef_1x2 (m : MethodId)  : entryFrame m #[(.int (79 : Int32))] 5 = mkF m 0 #[.val (.int (79 : Int32)), .unset, .unset, .unset, .unset] [] := by first | (simp [entryFrame, mkF, argsToLocals, Value.category]; done) | rfl
def Q1x2 (Z : State) (w_1 : Addr) (w_2 : Addr) (w_3 : Addr) (k_1 : ClassId) (h0 : Heap) (n0 : Nat) (v : Option Value) (h : Heap) (L : List Loc) : Prop := v = some (.ref w_3) ∧ Fr n0 L ∧ Old Z n0 h ∧ Keep h0 h []
set_option maxRecDepth 65536 in
set_option maxHeartbeats 40000000 in
theorem rm1x2 (l : Launch) (Z : State) (a0 : Array Value) (hw : ∀ d ∈ tables_1, d.before a0 Z = true) (ws : List Jvm.Cond) (w_1 : Addr) (w_2 : Addr) (w_3 : Addr) (k_1 : ClassId) (hS : StF Z w_1 w_2 w_3 k_1) (h0 : Heap) (n0 : Nat) (O0 : Old Z n0 h0) :
    MetFree l Y1 (head1 (Jvm.Cond.code Y1 prog_33_method_7_code 5 (some (.object "flankwise/reversi/Side")) :: ws) ({ frames := 2, cells := 1, slots := 2, locals := 25 } : Room)) (fun a U => a = #[(.int (79 : Int32))] ∧ Z.Warmed39 U.vm ∧ U.heap = h0) (fun _ _ _ _ _ => True) (fun _ U o U' => ∃ v L, o = .returned v ∧ Q1x2 Z w_1 w_2 w_3 k_1 h0 n0 v U'.heap L ∧ FrameEnd U o U' L ({ frames := 2, cells := 1, slots := 2, locals := 25 } : Room).cells ({ frames := 2, cells := 1, slots := 2, locals := 25 } : Room).slots) := by
  refine MetFree.of_bodySF (plainFor_of_name pn_1x2) hisR ?_
  intro p e s m args below meth c s₁ Bd hml0 hP hK
  obtain ⟨rfl, hZ, hh⟩ := hP
  have hx := Bd.exec
  have hby := Bd.bytes
  have hml : c.maxLocals = 5 := hml0
  have hown : s.vm.findClass "flankwise/reversi/Side" = some m.cls := findClass_of_methodNamed Bd.named
  have hnm := (name_of_methodNamed Bd.named Bd.method).1
  have X0 : Stand p l e ({ frames := 2, cells := 1, slots := 2, locals := 25 } : Room) s m #[(.int (79 : Int32))] below meth c s₁ [] 0 0 := Stand.of_body Bd
  have e0 : s₁.heap = h0 := by rw [← hh, Bd.state]; rfl
  have N0 := Fr.nil n0
  have hS0 := hS
  obtain ⟨S_1, S_2, E_2, S_3, E_3, E_1, F_2_letter, F_3_letter, V_1⟩ := hS
  have pre0 : ∀ t, Steps p.tables e below (s₁.setTop (mkF m 0 #[.val (.int (79 : Int32)), .unset, .unset, .unset, .unset] [])) t → Steps p.tables e below (s₁.setTop (entryFrame m #[(.int (79 : Int32))] 5)) t := fun t k => castTop (ef_1x2 m ) k
  obtain ⟨_, _, ⟨T31, L31, k31, n31⟩, -, X31, ⟨Lc31, hQ31, l31, y31, z31⟩, st31⟩ := Jvm.LawKit.callS X0 hx (y := Y0) hown (mvT hZ (hw _ (tk 4 rfl))) (mvT hZ (hw _ (tk 5 rfl))) (mvT hZ (hw _ (tk 2 rfl))) (mvT hZ (hw _ (tk 6 rfl))) (by decide) (backOf (W := 0) (rm2x1 l Z a0 hw [] w_1 w_2 w_3 k_1 hS0 h0 n0 O0) hZ (hw _ (tk 6 rfl)) (hw _ (tk 2 rfl)) (by decide) (by decide)) (g := (mkF m 0 #[.val (.int (79 : Int32)), .unset, .unset, .unset, .unset] [])) rfl (by rw [hml]; rfl) (argsL := []) (rest := []) (lenOf pd_0 rfl) rfl (by show 2 * 0 + _ ≤ _; exact Nat.le_of_eq rfl) (hb hby d1_0) (fun _ _ => ⟨rfl, e0, (by decide : 0 + 1 ≤ _), (by decide : 0 + 2 ≤ _)⟩)
  dsimp only [Pt.U, Pt.locs, Pt.cells, Pt.slots] at X31 l31 y31 z31 st31 hQ31
  subst l31 y31 z31
  obtain ⟨b21_31, k21_31, rv31, N31q, O31, K31c, Fx31_0, Fx31_1, Fx31_2, Fx31_3⟩ := hQ31
  subst rv31
  have N31 := Fr.app N0 N31q
  have K31 : Keep h0 T31.heap [] := (Keep.refl h0 []).trans K31c all0
  have g_b21_31 := Fx31_0
  have sz_b21_31 : h0.size ≤ b21_31 := Nat.le_trans (Keep.refl h0 []).1 Fx31_1
  obtain ⟨cl32, Ar32, qa32, Sa32, Ma32, Ha32, Ga32⟩ := id Fx31_2
  obtain ⟨cl33, Ar33, qa33, Sa33, Ma33, Ha33, Ga33⟩ := id Fx31_2
  have hin33 : ¬ ((0 : Int32) < 0 ∨ cl33.slots.size ≤ ((0 : Int32)).toNatClampNeg) := by  exact inb_of Sa33 ⟨by decide, by decide⟩
  have hat33 : cl33.slots[((0 : Int32)).toNatClampNeg]? = some (.ref w_2) := Has.at Ha33 hin33 (by rfl)
  obtain ⟨T34, X34, e34, st34⟩ := getF X31 hx hZ hown (host := "") (Or.inl (hw _ (tk 21 rfl))) Via.refl rfl (F_2_letter.ext O31.2) (g := (mkF m 21 #[.val (.int (79 : Int32)), .val (.ref b21_31), .val (.int (2 : Int32)), .val (.int (0 : Int32)), .val (.ref w_2)] [(.ref w_2)])) rfl rfl (hb hby d1_21)
  obtain ⟨cl35, Ar35, qa35, Sa35, Ma35, Ha35, Ga35⟩ := id Fx31_2
  have hin35 : ¬ (((0 : Int32) + (1 : Int32)) < 0 ∨ cl35.slots.size ≤ (((0 : Int32) + (1 : Int32))).toNatClampNeg) := by  exact inb_of Sa35 ⟨by decide, by decide⟩
  have hat35 : cl35.slots[(((0 : Int32) + (1 : Int32))).toNatClampNeg]? = some (.ref w_3) := Has.at Ha35 hin35 (by rfl)
  obtain ⟨T36, X36, e36, st36⟩ := getF X34 hx hZ hown (host := "") (Or.inl (hw _ (tk 21 rfl))) Via.refl e34 (F_3_letter.ext O31.2) (g := (mkF m 21 #[.val (.int (79 : Int32)), .val (.ref b21_31), .val (.int (2 : Int32)), .val (.int ((0 : Int32) + (1 : Int32))), .val (.ref w_3)] [(.ref w_3)])) rfl rfl (hb hby d1_21)
  obtain ⟨fs, hr, hrun, hended, hW, hsame⟩ := X36.leave (v := some (.ref w_3)) (fun h => by rw [Bd.returns] at h; cases h)
  refine ⟨_, _, pre0 _ ?_, hrun, hended, _, _, rfl, ?_, ⟨_, rfl⟩, hW, hsame.mono (by decide) (by decide)⟩
  · show Steps p.tables e below (s₁.setTop (mkF m 0 #[.val (.int (79 : Int32)), .unset, .unset, .unset, .unset] [])) _
    refine st31 _ ?_
    show Steps p.tables e below (T31.setTop (mkF m 3 #[.val (.int (79 : Int32)), .unset, .unset, .unset, .unset] [(.ref b21_31)])) _
    refine XS.astoreN X31.here hx rfl (hb hby d1_3) rfl rfl (l' := #[.val (.int (79 : Int32)), .val (.ref b21_31), .unset, .unset, .unset]) rfl ?_
    show Steps p.tables e below (T31.setTop (mkF m 4 #[.val (.int (79 : Int32)), .val (.ref b21_31), .unset, .unset, .unset] [])) _
    refine XS.aloadN X31.here hx rfl (hb hby d1_4) rfl rfl ?_
    show Steps p.tables e below (T31.setTop (mkF m 5 #[.val (.int (79 : Int32)), .val (.ref b21_31), .unset, .unset, .unset] [(.ref b21_31)])) _
    refine X31.arraylength hx Ar32.1 (State.isArrayOf_alike hZ.alike Ar32.2.1) (g := (mkF m 5 #[.val (.int (79 : Int32)), .val (.ref b21_31), .unset, .unset, .unset] [(.ref b21_31)])) rfl rfl (hb hby d1_5) _ ?_
    rw [len_of Sa32 Ma32]
    show Steps p.tables e below (T31.setTop (mkF m 6 #[.val (.int (79 : Int32)), .val (.ref b21_31), .unset, .unset, .unset] [(.int (2 : Int32))])) _
    refine XS.istoreN X31.here hx rfl (hb hby d1_6) rfl (l' := #[.val (.int (79 : Int32)), .val (.ref b21_31), .val (.int (2 : Int32)), .unset, .unset]) rfl ?_
    show Steps p.tables e below (T31.setTop (mkF m 7 #[.val (.int (79 : Int32)), .val (.ref b21_31), .val (.int (2 : Int32)), .unset, .unset] [])) _
    refine XS.iconst X31.here hx rfl (hb hby d1_7) ?_
    show Steps p.tables e below (T31.setTop (mkF m 8 #[.val (.int (79 : Int32)), .val (.ref b21_31), .val (.int (2 : Int32)), .unset, .unset] [(.int (0 : Int32))])) _
    refine XS.istoreN X31.here hx rfl (hb hby d1_8) rfl (l' := #[.val (.int (79 : Int32)), .val (.ref b21_31), .val (.int (2 : Int32)), .val (.int (0 : Int32)), .unset]) rfl ?_
    show Steps p.tables e below (T31.setTop (mkF m 9 #[.val (.int (79 : Int32)), .val (.ref b21_31), .val (.int (2 : Int32)), .val (.int (0 : Int32)), .unset] [])) _
    refine XS.iloadN X31.here hx rfl (hb hby d1_9) rfl ?_
    show Steps p.tables e below (T31.setTop (mkF m 10 #[.val (.int (79 : Int32)), .val (.ref b21_31), .val (.int (2 : Int32)), .val (.int (0 : Int32)), .unset] [(.int (0 : Int32))])) _
    refine XS.iloadN X31.here hx rfl (hb hby d1_10) rfl ?_
    show Steps p.tables e below (T31.setTop (mkF m 11 #[.val (.int (79 : Int32)), .val (.ref b21_31), .val (.int (2 : Int32)), .val (.int (0 : Int32)), .unset] [(.int (2 : Int32)), (.int (0 : Int32))])) _
    refine XS.icmpNo X31.here hx rfl (hb hby d1_11) rfl (tlt (by decide : ((0 : Int32) < (2 : Int32)))).2.1 ?_
    show Steps p.tables e below (T31.setTop (mkF m 14 #[.val (.int (79 : Int32)), .val (.ref b21_31), .val (.int (2 : Int32)), .val (.int (0 : Int32)), .unset] [])) _
    refine XS.aloadN X31.here hx rfl (hb hby d1_14) rfl rfl ?_
    show Steps p.tables e below (T31.setTop (mkF m 15 #[.val (.int (79 : Int32)), .val (.ref b21_31), .val (.int (2 : Int32)), .val (.int (0 : Int32)), .unset] [(.ref b21_31)])) _
    refine XS.iloadN X31.here hx rfl (hb hby d1_15) rfl ?_
    show Steps p.tables e below (T31.setTop (mkF m 16 #[.val (.int (79 : Int32)), .val (.ref b21_31), .val (.int (2 : Int32)), .val (.int (0 : Int32)), .unset] [(.int (0 : Int32)), (.ref b21_31)])) _
    refine X31.aaload hx (j := (0 : Int32)) (v := (.ref w_2)) Ar33.1 (State.isArrayOf_alike hZ.alike Ar33.2.1) rfl Ar33.2.2 hin33 hat33 (g := (mkF m 16 #[.val (.int (79 : Int32)), .val (.ref b21_31), .val (.int (2 : Int32)), .val (.int (0 : Int32)), .unset] [(.int (0 : Int32)), (.ref b21_31)])) rfl rfl (hb hby d1_16) _ ?_
    show Steps p.tables e below (T31.setTop (mkF m 17 #[.val (.int (79 : Int32)), .val (.ref b21_31), .val (.int (2 : Int32)), .val (.int (0 : Int32)), .unset] [(.ref w_2)])) _
    refine XS.astore X31.here hx rfl (hb hby d1_17) rfl rfl (l' := #[.val (.int (79 : Int32)), .val (.ref b21_31), .val (.int (2 : Int32)), .val (.int (0 : Int32)), .val (.ref w_2)]) rfl ?_
    show Steps p.tables e below (T31.setTop (mkF m 19 #[.val (.int (79 : Int32)), .val (.ref b21_31), .val (.int (2 : Int32)), .val (.int (0 : Int32)), .val (.ref w_2)] [])) _
    refine XS.aload X31.here hx rfl (hb hby d1_19) rfl rfl ?_
    show Steps p.tables e below (T31.setTop (mkF m 21 #[.val (.int (79 : Int32)), .val (.ref b21_31), .val (.int (2 : Int32)), .val (.int (0 : Int32)), .val (.ref w_2)] [(.ref w_2)])) _
    refine st34 _ ?_
    show Steps p.tables e below (T34.setTop (mkF m 24 #[.val (.int (79 : Int32)), .val (.ref b21_31), .val (.int (2 : Int32)), .val (.int (0 : Int32)), .val (.ref w_2)] [(.int (88 : Int32))])) _
    refine XS.iloadN X34.here hx rfl (hb hby d1_24) rfl ?_
    show Steps p.tables e below (T34.setTop (mkF m 25 #[.val (.int (79 : Int32)), .val (.ref b21_31), .val (.int (2 : Int32)), .val (.int (0 : Int32)), .val (.ref w_2)] [(.int (79 : Int32)), (.int (88 : Int32))])) _
    refine XS.icmpYes X34.here hx rfl (pc0 := 25) (pc' := 31) rfl (hb hby d1_25) rfl (feq (by decide : ¬ ((88 : Int32) = (79 : Int32)))).2 (by decide) (by decide) ?_
    show Steps p.tables e below (T34.setTop (mkF m 31 #[.val (.int (79 : Int32)), .val (.ref b21_31), .val (.int (2 : Int32)), .val (.int (0 : Int32)), .val (.ref w_2)] [])) _
    refine XS.iinc X34.here hx rfl (hb hby d1_31) rfl (l' := #[.val (.int (79 : Int32)), .val (.ref b21_31), .val (.int (2 : Int32)), .val (.int ((0 : Int32) + (1 : Int32))), .val (.ref w_2)]) rfl ?_
    show Steps p.tables e below (T34.setTop (mkF m 34 #[.val (.int (79 : Int32)), .val (.ref b21_31), .val (.int (2 : Int32)), .val (.int ((0 : Int32) + (1 : Int32))), .val (.ref w_2)] [])) _
    refine XS.goto X34.here hx rfl (pc0 := 34) (pc' := 9) rfl (hb hby d1_34) (by decide) (by decide) ?_
    show Steps p.tables e below (T34.setTop (mkF m 9 #[.val (.int (79 : Int32)), .val (.ref b21_31), .val (.int (2 : Int32)), .val (.int ((0 : Int32) + (1 : Int32))), .val (.ref w_2)] [])) _
    refine XS.iloadN X34.here hx rfl (hb hby d1_9) rfl ?_
    show Steps p.tables e below (T34.setTop (mkF m 10 #[.val (.int (79 : Int32)), .val (.ref b21_31), .val (.int (2 : Int32)), .val (.int ((0 : Int32) + (1 : Int32))), .val (.ref w_2)] [(.int ((0 : Int32) + (1 : Int32)))])) _
    refine XS.iloadN X34.here hx rfl (hb hby d1_10) rfl ?_
    show Steps p.tables e below (T34.setTop (mkF m 11 #[.val (.int (79 : Int32)), .val (.ref b21_31), .val (.int (2 : Int32)), .val (.int ((0 : Int32) + (1 : Int32))), .val (.ref w_2)] [(.int (2 : Int32)), (.int ((0 : Int32) + (1 : Int32)))])) _
    refine XS.icmpNo X34.here hx rfl (hb hby d1_11) rfl (tlt (by decide : (((0 : Int32) + (1 : Int32)) < (2 : Int32)))).2.1 ?_
    show Steps p.tables e below (T34.setTop (mkF m 14 #[.val (.int (79 : Int32)), .val (.ref b21_31), .val (.int (2 : Int32)), .val (.int ((0 : Int32) + (1 : Int32))), .val (.ref w_2)] [])) _
    refine XS.aloadN X34.here hx rfl (hb hby d1_14) rfl rfl ?_
    show Steps p.tables e below (T34.setTop (mkF m 15 #[.val (.int (79 : Int32)), .val (.ref b21_31), .val (.int (2 : Int32)), .val (.int ((0 : Int32) + (1 : Int32))), .val (.ref w_2)] [(.ref b21_31)])) _
    refine XS.iloadN X34.here hx rfl (hb hby d1_15) rfl ?_
    show Steps p.tables e below (T34.setTop (mkF m 16 #[.val (.int (79 : Int32)), .val (.ref b21_31), .val (.int (2 : Int32)), .val (.int ((0 : Int32) + (1 : Int32))), .val (.ref w_2)] [(.int ((0 : Int32) + (1 : Int32))), (.ref b21_31)])) _
    refine X34.aaload hx (j := ((0 : Int32) + (1 : Int32))) (v := (.ref w_3)) (by rw [e34]; exact Ar35.1) (State.isArrayOf_alike hZ.alike Ar35.2.1) rfl Ar35.2.2 hin35 hat35 (g := (mkF m 16 #[.val (.int (79 : Int32)), .val (.ref b21_31), .val (.int (2 : Int32)), .val (.int ((0 : Int32) + (1 : Int32))), .val (.ref w_2)] [(.int ((0 : Int32) + (1 : Int32))), (.ref b21_31)])) rfl rfl (hb hby d1_16) _ ?_
    show Steps p.tables e below (T34.setTop (mkF m 17 #[.val (.int (79 : Int32)), .val (.ref b21_31), .val (.int (2 : Int32)), .val (.int ((0 : Int32) + (1 : Int32))), .val (.ref w_2)] [(.ref w_3)])) _
    refine XS.astore X34.here hx rfl (hb hby d1_17) rfl rfl (l' := #[.val (.int (79 : Int32)), .val (.ref b21_31), .val (.int (2 : Int32)), .val (.int ((0 : Int32) + (1 : Int32))), .val (.ref w_3)]) rfl ?_
    show Steps p.tables e below (T34.setTop (mkF m 19 #[.val (.int (79 : Int32)), .val (.ref b21_31), .val (.int (2 : Int32)), .val (.int ((0 : Int32) + (1 : Int32))), .val (.ref w_3)] [])) _
    refine XS.aload X34.here hx rfl (hb hby d1_19) rfl rfl ?_
    show Steps p.tables e below (T34.setTop (mkF m 21 #[.val (.int (79 : Int32)), .val (.ref b21_31), .val (.int (2 : Int32)), .val (.int ((0 : Int32) + (1 : Int32))), .val (.ref w_3)] [(.ref w_3)])) _
    refine st36 _ ?_
    show Steps p.tables e below (T36.setTop (mkF m 24 #[.val (.int (79 : Int32)), .val (.ref b21_31), .val (.int (2 : Int32)), .val (.int ((0 : Int32) + (1 : Int32))), .val (.ref w_3)] [(.int (79 : Int32))])) _
    refine XS.iloadN X36.here hx rfl (hb hby d1_24) rfl ?_
    show Steps p.tables e below (T36.setTop (mkF m 25 #[.val (.int (79 : Int32)), .val (.ref b21_31), .val (.int (2 : Int32)), .val (.int ((0 : Int32) + (1 : Int32))), .val (.ref w_3)] [(.int (79 : Int32)), (.int (79 : Int32))])) _
    refine XS.icmpNo X36.here hx rfl (hb hby d1_25) rfl (teq (by decide : ((79 : Int32) = (79 : Int32)))).2 ?_
    show Steps p.tables e below (T36.setTop (mkF m 28 #[.val (.int (79 : Int32)), .val (.ref b21_31), .val (.int (2 : Int32)), .val (.int ((0 : Int32) + (1 : Int32))), .val (.ref w_3)] [])) _
    refine XS.aload X36.here hx rfl (hb hby d1_28) rfl rfl ?_
    show Steps p.tables e below (T36.setTop (mkF m 30 #[.val (.int (79 : Int32)), .val (.ref b21_31), .val (.int (2 : Int32)), .val (.int ((0 : Int32) + (1 : Int32))), .val (.ref w_3)] [(.ref w_3)])) _
    jvm_step X36.here [X36.here.top, hx, (hb hby d1_30), X36.method', Bd.returns, Value.isRef, FieldType.isReference]
    first | (intro acts; rw [hr _ acts rfl rfl rfl]) | rw [hr _ _ rfl rfl rfl]
    exact Steps.refl _
  · show Q1x2 Z w_1 w_2 w_3 k_1 h0 n0 _ T36.heap _
    rw [e36]
    exact ⟨rfl, N31, O31, K31⟩
theorem pn_1x3 : plainName "flankwise/reversi/Side" = true := by first | (simp [plainName, overriddenIn]; done) | decide +kernel
theorem ef_1x3 (m : MethodId) (p0 : Int32) : entryFrame m #[(.int p0)] 5 = mkF m 0 #[.val (.int p0), .unset, .unset, .unset, .unset] [] := by first | (simp [entryFrame, mkF, argsToLocals, Value.category]; done) | rfl
def Q1x3 (Z : State) (w_1 : Addr) (w_2 : Addr) (w_3 : Addr) (k_1 : ClassId) (p0 : Int32) (h0 : Heap) (n0 : Nat) (v : Option Value) (h : Heap) (L : List Loc) : Prop := v = some (.ref w_2) ∧ Fr n0 L ∧ Old Z n0 h ∧ Keep h0 h []
set_option maxRecDepth 65536 in
set_option maxHeartbeats 40000000 in
theorem rm1x3 (l : Launch) (Z : State) (a0 : Array Value) (hw : ∀ d ∈ tables_1, d.before a0 Z = true) (ws : List Jvm.Cond) (w_1 : Addr) (w_2 : Addr) (w_3 : Addr) (k_1 : ClassId) (hS : StF Z w_1 w_2 w_3 k_1) (p0 : Int32) (h0 : Heap) (n0 : Nat) (O0 : Old Z n0 h0) (as0 : ((88 : Int32) = p0)) :
    MetFree l Y1 (head1 (Jvm.Cond.code Y1 prog_33_method_7_code 5 (some (.object "flankwise/reversi/Side")) :: ws) ({ frames := 2, cells := 1, slots := 2, locals := 25 } : Room)) (fun a U => a = #[(.int p0)] ∧ Z.Warmed39 U.vm ∧ U.heap = h0) (fun _ _ _ _ _ => True) (fun _ U o U' => ∃ v L, o = .returned v ∧ Q1x3 Z w_1 w_2 w_3 k_1 p0 h0 n0 v U'.heap L ∧ FrameEnd U o U' L ({ frames := 2, cells := 1, slots := 2, locals := 25 } : Room).cells ({ frames := 2, cells := 1, slots := 2, locals := 25 } : Room).slots) := by
  refine MetFree.of_bodySF (plainFor_of_name pn_1x3) hisR ?_
  intro p e s m args below meth c s₁ Bd hml0 hP hK
  obtain ⟨rfl, hZ, hh⟩ := hP
  have hx := Bd.exec
  have hby := Bd.bytes
  have hml : c.maxLocals = 5 := hml0
  have hown : s.vm.findClass "flankwise/reversi/Side" = some m.cls := findClass_of_methodNamed Bd.named
  have hnm := (name_of_methodNamed Bd.named Bd.method).1
  have X0 : Stand p l e ({ frames := 2, cells := 1, slots := 2, locals := 25 } : Room) s m #[(.int p0)] below meth c s₁ [] 0 0 := Stand.of_body Bd
  have e0 : s₁.heap = h0 := by rw [← hh, Bd.state]; rfl
  have N0 := Fr.nil n0
  have hS0 := hS
  obtain ⟨S_1, S_2, E_2, S_3, E_3, E_1, F_2_letter, F_3_letter, V_1⟩ := hS
  have pre0 : ∀ t, Steps p.tables e below (s₁.setTop (mkF m 0 #[.val (.int p0), .unset, .unset, .unset, .unset] [])) t → Steps p.tables e below (s₁.setTop (entryFrame m #[(.int p0)] 5)) t := fun t k => castTop (ef_1x3 m p0) k
  obtain ⟨_, _, ⟨T49, L49, k49, n49⟩, -, X49, ⟨Lc49, hQ49, l49, y49, z49⟩, st49⟩ := Jvm.LawKit.callS X0 hx (y := Y0) hown (mvT hZ (hw _ (tk 4 rfl))) (mvT hZ (hw _ (tk 5 rfl))) (mvT hZ (hw _ (tk 2 rfl))) (mvT hZ (hw _ (tk 6 rfl))) (by decide) (backOf (W := 0) (rm2x1 l Z a0 hw [] w_1 w_2 w_3 k_1 hS0 h0 n0 O0) hZ (hw _ (tk 6 rfl)) (hw _ (tk 2 rfl)) (by decide) (by decide)) (g := (mkF m 0 #[.val (.int p0), .unset, .unset, .unset, .unset] [])) rfl (by rw [hml]; rfl) (argsL := []) (rest := []) (lenOf pd_0 rfl) rfl (by show 2 * 0 + _ ≤ _; exact Nat.le_of_eq rfl) (hb hby d1_0) (fun _ _ => ⟨rfl, e0, (by decide : 0 + 1 ≤ _), (by decide : 0 + 2 ≤ _)⟩)
  dsimp only [Pt.U, Pt.locs, Pt.cells, Pt.slots] at X49 l49 y49 z49 st49 hQ49
  subst l49 y49 z49
  obtain ⟨b21_49, k21_49, rv49, N49q, O49, K49c, Fx49_0, Fx49_1, Fx49_2, Fx49_3⟩ := hQ49
  subst rv49
  have N49 := Fr.app N0 N49q
  have K49 : Keep h0 T49.heap [] := (Keep.refl h0 []).trans K49c all0
  have g_b21_49 := Fx49_0
  have sz_b21_49 : h0.size ≤ b21_49 := Nat.le_trans (Keep.refl h0 []).1 Fx49_1
  obtain ⟨cl50, Ar50, qa50, Sa50, Ma50, Ha50, Ga50⟩ := id Fx49_2
  obtain ⟨cl51, Ar51, qa51, Sa51, Ma51, Ha51, Ga51⟩ := id Fx49_2
  have hin51 : ¬ ((0 : Int32) < 0 ∨ cl51.slots.size ≤ ((0 : Int32)).toNatClampNeg) := by  exact inb_of Sa51 ⟨by decide, by decide⟩
  have hat51 : cl51.slots[((0 : Int32)).toNatClampNeg]? = some (.ref w_2) := Has.at Ha51 hin51 (by rfl)
  obtain ⟨T52, X52, e52, st52⟩ := getF X49 hx hZ hown (host := "") (Or.inl (hw _ (tk 21 rfl))) Via.refl rfl (F_2_letter.ext O49.2) (g := (mkF m 21 #[.val (.int p0), .val (.ref b21_49), .val (.int (2 : Int32)), .val (.int (0 : Int32)), .val (.ref w_2)] [(.ref w_2)])) rfl rfl (hb hby d1_21)
  obtain ⟨fs, hr, hrun, hended, hW, hsame⟩ := X52.leave (v := some (.ref w_2)) (fun h => by rw [Bd.returns] at h; cases h)
  refine ⟨_, _, pre0 _ ?_, hrun, hended, _, _, rfl, ?_, ⟨_, rfl⟩, hW, hsame.mono (by decide) (by decide)⟩
  · show Steps p.tables e below (s₁.setTop (mkF m 0 #[.val (.int p0), .unset, .unset, .unset, .unset] [])) _
    refine st49 _ ?_
    show Steps p.tables e below (T49.setTop (mkF m 3 #[.val (.int p0), .unset, .unset, .unset, .unset] [(.ref b21_49)])) _
    refine XS.astoreN X49.here hx rfl (hb hby d1_3) rfl rfl (l' := #[.val (.int p0), .val (.ref b21_49), .unset, .unset, .unset]) rfl ?_
    show Steps p.tables e below (T49.setTop (mkF m 4 #[.val (.int p0), .val (.ref b21_49), .unset, .unset, .unset] [])) _
    refine XS.aloadN X49.here hx rfl (hb hby d1_4) rfl rfl ?_
    show Steps p.tables e below (T49.setTop (mkF m 5 #[.val (.int p0), .val (.ref b21_49), .unset, .unset, .unset] [(.ref b21_49)])) _
    refine X49.arraylength hx Ar50.1 (State.isArrayOf_alike hZ.alike Ar50.2.1) (g := (mkF m 5 #[.val (.int p0), .val (.ref b21_49), .unset, .unset, .unset] [(.ref b21_49)])) rfl rfl (hb hby d1_5) _ ?_
    rw [len_of Sa50 Ma50]
    show Steps p.tables e below (T49.setTop (mkF m 6 #[.val (.int p0), .val (.ref b21_49), .unset, .unset, .unset] [(.int (2 : Int32))])) _
    refine XS.istoreN X49.here hx rfl (hb hby d1_6) rfl (l' := #[.val (.int p0), .val (.ref b21_49), .val (.int (2 : Int32)), .unset, .unset]) rfl ?_
    show Steps p.tables e below (T49.setTop (mkF m 7 #[.val (.int p0), .val (.ref b21_49), .val (.int (2 : Int32)), .unset, .unset] [])) _
    refine XS.iconst X49.here hx rfl (hb hby d1_7) ?_
    show Steps p.tables e below (T49.setTop (mkF m 8 #[.val (.int p0), .val (.ref b21_49), .val (.int (2 : Int32)), .unset, .unset] [(.int (0 : Int32))])) _
    refine XS.istoreN X49.here hx rfl (hb hby d1_8) rfl (l' := #[.val (.int p0), .val (.ref b21_49), .val (.int (2 : Int32)), .val (.int (0 : Int32)), .unset]) rfl ?_
    show Steps p.tables e below (T49.setTop (mkF m 9 #[.val (.int p0), .val (.ref b21_49), .val (.int (2 : Int32)), .val (.int (0 : Int32)), .unset] [])) _
    refine XS.iloadN X49.here hx rfl (hb hby d1_9) rfl ?_
    show Steps p.tables e below (T49.setTop (mkF m 10 #[.val (.int p0), .val (.ref b21_49), .val (.int (2 : Int32)), .val (.int (0 : Int32)), .unset] [(.int (0 : Int32))])) _
    refine XS.iloadN X49.here hx rfl (hb hby d1_10) rfl ?_
    show Steps p.tables e below (T49.setTop (mkF m 11 #[.val (.int p0), .val (.ref b21_49), .val (.int (2 : Int32)), .val (.int (0 : Int32)), .unset] [(.int (2 : Int32)), (.int (0 : Int32))])) _
    refine XS.icmpNo X49.here hx rfl (hb hby d1_11) rfl (tlt (by decide : ((0 : Int32) < (2 : Int32)))).2.1 ?_
    show Steps p.tables e below (T49.setTop (mkF m 14 #[.val (.int p0), .val (.ref b21_49), .val (.int (2 : Int32)), .val (.int (0 : Int32)), .unset] [])) _
    refine XS.aloadN X49.here hx rfl (hb hby d1_14) rfl rfl ?_
    show Steps p.tables e below (T49.setTop (mkF m 15 #[.val (.int p0), .val (.ref b21_49), .val (.int (2 : Int32)), .val (.int (0 : Int32)), .unset] [(.ref b21_49)])) _
    refine XS.iloadN X49.here hx rfl (hb hby d1_15) rfl ?_
    show Steps p.tables e below (T49.setTop (mkF m 16 #[.val (.int p0), .val (.ref b21_49), .val (.int (2 : Int32)), .val (.int (0 : Int32)), .unset] [(.int (0 : Int32)), (.ref b21_49)])) _
    refine X49.aaload hx (j := (0 : Int32)) (v := (.ref w_2)) Ar51.1 (State.isArrayOf_alike hZ.alike Ar51.2.1) rfl Ar51.2.2 hin51 hat51 (g := (mkF m 16 #[.val (.int p0), .val (.ref b21_49), .val (.int (2 : Int32)), .val (.int (0 : Int32)), .unset] [(.int (0 : Int32)), (.ref b21_49)])) rfl rfl (hb hby d1_16) _ ?_
    show Steps p.tables e below (T49.setTop (mkF m 17 #[.val (.int p0), .val (.ref b21_49), .val (.int (2 : Int32)), .val (.int (0 : Int32)), .unset] [(.ref w_2)])) _
    refine XS.astore X49.here hx rfl (hb hby d1_17) rfl rfl (l' := #[.val (.int p0), .val (.ref b21_49), .val (.int (2 : Int32)), .val (.int (0 : Int32)), .val (.ref w_2)]) rfl ?_
    show Steps p.tables e below (T49.setTop (mkF m 19 #[.val (.int p0), .val (.ref b21_49), .val (.int (2 : Int32)), .val (.int (0 : Int32)), .val (.ref w_2)] [])) _
    refine XS.aload X49.here hx rfl (hb hby d1_19) rfl rfl ?_
    show Steps p.tables e below (T49.setTop (mkF m 21 #[.val (.int p0), .val (.ref b21_49), .val (.int (2 : Int32)), .val (.int (0 : Int32)), .val (.ref w_2)] [(.ref w_2)])) _
    refine st52 _ ?_
    show Steps p.tables e below (T52.setTop (mkF m 24 #[.val (.int p0), .val (.ref b21_49), .val (.int (2 : Int32)), .val (.int (0 : Int32)), .val (.ref w_2)] [(.int (88 : Int32))])) _
    refine XS.iloadN X52.here hx rfl (hb hby d1_24) rfl ?_
    show Steps p.tables e below (T52.setTop (mkF m 25 #[.val (.int p0), .val (.ref b21_49), .val (.int (2 : Int32)), .val (.int (0 : Int32)), .val (.ref w_2)] [(.int p0), (.int (88 : Int32))])) _
    refine XS.icmpNo X52.here hx rfl (hb hby d1_25) rfl (teq as0).2 ?_
    show Steps p.tables e below (T52.setTop (mkF m 28 #[.val (.int p0), .val (.ref b21_49), .val (.int (2 : Int32)), .val (.int (0 : Int32)), .val (.ref w_2)] [])) _
    refine XS.aload X52.here hx rfl (hb hby d1_28) rfl rfl ?_
    show Steps p.tables e below (T52.setTop (mkF m 30 #[.val (.int p0), .val (.ref b21_49), .val (.int (2 : Int32)), .val (.int (0 : Int32)), .val (.ref w_2)] [(.ref w_2)])) _
    jvm_step X52.here [X52.here.top, hx, (hb hby d1_30), X52.method', Bd.returns, Value.isRef, FieldType.isReference]
    first | (intro acts; rw [hr _ acts rfl rfl rfl]) | rw [hr _ _ rfl rfl rfl]
    exact Steps.refl _
  · show Q1x3 Z w_1 w_2 w_3 k_1 p0 h0 n0 _ T52.heap _
    rw [e52]
    exact ⟨rfl, N49, O49, K49⟩
theorem pn_1x4 : plainName "flankwise/reversi/Side" = true := by first | (simp [plainName, overriddenIn]; done) | decide +kernel
theorem ef_1x4 (m : MethodId) (p0 : Int32) : entryFrame m #[(.int p0)] 5 = mkF m 0 #[.val (.int p0), .unset, .unset, .unset, .unset] [] := by first | (simp [entryFrame, mkF, argsToLocals, Value.category]; done) | rfl
def Q1x4 (Z : State) (w_1 : Addr) (w_2 : Addr) (w_3 : Addr) (k_1 : ClassId) (p0 : Int32) (h0 : Heap) (n0 : Nat) (v : Option Value) (h : Heap) (L : List Loc) : Prop := v = some (.ref w_3) ∧ Fr n0 L ∧ Old Z n0 h ∧ Keep h0 h []
set_option maxRecDepth 65536 in
set_option maxHeartbeats 40000000 in
theorem rm1x4 (l : Launch) (Z : State) (a0 : Array Value) (hw : ∀ d ∈ tables_1, d.before a0 Z = true) (ws : List Jvm.Cond) (w_1 : Addr) (w_2 : Addr) (w_3 : Addr) (k_1 : ClassId) (hS : StF Z w_1 w_2 w_3 k_1) (p0 : Int32) (h0 : Heap) (n0 : Nat) (O0 : Old Z n0 h0) (as0 : ¬ ((88 : Int32) = p0)) (as1 : ((79 : Int32) = p0)) :
    MetFree l Y1 (head1 (Jvm.Cond.code Y1 prog_33_method_7_code 5 (some (.object "flankwise/reversi/Side")) :: ws) ({ frames := 2, cells := 1, slots := 2, locals := 25 } : Room)) (fun a U => a = #[(.int p0)] ∧ Z.Warmed39 U.vm ∧ U.heap = h0) (fun _ _ _ _ _ => True) (fun _ U o U' => ∃ v L, o = .returned v ∧ Q1x4 Z w_1 w_2 w_3 k_1 p0 h0 n0 v U'.heap L ∧ FrameEnd U o U' L ({ frames := 2, cells := 1, slots := 2, locals := 25 } : Room).cells ({ frames := 2, cells := 1, slots := 2, locals := 25 } : Room).slots) := by
  refine MetFree.of_bodySF (plainFor_of_name pn_1x4) hisR ?_
  intro p e s m args below meth c s₁ Bd hml0 hP hK
  obtain ⟨rfl, hZ, hh⟩ := hP
  have hx := Bd.exec
  have hby := Bd.bytes
  have hml : c.maxLocals = 5 := hml0
  have hown : s.vm.findClass "flankwise/reversi/Side" = some m.cls := findClass_of_methodNamed Bd.named
  have hnm := (name_of_methodNamed Bd.named Bd.method).1
  have X0 : Stand p l e ({ frames := 2, cells := 1, slots := 2, locals := 25 } : Room) s m #[(.int p0)] below meth c s₁ [] 0 0 := Stand.of_body Bd
  have e0 : s₁.heap = h0 := by rw [← hh, Bd.state]; rfl
  have N0 := Fr.nil n0
  have hS0 := hS
  obtain ⟨S_1, S_2, E_2, S_3, E_3, E_1, F_2_letter, F_3_letter, V_1⟩ := hS
  have pre0 : ∀ t, Steps p.tables e below (s₁.setTop (mkF m 0 #[.val (.int p0), .unset, .unset, .unset, .unset] [])) t → Steps p.tables e below (s₁.setTop (entryFrame m #[(.int p0)] 5)) t := fun t k => castTop (ef_1x4 m p0) k
  obtain ⟨_, _, ⟨T76, L76, k76, n76⟩, -, X76, ⟨Lc76, hQ76, l76, y76, z76⟩, st76⟩ := Jvm.LawKit.callS X0 hx (y := Y0) hown (mvT hZ (hw _ (tk 4 rfl))) (mvT hZ (hw _ (tk 5 rfl))) (mvT hZ (hw _ (tk 2 rfl))) (mvT hZ (hw _ (tk 6 rfl))) (by decide) (backOf (W := 0) (rm2x1 l Z a0 hw [] w_1 w_2 w_3 k_1 hS0 h0 n0 O0) hZ (hw _ (tk 6 rfl)) (hw _ (tk 2 rfl)) (by decide) (by decide)) (g := (mkF m 0 #[.val (.int p0), .unset, .unset, .unset, .unset] [])) rfl (by rw [hml]; rfl) (argsL := []) (rest := []) (lenOf pd_0 rfl) rfl (by show 2 * 0 + _ ≤ _; exact Nat.le_of_eq rfl) (hb hby d1_0) (fun _ _ => ⟨rfl, e0, (by decide : 0 + 1 ≤ _), (by decide : 0 + 2 ≤ _)⟩)
  dsimp only [Pt.U, Pt.locs, Pt.cells, Pt.slots] at X76 l76 y76 z76 st76 hQ76
  subst l76 y76 z76
  obtain ⟨b21_76, k21_76, rv76, N76q, O76, K76c, Fx76_0, Fx76_1, Fx76_2, Fx76_3⟩ := hQ76
  subst rv76
  have N76 := Fr.app N0 N76q
  have K76 : Keep h0 T76.heap [] := (Keep.refl h0 []).trans K76c all0
  have g_b21_76 := Fx76_0
  have sz_b21_76 : h0.size ≤ b21_76 := Nat.le_trans (Keep.refl h0 []).1 Fx76_1
  obtain ⟨cl77, Ar77, qa77, Sa77, Ma77, Ha77, Ga77⟩ := id Fx76_2
  obtain ⟨cl78, Ar78, qa78, Sa78, Ma78, Ha78, Ga78⟩ := id Fx76_2
  have hin78 : ¬ ((0 : Int32) < 0 ∨ cl78.slots.size ≤ ((0 : Int32)).toNatClampNeg) := by  exact inb_of Sa78 ⟨by decide, by decide⟩
  have hat78 : cl78.slots[((0 : Int32)).toNatClampNeg]? = some (.ref w_2) := Has.at Ha78 hin78 (by rfl)
  obtain ⟨T79, X79, e79, st79⟩ := getF X76 hx hZ hown (host := "") (Or.inl (hw _ (tk 21 rfl))) Via.refl rfl (F_2_letter.ext O76.2) (g := (mkF m 21 #[.val (.int p0), .val (.ref b21_76), .val (.int (2 : Int32)), .val (.int (0 : Int32)), .val (.ref w_2)] [(.ref w_2)])) rfl rfl (hb hby d1_21)
  obtain ⟨cl80, Ar80, qa80, Sa80, Ma80, Ha80, Ga80⟩ := id Fx76_2
  have hin80 : ¬ (((0 : Int32) + (1 : Int32)) < 0 ∨ cl80.slots.size ≤ (((0 : Int32) + (1 : Int32))).toNatClampNeg) := by  exact inb_of Sa80 ⟨by decide, by decide⟩
  have hat80 : cl80.slots[(((0 : Int32) + (1 : Int32))).toNatClampNeg]? = some (.ref w_3) := Has.at Ha80 hin80 (by rfl)
  obtain ⟨T81, X81, e81, st81⟩ := getF X79 hx hZ hown (host := "") (Or.inl (hw _ (tk 21 rfl))) Via.refl e79 (F_3_letter.ext O76.2) (g := (mkF m 21 #[.val (.int p0), .val (.ref b21_76), .val (.int (2 : Int32)), .val (.int ((0 : Int32) + (1 : Int32))), .val (.ref w_3)] [(.ref w_3)])) rfl rfl (hb hby d1_21)
  obtain ⟨fs, hr, hrun, hended, hW, hsame⟩ := X81.leave (v := some (.ref w_3)) (fun h => by rw [Bd.returns] at h; cases h)
  refine ⟨_, _, pre0 _ ?_, hrun, hended, _, _, rfl, ?_, ⟨_, rfl⟩, hW, hsame.mono (by decide) (by decide)⟩
  · show Steps p.tables e below (s₁.setTop (mkF m 0 #[.val (.int p0), .unset, .unset, .unset, .unset] [])) _
    refine st76 _ ?_
    show Steps p.tables e below (T76.setTop (mkF m 3 #[.val (.int p0), .unset, .unset, .unset, .unset] [(.ref b21_76)])) _
    refine XS.astoreN X76.here hx rfl (hb hby d1_3) rfl rfl (l' := #[.val (.int p0), .val (.ref b21_76), .unset, .unset, .unset]) rfl ?_
    show Steps p.tables e below (T76.setTop (mkF m 4 #[.val (.int p0), .val (.ref b21_76), .unset, .unset, .unset] [])) _
    refine XS.aloadN X76.here hx rfl (hb hby d1_4) rfl rfl ?_
    show Steps p.tables e below (T76.setTop (mkF m 5 #[.val (.int p0), .val (.ref b21_76), .unset, .unset, .unset] [(.ref b21_76)])) _
    refine X76.arraylength hx Ar77.1 (State.isArrayOf_alike hZ.alike Ar77.2.1) (g := (mkF m 5 #[.val (.int p0), .val (.ref b21_76), .unset, .unset, .unset] [(.ref b21_76)])) rfl rfl (hb hby d1_5) _ ?_
    rw [len_of Sa77 Ma77]
    show Steps p.tables e below (T76.setTop (mkF m 6 #[.val (.int p0), .val (.ref b21_76), .unset, .unset, .unset] [(.int (2 : Int32))])) _
    refine XS.istoreN X76.here hx rfl (hb hby d1_6) rfl (l' := #[.val (.int p0), .val (.ref b21_76), .val (.int (2 : Int32)), .unset, .unset]) rfl ?_
    show Steps p.tables e below (T76.setTop (mkF m 7 #[.val (.int p0), .val (.ref b21_76), .val (.int (2 : Int32)), .unset, .unset] [])) _
    refine XS.iconst X76.here hx rfl (hb hby d1_7) ?_
    show Steps p.tables e below (T76.setTop (mkF m 8 #[.val (.int p0), .val (.ref b21_76), .val (.int (2 : Int32)), .unset, .unset] [(.int (0 : Int32))])) _
    refine XS.istoreN X76.here hx rfl (hb hby d1_8) rfl (l' := #[.val (.int p0), .val (.ref b21_76), .val (.int (2 : Int32)), .val (.int (0 : Int32)), .unset]) rfl ?_
    show Steps p.tables e below (T76.setTop (mkF m 9 #[.val (.int p0), .val (.ref b21_76), .val (.int (2 : Int32)), .val (.int (0 : Int32)), .unset] [])) _
    refine XS.iloadN X76.here hx rfl (hb hby d1_9) rfl ?_
    show Steps p.tables e below (T76.setTop (mkF m 10 #[.val (.int p0), .val (.ref b21_76), .val (.int (2 : Int32)), .val (.int (0 : Int32)), .unset] [(.int (0 : Int32))])) _
    refine XS.iloadN X76.here hx rfl (hb hby d1_10) rfl ?_
    show Steps p.tables e below (T76.setTop (mkF m 11 #[.val (.int p0), .val (.ref b21_76), .val (.int (2 : Int32)), .val (.int (0 : Int32)), .unset] [(.int (2 : Int32)), (.int (0 : Int32))])) _
    refine XS.icmpNo X76.here hx rfl (hb hby d1_11) rfl (tlt (by decide : ((0 : Int32) < (2 : Int32)))).2.1 ?_
    show Steps p.tables e below (T76.setTop (mkF m 14 #[.val (.int p0), .val (.ref b21_76), .val (.int (2 : Int32)), .val (.int (0 : Int32)), .unset] [])) _
    refine XS.aloadN X76.here hx rfl (hb hby d1_14) rfl rfl ?_
    show Steps p.tables e below (T76.setTop (mkF m 15 #[.val (.int p0), .val (.ref b21_76), .val (.int (2 : Int32)), .val (.int (0 : Int32)), .unset] [(.ref b21_76)])) _
    refine XS.iloadN X76.here hx rfl (hb hby d1_15) rfl ?_
    show Steps p.tables e below (T76.setTop (mkF m 16 #[.val (.int p0), .val (.ref b21_76), .val (.int (2 : Int32)), .val (.int (0 : Int32)), .unset] [(.int (0 : Int32)), (.ref b21_76)])) _
    refine X76.aaload hx (j := (0 : Int32)) (v := (.ref w_2)) Ar78.1 (State.isArrayOf_alike hZ.alike Ar78.2.1) rfl Ar78.2.2 hin78 hat78 (g := (mkF m 16 #[.val (.int p0), .val (.ref b21_76), .val (.int (2 : Int32)), .val (.int (0 : Int32)), .unset] [(.int (0 : Int32)), (.ref b21_76)])) rfl rfl (hb hby d1_16) _ ?_
    show Steps p.tables e below (T76.setTop (mkF m 17 #[.val (.int p0), .val (.ref b21_76), .val (.int (2 : Int32)), .val (.int (0 : Int32)), .unset] [(.ref w_2)])) _
    refine XS.astore X76.here hx rfl (hb hby d1_17) rfl rfl (l' := #[.val (.int p0), .val (.ref b21_76), .val (.int (2 : Int32)), .val (.int (0 : Int32)), .val (.ref w_2)]) rfl ?_
    show Steps p.tables e below (T76.setTop (mkF m 19 #[.val (.int p0), .val (.ref b21_76), .val (.int (2 : Int32)), .val (.int (0 : Int32)), .val (.ref w_2)] [])) _
    refine XS.aload X76.here hx rfl (hb hby d1_19) rfl rfl ?_
    show Steps p.tables e below (T76.setTop (mkF m 21 #[.val (.int p0), .val (.ref b21_76), .val (.int (2 : Int32)), .val (.int (0 : Int32)), .val (.ref w_2)] [(.ref w_2)])) _
    refine st79 _ ?_
    show Steps p.tables e below (T79.setTop (mkF m 24 #[.val (.int p0), .val (.ref b21_76), .val (.int (2 : Int32)), .val (.int (0 : Int32)), .val (.ref w_2)] [(.int (88 : Int32))])) _
    refine XS.iloadN X79.here hx rfl (hb hby d1_24) rfl ?_
    show Steps p.tables e below (T79.setTop (mkF m 25 #[.val (.int p0), .val (.ref b21_76), .val (.int (2 : Int32)), .val (.int (0 : Int32)), .val (.ref w_2)] [(.int p0), (.int (88 : Int32))])) _
    refine XS.icmpYes X79.here hx rfl (pc0 := 25) (pc' := 31) rfl (hb hby d1_25) rfl (feq as0).2 (by decide) (by decide) ?_
    show Steps p.tables e below (T79.setTop (mkF m 31 #[.val (.int p0), .val (.ref b21_76), .val (.int (2 : Int32)), .val (.int (0 : Int32)), .val (.ref w_2)] [])) _
    refine XS.iinc X79.here hx rfl (hb hby d1_31) rfl (l' := #[.val (.int p0), .val (.ref b21_76), .val (.int (2 : Int32)), .val (.int ((0 : Int32) + (1 : Int32))), .val (.ref w_2)]) rfl ?_
    show Steps p.tables e below (T79.setTop (mkF m 34 #[.val (.int p0), .val (.ref b21_76), .val (.int (2 : Int32)), .val (.int ((0 : Int32) + (1 : Int32))), .val (.ref w_2)] [])) _
    refine XS.goto X79.here hx rfl (pc0 := 34) (pc' := 9) rfl (hb hby d1_34) (by decide) (by decide) ?_
    show Steps p.tables e below (T79.setTop (mkF m 9 #[.val (.int p0), .val (.ref b21_76), .val (.int (2 : Int32)), .val (.int ((0 : Int32) + (1 : Int32))), .val (.ref w_2)] [])) _
    refine XS.iloadN X79.here hx rfl (hb hby d1_9) rfl ?_
    show Steps p.tables e below (T79.setTop (mkF m 10 #[.val (.int p0), .val (.ref b21_76), .val (.int (2 : Int32)), .val (.int ((0 : Int32) + (1 : Int32))), .val (.ref w_2)] [(.int ((0 : Int32) + (1 : Int32)))])) _
    refine XS.iloadN X79.here hx rfl (hb hby d1_10) rfl ?_
    show Steps p.tables e below (T79.setTop (mkF m 11 #[.val (.int p0), .val (.ref b21_76), .val (.int (2 : Int32)), .val (.int ((0 : Int32) + (1 : Int32))), .val (.ref w_2)] [(.int (2 : Int32)), (.int ((0 : Int32) + (1 : Int32)))])) _
    refine XS.icmpNo X79.here hx rfl (hb hby d1_11) rfl (tlt (by decide : (((0 : Int32) + (1 : Int32)) < (2 : Int32)))).2.1 ?_
    show Steps p.tables e below (T79.setTop (mkF m 14 #[.val (.int p0), .val (.ref b21_76), .val (.int (2 : Int32)), .val (.int ((0 : Int32) + (1 : Int32))), .val (.ref w_2)] [])) _
    refine XS.aloadN X79.here hx rfl (hb hby d1_14) rfl rfl ?_
    show Steps p.tables e below (T79.setTop (mkF m 15 #[.val (.int p0), .val (.ref b21_76), .val (.int (2 : Int32)), .val (.int ((0 : Int32) + (1 : Int32))), .val (.ref w_2)] [(.ref b21_76)])) _
    refine XS.iloadN X79.here hx rfl (hb hby d1_15) rfl ?_
    show Steps p.tables e below (T79.setTop (mkF m 16 #[.val (.int p0), .val (.ref b21_76), .val (.int (2 : Int32)), .val (.int ((0 : Int32) + (1 : Int32))), .val (.ref w_2)] [(.int ((0 : Int32) + (1 : Int32))), (.ref b21_76)])) _
    refine X79.aaload hx (j := ((0 : Int32) + (1 : Int32))) (v := (.ref w_3)) (by rw [e79]; exact Ar80.1) (State.isArrayOf_alike hZ.alike Ar80.2.1) rfl Ar80.2.2 hin80 hat80 (g := (mkF m 16 #[.val (.int p0), .val (.ref b21_76), .val (.int (2 : Int32)), .val (.int ((0 : Int32) + (1 : Int32))), .val (.ref w_2)] [(.int ((0 : Int32) + (1 : Int32))), (.ref b21_76)])) rfl rfl (hb hby d1_16) _ ?_
    show Steps p.tables e below (T79.setTop (mkF m 17 #[.val (.int p0), .val (.ref b21_76), .val (.int (2 : Int32)), .val (.int ((0 : Int32) + (1 : Int32))), .val (.ref w_2)] [(.ref w_3)])) _
    refine XS.astore X79.here hx rfl (hb hby d1_17) rfl rfl (l' := #[.val (.int p0), .val (.ref b21_76), .val (.int (2 : Int32)), .val (.int ((0 : Int32) + (1 : Int32))), .val (.ref w_3)]) rfl ?_
    show Steps p.tables e below (T79.setTop (mkF m 19 #[.val (.int p0), .val (.ref b21_76), .val (.int (2 : Int32)), .val (.int ((0 : Int32) + (1 : Int32))), .val (.ref w_3)] [])) _
    refine XS.aload X79.here hx rfl (hb hby d1_19) rfl rfl ?_
    show Steps p.tables e below (T79.setTop (mkF m 21 #[.val (.int p0), .val (.ref b21_76), .val (.int (2 : Int32)), .val (.int ((0 : Int32) + (1 : Int32))), .val (.ref w_3)] [(.ref w_3)])) _
    refine st81 _ ?_
    show Steps p.tables e below (T81.setTop (mkF m 24 #[.val (.int p0), .val (.ref b21_76), .val (.int (2 : Int32)), .val (.int ((0 : Int32) + (1 : Int32))), .val (.ref w_3)] [(.int (79 : Int32))])) _
    refine XS.iloadN X81.here hx rfl (hb hby d1_24) rfl ?_
    show Steps p.tables e below (T81.setTop (mkF m 25 #[.val (.int p0), .val (.ref b21_76), .val (.int (2 : Int32)), .val (.int ((0 : Int32) + (1 : Int32))), .val (.ref w_3)] [(.int p0), (.int (79 : Int32))])) _
    refine XS.icmpNo X81.here hx rfl (hb hby d1_25) rfl (teq as1).2 ?_
    show Steps p.tables e below (T81.setTop (mkF m 28 #[.val (.int p0), .val (.ref b21_76), .val (.int (2 : Int32)), .val (.int ((0 : Int32) + (1 : Int32))), .val (.ref w_3)] [])) _
    refine XS.aload X81.here hx rfl (hb hby d1_28) rfl rfl ?_
    show Steps p.tables e below (T81.setTop (mkF m 30 #[.val (.int p0), .val (.ref b21_76), .val (.int (2 : Int32)), .val (.int ((0 : Int32) + (1 : Int32))), .val (.ref w_3)] [(.ref w_3)])) _
    jvm_step X81.here [X81.here.top, hx, (hb hby d1_30), X81.method', Bd.returns, Value.isRef, FieldType.isReference]
    first | (intro acts; rw [hr _ acts rfl rfl rfl]) | rw [hr _ _ rfl rfl rfl]
    exact Steps.refl _
  · show Q1x4 Z w_1 w_2 w_3 k_1 p0 h0 n0 _ T81.heap _
    rw [e81]
    exact ⟨rfl, N76, O76, K76⟩
theorem pn_1x5 : plainName "flankwise/reversi/Side" = true := by first | (simp [plainName, overriddenIn]; done) | decide +kernel
theorem ef_1x5 (m : MethodId) (p0 : Int32) : entryFrame m #[(.int p0)] 5 = mkF m 0 #[.val (.int p0), .unset, .unset, .unset, .unset] [] := by first | (simp [entryFrame, mkF, argsToLocals, Value.category]; done) | rfl
def Q1x5 (Z : State) (w_1 : Addr) (w_2 : Addr) (w_3 : Addr) (k_1 : ClassId) (p0 : Int32) (h0 : Heap) (n0 : Nat) (v : Option Value) (h : Heap) (L : List Loc) : Prop := v = some .null ∧ Fr n0 L ∧ Old Z n0 h ∧ Keep h0 h []
set_option maxRecDepth 65536 in
set_option maxHeartbeats 40000000 in
theorem rm1x5 (l : Launch) (Z : State) (a0 : Array Value) (hw : ∀ d ∈ tables_1, d.before a0 Z = true) (ws : List Jvm.Cond) (w_1 : Addr) (w_2 : Addr) (w_3 : Addr) (k_1 : ClassId) (hS : StF Z w_1 w_2 w_3 k_1) (p0 : Int32) (h0 : Heap) (n0 : Nat) (O0 : Old Z n0 h0) (as0 : ¬ ((88 : Int32) = p0)) (as1 : ¬ ((79 : Int32) = p0)) :
    MetFree l Y1 (head1 (Jvm.Cond.code Y1 prog_33_method_7_code 5 (some (.object "flankwise/reversi/Side")) :: ws) ({ frames := 2, cells := 1, slots := 2, locals := 25 } : Room)) (fun a U => a = #[(.int p0)] ∧ Z.Warmed39 U.vm ∧ U.heap = h0) (fun _ _ _ _ _ => True) (fun _ U o U' => ∃ v L, o = .returned v ∧ Q1x5 Z w_1 w_2 w_3 k_1 p0 h0 n0 v U'.heap L ∧ FrameEnd U o U' L ({ frames := 2, cells := 1, slots := 2, locals := 25 } : Room).cells ({ frames := 2, cells := 1, slots := 2, locals := 25 } : Room).slots) := by
  refine MetFree.of_bodySF (plainFor_of_name pn_1x5) hisR ?_
  intro p e s m args below meth c s₁ Bd hml0 hP hK
  obtain ⟨rfl, hZ, hh⟩ := hP
  have hx := Bd.exec
  have hby := Bd.bytes
  have hml : c.maxLocals = 5 := hml0
  have hown : s.vm.findClass "flankwise/reversi/Side" = some m.cls := findClass_of_methodNamed Bd.named
  have hnm := (name_of_methodNamed Bd.named Bd.method).1
  have X0 : Stand p l e ({ frames := 2, cells := 1, slots := 2, locals := 25 } : Room) s m #[(.int p0)] below meth c s₁ [] 0 0 := Stand.of_body Bd
  have e0 : s₁.heap = h0 := by rw [← hh, Bd.state]; rfl
  have N0 := Fr.nil n0
  have hS0 := hS
  obtain ⟨S_1, S_2, E_2, S_3, E_3, E_1, F_2_letter, F_3_letter, V_1⟩ := hS
  have pre0 : ∀ t, Steps p.tables e below (s₁.setTop (mkF m 0 #[.val (.int p0), .unset, .unset, .unset, .unset] [])) t → Steps p.tables e below (s₁.setTop (entryFrame m #[(.int p0)] 5)) t := fun t k => castTop (ef_1x5 m p0) k
  obtain ⟨_, _, ⟨T94, L94, k94, n94⟩, -, X94, ⟨Lc94, hQ94, l94, y94, z94⟩, st94⟩ := Jvm.LawKit.callS X0 hx (y := Y0) hown (mvT hZ (hw _ (tk 4 rfl))) (mvT hZ (hw _ (tk 5 rfl))) (mvT hZ (hw _ (tk 2 rfl))) (mvT hZ (hw _ (tk 6 rfl))) (by decide) (backOf (W := 0) (rm2x1 l Z a0 hw [] w_1 w_2 w_3 k_1 hS0 h0 n0 O0) hZ (hw _ (tk 6 rfl)) (hw _ (tk 2 rfl)) (by decide) (by decide)) (g := (mkF m 0 #[.val (.int p0), .unset, .unset, .unset, .unset] [])) rfl (by rw [hml]; rfl) (argsL := []) (rest := []) (lenOf pd_0 rfl) rfl (by show 2 * 0 + _ ≤ _; exact Nat.le_of_eq rfl) (hb hby d1_0) (fun _ _ => ⟨rfl, e0, (by decide : 0 + 1 ≤ _), (by decide : 0 + 2 ≤ _)⟩)
  dsimp only [Pt.U, Pt.locs, Pt.cells, Pt.slots] at X94 l94 y94 z94 st94 hQ94
  subst l94 y94 z94
  obtain ⟨b21_94, k21_94, rv94, N94q, O94, K94c, Fx94_0, Fx94_1, Fx94_2, Fx94_3⟩ := hQ94
  subst rv94
  have N94 := Fr.app N0 N94q
  have K94 : Keep h0 T94.heap [] := (Keep.refl h0 []).trans K94c all0
  have g_b21_94 := Fx94_0
  have sz_b21_94 : h0.size ≤ b21_94 := Nat.le_trans (Keep.refl h0 []).1 Fx94_1
  obtain ⟨cl95, Ar95, qa95, Sa95, Ma95, Ha95, Ga95⟩ := id Fx94_2
  obtain ⟨cl96, Ar96, qa96, Sa96, Ma96, Ha96, Ga96⟩ := id Fx94_2
  have hin96 : ¬ ((0 : Int32) < 0 ∨ cl96.slots.size ≤ ((0 : Int32)).toNatClampNeg) := by  exact inb_of Sa96 ⟨by decide, by decide⟩
  have hat96 : cl96.slots[((0 : Int32)).toNatClampNeg]? = some (.ref w_2) := Has.at Ha96 hin96 (by rfl)
  obtain ⟨T97, X97, e97, st97⟩ := getF X94 hx hZ hown (host := "") (Or.inl (hw _ (tk 21 rfl))) Via.refl rfl (F_2_letter.ext O94.2) (g := (mkF m 21 #[.val (.int p0), .val (.ref b21_94), .val (.int (2 : Int32)), .val (.int (0 : Int32)), .val (.ref w_2)] [(.ref w_2)])) rfl rfl (hb hby d1_21)
  obtain ⟨cl98, Ar98, qa98, Sa98, Ma98, Ha98, Ga98⟩ := id Fx94_2
  have hin98 : ¬ (((0 : Int32) + (1 : Int32)) < 0 ∨ cl98.slots.size ≤ (((0 : Int32) + (1 : Int32))).toNatClampNeg) := by  exact inb_of Sa98 ⟨by decide, by decide⟩
  have hat98 : cl98.slots[(((0 : Int32) + (1 : Int32))).toNatClampNeg]? = some (.ref w_3) := Has.at Ha98 hin98 (by rfl)
  obtain ⟨T99, X99, e99, st99⟩ := getF X97 hx hZ hown (host := "") (Or.inl (hw _ (tk 21 rfl))) Via.refl e97 (F_3_letter.ext O94.2) (g := (mkF m 21 #[.val (.int p0), .val (.ref b21_94), .val (.int (2 : Int32)), .val (.int ((0 : Int32) + (1 : Int32))), .val (.ref w_3)] [(.ref w_3)])) rfl rfl (hb hby d1_21)
  obtain ⟨fs, hr, hrun, hended, hW, hsame⟩ := X99.leave (v := some .null) (fun h => by rw [Bd.returns] at h; cases h)
  refine ⟨_, _, pre0 _ ?_, hrun, hended, _, _, rfl, ?_, ⟨_, rfl⟩, hW, hsame.mono (by decide) (by decide)⟩
  · show Steps p.tables e below (s₁.setTop (mkF m 0 #[.val (.int p0), .unset, .unset, .unset, .unset] [])) _
    refine st94 _ ?_
    show Steps p.tables e below (T94.setTop (mkF m 3 #[.val (.int p0), .unset, .unset, .unset, .unset] [(.ref b21_94)])) _
    refine XS.astoreN X94.here hx rfl (hb hby d1_3) rfl rfl (l' := #[.val (.int p0), .val (.ref b21_94), .unset, .unset, .unset]) rfl ?_
    show Steps p.tables e below (T94.setTop (mkF m 4 #[.val (.int p0), .val (.ref b21_94), .unset, .unset, .unset] [])) _
    refine XS.aloadN X94.here hx rfl (hb hby d1_4) rfl rfl ?_
    show Steps p.tables e below (T94.setTop (mkF m 5 #[.val (.int p0), .val (.ref b21_94), .unset, .unset, .unset] [(.ref b21_94)])) _
    refine X94.arraylength hx Ar95.1 (State.isArrayOf_alike hZ.alike Ar95.2.1) (g := (mkF m 5 #[.val (.int p0), .val (.ref b21_94), .unset, .unset, .unset] [(.ref b21_94)])) rfl rfl (hb hby d1_5) _ ?_
    rw [len_of Sa95 Ma95]
    show Steps p.tables e below (T94.setTop (mkF m 6 #[.val (.int p0), .val (.ref b21_94), .unset, .unset, .unset] [(.int (2 : Int32))])) _
    refine XS.istoreN X94.here hx rfl (hb hby d1_6) rfl (l' := #[.val (.int p0), .val (.ref b21_94), .val (.int (2 : Int32)), .unset, .unset]) rfl ?_
    show Steps p.tables e below (T94.setTop (mkF m 7 #[.val (.int p0), .val (.ref b21_94), .val (.int (2 : Int32)), .unset, .unset] [])) _
    refine XS.iconst X94.here hx rfl (hb hby d1_7) ?_
    show Steps p.tables e below (T94.setTop (mkF m 8 #[.val (.int p0), .val (.ref b21_94), .val (.int (2 : Int32)), .unset, .unset] [(.int (0 : Int32))])) _
    refine XS.istoreN X94.here hx rfl (hb hby d1_8) rfl (l' := #[.val (.int p0), .val (.ref b21_94), .val (.int (2 : Int32)), .val (.int (0 : Int32)), .unset]) rfl ?_
    show Steps p.tables e below (T94.setTop (mkF m 9 #[.val (.int p0), .val (.ref b21_94), .val (.int (2 : Int32)), .val (.int (0 : Int32)), .unset] [])) _
    refine XS.iloadN X94.here hx rfl (hb hby d1_9) rfl ?_
    show Steps p.tables e below (T94.setTop (mkF m 10 #[.val (.int p0), .val (.ref b21_94), .val (.int (2 : Int32)), .val (.int (0 : Int32)), .unset] [(.int (0 : Int32))])) _
    refine XS.iloadN X94.here hx rfl (hb hby d1_10) rfl ?_
    show Steps p.tables e below (T94.setTop (mkF m 11 #[.val (.int p0), .val (.ref b21_94), .val (.int (2 : Int32)), .val (.int (0 : Int32)), .unset] [(.int (2 : Int32)), (.int (0 : Int32))])) _
    refine XS.icmpNo X94.here hx rfl (hb hby d1_11) rfl (tlt (by decide : ((0 : Int32) < (2 : Int32)))).2.1 ?_
    show Steps p.tables e below (T94.setTop (mkF m 14 #[.val (.int p0), .val (.ref b21_94), .val (.int (2 : Int32)), .val (.int (0 : Int32)), .unset] [])) _
    refine XS.aloadN X94.here hx rfl (hb hby d1_14) rfl rfl ?_
    show Steps p.tables e below (T94.setTop (mkF m 15 #[.val (.int p0), .val (.ref b21_94), .val (.int (2 : Int32)), .val (.int (0 : Int32)), .unset] [(.ref b21_94)])) _
    refine XS.iloadN X94.here hx rfl (hb hby d1_15) rfl ?_
    show Steps p.tables e below (T94.setTop (mkF m 16 #[.val (.int p0), .val (.ref b21_94), .val (.int (2 : Int32)), .val (.int (0 : Int32)), .unset] [(.int (0 : Int32)), (.ref b21_94)])) _
    refine X94.aaload hx (j := (0 : Int32)) (v := (.ref w_2)) Ar96.1 (State.isArrayOf_alike hZ.alike Ar96.2.1) rfl Ar96.2.2 hin96 hat96 (g := (mkF m 16 #[.val (.int p0), .val (.ref b21_94), .val (.int (2 : Int32)), .val (.int (0 : Int32)), .unset] [(.int (0 : Int32)), (.ref b21_94)])) rfl rfl (hb hby d1_16) _ ?_
    show Steps p.tables e below (T94.setTop (mkF m 17 #[.val (.int p0), .val (.ref b21_94), .val (.int (2 : Int32)), .val (.int (0 : Int32)), .unset] [(.ref w_2)])) _
    refine XS.astore X94.here hx rfl (hb hby d1_17) rfl rfl (l' := #[.val (.int p0), .val (.ref b21_94), .val (.int (2 : Int32)), .val (.int (0 : Int32)), .val (.ref w_2)]) rfl ?_
    show Steps p.tables e below (T94.setTop (mkF m 19 #[.val (.int p0), .val (.ref b21_94), .val (.int (2 : Int32)), .val (.int (0 : Int32)), .val (.ref w_2)] [])) _
    refine XS.aload X94.here hx rfl (hb hby d1_19) rfl rfl ?_
    show Steps p.tables e below (T94.setTop (mkF m 21 #[.val (.int p0), .val (.ref b21_94), .val (.int (2 : Int32)), .val (.int (0 : Int32)), .val (.ref w_2)] [(.ref w_2)])) _
    refine st97 _ ?_
    show Steps p.tables e below (T97.setTop (mkF m 24 #[.val (.int p0), .val (.ref b21_94), .val (.int (2 : Int32)), .val (.int (0 : Int32)), .val (.ref w_2)] [(.int (88 : Int32))])) _
    refine XS.iloadN X97.here hx rfl (hb hby d1_24) rfl ?_
    show Steps p.tables e below (T97.setTop (mkF m 25 #[.val (.int p0), .val (.ref b21_94), .val (.int (2 : Int32)), .val (.int (0 : Int32)), .val (.ref w_2)] [(.int p0), (.int (88 : Int32))])) _
    refine XS.icmpYes X97.here hx rfl (pc0 := 25) (pc' := 31) rfl (hb hby d1_25) rfl (feq as0).2 (by decide) (by decide) ?_
    show Steps p.tables e below (T97.setTop (mkF m 31 #[.val (.int p0), .val (.ref b21_94), .val (.int (2 : Int32)), .val (.int (0 : Int32)), .val (.ref w_2)] [])) _
    refine XS.iinc X97.here hx rfl (hb hby d1_31) rfl (l' := #[.val (.int p0), .val (.ref b21_94), .val (.int (2 : Int32)), .val (.int ((0 : Int32) + (1 : Int32))), .val (.ref w_2)]) rfl ?_
    show Steps p.tables e below (T97.setTop (mkF m 34 #[.val (.int p0), .val (.ref b21_94), .val (.int (2 : Int32)), .val (.int ((0 : Int32) + (1 : Int32))), .val (.ref w_2)] [])) _
    refine XS.goto X97.here hx rfl (pc0 := 34) (pc' := 9) rfl (hb hby d1_34) (by decide) (by decide) ?_
    show Steps p.tables e below (T97.setTop (mkF m 9 #[.val (.int p0), .val (.ref b21_94), .val (.int (2 : Int32)), .val (.int ((0 : Int32) + (1 : Int32))), .val (.ref w_2)] [])) _
    refine XS.iloadN X97.here hx rfl (hb hby d1_9) rfl ?_
    show Steps p.tables e below (T97.setTop (mkF m 10 #[.val (.int p0), .val (.ref b21_94), .val (.int (2 : Int32)), .val (.int ((0 : Int32) + (1 : Int32))), .val (.ref w_2)] [(.int ((0 : Int32) + (1 : Int32)))])) _
    refine XS.iloadN X97.here hx rfl (hb hby d1_10) rfl ?_
    show Steps p.tables e below (T97.setTop (mkF m 11 #[.val (.int p0), .val (.ref b21_94), .val (.int (2 : Int32)), .val (.int ((0 : Int32) + (1 : Int32))), .val (.ref w_2)] [(.int (2 : Int32)), (.int ((0 : Int32) + (1 : Int32)))])) _
    refine XS.icmpNo X97.here hx rfl (hb hby d1_11) rfl (tlt (by decide : (((0 : Int32) + (1 : Int32)) < (2 : Int32)))).2.1 ?_
    show Steps p.tables e below (T97.setTop (mkF m 14 #[.val (.int p0), .val (.ref b21_94), .val (.int (2 : Int32)), .val (.int ((0 : Int32) + (1 : Int32))), .val (.ref w_2)] [])) _
    refine XS.aloadN X97.here hx rfl (hb hby d1_14) rfl rfl ?_
    show Steps p.tables e below (T97.setTop (mkF m 15 #[.val (.int p0), .val (.ref b21_94), .val (.int (2 : Int32)), .val (.int ((0 : Int32) + (1 : Int32))), .val (.ref w_2)] [(.ref b21_94)])) _
    refine XS.iloadN X97.here hx rfl (hb hby d1_15) rfl ?_
    show Steps p.tables e below (T97.setTop (mkF m 16 #[.val (.int p0), .val (.ref b21_94), .val (.int (2 : Int32)), .val (.int ((0 : Int32) + (1 : Int32))), .val (.ref w_2)] [(.int ((0 : Int32) + (1 : Int32))), (.ref b21_94)])) _
    refine X97.aaload hx (j := ((0 : Int32) + (1 : Int32))) (v := (.ref w_3)) (by rw [e97]; exact Ar98.1) (State.isArrayOf_alike hZ.alike Ar98.2.1) rfl Ar98.2.2 hin98 hat98 (g := (mkF m 16 #[.val (.int p0), .val (.ref b21_94), .val (.int (2 : Int32)), .val (.int ((0 : Int32) + (1 : Int32))), .val (.ref w_2)] [(.int ((0 : Int32) + (1 : Int32))), (.ref b21_94)])) rfl rfl (hb hby d1_16) _ ?_
    show Steps p.tables e below (T97.setTop (mkF m 17 #[.val (.int p0), .val (.ref b21_94), .val (.int (2 : Int32)), .val (.int ((0 : Int32) + (1 : Int32))), .val (.ref w_2)] [(.ref w_3)])) _
    refine XS.astore X97.here hx rfl (hb hby d1_17) rfl rfl (l' := #[.val (.int p0), .val (.ref b21_94), .val (.int (2 : Int32)), .val (.int ((0 : Int32) + (1 : Int32))), .val (.ref w_3)]) rfl ?_
    show Steps p.tables e below (T97.setTop (mkF m 19 #[.val (.int p0), .val (.ref b21_94), .val (.int (2 : Int32)), .val (.int ((0 : Int32) + (1 : Int32))), .val (.ref w_3)] [])) _
    refine XS.aload X97.here hx rfl (hb hby d1_19) rfl rfl ?_
    show Steps p.tables e below (T97.setTop (mkF m 21 #[.val (.int p0), .val (.ref b21_94), .val (.int (2 : Int32)), .val (.int ((0 : Int32) + (1 : Int32))), .val (.ref w_3)] [(.ref w_3)])) _
    refine st99 _ ?_
    show Steps p.tables e below (T99.setTop (mkF m 24 #[.val (.int p0), .val (.ref b21_94), .val (.int (2 : Int32)), .val (.int ((0 : Int32) + (1 : Int32))), .val (.ref w_3)] [(.int (79 : Int32))])) _
    refine XS.iloadN X99.here hx rfl (hb hby d1_24) rfl ?_
    show Steps p.tables e below (T99.setTop (mkF m 25 #[.val (.int p0), .val (.ref b21_94), .val (.int (2 : Int32)), .val (.int ((0 : Int32) + (1 : Int32))), .val (.ref w_3)] [(.int p0), (.int (79 : Int32))])) _
    refine XS.icmpYes X99.here hx rfl (pc0 := 25) (pc' := 31) rfl (hb hby d1_25) rfl (feq as1).2 (by decide) (by decide) ?_
    show Steps p.tables e below (T99.setTop (mkF m 31 #[.val (.int p0), .val (.ref b21_94), .val (.int (2 : Int32)), .val (.int ((0 : Int32) + (1 : Int32))), .val (.ref w_3)] [])) _
    refine XS.iinc X99.here hx rfl (hb hby d1_31) rfl (l' := #[.val (.int p0), .val (.ref b21_94), .val (.int (2 : Int32)), .val (.int (((0 : Int32) + (1 : Int32)) + (1 : Int32))), .val (.ref w_3)]) rfl ?_
    show Steps p.tables e below (T99.setTop (mkF m 34 #[.val (.int p0), .val (.ref b21_94), .val (.int (2 : Int32)), .val (.int (((0 : Int32) + (1 : Int32)) + (1 : Int32))), .val (.ref w_3)] [])) _
    refine XS.goto X99.here hx rfl (pc0 := 34) (pc' := 9) rfl (hb hby d1_34) (by decide) (by decide) ?_
    show Steps p.tables e below (T99.setTop (mkF m 9 #[.val (.int p0), .val (.ref b21_94), .val (.int (2 : Int32)), .val (.int (((0 : Int32) + (1 : Int32)) + (1 : Int32))), .val (.ref w_3)] [])) _
    refine XS.iloadN X99.here hx rfl (hb hby d1_9) rfl ?_
    show Steps p.tables e below (T99.setTop (mkF m 10 #[.val (.int p0), .val (.ref b21_94), .val (.int (2 : Int32)), .val (.int (((0 : Int32) + (1 : Int32)) + (1 : Int32))), .val (.ref w_3)] [(.int (((0 : Int32) + (1 : Int32)) + (1 : Int32)))])) _
    refine XS.iloadN X99.here hx rfl (hb hby d1_10) rfl ?_
    show Steps p.tables e below (T99.setTop (mkF m 11 #[.val (.int p0), .val (.ref b21_94), .val (.int (2 : Int32)), .val (.int (((0 : Int32) + (1 : Int32)) + (1 : Int32))), .val (.ref w_3)] [(.int (2 : Int32)), (.int (((0 : Int32) + (1 : Int32)) + (1 : Int32)))])) _
    refine XS.icmpYes X99.here hx rfl (pc0 := 11) (pc' := 37) rfl (hb hby d1_11) rfl (flt (by decide : ¬ ((((0 : Int32) + (1 : Int32)) + (1 : Int32)) < (2 : Int32)))).2.1 (by decide) (by decide) ?_
    show Steps p.tables e below (T99.setTop (mkF m 37 #[.val (.int p0), .val (.ref b21_94), .val (.int (2 : Int32)), .val (.int (((0 : Int32) + (1 : Int32)) + (1 : Int32))), .val (.ref w_3)] [])) _
    refine XS.aconstNull X99.here hx rfl (hb hby d1_37) ?_
    show Steps p.tables e below (T99.setTop (mkF m 38 #[.val (.int p0), .val (.ref b21_94), .val (.int (2 : Int32)), .val (.int (((0 : Int32) + (1 : Int32)) + (1 : Int32))), .val (.ref w_3)] [.null])) _
    jvm_step X99.here [X99.here.top, hx, (hb hby d1_38), X99.method', Bd.returns, Value.isRef, FieldType.isReference]
    first | (intro acts; rw [hr _ acts rfl rfl rfl]) | rw [hr _ _ rfl rfl rfl]
    exact Steps.refl _
  · show Q1x5 Z w_1 w_2 w_3 k_1 p0 h0 n0 _ T99.heap _
    rw [e99]
    exact ⟨rfl, N94, O94, K94⟩
theorem pn_0 : plainName "flankwise/reversi/SideOfLetterPinLaw" = true := by first | (simp [plainName, overriddenIn]; done) | decide +kernel
theorem ef_0 (m : MethodId) (p0 : Int32) (p1 : Int32) : entryFrame m #[(.int p0), (.int p1)] maxLocals = mkF m 0 #[.val (.int p0), .val (.int p1), .unset, .unset, .unset, .unset] [] := by first | (simp [entryFrame, mkF, argsToLocals, Value.category, maxLocals]; done) | rfl
def sp0 (p0 : Int32) (p1 : Int32) : Int32 := (if (p0 &&& (3 : Int32)) = (0 : Int32) then (1 : Int32) else (if (p0 &&& (3 : Int32)) = (1 : Int32) then (1 : Int32) else (if (88 : Int32) = (p1.toUInt32.toUInt16.toUInt32.toInt32) then (1 : Int32) else (if (79 : Int32) = (p1.toUInt32.toUInt16.toUInt32.toInt32) then (1 : Int32) else (1 : Int32)))))
def Q0 (Z : State) (w_1 : Addr) (w_2 : Addr) (w_3 : Addr) (k_1 : ClassId) (p0 : Int32) (p1 : Int32) (h0 : Heap) (n0 : Nat) (v : Option Value) (h : Heap) (L : List Loc) : Prop := v = some (.int (sp0 p0 p1)) ∧ Fr n0 L ∧ True
set_option maxRecDepth 65536 in
set_option maxHeartbeats 40000000 in
theorem rm0 (l : Launch) (Z : State) (a0 : Array Value) (hw : ∀ d ∈ tables_1, d.before a0 Z = true) (ws : List Jvm.Cond) (w_1 : Addr) (w_2 : Addr) (w_3 : Addr) (k_1 : ClassId) (hS : StF Z w_1 w_2 w_3 k_1) (p0 : Int32) (p1 : Int32) (h0 : Heap) (n0 : Nat) (O0 : Old Z n0 h0) :
    MetFree l x (head1 (Jvm.Cond.code x code maxLocals ret :: ws) room_1) (fun a U => a = #[(.int p0), (.int p1)] ∧ Z.Warmed39 U.vm ∧ U.heap = h0) (fun _ _ _ _ _ => True) (fun _ U o U' => ∃ v L, o = .returned v ∧ Q0 Z w_1 w_2 w_3 k_1 p0 p1 h0 n0 v U'.heap L ∧ FrameEnd U o U' L room_1.cells room_1.slots) := by
  refine MetFree.of_bodySF (plainFor_of_name pn_0) hisR ?_
  intro p e s m args below meth c s₁ Bd hml0 hP hK
  obtain ⟨rfl, hZ, hh⟩ := hP
  have hx := Bd.exec
  have hby := Bd.bytes
  have hml : c.maxLocals = 6 := hml0
  have hown : s.vm.findClass "flankwise/reversi/SideOfLetterPinLaw" = some m.cls := findClass_of_methodNamed Bd.named
  have hnm := (name_of_methodNamed Bd.named Bd.method).1
  have X0 : Stand p l e room_1 s m #[(.int p0), (.int p1)] below meth c s₁ [] 0 0 := Stand.of_body Bd
  have e0 : s₁.heap = h0 := by rw [← hh, Bd.state]; rfl
  have N0 := Fr.nil n0
  have hS0 := hS
  obtain ⟨S_1, S_2, E_2, S_3, E_3, E_1, F_2_letter, F_3_letter, V_1⟩ := hS
  have pre0 : ∀ t, Steps p.tables e below (s₁.setTop (mkF m 0 #[.val (.int p0), .val (.int p1), .unset, .unset, .unset, .unset] [])) t → Steps p.tables e below (s₁.setTop (entryFrame m #[(.int p0), (.int p1)] maxLocals)) t := fun t k => castTop (ef_0 m p0 p1) k
  have pre17 : ∀ t, Steps p.tables e below (s₁.setTop (mkF m 5 #[.val (.int p0), .val (.int p1), .val (.int (p0 &&& (3 : Int32))), .unset, .unset, .unset] [(.int (p0 &&& (3 : Int32)))])) t → Steps p.tables e below (s₁.setTop (entryFrame m #[(.int p0), (.int p1)] maxLocals)) t := fun t kt => by
    refine pre0 t ?_
    show Steps p.tables e below (s₁.setTop (mkF m 0 #[.val (.int p0), .val (.int p1), .unset, .unset, .unset, .unset] [])) _
    refine XS.iloadN X0.here hx rfl (hb hby at_0) rfl ?_
    show Steps p.tables e below (s₁.setTop (mkF m 1 #[.val (.int p0), .val (.int p1), .unset, .unset, .unset, .unset] [(.int p0)])) _
    refine XS.iconst X0.here hx rfl (hb hby at_1) ?_
    show Steps p.tables e below (s₁.setTop (mkF m 2 #[.val (.int p0), .val (.int p1), .unset, .unset, .unset, .unset] [(.int (3 : Int32)), (.int p0)])) _
    refine XS.iand X0.here hx rfl (hb hby at_2) rfl ?_
    show Steps p.tables e below (s₁.setTop (mkF m 3 #[.val (.int p0), .val (.int p1), .unset, .unset, .unset, .unset] [(.int (p0 &&& (3 : Int32)))])) _
    refine XS.istoreN X0.here hx rfl (hb hby at_3) rfl (l' := #[.val (.int p0), .val (.int p1), .val (.int (p0 &&& (3 : Int32))), .unset, .unset, .unset]) rfl ?_
    show Steps p.tables e below (s₁.setTop (mkF m 4 #[.val (.int p0), .val (.int p1), .val (.int (p0 &&& (3 : Int32))), .unset, .unset, .unset] [])) _
    refine XS.iloadN X0.here hx rfl (hb hby at_4) rfl ?_
    show Steps p.tables e below (s₁.setTop (mkF m 5 #[.val (.int p0), .val (.int p1), .val (.int (p0 &&& (3 : Int32))), .unset, .unset, .unset] [(.int (p0 &&& (3 : Int32)))])) _
    exact kt
  by_cases hc18 : (p0 &&& (3 : Int32)) = (0 : Int32)
  · obtain ⟨_, _, ⟨T27, L27, k27, n27⟩, -, X27, ⟨Lc27, hQ27, l27, y27, z27⟩, st27⟩ := Jvm.LawKit.callS X0 hx (y := Y1) hown (mvT hZ (hw _ (tk 0 rfl))) (mvT hZ (hw _ (tk 1 rfl))) (mvT hZ (hw _ (tk 2 rfl))) (mvT hZ (hw _ (tk 3 rfl))) (by decide) (backOf (W := 0) (rm1x1 l Z a0 hw [] w_1 w_2 w_3 k_1 hS0 h0 n0 O0) hZ (hw _ (tk 3 rfl)) (hw _ (tk 2 rfl)) (by decide) (by decide)) (g := (mkF m 29 #[.val (.int p0), .val (.int p1), .val (.int (p0 &&& (3 : Int32))), .val (.int (88 : Int32)), .unset, .unset] [(.int (88 : Int32))])) rfl (by rw [hml]; rfl) (argsL := [(.int (88 : Int32))]) (rest := []) (lenOf pd_1 rfl) rfl (by show 2 * 0 + _ ≤ _; exact Nat.le_of_eq rfl) (hb hby at_29) (fun _ _ => ⟨rfl, e0, (by decide : 0 + 1 ≤ _), (by decide : 0 + 2 ≤ _)⟩)
    dsimp only [Pt.U, Pt.locs, Pt.cells, Pt.slots] at X27 l27 y27 z27 st27 hQ27
    subst l27 y27 z27
    obtain ⟨rv27, N27q, O27, K27c⟩ := hQ27
    subst rv27
    have N27 := Fr.app N0 N27q
    obtain ⟨T28, X28, e28, st28⟩ := getS2 X27 hx hZ hown (host := "") (Or.inl (hw _ (tk 23 rfl))) Via.refl rfl (S_2.ext O27.2) (g := (mkF m 40 #[.val (.int p0), .val (.int p1), .val (.int (p0 &&& (3 : Int32))), .val (.int (88 : Int32)), .val (.ref w_2), .unset] [])) rfl (hb hby at_40)
    obtain ⟨fs, hr, hrun, hended, hW, hsame⟩ := X28.leave (v := some (.int (1 : Int32))) (fun h => by rw [Bd.returns] at h; cases h)
    refine ⟨_, _, pre17 _ ?_, hrun, hended, _, _, rfl, ?_, ⟨_, rfl⟩, hW, hsame.mono (by decide) (by decide)⟩
    · show Steps p.tables e below (s₁.setTop (mkF m 5 #[.val (.int p0), .val (.int p1), .val (.int (p0 &&& (3 : Int32))), .unset, .unset, .unset] [(.int (p0 &&& (3 : Int32)))])) _
      refine XS.ifNo X0.here hx rfl (hb hby at_5) rfl ((if0 _ _).trans (teq hc18).2) ?_
      show Steps p.tables e below (s₁.setTop (mkF m 8 #[.val (.int p0), .val (.int p1), .val (.int (p0 &&& (3 : Int32))), .unset, .unset, .unset] [])) _
      refine XS.bipush X0.here hx rfl (hb hby at_8) ?_
      show Steps p.tables e below (s₁.setTop (mkF m 10 #[.val (.int p0), .val (.int p1), .val (.int (p0 &&& (3 : Int32))), .unset, .unset, .unset] [(.int (88 : Int32))])) _
      refine XS.istoreN X0.here hx rfl (hb hby at_10) rfl (l' := #[.val (.int p0), .val (.int p1), .val (.int (p0 &&& (3 : Int32))), .val (.int (88 : Int32)), .unset, .unset]) rfl ?_
      show Steps p.tables e below (s₁.setTop (mkF m 11 #[.val (.int p0), .val (.int p1), .val (.int (p0 &&& (3 : Int32))), .val (.int (88 : Int32)), .unset, .unset] [])) _
      refine XS.goto X0.here hx rfl (pc0 := 11) (pc' := 28) rfl (hb hby at_11) (by decide) (by decide) ?_
      show Steps p.tables e below (s₁.setTop (mkF m 28 #[.val (.int p0), .val (.int p1), .val (.int (p0 &&& (3 : Int32))), .val (.int (88 : Int32)), .unset, .unset] [])) _
      refine XS.iloadN X0.here hx rfl (hb hby at_28) rfl ?_
      show Steps p.tables e below (s₁.setTop (mkF m 29 #[.val (.int p0), .val (.int p1), .val (.int (p0 &&& (3 : Int32))), .val (.int (88 : Int32)), .unset, .unset] [(.int (88 : Int32))])) _
      refine st27 _ ?_
      show Steps p.tables e below (T27.setTop (mkF m 32 #[.val (.int p0), .val (.int p1), .val (.int (p0 &&& (3 : Int32))), .val (.int (88 : Int32)), .unset, .unset] [(.ref w_2)])) _
      refine XS.astore X27.here hx rfl (hb hby at_32) rfl rfl (l' := #[.val (.int p0), .val (.int p1), .val (.int (p0 &&& (3 : Int32))), .val (.int (88 : Int32)), .val (.ref w_2), .unset]) rfl ?_
      show Steps p.tables e below (T27.setTop (mkF m 34 #[.val (.int p0), .val (.int p1), .val (.int (p0 &&& (3 : Int32))), .val (.int (88 : Int32)), .val (.ref w_2), .unset] [])) _
      refine XS.iloadN X27.here hx rfl (hb hby at_34) rfl ?_
      show Steps p.tables e below (T27.setTop (mkF m 35 #[.val (.int p0), .val (.int p1), .val (.int (p0 &&& (3 : Int32))), .val (.int (88 : Int32)), .val (.ref w_2), .unset] [(.int (88 : Int32))])) _
      refine XS.bipush X27.here hx rfl (hb hby at_35) ?_
      show Steps p.tables e below (T27.setTop (mkF m 37 #[.val (.int p0), .val (.int p1), .val (.int (p0 &&& (3 : Int32))), .val (.int (88 : Int32)), .val (.ref w_2), .unset] [(.int (88 : Int32)), (.int (88 : Int32))])) _
      refine XS.icmpNo X27.here hx rfl (hb hby at_37) rfl (teq (by decide : ((88 : Int32) = (88 : Int32)))).2 ?_
      show Steps p.tables e below (T27.setTop (mkF m 40 #[.val (.int p0), .val (.int p1), .val (.int (p0 &&& (3 : Int32))), .val (.int (88 : Int32)), .val (.ref w_2), .unset] [])) _
      refine st28 _ ?_
      show Steps p.tables e below (T28.setTop (mkF m 43 #[.val (.int p0), .val (.int p1), .val (.int (p0 &&& (3 : Int32))), .val (.int (88 : Int32)), .val (.ref w_2), .unset] [(.ref w_2)])) _
      refine XS.astore X28.here hx rfl (hb hby at_43) rfl rfl (l' := #[.val (.int p0), .val (.int p1), .val (.int (p0 &&& (3 : Int32))), .val (.int (88 : Int32)), .val (.ref w_2), .val (.ref w_2)]) rfl ?_
      show Steps p.tables e below (T28.setTop (mkF m 45 #[.val (.int p0), .val (.int p1), .val (.int (p0 &&& (3 : Int32))), .val (.int (88 : Int32)), .val (.ref w_2), .val (.ref w_2)] [])) _
      refine XS.goto X28.here hx rfl (pc0 := 45) (pc' := 65) rfl (hb hby at_45) (by decide) (by decide) ?_
      show Steps p.tables e below (T28.setTop (mkF m 65 #[.val (.int p0), .val (.int p1), .val (.int (p0 &&& (3 : Int32))), .val (.int (88 : Int32)), .val (.ref w_2), .val (.ref w_2)] [])) _
      refine XS.aload X28.here hx rfl (hb hby at_65) rfl rfl ?_
      show Steps p.tables e below (T28.setTop (mkF m 67 #[.val (.int p0), .val (.int p1), .val (.int (p0 &&& (3 : Int32))), .val (.int (88 : Int32)), .val (.ref w_2), .val (.ref w_2)] [(.ref w_2)])) _
      refine XS.aload X28.here hx rfl (hb hby at_67) rfl rfl ?_
      show Steps p.tables e below (T28.setTop (mkF m 69 #[.val (.int p0), .val (.int p1), .val (.int (p0 &&& (3 : Int32))), .val (.int (88 : Int32)), .val (.ref w_2), .val (.ref w_2)] [(.ref w_2), (.ref w_2)])) _
      refine Jvm.RoadKit.acmp (g := (mkF m 69 #[.val (.int p0), .val (.int p1), .val (.int (p0 &&& (3 : Int32))), .val (.int (88 : Int32)), .val (.ref w_2), .val (.ref w_2)] [(.ref w_2), (.ref w_2)])) X28 hx rfl rfl rfl (pc0 := 69) (pc' := 72) (same := true) rfl (hb hby at_69) rfl (decide_eq_true (congrArg Value.ref rfl)) (by decide) (by decide) ?_
      show Steps p.tables e below (T28.setTop (mkF m 72 #[.val (.int p0), .val (.int p1), .val (.int (p0 &&& (3 : Int32))), .val (.int (88 : Int32)), .val (.ref w_2), .val (.ref w_2)] [])) _
      refine XS.iconst X28.here hx rfl (hb hby at_72) ?_
      show Steps p.tables e below (T28.setTop (mkF m 73 #[.val (.int p0), .val (.int p1), .val (.int (p0 &&& (3 : Int32))), .val (.int (88 : Int32)), .val (.ref w_2), .val (.ref w_2)] [(.int (1 : Int32))])) _
      refine XS.goto X28.here hx rfl (pc0 := 73) (pc' := 77) rfl (hb hby at_73) (by decide) (by decide) ?_
      show Steps p.tables e below (T28.setTop (mkF m 77 #[.val (.int p0), .val (.int p1), .val (.int (p0 &&& (3 : Int32))), .val (.int (88 : Int32)), .val (.ref w_2), .val (.ref w_2)] [(.int (1 : Int32))])) _
      exact retN X28 hx (t := .boolean) Bd.returns (by simp) (hb hby at_77) hr
    · show Q0 Z w_1 w_2 w_3 k_1 p0 p1 h0 n0 _ T28.heap _
      rw [e28]
      exact ⟨by unfold sp0; rw [if_pos hc18], N27, trivial⟩
  · have pre29 : ∀ t, Steps p.tables e below (s₁.setTop (mkF m 16 #[.val (.int p0), .val (.int p1), .val (.int (p0 &&& (3 : Int32))), .unset, .unset, .unset] [(.int (1 : Int32)), (.int (p0 &&& (3 : Int32)))])) t → Steps p.tables e below (s₁.setTop (entryFrame m #[(.int p0), (.int p1)] maxLocals)) t := fun t kt => by
      refine pre17 t ?_
      show Steps p.tables e below (s₁.setTop (mkF m 5 #[.val (.int p0), .val (.int p1), .val (.int (p0 &&& (3 : Int32))), .unset, .unset, .unset] [(.int (p0 &&& (3 : Int32)))])) _
      refine XS.ifYes X0.here hx rfl (pc0 := 5) (pc' := 14) rfl (hb hby at_5) rfl ((if0 _ _).trans (feq hc18).2) (by decide) (by decide) ?_
      show Steps p.tables e below (s₁.setTop (mkF m 14 #[.val (.int p0), .val (.int p1), .val (.int (p0 &&& (3 : Int32))), .unset, .unset, .unset] [])) _
      refine XS.iloadN X0.here hx rfl (hb hby at_14) rfl ?_
      show Steps p.tables e below (s₁.setTop (mkF m 15 #[.val (.int p0), .val (.int p1), .val (.int (p0 &&& (3 : Int32))), .unset, .unset, .unset] [(.int (p0 &&& (3 : Int32)))])) _
      refine XS.iconst X0.here hx rfl (hb hby at_15) ?_
      show Steps p.tables e below (s₁.setTop (mkF m 16 #[.val (.int p0), .val (.int p1), .val (.int (p0 &&& (3 : Int32))), .unset, .unset, .unset] [(.int (1 : Int32)), (.int (p0 &&& (3 : Int32)))])) _
      exact kt
    by_cases hc30 : (p0 &&& (3 : Int32)) = (1 : Int32)
    · obtain ⟨_, _, ⟨T37, L37, k37, n37⟩, -, X37, ⟨Lc37, hQ37, l37, y37, z37⟩, st37⟩ := Jvm.LawKit.callS X0 hx (y := Y1) hown (mvT hZ (hw _ (tk 0 rfl))) (mvT hZ (hw _ (tk 1 rfl))) (mvT hZ (hw _ (tk 2 rfl))) (mvT hZ (hw _ (tk 3 rfl))) (by decide) (backOf (W := 0) (rm1x2 l Z a0 hw [] w_1 w_2 w_3 k_1 hS0 h0 n0 O0) hZ (hw _ (tk 3 rfl)) (hw _ (tk 2 rfl)) (by decide) (by decide)) (g := (mkF m 29 #[.val (.int p0), .val (.int p1), .val (.int (p0 &&& (3 : Int32))), .val (.int (79 : Int32)), .unset, .unset] [(.int (79 : Int32))])) rfl (by rw [hml]; rfl) (argsL := [(.int (79 : Int32))]) (rest := []) (lenOf pd_1 rfl) rfl (by show 2 * 0 + _ ≤ _; exact Nat.le_of_eq rfl) (hb hby at_29) (fun _ _ => ⟨rfl, e0, (by decide : 0 + 1 ≤ _), (by decide : 0 + 2 ≤ _)⟩)
      dsimp only [Pt.U, Pt.locs, Pt.cells, Pt.slots] at X37 l37 y37 z37 st37 hQ37
      subst l37 y37 z37
      obtain ⟨rv37, N37q, O37, K37c⟩ := hQ37
      subst rv37
      have N37 := Fr.app N0 N37q
      obtain ⟨T38, X38, e38, st38⟩ := getS2 X37 hx hZ hown (host := "") (Or.inl (hw _ (tk 24 rfl))) Via.refl rfl (S_3.ext O37.2) (g := (mkF m 54 #[.val (.int p0), .val (.int p1), .val (.int (p0 &&& (3 : Int32))), .val (.int (79 : Int32)), .val (.ref w_3), .unset] [])) rfl (hb hby at_54)
      obtain ⟨fs, hr, hrun, hended, hW, hsame⟩ := X38.leave (v := some (.int (1 : Int32))) (fun h => by rw [Bd.returns] at h; cases h)
      refine ⟨_, _, pre29 _ ?_, hrun, hended, _, _, rfl, ?_, ⟨_, rfl⟩, hW, hsame.mono (by decide) (by decide)⟩
      · show Steps p.tables e below (s₁.setTop (mkF m 16 #[.val (.int p0), .val (.int p1), .val (.int (p0 &&& (3 : Int32))), .unset, .unset, .unset] [(.int (1 : Int32)), (.int (p0 &&& (3 : Int32)))])) _
        refine XS.icmpNo X0.here hx rfl (hb hby at_16) rfl (teq hc30).2 ?_
        show Steps p.tables e below (s₁.setTop (mkF m 19 #[.val (.int p0), .val (.int p1), .val (.int (p0 &&& (3 : Int32))), .unset, .unset, .unset] [])) _
        refine XS.bipush X0.here hx rfl (hb hby at_19) ?_
        show Steps p.tables e below (s₁.setTop (mkF m 21 #[.val (.int p0), .val (.int p1), .val (.int (p0 &&& (3 : Int32))), .unset, .unset, .unset] [(.int (79 : Int32))])) _
        refine XS.istoreN X0.here hx rfl (hb hby at_21) rfl (l' := #[.val (.int p0), .val (.int p1), .val (.int (p0 &&& (3 : Int32))), .val (.int (79 : Int32)), .unset, .unset]) rfl ?_
        show Steps p.tables e below (s₁.setTop (mkF m 22 #[.val (.int p0), .val (.int p1), .val (.int (p0 &&& (3 : Int32))), .val (.int (79 : Int32)), .unset, .unset] [])) _
        refine XS.goto X0.here hx rfl (pc0 := 22) (pc' := 28) rfl (hb hby at_22) (by decide) (by decide) ?_
        show Steps p.tables e below (s₁.setTop (mkF m 28 #[.val (.int p0), .val (.int p1), .val (.int (p0 &&& (3 : Int32))), .val (.int (79 : Int32)), .unset, .unset] [])) _
        refine XS.iloadN X0.here hx rfl (hb hby at_28) rfl ?_
        show Steps p.tables e below (s₁.setTop (mkF m 29 #[.val (.int p0), .val (.int p1), .val (.int (p0 &&& (3 : Int32))), .val (.int (79 : Int32)), .unset, .unset] [(.int (79 : Int32))])) _
        refine st37 _ ?_
        show Steps p.tables e below (T37.setTop (mkF m 32 #[.val (.int p0), .val (.int p1), .val (.int (p0 &&& (3 : Int32))), .val (.int (79 : Int32)), .unset, .unset] [(.ref w_3)])) _
        refine XS.astore X37.here hx rfl (hb hby at_32) rfl rfl (l' := #[.val (.int p0), .val (.int p1), .val (.int (p0 &&& (3 : Int32))), .val (.int (79 : Int32)), .val (.ref w_3), .unset]) rfl ?_
        show Steps p.tables e below (T37.setTop (mkF m 34 #[.val (.int p0), .val (.int p1), .val (.int (p0 &&& (3 : Int32))), .val (.int (79 : Int32)), .val (.ref w_3), .unset] [])) _
        refine XS.iloadN X37.here hx rfl (hb hby at_34) rfl ?_
        show Steps p.tables e below (T37.setTop (mkF m 35 #[.val (.int p0), .val (.int p1), .val (.int (p0 &&& (3 : Int32))), .val (.int (79 : Int32)), .val (.ref w_3), .unset] [(.int (79 : Int32))])) _
        refine XS.bipush X37.here hx rfl (hb hby at_35) ?_
        show Steps p.tables e below (T37.setTop (mkF m 37 #[.val (.int p0), .val (.int p1), .val (.int (p0 &&& (3 : Int32))), .val (.int (79 : Int32)), .val (.ref w_3), .unset] [(.int (88 : Int32)), (.int (79 : Int32))])) _
        refine XS.icmpYes X37.here hx rfl (pc0 := 37) (pc' := 48) rfl (hb hby at_37) rfl (feq (by decide : ¬ ((79 : Int32) = (88 : Int32)))).2 (by decide) (by decide) ?_
        show Steps p.tables e below (T37.setTop (mkF m 48 #[.val (.int p0), .val (.int p1), .val (.int (p0 &&& (3 : Int32))), .val (.int (79 : Int32)), .val (.ref w_3), .unset] [])) _
        refine XS.iloadN X37.here hx rfl (hb hby at_48) rfl ?_
        show Steps p.tables e below (T37.setTop (mkF m 49 #[.val (.int p0), .val (.int p1), .val (.int (p0 &&& (3 : Int32))), .val (.int (79 : Int32)), .val (.ref w_3), .unset] [(.int (79 : Int32))])) _
        refine XS.bipush X37.here hx rfl (hb hby at_49) ?_
        show Steps p.tables e below (T37.setTop (mkF m 51 #[.val (.int p0), .val (.int p1), .val (.int (p0 &&& (3 : Int32))), .val (.int (79 : Int32)), .val (.ref w_3), .unset] [(.int (79 : Int32)), (.int (79 : Int32))])) _
        refine XS.icmpNo X37.here hx rfl (hb hby at_51) rfl (teq (by decide : ((79 : Int32) = (79 : Int32)))).2 ?_
        show Steps p.tables e below (T37.setTop (mkF m 54 #[.val (.int p0), .val (.int p1), .val (.int (p0 &&& (3 : Int32))), .val (.int (79 : Int32)), .val (.ref w_3), .unset] [])) _
        refine st38 _ ?_
        show Steps p.tables e below (T38.setTop (mkF m 57 #[.val (.int p0), .val (.int p1), .val (.int (p0 &&& (3 : Int32))), .val (.int (79 : Int32)), .val (.ref w_3), .unset] [(.ref w_3)])) _
        refine XS.astore X38.here hx rfl (hb hby at_57) rfl rfl (l' := #[.val (.int p0), .val (.int p1), .val (.int (p0 &&& (3 : Int32))), .val (.int (79 : Int32)), .val (.ref w_3), .val (.ref w_3)]) rfl ?_
        show Steps p.tables e below (T38.setTop (mkF m 59 #[.val (.int p0), .val (.int p1), .val (.int (p0 &&& (3 : Int32))), .val (.int (79 : Int32)), .val (.ref w_3), .val (.ref w_3)] [])) _
        refine XS.goto X38.here hx rfl (pc0 := 59) (pc' := 65) rfl (hb hby at_59) (by decide) (by decide) ?_
        show Steps p.tables e below (T38.setTop (mkF m 65 #[.val (.int p0), .val (.int p1), .val (.int (p0 &&& (3 : Int32))), .val (.int (79 : Int32)), .val (.ref w_3), .val (.ref w_3)] [])) _
        refine XS.aload X38.here hx rfl (hb hby at_65) rfl rfl ?_
        show Steps p.tables e below (T38.setTop (mkF m 67 #[.val (.int p0), .val (.int p1), .val (.int (p0 &&& (3 : Int32))), .val (.int (79 : Int32)), .val (.ref w_3), .val (.ref w_3)] [(.ref w_3)])) _
        refine XS.aload X38.here hx rfl (hb hby at_67) rfl rfl ?_
        show Steps p.tables e below (T38.setTop (mkF m 69 #[.val (.int p0), .val (.int p1), .val (.int (p0 &&& (3 : Int32))), .val (.int (79 : Int32)), .val (.ref w_3), .val (.ref w_3)] [(.ref w_3), (.ref w_3)])) _
        refine Jvm.RoadKit.acmp (g := (mkF m 69 #[.val (.int p0), .val (.int p1), .val (.int (p0 &&& (3 : Int32))), .val (.int (79 : Int32)), .val (.ref w_3), .val (.ref w_3)] [(.ref w_3), (.ref w_3)])) X38 hx rfl rfl rfl (pc0 := 69) (pc' := 72) (same := true) rfl (hb hby at_69) rfl (decide_eq_true (congrArg Value.ref rfl)) (by decide) (by decide) ?_
        show Steps p.tables e below (T38.setTop (mkF m 72 #[.val (.int p0), .val (.int p1), .val (.int (p0 &&& (3 : Int32))), .val (.int (79 : Int32)), .val (.ref w_3), .val (.ref w_3)] [])) _
        refine XS.iconst X38.here hx rfl (hb hby at_72) ?_
        show Steps p.tables e below (T38.setTop (mkF m 73 #[.val (.int p0), .val (.int p1), .val (.int (p0 &&& (3 : Int32))), .val (.int (79 : Int32)), .val (.ref w_3), .val (.ref w_3)] [(.int (1 : Int32))])) _
        refine XS.goto X38.here hx rfl (pc0 := 73) (pc' := 77) rfl (hb hby at_73) (by decide) (by decide) ?_
        show Steps p.tables e below (T38.setTop (mkF m 77 #[.val (.int p0), .val (.int p1), .val (.int (p0 &&& (3 : Int32))), .val (.int (79 : Int32)), .val (.ref w_3), .val (.ref w_3)] [(.int (1 : Int32))])) _
        exact retN X38 hx (t := .boolean) Bd.returns (by simp) (hb hby at_77) hr
      · show Q0 Z w_1 w_2 w_3 k_1 p0 p1 h0 n0 _ T38.heap _
        rw [e38]
        exact ⟨by unfold sp0; rw [if_neg hc18, if_pos hc30], N37, trivial⟩
    · have pre43 : ∀ t, Steps p.tables e below (s₁.setTop (mkF m 29 #[.val (.int p0), .val (.int p1), .val (.int (p0 &&& (3 : Int32))), .val (.int (p1.toUInt32.toUInt16.toUInt32.toInt32)), .unset, .unset] [(.int (p1.toUInt32.toUInt16.toUInt32.toInt32))])) t → Steps p.tables e below (s₁.setTop (entryFrame m #[(.int p0), (.int p1)] maxLocals)) t := fun t kt => by
        refine pre29 t ?_
        show Steps p.tables e below (s₁.setTop (mkF m 16 #[.val (.int p0), .val (.int p1), .val (.int (p0 &&& (3 : Int32))), .unset, .unset, .unset] [(.int (1 : Int32)), (.int (p0 &&& (3 : Int32)))])) _
        refine XS.icmpYes X0.here hx rfl (pc0 := 16) (pc' := 25) rfl (hb hby at_16) rfl (feq hc30).2 (by decide) (by decide) ?_
        show Steps p.tables e below (s₁.setTop (mkF m 25 #[.val (.int p0), .val (.int p1), .val (.int (p0 &&& (3 : Int32))), .unset, .unset, .unset] [])) _
        refine XS.iloadN X0.here hx rfl (hb hby at_25) rfl ?_
        show Steps p.tables e below (s₁.setTop (mkF m 26 #[.val (.int p0), .val (.int p1), .val (.int (p0 &&& (3 : Int32))), .unset, .unset, .unset] [(.int p1)])) _
        refine XS.i2c X0.here hx rfl (hb hby at_26) rfl ?_
        show Steps p.tables e below (s₁.setTop (mkF m 27 #[.val (.int p0), .val (.int p1), .val (.int (p0 &&& (3 : Int32))), .unset, .unset, .unset] [(.int (p1.toUInt32.toUInt16.toUInt32.toInt32))])) _
        refine XS.istoreN X0.here hx rfl (hb hby at_27) rfl (l' := #[.val (.int p0), .val (.int p1), .val (.int (p0 &&& (3 : Int32))), .val (.int (p1.toUInt32.toUInt16.toUInt32.toInt32)), .unset, .unset]) rfl ?_
        show Steps p.tables e below (s₁.setTop (mkF m 28 #[.val (.int p0), .val (.int p1), .val (.int (p0 &&& (3 : Int32))), .val (.int (p1.toUInt32.toUInt16.toUInt32.toInt32)), .unset, .unset] [])) _
        refine XS.iloadN X0.here hx rfl (hb hby at_28) rfl ?_
        show Steps p.tables e below (s₁.setTop (mkF m 29 #[.val (.int p0), .val (.int p1), .val (.int (p0 &&& (3 : Int32))), .val (.int (p1.toUInt32.toUInt16.toUInt32.toInt32)), .unset, .unset] [(.int (p1.toUInt32.toUInt16.toUInt32.toInt32))])) _
        exact kt
      by_cases hc44 : (88 : Int32) = (p1.toUInt32.toUInt16.toUInt32.toInt32)
      · obtain ⟨_, _, ⟨T53, L53, k53, n53⟩, -, X53, ⟨Lc53, hQ53, l53, y53, z53⟩, st53⟩ := Jvm.LawKit.callS X0 hx (y := Y1) hown (mvT hZ (hw _ (tk 0 rfl))) (mvT hZ (hw _ (tk 1 rfl))) (mvT hZ (hw _ (tk 2 rfl))) (mvT hZ (hw _ (tk 3 rfl))) (by decide) (backOf (W := 0) (rm1x3 l Z a0 hw [] w_1 w_2 w_3 k_1 hS0 (p1.toUInt32.toUInt16.toUInt32.toInt32) h0 n0 O0 hc44) hZ (hw _ (tk 3 rfl)) (hw _ (tk 2 rfl)) (by decide) (by decide)) (g := (mkF m 29 #[.val (.int p0), .val (.int p1), .val (.int (p0 &&& (3 : Int32))), .val (.int (p1.toUInt32.toUInt16.toUInt32.toInt32)), .unset, .unset] [(.int (p1.toUInt32.toUInt16.toUInt32.toInt32))])) rfl (by rw [hml]; rfl) (argsL := [(.int (p1.toUInt32.toUInt16.toUInt32.toInt32))]) (rest := []) (lenOf pd_1 rfl) rfl (by show 2 * 0 + _ ≤ _; exact Nat.le_of_eq rfl) (hb hby at_29) (fun _ _ => ⟨rfl, e0, (by decide : 0 + 1 ≤ _), (by decide : 0 + 2 ≤ _)⟩)
        dsimp only [Pt.U, Pt.locs, Pt.cells, Pt.slots] at X53 l53 y53 z53 st53 hQ53
        subst l53 y53 z53
        obtain ⟨rv53, N53q, O53, K53c⟩ := hQ53
        subst rv53
        have N53 := Fr.app N0 N53q
        obtain ⟨T54, X54, e54, st54⟩ := getS2 X53 hx hZ hown (host := "") (Or.inl (hw _ (tk 23 rfl))) Via.refl rfl (S_2.ext O53.2) (g := (mkF m 40 #[.val (.int p0), .val (.int p1), .val (.int (p0 &&& (3 : Int32))), .val (.int (p1.toUInt32.toUInt16.toUInt32.toInt32)), .val (.ref w_2), .unset] [])) rfl (hb hby at_40)
        obtain ⟨fs, hr, hrun, hended, hW, hsame⟩ := X54.leave (v := some (.int (1 : Int32))) (fun h => by rw [Bd.returns] at h; cases h)
        refine ⟨_, _, pre43 _ ?_, hrun, hended, _, _, rfl, ?_, ⟨_, rfl⟩, hW, hsame.mono (by decide) (by decide)⟩
        · show Steps p.tables e below (s₁.setTop (mkF m 29 #[.val (.int p0), .val (.int p1), .val (.int (p0 &&& (3 : Int32))), .val (.int (p1.toUInt32.toUInt16.toUInt32.toInt32)), .unset, .unset] [(.int (p1.toUInt32.toUInt16.toUInt32.toInt32))])) _
          refine st53 _ ?_
          show Steps p.tables e below (T53.setTop (mkF m 32 #[.val (.int p0), .val (.int p1), .val (.int (p0 &&& (3 : Int32))), .val (.int (p1.toUInt32.toUInt16.toUInt32.toInt32)), .unset, .unset] [(.ref w_2)])) _
          refine XS.astore X53.here hx rfl (hb hby at_32) rfl rfl (l' := #[.val (.int p0), .val (.int p1), .val (.int (p0 &&& (3 : Int32))), .val (.int (p1.toUInt32.toUInt16.toUInt32.toInt32)), .val (.ref w_2), .unset]) rfl ?_
          show Steps p.tables e below (T53.setTop (mkF m 34 #[.val (.int p0), .val (.int p1), .val (.int (p0 &&& (3 : Int32))), .val (.int (p1.toUInt32.toUInt16.toUInt32.toInt32)), .val (.ref w_2), .unset] [])) _
          refine XS.iloadN X53.here hx rfl (hb hby at_34) rfl ?_
          show Steps p.tables e below (T53.setTop (mkF m 35 #[.val (.int p0), .val (.int p1), .val (.int (p0 &&& (3 : Int32))), .val (.int (p1.toUInt32.toUInt16.toUInt32.toInt32)), .val (.ref w_2), .unset] [(.int (p1.toUInt32.toUInt16.toUInt32.toInt32))])) _
          refine XS.bipush X53.here hx rfl (hb hby at_35) ?_
          show Steps p.tables e below (T53.setTop (mkF m 37 #[.val (.int p0), .val (.int p1), .val (.int (p0 &&& (3 : Int32))), .val (.int (p1.toUInt32.toUInt16.toUInt32.toInt32)), .val (.ref w_2), .unset] [(.int (88 : Int32)), (.int (p1.toUInt32.toUInt16.toUInt32.toInt32))])) _
          refine XS.icmpNo X53.here hx rfl (hb hby at_37) rfl (teq (Eq.symm hc44)).2 ?_
          show Steps p.tables e below (T53.setTop (mkF m 40 #[.val (.int p0), .val (.int p1), .val (.int (p0 &&& (3 : Int32))), .val (.int (p1.toUInt32.toUInt16.toUInt32.toInt32)), .val (.ref w_2), .unset] [])) _
          refine st54 _ ?_
          show Steps p.tables e below (T54.setTop (mkF m 43 #[.val (.int p0), .val (.int p1), .val (.int (p0 &&& (3 : Int32))), .val (.int (p1.toUInt32.toUInt16.toUInt32.toInt32)), .val (.ref w_2), .unset] [(.ref w_2)])) _
          refine XS.astore X54.here hx rfl (hb hby at_43) rfl rfl (l' := #[.val (.int p0), .val (.int p1), .val (.int (p0 &&& (3 : Int32))), .val (.int (p1.toUInt32.toUInt16.toUInt32.toInt32)), .val (.ref w_2), .val (.ref w_2)]) rfl ?_
          show Steps p.tables e below (T54.setTop (mkF m 45 #[.val (.int p0), .val (.int p1), .val (.int (p0 &&& (3 : Int32))), .val (.int (p1.toUInt32.toUInt16.toUInt32.toInt32)), .val (.ref w_2), .val (.ref w_2)] [])) _
          refine XS.goto X54.here hx rfl (pc0 := 45) (pc' := 65) rfl (hb hby at_45) (by decide) (by decide) ?_
          show Steps p.tables e below (T54.setTop (mkF m 65 #[.val (.int p0), .val (.int p1), .val (.int (p0 &&& (3 : Int32))), .val (.int (p1.toUInt32.toUInt16.toUInt32.toInt32)), .val (.ref w_2), .val (.ref w_2)] [])) _
          refine XS.aload X54.here hx rfl (hb hby at_65) rfl rfl ?_
          show Steps p.tables e below (T54.setTop (mkF m 67 #[.val (.int p0), .val (.int p1), .val (.int (p0 &&& (3 : Int32))), .val (.int (p1.toUInt32.toUInt16.toUInt32.toInt32)), .val (.ref w_2), .val (.ref w_2)] [(.ref w_2)])) _
          refine XS.aload X54.here hx rfl (hb hby at_67) rfl rfl ?_
          show Steps p.tables e below (T54.setTop (mkF m 69 #[.val (.int p0), .val (.int p1), .val (.int (p0 &&& (3 : Int32))), .val (.int (p1.toUInt32.toUInt16.toUInt32.toInt32)), .val (.ref w_2), .val (.ref w_2)] [(.ref w_2), (.ref w_2)])) _
          refine Jvm.RoadKit.acmp (g := (mkF m 69 #[.val (.int p0), .val (.int p1), .val (.int (p0 &&& (3 : Int32))), .val (.int (p1.toUInt32.toUInt16.toUInt32.toInt32)), .val (.ref w_2), .val (.ref w_2)] [(.ref w_2), (.ref w_2)])) X54 hx rfl rfl rfl (pc0 := 69) (pc' := 72) (same := true) rfl (hb hby at_69) rfl (decide_eq_true (congrArg Value.ref rfl)) (by decide) (by decide) ?_
          show Steps p.tables e below (T54.setTop (mkF m 72 #[.val (.int p0), .val (.int p1), .val (.int (p0 &&& (3 : Int32))), .val (.int (p1.toUInt32.toUInt16.toUInt32.toInt32)), .val (.ref w_2), .val (.ref w_2)] [])) _
          refine XS.iconst X54.here hx rfl (hb hby at_72) ?_
          show Steps p.tables e below (T54.setTop (mkF m 73 #[.val (.int p0), .val (.int p1), .val (.int (p0 &&& (3 : Int32))), .val (.int (p1.toUInt32.toUInt16.toUInt32.toInt32)), .val (.ref w_2), .val (.ref w_2)] [(.int (1 : Int32))])) _
          refine XS.goto X54.here hx rfl (pc0 := 73) (pc' := 77) rfl (hb hby at_73) (by decide) (by decide) ?_
          show Steps p.tables e below (T54.setTop (mkF m 77 #[.val (.int p0), .val (.int p1), .val (.int (p0 &&& (3 : Int32))), .val (.int (p1.toUInt32.toUInt16.toUInt32.toInt32)), .val (.ref w_2), .val (.ref w_2)] [(.int (1 : Int32))])) _
          exact retN X54 hx (t := .boolean) Bd.returns (by simp) (hb hby at_77) hr
        · show Q0 Z w_1 w_2 w_3 k_1 p0 p1 h0 n0 _ T54.heap _
          rw [e54]
          exact ⟨by unfold sp0; rw [if_neg hc18, if_neg hc30, if_pos hc44], N53, trivial⟩
      · by_cases hc65 : (79 : Int32) = (p1.toUInt32.toUInt16.toUInt32.toInt32)
        · obtain ⟨_, _, ⟨T82, L82, k82, n82⟩, -, X82, ⟨Lc82, hQ82, l82, y82, z82⟩, st82⟩ := Jvm.LawKit.callS X0 hx (y := Y1) hown (mvT hZ (hw _ (tk 0 rfl))) (mvT hZ (hw _ (tk 1 rfl))) (mvT hZ (hw _ (tk 2 rfl))) (mvT hZ (hw _ (tk 3 rfl))) (by decide) (backOf (W := 0) (rm1x4 l Z a0 hw [] w_1 w_2 w_3 k_1 hS0 (p1.toUInt32.toUInt16.toUInt32.toInt32) h0 n0 O0 hc44 hc65) hZ (hw _ (tk 3 rfl)) (hw _ (tk 2 rfl)) (by decide) (by decide)) (g := (mkF m 29 #[.val (.int p0), .val (.int p1), .val (.int (p0 &&& (3 : Int32))), .val (.int (p1.toUInt32.toUInt16.toUInt32.toInt32)), .unset, .unset] [(.int (p1.toUInt32.toUInt16.toUInt32.toInt32))])) rfl (by rw [hml]; rfl) (argsL := [(.int (p1.toUInt32.toUInt16.toUInt32.toInt32))]) (rest := []) (lenOf pd_1 rfl) rfl (by show 2 * 0 + _ ≤ _; exact Nat.le_of_eq rfl) (hb hby at_29) (fun _ _ => ⟨rfl, e0, (by decide : 0 + 1 ≤ _), (by decide : 0 + 2 ≤ _)⟩)
          dsimp only [Pt.U, Pt.locs, Pt.cells, Pt.slots] at X82 l82 y82 z82 st82 hQ82
          subst l82 y82 z82
          obtain ⟨rv82, N82q, O82, K82c⟩ := hQ82
          subst rv82
          have N82 := Fr.app N0 N82q
          obtain ⟨T83, X83, e83, st83⟩ := getS2 X82 hx hZ hown (host := "") (Or.inl (hw _ (tk 24 rfl))) Via.refl rfl (S_3.ext O82.2) (g := (mkF m 54 #[.val (.int p0), .val (.int p1), .val (.int (p0 &&& (3 : Int32))), .val (.int (p1.toUInt32.toUInt16.toUInt32.toInt32)), .val (.ref w_3), .unset] [])) rfl (hb hby at_54)
          obtain ⟨fs, hr, hrun, hended, hW, hsame⟩ := X83.leave (v := some (.int (1 : Int32))) (fun h => by rw [Bd.returns] at h; cases h)
          refine ⟨_, _, pre43 _ ?_, hrun, hended, _, _, rfl, ?_, ⟨_, rfl⟩, hW, hsame.mono (by decide) (by decide)⟩
          · show Steps p.tables e below (s₁.setTop (mkF m 29 #[.val (.int p0), .val (.int p1), .val (.int (p0 &&& (3 : Int32))), .val (.int (p1.toUInt32.toUInt16.toUInt32.toInt32)), .unset, .unset] [(.int (p1.toUInt32.toUInt16.toUInt32.toInt32))])) _
            refine st82 _ ?_
            show Steps p.tables e below (T82.setTop (mkF m 32 #[.val (.int p0), .val (.int p1), .val (.int (p0 &&& (3 : Int32))), .val (.int (p1.toUInt32.toUInt16.toUInt32.toInt32)), .unset, .unset] [(.ref w_3)])) _
            refine XS.astore X82.here hx rfl (hb hby at_32) rfl rfl (l' := #[.val (.int p0), .val (.int p1), .val (.int (p0 &&& (3 : Int32))), .val (.int (p1.toUInt32.toUInt16.toUInt32.toInt32)), .val (.ref w_3), .unset]) rfl ?_
            show Steps p.tables e below (T82.setTop (mkF m 34 #[.val (.int p0), .val (.int p1), .val (.int (p0 &&& (3 : Int32))), .val (.int (p1.toUInt32.toUInt16.toUInt32.toInt32)), .val (.ref w_3), .unset] [])) _
            refine XS.iloadN X82.here hx rfl (hb hby at_34) rfl ?_
            show Steps p.tables e below (T82.setTop (mkF m 35 #[.val (.int p0), .val (.int p1), .val (.int (p0 &&& (3 : Int32))), .val (.int (p1.toUInt32.toUInt16.toUInt32.toInt32)), .val (.ref w_3), .unset] [(.int (p1.toUInt32.toUInt16.toUInt32.toInt32))])) _
            refine XS.bipush X82.here hx rfl (hb hby at_35) ?_
            show Steps p.tables e below (T82.setTop (mkF m 37 #[.val (.int p0), .val (.int p1), .val (.int (p0 &&& (3 : Int32))), .val (.int (p1.toUInt32.toUInt16.toUInt32.toInt32)), .val (.ref w_3), .unset] [(.int (88 : Int32)), (.int (p1.toUInt32.toUInt16.toUInt32.toInt32))])) _
            refine XS.icmpYes X82.here hx rfl (pc0 := 37) (pc' := 48) rfl (hb hby at_37) rfl (feq (Ne.symm hc44)).2 (by decide) (by decide) ?_
            show Steps p.tables e below (T82.setTop (mkF m 48 #[.val (.int p0), .val (.int p1), .val (.int (p0 &&& (3 : Int32))), .val (.int (p1.toUInt32.toUInt16.toUInt32.toInt32)), .val (.ref w_3), .unset] [])) _
            refine XS.iloadN X82.here hx rfl (hb hby at_48) rfl ?_
            show Steps p.tables e below (T82.setTop (mkF m 49 #[.val (.int p0), .val (.int p1), .val (.int (p0 &&& (3 : Int32))), .val (.int (p1.toUInt32.toUInt16.toUInt32.toInt32)), .val (.ref w_3), .unset] [(.int (p1.toUInt32.toUInt16.toUInt32.toInt32))])) _
            refine XS.bipush X82.here hx rfl (hb hby at_49) ?_
            show Steps p.tables e below (T82.setTop (mkF m 51 #[.val (.int p0), .val (.int p1), .val (.int (p0 &&& (3 : Int32))), .val (.int (p1.toUInt32.toUInt16.toUInt32.toInt32)), .val (.ref w_3), .unset] [(.int (79 : Int32)), (.int (p1.toUInt32.toUInt16.toUInt32.toInt32))])) _
            refine XS.icmpNo X82.here hx rfl (hb hby at_51) rfl (teq (Eq.symm hc65)).2 ?_
            show Steps p.tables e below (T82.setTop (mkF m 54 #[.val (.int p0), .val (.int p1), .val (.int (p0 &&& (3 : Int32))), .val (.int (p1.toUInt32.toUInt16.toUInt32.toInt32)), .val (.ref w_3), .unset] [])) _
            refine st83 _ ?_
            show Steps p.tables e below (T83.setTop (mkF m 57 #[.val (.int p0), .val (.int p1), .val (.int (p0 &&& (3 : Int32))), .val (.int (p1.toUInt32.toUInt16.toUInt32.toInt32)), .val (.ref w_3), .unset] [(.ref w_3)])) _
            refine XS.astore X83.here hx rfl (hb hby at_57) rfl rfl (l' := #[.val (.int p0), .val (.int p1), .val (.int (p0 &&& (3 : Int32))), .val (.int (p1.toUInt32.toUInt16.toUInt32.toInt32)), .val (.ref w_3), .val (.ref w_3)]) rfl ?_
            show Steps p.tables e below (T83.setTop (mkF m 59 #[.val (.int p0), .val (.int p1), .val (.int (p0 &&& (3 : Int32))), .val (.int (p1.toUInt32.toUInt16.toUInt32.toInt32)), .val (.ref w_3), .val (.ref w_3)] [])) _
            refine XS.goto X83.here hx rfl (pc0 := 59) (pc' := 65) rfl (hb hby at_59) (by decide) (by decide) ?_
            show Steps p.tables e below (T83.setTop (mkF m 65 #[.val (.int p0), .val (.int p1), .val (.int (p0 &&& (3 : Int32))), .val (.int (p1.toUInt32.toUInt16.toUInt32.toInt32)), .val (.ref w_3), .val (.ref w_3)] [])) _
            refine XS.aload X83.here hx rfl (hb hby at_65) rfl rfl ?_
            show Steps p.tables e below (T83.setTop (mkF m 67 #[.val (.int p0), .val (.int p1), .val (.int (p0 &&& (3 : Int32))), .val (.int (p1.toUInt32.toUInt16.toUInt32.toInt32)), .val (.ref w_3), .val (.ref w_3)] [(.ref w_3)])) _
            refine XS.aload X83.here hx rfl (hb hby at_67) rfl rfl ?_
            show Steps p.tables e below (T83.setTop (mkF m 69 #[.val (.int p0), .val (.int p1), .val (.int (p0 &&& (3 : Int32))), .val (.int (p1.toUInt32.toUInt16.toUInt32.toInt32)), .val (.ref w_3), .val (.ref w_3)] [(.ref w_3), (.ref w_3)])) _
            refine Jvm.RoadKit.acmp (g := (mkF m 69 #[.val (.int p0), .val (.int p1), .val (.int (p0 &&& (3 : Int32))), .val (.int (p1.toUInt32.toUInt16.toUInt32.toInt32)), .val (.ref w_3), .val (.ref w_3)] [(.ref w_3), (.ref w_3)])) X83 hx rfl rfl rfl (pc0 := 69) (pc' := 72) (same := true) rfl (hb hby at_69) rfl (decide_eq_true (congrArg Value.ref rfl)) (by decide) (by decide) ?_
            show Steps p.tables e below (T83.setTop (mkF m 72 #[.val (.int p0), .val (.int p1), .val (.int (p0 &&& (3 : Int32))), .val (.int (p1.toUInt32.toUInt16.toUInt32.toInt32)), .val (.ref w_3), .val (.ref w_3)] [])) _
            refine XS.iconst X83.here hx rfl (hb hby at_72) ?_
            show Steps p.tables e below (T83.setTop (mkF m 73 #[.val (.int p0), .val (.int p1), .val (.int (p0 &&& (3 : Int32))), .val (.int (p1.toUInt32.toUInt16.toUInt32.toInt32)), .val (.ref w_3), .val (.ref w_3)] [(.int (1 : Int32))])) _
            refine XS.goto X83.here hx rfl (pc0 := 73) (pc' := 77) rfl (hb hby at_73) (by decide) (by decide) ?_
            show Steps p.tables e below (T83.setTop (mkF m 77 #[.val (.int p0), .val (.int p1), .val (.int (p0 &&& (3 : Int32))), .val (.int (p1.toUInt32.toUInt16.toUInt32.toInt32)), .val (.ref w_3), .val (.ref w_3)] [(.int (1 : Int32))])) _
            exact retN X83 hx (t := .boolean) Bd.returns (by simp) (hb hby at_77) hr
          · show Q0 Z w_1 w_2 w_3 k_1 p0 p1 h0 n0 _ T83.heap _
            rw [e83]
            exact ⟨by unfold sp0; rw [if_neg hc18, if_neg hc30, if_neg hc44, if_pos hc65], N82, trivial⟩
        · obtain ⟨_, _, ⟨T100, L100, k100, n100⟩, -, X100, ⟨Lc100, hQ100, l100, y100, z100⟩, st100⟩ := Jvm.LawKit.callS X0 hx (y := Y1) hown (mvT hZ (hw _ (tk 0 rfl))) (mvT hZ (hw _ (tk 1 rfl))) (mvT hZ (hw _ (tk 2 rfl))) (mvT hZ (hw _ (tk 3 rfl))) (by decide) (backOf (W := 0) (rm1x5 l Z a0 hw [] w_1 w_2 w_3 k_1 hS0 (p1.toUInt32.toUInt16.toUInt32.toInt32) h0 n0 O0 hc44 hc65) hZ (hw _ (tk 3 rfl)) (hw _ (tk 2 rfl)) (by decide) (by decide)) (g := (mkF m 29 #[.val (.int p0), .val (.int p1), .val (.int (p0 &&& (3 : Int32))), .val (.int (p1.toUInt32.toUInt16.toUInt32.toInt32)), .unset, .unset] [(.int (p1.toUInt32.toUInt16.toUInt32.toInt32))])) rfl (by rw [hml]; rfl) (argsL := [(.int (p1.toUInt32.toUInt16.toUInt32.toInt32))]) (rest := []) (lenOf pd_1 rfl) rfl (by show 2 * 0 + _ ≤ _; exact Nat.le_of_eq rfl) (hb hby at_29) (fun _ _ => ⟨rfl, e0, (by decide : 0 + 1 ≤ _), (by decide : 0 + 2 ≤ _)⟩)
          dsimp only [Pt.U, Pt.locs, Pt.cells, Pt.slots] at X100 l100 y100 z100 st100 hQ100
          subst l100 y100 z100
          obtain ⟨rv100, N100q, O100, K100c⟩ := hQ100
          subst rv100
          have N100 := Fr.app N0 N100q
          obtain ⟨fs, hr, hrun, hended, hW, hsame⟩ := X100.leave (v := some (.int (1 : Int32))) (fun h => by rw [Bd.returns] at h; cases h)
          refine ⟨_, _, pre43 _ ?_, hrun, hended, _, _, rfl, ?_, ⟨_, rfl⟩, hW, hsame.mono (by decide) (by decide)⟩
          · show Steps p.tables e below (s₁.setTop (mkF m 29 #[.val (.int p0), .val (.int p1), .val (.int (p0 &&& (3 : Int32))), .val (.int (p1.toUInt32.toUInt16.toUInt32.toInt32)), .unset, .unset] [(.int (p1.toUInt32.toUInt16.toUInt32.toInt32))])) _
            refine st100 _ ?_
            show Steps p.tables e below (T100.setTop (mkF m 32 #[.val (.int p0), .val (.int p1), .val (.int (p0 &&& (3 : Int32))), .val (.int (p1.toUInt32.toUInt16.toUInt32.toInt32)), .unset, .unset] [.null])) _
            refine XS.astore X100.here hx rfl (hb hby at_32) rfl rfl (l' := #[.val (.int p0), .val (.int p1), .val (.int (p0 &&& (3 : Int32))), .val (.int (p1.toUInt32.toUInt16.toUInt32.toInt32)), .val .null, .unset]) rfl ?_
            show Steps p.tables e below (T100.setTop (mkF m 34 #[.val (.int p0), .val (.int p1), .val (.int (p0 &&& (3 : Int32))), .val (.int (p1.toUInt32.toUInt16.toUInt32.toInt32)), .val .null, .unset] [])) _
            refine XS.iloadN X100.here hx rfl (hb hby at_34) rfl ?_
            show Steps p.tables e below (T100.setTop (mkF m 35 #[.val (.int p0), .val (.int p1), .val (.int (p0 &&& (3 : Int32))), .val (.int (p1.toUInt32.toUInt16.toUInt32.toInt32)), .val .null, .unset] [(.int (p1.toUInt32.toUInt16.toUInt32.toInt32))])) _
            refine XS.bipush X100.here hx rfl (hb hby at_35) ?_
            show Steps p.tables e below (T100.setTop (mkF m 37 #[.val (.int p0), .val (.int p1), .val (.int (p0 &&& (3 : Int32))), .val (.int (p1.toUInt32.toUInt16.toUInt32.toInt32)), .val .null, .unset] [(.int (88 : Int32)), (.int (p1.toUInt32.toUInt16.toUInt32.toInt32))])) _
            refine XS.icmpYes X100.here hx rfl (pc0 := 37) (pc' := 48) rfl (hb hby at_37) rfl (feq (Ne.symm hc44)).2 (by decide) (by decide) ?_
            show Steps p.tables e below (T100.setTop (mkF m 48 #[.val (.int p0), .val (.int p1), .val (.int (p0 &&& (3 : Int32))), .val (.int (p1.toUInt32.toUInt16.toUInt32.toInt32)), .val .null, .unset] [])) _
            refine XS.iloadN X100.here hx rfl (hb hby at_48) rfl ?_
            show Steps p.tables e below (T100.setTop (mkF m 49 #[.val (.int p0), .val (.int p1), .val (.int (p0 &&& (3 : Int32))), .val (.int (p1.toUInt32.toUInt16.toUInt32.toInt32)), .val .null, .unset] [(.int (p1.toUInt32.toUInt16.toUInt32.toInt32))])) _
            refine XS.bipush X100.here hx rfl (hb hby at_49) ?_
            show Steps p.tables e below (T100.setTop (mkF m 51 #[.val (.int p0), .val (.int p1), .val (.int (p0 &&& (3 : Int32))), .val (.int (p1.toUInt32.toUInt16.toUInt32.toInt32)), .val .null, .unset] [(.int (79 : Int32)), (.int (p1.toUInt32.toUInt16.toUInt32.toInt32))])) _
            refine XS.icmpYes X100.here hx rfl (pc0 := 51) (pc' := 62) rfl (hb hby at_51) rfl (feq (Ne.symm hc65)).2 (by decide) (by decide) ?_
            show Steps p.tables e below (T100.setTop (mkF m 62 #[.val (.int p0), .val (.int p1), .val (.int (p0 &&& (3 : Int32))), .val (.int (p1.toUInt32.toUInt16.toUInt32.toInt32)), .val .null, .unset] [])) _
            refine XS.aconstNull X100.here hx rfl (hb hby at_62) ?_
            show Steps p.tables e below (T100.setTop (mkF m 63 #[.val (.int p0), .val (.int p1), .val (.int (p0 &&& (3 : Int32))), .val (.int (p1.toUInt32.toUInt16.toUInt32.toInt32)), .val .null, .unset] [.null])) _
            refine XS.astore X100.here hx rfl (hb hby at_63) rfl rfl (l' := #[.val (.int p0), .val (.int p1), .val (.int (p0 &&& (3 : Int32))), .val (.int (p1.toUInt32.toUInt16.toUInt32.toInt32)), .val .null, .val .null]) rfl ?_
            show Steps p.tables e below (T100.setTop (mkF m 65 #[.val (.int p0), .val (.int p1), .val (.int (p0 &&& (3 : Int32))), .val (.int (p1.toUInt32.toUInt16.toUInt32.toInt32)), .val .null, .val .null] [])) _
            refine XS.aload X100.here hx rfl (hb hby at_65) rfl rfl ?_
            show Steps p.tables e below (T100.setTop (mkF m 67 #[.val (.int p0), .val (.int p1), .val (.int (p0 &&& (3 : Int32))), .val (.int (p1.toUInt32.toUInt16.toUInt32.toInt32)), .val .null, .val .null] [.null])) _
            refine XS.aload X100.here hx rfl (hb hby at_67) rfl rfl ?_
            show Steps p.tables e below (T100.setTop (mkF m 69 #[.val (.int p0), .val (.int p1), .val (.int (p0 &&& (3 : Int32))), .val (.int (p1.toUInt32.toUInt16.toUInt32.toInt32)), .val .null, .val .null] [.null, .null])) _
            refine Jvm.RoadKit.acmp (g := (mkF m 69 #[.val (.int p0), .val (.int p1), .val (.int (p0 &&& (3 : Int32))), .val (.int (p1.toUInt32.toUInt16.toUInt32.toInt32)), .val .null, .val .null] [.null, .null])) X100 hx rfl rfl rfl (pc0 := 69) (pc' := 72) (same := true) rfl (hb hby at_69) rfl (decide_eq_true rfl) (by decide) (by decide) ?_
            show Steps p.tables e below (T100.setTop (mkF m 72 #[.val (.int p0), .val (.int p1), .val (.int (p0 &&& (3 : Int32))), .val (.int (p1.toUInt32.toUInt16.toUInt32.toInt32)), .val .null, .val .null] [])) _
            refine XS.iconst X100.here hx rfl (hb hby at_72) ?_
            show Steps p.tables e below (T100.setTop (mkF m 73 #[.val (.int p0), .val (.int p1), .val (.int (p0 &&& (3 : Int32))), .val (.int (p1.toUInt32.toUInt16.toUInt32.toInt32)), .val .null, .val .null] [(.int (1 : Int32))])) _
            refine XS.goto X100.here hx rfl (pc0 := 73) (pc' := 77) rfl (hb hby at_73) (by decide) (by decide) ?_
            show Steps p.tables e below (T100.setTop (mkF m 77 #[.val (.int p0), .val (.int p1), .val (.int (p0 &&& (3 : Int32))), .val (.int (p1.toUInt32.toUInt16.toUInt32.toInt32)), .val .null, .val .null] [(.int (1 : Int32))])) _
            exact retN X100 hx (t := .boolean) Bd.returns (by simp) (hb hby at_77) hr
          · show Q0 Z w_1 w_2 w_3 k_1 p0 p1 h0 n0 _ T100.heap _
            exact ⟨by unfold sp0; rw [if_neg hc18, if_neg hc30, if_neg hc44, if_neg hc65], N100, trivial⟩

theorem own_plain (p0 : Int32) (p1 : Int32) : sp0 p0 p1 = (1 : Int32) := by
  unfold sp0
  repeat' split
  all_goals rfl
set_option maxRecDepth 65536 in
set_option maxHeartbeats 40000000 in
theorem comes_1 {Post : Tables → Env → Array Value → State → Outcome → State → Prop} (hpost : ∀ tb e args s v u, (limb_1_1.after args s (.returned v) u = true ∧ limb_1_2.after args s (.returned v) u = true ∧ True) → FrameEnd s (.returned v) u (Jvm.fieldLocs frame_1_writes args s ++ Jvm.arrayLocs frame_1_arrays args s ++ Jvm.staticLocs frame_1_statics s) 16 128 → Post tb e args s (.returned v) u) :
    ArmFor flags0 classFile x code maxLocals ret World_1 tables_1 room_1 Calls_1 rest_1 Pre_1 Post := by
  intro l hfl _ _ p e ha hc hk s m args below hf hA hF happ hP
  obtain ⟨hcalls, hrest, hpre⟩ := hP
  obtain ⟨-, -, -, hnamed, -, -, -, hat⟩ := (Spec.applies_iff hf).mp happ
  obtain ⟨hg, hn⟩ := and_e (Cond.before_iff.mp (show (Jvm.Cond.and given_1 narrow_1).before args s = true from hpre))
  obtain ⟨g101, g102⟩ := and_e hg
  obtain ⟨g103, g104⟩ := and_e g102
  obtain ⟨w0, w1, rfl⟩ : ∃ w0 w1 : Value, args = #[w0, w1] := by
    have hs : args.size = 2 := by simpa [Cond.value, given_1] using g101
    obtain ⟨L⟩ := args
    match L, hs with
    | [w0, w1], _ => exact ⟨w0, w1, rfl⟩
  have hw := fun d (hd : d ∈ tables_1) => atoms_spec (ws := Jvm.Cond.code x code maxLocals ret :: tables_1) hat d (List.mem_cons_of_mem _ hd)
  have hfit : Fit s := fun {y c} hc i hi => by
    obtain ⟨ha, rfl⟩ := Array.getElem?_eq_some_iff.mp hc
    have q := List.all_eq_true.mp ((Array.all_eq_true_iff_forall_mem.mp hF) _ (Array.getElem_mem ha)) i (List.mem_range.mpr hi)
    simpa [Array.getElem?_eq_getElem hi] using q
  obtain ⟨i0, ei0⟩ := is_v g103
  obtain rfl : w0 = (.int i0) := Option.some.inj ei0
  obtain ⟨i1, ei1⟩ := is_v g104
  obtain rfl : w1 = (.int i1) := Option.some.inj ei1
  obtain ⟨n1, n2⟩ := and_e hn
  obtain ⟨n3, n4⟩ := and_e n2
  obtain ⟨n5, n6⟩ := and_e n4
  obtain ⟨n7, n8⟩ := and_e n6
  obtain ⟨n9, n10⟩ := and_e n8
  obtain ⟨n11, n12⟩ := and_e n10
  obtain ⟨n13, n14⟩ := and_e n12
  obtain ⟨n15, n16⟩ := and_e n14
  obtain ⟨w_1, ew_1⟩ := arr_v n1
  have S_1 : Sta s s.heap "flankwise/reversi/Side" "$VALUES" "[Lflankwise/reversi/Side;" (.ref w_1) := Sta.start ew_1 (Or.inr ⟨(hw _ (tk 2 rfl)), (hw _ (tk 8 rfl))⟩)
  obtain ⟨w_2, ew_2⟩ := exa_v n7
  have S_2 : Sta s s.heap "flankwise/reversi/Side" "BLACK" "Lflankwise/reversi/Side;" (.ref w_2) := Sta.start ew_2 (Or.inr ⟨(hw _ (tk 2 rfl)), (hw _ (tk 16 rfl))⟩)
  have E_2 : Exa s s.heap w_2 "flankwise/reversi/Side" := Exa.start ew_2 n7
  obtain ⟨w_3, ew_3⟩ := exa_v n11
  have S_3 : Sta s s.heap "flankwise/reversi/Side" "WHITE" "Lflankwise/reversi/Side;" (.ref w_3) := Sta.start ew_3 (Or.inr ⟨(hw _ (tk 2 rfl)), (hw _ (tk 17 rfl))⟩)
  have E_3 : Exa s s.heap w_3 "flankwise/reversi/Side" := Exa.start ew_3 n11
  have E_1 : Exa s s.heap w_1 "[Lflankwise/reversi/Side;" := Exa.start ew_1 n3
  have F_2_letter : Fld s s.heap w_2 "flankwise/reversi/Side" "letter" "C" (.int (88 : Int32)) := own_fld ew_2 n15
  have F_3_letter : Fld s s.heap w_3 "flankwise/reversi/Side" "letter" "C" (.int (79 : Int32)) := own_fld ew_3 n16
  obtain ⟨cl_1, A_1⟩ := Arr.start ew_1 n1
  have L_1 := own_len ew_1 A_1 n5
  have V_1 : Arv s s.heap w_1 cl_1.cls (.object "flankwise/reversi/Side") (2 : Int32) [(.ref w_2), (.ref w_3)] .null := Arv.start hfit A_1 L_1.1 L_1.2 (by decide) rfl ⟨own_elem ew_1 A_1.1 ew_2 n9, own_elem ew_1 A_1.1 ew_3 n13, trivial⟩
  obtain ⟨k_1, hk_1⟩ : ∃ z, z = cl_1.cls := ⟨_, rfl⟩
  rw [← hk_1] at V_1
  have hS : StF s w_1 w_2 w_3 k_1 := ⟨S_1, S_2, E_2, S_3, E_3, E_1, F_2_letter, F_3_letter, V_1⟩
  obtain ⟨n, o, h1, h2, h3, _, L, rfl, ⟨hv, N, -⟩, hq⟩ := rm0 l s _ hw tables_1 w_1 w_2 w_3 k_1 hS i0 i1 s.heap s.heap.size (Old.start s) p e ha hc hk s m _ below hf ((Spec.applies_iff_loose hf).mp happ).1 ⟨rfl, State.Warmed39.refl s, rfl⟩ trivial
  rw [own_plain i0 i1] at hv
  subst hv
  refine ⟨n, _, h1, h2, h3, hpost _ _ _ _ _ _ ⟨Cond.after_iff.mpr rfl, Cond.after_iff.mpr (eq_i res_at (Term.int_eval (1)) rfl), trivial⟩ ⟨hq.1, hq.2.1, (hq.2.2.sift fun y hy => Or.inr (N y hy)).mono (by decide) (by decide)⟩⟩
theorem main_1_1 : Claimed_1_1 := comes_1 fun _ _ _ _ _ _ h hF => ⟨h.1, hF⟩
theorem main_1_2 : Claimed_1_2 := comes_1 fun _ _ _ _ _ _ h hF => ⟨h.2.1, hF⟩
end Jvm.Pilot.@@N@@
namespace Jvm.Pilot.@@N@@
open Jvm Jvm.ClassFile Sem Op Lib Jvm.Free Jvm.Stand Jvm.Pilot.@@N@@.Jvm.D
/-! MADE BY PROGRAM (witnessworld.py) out of the Statement's table words and the real class files: 13 classes; the members and pool entries that the words name. The judged class is class 1, her method 1. -/
namespace start1
open Jvm.ClassFile
def u (s : String) : CpInfo := .utf8 (stringToUtf16 s)
/-- a pool by its gaps: so many unusable entries, then the entry; so many at the end -/
def gap : Nat → List CpInfo → List CpInfo
  | 0, r => r
  | n + 1, r => .unusable :: gap n r
def poolList (es : List (Nat × CpInfo)) (last : Nat) : List CpInfo := es.foldr (fun e r => gap e.1 (e.2 :: r)) (gap last [])
def pool (es : List (Nat × CpInfo)) (last : Nat) : Array CpInfo := ⟨poolList es last⟩
def fileOf (pool : Array CpInfo) (this : Nat) (attrs : Array Attribute := #[]) (ms : Array MethodInfo := #[]) (fl : Nat := 33) (sup : Nat := 0) (ifs : Array Nat := #[]) (fds : Array FieldInfo := #[]) : ClassFile where
  minorVersion := 0
  majorVersion := 65
  constantPool := pool
  accessFlags := fl
  thisClass := this
  superClass := sup
  interfaces := ifs
  fields := fds
  methods := ms
  attributes := attrs
def plain (name : String) (sup : Option ClassId) : Class where
  name := name
  kind := .ordinary
  loader := none
  accessFlags := 33
  super := sup
  interfaces := #[]
  cf := none
  fields := #[]
  methods := #[]
  instanceTypes := #[]
  staticTypes := #[]
  resolved := #[]
  callSites := []
  init := .initialized
  statics := none
  mirror := none

def pool0 : Array CpInfo := pool [(5, u "<init>"), (0, u "()V"), (1, .class_ 10), (1, u "java/lang/Object"), (85, u "clone"), (0, u "()Ljava/lang/Object;")] 26

def k0m0 : Method := { name := "<init>", desc := "()V", sig := { parameters := [], returnType := none }, accessFlags := 1, code := none }
def k0m1 : Method := { name := "clone", desc := "()Ljava/lang/Object;", sig := { parameters := [], returnType := some (.object "java/lang/Object") }, accessFlags := 260, code := none }
/-- java/lang/Object -/
def k0 : Class := { plain "java/lang/Object" none with
  accessFlags := 33
  interfaces := #[]
  cf := some (fileOf pool0 8 #[] #[{ accessFlags := 1, nameIndex := 5, descriptorIndex := 6, attributes := #[] }, { accessFlags := 260, nameIndex := 96, descriptorIndex := 97, attributes := #[] }] 33 0 #[] #[])
  fields := #[]
  methods := #[k0m0, k0m1]
  instanceTypes := #[]
  staticTypes := #[]
  resolved := Array.replicate 124 none
  statics := none }

def pool1 : Array CpInfo := pool [(2, .class_ 4), (1, u "java/lang/Object"), (0, u "<init>"), (0, u "()V"), (0, .methodref 8 9), (0, .class_ 10), (0, .nameAndType 11 12), (0, u "flankwise/reversi/Side"), (0, u "ofLetter"), (0, u "(C)Lflankwise/reversi/Side;"), (0, .fieldref 8 14), (0, .nameAndType 15 16), (0, u "BLACK"), (0, u "Lflankwise/reversi/Side;"), (0, .fieldref 8 18), (0, .nameAndType 19 16), (0, u "WHITE"), (0, .class_ 21), (0, u "flankwise/reversi/SideOfLetterPinLaw"), (2, u "law"), (0, u "(II)Z")] 3

def k1m0 : Method := { name := "<init>", desc := "()V", sig := { parameters := [], returnType := none }, accessFlags := 1, code := none }
def k1c1 : Code := { maxStack := 2, maxLocals := 6, code := code, exceptionTable := #[], attributes := #[] }
def k1m1 : Method := { name := "law", desc := "(II)Z", sig := { parameters := [.int, .int], returnType := some .boolean }, accessFlags := 9, code := some k1c1 }
/-- flankwise/reversi/SideOfLetterPinLaw -/
def k1 : Class := { plain "flankwise/reversi/SideOfLetterPinLaw" (some 0) with
  accessFlags := 49
  interfaces := #[]
  cf := some (fileOf pool1 20 #[] #[{ accessFlags := 1, nameIndex := 5, descriptorIndex := 6, attributes := #[] }, { accessFlags := 9, nameIndex := 24, descriptorIndex := 25, attributes := #[] }] 49 2 #[] #[])
  fields := #[]
  methods := #[k1m0, k1m1]
  instanceTypes := #[]
  staticTypes := #[]
  resolved := Array.replicate 29 none
  statics := none }

def pool2 : Array CpInfo := pool [(1, .class_ 2), (0, u "java/lang/constant/Constable"), (0, .class_ 4), (0, u "java/lang/Object")] 6

/-- java/lang/constant/Constable -/
def k2 : Class := { plain "java/lang/constant/Constable" (some 0) with
  accessFlags := 1537
  interfaces := #[]
  cf := some (fileOf pool2 1 #[] #[] 1537 3 #[] #[])
  fields := #[]
  methods := #[]
  instanceTypes := #[]
  staticTypes := #[]
  resolved := Array.replicate 11 none
  statics := none }

def pool3 : Array CpInfo := pool [(1, .class_ 2), (0, u "java/lang/Comparable"), (0, .class_ 4), (0, u "java/lang/Object")] 7

/-- java/lang/Comparable -/
def k3 : Class := { plain "java/lang/Comparable" (some 0) with
  accessFlags := 1537
  interfaces := #[]
  cf := some (fileOf pool3 1 #[] #[] 1537 3 #[] #[])
  fields := #[]
  methods := #[]
  instanceTypes := #[]
  staticTypes := #[]
  resolved := Array.replicate 12 none
  statics := none }

def pool4 : Array CpInfo := pool [(1, .class_ 2), (0, u "java/io/Serializable"), (0, .class_ 4), (0, u "java/lang/Object")] 2

/-- java/io/Serializable -/
def k4 : Class := { plain "java/io/Serializable" (some 0) with
  accessFlags := 1537
  interfaces := #[]
  cf := some (fileOf pool4 1 #[] #[] 1537 3 #[] #[])
  fields := #[]
  methods := #[]
  instanceTypes := #[]
  staticTypes := #[]
  resolved := Array.replicate 7 none
  statics := none }

def pool5 : Array CpInfo := pool [(2, .class_ 4), (1, u "java/lang/Enum"), (0, u "name"), (0, u "Ljava/lang/String;"), (2, u "ordinal"), (0, u "I"), (1, .class_ 14), (1, u "java/lang/Object"), (4, u "hash"), (86, .class_ 108), (1, u "java/lang/Enum$EnumDesc"), (2, .class_ 112), (0, u "java/lang/constant/Constable"), (0, .class_ 114), (0, u "java/lang/Comparable"), (0, .class_ 116), (0, u "java/io/Serializable")] 87

/-- java/lang/Enum -/
def k5 : Class := { plain "java/lang/Enum" (some 0) with
  accessFlags := 1057
  interfaces := #[2, 3, 4]
  cf := some (fileOf pool5 2 #[.nestMembers #[106]] #[] 1057 12 #[111, 113, 115] #[{ accessFlags := 18, nameIndex := 5, descriptorIndex := 6, attributes := #[] }, { accessFlags := 18, nameIndex := 9, descriptorIndex := 10, attributes := #[] }, { accessFlags := 2, nameIndex := 19, descriptorIndex := 10, attributes := #[] }])
  fields := #[{ name := "name", type := (.object "java/lang/String"), accessFlags := 18, slot := 0, constantValue := 0 }, { name := "ordinal", type := .int, accessFlags := 18, slot := 1, constantValue := 0 }, { name := "hash", type := .int, accessFlags := 2, slot := 2, constantValue := 0 }]
  methods := #[]
  instanceTypes := #[(.object "java/lang/String"), .int, .int]
  staticTypes := #[]
  resolved := Array.replicate 204 none
  statics := none }

def pool6 : Array CpInfo := pool [(1, .class_ 2), (0, u "flankwise/reversi/Side"), (2, u "BLACK"), (0, u "Lflankwise/reversi/Side;"), (2, u "WHITE"), (0, .fieldref 1 11), (0, .nameAndType 12 13), (0, u "$VALUES"), (0, u "[Lflankwise/reversi/Side;"), (0, .methodref 15 16), (0, .class_ 13), (0, .nameAndType 17 18), (0, u "clone"), (0, u "()Ljava/lang/Object;"), (1, .class_ 22), (1, u "java/lang/Enum"), (6, .fieldref 1 30), (0, .nameAndType 31 32), (0, u "letter"), (0, u "C"), (28, .methodref 1 62), (0, .nameAndType 63 64), (0, u "values"), (0, u "()[Lflankwise/reversi/Side;"), (19, u "ofLetter"), (0, u "(C)Lflankwise/reversi/Side;")] 20

def k6c0 : Code := { maxStack := 1, maxLocals := 0, code := prog_33_method_1_code, exceptionTable := #[], attributes := #[] }
def k6m0 : Method := { name := "values", desc := "()[Lflankwise/reversi/Side;", sig := { parameters := [], returnType := some (.array (.object "flankwise/reversi/Side")) }, accessFlags := 9, code := some k6c0 }
def k6c1 : Code := { maxStack := 2, maxLocals := 5, code := prog_33_method_7_code, exceptionTable := #[], attributes := #[] }
def k6m1 : Method := { name := "ofLetter", desc := "(C)Lflankwise/reversi/Side;", sig := { parameters := [.char], returnType := some (.object "flankwise/reversi/Side") }, accessFlags := 8, code := some k6c1 }
/-- flankwise/reversi/Side -/
def k6 : Class := { plain "flankwise/reversi/Side" (some 5) with
  accessFlags := 16433
  interfaces := #[]
  cf := some (fileOf pool6 1 #[] #[{ accessFlags := 9, nameIndex := 63, descriptorIndex := 64, attributes := #[] }, { accessFlags := 8, nameIndex := 84, descriptorIndex := 85, attributes := #[] }] 16433 20 #[] #[{ accessFlags := 16409, nameIndex := 5, descriptorIndex := 6, attributes := #[] }, { accessFlags := 16409, nameIndex := 9, descriptorIndex := 6, attributes := #[] }, { accessFlags := 18, nameIndex := 31, descriptorIndex := 32, attributes := #[] }, { accessFlags := 4122, nameIndex := 12, descriptorIndex := 13, attributes := #[] }])
  fields := #[{ name := "BLACK", type := (.object "flankwise/reversi/Side"), accessFlags := 16409, slot := 0, constantValue := 0 }, { name := "WHITE", type := (.object "flankwise/reversi/Side"), accessFlags := 16409, slot := 1, constantValue := 0 }, { name := "letter", type := .char, accessFlags := 18, slot := 3, constantValue := 0 }, { name := "$VALUES", type := (.array (.object "flankwise/reversi/Side")), accessFlags := 4122, slot := 2, constantValue := 0 }]
  methods := #[k6m0, k6m1]
  instanceTypes := #[(.object "java/lang/String"), .int, .int, .char]
  staticTypes := #[(.object "flankwise/reversi/Side"), (.object "flankwise/reversi/Side"), (.array (.object "flankwise/reversi/Side"))]
  resolved := Array.replicate 106 none
  statics := some 0 }

def pool7 : Array CpInfo := pool [(1, .class_ 2), (0, u "java/lang/Cloneable"), (0, .class_ 4), (0, u "java/lang/Object")] 2

/-- java/lang/Cloneable -/
def k7 : Class := { plain "java/lang/Cloneable" (some 0) with
  accessFlags := 1537
  interfaces := #[]
  cf := some (fileOf pool7 1 #[] #[] 1537 3 #[] #[])
  fields := #[]
  methods := #[]
  instanceTypes := #[]
  staticTypes := #[]
  resolved := Array.replicate 7 none
  statics := none }

/-- the primitive byte -/
def k8 : Class := { plain "byte" none with kind := .primitive 'B', accessFlags := 0x411 }
/-- [B -/
def k9 : Class := { plain "[B" (some 0) with kind := .array 8 .byte, interfaces := #[7, 4], accessFlags := 1041 }

/-- the primitive int -/
def k10 : Class := { plain "int" none with kind := .primitive 'I', accessFlags := 0x411 }
/-- [I -/
def k11 : Class := { plain "[I" (some 0) with kind := .array 10 .int, interfaces := #[7, 4], accessFlags := 1041 }

/-- [Lflankwise/reversi/Side; -/
def k12 : Class := { plain "[Lflankwise/reversi/Side;" (some 0) with kind := .array 6 (.object "flankwise/reversi/Side"), interfaces := #[7, 4], accessFlags := 1041 }

def heap : Heap := #[{ cls := 6, slots := #[.ref 2, .ref 3, .ref 1], vm := .statics 6 },
  { cls := 12, slots := #[.ref 2, .ref 3], vm := .none },
  { cls := 6, slots := #[.null, .int 0, .int 0, .int 88], vm := .none },
  { cls := 6, slots := #[.null, .int 0, .int 0, .int 79], vm := .none }]
def classes : Array Class := #[k0, k1, k2, k3, k4, k5, k6, k7, k8, k9, k10, k11, k12]
def interned : List (Array UInt16 × Addr) := []
def slotsUsed : Nat := 13
def theMethod : MethodId := ⟨1, 1⟩
def args0 : Array Value := #[.int 5, .int 7]
def aboutOver (below : List Frame) : State where
  vm := { classes := classes, interned := interned.toArray }
  heap := heap
  slotsUsed := slotsUsed
  threads := #[{ frames := .invoking theMethod args0 :: below }]
def below0 : List Frame := [.native { method := ⟨0, 0⟩, args := #[] }]
def about1 : State := aboutOver below0
def p0 : Program := .bare "" "" ""
def e0 : Env := launch0.env 0 0 0
theorem w_frames : about1.frames = Frame.invoking theMethod args0 :: below0 := rfl
set_option maxRecDepth 65536 in
theorem w_args : argsFit about1.vm theMethod args0 = true := by decide +kernel
set_option maxRecDepth 65536 in
theorem w_heap : heapFits about1 = true := by decide +kernel
set_option maxRecDepth 65536 in
theorem w_runnable : about1.curStatus? = some .runnable := by decide +kernel
set_option maxRecDepth 65536 in
theorem w_alone : about1.alone = true := by decide +kernel
set_option maxRecDepth 65536 in
theorem w_named : about1.methodNamed? x = some theMethod := by decide +kernel
set_option maxRecDepth 65536 in
theorem w_hears : about1.hears theMethod below0 = true := by decide +kernel
set_option maxRecDepth 65536 in
theorem w_ripe : about1.ripe theMethod args0 below0 = true := by decide +kernel
theorem w_running : about1.status = .running := rfl
set_option maxRecDepth 65536 in
theorem w_room : about1.hasRoom e0.platform room_1 = true :=
  launch0.hasRoom_least _ room_1 (by decide +kernel) (by decide +kernel) (by decide +kernel) (by decide +kernel) (by decide +kernel) (by decide +kernel)
theorem allAtoms_all (ts : List Jvm.Cond) (a : Array Jvm.Value) (st : Jvm.State) : (allAtoms ts).before a st = ts.all (fun c => c.before a st) := by
  induction ts with
  | nil => rfl
  | cons c t ih =>
    show (Jvm.Cond.and c (allAtoms t)).before a st = _
    rw [Jvm.Cond.before_and, ih, List.all_cons]
def words1 : List Jvm.Cond := Jvm.Cond.code x code maxLocals ret :: tables_1
/-- a 'code' word, met by the world's own term for the bytes: nothing is compared byte by byte -/
theorem code_word {y : MethodName} {bytes : ByteArray} {mx : Nat} {rt : Option FieldType} {a : Array Value} {s : State} {m : MethodId} {meth : Method} {c : Code} (h1 : s.methodNamed? y = some m) (h2 : s.vm.method? m = some meth) (h3 : meth.code = some c) (h4 : c.code = bytes)
    (h5 : (c.maxLocals == mx && c.exceptionTable.isEmpty && decide (c.maxStack ≤ mostOperands) && decide (meth.sig.returnType = rt) && !meth.locks && decide (parseMethodDescriptor y.desc = some meth.sig)) = true) : (Jvm.Cond.code y bytes mx rt).before a s = true := by
  simp only [Bool.and_eq_true, beq_iff_eq, Bool.not_eq_true', decide_eq_true_eq] at h5
  obtain ⟨⟨⟨⟨⟨g1, g2⟩, g3⟩, g4⟩, g5⟩, g6⟩ := h5
  simp [Cond.before, Cond.holds, Cond.value, h1, h2, h3, h4, g1, g2, g3, g4, g5, g6]
def isCode : Jvm.Cond → Bool
  | .code _ _ _ _ => true
  | _ => false
theorem all_split {L : List Jvm.Cond} {P : Jvm.Cond → Bool} (h1 : L.all (fun c => isCode c || P c) = true) (h2 : ∀ c ∈ L.filter isCode, P c = true) : L.all P = true := by
  refine List.all_eq_true.mpr fun c hc => ?_
  have h := List.all_eq_true.mp h1 c hc
  rcases Bool.eq_false_or_eq_true (isCode c) with hi | hi
  · exact h2 c (List.mem_filter.mpr ⟨hc, hi⟩)
  · simpa [hi] using h
set_option maxRecDepth 65536 in
theorem w_c0 : (Jvm.Cond.code x code maxLocals ret).before args0 about1 = true := code_word (m := ⟨1, 1⟩) (meth := k1m1) (c := k1c1) (by decide +kernel) rfl rfl rfl (by decide +kernel)
set_option maxRecDepth 65536 in
theorem w_c1 : (Jvm.Cond.code ({ cls := "flankwise/reversi/Side", name := "ofLetter", desc := "(C)Lflankwise/reversi/Side;" } : Jvm.MethodName) prog_33_method_7_code (5 : Nat) (Option.some (Jvm.ClassFile.FieldType.object "flankwise/reversi/Side"))).before args0 about1 = true := code_word (m := ⟨6, 1⟩) (meth := k6m1) (c := k6c1) (by decide +kernel) rfl rfl rfl (by decide +kernel)
set_option maxRecDepth 65536 in
theorem w_c2 : (Jvm.Cond.code ({ cls := "flankwise/reversi/Side", name := "values", desc := "()[Lflankwise/reversi/Side;" } : Jvm.MethodName) prog_33_method_1_code (0 : Nat) (Option.some (Jvm.ClassFile.FieldType.array (Jvm.ClassFile.FieldType.object "flankwise/reversi/Side")))).before args0 about1 = true := code_word (m := ⟨6, 0⟩) (meth := k6m0) (c := k6c0) (by decide +kernel) rfl rfl rfl (by decide +kernel)
def codes1 : List Jvm.Cond := [Jvm.Cond.code x code maxLocals ret, Jvm.Cond.code ({ cls := "flankwise/reversi/Side", name := "ofLetter", desc := "(C)Lflankwise/reversi/Side;" } : Jvm.MethodName) prog_33_method_7_code (5 : Nat) (Option.some (Jvm.ClassFile.FieldType.object "flankwise/reversi/Side")), Jvm.Cond.code ({ cls := "flankwise/reversi/Side", name := "values", desc := "()[Lflankwise/reversi/Side;" } : Jvm.MethodName) prog_33_method_1_code (0 : Nat) (Option.some (Jvm.ClassFile.FieldType.array (Jvm.ClassFile.FieldType.object "flankwise/reversi/Side")))]
set_option maxRecDepth 65536 in
theorem codes_eq : words1.filter isCode = codes1 := rfl
theorem w_codes : ∀ c ∈ words1.filter isCode, c.before args0 about1 = true := by
  rw [codes_eq]
  intro c hc
  simp only [codes1, List.mem_cons, List.not_mem_nil, or_false] at hc
  rcases hc with rfl | rfl | rfl
  · exact w_c0
  · exact w_c1
  · exact w_c2
set_option maxRecDepth 65536 in
theorem w_t1 : (words1.take 24).all (fun c => isCode c || c.before args0 about1) = true := by decide +kernel
set_option maxRecDepth 65536 in
theorem w_t2 : (words1.drop 24).all (fun c => isCode c || c.before args0 about1) = true := by decide +kernel
theorem w_tables : (allAtoms (Jvm.Cond.code x code maxLocals ret :: tables_1)).before args0 about1 = true := by
  rw [allAtoms_all]
  show words1.all (fun c => c.before args0 about1) = true
  refine all_split ?_ w_codes
  rw [← List.take_append_drop 24 words1, List.all_append, w_t1, w_t2]
  rfl
set_option maxRecDepth 65536 in
theorem w_case : (Jvm.Cond.and given_1 narrow_1).before args0 about1 = true := by decide +kernel
theorem w_applies : (headSpec (Jvm.Cond.code x code maxLocals ret :: tables_1) room_1).applies x e0.platform about1 = true :=
  (Spec.applies_iff w_frames).mpr ⟨w_running, w_runnable, w_alone, w_named, w_hears, w_ripe, w_room, w_tables⟩
theorem atStart : AtStart classFile x code maxLocals ret World_1 tables_1 room_1 Calls_1 rest_1 Pre_1 launch0 p0 e0 about1 theMethod args0 below0 :=
  ⟨lists_1, trivial, launch0.admits_env _ _ _, launch0.least_env, fairChoices_fair.cas, fairChoices_fair.clock, w_frames, w_args, w_heap, w_applies, trivial, trivial, w_case⟩
end start1
theorem witness_1 : WitnessClaimed_1 := ⟨start1.p0, start1.e0, start1.about1, start1.theMethod, start1.args0, start1.below0, start1.atStart⟩
end Jvm.Pilot.@@N@@
