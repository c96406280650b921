import JvmDerived
import JvmDerived.Pilot.@@N@@Statement
import JvmDerived.Pilot.@@N@@Code
set_option linter.unusedVariables false
set_option linter.unusedSimpArgs false
namespace Jvm.RoadKit
open Sem ClassFile Op Lib Jvm.Stand Jvm.Free Jvm.LawKit
section New
variable {p : Program} {l : Launch} {e : Env} {R : Room} {s : State} {m : MethodId} {args : Array Value} {below : List Frame} {meth : Method} {c : Code} {T : State} {locs : List Loc} {cells slots : Nat}
theorem retI (X : Stand p l e R s m args below meth c T locs cells slots) (hx : p.tables.exec = Jvm.exec) {pc : Nat} {Ls : Array Slot} {z : Int32} {rest : List Value} (hret : meth.sig.returnType = some .int) (hd : decode c.code pc = .ok (.ireturn, 1)) {fs : List Frame}
    (hl : ∀ (f : JFrame) (acts : List Action), f.method = m → f.locked = none → f.entered = [] → (doReturn e (T.setTop f) acts (some (.int z))).1 = T.setFrames fs) : Steps p.tables e below (T.setTop (mkF m pc Ls (.int z :: rest))) (T.setFrames fs) := by
  have hm' : T.vm.method? m = some meth := X.method'
  have hn : narrow .int (.int z) = .int z := rfl
  show Steps p.tables e below (T.setTop { method := m, pc := pc, locals := Ls, stack := _ :: rest, locked := none }) _
  jvm_step X.here [X.here.top, hx, hd, hm', hret, hn]
  first | (intro acts; rw [hl _ acts rfl rfl rfl]) | rw [hl _ _ rfl rfl rfl]
  exact Steps.refl _
end New
end Jvm.RoadKit
namespace Jvm.Pilot.@@N@@
open Jvm Jvm.ClassFile Sem Op Lib Jvm.Free Jvm.Stand Jvm.LawKit Jvm.RoadKit Bundle Jvm.Pilot.@@N@@.Jvm.D
theorem tk {L : List Jvm.Cond} {d : Jvm.Cond} (i : Nat) (h : L[i]? = some d) : d ∈ L := List.mem_of_getElem? h
/-! own small facts: what the case says of a pinned static's field -/
theorem own_fld {args : Array Value} {s : State} {t : Term} {C n d : String} {w : Addr} {k : Int32} (ht : t.eval args s none [] s = some (.ref w)) (h : (Cond.eq (.field t C n d) (.int k)).value args s none s [] = some true) : Fld s s.heap w C n d (.int k) := by
  obtain ⟨x, y, hx, hy, -, kin⟩ := cmp_v (Or.inl h)
  obtain rfl : Value.int k = y := Option.some.inj hy
  obtain ⟨z, rfl⟩ := kin
  have e : z = k := by simpa [Cond.value, hx, hy] using h
  subst e
  exact Fld.start ((fld_at ht).symm.trans hx)
theorem own_fldN {args : Array Value} {s : State} {t : Term} {C n d : String} {w : Addr} (ht : t.eval args s none [] s = some (.ref w)) (h : (Cond.eq (.field t C n d) .null).value args s none s [] = some true) : Fld s s.heap w C n d .null :=
  Fld.start ((fld_at ht).symm.trans (null_v h))
theorem own_nsroot {Z : State} {a0 : Array Value} {O K : String} {n : Nat} (w : (Cond.noSuperclass O).before a0 Z = true) (wk : (Cond.instantiable K n).before a0 Z = true) (hn : O ≠ K) : NS Z O K := by
  obtain ⟨c, k, h1, h2, h3, -, -⟩ := Cond.noSuperclass_spec w
  obtain ⟨t, -, g1, -⟩ := Cond.instantiable_spec wk
  have ne := ids_ne h1 g1 hn
  refine ⟨c, t, h1, g1, fun fuel => ?_⟩
  cases fuel with
  | zero => rfl
  | succ f => simp [Vm.isSubclassAux, ne, h2, h3]
theorem own_nsno {Z : State} {a0 : Array Value} {C S K : String} {n : Nat} (w : (Cond.superclass C S).before a0 Z = true) (wk : (Cond.instantiable K n).before a0 Z = true) (ns : NS Z C K) (hn : C ≠ K) : ∃ c t, Z.vm.findClass C = some c ∧ Z.vm.findClass K = some t ∧ Z.vm.assignable c t = false := by
  obtain ⟨c, t, h0, g0, n3⟩ := ns
  obtain ⟨p, k, kp, h1, h2, h3, h4, h5, -, h7⟩ := Cond.superclass_spec h0 w
  obtain ⟨t', k', g1, g2, g3, g4, -⟩ := Cond.instantiable_spec wk
  cases g0.symm.trans g1
  have ne := ids_ne h0 g0 hn
  have g5 : k'.isInterface = false := (Bool.or_eq_false_iff.mp g4).1
  refine ⟨c, t, h0, g0, ?_⟩
  show Z.vm.assignableAux (255 + 1) c t = false
  simp [Vm.assignableAux, ne, h2, g2, h5, g3, g5, Vm.isSubclass, n3]
theorem own_nar {v : Value} {C : String} (h : v.isRef = true) : narrow (.object C) v = v := by rcases ref_cases h with rfl | ⟨a, rfl⟩ <;> rfl
theorem own_fit {v : Value} {C : String} (h : v.isRef = true) : fits (.object C) v = true := by rcases ref_cases h with rfl | ⟨a, rfl⟩ <;> rfl
theorem own_refof {v : Value} (h : v.isRef = true) (n : ¬ v = .null) : ∃ a, v = .ref a := (ref_cases h).elim (fun q => absurd q n) id
theorem own_sint {args : Array Value} {s : State} {t : Term} {k : Int32} (h : (Cond.eq t (.int k)).value args s none s [] = some true) : t.eval args s none [] s = some (.int k) := by
  obtain ⟨x, y, hx, hy, -, kin⟩ := cmp_v (Or.inl h)
  obtain rfl : Value.int k = y := Option.some.inj hy
  obtain ⟨z, rfl⟩ := kin
  have e : z = k := by simpa [Cond.value, hx, hy] using h
  subst e; exact hx
theorem own_snot {args : Array Value} {s : State} {t : Term} {k z : Int32} (ht : t.eval args s none [] s = some (.int z)) (h : (Cond.not (Cond.eq t (.int k))).value args s none s [] = some true) : ¬ z = k := by
  have := not_v h
  intro e
  subst e
  simp [Cond.value, ht, Term.eval] at this
theorem own_seq {args : Array Value} {s : State} {t u : Term} {a b : Addr} (ht : t.eval args s none [] s = some (.ref a)) (hu : u.eval args s none [] s = some (.ref b)) (h : (Cond.eq t u).value args s none s [] = some true) : b = a := by
  have e : a = b := by simpa [Cond.value, ht, hu] using h
  exact e.symm
theorem own_len {args : Array Value} {s : State} {t : Term} {a : Addr} {c : Cell} {ty : FieldType} {n : Int32} (ht : t.eval args s none [] s = some (.ref a)) (A : Arr s s.heap a c ty) (h : (Cond.eq (.length t) (.int n)).value args s none s [] = some true) : c.slots.size < 2 ^ 31 ∧ c.slots.size.toInt32 = n := by
  have e0 := own_sint h
  have hfin := A.fin (Vm.Alike.refl _)
  by_cases hl : c.slots.size < 2 ^ 31
  · rw [len_f ht hfin hl] at e0
    exact ⟨hl, Value.int.inj (Option.some.inj e0)⟩
  · exfalso
    simp [Term.eval, ht, hfin, hl] at e0
theorem own_elem {args : Array Value} {s : State} {t u : Term} {a w : Addr} {c : Cell} {i : Int32} (ht : t.eval args s none [] s = some (.ref a)) (hc : s.heap[a]? = some c) (hu : u.eval args s none [] s = some (.ref w)) (h : (Cond.eq (.elem t (.int i)) u).value args s none s [] = some true) : c.slots[i.toNatClampNeg]? = some (.ref w) := by
  obtain ⟨x, y, hx, hy, k1, k2⟩ := cmp_v (Or.inl h)
  obtain rfl : Value.ref w = y := Option.some.inj (hu.symm.trans hy)
  have e := gotT (eq_R hx hu k2.2 rfl) h
  rw [e] at hx
  exact (elem_in hx ht (Term.int_eval i) hc).2
theorem own_ldcF {p : Program} {l : Launch} {e : Env} {R : Room} {s : State} {m : MethodId} {args : Array Value} {below : List Frame} {meth : Method} {c : Code} {T : State} {locs : List Loc} {cells slots : Nat}
    (X : Stand p l e R s m args below meth c T locs cells slots) (hx : p.tables.exec = Jvm.exec) {own : String} {index : Nat} {b : UInt32} (hown : s.vm.findClass own = some m.cls) (w : (Cond.constantFloat own index b).before args s = true) {g : JFrame} (hg : g.method = m) (hd : decode c.code g.pc = .ok (.ldc index, 2)) :
    ∀ target, Steps p.tables e below (T.setTop { g with pc := g.pc + 2, stack := .float b :: g.stack }) target → Steps p.tables e below (T.setTop g) target := by
  obtain ⟨k, cf, h1, h2, h3⟩ := Cond.constantFloat_spec hown w
  exact X.ldcFloat hx h1 h2 h3 hg hd
theorem own_old {Z : State} {n0 : Nat} {h : Heap} (O : Old Z n0 h) : n0 ≤ h.size := O.1 ▸ O.2.1
theorem own_rand (x m : Int32) (n : Int) (h0 : 0 ≤ m.toInt) (h1 : m.toInt < n) : 0 ≤ (x &&& m).toInt ∧ (x &&& m).toInt < n := by
  have := c_and x m h0; omega
theorem own_rrem (x y : Int32) (n : Int) (h0 : 0 ≤ x.toInt) (hy : y.toInt = n) (hn : 0 < n) : 0 ≤ (x % y).toInt ∧ (x % y).toInt < n := by
  rw [(c_irem x y n hy).1 h0]; exact ⟨Int.emod_nonneg _ (by omega), Int.emod_lt_of_pos _ hn⟩
theorem own_rshr (x q : Int32) (k : Nat) (m : Int) {n : Int} (r : 0 ≤ x.toInt ∧ x.toInt < n) (hk : q.toBitVec.toNat % 32 = k) (hm : (n - 1) / ((2 ^ k : Nat) : Int) < m) : 0 ≤ (x >>> (q &&& 31)).toInt ∧ (x >>> (q &&& 31)).toInt < m := by
  rw [c_ishr x q k hk]
  have hp : (0 : Int) < ((2 ^ k : Nat) : Int) := by exact_mod_cast Nat.two_pow_pos k
  exact ⟨Int.ediv_nonneg r.1 (Int.le_of_lt hp), Int.lt_of_le_of_lt (Int.ediv_le_ediv hp (by omega)) hm⟩
theorem own_off {e c : Int32} {n : Int} (r : 0 ≤ e.toInt ∧ e.toInt < n) (h : decide (n ≤ c.toInt ∨ c.toInt < 0) = true) : ¬ e = c := fun z => by
  subst z
  have := of_decide_eq_true h
  omega
theorem own_below {e c : Int32} {n : Int} (r : 0 ≤ e.toInt ∧ e.toInt < n) (h : n ≤ c.toInt) : e < c := by rw [Int32.lt_iff_toInt_lt]; omega
theorem own_notbelow {e c : Int32} {n : Int} (r : 0 ≤ e.toInt ∧ e.toInt < n) (h : c.toInt ≤ 0) : ¬ e < c := by rw [Int32.lt_iff_toInt_lt]; omega
theorem own_notabove {e c : Int32} {n : Int} (r : 0 ≤ e.toInt ∧ e.toInt < n) (h : n - 1 ≤ c.toInt) : ¬ c < e := by rw [Int32.lt_iff_toInt_lt]; omega
theorem own_above {e c : Int32} {n : Int} (r : 0 ≤ e.toInt ∧ e.toInt < n) (h : c.toInt < 0) : c < e := by rw [Int32.lt_iff_toInt_lt]; omega
theorem own_lt {a b : Int32} {n : Int} (h : a < b) (e : b.toInt = n) : a.toInt < n := by rw [← e]; exact Int32.lt_iff_toInt_lt.mp h
theorem own_ne {a b : Int32} {n : Int} (h : ¬ a = b) (e : b.toInt = n) : a.toInt ≠ n := fun z => h (Int32.toInt_inj.mp (z.trans e.symm))
theorem own_eq {a b : Int32} {n : Int} (e : b.toInt = n) (h : a.toInt = n) : a = b := Int32.toInt_inj.mp (h.trans e.symm)
abbrev Y0 : MethodName := (⟨"com/example/bristlecone/bristlecone/model/VerdictJudgePinLaw", "near", "(I)I"⟩ : MethodName)
abbrev Y1 : MethodName := (⟨"com/example/bristlecone/bristlecone/model/VerdictJudgePinLaw", "chooseStatus", "(II)I"⟩ : MethodName)
abbrev Y2 : MethodName := (⟨"com/example/bristlecone/bristlecone/model/Verdict", "judge", "(IZZ)Lcom/example/bristlecone/bristlecone/model/Verdict;"⟩ : MethodName)
abbrev Y3 : MethodName := (⟨"com/example/bristlecone/bristlecone/model/VerdictJudgePinLaw", "expected", "(IZZ)Lcom/example/bristlecone/bristlecone/model/Verdict;"⟩ : MethodName)

def StF (Z : State) (w_1 : Addr) (w_2 : Addr) (w_3 : Addr) (w_4 : Addr) (w_5 : Addr) : Prop :=
  Sta Z Z.heap "com/example/bristlecone/bristlecone/model/Verdict" "LINKS_CHANGED" "Lcom/example/bristlecone/bristlecone/model/Verdict;" (.ref w_1) ∧
  Exa Z Z.heap w_1 "com/example/bristlecone/bristlecone/model/Verdict" ∧
  Sta Z Z.heap "com/example/bristlecone/bristlecone/model/Verdict" "COHERENT" "Lcom/example/bristlecone/bristlecone/model/Verdict;" (.ref w_2) ∧
  Exa Z Z.heap w_2 "com/example/bristlecone/bristlecone/model/Verdict" ∧
  Sta Z Z.heap "com/example/bristlecone/bristlecone/model/Verdict" "UNVERIFIED" "Lcom/example/bristlecone/bristlecone/model/Verdict;" (.ref w_3) ∧
  Exa Z Z.heap w_3 "com/example/bristlecone/bristlecone/model/Verdict" ∧
  Sta Z Z.heap "com/example/bristlecone/bristlecone/model/Verdict" "MISSING" "Lcom/example/bristlecone/bristlecone/model/Verdict;" (.ref w_4) ∧
  Exa Z Z.heap w_4 "com/example/bristlecone/bristlecone/model/Verdict" ∧
  Sta Z Z.heap "com/example/bristlecone/bristlecone/model/Verdict" "CONTENT_CHANGED" "Lcom/example/bristlecone/bristlecone/model/Verdict;" (.ref w_5) ∧
  Exa Z Z.heap w_5 "com/example/bristlecone/bristlecone/model/Verdict"
theorem d4_0 : decode method_4_code 0 = .ok (.iload_n 0, 1) := by decide +kernel
theorem d4_1 : decode method_4_code 1 = .ok (.bipush 7, 2) := by decide +kernel
theorem d4_3 : decode method_4_code 3 = .ok (.iand, 1) := by decide +kernel
theorem d4_4 : decode method_4_code 4 = .ok (.istore_n 1, 1) := by decide +kernel
theorem d4_5 : decode method_4_code 5 = .ok (.iload_n 1, 1) := by decide +kernel
theorem d4_6 : decode method_4_code 6 = .ok (.ifCond .ne 7, 3) := by decide +kernel
theorem d4_9 : decode method_4_code 9 = .ok (.sipush 199, 3) := by decide +kernel
theorem d4_12 : decode method_4_code 12 = .ok (.ireturn, 1) := by decide +kernel
theorem d4_13 : decode method_4_code 13 = .ok (.iload_n 1, 1) := by decide +kernel
theorem d4_14 : decode method_4_code 14 = .ok (.iconst 1, 1) := by decide +kernel
theorem d4_15 : decode method_4_code 15 = .ok (.if_icmp .ne 7, 3) := by decide +kernel
theorem d4_18 : decode method_4_code 18 = .ok (.sipush 201, 3) := by decide +kernel
theorem d4_21 : decode method_4_code 21 = .ok (.ireturn, 1) := by decide +kernel
theorem d4_22 : decode method_4_code 22 = .ok (.iload_n 1, 1) := by decide +kernel
theorem d4_23 : decode method_4_code 23 = .ok (.iconst 2, 1) := by decide +kernel
theorem d4_24 : decode method_4_code 24 = .ok (.if_icmp .ne 7, 3) := by decide +kernel
theorem d4_27 : decode method_4_code 27 = .ok (.sipush 303, 3) := by decide +kernel
theorem d4_30 : decode method_4_code 30 = .ok (.ireturn, 1) := by decide +kernel
theorem d4_31 : decode method_4_code 31 = .ok (.iload_n 1, 1) := by decide +kernel
theorem d4_32 : decode method_4_code 32 = .ok (.iconst 3, 1) := by decide +kernel
theorem d4_33 : decode method_4_code 33 = .ok (.if_icmp .ne 7, 3) := by decide +kernel
theorem d4_36 : decode method_4_code 36 = .ok (.sipush 305, 3) := by decide +kernel
theorem d4_39 : decode method_4_code 39 = .ok (.ireturn, 1) := by decide +kernel
theorem d4_40 : decode method_4_code 40 = .ok (.iload_n 1, 1) := by decide +kernel
theorem d4_41 : decode method_4_code 41 = .ok (.iconst 4, 1) := by decide +kernel
theorem d4_42 : decode method_4_code 42 = .ok (.if_icmp .ne 7, 3) := by decide +kernel
theorem d4_45 : decode method_4_code 45 = .ok (.sipush 403, 3) := by decide +kernel
theorem d4_48 : decode method_4_code 48 = .ok (.ireturn, 1) := by decide +kernel
theorem d4_49 : decode method_4_code 49 = .ok (.iload_n 1, 1) := by decide +kernel
theorem d4_50 : decode method_4_code 50 = .ok (.iconst 5, 1) := by decide +kernel
theorem d4_51 : decode method_4_code 51 = .ok (.if_icmp .ne 7, 3) := by decide +kernel
theorem d4_54 : decode method_4_code 54 = .ok (.sipush 405, 3) := by decide +kernel
theorem d4_57 : decode method_4_code 57 = .ok (.ireturn, 1) := by decide +kernel
theorem d4_58 : decode method_4_code 58 = .ok (.iload_n 1, 1) := by decide +kernel
theorem d4_59 : decode method_4_code 59 = .ok (.bipush 6, 2) := by decide +kernel
theorem d4_61 : decode method_4_code 61 = .ok (.if_icmp .ne 7, 3) := by decide +kernel
theorem d4_64 : decode method_4_code 64 = .ok (.sipush 409, 3) := by decide +kernel
theorem d4_67 : decode method_4_code 67 = .ok (.ireturn, 1) := by decide +kernel
theorem d4_68 : decode method_4_code 68 = .ok (.sipush 411, 3) := by decide +kernel
theorem d4_71 : decode method_4_code 71 = .ok (.ireturn, 1) := by decide +kernel
theorem pn_4 : plainName "com/example/bristlecone/bristlecone/model/VerdictJudgePinLaw" = true := by first | (simp [plainName, overriddenIn]; done) | decide +kernel
theorem ef_4 (m : MethodId) (p0 : Int32) : entryFrame m #[(.int p0)] 2 = mkF m 0 #[.val (.int p0), .unset] [] := by first | (simp [entryFrame, mkF, argsToLocals, Value.category]; done) | rfl
def sp4 (p0 : Int32) : Int32 := (if (p0 &&& (7 : Int32)) = (0 : Int32) then (199 : Int32) else (if (p0 &&& (7 : Int32)) = (1 : Int32) then (201 : Int32) else (if (p0 &&& (7 : Int32)) = (2 : Int32) then (303 : Int32) else (if (p0 &&& (7 : Int32)) = (3 : Int32) then (305 : Int32) else (if (p0 &&& (7 : Int32)) = (4 : Int32) then (403 : Int32) else (if (p0 &&& (7 : Int32)) = (5 : Int32) then (405 : Int32) else (if (p0 &&& (7 : Int32)) = (6 : Int32) then (409 : Int32) else (411 : Int32))))))))
def Q4 (Z : State) (w_1 : Addr) (w_2 : Addr) (w_3 : Addr) (w_4 : Addr) (w_5 : Addr) (p0 : Int32) (h0 : Heap) (n0 : Nat) (v : Option Value) (h : Heap) (L : List Loc) : Prop := v = some (.int (sp4 p0)) ∧ Fr n0 L ∧ h = h0
set_option maxRecDepth 65536 in
set_option maxHeartbeats 40000000 in
theorem rm4 (l : Launch) (Z : State) (a0 : Array Value) (hw : ∀ d ∈ tables_1, d.before a0 Z = true) (ws : List Jvm.Cond) (w_1 : Addr) (w_2 : Addr) (w_3 : Addr) (w_4 : Addr) (w_5 : Addr) (hS : StF Z w_1 w_2 w_3 w_4 w_5) (p0 : Int32) (h0 : Heap) (n0 : Nat) (O0 : Old Z n0 h0) :
    MetFree l Y0 (head1 (Jvm.Cond.code Y0 method_4_code 2 (some .int) :: ws) ({ frames := 0, cells := 0, slots := 0, locals := 0 } : Room)) (fun a U => a = #[(.int p0)] ∧ Z.Warmed39 U.vm ∧ U.heap = h0) (fun _ _ _ _ _ => True) (fun _ U o U' => ∃ v L, o = .returned v ∧ Q4 Z w_1 w_2 w_3 w_4 w_5 p0 h0 n0 v U'.heap L ∧ FrameEnd U o U' L ({ frames := 0, cells := 0, slots := 0, locals := 0 } : Room).cells ({ frames := 0, cells := 0, slots := 0, locals := 0 } : Room).slots) := by
  refine MetFree.of_bodySF (plainFor_of_name pn_4) hisR ?_
  intro p e s m args below meth c s₁ Bd hml0 hP hK
  obtain ⟨rfl, hZ, hh⟩ := hP
  have hx := Bd.exec
  have hby := Bd.bytes
  have hml : c.maxLocals = 2 := hml0
  have hown : s.vm.findClass "com/example/bristlecone/bristlecone/model/VerdictJudgePinLaw" = some m.cls := findClass_of_methodNamed Bd.named
  have hnm := (name_of_methodNamed Bd.named Bd.method).1
  have X0 : Stand p l e ({ frames := 0, cells := 0, slots := 0, locals := 0 } : Room) s m #[(.int p0)] below meth c s₁ [] 0 0 := Stand.of_body Bd
  have e0 : s₁.heap = h0 := by rw [← hh, Bd.state]; rfl
  have N0 := Fr.nil n0
  have hS0 := hS
  obtain ⟨S_1, E_1, S_2, E_2, S_3, E_3, S_4, E_4, S_5, E_5⟩ := hS
  have pre0 : ∀ t, Steps p.tables e below (s₁.setTop (mkF m 0 #[.val (.int p0), .unset] [])) t → Steps p.tables e below (s₁.setTop (entryFrame m #[(.int p0)] 2)) t := fun t k => castTop (ef_4 m p0) k
  have pre23 : ∀ t, Steps p.tables e below (s₁.setTop (mkF m 6 #[.val (.int p0), .val (.int (p0 &&& (7 : Int32)))] [(.int (p0 &&& (7 : Int32)))])) t → Steps p.tables e below (s₁.setTop (entryFrame m #[(.int p0)] 2)) t := fun t kt => by
    refine pre0 t ?_
    show Steps p.tables e below (s₁.setTop (mkF m 0 #[.val (.int p0), .unset] [])) _
    refine XS.iloadN X0.here hx rfl (hb hby d4_0) rfl ?_
    show Steps p.tables e below (s₁.setTop (mkF m 1 #[.val (.int p0), .unset] [(.int p0)])) _
    refine XS.bipush X0.here hx rfl (hb hby d4_1) ?_
    show Steps p.tables e below (s₁.setTop (mkF m 3 #[.val (.int p0), .unset] [(.int (7 : Int32)), (.int p0)])) _
    refine XS.iand X0.here hx rfl (hb hby d4_3) rfl ?_
    show Steps p.tables e below (s₁.setTop (mkF m 4 #[.val (.int p0), .unset] [(.int (p0 &&& (7 : Int32)))])) _
    refine XS.istoreN X0.here hx rfl (hb hby d4_4) rfl (l' := #[.val (.int p0), .val (.int (p0 &&& (7 : Int32)))]) rfl ?_
    show Steps p.tables e below (s₁.setTop (mkF m 5 #[.val (.int p0), .val (.int (p0 &&& (7 : Int32)))] [])) _
    refine XS.iloadN X0.here hx rfl (hb hby d4_5) rfl ?_
    show Steps p.tables e below (s₁.setTop (mkF m 6 #[.val (.int p0), .val (.int (p0 &&& (7 : Int32)))] [(.int (p0 &&& (7 : Int32)))])) _
    exact kt
  by_cases hc24 : (p0 &&& (7 : Int32)) = (0 : Int32)
  · obtain ⟨fs, hr, hrun, hended, hW, hsame⟩ := X0.leave (v := some (.int (199 : Int32))) (fun h => by rw [Bd.returns] at h; cases h)
    refine ⟨_, _, pre23 _ ?_, hrun, hended, _, _, rfl, ?_, ⟨_, rfl⟩, hW, hsame.mono (by decide) (by decide)⟩
    · show Steps p.tables e below (s₁.setTop (mkF m 6 #[.val (.int p0), .val (.int (p0 &&& (7 : Int32)))] [(.int (p0 &&& (7 : Int32)))])) _
      refine XS.ifNo X0.here hx rfl (hb hby d4_6) rfl ((if0 _ _).trans (teq hc24).2) ?_
      show Steps p.tables e below (s₁.setTop (mkF m 9 #[.val (.int p0), .val (.int (p0 &&& (7 : Int32)))] [])) _
      refine XS.sipush X0.here hx rfl (hb hby d4_9) ?_
      show Steps p.tables e below (s₁.setTop (mkF m 12 #[.val (.int p0), .val (.int (p0 &&& (7 : Int32)))] [(.int (199 : Int32))])) _
      exact retI X0 hx Bd.returns (hb hby d4_12) hr
    · show Q4 Z w_1 w_2 w_3 w_4 w_5 p0 h0 n0 _ s₁.heap _
      rw [e0]
      exact ⟨by unfold sp4; rw [if_pos hc24], N0, rfl⟩
  · have pre25 : ∀ t, Steps p.tables e below (s₁.setTop (mkF m 15 #[.val (.int p0), .val (.int (p0 &&& (7 : Int32)))] [(.int (1 : Int32)), (.int (p0 &&& (7 : Int32)))])) t → Steps p.tables e below (s₁.setTop (entryFrame m #[(.int p0)] 2)) t := fun t kt => by
      refine pre23 t ?_
      show Steps p.tables e below (s₁.setTop (mkF m 6 #[.val (.int p0), .val (.int (p0 &&& (7 : Int32)))] [(.int (p0 &&& (7 : Int32)))])) _
      refine XS.ifYes X0.here hx rfl (pc0 := 6) (pc' := 13) rfl (hb hby d4_6) rfl ((if0 _ _).trans (feq hc24).2) (by decide) (by decide) ?_
      show Steps p.tables e below (s₁.setTop (mkF m 13 #[.val (.int p0), .val (.int (p0 &&& (7 : Int32)))] [])) _
      refine XS.iloadN X0.here hx rfl (hb hby d4_13) rfl ?_
      show Steps p.tables e below (s₁.setTop (mkF m 14 #[.val (.int p0), .val (.int (p0 &&& (7 : Int32)))] [(.int (p0 &&& (7 : Int32)))])) _
      refine XS.iconst X0.here hx rfl (hb hby d4_14) ?_
      show Steps p.tables e below (s₁.setTop (mkF m 15 #[.val (.int p0), .val (.int (p0 &&& (7 : Int32)))] [(.int (1 : Int32)), (.int (p0 &&& (7 : Int32)))])) _
      exact kt
    by_cases hc26 : (p0 &&& (7 : Int32)) = (1 : Int32)
    · obtain ⟨fs, hr, hrun, hended, hW, hsame⟩ := X0.leave (v := some (.int (201 : Int32))) (fun h => by rw [Bd.returns] at h; cases h)
      refine ⟨_, _, pre25 _ ?_, hrun, hended, _, _, rfl, ?_, ⟨_, rfl⟩, hW, hsame.mono (by decide) (by decide)⟩
      · show Steps p.tables e below (s₁.setTop (mkF m 15 #[.val (.int p0), .val (.int (p0 &&& (7 : Int32)))] [(.int (1 : Int32)), (.int (p0 &&& (7 : Int32)))])) _
        refine XS.icmpNo X0.here hx rfl (hb hby d4_15) rfl (teq hc26).2 ?_
        show Steps p.tables e below (s₁.setTop (mkF m 18 #[.val (.int p0), .val (.int (p0 &&& (7 : Int32)))] [])) _
        refine XS.sipush X0.here hx rfl (hb hby d4_18) ?_
        show Steps p.tables e below (s₁.setTop (mkF m 21 #[.val (.int p0), .val (.int (p0 &&& (7 : Int32)))] [(.int (201 : Int32))])) _
        exact retI X0 hx Bd.returns (hb hby d4_21) hr
      · show Q4 Z w_1 w_2 w_3 w_4 w_5 p0 h0 n0 _ s₁.heap _
        rw [e0]
        exact ⟨by unfold sp4; rw [if_neg hc24, if_pos hc26], N0, rfl⟩
    · have pre27 : ∀ t, Steps p.tables e below (s₁.setTop (mkF m 24 #[.val (.int p0), .val (.int (p0 &&& (7 : Int32)))] [(.int (2 : Int32)), (.int (p0 &&& (7 : Int32)))])) t → Steps p.tables e below (s₁.setTop (entryFrame m #[(.int p0)] 2)) t := fun t kt => by
        refine pre25 t ?_
        show Steps p.tables e below (s₁.setTop (mkF m 15 #[.val (.int p0), .val (.int (p0 &&& (7 : Int32)))] [(.int (1 : Int32)), (.int (p0 &&& (7 : Int32)))])) _
        refine XS.icmpYes X0.here hx rfl (pc0 := 15) (pc' := 22) rfl (hb hby d4_15) rfl (feq hc26).2 (by decide) (by decide) ?_
        show Steps p.tables e below (s₁.setTop (mkF m 22 #[.val (.int p0), .val (.int (p0 &&& (7 : Int32)))] [])) _
        refine XS.iloadN X0.here hx rfl (hb hby d4_22) rfl ?_
        show Steps p.tables e below (s₁.setTop (mkF m 23 #[.val (.int p0), .val (.int (p0 &&& (7 : Int32)))] [(.int (p0 &&& (7 : Int32)))])) _
        refine XS.iconst X0.here hx rfl (hb hby d4_23) ?_
        show Steps p.tables e below (s₁.setTop (mkF m 24 #[.val (.int p0), .val (.int (p0 &&& (7 : Int32)))] [(.int (2 : Int32)), (.int (p0 &&& (7 : Int32)))])) _
        exact kt
      by_cases hc28 : (p0 &&& (7 : Int32)) = (2 : Int32)
      · obtain ⟨fs, hr, hrun, hended, hW, hsame⟩ := X0.leave (v := some (.int (303 : Int32))) (fun h => by rw [Bd.returns] at h; cases h)
        refine ⟨_, _, pre27 _ ?_, hrun, hended, _, _, rfl, ?_, ⟨_, rfl⟩, hW, hsame.mono (by decide) (by decide)⟩
        · show Steps p.tables e below (s₁.setTop (mkF m 24 #[.val (.int p0), .val (.int (p0 &&& (7 : Int32)))] [(.int (2 : Int32)), (.int (p0 &&& (7 : Int32)))])) _
          refine XS.icmpNo X0.here hx rfl (hb hby d4_24) rfl (teq hc28).2 ?_
          show Steps p.tables e below (s₁.setTop (mkF m 27 #[.val (.int p0), .val (.int (p0 &&& (7 : Int32)))] [])) _
          refine XS.sipush X0.here hx rfl (hb hby d4_27) ?_
          show Steps p.tables e below (s₁.setTop (mkF m 30 #[.val (.int p0), .val (.int (p0 &&& (7 : Int32)))] [(.int (303 : Int32))])) _
          exact retI X0 hx Bd.returns (hb hby d4_30) hr
        · show Q4 Z w_1 w_2 w_3 w_4 w_5 p0 h0 n0 _ s₁.heap _
          rw [e0]
          exact ⟨by unfold sp4; rw [if_neg hc24, if_neg hc26, if_pos hc28], N0, rfl⟩
      · have pre29 : ∀ t, Steps p.tables e below (s₁.setTop (mkF m 33 #[.val (.int p0), .val (.int (p0 &&& (7 : Int32)))] [(.int (3 : Int32)), (.int (p0 &&& (7 : Int32)))])) t → Steps p.tables e below (s₁.setTop (entryFrame m #[(.int p0)] 2)) t := fun t kt => by
          refine pre27 t ?_
          show Steps p.tables e below (s₁.setTop (mkF m 24 #[.val (.int p0), .val (.int (p0 &&& (7 : Int32)))] [(.int (2 : Int32)), (.int (p0 &&& (7 : Int32)))])) _
          refine XS.icmpYes X0.here hx rfl (pc0 := 24) (pc' := 31) rfl (hb hby d4_24) rfl (feq hc28).2 (by decide) (by decide) ?_
          show Steps p.tables e below (s₁.setTop (mkF m 31 #[.val (.int p0), .val (.int (p0 &&& (7 : Int32)))] [])) _
          refine XS.iloadN X0.here hx rfl (hb hby d4_31) rfl ?_
          show Steps p.tables e below (s₁.setTop (mkF m 32 #[.val (.int p0), .val (.int (p0 &&& (7 : Int32)))] [(.int (p0 &&& (7 : Int32)))])) _
          refine XS.iconst X0.here hx rfl (hb hby d4_32) ?_
          show Steps p.tables e below (s₁.setTop (mkF m 33 #[.val (.int p0), .val (.int (p0 &&& (7 : Int32)))] [(.int (3 : Int32)), (.int (p0 &&& (7 : Int32)))])) _
          exact kt
        by_cases hc30 : (p0 &&& (7 : Int32)) = (3 : Int32)
        · obtain ⟨fs, hr, hrun, hended, hW, hsame⟩ := X0.leave (v := some (.int (305 : Int32))) (fun h => by rw [Bd.returns] at h; cases h)
          refine ⟨_, _, pre29 _ ?_, hrun, hended, _, _, rfl, ?_, ⟨_, rfl⟩, hW, hsame.mono (by decide) (by decide)⟩
          · show Steps p.tables e below (s₁.setTop (mkF m 33 #[.val (.int p0), .val (.int (p0 &&& (7 : Int32)))] [(.int (3 : Int32)), (.int (p0 &&& (7 : Int32)))])) _
            refine XS.icmpNo X0.here hx rfl (hb hby d4_33) rfl (teq hc30).2 ?_
            show Steps p.tables e below (s₁.setTop (mkF m 36 #[.val (.int p0), .val (.int (p0 &&& (7 : Int32)))] [])) _
            refine XS.sipush X0.here hx rfl (hb hby d4_36) ?_
            show Steps p.tables e below (s₁.setTop (mkF m 39 #[.val (.int p0), .val (.int (p0 &&& (7 : Int32)))] [(.int (305 : Int32))])) _
            exact retI X0 hx Bd.returns (hb hby d4_39) hr
          · show Q4 Z w_1 w_2 w_3 w_4 w_5 p0 h0 n0 _ s₁.heap _
            rw [e0]
            exact ⟨by unfold sp4; rw [if_neg hc24, if_neg hc26, if_neg hc28, if_pos hc30], N0, rfl⟩
        · have pre31 : ∀ t, Steps p.tables e below (s₁.setTop (mkF m 42 #[.val (.int p0), .val (.int (p0 &&& (7 : Int32)))] [(.int (4 : Int32)), (.int (p0 &&& (7 : Int32)))])) t → Steps p.tables e below (s₁.setTop (entryFrame m #[(.int p0)] 2)) t := fun t kt => by
            refine pre29 t ?_
            show Steps p.tables e below (s₁.setTop (mkF m 33 #[.val (.int p0), .val (.int (p0 &&& (7 : Int32)))] [(.int (3 : Int32)), (.int (p0 &&& (7 : Int32)))])) _
            refine XS.icmpYes X0.here hx rfl (pc0 := 33) (pc' := 40) rfl (hb hby d4_33) rfl (feq hc30).2 (by decide) (by decide) ?_
            show Steps p.tables e below (s₁.setTop (mkF m 40 #[.val (.int p0), .val (.int (p0 &&& (7 : Int32)))] [])) _
            refine XS.iloadN X0.here hx rfl (hb hby d4_40) rfl ?_
            show Steps p.tables e below (s₁.setTop (mkF m 41 #[.val (.int p0), .val (.int (p0 &&& (7 : Int32)))] [(.int (p0 &&& (7 : Int32)))])) _
            refine XS.iconst X0.here hx rfl (hb hby d4_41) ?_
            show Steps p.tables e below (s₁.setTop (mkF m 42 #[.val (.int p0), .val (.int (p0 &&& (7 : Int32)))] [(.int (4 : Int32)), (.int (p0 &&& (7 : Int32)))])) _
            exact kt
          by_cases hc32 : (p0 &&& (7 : Int32)) = (4 : Int32)
          · obtain ⟨fs, hr, hrun, hended, hW, hsame⟩ := X0.leave (v := some (.int (403 : Int32))) (fun h => by rw [Bd.returns] at h; cases h)
            refine ⟨_, _, pre31 _ ?_, hrun, hended, _, _, rfl, ?_, ⟨_, rfl⟩, hW, hsame.mono (by decide) (by decide)⟩
            · show Steps p.tables e below (s₁.setTop (mkF m 42 #[.val (.int p0), .val (.int (p0 &&& (7 : Int32)))] [(.int (4 : Int32)), (.int (p0 &&& (7 : Int32)))])) _
              refine XS.icmpNo X0.here hx rfl (hb hby d4_42) rfl (teq hc32).2 ?_
              show Steps p.tables e below (s₁.setTop (mkF m 45 #[.val (.int p0), .val (.int (p0 &&& (7 : Int32)))] [])) _
              refine XS.sipush X0.here hx rfl (hb hby d4_45) ?_
              show Steps p.tables e below (s₁.setTop (mkF m 48 #[.val (.int p0), .val (.int (p0 &&& (7 : Int32)))] [(.int (403 : Int32))])) _
              exact retI X0 hx Bd.returns (hb hby d4_48) hr
            · show Q4 Z w_1 w_2 w_3 w_4 w_5 p0 h0 n0 _ s₁.heap _
              rw [e0]
              exact ⟨by unfold sp4; rw [if_neg hc24, if_neg hc26, if_neg hc28, if_neg hc30, if_pos hc32], N0, rfl⟩
          · have pre33 : ∀ t, Steps p.tables e below (s₁.setTop (mkF m 51 #[.val (.int p0), .val (.int (p0 &&& (7 : Int32)))] [(.int (5 : Int32)), (.int (p0 &&& (7 : Int32)))])) t → Steps p.tables e below (s₁.setTop (entryFrame m #[(.int p0)] 2)) t := fun t kt => by
              refine pre31 t ?_
              show Steps p.tables e below (s₁.setTop (mkF m 42 #[.val (.int p0), .val (.int (p0 &&& (7 : Int32)))] [(.int (4 : Int32)), (.int (p0 &&& (7 : Int32)))])) _
              refine XS.icmpYes X0.here hx rfl (pc0 := 42) (pc' := 49) rfl (hb hby d4_42) rfl (feq hc32).2 (by decide) (by decide) ?_
              show Steps p.tables e below (s₁.setTop (mkF m 49 #[.val (.int p0), .val (.int (p0 &&& (7 : Int32)))] [])) _
              refine XS.iloadN X0.here hx rfl (hb hby d4_49) rfl ?_
              show Steps p.tables e below (s₁.setTop (mkF m 50 #[.val (.int p0), .val (.int (p0 &&& (7 : Int32)))] [(.int (p0 &&& (7 : Int32)))])) _
              refine XS.iconst X0.here hx rfl (hb hby d4_50) ?_
              show Steps p.tables e below (s₁.setTop (mkF m 51 #[.val (.int p0), .val (.int (p0 &&& (7 : Int32)))] [(.int (5 : Int32)), (.int (p0 &&& (7 : Int32)))])) _
              exact kt
            by_cases hc34 : (p0 &&& (7 : Int32)) = (5 : Int32)
            · obtain ⟨fs, hr, hrun, hended, hW, hsame⟩ := X0.leave (v := some (.int (405 : Int32))) (fun h => by rw [Bd.returns] at h; cases h)
              refine ⟨_, _, pre33 _ ?_, hrun, hended, _, _, rfl, ?_, ⟨_, rfl⟩, hW, hsame.mono (by decide) (by decide)⟩
              · show Steps p.tables e below (s₁.setTop (mkF m 51 #[.val (.int p0), .val (.int (p0 &&& (7 : Int32)))] [(.int (5 : Int32)), (.int (p0 &&& (7 : Int32)))])) _
                refine XS.icmpNo X0.here hx rfl (hb hby d4_51) rfl (teq hc34).2 ?_
                show Steps p.tables e below (s₁.setTop (mkF m 54 #[.val (.int p0), .val (.int (p0 &&& (7 : Int32)))] [])) _
                refine XS.sipush X0.here hx rfl (hb hby d4_54) ?_
                show Steps p.tables e below (s₁.setTop (mkF m 57 #[.val (.int p0), .val (.int (p0 &&& (7 : Int32)))] [(.int (405 : Int32))])) _
                exact retI X0 hx Bd.returns (hb hby d4_57) hr
              · show Q4 Z w_1 w_2 w_3 w_4 w_5 p0 h0 n0 _ s₁.heap _
                rw [e0]
                exact ⟨by unfold sp4; rw [if_neg hc24, if_neg hc26, if_neg hc28, if_neg hc30, if_neg hc32, if_pos hc34], N0, rfl⟩
            · have pre35 : ∀ t, Steps p.tables e below (s₁.setTop (mkF m 61 #[.val (.int p0), .val (.int (p0 &&& (7 : Int32)))] [(.int (6 : Int32)), (.int (p0 &&& (7 : Int32)))])) t → Steps p.tables e below (s₁.setTop (entryFrame m #[(.int p0)] 2)) t := fun t kt => by
                refine pre33 t ?_
                show Steps p.tables e below (s₁.setTop (mkF m 51 #[.val (.int p0), .val (.int (p0 &&& (7 : Int32)))] [(.int (5 : Int32)), (.int (p0 &&& (7 : Int32)))])) _
                refine XS.icmpYes X0.here hx rfl (pc0 := 51) (pc' := 58) rfl (hb hby d4_51) rfl (feq hc34).2 (by decide) (by decide) ?_
                show Steps p.tables e below (s₁.setTop (mkF m 58 #[.val (.int p0), .val (.int (p0 &&& (7 : Int32)))] [])) _
                refine XS.iloadN X0.here hx rfl (hb hby d4_58) rfl ?_
                show Steps p.tables e below (s₁.setTop (mkF m 59 #[.val (.int p0), .val (.int (p0 &&& (7 : Int32)))] [(.int (p0 &&& (7 : Int32)))])) _
                refine XS.bipush X0.here hx rfl (hb hby d4_59) ?_
                show Steps p.tables e below (s₁.setTop (mkF m 61 #[.val (.int p0), .val (.int (p0 &&& (7 : Int32)))] [(.int (6 : Int32)), (.int (p0 &&& (7 : Int32)))])) _
                exact kt
              by_cases hc36 : (p0 &&& (7 : Int32)) = (6 : Int32)
              · obtain ⟨fs, hr, hrun, hended, hW, hsame⟩ := X0.leave (v := some (.int (409 : Int32))) (fun h => by rw [Bd.returns] at h; cases h)
                refine ⟨_, _, pre35 _ ?_, hrun, hended, _, _, rfl, ?_, ⟨_, rfl⟩, hW, hsame.mono (by decide) (by decide)⟩
                · show Steps p.tables e below (s₁.setTop (mkF m 61 #[.val (.int p0), .val (.int (p0 &&& (7 : Int32)))] [(.int (6 : Int32)), (.int (p0 &&& (7 : Int32)))])) _
                  refine XS.icmpNo X0.here hx rfl (hb hby d4_61) rfl (teq hc36).2 ?_
                  show Steps p.tables e below (s₁.setTop (mkF m 64 #[.val (.int p0), .val (.int (p0 &&& (7 : Int32)))] [])) _
                  refine XS.sipush X0.here hx rfl (hb hby d4_64) ?_
                  show Steps p.tables e below (s₁.setTop (mkF m 67 #[.val (.int p0), .val (.int (p0 &&& (7 : Int32)))] [(.int (409 : Int32))])) _
                  exact retI X0 hx Bd.returns (hb hby d4_67) hr
                · show Q4 Z w_1 w_2 w_3 w_4 w_5 p0 h0 n0 _ s₁.heap _
                  rw [e0]
                  exact ⟨by unfold sp4; rw [if_neg hc24, if_neg hc26, if_neg hc28, if_neg hc30, if_neg hc32, if_neg hc34, if_pos hc36], N0, rfl⟩
              · obtain ⟨fs, hr, hrun, hended, hW, hsame⟩ := X0.leave (v := some (.int (411 : Int32))) (fun h => by rw [Bd.returns] at h; cases h)
                refine ⟨_, _, pre35 _ ?_, hrun, hended, _, _, rfl, ?_, ⟨_, rfl⟩, hW, hsame.mono (by decide) (by decide)⟩
                · show Steps p.tables e below (s₁.setTop (mkF m 61 #[.val (.int p0), .val (.int (p0 &&& (7 : Int32)))] [(.int (6 : Int32)), (.int (p0 &&& (7 : Int32)))])) _
                  refine XS.icmpYes X0.here hx rfl (pc0 := 61) (pc' := 68) rfl (hb hby d4_61) rfl (feq hc36).2 (by decide) (by decide) ?_
                  show Steps p.tables e below (s₁.setTop (mkF m 68 #[.val (.int p0), .val (.int (p0 &&& (7 : Int32)))] [])) _
                  refine XS.sipush X0.here hx rfl (hb hby d4_68) ?_
                  show Steps p.tables e below (s₁.setTop (mkF m 71 #[.val (.int p0), .val (.int (p0 &&& (7 : Int32)))] [(.int (411 : Int32))])) _
                  exact retI X0 hx Bd.returns (hb hby d4_71) hr
                · show Q4 Z w_1 w_2 w_3 w_4 w_5 p0 h0 n0 _ s₁.heap _
                  rw [e0]
                  exact ⟨by unfold sp4; rw [if_neg hc24, if_neg hc26, if_neg hc28, if_neg hc30, if_neg hc32, if_neg hc34, if_neg hc36], N0, rfl⟩
theorem d1_0 : decode method_3_code 0 = .ok (.iload_n 0, 1) := by decide +kernel
theorem d1_1 : decode method_3_code 1 = .ok (.bipush 7, 2) := by decide +kernel
theorem d1_3 : decode method_3_code 3 = .ok (.iand, 1) := by decide +kernel
theorem d1_4 : decode method_3_code 4 = .ok (.istore_n 2, 1) := by decide +kernel
theorem d1_5 : decode method_3_code 5 = .ok (.iload_n 2, 1) := by decide +kernel
theorem d1_6 : decode method_3_code 6 = .ok (.ifCond .ne 7, 3) := by decide +kernel
theorem d1_9 : decode method_3_code 9 = .ok (.sipush 200, 3) := by decide +kernel
theorem d1_12 : decode method_3_code 12 = .ok (.ireturn, 1) := by decide +kernel
theorem d1_13 : decode method_3_code 13 = .ok (.iload_n 2, 1) := by decide +kernel
theorem d1_14 : decode method_3_code 14 = .ok (.iconst 1, 1) := by decide +kernel
theorem d1_15 : decode method_3_code 15 = .ok (.if_icmp .ne 7, 3) := by decide +kernel
theorem d1_18 : decode method_3_code 18 = .ok (.sipush 304, 3) := by decide +kernel
theorem d1_21 : decode method_3_code 21 = .ok (.ireturn, 1) := by decide +kernel
theorem d1_22 : decode method_3_code 22 = .ok (.iload_n 2, 1) := by decide +kernel
theorem d1_23 : decode method_3_code 23 = .ok (.iconst 2, 1) := by decide +kernel
theorem d1_24 : decode method_3_code 24 = .ok (.if_icmp .ne 7, 3) := by decide +kernel
theorem d1_27 : decode method_3_code 27 = .ok (.sipush 404, 3) := by decide +kernel
theorem d1_30 : decode method_3_code 30 = .ok (.ireturn, 1) := by decide +kernel
theorem d1_31 : decode method_3_code 31 = .ok (.iload_n 2, 1) := by decide +kernel
theorem d1_32 : decode method_3_code 32 = .ok (.iconst 3, 1) := by decide +kernel
theorem d1_33 : decode method_3_code 33 = .ok (.if_icmp .ne 7, 3) := by decide +kernel
theorem d1_36 : decode method_3_code 36 = .ok (.sipush 410, 3) := by decide +kernel
theorem d1_39 : decode method_3_code 39 = .ok (.ireturn, 1) := by decide +kernel
theorem d1_40 : decode method_3_code 40 = .ok (.iload_n 2, 1) := by decide +kernel
theorem d1_41 : decode method_3_code 41 = .ok (.iconst 4, 1) := by decide +kernel
theorem d1_42 : decode method_3_code 42 = .ok (.if_icmp .ne 8, 3) := by decide +kernel
theorem d1_45 : decode method_3_code 45 = .ok (.iload_n 1, 1) := by decide +kernel
theorem d1_46 : decode method_3_code 46 = .ok (.invokestatic 22, 3) := by decide +kernel
theorem pd_0 : parseMethodDescriptor "(I)I" = some ⟨[.int], some .int⟩ := by decide +kernel
theorem d1_49 : decode method_3_code 49 = .ok (.ireturn, 1) := by decide +kernel
theorem d1_50 : decode method_3_code 50 = .ok (.iload_n 1, 1) := by decide +kernel
theorem d1_51 : decode method_3_code 51 = .ok (.ireturn, 1) := by decide +kernel
theorem pn_1 : plainName "com/example/bristlecone/bristlecone/model/VerdictJudgePinLaw" = true := by first | (simp [plainName, overriddenIn]; done) | decide +kernel
theorem ef_1 (m : MethodId) (p0 : Int32) (p1 : Int32) : entryFrame m #[(.int p0), (.int p1)] 3 = mkF m 0 #[.val (.int p0), .val (.int p1), .unset] [] := by first | (simp [entryFrame, mkF, argsToLocals, Value.category]; done) | rfl
def sp1 (p0 : Int32) (p1 : Int32) : Int32 := (if (p0 &&& (7 : Int32)) = (0 : Int32) then (200 : Int32) else (if (p0 &&& (7 : Int32)) = (1 : Int32) then (304 : Int32) else (if (p0 &&& (7 : Int32)) = (2 : Int32) then (404 : Int32) else (if (p0 &&& (7 : Int32)) = (3 : Int32) then (410 : Int32) else (if (p0 &&& (7 : Int32)) = (4 : Int32) then (sp4 p1) else p1)))))
def Q1 (Z : State) (w_1 : Addr) (w_2 : Addr) (w_3 : Addr) (w_4 : Addr) (w_5 : Addr) (p0 : Int32) (p1 : Int32) (h0 : Heap) (n0 : Nat) (v : Option Value) (h : Heap) (L : List Loc) : Prop := v = some (.int (sp1 p0 p1)) ∧ Fr n0 L ∧ h = h0
set_option maxRecDepth 65536 in
set_option maxHeartbeats 40000000 in
theorem rm1 (l : Launch) (Z : State) (a0 : Array Value) (hw : ∀ d ∈ tables_1, d.before a0 Z = true) (ws : List Jvm.Cond) (w_1 : Addr) (w_2 : Addr) (w_3 : Addr) (w_4 : Addr) (w_5 : Addr) (hS : StF Z w_1 w_2 w_3 w_4 w_5) (p0 : Int32) (p1 : Int32) (h0 : Heap) (n0 : Nat) (O0 : Old Z n0 h0) :
    MetFree l Y1 (head1 (Jvm.Cond.code Y1 method_3_code 3 (some .int) :: ws) ({ frames := 1, cells := 0, slots := 0, locals := 13 } : Room)) (fun a U => a = #[(.int p0), (.int p1)] ∧ Z.Warmed39 U.vm ∧ U.heap = h0) (fun _ _ _ _ _ => True) (fun _ U o U' => ∃ v L, o = .returned v ∧ Q1 Z w_1 w_2 w_3 w_4 w_5 p0 p1 h0 n0 v U'.heap L ∧ FrameEnd U o U' L ({ frames := 1, cells := 0, slots := 0, locals := 13 } : Room).cells ({ frames := 1, cells := 0, slots := 0, locals := 13 } : Room).slots) := by
  refine MetFree.of_bodySF (plainFor_of_name pn_1) hisR ?_
  intro p e s m args below meth c s₁ Bd hml0 hP hK
  obtain ⟨rfl, hZ, hh⟩ := hP
  have hx := Bd.exec
  have hby := Bd.bytes
  have hml : c.maxLocals = 3 := hml0
  have hown : s.vm.findClass "com/example/bristlecone/bristlecone/model/VerdictJudgePinLaw" = some m.cls := findClass_of_methodNamed Bd.named
  have hnm := (name_of_methodNamed Bd.named Bd.method).1
  have X0 : Stand p l e ({ frames := 1, cells := 0, slots := 0, locals := 13 } : Room) s m #[(.int p0), (.int p1)] below meth c s₁ [] 0 0 := Stand.of_body Bd
  have e0 : s₁.heap = h0 := by rw [← hh, Bd.state]; rfl
  have N0 := Fr.nil n0
  have hS0 := hS
  obtain ⟨S_1, E_1, S_2, E_2, S_3, E_3, S_4, E_4, S_5, E_5⟩ := hS
  have pre0 : ∀ t, Steps p.tables e below (s₁.setTop (mkF m 0 #[.val (.int p0), .val (.int p1), .unset] [])) t → Steps p.tables e below (s₁.setTop (entryFrame m #[(.int p0), (.int p1)] 3)) t := fun t k => castTop (ef_1 m p0 p1) k
  have pre13 : ∀ t, Steps p.tables e below (s₁.setTop (mkF m 6 #[.val (.int p0), .val (.int p1), .val (.int (p0 &&& (7 : Int32)))] [(.int (p0 &&& (7 : Int32)))])) t → Steps p.tables e below (s₁.setTop (entryFrame m #[(.int p0), (.int p1)] 3)) t := fun t kt => by
    refine pre0 t ?_
    show Steps p.tables e below (s₁.setTop (mkF m 0 #[.val (.int p0), .val (.int p1), .unset] [])) _
    refine XS.iloadN X0.here hx rfl (hb hby d1_0) rfl ?_
    show Steps p.tables e below (s₁.setTop (mkF m 1 #[.val (.int p0), .val (.int p1), .unset] [(.int p0)])) _
    refine XS.bipush X0.here hx rfl (hb hby d1_1) ?_
    show Steps p.tables e below (s₁.setTop (mkF m 3 #[.val (.int p0), .val (.int p1), .unset] [(.int (7 : Int32)), (.int p0)])) _
    refine XS.iand X0.here hx rfl (hb hby d1_3) rfl ?_
    show Steps p.tables e below (s₁.setTop (mkF m 4 #[.val (.int p0), .val (.int p1), .unset] [(.int (p0 &&& (7 : Int32)))])) _
    refine XS.istoreN X0.here hx rfl (hb hby d1_4) rfl (l' := #[.val (.int p0), .val (.int p1), .val (.int (p0 &&& (7 : Int32)))]) rfl ?_
    show Steps p.tables e below (s₁.setTop (mkF m 5 #[.val (.int p0), .val (.int p1), .val (.int (p0 &&& (7 : Int32)))] [])) _
    refine XS.iloadN X0.here hx rfl (hb hby d1_5) rfl ?_
    show Steps p.tables e below (s₁.setTop (mkF m 6 #[.val (.int p0), .val (.int p1), .val (.int (p0 &&& (7 : Int32)))] [(.int (p0 &&& (7 : Int32)))])) _
    exact kt
  by_cases hc14 : (p0 &&& (7 : Int32)) = (0 : Int32)
  · obtain ⟨fs, hr, hrun, hended, hW, hsame⟩ := X0.leave (v := some (.int (200 : Int32))) (fun h => by rw [Bd.returns] at h; cases h)
    refine ⟨_, _, pre13 _ ?_, hrun, hended, _, _, rfl, ?_, ⟨_, rfl⟩, hW, hsame.mono (by decide) (by decide)⟩
    · show Steps p.tables e below (s₁.setTop (mkF m 6 #[.val (.int p0), .val (.int p1), .val (.int (p0 &&& (7 : Int32)))] [(.int (p0 &&& (7 : Int32)))])) _
      refine XS.ifNo X0.here hx rfl (hb hby d1_6) rfl ((if0 _ _).trans (teq hc14).2) ?_
      show Steps p.tables e below (s₁.setTop (mkF m 9 #[.val (.int p0), .val (.int p1), .val (.int (p0 &&& (7 : Int32)))] [])) _
      refine XS.sipush X0.here hx rfl (hb hby d1_9) ?_
      show Steps p.tables e below (s₁.setTop (mkF m 12 #[.val (.int p0), .val (.int p1), .val (.int (p0 &&& (7 : Int32)))] [(.int (200 : Int32))])) _
      exact retI X0 hx Bd.returns (hb hby d1_12) hr
    · show Q1 Z w_1 w_2 w_3 w_4 w_5 p0 p1 h0 n0 _ s₁.heap _
      rw [e0]
      exact ⟨by unfold sp1; rw [if_pos hc14], N0, rfl⟩
  · have pre15 : ∀ t, Steps p.tables e below (s₁.setTop (mkF m 15 #[.val (.int p0), .val (.int p1), .val (.int (p0 &&& (7 : Int32)))] [(.int (1 : Int32)), (.int (p0 &&& (7 : Int32)))])) t → Steps p.tables e below (s₁.setTop (entryFrame m #[(.int p0), (.int p1)] 3)) t := fun t kt => by
      refine pre13 t ?_
      show Steps p.tables e below (s₁.setTop (mkF m 6 #[.val (.int p0), .val (.int p1), .val (.int (p0 &&& (7 : Int32)))] [(.int (p0 &&& (7 : Int32)))])) _
      refine XS.ifYes X0.here hx rfl (pc0 := 6) (pc' := 13) rfl (hb hby d1_6) rfl ((if0 _ _).trans (feq hc14).2) (by decide) (by decide) ?_
      show Steps p.tables e below (s₁.setTop (mkF m 13 #[.val (.int p0), .val (.int p1), .val (.int (p0 &&& (7 : Int32)))] [])) _
      refine XS.iloadN X0.here hx rfl (hb hby d1_13) rfl ?_
      show Steps p.tables e below (s₁.setTop (mkF m 14 #[.val (.int p0), .val (.int p1), .val (.int (p0 &&& (7 : Int32)))] [(.int (p0 &&& (7 : Int32)))])) _
      refine XS.iconst X0.here hx rfl (hb hby d1_14) ?_
      show Steps p.tables e below (s₁.setTop (mkF m 15 #[.val (.int p0), .val (.int p1), .val (.int (p0 &&& (7 : Int32)))] [(.int (1 : Int32)), (.int (p0 &&& (7 : Int32)))])) _
      exact kt
    by_cases hc16 : (p0 &&& (7 : Int32)) = (1 : Int32)
    · obtain ⟨fs, hr, hrun, hended, hW, hsame⟩ := X0.leave (v := some (.int (304 : Int32))) (fun h => by rw [Bd.returns] at h; cases h)
      refine ⟨_, _, pre15 _ ?_, hrun, hended, _, _, rfl, ?_, ⟨_, rfl⟩, hW, hsame.mono (by decide) (by decide)⟩
      · show Steps p.tables e below (s₁.setTop (mkF m 15 #[.val (.int p0), .val (.int p1), .val (.int (p0 &&& (7 : Int32)))] [(.int (1 : Int32)), (.int (p0 &&& (7 : Int32)))])) _
        refine XS.icmpNo X0.here hx rfl (hb hby d1_15) rfl (teq hc16).2 ?_
        show Steps p.tables e below (s₁.setTop (mkF m 18 #[.val (.int p0), .val (.int p1), .val (.int (p0 &&& (7 : Int32)))] [])) _
        refine XS.sipush X0.here hx rfl (hb hby d1_18) ?_
        show Steps p.tables e below (s₁.setTop (mkF m 21 #[.val (.int p0), .val (.int p1), .val (.int (p0 &&& (7 : Int32)))] [(.int (304 : Int32))])) _
        exact retI X0 hx Bd.returns (hb hby d1_21) hr
      · show Q1 Z w_1 w_2 w_3 w_4 w_5 p0 p1 h0 n0 _ s₁.heap _
        rw [e0]
        exact ⟨by unfold sp1; rw [if_neg hc14, if_pos hc16], N0, rfl⟩
    · have pre17 : ∀ t, Steps p.tables e below (s₁.setTop (mkF m 24 #[.val (.int p0), .val (.int p1), .val (.int (p0 &&& (7 : Int32)))] [(.int (2 : Int32)), (.int (p0 &&& (7 : Int32)))])) t → Steps p.tables e below (s₁.setTop (entryFrame m #[(.int p0), (.int p1)] 3)) t := fun t kt => by
        refine pre15 t ?_
        show Steps p.tables e below (s₁.setTop (mkF m 15 #[.val (.int p0), .val (.int p1), .val (.int (p0 &&& (7 : Int32)))] [(.int (1 : Int32)), (.int (p0 &&& (7 : Int32)))])) _
        refine XS.icmpYes X0.here hx rfl (pc0 := 15) (pc' := 22) rfl (hb hby d1_15) rfl (feq hc16).2 (by decide) (by decide) ?_
        show Steps p.tables e below (s₁.setTop (mkF m 22 #[.val (.int p0), .val (.int p1), .val (.int (p0 &&& (7 : Int32)))] [])) _
        refine XS.iloadN X0.here hx rfl (hb hby d1_22) rfl ?_
        show Steps p.tables e below (s₁.setTop (mkF m 23 #[.val (.int p0), .val (.int p1), .val (.int (p0 &&& (7 : Int32)))] [(.int (p0 &&& (7 : Int32)))])) _
        refine XS.iconst X0.here hx rfl (hb hby d1_23) ?_
        show Steps p.tables e below (s₁.setTop (mkF m 24 #[.val (.int p0), .val (.int p1), .val (.int (p0 &&& (7 : Int32)))] [(.int (2 : Int32)), (.int (p0 &&& (7 : Int32)))])) _
        exact kt
      by_cases hc18 : (p0 &&& (7 : Int32)) = (2 : Int32)
      · obtain ⟨fs, hr, hrun, hended, hW, hsame⟩ := X0.leave (v := some (.int (404 : Int32))) (fun h => by rw [Bd.returns] at h; cases h)
        refine ⟨_, _, pre17 _ ?_, hrun, hended, _, _, rfl, ?_, ⟨_, rfl⟩, hW, hsame.mono (by decide) (by decide)⟩
        · show Steps p.tables e below (s₁.setTop (mkF m 24 #[.val (.int p0), .val (.int p1), .val (.int (p0 &&& (7 : Int32)))] [(.int (2 : Int32)), (.int (p0 &&& (7 : Int32)))])) _
          refine XS.icmpNo X0.here hx rfl (hb hby d1_24) rfl (teq hc18).2 ?_
          show Steps p.tables e below (s₁.setTop (mkF m 27 #[.val (.int p0), .val (.int p1), .val (.int (p0 &&& (7 : Int32)))] [])) _
          refine XS.sipush X0.here hx rfl (hb hby d1_27) ?_
          show Steps p.tables e below (s₁.setTop (mkF m 30 #[.val (.int p0), .val (.int p1), .val (.int (p0 &&& (7 : Int32)))] [(.int (404 : Int32))])) _
          exact retI X0 hx Bd.returns (hb hby d1_30) hr
        · show Q1 Z w_1 w_2 w_3 w_4 w_5 p0 p1 h0 n0 _ s₁.heap _
          rw [e0]
          exact ⟨by unfold sp1; rw [if_neg hc14, if_neg hc16, if_pos hc18], N0, rfl⟩
      · have pre19 : ∀ t, Steps p.tables e below (s₁.setTop (mkF m 33 #[.val (.int p0), .val (.int p1), .val (.int (p0 &&& (7 : Int32)))] [(.int (3 : Int32)), (.int (p0 &&& (7 : Int32)))])) t → Steps p.tables e below (s₁.setTop (entryFrame m #[(.int p0), (.int p1)] 3)) t := fun t kt => by
          refine pre17 t ?_
          show Steps p.tables e below (s₁.setTop (mkF m 24 #[.val (.int p0), .val (.int p1), .val (.int (p0 &&& (7 : Int32)))] [(.int (2 : Int32)), (.int (p0 &&& (7 : Int32)))])) _
          refine XS.icmpYes X0.here hx rfl (pc0 := 24) (pc' := 31) rfl (hb hby d1_24) rfl (feq hc18).2 (by decide) (by decide) ?_
          show Steps p.tables e below (s₁.setTop (mkF m 31 #[.val (.int p0), .val (.int p1), .val (.int (p0 &&& (7 : Int32)))] [])) _
          refine XS.iloadN X0.here hx rfl (hb hby d1_31) rfl ?_
          show Steps p.tables e below (s₁.setTop (mkF m 32 #[.val (.int p0), .val (.int p1), .val (.int (p0 &&& (7 : Int32)))] [(.int (p0 &&& (7 : Int32)))])) _
          refine XS.iconst X0.here hx rfl (hb hby d1_32) ?_
          show Steps p.tables e below (s₁.setTop (mkF m 33 #[.val (.int p0), .val (.int p1), .val (.int (p0 &&& (7 : Int32)))] [(.int (3 : Int32)), (.int (p0 &&& (7 : Int32)))])) _
          exact kt
        by_cases hc20 : (p0 &&& (7 : Int32)) = (3 : Int32)
        · obtain ⟨fs, hr, hrun, hended, hW, hsame⟩ := X0.leave (v := some (.int (410 : Int32))) (fun h => by rw [Bd.returns] at h; cases h)
          refine ⟨_, _, pre19 _ ?_, hrun, hended, _, _, rfl, ?_, ⟨_, rfl⟩, hW, hsame.mono (by decide) (by decide)⟩
          · show Steps p.tables e below (s₁.setTop (mkF m 33 #[.val (.int p0), .val (.int p1), .val (.int (p0 &&& (7 : Int32)))] [(.int (3 : Int32)), (.int (p0 &&& (7 : Int32)))])) _
            refine XS.icmpNo X0.here hx rfl (hb hby d1_33) rfl (teq hc20).2 ?_
            show Steps p.tables e below (s₁.setTop (mkF m 36 #[.val (.int p0), .val (.int p1), .val (.int (p0 &&& (7 : Int32)))] [])) _
            refine XS.sipush X0.here hx rfl (hb hby d1_36) ?_
            show Steps p.tables e below (s₁.setTop (mkF m 39 #[.val (.int p0), .val (.int p1), .val (.int (p0 &&& (7 : Int32)))] [(.int (410 : Int32))])) _
            exact retI X0 hx Bd.returns (hb hby d1_39) hr
          · show Q1 Z w_1 w_2 w_3 w_4 w_5 p0 p1 h0 n0 _ s₁.heap _
            rw [e0]
            exact ⟨by unfold sp1; rw [if_neg hc14, if_neg hc16, if_neg hc18, if_pos hc20], N0, rfl⟩
        · have pre21 : ∀ t, Steps p.tables e below (s₁.setTop (mkF m 42 #[.val (.int p0), .val (.int p1), .val (.int (p0 &&& (7 : Int32)))] [(.int (4 : Int32)), (.int (p0 &&& (7 : Int32)))])) t → Steps p.tables e below (s₁.setTop (entryFrame m #[(.int p0), (.int p1)] 3)) t := fun t kt => by
            refine pre19 t ?_
            show Steps p.tables e below (s₁.setTop (mkF m 33 #[.val (.int p0), .val (.int p1), .val (.int (p0 &&& (7 : Int32)))] [(.int (3 : Int32)), (.int (p0 &&& (7 : Int32)))])) _
            refine XS.icmpYes X0.here hx rfl (pc0 := 33) (pc' := 40) rfl (hb hby d1_33) rfl (feq hc20).2 (by decide) (by decide) ?_
            show Steps p.tables e below (s₁.setTop (mkF m 40 #[.val (.int p0), .val (.int p1), .val (.int (p0 &&& (7 : Int32)))] [])) _
            refine XS.iloadN X0.here hx rfl (hb hby d1_40) rfl ?_
            show Steps p.tables e below (s₁.setTop (mkF m 41 #[.val (.int p0), .val (.int p1), .val (.int (p0 &&& (7 : Int32)))] [(.int (p0 &&& (7 : Int32)))])) _
            refine XS.iconst X0.here hx rfl (hb hby d1_41) ?_
            show Steps p.tables e below (s₁.setTop (mkF m 42 #[.val (.int p0), .val (.int p1), .val (.int (p0 &&& (7 : Int32)))] [(.int (4 : Int32)), (.int (p0 &&& (7 : Int32)))])) _
            exact kt
          by_cases hc22 : (p0 &&& (7 : Int32)) = (4 : Int32)
          · obtain ⟨_, _, ⟨T37, L37, k37, n37⟩, -, X37, ⟨Lc37, hQ37, l37, y37, z37⟩, st37⟩ := Jvm.LawKit.callS X0 hx (y := Y0) hown (mvT hZ (hw _ (tk 17 rfl))) (mvT hZ (hw _ (tk 18 rfl))) (mvT hZ (hw _ (tk 2 rfl))) (mvT hZ (hw _ (tk 19 rfl))) (by decide) (backOf (W := 0) (rm4 l Z a0 hw [] w_1 w_2 w_3 w_4 w_5 hS0 p1 h0 n0 O0) hZ (hw _ (tk 19 rfl)) (hw _ (tk 2 rfl)) (by decide) (by decide)) (g := (mkF m 46 #[.val (.int p0), .val (.int p1), .val (.int (p0 &&& (7 : Int32)))] [(.int p1)])) rfl (by rw [hml]; rfl) (argsL := [(.int p1)]) (rest := []) (lenOf pd_0 rfl) rfl (by show 2 * 0 + _ ≤ _; exact Nat.le_of_eq rfl) (hb hby d1_46) (fun _ _ => ⟨rfl, e0, (by decide : 0 + 0 ≤ _), (by decide : 0 + 0 ≤ _)⟩)
            dsimp only [Pt.U, Pt.locs, Pt.cells, Pt.slots] at X37 l37 y37 z37 st37 hQ37
            subst l37 y37 z37
            obtain ⟨rv37, N37q, e37⟩ := hQ37
            subst rv37
            have N37 := Fr.app N0 N37q
            obtain ⟨fs, hr, hrun, hended, hW, hsame⟩ := X37.leave (v := some (.int (sp4 p1))) (fun h => by rw [Bd.returns] at h; cases h)
            refine ⟨_, _, pre21 _ ?_, hrun, hended, _, _, rfl, ?_, ⟨_, rfl⟩, hW, hsame.mono (by decide) (by decide)⟩
            · show Steps p.tables e below (s₁.setTop (mkF m 42 #[.val (.int p0), .val (.int p1), .val (.int (p0 &&& (7 : Int32)))] [(.int (4 : Int32)), (.int (p0 &&& (7 : Int32)))])) _
              refine XS.icmpNo X0.here hx rfl (hb hby d1_42) rfl (teq hc22).2 ?_
              show Steps p.tables e below (s₁.setTop (mkF m 45 #[.val (.int p0), .val (.int p1), .val (.int (p0 &&& (7 : Int32)))] [])) _
              refine XS.iloadN X0.here hx rfl (hb hby d1_45) rfl ?_
              show Steps p.tables e below (s₁.setTop (mkF m 46 #[.val (.int p0), .val (.int p1), .val (.int (p0 &&& (7 : Int32)))] [(.int p1)])) _
              refine st37 _ ?_
              show Steps p.tables e below (T37.setTop (mkF m 49 #[.val (.int p0), .val (.int p1), .val (.int (p0 &&& (7 : Int32)))] [(.int (sp4 p1))])) _
              exact retI X37 hx Bd.returns (hb hby d1_49) hr
            · show Q1 Z w_1 w_2 w_3 w_4 w_5 p0 p1 h0 n0 _ T37.heap _
              rw [e37]
              exact ⟨by unfold sp1; rw [if_neg hc14, if_neg hc16, if_neg hc18, if_neg hc20, if_pos hc22], N37, rfl⟩
          · obtain ⟨fs, hr, hrun, hended, hW, hsame⟩ := X0.leave (v := some (.int p1)) (fun h => by rw [Bd.returns] at h; cases h)
            refine ⟨_, _, pre21 _ ?_, hrun, hended, _, _, rfl, ?_, ⟨_, rfl⟩, hW, hsame.mono (by decide) (by decide)⟩
            · show Steps p.tables e below (s₁.setTop (mkF m 42 #[.val (.int p0), .val (.int p1), .val (.int (p0 &&& (7 : Int32)))] [(.int (4 : Int32)), (.int (p0 &&& (7 : Int32)))])) _
              refine XS.icmpYes X0.here hx rfl (pc0 := 42) (pc' := 50) rfl (hb hby d1_42) rfl (feq hc22).2 (by decide) (by decide) ?_
              show Steps p.tables e below (s₁.setTop (mkF m 50 #[.val (.int p0), .val (.int p1), .val (.int (p0 &&& (7 : Int32)))] [])) _
              refine XS.iloadN X0.here hx rfl (hb hby d1_50) rfl ?_
              show Steps p.tables e below (s₁.setTop (mkF m 51 #[.val (.int p0), .val (.int p1), .val (.int (p0 &&& (7 : Int32)))] [(.int p1)])) _
              exact retI X0 hx Bd.returns (hb hby d1_51) hr
            · show Q1 Z w_1 w_2 w_3 w_4 w_5 p0 p1 h0 n0 _ s₁.heap _
              rw [e0]
              exact ⟨by unfold sp1; rw [if_neg hc14, if_neg hc16, if_neg hc18, if_neg hc20, if_neg hc22], N0, rfl⟩
theorem d2_0 : decode prog_24_method_6_code 0 = .ok (.iload_n 0, 1) := by decide +kernel
theorem d2_1 : decode prog_24_method_6_code 1 = .ok (.sipush 404, 3) := by decide +kernel
theorem d2_4 : decode prog_24_method_6_code 4 = .ok (.if_icmp .eq 10, 3) := by decide +kernel
theorem d2_14 : decode prog_24_method_6_code 14 = .ok (.getstatic 13, 3) := by decide +kernel
theorem d2_17 : decode prog_24_method_6_code 17 = .ok (.areturn, 1) := by decide +kernel
theorem d2_7 : decode prog_24_method_6_code 7 = .ok (.iload_n 0, 1) := by decide +kernel
theorem d2_8 : decode prog_24_method_6_code 8 = .ok (.sipush 410, 3) := by decide +kernel
theorem d2_11 : decode prog_24_method_6_code 11 = .ok (.if_icmp .ne 7, 3) := by decide +kernel
theorem d2_18 : decode prog_24_method_6_code 18 = .ok (.iload_n 0, 1) := by decide +kernel
theorem d2_19 : decode prog_24_method_6_code 19 = .ok (.sipush 304, 3) := by decide +kernel
theorem d2_22 : decode prog_24_method_6_code 22 = .ok (.if_icmp .ne 17, 3) := by decide +kernel
theorem d2_25 : decode prog_24_method_6_code 25 = .ok (.iload_n 1, 1) := by decide +kernel
theorem d2_26 : decode prog_24_method_6_code 26 = .ok (.ifCond .eq 9, 3) := by decide +kernel
theorem d2_35 : decode prog_24_method_6_code 35 = .ok (.getstatic 16, 3) := by decide +kernel
theorem d2_38 : decode prog_24_method_6_code 38 = .ok (.areturn, 1) := by decide +kernel
theorem d2_29 : decode prog_24_method_6_code 29 = .ok (.getstatic 3, 3) := by decide +kernel
theorem d2_32 : decode prog_24_method_6_code 32 = .ok (.goto 6, 3) := by decide +kernel
theorem d2_39 : decode prog_24_method_6_code 39 = .ok (.iload_n 0, 1) := by decide +kernel
theorem d2_40 : decode prog_24_method_6_code 40 = .ok (.sipush 200, 3) := by decide +kernel
theorem d2_43 : decode prog_24_method_6_code 43 = .ok (.if_icmp .eq 7, 3) := by decide +kernel
theorem d2_50 : decode prog_24_method_6_code 50 = .ok (.iload_n 1, 1) := by decide +kernel
theorem d2_51 : decode prog_24_method_6_code 51 = .ok (.ifCond .eq 7, 3) := by decide +kernel
theorem d2_58 : decode prog_24_method_6_code 58 = .ok (.iload_n 2, 1) := by decide +kernel
theorem d2_59 : decode prog_24_method_6_code 59 = .ok (.ifCond .eq 9, 3) := by decide +kernel
theorem d2_68 : decode prog_24_method_6_code 68 = .ok (.getstatic 7, 3) := by decide +kernel
theorem d2_71 : decode prog_24_method_6_code 71 = .ok (.areturn, 1) := by decide +kernel
theorem d2_62 : decode prog_24_method_6_code 62 = .ok (.getstatic 10, 3) := by decide +kernel
theorem d2_65 : decode prog_24_method_6_code 65 = .ok (.goto 6, 3) := by decide +kernel
theorem d2_54 : decode prog_24_method_6_code 54 = .ok (.getstatic 3, 3) := by decide +kernel
theorem d2_57 : decode prog_24_method_6_code 57 = .ok (.areturn, 1) := by decide +kernel
theorem d2_46 : decode prog_24_method_6_code 46 = .ok (.getstatic 16, 3) := by decide +kernel
theorem d2_49 : decode prog_24_method_6_code 49 = .ok (.areturn, 1) := by decide +kernel
theorem pn_2 : plainName "com/example/bristlecone/bristlecone/model/Verdict" = true := by first | (simp [plainName, overriddenIn]; done) | decide +kernel
theorem ef_2 (m : MethodId) (p0 : Int32) (p1 : Int32) (p2 : Int32) : entryFrame m #[(.int p0), (.int p1), (.int p2)] 3 = mkF m 0 #[.val (.int p0), .val (.int p1), .val (.int p2)] [] := by first | (simp [entryFrame, mkF, argsToLocals, Value.category]; done) | rfl
def sp2 (w_1 : Addr) (w_2 : Addr) (w_3 : Addr) (w_4 : Addr) (w_5 : Addr) (p0 : Int32) (p1 : Int32) (p2 : Int32) : Value := (if p0 = (404 : Int32) then (.ref w_4) else (if p0 = (410 : Int32) then (.ref w_4) else (if p0 = (304 : Int32) then (if p1 = (0 : Int32) then (.ref w_3) else (.ref w_2)) else (if p0 = (200 : Int32) then (if p1 = (0 : Int32) then (if p2 = (0 : Int32) then (.ref w_5) else (.ref w_1)) else (.ref w_2)) else (.ref w_3)))))
def Q2 (Z : State) (w_1 : Addr) (w_2 : Addr) (w_3 : Addr) (w_4 : Addr) (w_5 : Addr) (p0 : Int32) (p1 : Int32) (p2 : Int32) (h0 : Heap) (n0 : Nat) (v : Option Value) (h : Heap) (L : List Loc) : Prop := v = some (sp2 w_1 w_2 w_3 w_4 w_5 p0 p1 p2) ∧ Fr n0 L ∧ h = h0
set_option maxRecDepth 65536 in
set_option maxHeartbeats 40000000 in
theorem rm2 (l : Launch) (Z : State) (a0 : Array Value) (hw : ∀ d ∈ tables_1, d.before a0 Z = true) (ws : List Jvm.Cond) (w_1 : Addr) (w_2 : Addr) (w_3 : Addr) (w_4 : Addr) (w_5 : Addr) (hS : StF Z w_1 w_2 w_3 w_4 w_5) (p0 : Int32) (p1 : Int32) (p2 : Int32) (h0 : Heap) (n0 : Nat) (O0 : Old Z n0 h0) :
    MetFree l Y2 (head1 (Jvm.Cond.code Y2 prog_24_method_6_code 3 (some (.object "com/example/bristlecone/bristlecone/model/Verdict")) :: ws) ({ frames := 0, cells := 0, slots := 0, locals := 0 } : Room)) (fun a U => a = #[(.int p0), (.int p1), (.int p2)] ∧ Z.Warmed39 U.vm ∧ U.heap = h0) (fun _ _ _ _ _ => True) (fun _ U o U' => ∃ v L, o = .returned v ∧ Q2 Z w_1 w_2 w_3 w_4 w_5 p0 p1 p2 h0 n0 v U'.heap L ∧ FrameEnd U o U' L ({ frames := 0, cells := 0, slots := 0, locals := 0 } : Room).cells ({ frames := 0, cells := 0, slots := 0, locals := 0 } : Room).slots) := by
  refine MetFree.of_bodySF (plainFor_of_name pn_2) hisR ?_
  intro p e s m args below meth c s₁ Bd hml0 hP hK
  obtain ⟨rfl, hZ, hh⟩ := hP
  have hx := Bd.exec
  have hby := Bd.bytes
  have hml : c.maxLocals = 3 := hml0
  have hown : s.vm.findClass "com/example/bristlecone/bristlecone/model/Verdict" = some m.cls := findClass_of_methodNamed Bd.named
  have hnm := (name_of_methodNamed Bd.named Bd.method).1
  have X0 : Stand p l e ({ frames := 0, cells := 0, slots := 0, locals := 0 } : Room) s m #[(.int p0), (.int p1), (.int p2)] below meth c s₁ [] 0 0 := Stand.of_body Bd
  have e0 : s₁.heap = h0 := by rw [← hh, Bd.state]; rfl
  have N0 := Fr.nil n0
  have hS0 := hS
  obtain ⟨S_1, E_1, S_2, E_2, S_3, E_3, S_4, E_4, S_5, E_5⟩ := hS
  have pre0 : ∀ t, Steps p.tables e below (s₁.setTop (mkF m 0 #[.val (.int p0), .val (.int p1), .val (.int p2)] [])) t → Steps p.tables e below (s₁.setTop (entryFrame m #[(.int p0), (.int p1), (.int p2)] 3)) t := fun t k => castTop (ef_2 m p0 p1 p2) k
  have pre39 : ∀ t, Steps p.tables e below (s₁.setTop (mkF m 4 #[.val (.int p0), .val (.int p1), .val (.int p2)] [(.int (404 : Int32)), (.int p0)])) t → Steps p.tables e below (s₁.setTop (entryFrame m #[(.int p0), (.int p1), (.int p2)] 3)) t := fun t kt => by
    refine pre0 t ?_
    show Steps p.tables e below (s₁.setTop (mkF m 0 #[.val (.int p0), .val (.int p1), .val (.int p2)] [])) _
    refine XS.iloadN X0.here hx rfl (hb hby d2_0) rfl ?_
    show Steps p.tables e below (s₁.setTop (mkF m 1 #[.val (.int p0), .val (.int p1), .val (.int p2)] [(.int p0)])) _
    refine XS.sipush X0.here hx rfl (hb hby d2_1) ?_
    show Steps p.tables e below (s₁.setTop (mkF m 4 #[.val (.int p0), .val (.int p1), .val (.int p2)] [(.int (404 : Int32)), (.int p0)])) _
    exact kt
  by_cases hc40 : p0 = (404 : Int32)
  · obtain ⟨T41, X41, e41, st41⟩ := getS2 X0 hx hZ hown (host := "") (Or.inl (hw _ (tk 23 rfl))) Via.refl e0 (S_4.ext O0.2) (g := (mkF m 14 #[.val (.int p0), .val (.int p1), .val (.int p2)] [])) rfl (hb hby d2_14)
    obtain ⟨fs, hr, hrun, hended, hW, hsame⟩ := X41.leave (v := some (.ref w_4)) (fun h => by rw [Bd.returns] at h; cases h)
    refine ⟨_, _, pre39 _ ?_, hrun, hended, _, _, rfl, ?_, ⟨_, rfl⟩, hW, hsame.mono (by decide) (by decide)⟩
    · show Steps p.tables e below (s₁.setTop (mkF m 4 #[.val (.int p0), .val (.int p1), .val (.int p2)] [(.int (404 : Int32)), (.int p0)])) _
      refine XS.icmpYes X0.here hx rfl (pc0 := 4) (pc' := 14) rfl (hb hby d2_4) rfl (teq hc40).1 (by decide) (by decide) ?_
      show Steps p.tables e below (s₁.setTop (mkF m 14 #[.val (.int p0), .val (.int p1), .val (.int p2)] [])) _
      refine st41 _ ?_
      show Steps p.tables e below (T41.setTop (mkF m 17 #[.val (.int p0), .val (.int p1), .val (.int p2)] [(.ref w_4)])) _
      jvm_step X41.here [X41.here.top, hx, (hb hby d2_17), X41.method', Bd.returns, Value.isRef, FieldType.isReference]
      first | (intro acts; rw [hr _ acts rfl rfl rfl]) | rw [hr _ _ rfl rfl rfl]
      exact Steps.refl _
    · show Q2 Z w_1 w_2 w_3 w_4 w_5 p0 p1 p2 h0 n0 _ T41.heap _
      rw [e41]
      exact ⟨by unfold sp2; rw [if_pos hc40], N0, rfl⟩
  · have pre42 : ∀ t, Steps p.tables e below (s₁.setTop (mkF m 11 #[.val (.int p0), .val (.int p1), .val (.int p2)] [(.int (410 : Int32)), (.int p0)])) t → Steps p.tables e below (s₁.setTop (entryFrame m #[(.int p0), (.int p1), (.int p2)] 3)) t := fun t kt => by
      refine pre39 t ?_
      show Steps p.tables e below (s₁.setTop (mkF m 4 #[.val (.int p0), .val (.int p1), .val (.int p2)] [(.int (404 : Int32)), (.int p0)])) _
      refine XS.icmpNo X0.here hx rfl (hb hby d2_4) rfl (feq hc40).1 ?_
      show Steps p.tables e below (s₁.setTop (mkF m 7 #[.val (.int p0), .val (.int p1), .val (.int p2)] [])) _
      refine XS.iloadN X0.here hx rfl (hb hby d2_7) rfl ?_
      show Steps p.tables e below (s₁.setTop (mkF m 8 #[.val (.int p0), .val (.int p1), .val (.int p2)] [(.int p0)])) _
      refine XS.sipush X0.here hx rfl (hb hby d2_8) ?_
      show Steps p.tables e below (s₁.setTop (mkF m 11 #[.val (.int p0), .val (.int p1), .val (.int p2)] [(.int (410 : Int32)), (.int p0)])) _
      exact kt
    by_cases hc43 : p0 = (410 : Int32)
    · obtain ⟨T44, X44, e44, st44⟩ := getS2 X0 hx hZ hown (host := "") (Or.inl (hw _ (tk 23 rfl))) Via.refl e0 (S_4.ext O0.2) (g := (mkF m 14 #[.val (.int p0), .val (.int p1), .val (.int p2)] [])) rfl (hb hby d2_14)
      obtain ⟨fs, hr, hrun, hended, hW, hsame⟩ := X44.leave (v := some (.ref w_4)) (fun h => by rw [Bd.returns] at h; cases h)
      refine ⟨_, _, pre42 _ ?_, hrun, hended, _, _, rfl, ?_, ⟨_, rfl⟩, hW, hsame.mono (by decide) (by decide)⟩
      · show Steps p.tables e below (s₁.setTop (mkF m 11 #[.val (.int p0), .val (.int p1), .val (.int p2)] [(.int (410 : Int32)), (.int p0)])) _
        refine XS.icmpNo X0.here hx rfl (hb hby d2_11) rfl (teq hc43).2 ?_
        show Steps p.tables e below (s₁.setTop (mkF m 14 #[.val (.int p0), .val (.int p1), .val (.int p2)] [])) _
        refine st44 _ ?_
        show Steps p.tables e below (T44.setTop (mkF m 17 #[.val (.int p0), .val (.int p1), .val (.int p2)] [(.ref w_4)])) _
        jvm_step X44.here [X44.here.top, hx, (hb hby d2_17), X44.method', Bd.returns, Value.isRef, FieldType.isReference]
        first | (intro acts; rw [hr _ acts rfl rfl rfl]) | rw [hr _ _ rfl rfl rfl]
        exact Steps.refl _
      · show Q2 Z w_1 w_2 w_3 w_4 w_5 p0 p1 p2 h0 n0 _ T44.heap _
        rw [e44]
        exact ⟨by unfold sp2; rw [if_neg hc40, if_pos hc43], N0, rfl⟩
    · have pre45 : ∀ t, Steps p.tables e below (s₁.setTop (mkF m 22 #[.val (.int p0), .val (.int p1), .val (.int p2)] [(.int (304 : Int32)), (.int p0)])) t → Steps p.tables e below (s₁.setTop (entryFrame m #[(.int p0), (.int p1), (.int p2)] 3)) t := fun t kt => by
        refine pre42 t ?_
        show Steps p.tables e below (s₁.setTop (mkF m 11 #[.val (.int p0), .val (.int p1), .val (.int p2)] [(.int (410 : Int32)), (.int p0)])) _
        refine XS.icmpYes X0.here hx rfl (pc0 := 11) (pc' := 18) rfl (hb hby d2_11) rfl (feq hc43).2 (by decide) (by decide) ?_
        show Steps p.tables e below (s₁.setTop (mkF m 18 #[.val (.int p0), .val (.int p1), .val (.int p2)] [])) _
        refine XS.iloadN X0.here hx rfl (hb hby d2_18) rfl ?_
        show Steps p.tables e below (s₁.setTop (mkF m 19 #[.val (.int p0), .val (.int p1), .val (.int p2)] [(.int p0)])) _
        refine XS.sipush X0.here hx rfl (hb hby d2_19) ?_
        show Steps p.tables e below (s₁.setTop (mkF m 22 #[.val (.int p0), .val (.int p1), .val (.int p2)] [(.int (304 : Int32)), (.int p0)])) _
        exact kt
      by_cases hc46 : p0 = (304 : Int32)
      · have pre47 : ∀ t, Steps p.tables e below (s₁.setTop (mkF m 26 #[.val (.int p0), .val (.int p1), .val (.int p2)] [(.int p1)])) t → Steps p.tables e below (s₁.setTop (entryFrame m #[(.int p0), (.int p1), (.int p2)] 3)) t := fun t kt => by
          refine pre45 t ?_
          show Steps p.tables e below (s₁.setTop (mkF m 22 #[.val (.int p0), .val (.int p1), .val (.int p2)] [(.int (304 : Int32)), (.int p0)])) _
          refine XS.icmpNo X0.here hx rfl (hb hby d2_22) rfl (teq hc46).2 ?_
          show Steps p.tables e below (s₁.setTop (mkF m 25 #[.val (.int p0), .val (.int p1), .val (.int p2)] [])) _
          refine XS.iloadN X0.here hx rfl (hb hby d2_25) rfl ?_
          show Steps p.tables e below (s₁.setTop (mkF m 26 #[.val (.int p0), .val (.int p1), .val (.int p2)] [(.int p1)])) _
          exact kt
        by_cases hc48 : p1 = (0 : Int32)
        · obtain ⟨T49, X49, e49, st49⟩ := getS2 X0 hx hZ hown (host := "") (Or.inl (hw _ (tk 20 rfl))) Via.refl e0 (S_3.ext O0.2) (g := (mkF m 35 #[.val (.int p0), .val (.int p1), .val (.int p2)] [])) rfl (hb hby d2_35)
          obtain ⟨fs, hr, hrun, hended, hW, hsame⟩ := X49.leave (v := some (.ref w_3)) (fun h => by rw [Bd.returns] at h; cases h)
          refine ⟨_, _, pre47 _ ?_, hrun, hended, _, _, rfl, ?_, ⟨_, rfl⟩, hW, hsame.mono (by decide) (by decide)⟩
          · show Steps p.tables e below (s₁.setTop (mkF m 26 #[.val (.int p0), .val (.int p1), .val (.int p2)] [(.int p1)])) _
            refine XS.ifYes X0.here hx rfl (pc0 := 26) (pc' := 35) rfl (hb hby d2_26) rfl ((if0 _ _).trans (teq hc48).1) (by decide) (by decide) ?_
            show Steps p.tables e below (s₁.setTop (mkF m 35 #[.val (.int p0), .val (.int p1), .val (.int p2)] [])) _
            refine st49 _ ?_
            show Steps p.tables e below (T49.setTop (mkF m 38 #[.val (.int p0), .val (.int p1), .val (.int p2)] [(.ref w_3)])) _
            jvm_step X49.here [X49.here.top, hx, (hb hby d2_38), X49.method', Bd.returns, Value.isRef, FieldType.isReference]
            first | (intro acts; rw [hr _ acts rfl rfl rfl]) | rw [hr _ _ rfl rfl rfl]
            exact Steps.refl _
          · show Q2 Z w_1 w_2 w_3 w_4 w_5 p0 p1 p2 h0 n0 _ T49.heap _
            rw [e49]
            exact ⟨by unfold sp2; rw [if_neg hc40, if_neg hc43, if_pos hc46, if_pos hc48], N0, rfl⟩
        · obtain ⟨T50, X50, e50, st50⟩ := getS2 X0 hx hZ hown (host := "") (Or.inl (hw _ (tk 14 rfl))) Via.refl e0 (S_2.ext O0.2) (g := (mkF m 29 #[.val (.int p0), .val (.int p1), .val (.int p2)] [])) rfl (hb hby d2_29)
          obtain ⟨fs, hr, hrun, hended, hW, hsame⟩ := X50.leave (v := some (.ref w_2)) (fun h => by rw [Bd.returns] at h; cases h)
          refine ⟨_, _, pre47 _ ?_, hrun, hended, _, _, rfl, ?_, ⟨_, rfl⟩, hW, hsame.mono (by decide) (by decide)⟩
          · show Steps p.tables e below (s₁.setTop (mkF m 26 #[.val (.int p0), .val (.int p1), .val (.int p2)] [(.int p1)])) _
            refine XS.ifNo X0.here hx rfl (hb hby d2_26) rfl ((if0 _ _).trans (feq hc48).1) ?_
            show Steps p.tables e below (s₁.setTop (mkF m 29 #[.val (.int p0), .val (.int p1), .val (.int p2)] [])) _
            refine st50 _ ?_
            show Steps p.tables e below (T50.setTop (mkF m 32 #[.val (.int p0), .val (.int p1), .val (.int p2)] [(.ref w_2)])) _
            refine XS.goto X50.here hx rfl (pc0 := 32) (pc' := 38) rfl (hb hby d2_32) (by decide) (by decide) ?_
            show Steps p.tables e below (T50.setTop (mkF m 38 #[.val (.int p0), .val (.int p1), .val (.int p2)] [(.ref w_2)])) _
            jvm_step X50.here [X50.here.top, hx, (hb hby d2_38), X50.method', Bd.returns, Value.isRef, FieldType.isReference]
            first | (intro acts; rw [hr _ acts rfl rfl rfl]) | rw [hr _ _ rfl rfl rfl]
            exact Steps.refl _
          · show Q2 Z w_1 w_2 w_3 w_4 w_5 p0 p1 p2 h0 n0 _ T50.heap _
            rw [e50]
            exact ⟨by unfold sp2; rw [if_neg hc40, if_neg hc43, if_pos hc46, if_neg hc48], N0, rfl⟩
      · have pre51 : ∀ t, Steps p.tables e below (s₁.setTop (mkF m 43 #[.val (.int p0), .val (.int p1), .val (.int p2)] [(.int (200 : Int32)), (.int p0)])) t → Steps p.tables e below (s₁.setTop (entryFrame m #[(.int p0), (.int p1), (.int p2)] 3)) t := fun t kt => by
          refine pre45 t ?_
          show Steps p.tables e below (s₁.setTop (mkF m 22 #[.val (.int p0), .val (.int p1), .val (.int p2)] [(.int (304 : Int32)), (.int p0)])) _
          refine XS.icmpYes X0.here hx rfl (pc0 := 22) (pc' := 39) rfl (hb hby d2_22) rfl (feq hc46).2 (by decide) (by decide) ?_
          show Steps p.tables e below (s₁.setTop (mkF m 39 #[.val (.int p0), .val (.int p1), .val (.int p2)] [])) _
          refine XS.iloadN X0.here hx rfl (hb hby d2_39) rfl ?_
          show Steps p.tables e below (s₁.setTop (mkF m 40 #[.val (.int p0), .val (.int p1), .val (.int p2)] [(.int p0)])) _
          refine XS.sipush X0.here hx rfl (hb hby d2_40) ?_
          show Steps p.tables e below (s₁.setTop (mkF m 43 #[.val (.int p0), .val (.int p1), .val (.int p2)] [(.int (200 : Int32)), (.int p0)])) _
          exact kt
        by_cases hc52 : p0 = (200 : Int32)
        · have pre53 : ∀ t, Steps p.tables e below (s₁.setTop (mkF m 51 #[.val (.int p0), .val (.int p1), .val (.int p2)] [(.int p1)])) t → Steps p.tables e below (s₁.setTop (entryFrame m #[(.int p0), (.int p1), (.int p2)] 3)) t := fun t kt => by
            refine pre51 t ?_
            show Steps p.tables e below (s₁.setTop (mkF m 43 #[.val (.int p0), .val (.int p1), .val (.int p2)] [(.int (200 : Int32)), (.int p0)])) _
            refine XS.icmpYes X0.here hx rfl (pc0 := 43) (pc' := 50) rfl (hb hby d2_43) rfl (teq hc52).1 (by decide) (by decide) ?_
            show Steps p.tables e below (s₁.setTop (mkF m 50 #[.val (.int p0), .val (.int p1), .val (.int p2)] [])) _
            refine XS.iloadN X0.here hx rfl (hb hby d2_50) rfl ?_
            show Steps p.tables e below (s₁.setTop (mkF m 51 #[.val (.int p0), .val (.int p1), .val (.int p2)] [(.int p1)])) _
            exact kt
          by_cases hc54 : p1 = (0 : Int32)
          · have pre55 : ∀ t, Steps p.tables e below (s₁.setTop (mkF m 59 #[.val (.int p0), .val (.int p1), .val (.int p2)] [(.int p2)])) t → Steps p.tables e below (s₁.setTop (entryFrame m #[(.int p0), (.int p1), (.int p2)] 3)) t := fun t kt => by
              refine pre53 t ?_
              show Steps p.tables e below (s₁.setTop (mkF m 51 #[.val (.int p0), .val (.int p1), .val (.int p2)] [(.int p1)])) _
              refine XS.ifYes X0.here hx rfl (pc0 := 51) (pc' := 58) rfl (hb hby d2_51) rfl ((if0 _ _).trans (teq hc54).1) (by decide) (by decide) ?_
              show Steps p.tables e below (s₁.setTop (mkF m 58 #[.val (.int p0), .val (.int p1), .val (.int p2)] [])) _
              refine XS.iloadN X0.here hx rfl (hb hby d2_58) rfl ?_
              show Steps p.tables e below (s₁.setTop (mkF m 59 #[.val (.int p0), .val (.int p1), .val (.int p2)] [(.int p2)])) _
              exact kt
            by_cases hc56 : p2 = (0 : Int32)
            · obtain ⟨T57, X57, e57, st57⟩ := getS2 X0 hx hZ hown (host := "") (Or.inl (hw _ (tk 26 rfl))) Via.refl e0 (S_5.ext O0.2) (g := (mkF m 68 #[.val (.int p0), .val (.int p1), .val (.int p2)] [])) rfl (hb hby d2_68)
              obtain ⟨fs, hr, hrun, hended, hW, hsame⟩ := X57.leave (v := some (.ref w_5)) (fun h => by rw [Bd.returns] at h; cases h)
              refine ⟨_, _, pre55 _ ?_, hrun, hended, _, _, rfl, ?_, ⟨_, rfl⟩, hW, hsame.mono (by decide) (by decide)⟩
              · show Steps p.tables e below (s₁.setTop (mkF m 59 #[.val (.int p0), .val (.int p1), .val (.int p2)] [(.int p2)])) _
                refine XS.ifYes X0.here hx rfl (pc0 := 59) (pc' := 68) rfl (hb hby d2_59) rfl ((if0 _ _).trans (teq hc56).1) (by decide) (by decide) ?_
                show Steps p.tables e below (s₁.setTop (mkF m 68 #[.val (.int p0), .val (.int p1), .val (.int p2)] [])) _
                refine st57 _ ?_
                show Steps p.tables e below (T57.setTop (mkF m 71 #[.val (.int p0), .val (.int p1), .val (.int p2)] [(.ref w_5)])) _
                jvm_step X57.here [X57.here.top, hx, (hb hby d2_71), X57.method', Bd.returns, Value.isRef, FieldType.isReference]
                first | (intro acts; rw [hr _ acts rfl rfl rfl]) | rw [hr _ _ rfl rfl rfl]
                exact Steps.refl _
              · show Q2 Z w_1 w_2 w_3 w_4 w_5 p0 p1 p2 h0 n0 _ T57.heap _
                rw [e57]
                exact ⟨by unfold sp2; rw [if_neg hc40, if_neg hc43, if_neg hc46, if_pos hc52, if_pos hc54, if_pos hc56], N0, rfl⟩
            · obtain ⟨T58, X58, e58, st58⟩ := getS2 X0 hx hZ hown (host := "") (Or.inl (hw _ (tk 8 rfl))) Via.refl e0 (S_1.ext O0.2) (g := (mkF m 62 #[.val (.int p0), .val (.int p1), .val (.int p2)] [])) rfl (hb hby d2_62)
              obtain ⟨fs, hr, hrun, hended, hW, hsame⟩ := X58.leave (v := some (.ref w_1)) (fun h => by rw [Bd.returns] at h; cases h)
              refine ⟨_, _, pre55 _ ?_, hrun, hended, _, _, rfl, ?_, ⟨_, rfl⟩, hW, hsame.mono (by decide) (by decide)⟩
              · show Steps p.tables e below (s₁.setTop (mkF m 59 #[.val (.int p0), .val (.int p1), .val (.int p2)] [(.int p2)])) _
                refine XS.ifNo X0.here hx rfl (hb hby d2_59) rfl ((if0 _ _).trans (feq hc56).1) ?_
                show Steps p.tables e below (s₁.setTop (mkF m 62 #[.val (.int p0), .val (.int p1), .val (.int p2)] [])) _
                refine st58 _ ?_
                show Steps p.tables e below (T58.setTop (mkF m 65 #[.val (.int p0), .val (.int p1), .val (.int p2)] [(.ref w_1)])) _
                refine XS.goto X58.here hx rfl (pc0 := 65) (pc' := 71) rfl (hb hby d2_65) (by decide) (by decide) ?_
                show Steps p.tables e below (T58.setTop (mkF m 71 #[.val (.int p0), .val (.int p1), .val (.int p2)] [(.ref w_1)])) _
                jvm_step X58.here [X58.here.top, hx, (hb hby d2_71), X58.method', Bd.returns, Value.isRef, FieldType.isReference]
                first | (intro acts; rw [hr _ acts rfl rfl rfl]) | rw [hr _ _ rfl rfl rfl]
                exact Steps.refl _
              · show Q2 Z w_1 w_2 w_3 w_4 w_5 p0 p1 p2 h0 n0 _ T58.heap _
                rw [e58]
                exact ⟨by unfold sp2; rw [if_neg hc40, if_neg hc43, if_neg hc46, if_pos hc52, if_pos hc54, if_neg hc56], N0, rfl⟩
          · obtain ⟨T59, X59, e59, st59⟩ := getS2 X0 hx hZ hown (host := "") (Or.inl (hw _ (tk 14 rfl))) Via.refl e0 (S_2.ext O0.2) (g := (mkF m 54 #[.val (.int p0), .val (.int p1), .val (.int p2)] [])) rfl (hb hby d2_54)
            obtain ⟨fs, hr, hrun, hended, hW, hsame⟩ := X59.leave (v := some (.ref w_2)) (fun h => by rw [Bd.returns] at h; cases h)
            refine ⟨_, _, pre53 _ ?_, hrun, hended, _, _, rfl, ?_, ⟨_, rfl⟩, hW, hsame.mono (by decide) (by decide)⟩
            · show Steps p.tables e below (s₁.setTop (mkF m 51 #[.val (.int p0), .val (.int p1), .val (.int p2)] [(.int p1)])) _
              refine XS.ifNo X0.here hx rfl (hb hby d2_51) rfl ((if0 _ _).trans (feq hc54).1) ?_
              show Steps p.tables e below (s₁.setTop (mkF m 54 #[.val (.int p0), .val (.int p1), .val (.int p2)] [])) _
              refine st59 _ ?_
              show Steps p.tables e below (T59.setTop (mkF m 57 #[.val (.int p0), .val (.int p1), .val (.int p2)] [(.ref w_2)])) _
              jvm_step X59.here [X59.here.top, hx, (hb hby d2_57), X59.method', Bd.returns, Value.isRef, FieldType.isReference]
              first | (intro acts; rw [hr _ acts rfl rfl rfl]) | rw [hr _ _ rfl rfl rfl]
              exact Steps.refl _
            · show Q2 Z w_1 w_2 w_3 w_4 w_5 p0 p1 p2 h0 n0 _ T59.heap _
              rw [e59]
              exact ⟨by unfold sp2; rw [if_neg hc40, if_neg hc43, if_neg hc46, if_pos hc52, if_neg hc54], N0, rfl⟩
        · obtain ⟨T60, X60, e60, st60⟩ := getS2 X0 hx hZ hown (host := "") (Or.inl (hw _ (tk 20 rfl))) Via.refl e0 (S_3.ext O0.2) (g := (mkF m 46 #[.val (.int p0), .val (.int p1), .val (.int p2)] [])) rfl (hb hby d2_46)
          obtain ⟨fs, hr, hrun, hended, hW, hsame⟩ := X60.leave (v := some (.ref w_3)) (fun h => by rw [Bd.returns] at h; cases h)
          refine ⟨_, _, pre51 _ ?_, hrun, hended, _, _, rfl, ?_, ⟨_, rfl⟩, hW, hsame.mono (by decide) (by decide)⟩
          · show Steps p.tables e below (s₁.setTop (mkF m 43 #[.val (.int p0), .val (.int p1), .val (.int p2)] [(.int (200 : Int32)), (.int p0)])) _
            refine XS.icmpNo X0.here hx rfl (hb hby d2_43) rfl (feq hc52).1 ?_
            show Steps p.tables e below (s₁.setTop (mkF m 46 #[.val (.int p0), .val (.int p1), .val (.int p2)] [])) _
            refine st60 _ ?_
            show Steps p.tables e below (T60.setTop (mkF m 49 #[.val (.int p0), .val (.int p1), .val (.int p2)] [(.ref w_3)])) _
            jvm_step X60.here [X60.here.top, hx, (hb hby d2_49), X60.method', Bd.returns, Value.isRef, FieldType.isReference]
            first | (intro acts; rw [hr _ acts rfl rfl rfl]) | rw [hr _ _ rfl rfl rfl]
            exact Steps.refl _
          · show Q2 Z w_1 w_2 w_3 w_4 w_5 p0 p1 p2 h0 n0 _ T60.heap _
            rw [e60]
            exact ⟨by unfold sp2; rw [if_neg hc40, if_neg hc43, if_neg hc46, if_neg hc52], N0, rfl⟩
theorem d3_0 : decode method_5_code 0 = .ok (.iload_n 0, 1) := by decide +kernel
theorem d3_1 : decode method_5_code 1 = .ok (.sipush 404, 3) := by decide +kernel
theorem d3_4 : decode method_5_code 4 = .ok (.if_icmp .eq 10, 3) := by decide +kernel
theorem d3_14 : decode method_5_code 14 = .ok (.iconst 1, 1) := by decide +kernel
theorem d3_15 : decode method_5_code 15 = .ok (.goto 4, 3) := by decide +kernel
theorem d3_19 : decode method_5_code 19 = .ok (.istore_n 3, 1) := by decide +kernel
theorem d3_20 : decode method_5_code 20 = .ok (.iload_n 1, 1) := by decide +kernel
theorem d3_21 : decode method_5_code 21 = .ok (.ifCond .eq 21, 3) := by decide +kernel
theorem d3_42 : decode method_5_code 42 = .ok (.iconst 0, 1) := by decide +kernel
theorem d3_43 : decode method_5_code 43 = .ok (.istore 4, 2) := by decide +kernel
theorem d3_45 : decode method_5_code 45 = .ok (.iload_n 3, 1) := by decide +kernel
theorem d3_46 : decode method_5_code 46 = .ok (.ifCond .eq 7, 3) := by decide +kernel
theorem d3_49 : decode method_5_code 49 = .ok (.getstatic 26, 3) := by decide +kernel
theorem d3_52 : decode method_5_code 52 = .ok (.areturn, 1) := by decide +kernel
theorem d3_24 : decode method_5_code 24 = .ok (.iload_n 0, 1) := by decide +kernel
theorem d3_25 : decode method_5_code 25 = .ok (.sipush 200, 3) := by decide +kernel
theorem d3_28 : decode method_5_code 28 = .ok (.if_icmp .eq 10, 3) := by decide +kernel
theorem d3_31 : decode method_5_code 31 = .ok (.iload_n 0, 1) := by decide +kernel
theorem d3_32 : decode method_5_code 32 = .ok (.sipush 304, 3) := by decide +kernel
theorem d3_35 : decode method_5_code 35 = .ok (.if_icmp .ne 7, 3) := by decide +kernel
theorem d3_7 : decode method_5_code 7 = .ok (.iload_n 0, 1) := by decide +kernel
theorem d3_8 : decode method_5_code 8 = .ok (.sipush 410, 3) := by decide +kernel
theorem d3_11 : decode method_5_code 11 = .ok (.if_icmp .ne 7, 3) := by decide +kernel
theorem d3_18 : decode method_5_code 18 = .ok (.iconst 0, 1) := by decide +kernel
theorem d3_53 : decode method_5_code 53 = .ok (.iload 4, 2) := by decide +kernel
theorem d3_55 : decode method_5_code 55 = .ok (.ifCond .eq 7, 3) := by decide +kernel
theorem d3_62 : decode method_5_code 62 = .ok (.iload_n 0, 1) := by decide +kernel
theorem d3_63 : decode method_5_code 63 = .ok (.sipush 200, 3) := by decide +kernel
theorem d3_66 : decode method_5_code 66 = .ok (.if_icmp .eq 7, 3) := by decide +kernel
theorem d3_73 : decode method_5_code 73 = .ok (.iload_n 2, 1) := by decide +kernel
theorem d3_74 : decode method_5_code 74 = .ok (.ifCond .eq 7, 3) := by decide +kernel
theorem d3_81 : decode method_5_code 81 = .ok (.getstatic 39, 3) := by decide +kernel
theorem d3_84 : decode method_5_code 84 = .ok (.areturn, 1) := by decide +kernel
theorem d3_77 : decode method_5_code 77 = .ok (.getstatic 36, 3) := by decide +kernel
theorem d3_80 : decode method_5_code 80 = .ok (.areturn, 1) := by decide +kernel
theorem d3_69 : decode method_5_code 69 = .ok (.getstatic 33, 3) := by decide +kernel
theorem d3_72 : decode method_5_code 72 = .ok (.areturn, 1) := by decide +kernel
theorem d3_38 : decode method_5_code 38 = .ok (.iconst 1, 1) := by decide +kernel
theorem d3_39 : decode method_5_code 39 = .ok (.goto 4, 3) := by decide +kernel
theorem d3_58 : decode method_5_code 58 = .ok (.getstatic 30, 3) := by decide +kernel
theorem d3_61 : decode method_5_code 61 = .ok (.areturn, 1) := by decide +kernel
theorem pn_3 : plainName "com/example/bristlecone/bristlecone/model/VerdictJudgePinLaw" = true := by first | (simp [plainName, overriddenIn]; done) | decide +kernel
theorem ef_3 (m : MethodId) (p0 : Int32) (p1 : Int32) (p2 : Int32) : entryFrame m #[(.int p0), (.int p1), (.int p2)] 5 = mkF m 0 #[.val (.int p0), .val (.int p1), .val (.int p2), .unset, .unset] [] := by first | (simp [entryFrame, mkF, argsToLocals, Value.category]; done) | rfl
def sp3 (w_1 : Addr) (w_2 : Addr) (w_3 : Addr) (w_4 : Addr) (w_5 : Addr) (p0 : Int32) (p1 : Int32) (p2 : Int32) : Value := (if p0 = (404 : Int32) then (if p1 = (0 : Int32) then (.ref w_4) else (.ref w_4)) else (if p0 = (410 : Int32) then (if p1 = (0 : Int32) then (.ref w_4) else (.ref w_4)) else (if p1 = (0 : Int32) then (if p0 = (200 : Int32) then (if p2 = (0 : Int32) then (.ref w_5) else (.ref w_1)) else (.ref w_3)) else (if p0 = (200 : Int32) then (.ref w_2) else (if p0 = (304 : Int32) then (.ref w_2) else (.ref w_3))))))
def Q3 (Z : State) (w_1 : Addr) (w_2 : Addr) (w_3 : Addr) (w_4 : Addr) (w_5 : Addr) (p0 : Int32) (p1 : Int32) (p2 : Int32) (h0 : Heap) (n0 : Nat) (v : Option Value) (h : Heap) (L : List Loc) : Prop := v = some (sp3 w_1 w_2 w_3 w_4 w_5 p0 p1 p2) ∧ Fr n0 L ∧ h = h0
set_option maxRecDepth 65536 in
set_option maxHeartbeats 40000000 in
theorem rm3 (l : Launch) (Z : State) (a0 : Array Value) (hw : ∀ d ∈ tables_1, d.before a0 Z = true) (ws : List Jvm.Cond) (w_1 : Addr) (w_2 : Addr) (w_3 : Addr) (w_4 : Addr) (w_5 : Addr) (hS : StF Z w_1 w_2 w_3 w_4 w_5) (p0 : Int32) (p1 : Int32) (p2 : Int32) (h0 : Heap) (n0 : Nat) (O0 : Old Z n0 h0) :
    MetFree l Y3 (head1 (Jvm.Cond.code Y3 method_5_code 5 (some (.object "com/example/bristlecone/bristlecone/model/Verdict")) :: ws) ({ frames := 0, cells := 0, slots := 0, locals := 0 } : Room)) (fun a U => a = #[(.int p0), (.int p1), (.int p2)] ∧ Z.Warmed39 U.vm ∧ U.heap = h0) (fun _ _ _ _ _ => True) (fun _ U o U' => ∃ v L, o = .returned v ∧ Q3 Z w_1 w_2 w_3 w_4 w_5 p0 p1 p2 h0 n0 v U'.heap L ∧ FrameEnd U o U' L ({ frames := 0, cells := 0, slots := 0, locals := 0 } : Room).cells ({ frames := 0, cells := 0, slots := 0, locals := 0 } : Room).slots) := by
  refine MetFree.of_bodySF (plainFor_of_name pn_3) hisR ?_
  intro p e s m args below meth c s₁ Bd hml0 hP hK
  obtain ⟨rfl, hZ, hh⟩ := hP
  have hx := Bd.exec
  have hby := Bd.bytes
  have hml : c.maxLocals = 5 := hml0
  have hown : s.vm.findClass "com/example/bristlecone/bristlecone/model/VerdictJudgePinLaw" = some m.cls := findClass_of_methodNamed Bd.named
  have hnm := (name_of_methodNamed Bd.named Bd.method).1
  have X0 : Stand p l e ({ frames := 0, cells := 0, slots := 0, locals := 0 } : Room) s m #[(.int p0), (.int p1), (.int p2)] below meth c s₁ [] 0 0 := Stand.of_body Bd
  have e0 : s₁.heap = h0 := by rw [← hh, Bd.state]; rfl
  have N0 := Fr.nil n0
  have hS0 := hS
  obtain ⟨S_1, E_1, S_2, E_2, S_3, E_3, S_4, E_4, S_5, E_5⟩ := hS
  have pre0 : ∀ t, Steps p.tables e below (s₁.setTop (mkF m 0 #[.val (.int p0), .val (.int p1), .val (.int p2), .unset, .unset] [])) t → Steps p.tables e below (s₁.setTop (entryFrame m #[(.int p0), (.int p1), (.int p2)] 5)) t := fun t k => castTop (ef_3 m p0 p1 p2) k
  have pre64 : ∀ t, Steps p.tables e below (s₁.setTop (mkF m 4 #[.val (.int p0), .val (.int p1), .val (.int p2), .unset, .unset] [(.int (404 : Int32)), (.int p0)])) t → Steps p.tables e below (s₁.setTop (entryFrame m #[(.int p0), (.int p1), (.int p2)] 5)) t := fun t kt => by
    refine pre0 t ?_
    show Steps p.tables e below (s₁.setTop (mkF m 0 #[.val (.int p0), .val (.int p1), .val (.int p2), .unset, .unset] [])) _
    refine XS.iloadN X0.here hx rfl (hb hby d3_0) rfl ?_
    show Steps p.tables e below (s₁.setTop (mkF m 1 #[.val (.int p0), .val (.int p1), .val (.int p2), .unset, .unset] [(.int p0)])) _
    refine XS.sipush X0.here hx rfl (hb hby d3_1) ?_
    show Steps p.tables e below (s₁.setTop (mkF m 4 #[.val (.int p0), .val (.int p1), .val (.int p2), .unset, .unset] [(.int (404 : Int32)), (.int p0)])) _
    exact kt
  by_cases hc65 : p0 = (404 : Int32)
  · have pre66 : ∀ t, Steps p.tables e below (s₁.setTop (mkF m 21 #[.val (.int p0), .val (.int p1), .val (.int p2), .val (.int (1 : Int32)), .unset] [(.int p1)])) t → Steps p.tables e below (s₁.setTop (entryFrame m #[(.int p0), (.int p1), (.int p2)] 5)) t := fun t kt => by
      refine pre64 t ?_
      show Steps p.tables e below (s₁.setTop (mkF m 4 #[.val (.int p0), .val (.int p1), .val (.int p2), .unset, .unset] [(.int (404 : Int32)), (.int p0)])) _
      refine XS.icmpYes X0.here hx rfl (pc0 := 4) (pc' := 14) rfl (hb hby d3_4) rfl (teq hc65).1 (by decide) (by decide) ?_
      show Steps p.tables e below (s₁.setTop (mkF m 14 #[.val (.int p0), .val (.int p1), .val (.int p2), .unset, .unset] [])) _
      refine XS.iconst X0.here hx rfl (hb hby d3_14) ?_
      show Steps p.tables e below (s₁.setTop (mkF m 15 #[.val (.int p0), .val (.int p1), .val (.int p2), .unset, .unset] [(.int (1 : Int32))])) _
      refine XS.goto X0.here hx rfl (pc0 := 15) (pc' := 19) rfl (hb hby d3_15) (by decide) (by decide) ?_
      show Steps p.tables e below (s₁.setTop (mkF m 19 #[.val (.int p0), .val (.int p1), .val (.int p2), .unset, .unset] [(.int (1 : Int32))])) _
      refine XS.istoreN X0.here hx rfl (hb hby d3_19) rfl (l' := #[.val (.int p0), .val (.int p1), .val (.int p2), .val (.int (1 : Int32)), .unset]) rfl ?_
      show Steps p.tables e below (s₁.setTop (mkF m 20 #[.val (.int p0), .val (.int p1), .val (.int p2), .val (.int (1 : Int32)), .unset] [])) _
      refine XS.iloadN X0.here hx rfl (hb hby d3_20) rfl ?_
      show Steps p.tables e below (s₁.setTop (mkF m 21 #[.val (.int p0), .val (.int p1), .val (.int p2), .val (.int (1 : Int32)), .unset] [(.int p1)])) _
      exact kt
    by_cases hc67 : p1 = (0 : Int32)
    · obtain ⟨T68, X68, e68, st68⟩ := getS2 X0 hx hZ hown (host := "") (Or.inl (hw _ (tk 25 rfl))) Via.refl e0 (S_4.ext O0.2) (g := (mkF m 49 #[.val (.int p0), .val (.int p1), .val (.int p2), .val (.int (1 : Int32)), .val (.int (0 : Int32))] [])) rfl (hb hby d3_49)
      obtain ⟨fs, hr, hrun, hended, hW, hsame⟩ := X68.leave (v := some (.ref w_4)) (fun h => by rw [Bd.returns] at h; cases h)
      refine ⟨_, _, pre66 _ ?_, hrun, hended, _, _, rfl, ?_, ⟨_, rfl⟩, hW, hsame.mono (by decide) (by decide)⟩
      · show Steps p.tables e below (s₁.setTop (mkF m 21 #[.val (.int p0), .val (.int p1), .val (.int p2), .val (.int (1 : Int32)), .unset] [(.int p1)])) _
        refine XS.ifYes X0.here hx rfl (pc0 := 21) (pc' := 42) rfl (hb hby d3_21) rfl ((if0 _ _).trans (teq hc67).1) (by decide) (by decide) ?_
        show Steps p.tables e below (s₁.setTop (mkF m 42 #[.val (.int p0), .val (.int p1), .val (.int p2), .val (.int (1 : Int32)), .unset] [])) _
        refine XS.iconst X0.here hx rfl (hb hby d3_42) ?_
        show Steps p.tables e below (s₁.setTop (mkF m 43 #[.val (.int p0), .val (.int p1), .val (.int p2), .val (.int (1 : Int32)), .unset] [(.int (0 : Int32))])) _
        refine XS.istore X0.here hx rfl (hb hby d3_43) rfl (l' := #[.val (.int p0), .val (.int p1), .val (.int p2), .val (.int (1 : Int32)), .val (.int (0 : Int32))]) rfl ?_
        show Steps p.tables e below (s₁.setTop (mkF m 45 #[.val (.int p0), .val (.int p1), .val (.int p2), .val (.int (1 : Int32)), .val (.int (0 : Int32))] [])) _
        refine XS.iloadN X0.here hx rfl (hb hby d3_45) rfl ?_
        show Steps p.tables e below (s₁.setTop (mkF m 46 #[.val (.int p0), .val (.int p1), .val (.int p2), .val (.int (1 : Int32)), .val (.int (0 : Int32))] [(.int (1 : Int32))])) _
        refine XS.ifNo X0.here hx rfl (hb hby d3_46) rfl ((if0 _ _).trans (feq (by decide : ¬ ((1 : Int32) = (0 : Int32)))).1) ?_
        show Steps p.tables e below (s₁.setTop (mkF m 49 #[.val (.int p0), .val (.int p1), .val (.int p2), .val (.int (1 : Int32)), .val (.int (0 : Int32))] [])) _
        refine st68 _ ?_
        show Steps p.tables e below (T68.setTop (mkF m 52 #[.val (.int p0), .val (.int p1), .val (.int p2), .val (.int (1 : Int32)), .val (.int (0 : Int32))] [(.ref w_4)])) _
        jvm_step X68.here [X68.here.top, hx, (hb hby d3_52), X68.method', Bd.returns, Value.isRef, FieldType.isReference]
        first | (intro acts; rw [hr _ acts rfl rfl rfl]) | rw [hr _ _ rfl rfl rfl]
        exact Steps.refl _
      · show Q3 Z w_1 w_2 w_3 w_4 w_5 p0 p1 p2 h0 n0 _ T68.heap _
        rw [e68]
        exact ⟨by unfold sp3; rw [if_pos hc65, if_pos hc67], N0, rfl⟩
    · obtain ⟨T69, X69, e69, st69⟩ := getS2 X0 hx hZ hown (host := "") (Or.inl (hw _ (tk 25 rfl))) Via.refl e0 (S_4.ext O0.2) (g := (mkF m 49 #[.val (.int p0), .val (.int p1), .val (.int p2), .val (.int (1 : Int32)), .val (.int (0 : Int32))] [])) rfl (hb hby d3_49)
      obtain ⟨fs, hr, hrun, hended, hW, hsame⟩ := X69.leave (v := some (.ref w_4)) (fun h => by rw [Bd.returns] at h; cases h)
      refine ⟨_, _, pre66 _ ?_, hrun, hended, _, _, rfl, ?_, ⟨_, rfl⟩, hW, hsame.mono (by decide) (by decide)⟩
      · show Steps p.tables e below (s₁.setTop (mkF m 21 #[.val (.int p0), .val (.int p1), .val (.int p2), .val (.int (1 : Int32)), .unset] [(.int p1)])) _
        refine XS.ifNo X0.here hx rfl (hb hby d3_21) rfl ((if0 _ _).trans (feq hc67).1) ?_
        show Steps p.tables e below (s₁.setTop (mkF m 24 #[.val (.int p0), .val (.int p1), .val (.int p2), .val (.int (1 : Int32)), .unset] [])) _
        refine XS.iloadN X0.here hx rfl (hb hby d3_24) rfl ?_
        show Steps p.tables e below (s₁.setTop (mkF m 25 #[.val (.int p0), .val (.int p1), .val (.int p2), .val (.int (1 : Int32)), .unset] [(.int p0)])) _
        refine XS.sipush X0.here hx rfl (hb hby d3_25) ?_
        show Steps p.tables e below (s₁.setTop (mkF m 28 #[.val (.int p0), .val (.int p1), .val (.int p2), .val (.int (1 : Int32)), .unset] [(.int (200 : Int32)), (.int p0)])) _
        refine XS.icmpNo X0.here hx rfl (hb hby d3_28) rfl (feq (by rw [hc65] <;> decide : ¬ (p0 = (200 : Int32)))).1 ?_
        show Steps p.tables e below (s₁.setTop (mkF m 31 #[.val (.int p0), .val (.int p1), .val (.int p2), .val (.int (1 : Int32)), .unset] [])) _
        refine XS.iloadN X0.here hx rfl (hb hby d3_31) rfl ?_
        show Steps p.tables e below (s₁.setTop (mkF m 32 #[.val (.int p0), .val (.int p1), .val (.int p2), .val (.int (1 : Int32)), .unset] [(.int p0)])) _
        refine XS.sipush X0.here hx rfl (hb hby d3_32) ?_
        show Steps p.tables e below (s₁.setTop (mkF m 35 #[.val (.int p0), .val (.int p1), .val (.int p2), .val (.int (1 : Int32)), .unset] [(.int (304 : Int32)), (.int p0)])) _
        refine XS.icmpYes X0.here hx rfl (pc0 := 35) (pc' := 42) rfl (hb hby d3_35) rfl (feq (by rw [hc65] <;> decide : ¬ (p0 = (304 : Int32)))).2 (by decide) (by decide) ?_
        show Steps p.tables e below (s₁.setTop (mkF m 42 #[.val (.int p0), .val (.int p1), .val (.int p2), .val (.int (1 : Int32)), .unset] [])) _
        refine XS.iconst X0.here hx rfl (hb hby d3_42) ?_
        show Steps p.tables e below (s₁.setTop (mkF m 43 #[.val (.int p0), .val (.int p1), .val (.int p2), .val (.int (1 : Int32)), .unset] [(.int (0 : Int32))])) _
        refine XS.istore X0.here hx rfl (hb hby d3_43) rfl (l' := #[.val (.int p0), .val (.int p1), .val (.int p2), .val (.int (1 : Int32)), .val (.int (0 : Int32))]) rfl ?_
        show Steps p.tables e below (s₁.setTop (mkF m 45 #[.val (.int p0), .val (.int p1), .val (.int p2), .val (.int (1 : Int32)), .val (.int (0 : Int32))] [])) _
        refine XS.iloadN X0.here hx rfl (hb hby d3_45) rfl ?_
        show Steps p.tables e below (s₁.setTop (mkF m 46 #[.val (.int p0), .val (.int p1), .val (.int p2), .val (.int (1 : Int32)), .val (.int (0 : Int32))] [(.int (1 : Int32))])) _
        refine XS.ifNo X0.here hx rfl (hb hby d3_46) rfl ((if0 _ _).trans (feq (by decide : ¬ ((1 : Int32) = (0 : Int32)))).1) ?_
        show Steps p.tables e below (s₁.setTop (mkF m 49 #[.val (.int p0), .val (.int p1), .val (.int p2), .val (.int (1 : Int32)), .val (.int (0 : Int32))] [])) _
        refine st69 _ ?_
        show Steps p.tables e below (T69.setTop (mkF m 52 #[.val (.int p0), .val (.int p1), .val (.int p2), .val (.int (1 : Int32)), .val (.int (0 : Int32))] [(.ref w_4)])) _
        jvm_step X69.here [X69.here.top, hx, (hb hby d3_52), X69.method', Bd.returns, Value.isRef, FieldType.isReference]
        first | (intro acts; rw [hr _ acts rfl rfl rfl]) | rw [hr _ _ rfl rfl rfl]
        exact Steps.refl _
      · show Q3 Z w_1 w_2 w_3 w_4 w_5 p0 p1 p2 h0 n0 _ T69.heap _
        rw [e69]
        exact ⟨by unfold sp3; rw [if_pos hc65, if_neg hc67], N0, rfl⟩
  · have pre70 : ∀ t, Steps p.tables e below (s₁.setTop (mkF m 11 #[.val (.int p0), .val (.int p1), .val (.int p2), .unset, .unset] [(.int (410 : Int32)), (.int p0)])) t → Steps p.tables e below (s₁.setTop (entryFrame m #[(.int p0), (.int p1), (.int p2)] 5)) t := fun t kt => by
      refine pre64 t ?_
      show Steps p.tables e below (s₁.setTop (mkF m 4 #[.val (.int p0), .val (.int p1), .val (.int p2), .unset, .unset] [(.int (404 : Int32)), (.int p0)])) _
      refine XS.icmpNo X0.here hx rfl (hb hby d3_4) rfl (feq hc65).1 ?_
      show Steps p.tables e below (s₁.setTop (mkF m 7 #[.val (.int p0), .val (.int p1), .val (.int p2), .unset, .unset] [])) _
      refine XS.iloadN X0.here hx rfl (hb hby d3_7) rfl ?_
      show Steps p.tables e below (s₁.setTop (mkF m 8 #[.val (.int p0), .val (.int p1), .val (.int p2), .unset, .unset] [(.int p0)])) _
      refine XS.sipush X0.here hx rfl (hb hby d3_8) ?_
      show Steps p.tables e below (s₁.setTop (mkF m 11 #[.val (.int p0), .val (.int p1), .val (.int p2), .unset, .unset] [(.int (410 : Int32)), (.int p0)])) _
      exact kt
    by_cases hc71 : p0 = (410 : Int32)
    · have pre72 : ∀ t, Steps p.tables e below (s₁.setTop (mkF m 21 #[.val (.int p0), .val (.int p1), .val (.int p2), .val (.int (1 : Int32)), .unset] [(.int p1)])) t → Steps p.tables e below (s₁.setTop (entryFrame m #[(.int p0), (.int p1), (.int p2)] 5)) t := fun t kt => by
        refine pre70 t ?_
        show Steps p.tables e below (s₁.setTop (mkF m 11 #[.val (.int p0), .val (.int p1), .val (.int p2), .unset, .unset] [(.int (410 : Int32)), (.int p0)])) _
        refine XS.icmpNo X0.here hx rfl (hb hby d3_11) rfl (teq hc71).2 ?_
        show Steps p.tables e below (s₁.setTop (mkF m 14 #[.val (.int p0), .val (.int p1), .val (.int p2), .unset, .unset] [])) _
        refine XS.iconst X0.here hx rfl (hb hby d3_14) ?_
        show Steps p.tables e below (s₁.setTop (mkF m 15 #[.val (.int p0), .val (.int p1), .val (.int p2), .unset, .unset] [(.int (1 : Int32))])) _
        refine XS.goto X0.here hx rfl (pc0 := 15) (pc' := 19) rfl (hb hby d3_15) (by decide) (by decide) ?_
        show Steps p.tables e below (s₁.setTop (mkF m 19 #[.val (.int p0), .val (.int p1), .val (.int p2), .unset, .unset] [(.int (1 : Int32))])) _
        refine XS.istoreN X0.here hx rfl (hb hby d3_19) rfl (l' := #[.val (.int p0), .val (.int p1), .val (.int p2), .val (.int (1 : Int32)), .unset]) rfl ?_
        show Steps p.tables e below (s₁.setTop (mkF m 20 #[.val (.int p0), .val (.int p1), .val (.int p2), .val (.int (1 : Int32)), .unset] [])) _
        refine XS.iloadN X0.here hx rfl (hb hby d3_20) rfl ?_
        show Steps p.tables e below (s₁.setTop (mkF m 21 #[.val (.int p0), .val (.int p1), .val (.int p2), .val (.int (1 : Int32)), .unset] [(.int p1)])) _
        exact kt
      by_cases hc73 : p1 = (0 : Int32)
      · obtain ⟨T74, X74, e74, st74⟩ := getS2 X0 hx hZ hown (host := "") (Or.inl (hw _ (tk 25 rfl))) Via.refl e0 (S_4.ext O0.2) (g := (mkF m 49 #[.val (.int p0), .val (.int p1), .val (.int p2), .val (.int (1 : Int32)), .val (.int (0 : Int32))] [])) rfl (hb hby d3_49)
        obtain ⟨fs, hr, hrun, hended, hW, hsame⟩ := X74.leave (v := some (.ref w_4)) (fun h => by rw [Bd.returns] at h; cases h)
        refine ⟨_, _, pre72 _ ?_, hrun, hended, _, _, rfl, ?_, ⟨_, rfl⟩, hW, hsame.mono (by decide) (by decide)⟩
        · show Steps p.tables e below (s₁.setTop (mkF m 21 #[.val (.int p0), .val (.int p1), .val (.int p2), .val (.int (1 : Int32)), .unset] [(.int p1)])) _
          refine XS.ifYes X0.here hx rfl (pc0 := 21) (pc' := 42) rfl (hb hby d3_21) rfl ((if0 _ _).trans (teq hc73).1) (by decide) (by decide) ?_
          show Steps p.tables e below (s₁.setTop (mkF m 42 #[.val (.int p0), .val (.int p1), .val (.int p2), .val (.int (1 : Int32)), .unset] [])) _
          refine XS.iconst X0.here hx rfl (hb hby d3_42) ?_
          show Steps p.tables e below (s₁.setTop (mkF m 43 #[.val (.int p0), .val (.int p1), .val (.int p2), .val (.int (1 : Int32)), .unset] [(.int (0 : Int32))])) _
          refine XS.istore X0.here hx rfl (hb hby d3_43) rfl (l' := #[.val (.int p0), .val (.int p1), .val (.int p2), .val (.int (1 : Int32)), .val (.int (0 : Int32))]) rfl ?_
          show Steps p.tables e below (s₁.setTop (mkF m 45 #[.val (.int p0), .val (.int p1), .val (.int p2), .val (.int (1 : Int32)), .val (.int (0 : Int32))] [])) _
          refine XS.iloadN X0.here hx rfl (hb hby d3_45) rfl ?_
          show Steps p.tables e below (s₁.setTop (mkF m 46 #[.val (.int p0), .val (.int p1), .val (.int p2), .val (.int (1 : Int32)), .val (.int (0 : Int32))] [(.int (1 : Int32))])) _
          refine XS.ifNo X0.here hx rfl (hb hby d3_46) rfl ((if0 _ _).trans (feq (by decide : ¬ ((1 : Int32) = (0 : Int32)))).1) ?_
          show Steps p.tables e below (s₁.setTop (mkF m 49 #[.val (.int p0), .val (.int p1), .val (.int p2), .val (.int (1 : Int32)), .val (.int (0 : Int32))] [])) _
          refine st74 _ ?_
          show Steps p.tables e below (T74.setTop (mkF m 52 #[.val (.int p0), .val (.int p1), .val (.int p2), .val (.int (1 : Int32)), .val (.int (0 : Int32))] [(.ref w_4)])) _
          jvm_step X74.here [X74.here.top, hx, (hb hby d3_52), X74.method', Bd.returns, Value.isRef, FieldType.isReference]
          first | (intro acts; rw [hr _ acts rfl rfl rfl]) | rw [hr _ _ rfl rfl rfl]
          exact Steps.refl _
        · show Q3 Z w_1 w_2 w_3 w_4 w_5 p0 p1 p2 h0 n0 _ T74.heap _
          rw [e74]
          exact ⟨by unfold sp3; rw [if_neg hc65, if_pos hc71, if_pos hc73], N0, rfl⟩
      · obtain ⟨T75, X75, e75, st75⟩ := getS2 X0 hx hZ hown (host := "") (Or.inl (hw _ (tk 25 rfl))) Via.refl e0 (S_4.ext O0.2) (g := (mkF m 49 #[.val (.int p0), .val (.int p1), .val (.int p2), .val (.int (1 : Int32)), .val (.int (0 : Int32))] [])) rfl (hb hby d3_49)
        obtain ⟨fs, hr, hrun, hended, hW, hsame⟩ := X75.leave (v := some (.ref w_4)) (fun h => by rw [Bd.returns] at h; cases h)
        refine ⟨_, _, pre72 _ ?_, hrun, hended, _, _, rfl, ?_, ⟨_, rfl⟩, hW, hsame.mono (by decide) (by decide)⟩
        · show Steps p.tables e below (s₁.setTop (mkF m 21 #[.val (.int p0), .val (.int p1), .val (.int p2), .val (.int (1 : Int32)), .unset] [(.int p1)])) _
          refine XS.ifNo X0.here hx rfl (hb hby d3_21) rfl ((if0 _ _).trans (feq hc73).1) ?_
          show Steps p.tables e below (s₁.setTop (mkF m 24 #[.val (.int p0), .val (.int p1), .val (.int p2), .val (.int (1 : Int32)), .unset] [])) _
          refine XS.iloadN X0.here hx rfl (hb hby d3_24) rfl ?_
          show Steps p.tables e below (s₁.setTop (mkF m 25 #[.val (.int p0), .val (.int p1), .val (.int p2), .val (.int (1 : Int32)), .unset] [(.int p0)])) _
          refine XS.sipush X0.here hx rfl (hb hby d3_25) ?_
          show Steps p.tables e below (s₁.setTop (mkF m 28 #[.val (.int p0), .val (.int p1), .val (.int p2), .val (.int (1 : Int32)), .unset] [(.int (200 : Int32)), (.int p0)])) _
          refine XS.icmpNo X0.here hx rfl (hb hby d3_28) rfl (feq (by rw [hc71] <;> decide : ¬ (p0 = (200 : Int32)))).1 ?_
          show Steps p.tables e below (s₁.setTop (mkF m 31 #[.val (.int p0), .val (.int p1), .val (.int p2), .val (.int (1 : Int32)), .unset] [])) _
          refine XS.iloadN X0.here hx rfl (hb hby d3_31) rfl ?_
          show Steps p.tables e below (s₁.setTop (mkF m 32 #[.val (.int p0), .val (.int p1), .val (.int p2), .val (.int (1 : Int32)), .unset] [(.int p0)])) _
          refine XS.sipush X0.here hx rfl (hb hby d3_32) ?_
          show Steps p.tables e below (s₁.setTop (mkF m 35 #[.val (.int p0), .val (.int p1), .val (.int p2), .val (.int (1 : Int32)), .unset] [(.int (304 : Int32)), (.int p0)])) _
          refine XS.icmpYes X0.here hx rfl (pc0 := 35) (pc' := 42) rfl (hb hby d3_35) rfl (feq (by rw [hc71] <;> decide : ¬ (p0 = (304 : Int32)))).2 (by decide) (by decide) ?_
          show Steps p.tables e below (s₁.setTop (mkF m 42 #[.val (.int p0), .val (.int p1), .val (.int p2), .val (.int (1 : Int32)), .unset] [])) _
          refine XS.iconst X0.here hx rfl (hb hby d3_42) ?_
          show Steps p.tables e below (s₁.setTop (mkF m 43 #[.val (.int p0), .val (.int p1), .val (.int p2), .val (.int (1 : Int32)), .unset] [(.int (0 : Int32))])) _
          refine XS.istore X0.here hx rfl (hb hby d3_43) rfl (l' := #[.val (.int p0), .val (.int p1), .val (.int p2), .val (.int (1 : Int32)), .val (.int (0 : Int32))]) rfl ?_
          show Steps p.tables e below (s₁.setTop (mkF m 45 #[.val (.int p0), .val (.int p1), .val (.int p2), .val (.int (1 : Int32)), .val (.int (0 : Int32))] [])) _
          refine XS.iloadN X0.here hx rfl (hb hby d3_45) rfl ?_
          show Steps p.tables e below (s₁.setTop (mkF m 46 #[.val (.int p0), .val (.int p1), .val (.int p2), .val (.int (1 : Int32)), .val (.int (0 : Int32))] [(.int (1 : Int32))])) _
          refine XS.ifNo X0.here hx rfl (hb hby d3_46) rfl ((if0 _ _).trans (feq (by decide : ¬ ((1 : Int32) = (0 : Int32)))).1) ?_
          show Steps p.tables e below (s₁.setTop (mkF m 49 #[.val (.int p0), .val (.int p1), .val (.int p2), .val (.int (1 : Int32)), .val (.int (0 : Int32))] [])) _
          refine st75 _ ?_
          show Steps p.tables e below (T75.setTop (mkF m 52 #[.val (.int p0), .val (.int p1), .val (.int p2), .val (.int (1 : Int32)), .val (.int (0 : Int32))] [(.ref w_4)])) _
          jvm_step X75.here [X75.here.top, hx, (hb hby d3_52), X75.method', Bd.returns, Value.isRef, FieldType.isReference]
          first | (intro acts; rw [hr _ acts rfl rfl rfl]) | rw [hr _ _ rfl rfl rfl]
          exact Steps.refl _
        · show Q3 Z w_1 w_2 w_3 w_4 w_5 p0 p1 p2 h0 n0 _ T75.heap _
          rw [e75]
          exact ⟨by unfold sp3; rw [if_neg hc65, if_pos hc71, if_neg hc73], N0, rfl⟩
    · have pre76 : ∀ t, Steps p.tables e below (s₁.setTop (mkF m 21 #[.val (.int p0), .val (.int p1), .val (.int p2), .val (.int (0 : Int32)), .unset] [(.int p1)])) t → Steps p.tables e below (s₁.setTop (entryFrame m #[(.int p0), (.int p1), (.int p2)] 5)) t := fun t kt => by
        refine pre70 t ?_
        show Steps p.tables e below (s₁.setTop (mkF m 11 #[.val (.int p0), .val (.int p1), .val (.int p2), .unset, .unset] [(.int (410 : Int32)), (.int p0)])) _
        refine XS.icmpYes X0.here hx rfl (pc0 := 11) (pc' := 18) rfl (hb hby d3_11) rfl (feq hc71).2 (by decide) (by decide) ?_
        show Steps p.tables e below (s₁.setTop (mkF m 18 #[.val (.int p0), .val (.int p1), .val (.int p2), .unset, .unset] [])) _
        refine XS.iconst X0.here hx rfl (hb hby d3_18) ?_
        show Steps p.tables e below (s₁.setTop (mkF m 19 #[.val (.int p0), .val (.int p1), .val (.int p2), .unset, .unset] [(.int (0 : Int32))])) _
        refine XS.istoreN X0.here hx rfl (hb hby d3_19) rfl (l' := #[.val (.int p0), .val (.int p1), .val (.int p2), .val (.int (0 : Int32)), .unset]) rfl ?_
        show Steps p.tables e below (s₁.setTop (mkF m 20 #[.val (.int p0), .val (.int p1), .val (.int p2), .val (.int (0 : Int32)), .unset] [])) _
        refine XS.iloadN X0.here hx rfl (hb hby d3_20) rfl ?_
        show Steps p.tables e below (s₁.setTop (mkF m 21 #[.val (.int p0), .val (.int p1), .val (.int p2), .val (.int (0 : Int32)), .unset] [(.int p1)])) _
        exact kt
      by_cases hc77 : p1 = (0 : Int32)
      · have pre78 : ∀ t, Steps p.tables e below (s₁.setTop (mkF m 66 #[.val (.int p0), .val (.int p1), .val (.int p2), .val (.int (0 : Int32)), .val (.int (0 : Int32))] [(.int (200 : Int32)), (.int p0)])) t → Steps p.tables e below (s₁.setTop (entryFrame m #[(.int p0), (.int p1), (.int p2)] 5)) t := fun t kt => by
          refine pre76 t ?_
          show Steps p.tables e below (s₁.setTop (mkF m 21 #[.val (.int p0), .val (.int p1), .val (.int p2), .val (.int (0 : Int32)), .unset] [(.int p1)])) _
          refine XS.ifYes X0.here hx rfl (pc0 := 21) (pc' := 42) rfl (hb hby d3_21) rfl ((if0 _ _).trans (teq hc77).1) (by decide) (by decide) ?_
          show Steps p.tables e below (s₁.setTop (mkF m 42 #[.val (.int p0), .val (.int p1), .val (.int p2), .val (.int (0 : Int32)), .unset] [])) _
          refine XS.iconst X0.here hx rfl (hb hby d3_42) ?_
          show Steps p.tables e below (s₁.setTop (mkF m 43 #[.val (.int p0), .val (.int p1), .val (.int p2), .val (.int (0 : Int32)), .unset] [(.int (0 : Int32))])) _
          refine XS.istore X0.here hx rfl (hb hby d3_43) rfl (l' := #[.val (.int p0), .val (.int p1), .val (.int p2), .val (.int (0 : Int32)), .val (.int (0 : Int32))]) rfl ?_
          show Steps p.tables e below (s₁.setTop (mkF m 45 #[.val (.int p0), .val (.int p1), .val (.int p2), .val (.int (0 : Int32)), .val (.int (0 : Int32))] [])) _
          refine XS.iloadN X0.here hx rfl (hb hby d3_45) rfl ?_
          show Steps p.tables e below (s₁.setTop (mkF m 46 #[.val (.int p0), .val (.int p1), .val (.int p2), .val (.int (0 : Int32)), .val (.int (0 : Int32))] [(.int (0 : Int32))])) _
          refine XS.ifYes X0.here hx rfl (pc0 := 46) (pc' := 53) rfl (hb hby d3_46) rfl ((if0 _ _).trans (teq (by decide : ((0 : Int32) = (0 : Int32)))).1) (by decide) (by decide) ?_
          show Steps p.tables e below (s₁.setTop (mkF m 53 #[.val (.int p0), .val (.int p1), .val (.int p2), .val (.int (0 : Int32)), .val (.int (0 : Int32))] [])) _
          refine XS.iload X0.here hx rfl (hb hby d3_53) rfl ?_
          show Steps p.tables e below (s₁.setTop (mkF m 55 #[.val (.int p0), .val (.int p1), .val (.int p2), .val (.int (0 : Int32)), .val (.int (0 : Int32))] [(.int (0 : Int32))])) _
          refine XS.ifYes X0.here hx rfl (pc0 := 55) (pc' := 62) rfl (hb hby d3_55) rfl ((if0 _ _).trans (teq (by decide : ((0 : Int32) = (0 : Int32)))).1) (by decide) (by decide) ?_
          show Steps p.tables e below (s₁.setTop (mkF m 62 #[.val (.int p0), .val (.int p1), .val (.int p2), .val (.int (0 : Int32)), .val (.int (0 : Int32))] [])) _
          refine XS.iloadN X0.here hx rfl (hb hby d3_62) rfl ?_
          show Steps p.tables e below (s₁.setTop (mkF m 63 #[.val (.int p0), .val (.int p1), .val (.int p2), .val (.int (0 : Int32)), .val (.int (0 : Int32))] [(.int p0)])) _
          refine XS.sipush X0.here hx rfl (hb hby d3_63) ?_
          show Steps p.tables e below (s₁.setTop (mkF m 66 #[.val (.int p0), .val (.int p1), .val (.int p2), .val (.int (0 : Int32)), .val (.int (0 : Int32))] [(.int (200 : Int32)), (.int p0)])) _
          exact kt
        by_cases hc79 : p0 = (200 : Int32)
        · have pre80 : ∀ t, Steps p.tables e below (s₁.setTop (mkF m 74 #[.val (.int p0), .val (.int p1), .val (.int p2), .val (.int (0 : Int32)), .val (.int (0 : Int32))] [(.int p2)])) t → Steps p.tables e below (s₁.setTop (entryFrame m #[(.int p0), (.int p1), (.int p2)] 5)) t := fun t kt => by
            refine pre78 t ?_
            show Steps p.tables e below (s₁.setTop (mkF m 66 #[.val (.int p0), .val (.int p1), .val (.int p2), .val (.int (0 : Int32)), .val (.int (0 : Int32))] [(.int (200 : Int32)), (.int p0)])) _
            refine XS.icmpYes X0.here hx rfl (pc0 := 66) (pc' := 73) rfl (hb hby d3_66) rfl (teq hc79).1 (by decide) (by decide) ?_
            show Steps p.tables e below (s₁.setTop (mkF m 73 #[.val (.int p0), .val (.int p1), .val (.int p2), .val (.int (0 : Int32)), .val (.int (0 : Int32))] [])) _
            refine XS.iloadN X0.here hx rfl (hb hby d3_73) rfl ?_
            show Steps p.tables e below (s₁.setTop (mkF m 74 #[.val (.int p0), .val (.int p1), .val (.int p2), .val (.int (0 : Int32)), .val (.int (0 : Int32))] [(.int p2)])) _
            exact kt
          by_cases hc81 : p2 = (0 : Int32)
          · obtain ⟨T82, X82, e82, st82⟩ := getS2 X0 hx hZ hown (host := "") (Or.inl (hw _ (tk 28 rfl))) Via.refl e0 (S_5.ext O0.2) (g := (mkF m 81 #[.val (.int p0), .val (.int p1), .val (.int p2), .val (.int (0 : Int32)), .val (.int (0 : Int32))] [])) rfl (hb hby d3_81)
            obtain ⟨fs, hr, hrun, hended, hW, hsame⟩ := X82.leave (v := some (.ref w_5)) (fun h => by rw [Bd.returns] at h; cases h)
            refine ⟨_, _, pre80 _ ?_, hrun, hended, _, _, rfl, ?_, ⟨_, rfl⟩, hW, hsame.mono (by decide) (by decide)⟩
            · show Steps p.tables e below (s₁.setTop (mkF m 74 #[.val (.int p0), .val (.int p1), .val (.int p2), .val (.int (0 : Int32)), .val (.int (0 : Int32))] [(.int p2)])) _
              refine XS.ifYes X0.here hx rfl (pc0 := 74) (pc' := 81) rfl (hb hby d3_74) rfl ((if0 _ _).trans (teq hc81).1) (by decide) (by decide) ?_
              show Steps p.tables e below (s₁.setTop (mkF m 81 #[.val (.int p0), .val (.int p1), .val (.int p2), .val (.int (0 : Int32)), .val (.int (0 : Int32))] [])) _
              refine st82 _ ?_
              show Steps p.tables e below (T82.setTop (mkF m 84 #[.val (.int p0), .val (.int p1), .val (.int p2), .val (.int (0 : Int32)), .val (.int (0 : Int32))] [(.ref w_5)])) _
              jvm_step X82.here [X82.here.top, hx, (hb hby d3_84), X82.method', Bd.returns, Value.isRef, FieldType.isReference]
              first | (intro acts; rw [hr _ acts rfl rfl rfl]) | rw [hr _ _ rfl rfl rfl]
              exact Steps.refl _
            · show Q3 Z w_1 w_2 w_3 w_4 w_5 p0 p1 p2 h0 n0 _ T82.heap _
              rw [e82]
              exact ⟨by unfold sp3; rw [if_neg hc65, if_neg hc71, if_pos hc77, if_pos hc79, if_pos hc81], N0, rfl⟩
          · obtain ⟨T83, X83, e83, st83⟩ := getS2 X0 hx hZ hown (host := "") (Or.inl (hw _ (tk 13 rfl))) Via.refl e0 (S_1.ext O0.2) (g := (mkF m 77 #[.val (.int p0), .val (.int p1), .val (.int p2), .val (.int (0 : Int32)), .val (.int (0 : Int32))] [])) rfl (hb hby d3_77)
            obtain ⟨fs, hr, hrun, hended, hW, hsame⟩ := X83.leave (v := some (.ref w_1)) (fun h => by rw [Bd.returns] at h; cases h)
            refine ⟨_, _, pre80 _ ?_, hrun, hended, _, _, rfl, ?_, ⟨_, rfl⟩, hW, hsame.mono (by decide) (by decide)⟩
            · show Steps p.tables e below (s₁.setTop (mkF m 74 #[.val (.int p0), .val (.int p1), .val (.int p2), .val (.int (0 : Int32)), .val (.int (0 : Int32))] [(.int p2)])) _
              refine XS.ifNo X0.here hx rfl (hb hby d3_74) rfl ((if0 _ _).trans (feq hc81).1) ?_
              show Steps p.tables e below (s₁.setTop (mkF m 77 #[.val (.int p0), .val (.int p1), .val (.int p2), .val (.int (0 : Int32)), .val (.int (0 : Int32))] [])) _
              refine st83 _ ?_
              show Steps p.tables e below (T83.setTop (mkF m 80 #[.val (.int p0), .val (.int p1), .val (.int p2), .val (.int (0 : Int32)), .val (.int (0 : Int32))] [(.ref w_1)])) _
              jvm_step X83.here [X83.here.top, hx, (hb hby d3_80), X83.method', Bd.returns, Value.isRef, FieldType.isReference]
              first | (intro acts; rw [hr _ acts rfl rfl rfl]) | rw [hr _ _ rfl rfl rfl]
              exact Steps.refl _
            · show Q3 Z w_1 w_2 w_3 w_4 w_5 p0 p1 p2 h0 n0 _ T83.heap _
              rw [e83]
              exact ⟨by unfold sp3; rw [if_neg hc65, if_neg hc71, if_pos hc77, if_pos hc79, if_neg hc81], N0, rfl⟩
        · obtain ⟨T84, X84, e84, st84⟩ := getS2 X0 hx hZ hown (host := "") (Or.inl (hw _ (tk 22 rfl))) Via.refl e0 (S_3.ext O0.2) (g := (mkF m 69 #[.val (.int p0), .val (.int p1), .val (.int p2), .val (.int (0 : Int32)), .val (.int (0 : Int32))] [])) rfl (hb hby d3_69)
          obtain ⟨fs, hr, hrun, hended, hW, hsame⟩ := X84.leave (v := some (.ref w_3)) (fun h => by rw [Bd.returns] at h; cases h)
          refine ⟨_, _, pre78 _ ?_, hrun, hended, _, _, rfl, ?_, ⟨_, rfl⟩, hW, hsame.mono (by decide) (by decide)⟩
          · show Steps p.tables e below (s₁.setTop (mkF m 66 #[.val (.int p0), .val (.int p1), .val (.int p2), .val (.int (0 : Int32)), .val (.int (0 : Int32))] [(.int (200 : Int32)), (.int p0)])) _
            refine XS.icmpNo X0.here hx rfl (hb hby d3_66) rfl (feq hc79).1 ?_
            show Steps p.tables e below (s₁.setTop (mkF m 69 #[.val (.int p0), .val (.int p1), .val (.int p2), .val (.int (0 : Int32)), .val (.int (0 : Int32))] [])) _
            refine st84 _ ?_
            show Steps p.tables e below (T84.setTop (mkF m 72 #[.val (.int p0), .val (.int p1), .val (.int p2), .val (.int (0 : Int32)), .val (.int (0 : Int32))] [(.ref w_3)])) _
            jvm_step X84.here [X84.here.top, hx, (hb hby d3_72), X84.method', Bd.returns, Value.isRef, FieldType.isReference]
            first | (intro acts; rw [hr _ acts rfl rfl rfl]) | rw [hr _ _ rfl rfl rfl]
            exact Steps.refl _
          · show Q3 Z w_1 w_2 w_3 w_4 w_5 p0 p1 p2 h0 n0 _ T84.heap _
            rw [e84]
            exact ⟨by unfold sp3; rw [if_neg hc65, if_neg hc71, if_pos hc77, if_neg hc79], N0, rfl⟩
      · have pre85 : ∀ t, Steps p.tables e below (s₁.setTop (mkF m 28 #[.val (.int p0), .val (.int p1), .val (.int p2), .val (.int (0 : Int32)), .unset] [(.int (200 : Int32)), (.int p0)])) t → Steps p.tables e below (s₁.setTop (entryFrame m #[(.int p0), (.int p1), (.int p2)] 5)) t := fun t kt => by
          refine pre76 t ?_
          show Steps p.tables e below (s₁.setTop (mkF m 21 #[.val (.int p0), .val (.int p1), .val (.int p2), .val (.int (0 : Int32)), .unset] [(.int p1)])) _
          refine XS.ifNo X0.here hx rfl (hb hby d3_21) rfl ((if0 _ _).trans (feq hc77).1) ?_
          show Steps p.tables e below (s₁.setTop (mkF m 24 #[.val (.int p0), .val (.int p1), .val (.int p2), .val (.int (0 : Int32)), .unset] [])) _
          refine XS.iloadN X0.here hx rfl (hb hby d3_24) rfl ?_
          show Steps p.tables e below (s₁.setTop (mkF m 25 #[.val (.int p0), .val (.int p1), .val (.int p2), .val (.int (0 : Int32)), .unset] [(.int p0)])) _
          refine XS.sipush X0.here hx rfl (hb hby d3_25) ?_
          show Steps p.tables e below (s₁.setTop (mkF m 28 #[.val (.int p0), .val (.int p1), .val (.int p2), .val (.int (0 : Int32)), .unset] [(.int (200 : Int32)), (.int p0)])) _
          exact kt
        by_cases hc86 : p0 = (200 : Int32)
        · obtain ⟨T87, X87, e87, st87⟩ := getS2 X0 hx hZ hown (host := "") (Or.inl (hw _ (tk 16 rfl))) Via.refl e0 (S_2.ext O0.2) (g := (mkF m 58 #[.val (.int p0), .val (.int p1), .val (.int p2), .val (.int (0 : Int32)), .val (.int (1 : Int32))] [])) rfl (hb hby d3_58)
          obtain ⟨fs, hr, hrun, hended, hW, hsame⟩ := X87.leave (v := some (.ref w_2)) (fun h => by rw [Bd.returns] at h; cases h)
          refine ⟨_, _, pre85 _ ?_, hrun, hended, _, _, rfl, ?_, ⟨_, rfl⟩, hW, hsame.mono (by decide) (by decide)⟩
          · show Steps p.tables e below (s₁.setTop (mkF m 28 #[.val (.int p0), .val (.int p1), .val (.int p2), .val (.int (0 : Int32)), .unset] [(.int (200 : Int32)), (.int p0)])) _
            refine XS.icmpYes X0.here hx rfl (pc0 := 28) (pc' := 38) rfl (hb hby d3_28) rfl (teq hc86).1 (by decide) (by decide) ?_
            show Steps p.tables e below (s₁.setTop (mkF m 38 #[.val (.int p0), .val (.int p1), .val (.int p2), .val (.int (0 : Int32)), .unset] [])) _
            refine XS.iconst X0.here hx rfl (hb hby d3_38) ?_
            show Steps p.tables e below (s₁.setTop (mkF m 39 #[.val (.int p0), .val (.int p1), .val (.int p2), .val (.int (0 : Int32)), .unset] [(.int (1 : Int32))])) _
            refine XS.goto X0.here hx rfl (pc0 := 39) (pc' := 43) rfl (hb hby d3_39) (by decide) (by decide) ?_
            show Steps p.tables e below (s₁.setTop (mkF m 43 #[.val (.int p0), .val (.int p1), .val (.int p2), .val (.int (0 : Int32)), .unset] [(.int (1 : Int32))])) _
            refine XS.istore X0.here hx rfl (hb hby d3_43) rfl (l' := #[.val (.int p0), .val (.int p1), .val (.int p2), .val (.int (0 : Int32)), .val (.int (1 : Int32))]) rfl ?_
            show Steps p.tables e below (s₁.setTop (mkF m 45 #[.val (.int p0), .val (.int p1), .val (.int p2), .val (.int (0 : Int32)), .val (.int (1 : Int32))] [])) _
            refine XS.iloadN X0.here hx rfl (hb hby d3_45) rfl ?_
            show Steps p.tables e below (s₁.setTop (mkF m 46 #[.val (.int p0), .val (.int p1), .val (.int p2), .val (.int (0 : Int32)), .val (.int (1 : Int32))] [(.int (0 : Int32))])) _
            refine XS.ifYes X0.here hx rfl (pc0 := 46) (pc' := 53) rfl (hb hby d3_46) rfl ((if0 _ _).trans (teq (by decide : ((0 : Int32) = (0 : Int32)))).1) (by decide) (by decide) ?_
            show Steps p.tables e below (s₁.setTop (mkF m 53 #[.val (.int p0), .val (.int p1), .val (.int p2), .val (.int (0 : Int32)), .val (.int (1 : Int32))] [])) _
            refine XS.iload X0.here hx rfl (hb hby d3_53) rfl ?_
            show Steps p.tables e below (s₁.setTop (mkF m 55 #[.val (.int p0), .val (.int p1), .val (.int p2), .val (.int (0 : Int32)), .val (.int (1 : Int32))] [(.int (1 : Int32))])) _
            refine XS.ifNo X0.here hx rfl (hb hby d3_55) rfl ((if0 _ _).trans (feq (by decide : ¬ ((1 : Int32) = (0 : Int32)))).1) ?_
            show Steps p.tables e below (s₁.setTop (mkF m 58 #[.val (.int p0), .val (.int p1), .val (.int p2), .val (.int (0 : Int32)), .val (.int (1 : Int32))] [])) _
            refine st87 _ ?_
            show Steps p.tables e below (T87.setTop (mkF m 61 #[.val (.int p0), .val (.int p1), .val (.int p2), .val (.int (0 : Int32)), .val (.int (1 : Int32))] [(.ref w_2)])) _
            jvm_step X87.here [X87.here.top, hx, (hb hby d3_61), X87.method', Bd.returns, Value.isRef, FieldType.isReference]
            first | (intro acts; rw [hr _ acts rfl rfl rfl]) | rw [hr _ _ rfl rfl rfl]
            exact Steps.refl _
          · show Q3 Z w_1 w_2 w_3 w_4 w_5 p0 p1 p2 h0 n0 _ T87.heap _
            rw [e87]
            exact ⟨by unfold sp3; rw [if_neg hc65, if_neg hc71, if_neg hc77, if_pos hc86], N0, rfl⟩
        · have pre88 : ∀ t, Steps p.tables e below (s₁.setTop (mkF m 35 #[.val (.int p0), .val (.int p1), .val (.int p2), .val (.int (0 : Int32)), .unset] [(.int (304 : Int32)), (.int p0)])) t → Steps p.tables e below (s₁.setTop (entryFrame m #[(.int p0), (.int p1), (.int p2)] 5)) t := fun t kt => by
            refine pre85 t ?_
            show Steps p.tables e below (s₁.setTop (mkF m 28 #[.val (.int p0), .val (.int p1), .val (.int p2), .val (.int (0 : Int32)), .unset] [(.int (200 : Int32)), (.int p0)])) _
            refine XS.icmpNo X0.here hx rfl (hb hby d3_28) rfl (feq hc86).1 ?_
            show Steps p.tables e below (s₁.setTop (mkF m 31 #[.val (.int p0), .val (.int p1), .val (.int p2), .val (.int (0 : Int32)), .unset] [])) _
            refine XS.iloadN X0.here hx rfl (hb hby d3_31) rfl ?_
            show Steps p.tables e below (s₁.setTop (mkF m 32 #[.val (.int p0), .val (.int p1), .val (.int p2), .val (.int (0 : Int32)), .unset] [(.int p0)])) _
            refine XS.sipush X0.here hx rfl (hb hby d3_32) ?_
            show Steps p.tables e below (s₁.setTop (mkF m 35 #[.val (.int p0), .val (.int p1), .val (.int p2), .val (.int (0 : Int32)), .unset] [(.int (304 : Int32)), (.int p0)])) _
            exact kt
          by_cases hc89 : p0 = (304 : Int32)
          · obtain ⟨T90, X90, e90, st90⟩ := getS2 X0 hx hZ hown (host := "") (Or.inl (hw _ (tk 16 rfl))) Via.refl e0 (S_2.ext O0.2) (g := (mkF m 58 #[.val (.int p0), .val (.int p1), .val (.int p2), .val (.int (0 : Int32)), .val (.int (1 : Int32))] [])) rfl (hb hby d3_58)
            obtain ⟨fs, hr, hrun, hended, hW, hsame⟩ := X90.leave (v := some (.ref w_2)) (fun h => by rw [Bd.returns] at h; cases h)
            refine ⟨_, _, pre88 _ ?_, hrun, hended, _, _, rfl, ?_, ⟨_, rfl⟩, hW, hsame.mono (by decide) (by decide)⟩
            · show Steps p.tables e below (s₁.setTop (mkF m 35 #[.val (.int p0), .val (.int p1), .val (.int p2), .val (.int (0 : Int32)), .unset] [(.int (304 : Int32)), (.int p0)])) _
              refine XS.icmpNo X0.here hx rfl (hb hby d3_35) rfl (teq hc89).2 ?_
              show Steps p.tables e below (s₁.setTop (mkF m 38 #[.val (.int p0), .val (.int p1), .val (.int p2), .val (.int (0 : Int32)), .unset] [])) _
              refine XS.iconst X0.here hx rfl (hb hby d3_38) ?_
              show Steps p.tables e below (s₁.setTop (mkF m 39 #[.val (.int p0), .val (.int p1), .val (.int p2), .val (.int (0 : Int32)), .unset] [(.int (1 : Int32))])) _
              refine XS.goto X0.here hx rfl (pc0 := 39) (pc' := 43) rfl (hb hby d3_39) (by decide) (by decide) ?_
              show Steps p.tables e below (s₁.setTop (mkF m 43 #[.val (.int p0), .val (.int p1), .val (.int p2), .val (.int (0 : Int32)), .unset] [(.int (1 : Int32))])) _
              refine XS.istore X0.here hx rfl (hb hby d3_43) rfl (l' := #[.val (.int p0), .val (.int p1), .val (.int p2), .val (.int (0 : Int32)), .val (.int (1 : Int32))]) rfl ?_
              show Steps p.tables e below (s₁.setTop (mkF m 45 #[.val (.int p0), .val (.int p1), .val (.int p2), .val (.int (0 : Int32)), .val (.int (1 : Int32))] [])) _
              refine XS.iloadN X0.here hx rfl (hb hby d3_45) rfl ?_
              show Steps p.tables e below (s₁.setTop (mkF m 46 #[.val (.int p0), .val (.int p1), .val (.int p2), .val (.int (0 : Int32)), .val (.int (1 : Int32))] [(.int (0 : Int32))])) _
              refine XS.ifYes X0.here hx rfl (pc0 := 46) (pc' := 53) rfl (hb hby d3_46) rfl ((if0 _ _).trans (teq (by decide : ((0 : Int32) = (0 : Int32)))).1) (by decide) (by decide) ?_
              show Steps p.tables e below (s₁.setTop (mkF m 53 #[.val (.int p0), .val (.int p1), .val (.int p2), .val (.int (0 : Int32)), .val (.int (1 : Int32))] [])) _
              refine XS.iload X0.here hx rfl (hb hby d3_53) rfl ?_
              show Steps p.tables e below (s₁.setTop (mkF m 55 #[.val (.int p0), .val (.int p1), .val (.int p2), .val (.int (0 : Int32)), .val (.int (1 : Int32))] [(.int (1 : Int32))])) _
              refine XS.ifNo X0.here hx rfl (hb hby d3_55) rfl ((if0 _ _).trans (feq (by decide : ¬ ((1 : Int32) = (0 : Int32)))).1) ?_
              show Steps p.tables e below (s₁.setTop (mkF m 58 #[.val (.int p0), .val (.int p1), .val (.int p2), .val (.int (0 : Int32)), .val (.int (1 : Int32))] [])) _
              refine st90 _ ?_
              show Steps p.tables e below (T90.setTop (mkF m 61 #[.val (.int p0), .val (.int p1), .val (.int p2), .val (.int (0 : Int32)), .val (.int (1 : Int32))] [(.ref w_2)])) _
              jvm_step X90.here [X90.here.top, hx, (hb hby d3_61), X90.method', Bd.returns, Value.isRef, FieldType.isReference]
              first | (intro acts; rw [hr _ acts rfl rfl rfl]) | rw [hr _ _ rfl rfl rfl]
              exact Steps.refl _
            · show Q3 Z w_1 w_2 w_3 w_4 w_5 p0 p1 p2 h0 n0 _ T90.heap _
              rw [e90]
              exact ⟨by unfold sp3; rw [if_neg hc65, if_neg hc71, if_neg hc77, if_neg hc86, if_pos hc89], N0, rfl⟩
          · obtain ⟨T91, X91, e91, st91⟩ := getS2 X0 hx hZ hown (host := "") (Or.inl (hw _ (tk 22 rfl))) Via.refl e0 (S_3.ext O0.2) (g := (mkF m 69 #[.val (.int p0), .val (.int p1), .val (.int p2), .val (.int (0 : Int32)), .val (.int (0 : Int32))] [])) rfl (hb hby d3_69)
            obtain ⟨fs, hr, hrun, hended, hW, hsame⟩ := X91.leave (v := some (.ref w_3)) (fun h => by rw [Bd.returns] at h; cases h)
            refine ⟨_, _, pre88 _ ?_, hrun, hended, _, _, rfl, ?_, ⟨_, rfl⟩, hW, hsame.mono (by decide) (by decide)⟩
            · show Steps p.tables e below (s₁.setTop (mkF m 35 #[.val (.int p0), .val (.int p1), .val (.int p2), .val (.int (0 : Int32)), .unset] [(.int (304 : Int32)), (.int p0)])) _
              refine XS.icmpYes X0.here hx rfl (pc0 := 35) (pc' := 42) rfl (hb hby d3_35) rfl (feq hc89).2 (by decide) (by decide) ?_
              show Steps p.tables e below (s₁.setTop (mkF m 42 #[.val (.int p0), .val (.int p1), .val (.int p2), .val (.int (0 : Int32)), .unset] [])) _
              refine XS.iconst X0.here hx rfl (hb hby d3_42) ?_
              show Steps p.tables e below (s₁.setTop (mkF m 43 #[.val (.int p0), .val (.int p1), .val (.int p2), .val (.int (0 : Int32)), .unset] [(.int (0 : Int32))])) _
              refine XS.istore X0.here hx rfl (hb hby d3_43) rfl (l' := #[.val (.int p0), .val (.int p1), .val (.int p2), .val (.int (0 : Int32)), .val (.int (0 : Int32))]) rfl ?_
              show Steps p.tables e below (s₁.setTop (mkF m 45 #[.val (.int p0), .val (.int p1), .val (.int p2), .val (.int (0 : Int32)), .val (.int (0 : Int32))] [])) _
              refine XS.iloadN X0.here hx rfl (hb hby d3_45) rfl ?_
              show Steps p.tables e below (s₁.setTop (mkF m 46 #[.val (.int p0), .val (.int p1), .val (.int p2), .val (.int (0 : Int32)), .val (.int (0 : Int32))] [(.int (0 : Int32))])) _
              refine XS.ifYes X0.here hx rfl (pc0 := 46) (pc' := 53) rfl (hb hby d3_46) rfl ((if0 _ _).trans (teq (by decide : ((0 : Int32) = (0 : Int32)))).1) (by decide) (by decide) ?_
              show Steps p.tables e below (s₁.setTop (mkF m 53 #[.val (.int p0), .val (.int p1), .val (.int p2), .val (.int (0 : Int32)), .val (.int (0 : Int32))] [])) _
              refine XS.iload X0.here hx rfl (hb hby d3_53) rfl ?_
              show Steps p.tables e below (s₁.setTop (mkF m 55 #[.val (.int p0), .val (.int p1), .val (.int p2), .val (.int (0 : Int32)), .val (.int (0 : Int32))] [(.int (0 : Int32))])) _
              refine XS.ifYes X0.here hx rfl (pc0 := 55) (pc' := 62) rfl (hb hby d3_55) rfl ((if0 _ _).trans (teq (by decide : ((0 : Int32) = (0 : Int32)))).1) (by decide) (by decide) ?_
              show Steps p.tables e below (s₁.setTop (mkF m 62 #[.val (.int p0), .val (.int p1), .val (.int p2), .val (.int (0 : Int32)), .val (.int (0 : Int32))] [])) _
              refine XS.iloadN X0.here hx rfl (hb hby d3_62) rfl ?_
              show Steps p.tables e below (s₁.setTop (mkF m 63 #[.val (.int p0), .val (.int p1), .val (.int p2), .val (.int (0 : Int32)), .val (.int (0 : Int32))] [(.int p0)])) _
              refine XS.sipush X0.here hx rfl (hb hby d3_63) ?_
              show Steps p.tables e below (s₁.setTop (mkF m 66 #[.val (.int p0), .val (.int p1), .val (.int p2), .val (.int (0 : Int32)), .val (.int (0 : Int32))] [(.int (200 : Int32)), (.int p0)])) _
              refine XS.icmpNo X0.here hx rfl (hb hby d3_66) rfl (feq hc86).1 ?_
              show Steps p.tables e below (s₁.setTop (mkF m 69 #[.val (.int p0), .val (.int p1), .val (.int p2), .val (.int (0 : Int32)), .val (.int (0 : Int32))] [])) _
              refine st91 _ ?_
              show Steps p.tables e below (T91.setTop (mkF m 72 #[.val (.int p0), .val (.int p1), .val (.int p2), .val (.int (0 : Int32)), .val (.int (0 : Int32))] [(.ref w_3)])) _
              jvm_step X91.here [X91.here.top, hx, (hb hby d3_72), X91.method', Bd.returns, Value.isRef, FieldType.isReference]
              first | (intro acts; rw [hr _ acts rfl rfl rfl]) | rw [hr _ _ rfl rfl rfl]
              exact Steps.refl _
            · show Q3 Z w_1 w_2 w_3 w_4 w_5 p0 p1 p2 h0 n0 _ T91.heap _
              rw [e91]
              exact ⟨by unfold sp3; rw [if_neg hc65, if_neg hc71, if_neg hc77, if_neg hc86, if_neg hc89], N0, rfl⟩
theorem pd_1 : parseMethodDescriptor "(II)I" = some ⟨[.int, .int], some .int⟩ := by decide +kernel
theorem pd_2 : parseMethodDescriptor "(IZZ)Lcom/example/bristlecone/bristlecone/model/Verdict;" = some ⟨[.int, .boolean, .boolean], some (.object "com/example/bristlecone/bristlecone/model/Verdict")⟩ := by decide +kernel
theorem pn_0 : plainName "com/example/bristlecone/bristlecone/model/VerdictJudgePinLaw" = true := by first | (simp [plainName, overriddenIn]; done) | decide +kernel
theorem ef_0 (m : MethodId) (p0 : Int32) (p1 : Int32) (p2 : Int32) : entryFrame m #[(.int p0), (.int p1), (.int p2)] maxLocals = mkF m 0 #[.val (.int p0), .val (.int p1), .val (.int p2), .unset, .unset, .unset, .unset] [] := by first | (simp [entryFrame, mkF, argsToLocals, Value.category, maxLocals]; done) | rfl
def sp0 (p0 : Int32) (p1 : Int32) (p2 : Int32) : Int32 := (if (p2 &&& (1 : Int32)) = (0 : Int32) then (if (p2 &&& (2 : Int32)) = (0 : Int32) then (if (sp1 p0 p1) = (404 : Int32) then (1 : Int32) else (if (sp1 p0 p1) = (410 : Int32) then (1 : Int32) else (if (sp1 p0 p1) = (304 : Int32) then (1 : Int32) else (if (sp1 p0 p1) = (200 : Int32) then (1 : Int32) else (1 : Int32))))) else (if (sp1 p0 p1) = (404 : Int32) then (1 : Int32) else (if (sp1 p0 p1) = (410 : Int32) then (1 : Int32) else (if (sp1 p0 p1) = (304 : Int32) then (1 : Int32) else (if (sp1 p0 p1) = (200 : Int32) then (1 : Int32) else (1 : Int32)))))) else (if (p2 &&& (2 : Int32)) = (0 : Int32) then (if (sp1 p0 p1) = (404 : Int32) then (1 : Int32) else (if (sp1 p0 p1) = (410 : Int32) then (1 : Int32) else (if (sp1 p0 p1) = (304 : Int32) then (1 : Int32) else (if (sp1 p0 p1) = (200 : Int32) then (1 : Int32) else (1 : Int32))))) else (if (sp1 p0 p1) = (404 : Int32) then (1 : Int32) else (if (sp1 p0 p1) = (410 : Int32) then (1 : Int32) else (if (sp1 p0 p1) = (304 : Int32) then (1 : Int32) else (if (sp1 p0 p1) = (200 : Int32) then (1 : Int32) else (1 : Int32)))))))
def Q0 (Z : State) (w_1 : Addr) (w_2 : Addr) (w_3 : Addr) (w_4 : Addr) (w_5 : Addr) (p0 : Int32) (p1 : Int32) (p2 : Int32) (h0 : Heap) (n0 : Nat) (v : Option Value) (h : Heap) (L : List Loc) : Prop := v = some (.int (sp0 p0 p1 p2)) ∧ Fr n0 L ∧ h = h0
set_option maxRecDepth 65536 in
set_option maxHeartbeats 40000000 in
theorem rm0 (l : Launch) (Z : State) (a0 : Array Value) (hw : ∀ d ∈ tables_1, d.before a0 Z = true) (ws : List Jvm.Cond) (w_1 : Addr) (w_2 : Addr) (w_3 : Addr) (w_4 : Addr) (w_5 : Addr) (hS : StF Z w_1 w_2 w_3 w_4 w_5) (p0 : Int32) (p1 : Int32) (p2 : Int32) (h0 : Heap) (n0 : Nat) (O0 : Old Z n0 h0) :
    MetFree l x (head1 (Jvm.Cond.code x code maxLocals ret :: ws) room_1) (fun a U => a = #[(.int p0), (.int p1), (.int p2)] ∧ Z.Warmed39 U.vm ∧ U.heap = h0) (fun _ _ _ _ _ => True) (fun _ U o U' => ∃ v L, o = .returned v ∧ Q0 Z w_1 w_2 w_3 w_4 w_5 p0 p1 p2 h0 n0 v U'.heap L ∧ FrameEnd U o U' L room_1.cells room_1.slots) := by
  refine MetFree.of_bodySF (plainFor_of_name pn_0) hisR ?_
  intro p e s m args below meth c s₁ Bd hml0 hP hK
  obtain ⟨rfl, hZ, hh⟩ := hP
  have hx := Bd.exec
  have hby := Bd.bytes
  have hml : c.maxLocals = 7 := hml0
  have hown : s.vm.findClass "com/example/bristlecone/bristlecone/model/VerdictJudgePinLaw" = some m.cls := findClass_of_methodNamed Bd.named
  have hnm := (name_of_methodNamed Bd.named Bd.method).1
  have X0 : Stand p l e room_1 s m #[(.int p0), (.int p1), (.int p2)] below meth c s₁ [] 0 0 := Stand.of_body Bd
  have e0 : s₁.heap = h0 := by rw [← hh, Bd.state]; rfl
  have N0 := Fr.nil n0
  have hS0 := hS
  obtain ⟨S_1, E_1, S_2, E_2, S_3, E_3, S_4, E_4, S_5, E_5⟩ := hS
  have pre0 : ∀ t, Steps p.tables e below (s₁.setTop (mkF m 0 #[.val (.int p0), .val (.int p1), .val (.int p2), .unset, .unset, .unset, .unset] [])) t → Steps p.tables e below (s₁.setTop (entryFrame m #[(.int p0), (.int p1), (.int p2)] maxLocals)) t := fun t k => castTop (ef_0 m p0 p1 p2) k
  have pre9 : ∀ t, Steps p.tables e below (s₁.setTop (mkF m 3 #[.val (.int p0), .val (.int p1), .val (.int p2), .unset, .unset, .unset, .unset] [(.int (p2 &&& (1 : Int32)))])) t → Steps p.tables e below (s₁.setTop (entryFrame m #[(.int p0), (.int p1), (.int p2)] maxLocals)) t := fun t kt => by
    refine pre0 t ?_
    show Steps p.tables e below (s₁.setTop (mkF m 0 #[.val (.int p0), .val (.int p1), .val (.int p2), .unset, .unset, .unset, .unset] [])) _
    refine XS.iloadN X0.here hx rfl (hb hby at_0) rfl ?_
    show Steps p.tables e below (s₁.setTop (mkF m 1 #[.val (.int p0), .val (.int p1), .val (.int p2), .unset, .unset, .unset, .unset] [(.int p2)])) _
    refine XS.iconst X0.here hx rfl (hb hby at_1) ?_
    show Steps p.tables e below (s₁.setTop (mkF m 2 #[.val (.int p0), .val (.int p1), .val (.int p2), .unset, .unset, .unset, .unset] [(.int (1 : Int32)), (.int p2)])) _
    refine XS.iand X0.here hx rfl (hb hby at_2) rfl ?_
    show Steps p.tables e below (s₁.setTop (mkF m 3 #[.val (.int p0), .val (.int p1), .val (.int p2), .unset, .unset, .unset, .unset] [(.int (p2 &&& (1 : Int32)))])) _
    exact kt
  by_cases hc10 : (p2 &&& (1 : Int32)) = (0 : Int32)
  · have pre11 : ∀ t, Steps p.tables e below (s₁.setTop (mkF m 15 #[.val (.int p0), .val (.int p1), .val (.int p2), .val (.int (0 : Int32)), .unset, .unset, .unset] [(.int (p2 &&& (2 : Int32)))])) t → Steps p.tables e below (s₁.setTop (entryFrame m #[(.int p0), (.int p1), (.int p2)] maxLocals)) t := fun t kt => by
      refine pre9 t ?_
      show Steps p.tables e below (s₁.setTop (mkF m 3 #[.val (.int p0), .val (.int p1), .val (.int p2), .unset, .unset, .unset, .unset] [(.int (p2 &&& (1 : Int32)))])) _
      refine XS.ifYes X0.here hx rfl (pc0 := 3) (pc' := 10) rfl (hb hby at_3) rfl ((if0 _ _).trans (teq hc10).1) (by decide) (by decide) ?_
      show Steps p.tables e below (s₁.setTop (mkF m 10 #[.val (.int p0), .val (.int p1), .val (.int p2), .unset, .unset, .unset, .unset] [])) _
      refine XS.iconst X0.here hx rfl (hb hby at_10) ?_
      show Steps p.tables e below (s₁.setTop (mkF m 11 #[.val (.int p0), .val (.int p1), .val (.int p2), .unset, .unset, .unset, .unset] [(.int (0 : Int32))])) _
      refine XS.istoreN X0.here hx rfl (hb hby at_11) rfl (l' := #[.val (.int p0), .val (.int p1), .val (.int p2), .val (.int (0 : Int32)), .unset, .unset, .unset]) rfl ?_
      show Steps p.tables e below (s₁.setTop (mkF m 12 #[.val (.int p0), .val (.int p1), .val (.int p2), .val (.int (0 : Int32)), .unset, .unset, .unset] [])) _
      refine XS.iloadN X0.here hx rfl (hb hby at_12) rfl ?_
      show Steps p.tables e below (s₁.setTop (mkF m 13 #[.val (.int p0), .val (.int p1), .val (.int p2), .val (.int (0 : Int32)), .unset, .unset, .unset] [(.int p2)])) _
      refine XS.iconst X0.here hx rfl (hb hby at_13) ?_
      show Steps p.tables e below (s₁.setTop (mkF m 14 #[.val (.int p0), .val (.int p1), .val (.int p2), .val (.int (0 : Int32)), .unset, .unset, .unset] [(.int (2 : Int32)), (.int p2)])) _
      refine XS.iand X0.here hx rfl (hb hby at_14) rfl ?_
      show Steps p.tables e below (s₁.setTop (mkF m 15 #[.val (.int p0), .val (.int p1), .val (.int p2), .val (.int (0 : Int32)), .unset, .unset, .unset] [(.int (p2 &&& (2 : Int32)))])) _
      exact kt
    by_cases hc12 : (p2 &&& (2 : Int32)) = (0 : Int32)
    · obtain ⟨_, _, ⟨T38, L38, k38, n38⟩, -, X38, ⟨Lc38, hQ38, l38, y38, z38⟩, st38⟩ := Jvm.LawKit.callS X0 hx (y := Y1) hown (mvT hZ (hw _ (tk 0 rfl))) (mvT hZ (hw _ (tk 1 rfl))) (mvT hZ (hw _ (tk 2 rfl))) (mvT hZ (hw _ (tk 3 rfl))) (by decide) (backOf (W := 0) (rm1 l Z a0 hw [] w_1 w_2 w_3 w_4 w_5 hS0 p0 p1 h0 n0 O0) hZ (hw _ (tk 3 rfl)) (hw _ (tk 2 rfl)) (by decide) (by decide)) (g := (mkF m 27 #[.val (.int p0), .val (.int p1), .val (.int p2), .val (.int (0 : Int32)), .val (.int (0 : Int32)), .unset, .unset] [(.int p1), (.int p0)])) rfl (by rw [hml]; rfl) (argsL := [(.int p0), (.int p1)]) (rest := []) (lenOf pd_1 rfl) rfl (by show 2 * 0 + _ ≤ _; exact Nat.le_of_eq rfl) (hb hby at_27) (fun _ _ => ⟨rfl, e0, (by decide : 0 + 0 ≤ _), (by decide : 0 + 0 ≤ _)⟩)
      dsimp only [Pt.U, Pt.locs, Pt.cells, Pt.slots] at X38 l38 y38 z38 st38 hQ38
      subst l38 y38 z38
      obtain ⟨rv38, N38q, e38⟩ := hQ38
      subst rv38
      have N38 := Fr.app N0 N38q
      have pre61 : ∀ t, Steps p.tables e below (T38.setTop (mkF m 37 #[.val (.int p0), .val (.int p1), .val (.int p2), .val (.int (0 : Int32)), .val (.int (0 : Int32)), .val (.int (sp1 p0 p1)), .unset] [(.int (0 : Int32)), (.int (0 : Int32)), (.int (sp1 p0 p1))])) t → Steps p.tables e below (s₁.setTop (entryFrame m #[(.int p0), (.int p1), (.int p2)] maxLocals)) t := fun t kt => by
        refine pre11 t ?_
        show Steps p.tables e below (s₁.setTop (mkF m 15 #[.val (.int p0), .val (.int p1), .val (.int p2), .val (.int (0 : Int32)), .unset, .unset, .unset] [(.int (p2 &&& (2 : Int32)))])) _
        refine XS.ifYes X0.here hx rfl (pc0 := 15) (pc' := 22) rfl (hb hby at_15) rfl ((if0 _ _).trans (teq hc12).1) (by decide) (by decide) ?_
        show Steps p.tables e below (s₁.setTop (mkF m 22 #[.val (.int p0), .val (.int p1), .val (.int p2), .val (.int (0 : Int32)), .unset, .unset, .unset] [])) _
        refine XS.iconst X0.here hx rfl (hb hby at_22) ?_
        show Steps p.tables e below (s₁.setTop (mkF m 23 #[.val (.int p0), .val (.int p1), .val (.int p2), .val (.int (0 : Int32)), .unset, .unset, .unset] [(.int (0 : Int32))])) _
        refine XS.istore X0.here hx rfl (hb hby at_23) rfl (l' := #[.val (.int p0), .val (.int p1), .val (.int p2), .val (.int (0 : Int32)), .val (.int (0 : Int32)), .unset, .unset]) rfl ?_
        show Steps p.tables e below (s₁.setTop (mkF m 25 #[.val (.int p0), .val (.int p1), .val (.int p2), .val (.int (0 : Int32)), .val (.int (0 : Int32)), .unset, .unset] [])) _
        refine XS.iloadN X0.here hx rfl (hb hby at_25) rfl ?_
        show Steps p.tables e below (s₁.setTop (mkF m 26 #[.val (.int p0), .val (.int p1), .val (.int p2), .val (.int (0 : Int32)), .val (.int (0 : Int32)), .unset, .unset] [(.int p0)])) _
        refine XS.iloadN X0.here hx rfl (hb hby at_26) rfl ?_
        show Steps p.tables e below (s₁.setTop (mkF m 27 #[.val (.int p0), .val (.int p1), .val (.int p2), .val (.int (0 : Int32)), .val (.int (0 : Int32)), .unset, .unset] [(.int p1), (.int p0)])) _
        refine st38 _ ?_
        show Steps p.tables e below (T38.setTop (mkF m 30 #[.val (.int p0), .val (.int p1), .val (.int p2), .val (.int (0 : Int32)), .val (.int (0 : Int32)), .unset, .unset] [(.int (sp1 p0 p1))])) _
        refine XS.istore X38.here hx rfl (hb hby at_30) rfl (l' := #[.val (.int p0), .val (.int p1), .val (.int p2), .val (.int (0 : Int32)), .val (.int (0 : Int32)), .val (.int (sp1 p0 p1)), .unset]) rfl ?_
        show Steps p.tables e below (T38.setTop (mkF m 32 #[.val (.int p0), .val (.int p1), .val (.int p2), .val (.int (0 : Int32)), .val (.int (0 : Int32)), .val (.int (sp1 p0 p1)), .unset] [])) _
        refine XS.iload X38.here hx rfl (hb hby at_32) rfl ?_
        show Steps p.tables e below (T38.setTop (mkF m 34 #[.val (.int p0), .val (.int p1), .val (.int p2), .val (.int (0 : Int32)), .val (.int (0 : Int32)), .val (.int (sp1 p0 p1)), .unset] [(.int (sp1 p0 p1))])) _
        refine XS.iloadN X38.here hx rfl (hb hby at_34) rfl ?_
        show Steps p.tables e below (T38.setTop (mkF m 35 #[.val (.int p0), .val (.int p1), .val (.int p2), .val (.int (0 : Int32)), .val (.int (0 : Int32)), .val (.int (sp1 p0 p1)), .unset] [(.int (0 : Int32)), (.int (sp1 p0 p1))])) _
        refine XS.iload X38.here hx rfl (hb hby at_35) rfl ?_
        show Steps p.tables e below (T38.setTop (mkF m 37 #[.val (.int p0), .val (.int p1), .val (.int p2), .val (.int (0 : Int32)), .val (.int (0 : Int32)), .val (.int (sp1 p0 p1)), .unset] [(.int (0 : Int32)), (.int (0 : Int32)), (.int (sp1 p0 p1))])) _
        exact kt
      by_cases hc62 : (sp1 p0 p1) = (404 : Int32)
      · obtain ⟨_, _, ⟨T63, L63, k63, n63⟩, -, X63, ⟨Lc63, hQ63, l63, y63, z63⟩, st63⟩ := Jvm.LawKit.callS X38 hx (y := Y2) hown (mvT hZ (hw _ (tk 4 rfl))) (mvT hZ (hw _ (tk 5 rfl))) (mvT hZ (hw _ (tk 6 rfl))) (mvT hZ (hw _ (tk 7 rfl))) (by decide) (backOf (W := 0) (rm2 l Z a0 hw [] w_1 w_2 w_3 w_4 w_5 hS0 (sp1 p0 p1) (0 : Int32) (0 : Int32) h0 n0 O0) hZ (hw _ (tk 7 rfl)) (hw _ (tk 6 rfl)) (by decide) (by decide)) (g := (mkF m 37 #[.val (.int p0), .val (.int p1), .val (.int p2), .val (.int (0 : Int32)), .val (.int (0 : Int32)), .val (.int (sp1 p0 p1)), .unset] [(.int (0 : Int32)), (.int (0 : Int32)), (.int (sp1 p0 p1))])) rfl (by rw [hml]; rfl) (argsL := [(.int (sp1 p0 p1)), (.int (0 : Int32)), (.int (0 : Int32))]) (rest := []) (lenOf pd_2 rfl) rfl (by show 2 * 0 + _ ≤ _; exact Nat.le_of_eq rfl) (hb hby at_37) (fun _ _ => ⟨rfl, e38, (by decide : 0 + 0 ≤ _), (by decide : 0 + 0 ≤ _)⟩)
        dsimp only [Pt.U, Pt.locs, Pt.cells, Pt.slots] at X63 l63 y63 z63 st63 hQ63
        subst l63 y63 z63
        obtain ⟨rv63, N63q, e63⟩ := hQ63
        rw [show sp2 w_1 w_2 w_3 w_4 w_5 (sp1 p0 p1) (0 : Int32) (0 : Int32) = (.ref w_4) from by unfold sp2; rw [if_pos hc62]] at rv63
        subst rv63
        have N63 := Fr.app N38 N63q
        obtain ⟨_, _, ⟨T92, L92, k92, n92⟩, -, X92, ⟨Lc92, hQ92, l92, y92, z92⟩, st92⟩ := Jvm.LawKit.callS X63 hx (y := Y3) hown (mvT hZ (hw _ (tk 10 rfl))) (mvT hZ (hw _ (tk 11 rfl))) (mvT hZ (hw _ (tk 2 rfl))) (mvT hZ (hw _ (tk 12 rfl))) (by decide) (backOf (W := 1) (rm3 l Z a0 hw [] w_1 w_2 w_3 w_4 w_5 hS0 (sp1 p0 p1) (0 : Int32) (0 : Int32) h0 n0 O0) hZ (hw _ (tk 12 rfl)) (hw _ (tk 2 rfl)) (by decide) (by decide)) (g := (mkF m 49 #[.val (.int p0), .val (.int p1), .val (.int p2), .val (.int (0 : Int32)), .val (.int (0 : Int32)), .val (.int (sp1 p0 p1)), .val (.ref w_4)] [(.int (0 : Int32)), (.int (0 : Int32)), (.int (sp1 p0 p1)), (.ref w_4)])) rfl (by rw [hml]; rfl) (argsL := [(.int (sp1 p0 p1)), (.int (0 : Int32)), (.int (0 : Int32))]) (rest := [(.ref w_4)]) (lenOf pd_2 rfl) rfl (by show 2 * 0 + _ ≤ _; exact Nat.le_of_eq rfl) (hb hby at_49) (fun _ _ => ⟨rfl, e63, (by decide : 0 + 0 ≤ _), (by decide : 0 + 0 ≤ _)⟩)
        dsimp only [Pt.U, Pt.locs, Pt.cells, Pt.slots] at X92 l92 y92 z92 st92 hQ92
        subst l92 y92 z92
        obtain ⟨rv92, N92q, e92⟩ := hQ92
        rw [show sp3 w_1 w_2 w_3 w_4 w_5 (sp1 p0 p1) (0 : Int32) (0 : Int32) = (.ref w_4) from by unfold sp3; rw [if_pos hc62, if_pos (by decide : ((0 : Int32) = (0 : Int32)))]] at rv92
        subst rv92
        have N92 := Fr.app N63 N92q
        obtain ⟨fs, hr, hrun, hended, hW, hsame⟩ := X92.leave (v := some (.int (1 : Int32))) (fun h => by rw [Bd.returns] at h; cases h)
        refine ⟨_, _, pre61 _ ?_, hrun, hended, _, _, rfl, ?_, ⟨_, rfl⟩, hW, hsame.mono (by decide) (by decide)⟩
        · show Steps p.tables e below (T38.setTop (mkF m 37 #[.val (.int p0), .val (.int p1), .val (.int p2), .val (.int (0 : Int32)), .val (.int (0 : Int32)), .val (.int (sp1 p0 p1)), .unset] [(.int (0 : Int32)), (.int (0 : Int32)), (.int (sp1 p0 p1))])) _
          refine st63 _ ?_
          show Steps p.tables e below (T63.setTop (mkF m 40 #[.val (.int p0), .val (.int p1), .val (.int p2), .val (.int (0 : Int32)), .val (.int (0 : Int32)), .val (.int (sp1 p0 p1)), .unset] [(.ref w_4)])) _
          refine XS.astore X63.here hx rfl (hb hby at_40) rfl rfl (l' := #[.val (.int p0), .val (.int p1), .val (.int p2), .val (.int (0 : Int32)), .val (.int (0 : Int32)), .val (.int (sp1 p0 p1)), .val (.ref w_4)]) rfl ?_
          show Steps p.tables e below (T63.setTop (mkF m 42 #[.val (.int p0), .val (.int p1), .val (.int p2), .val (.int (0 : Int32)), .val (.int (0 : Int32)), .val (.int (sp1 p0 p1)), .val (.ref w_4)] [])) _
          refine XS.aload X63.here hx rfl (hb hby at_42) rfl rfl ?_
          show Steps p.tables e below (T63.setTop (mkF m 44 #[.val (.int p0), .val (.int p1), .val (.int p2), .val (.int (0 : Int32)), .val (.int (0 : Int32)), .val (.int (sp1 p0 p1)), .val (.ref w_4)] [(.ref w_4)])) _
          refine XS.iload X63.here hx rfl (hb hby at_44) rfl ?_
          show Steps p.tables e below (T63.setTop (mkF m 46 #[.val (.int p0), .val (.int p1), .val (.int p2), .val (.int (0 : Int32)), .val (.int (0 : Int32)), .val (.int (sp1 p0 p1)), .val (.ref w_4)] [(.int (sp1 p0 p1)), (.ref w_4)])) _
          refine XS.iloadN X63.here hx rfl (hb hby at_46) rfl ?_
          show Steps p.tables e below (T63.setTop (mkF m 47 #[.val (.int p0), .val (.int p1), .val (.int p2), .val (.int (0 : Int32)), .val (.int (0 : Int32)), .val (.int (sp1 p0 p1)), .val (.ref w_4)] [(.int (0 : Int32)), (.int (sp1 p0 p1)), (.ref w_4)])) _
          refine XS.iload X63.here hx rfl (hb hby at_47) rfl ?_
          show Steps p.tables e below (T63.setTop (mkF m 49 #[.val (.int p0), .val (.int p1), .val (.int p2), .val (.int (0 : Int32)), .val (.int (0 : Int32)), .val (.int (sp1 p0 p1)), .val (.ref w_4)] [(.int (0 : Int32)), (.int (0 : Int32)), (.int (sp1 p0 p1)), (.ref w_4)])) _
          refine st92 _ ?_
          show Steps p.tables e below (T92.setTop (mkF m 52 #[.val (.int p0), .val (.int p1), .val (.int p2), .val (.int (0 : Int32)), .val (.int (0 : Int32)), .val (.int (sp1 p0 p1)), .val (.ref w_4)] [(.ref w_4), (.ref w_4)])) _
          refine Jvm.RoadKit.acmp (g := (mkF m 52 #[.val (.int p0), .val (.int p1), .val (.int p2), .val (.int (0 : Int32)), .val (.int (0 : Int32)), .val (.int (sp1 p0 p1)), .val (.ref w_4)] [(.ref w_4), (.ref w_4)])) X92 hx rfl rfl rfl (pc0 := 52) (pc' := 55) (same := true) rfl (hb hby at_52) rfl (decide_eq_true (congrArg Value.ref rfl)) (by decide) (by decide) ?_
          show Steps p.tables e below (T92.setTop (mkF m 55 #[.val (.int p0), .val (.int p1), .val (.int p2), .val (.int (0 : Int32)), .val (.int (0 : Int32)), .val (.int (sp1 p0 p1)), .val (.ref w_4)] [])) _
          refine XS.iconst X92.here hx rfl (hb hby at_55) ?_
          show Steps p.tables e below (T92.setTop (mkF m 56 #[.val (.int p0), .val (.int p1), .val (.int p2), .val (.int (0 : Int32)), .val (.int (0 : Int32)), .val (.int (sp1 p0 p1)), .val (.ref w_4)] [(.int (1 : Int32))])) _
          refine XS.goto X92.here hx rfl (pc0 := 56) (pc' := 60) rfl (hb hby at_56) (by decide) (by decide) ?_
          show Steps p.tables e below (T92.setTop (mkF m 60 #[.val (.int p0), .val (.int p1), .val (.int p2), .val (.int (0 : Int32)), .val (.int (0 : Int32)), .val (.int (sp1 p0 p1)), .val (.ref w_4)] [(.int (1 : Int32))])) _
          exact retN X92 hx (t := .boolean) Bd.returns (by simp) (hb hby at_60) hr
        · show Q0 Z w_1 w_2 w_3 w_4 w_5 p0 p1 p2 h0 n0 _ T92.heap _
          rw [e92]
          exact ⟨by unfold sp0; rw [if_pos hc10, if_pos hc12, if_pos hc62], N92, rfl⟩
      · by_cases hc93 : (sp1 p0 p1) = (410 : Int32)
        · obtain ⟨_, _, ⟨T94, L94, k94, n94⟩, -, X94, ⟨Lc94, hQ94, l94, y94, z94⟩, st94⟩ := Jvm.LawKit.callS X38 hx (y := Y2) hown (mvT hZ (hw _ (tk 4 rfl))) (mvT hZ (hw _ (tk 5 rfl))) (mvT hZ (hw _ (tk 6 rfl))) (mvT hZ (hw _ (tk 7 rfl))) (by decide) (backOf (W := 0) (rm2 l Z a0 hw [] w_1 w_2 w_3 w_4 w_5 hS0 (sp1 p0 p1) (0 : Int32) (0 : Int32) h0 n0 O0) hZ (hw _ (tk 7 rfl)) (hw _ (tk 6 rfl)) (by decide) (by decide)) (g := (mkF m 37 #[.val (.int p0), .val (.int p1), .val (.int p2), .val (.int (0 : Int32)), .val (.int (0 : Int32)), .val (.int (sp1 p0 p1)), .unset] [(.int (0 : Int32)), (.int (0 : Int32)), (.int (sp1 p0 p1))])) rfl (by rw [hml]; rfl) (argsL := [(.int (sp1 p0 p1)), (.int (0 : Int32)), (.int (0 : Int32))]) (rest := []) (lenOf pd_2 rfl) rfl (by show 2 * 0 + _ ≤ _; exact Nat.le_of_eq rfl) (hb hby at_37) (fun _ _ => ⟨rfl, e38, (by decide : 0 + 0 ≤ _), (by decide : 0 + 0 ≤ _)⟩)
          dsimp only [Pt.U, Pt.locs, Pt.cells, Pt.slots] at X94 l94 y94 z94 st94 hQ94
          subst l94 y94 z94
          obtain ⟨rv94, N94q, e94⟩ := hQ94
          rw [show sp2 w_1 w_2 w_3 w_4 w_5 (sp1 p0 p1) (0 : Int32) (0 : Int32) = (.ref w_4) from by unfold sp2; rw [if_neg hc62, if_pos hc93]] at rv94
          subst rv94
          have N94 := Fr.app N38 N94q
          obtain ⟨_, _, ⟨T95, L95, k95, n95⟩, -, X95, ⟨Lc95, hQ95, l95, y95, z95⟩, st95⟩ := Jvm.LawKit.callS X94 hx (y := Y3) hown (mvT hZ (hw _ (tk 10 rfl))) (mvT hZ (hw _ (tk 11 rfl))) (mvT hZ (hw _ (tk 2 rfl))) (mvT hZ (hw _ (tk 12 rfl))) (by decide) (backOf (W := 1) (rm3 l Z a0 hw [] w_1 w_2 w_3 w_4 w_5 hS0 (sp1 p0 p1) (0 : Int32) (0 : Int32) h0 n0 O0) hZ (hw _ (tk 12 rfl)) (hw _ (tk 2 rfl)) (by decide) (by decide)) (g := (mkF m 49 #[.val (.int p0), .val (.int p1), .val (.int p2), .val (.int (0 : Int32)), .val (.int (0 : Int32)), .val (.int (sp1 p0 p1)), .val (.ref w_4)] [(.int (0 : Int32)), (.int (0 : Int32)), (.int (sp1 p0 p1)), (.ref w_4)])) rfl (by rw [hml]; rfl) (argsL := [(.int (sp1 p0 p1)), (.int (0 : Int32)), (.int (0 : Int32))]) (rest := [(.ref w_4)]) (lenOf pd_2 rfl) rfl (by show 2 * 0 + _ ≤ _; exact Nat.le_of_eq rfl) (hb hby at_49) (fun _ _ => ⟨rfl, e94, (by decide : 0 + 0 ≤ _), (by decide : 0 + 0 ≤ _)⟩)
          dsimp only [Pt.U, Pt.locs, Pt.cells, Pt.slots] at X95 l95 y95 z95 st95 hQ95
          subst l95 y95 z95
          obtain ⟨rv95, N95q, e95⟩ := hQ95
          rw [show sp3 w_1 w_2 w_3 w_4 w_5 (sp1 p0 p1) (0 : Int32) (0 : Int32) = (.ref w_4) from by unfold sp3; rw [if_neg hc62, if_pos hc93, if_pos (by decide : ((0 : Int32) = (0 : Int32)))]] at rv95
          subst rv95
          have N95 := Fr.app N94 N95q
          obtain ⟨fs, hr, hrun, hended, hW, hsame⟩ := X95.leave (v := some (.int (1 : Int32))) (fun h => by rw [Bd.returns] at h; cases h)
          refine ⟨_, _, pre61 _ ?_, hrun, hended, _, _, rfl, ?_, ⟨_, rfl⟩, hW, hsame.mono (by decide) (by decide)⟩
          · show Steps p.tables e below (T38.setTop (mkF m 37 #[.val (.int p0), .val (.int p1), .val (.int p2), .val (.int (0 : Int32)), .val (.int (0 : Int32)), .val (.int (sp1 p0 p1)), .unset] [(.int (0 : Int32)), (.int (0 : Int32)), (.int (sp1 p0 p1))])) _
            refine st94 _ ?_
            show Steps p.tables e below (T94.setTop (mkF m 40 #[.val (.int p0), .val (.int p1), .val (.int p2), .val (.int (0 : Int32)), .val (.int (0 : Int32)), .val (.int (sp1 p0 p1)), .unset] [(.ref w_4)])) _
            refine XS.astore X94.here hx rfl (hb hby at_40) rfl rfl (l' := #[.val (.int p0), .val (.int p1), .val (.int p2), .val (.int (0 : Int32)), .val (.int (0 : Int32)), .val (.int (sp1 p0 p1)), .val (.ref w_4)]) rfl ?_
            show Steps p.tables e below (T94.setTop (mkF m 42 #[.val (.int p0), .val (.int p1), .val (.int p2), .val (.int (0 : Int32)), .val (.int (0 : Int32)), .val (.int (sp1 p0 p1)), .val (.ref w_4)] [])) _
            refine XS.aload X94.here hx rfl (hb hby at_42) rfl rfl ?_
            show Steps p.tables e below (T94.setTop (mkF m 44 #[.val (.int p0), .val (.int p1), .val (.int p2), .val (.int (0 : Int32)), .val (.int (0 : Int32)), .val (.int (sp1 p0 p1)), .val (.ref w_4)] [(.ref w_4)])) _
            refine XS.iload X94.here hx rfl (hb hby at_44) rfl ?_
            show Steps p.tables e below (T94.setTop (mkF m 46 #[.val (.int p0), .val (.int p1), .val (.int p2), .val (.int (0 : Int32)), .val (.int (0 : Int32)), .val (.int (sp1 p0 p1)), .val (.ref w_4)] [(.int (sp1 p0 p1)), (.ref w_4)])) _
            refine XS.iloadN X94.here hx rfl (hb hby at_46) rfl ?_
            show Steps p.tables e below (T94.setTop (mkF m 47 #[.val (.int p0), .val (.int p1), .val (.int p2), .val (.int (0 : Int32)), .val (.int (0 : Int32)), .val (.int (sp1 p0 p1)), .val (.ref w_4)] [(.int (0 : Int32)), (.int (sp1 p0 p1)), (.ref w_4)])) _
            refine XS.iload X94.here hx rfl (hb hby at_47) rfl ?_
            show Steps p.tables e below (T94.setTop (mkF m 49 #[.val (.int p0), .val (.int p1), .val (.int p2), .val (.int (0 : Int32)), .val (.int (0 : Int32)), .val (.int (sp1 p0 p1)), .val (.ref w_4)] [(.int (0 : Int32)), (.int (0 : Int32)), (.int (sp1 p0 p1)), (.ref w_4)])) _
            refine st95 _ ?_
            show Steps p.tables e below (T95.setTop (mkF m 52 #[.val (.int p0), .val (.int p1), .val (.int p2), .val (.int (0 : Int32)), .val (.int (0 : Int32)), .val (.int (sp1 p0 p1)), .val (.ref w_4)] [(.ref w_4), (.ref w_4)])) _
            refine Jvm.RoadKit.acmp (g := (mkF m 52 #[.val (.int p0), .val (.int p1), .val (.int p2), .val (.int (0 : Int32)), .val (.int (0 : Int32)), .val (.int (sp1 p0 p1)), .val (.ref w_4)] [(.ref w_4), (.ref w_4)])) X95 hx rfl rfl rfl (pc0 := 52) (pc' := 55) (same := true) rfl (hb hby at_52) rfl (decide_eq_true (congrArg Value.ref rfl)) (by decide) (by decide) ?_
            show Steps p.tables e below (T95.setTop (mkF m 55 #[.val (.int p0), .val (.int p1), .val (.int p2), .val (.int (0 : Int32)), .val (.int (0 : Int32)), .val (.int (sp1 p0 p1)), .val (.ref w_4)] [])) _
            refine XS.iconst X95.here hx rfl (hb hby at_55) ?_
            show Steps p.tables e below (T95.setTop (mkF m 56 #[.val (.int p0), .val (.int p1), .val (.int p2), .val (.int (0 : Int32)), .val (.int (0 : Int32)), .val (.int (sp1 p0 p1)), .val (.ref w_4)] [(.int (1 : Int32))])) _
            refine XS.goto X95.here hx rfl (pc0 := 56) (pc' := 60) rfl (hb hby at_56) (by decide) (by decide) ?_
            show Steps p.tables e below (T95.setTop (mkF m 60 #[.val (.int p0), .val (.int p1), .val (.int p2), .val (.int (0 : Int32)), .val (.int (0 : Int32)), .val (.int (sp1 p0 p1)), .val (.ref w_4)] [(.int (1 : Int32))])) _
            exact retN X95 hx (t := .boolean) Bd.returns (by simp) (hb hby at_60) hr
          · show Q0 Z w_1 w_2 w_3 w_4 w_5 p0 p1 p2 h0 n0 _ T95.heap _
            rw [e95]
            exact ⟨by unfold sp0; rw [if_pos hc10, if_pos hc12, if_neg hc62, if_pos hc93], N95, rfl⟩
        · by_cases hc96 : (sp1 p0 p1) = (304 : Int32)
          · obtain ⟨_, _, ⟨T97, L97, k97, n97⟩, -, X97, ⟨Lc97, hQ97, l97, y97, z97⟩, st97⟩ := Jvm.LawKit.callS X38 hx (y := Y2) hown (mvT hZ (hw _ (tk 4 rfl))) (mvT hZ (hw _ (tk 5 rfl))) (mvT hZ (hw _ (tk 6 rfl))) (mvT hZ (hw _ (tk 7 rfl))) (by decide) (backOf (W := 0) (rm2 l Z a0 hw [] w_1 w_2 w_3 w_4 w_5 hS0 (sp1 p0 p1) (0 : Int32) (0 : Int32) h0 n0 O0) hZ (hw _ (tk 7 rfl)) (hw _ (tk 6 rfl)) (by decide) (by decide)) (g := (mkF m 37 #[.val (.int p0), .val (.int p1), .val (.int p2), .val (.int (0 : Int32)), .val (.int (0 : Int32)), .val (.int (sp1 p0 p1)), .unset] [(.int (0 : Int32)), (.int (0 : Int32)), (.int (sp1 p0 p1))])) rfl (by rw [hml]; rfl) (argsL := [(.int (sp1 p0 p1)), (.int (0 : Int32)), (.int (0 : Int32))]) (rest := []) (lenOf pd_2 rfl) rfl (by show 2 * 0 + _ ≤ _; exact Nat.le_of_eq rfl) (hb hby at_37) (fun _ _ => ⟨rfl, e38, (by decide : 0 + 0 ≤ _), (by decide : 0 + 0 ≤ _)⟩)
            dsimp only [Pt.U, Pt.locs, Pt.cells, Pt.slots] at X97 l97 y97 z97 st97 hQ97
            subst l97 y97 z97
            obtain ⟨rv97, N97q, e97⟩ := hQ97
            rw [show sp2 w_1 w_2 w_3 w_4 w_5 (sp1 p0 p1) (0 : Int32) (0 : Int32) = (.ref w_3) from by unfold sp2; rw [if_neg hc62, if_neg hc93, if_pos hc96, if_pos (by decide : ((0 : Int32) = (0 : Int32)))]] at rv97
            subst rv97
            have N97 := Fr.app N38 N97q
            obtain ⟨_, _, ⟨T98, L98, k98, n98⟩, -, X98, ⟨Lc98, hQ98, l98, y98, z98⟩, st98⟩ := Jvm.LawKit.callS X97 hx (y := Y3) hown (mvT hZ (hw _ (tk 10 rfl))) (mvT hZ (hw _ (tk 11 rfl))) (mvT hZ (hw _ (tk 2 rfl))) (mvT hZ (hw _ (tk 12 rfl))) (by decide) (backOf (W := 1) (rm3 l Z a0 hw [] w_1 w_2 w_3 w_4 w_5 hS0 (sp1 p0 p1) (0 : Int32) (0 : Int32) h0 n0 O0) hZ (hw _ (tk 12 rfl)) (hw _ (tk 2 rfl)) (by decide) (by decide)) (g := (mkF m 49 #[.val (.int p0), .val (.int p1), .val (.int p2), .val (.int (0 : Int32)), .val (.int (0 : Int32)), .val (.int (sp1 p0 p1)), .val (.ref w_3)] [(.int (0 : Int32)), (.int (0 : Int32)), (.int (sp1 p0 p1)), (.ref w_3)])) rfl (by rw [hml]; rfl) (argsL := [(.int (sp1 p0 p1)), (.int (0 : Int32)), (.int (0 : Int32))]) (rest := [(.ref w_3)]) (lenOf pd_2 rfl) rfl (by show 2 * 0 + _ ≤ _; exact Nat.le_of_eq rfl) (hb hby at_49) (fun _ _ => ⟨rfl, e97, (by decide : 0 + 0 ≤ _), (by decide : 0 + 0 ≤ _)⟩)
            dsimp only [Pt.U, Pt.locs, Pt.cells, Pt.slots] at X98 l98 y98 z98 st98 hQ98
            subst l98 y98 z98
            obtain ⟨rv98, N98q, e98⟩ := hQ98
            rw [show sp3 w_1 w_2 w_3 w_4 w_5 (sp1 p0 p1) (0 : Int32) (0 : Int32) = (.ref w_3) from by unfold sp3; rw [if_neg hc62, if_neg hc93, if_pos (by decide : ((0 : Int32) = (0 : Int32))), if_neg (by rw [hc96] <;> decide : ¬ ((sp1 p0 p1) = (200 : Int32)))]] at rv98
            subst rv98
            have N98 := Fr.app N97 N98q
            obtain ⟨fs, hr, hrun, hended, hW, hsame⟩ := X98.leave (v := some (.int (1 : Int32))) (fun h => by rw [Bd.returns] at h; cases h)
            refine ⟨_, _, pre61 _ ?_, hrun, hended, _, _, rfl, ?_, ⟨_, rfl⟩, hW, hsame.mono (by decide) (by decide)⟩
            · show Steps p.tables e below (T38.setTop (mkF m 37 #[.val (.int p0), .val (.int p1), .val (.int p2), .val (.int (0 : Int32)), .val (.int (0 : Int32)), .val (.int (sp1 p0 p1)), .unset] [(.int (0 : Int32)), (.int (0 : Int32)), (.int (sp1 p0 p1))])) _
              refine st97 _ ?_
              show Steps p.tables e below (T97.setTop (mkF m 40 #[.val (.int p0), .val (.int p1), .val (.int p2), .val (.int (0 : Int32)), .val (.int (0 : Int32)), .val (.int (sp1 p0 p1)), .unset] [(.ref w_3)])) _
              refine XS.astore X97.here hx rfl (hb hby at_40) rfl rfl (l' := #[.val (.int p0), .val (.int p1), .val (.int p2), .val (.int (0 : Int32)), .val (.int (0 : Int32)), .val (.int (sp1 p0 p1)), .val (.ref w_3)]) rfl ?_
              show Steps p.tables e below (T97.setTop (mkF m 42 #[.val (.int p0), .val (.int p1), .val (.int p2), .val (.int (0 : Int32)), .val (.int (0 : Int32)), .val (.int (sp1 p0 p1)), .val (.ref w_3)] [])) _
              refine XS.aload X97.here hx rfl (hb hby at_42) rfl rfl ?_
              show Steps p.tables e below (T97.setTop (mkF m 44 #[.val (.int p0), .val (.int p1), .val (.int p2), .val (.int (0 : Int32)), .val (.int (0 : Int32)), .val (.int (sp1 p0 p1)), .val (.ref w_3)] [(.ref w_3)])) _
              refine XS.iload X97.here hx rfl (hb hby at_44) rfl ?_
              show Steps p.tables e below (T97.setTop (mkF m 46 #[.val (.int p0), .val (.int p1), .val (.int p2), .val (.int (0 : Int32)), .val (.int (0 : Int32)), .val (.int (sp1 p0 p1)), .val (.ref w_3)] [(.int (sp1 p0 p1)), (.ref w_3)])) _
              refine XS.iloadN X97.here hx rfl (hb hby at_46) rfl ?_
              show Steps p.tables e below (T97.setTop (mkF m 47 #[.val (.int p0), .val (.int p1), .val (.int p2), .val (.int (0 : Int32)), .val (.int (0 : Int32)), .val (.int (sp1 p0 p1)), .val (.ref w_3)] [(.int (0 : Int32)), (.int (sp1 p0 p1)), (.ref w_3)])) _
              refine XS.iload X97.here hx rfl (hb hby at_47) rfl ?_
              show Steps p.tables e below (T97.setTop (mkF m 49 #[.val (.int p0), .val (.int p1), .val (.int p2), .val (.int (0 : Int32)), .val (.int (0 : Int32)), .val (.int (sp1 p0 p1)), .val (.ref w_3)] [(.int (0 : Int32)), (.int (0 : Int32)), (.int (sp1 p0 p1)), (.ref w_3)])) _
              refine st98 _ ?_
              show Steps p.tables e below (T98.setTop (mkF m 52 #[.val (.int p0), .val (.int p1), .val (.int p2), .val (.int (0 : Int32)), .val (.int (0 : Int32)), .val (.int (sp1 p0 p1)), .val (.ref w_3)] [(.ref w_3), (.ref w_3)])) _
              refine Jvm.RoadKit.acmp (g := (mkF m 52 #[.val (.int p0), .val (.int p1), .val (.int p2), .val (.int (0 : Int32)), .val (.int (0 : Int32)), .val (.int (sp1 p0 p1)), .val (.ref w_3)] [(.ref w_3), (.ref w_3)])) X98 hx rfl rfl rfl (pc0 := 52) (pc' := 55) (same := true) rfl (hb hby at_52) rfl (decide_eq_true (congrArg Value.ref rfl)) (by decide) (by decide) ?_
              show Steps p.tables e below (T98.setTop (mkF m 55 #[.val (.int p0), .val (.int p1), .val (.int p2), .val (.int (0 : Int32)), .val (.int (0 : Int32)), .val (.int (sp1 p0 p1)), .val (.ref w_3)] [])) _
              refine XS.iconst X98.here hx rfl (hb hby at_55) ?_
              show Steps p.tables e below (T98.setTop (mkF m 56 #[.val (.int p0), .val (.int p1), .val (.int p2), .val (.int (0 : Int32)), .val (.int (0 : Int32)), .val (.int (sp1 p0 p1)), .val (.ref w_3)] [(.int (1 : Int32))])) _
              refine XS.goto X98.here hx rfl (pc0 := 56) (pc' := 60) rfl (hb hby at_56) (by decide) (by decide) ?_
              show Steps p.tables e below (T98.setTop (mkF m 60 #[.val (.int p0), .val (.int p1), .val (.int p2), .val (.int (0 : Int32)), .val (.int (0 : Int32)), .val (.int (sp1 p0 p1)), .val (.ref w_3)] [(.int (1 : Int32))])) _
              exact retN X98 hx (t := .boolean) Bd.returns (by simp) (hb hby at_60) hr
            · show Q0 Z w_1 w_2 w_3 w_4 w_5 p0 p1 p2 h0 n0 _ T98.heap _
              rw [e98]
              exact ⟨by unfold sp0; rw [if_pos hc10, if_pos hc12, if_neg hc62, if_neg hc93, if_pos hc96], N98, rfl⟩
          · by_cases hc99 : (sp1 p0 p1) = (200 : Int32)
            · obtain ⟨_, _, ⟨T100, L100, k100, n100⟩, -, X100, ⟨Lc100, hQ100, l100, y100, z100⟩, st100⟩ := Jvm.LawKit.callS X38 hx (y := Y2) hown (mvT hZ (hw _ (tk 4 rfl))) (mvT hZ (hw _ (tk 5 rfl))) (mvT hZ (hw _ (tk 6 rfl))) (mvT hZ (hw _ (tk 7 rfl))) (by decide) (backOf (W := 0) (rm2 l Z a0 hw [] w_1 w_2 w_3 w_4 w_5 hS0 (sp1 p0 p1) (0 : Int32) (0 : Int32) h0 n0 O0) hZ (hw _ (tk 7 rfl)) (hw _ (tk 6 rfl)) (by decide) (by decide)) (g := (mkF m 37 #[.val (.int p0), .val (.int p1), .val (.int p2), .val (.int (0 : Int32)), .val (.int (0 : Int32)), .val (.int (sp1 p0 p1)), .unset] [(.int (0 : Int32)), (.int (0 : Int32)), (.int (sp1 p0 p1))])) rfl (by rw [hml]; rfl) (argsL := [(.int (sp1 p0 p1)), (.int (0 : Int32)), (.int (0 : Int32))]) (rest := []) (lenOf pd_2 rfl) rfl (by show 2 * 0 + _ ≤ _; exact Nat.le_of_eq rfl) (hb hby at_37) (fun _ _ => ⟨rfl, e38, (by decide : 0 + 0 ≤ _), (by decide : 0 + 0 ≤ _)⟩)
              dsimp only [Pt.U, Pt.locs, Pt.cells, Pt.slots] at X100 l100 y100 z100 st100 hQ100
              subst l100 y100 z100
              obtain ⟨rv100, N100q, e100⟩ := hQ100
              rw [show sp2 w_1 w_2 w_3 w_4 w_5 (sp1 p0 p1) (0 : Int32) (0 : Int32) = (.ref w_5) from by unfold sp2; rw [if_neg hc62, if_neg hc93, if_neg hc96, if_pos hc99, if_pos (by decide : ((0 : Int32) = (0 : Int32))), if_pos (by decide : ((0 : Int32) = (0 : Int32)))]] at rv100
              subst rv100
              have N100 := Fr.app N38 N100q
              obtain ⟨_, _, ⟨T101, L101, k101, n101⟩, -, X101, ⟨Lc101, hQ101, l101, y101, z101⟩, st101⟩ := Jvm.LawKit.callS X100 hx (y := Y3) hown (mvT hZ (hw _ (tk 10 rfl))) (mvT hZ (hw _ (tk 11 rfl))) (mvT hZ (hw _ (tk 2 rfl))) (mvT hZ (hw _ (tk 12 rfl))) (by decide) (backOf (W := 1) (rm3 l Z a0 hw [] w_1 w_2 w_3 w_4 w_5 hS0 (sp1 p0 p1) (0 : Int32) (0 : Int32) h0 n0 O0) hZ (hw _ (tk 12 rfl)) (hw _ (tk 2 rfl)) (by decide) (by decide)) (g := (mkF m 49 #[.val (.int p0), .val (.int p1), .val (.int p2), .val (.int (0 : Int32)), .val (.int (0 : Int32)), .val (.int (sp1 p0 p1)), .val (.ref w_5)] [(.int (0 : Int32)), (.int (0 : Int32)), (.int (sp1 p0 p1)), (.ref w_5)])) rfl (by rw [hml]; rfl) (argsL := [(.int (sp1 p0 p1)), (.int (0 : Int32)), (.int (0 : Int32))]) (rest := [(.ref w_5)]) (lenOf pd_2 rfl) rfl (by show 2 * 0 + _ ≤ _; exact Nat.le_of_eq rfl) (hb hby at_49) (fun _ _ => ⟨rfl, e100, (by decide : 0 + 0 ≤ _), (by decide : 0 + 0 ≤ _)⟩)
              dsimp only [Pt.U, Pt.locs, Pt.cells, Pt.slots] at X101 l101 y101 z101 st101 hQ101
              subst l101 y101 z101
              obtain ⟨rv101, N101q, e101⟩ := hQ101
              rw [show sp3 w_1 w_2 w_3 w_4 w_5 (sp1 p0 p1) (0 : Int32) (0 : Int32) = (.ref w_5) from by unfold sp3; rw [if_neg hc62, if_neg hc93, if_pos (by decide : ((0 : Int32) = (0 : Int32))), if_pos hc99, if_pos (by decide : ((0 : Int32) = (0 : Int32)))]] at rv101
              subst rv101
              have N101 := Fr.app N100 N101q
              obtain ⟨fs, hr, hrun, hended, hW, hsame⟩ := X101.leave (v := some (.int (1 : Int32))) (fun h => by rw [Bd.returns] at h; cases h)
              refine ⟨_, _, pre61 _ ?_, hrun, hended, _, _, rfl, ?_, ⟨_, rfl⟩, hW, hsame.mono (by decide) (by decide)⟩
              · show Steps p.tables e below (T38.setTop (mkF m 37 #[.val (.int p0), .val (.int p1), .val (.int p2), .val (.int (0 : Int32)), .val (.int (0 : Int32)), .val (.int (sp1 p0 p1)), .unset] [(.int (0 : Int32)), (.int (0 : Int32)), (.int (sp1 p0 p1))])) _
                refine st100 _ ?_
                show Steps p.tables e below (T100.setTop (mkF m 40 #[.val (.int p0), .val (.int p1), .val (.int p2), .val (.int (0 : Int32)), .val (.int (0 : Int32)), .val (.int (sp1 p0 p1)), .unset] [(.ref w_5)])) _
                refine XS.astore X100.here hx rfl (hb hby at_40) rfl rfl (l' := #[.val (.int p0), .val (.int p1), .val (.int p2), .val (.int (0 : Int32)), .val (.int (0 : Int32)), .val (.int (sp1 p0 p1)), .val (.ref w_5)]) rfl ?_
                show Steps p.tables e below (T100.setTop (mkF m 42 #[.val (.int p0), .val (.int p1), .val (.int p2), .val (.int (0 : Int32)), .val (.int (0 : Int32)), .val (.int (sp1 p0 p1)), .val (.ref w_5)] [])) _
                refine XS.aload X100.here hx rfl (hb hby at_42) rfl rfl ?_
                show Steps p.tables e below (T100.setTop (mkF m 44 #[.val (.int p0), .val (.int p1), .val (.int p2), .val (.int (0 : Int32)), .val (.int (0 : Int32)), .val (.int (sp1 p0 p1)), .val (.ref w_5)] [(.ref w_5)])) _
                refine XS.iload X100.here hx rfl (hb hby at_44) rfl ?_
                show Steps p.tables e below (T100.setTop (mkF m 46 #[.val (.int p0), .val (.int p1), .val (.int p2), .val (.int (0 : Int32)), .val (.int (0 : Int32)), .val (.int (sp1 p0 p1)), .val (.ref w_5)] [(.int (sp1 p0 p1)), (.ref w_5)])) _
                refine XS.iloadN X100.here hx rfl (hb hby at_46) rfl ?_
                show Steps p.tables e below (T100.setTop (mkF m 47 #[.val (.int p0), .val (.int p1), .val (.int p2), .val (.int (0 : Int32)), .val (.int (0 : Int32)), .val (.int (sp1 p0 p1)), .val (.ref w_5)] [(.int (0 : Int32)), (.int (sp1 p0 p1)), (.ref w_5)])) _
                refine XS.iload X100.here hx rfl (hb hby at_47) rfl ?_
                show Steps p.tables e below (T100.setTop (mkF m 49 #[.val (.int p0), .val (.int p1), .val (.int p2), .val (.int (0 : Int32)), .val (.int (0 : Int32)), .val (.int (sp1 p0 p1)), .val (.ref w_5)] [(.int (0 : Int32)), (.int (0 : Int32)), (.int (sp1 p0 p1)), (.ref w_5)])) _
                refine st101 _ ?_
                show Steps p.tables e below (T101.setTop (mkF m 52 #[.val (.int p0), .val (.int p1), .val (.int p2), .val (.int (0 : Int32)), .val (.int (0 : Int32)), .val (.int (sp1 p0 p1)), .val (.ref w_5)] [(.ref w_5), (.ref w_5)])) _
                refine Jvm.RoadKit.acmp (g := (mkF m 52 #[.val (.int p0), .val (.int p1), .val (.int p2), .val (.int (0 : Int32)), .val (.int (0 : Int32)), .val (.int (sp1 p0 p1)), .val (.ref w_5)] [(.ref w_5), (.ref w_5)])) X101 hx rfl rfl rfl (pc0 := 52) (pc' := 55) (same := true) rfl (hb hby at_52) rfl (decide_eq_true (congrArg Value.ref rfl)) (by decide) (by decide) ?_
                show Steps p.tables e below (T101.setTop (mkF m 55 #[.val (.int p0), .val (.int p1), .val (.int p2), .val (.int (0 : Int32)), .val (.int (0 : Int32)), .val (.int (sp1 p0 p1)), .val (.ref w_5)] [])) _
                refine XS.iconst X101.here hx rfl (hb hby at_55) ?_
                show Steps p.tables e below (T101.setTop (mkF m 56 #[.val (.int p0), .val (.int p1), .val (.int p2), .val (.int (0 : Int32)), .val (.int (0 : Int32)), .val (.int (sp1 p0 p1)), .val (.ref w_5)] [(.int (1 : Int32))])) _
                refine XS.goto X101.here hx rfl (pc0 := 56) (pc' := 60) rfl (hb hby at_56) (by decide) (by decide) ?_
                show Steps p.tables e below (T101.setTop (mkF m 60 #[.val (.int p0), .val (.int p1), .val (.int p2), .val (.int (0 : Int32)), .val (.int (0 : Int32)), .val (.int (sp1 p0 p1)), .val (.ref w_5)] [(.int (1 : Int32))])) _
                exact retN X101 hx (t := .boolean) Bd.returns (by simp) (hb hby at_60) hr
              · show Q0 Z w_1 w_2 w_3 w_4 w_5 p0 p1 p2 h0 n0 _ T101.heap _
                rw [e101]
                exact ⟨by unfold sp0; rw [if_pos hc10, if_pos hc12, if_neg hc62, if_neg hc93, if_neg hc96, if_pos hc99], N101, rfl⟩
            · obtain ⟨_, _, ⟨T102, L102, k102, n102⟩, -, X102, ⟨Lc102, hQ102, l102, y102, z102⟩, st102⟩ := Jvm.LawKit.callS X38 hx (y := Y2) hown (mvT hZ (hw _ (tk 4 rfl))) (mvT hZ (hw _ (tk 5 rfl))) (mvT hZ (hw _ (tk 6 rfl))) (mvT hZ (hw _ (tk 7 rfl))) (by decide) (backOf (W := 0) (rm2 l Z a0 hw [] w_1 w_2 w_3 w_4 w_5 hS0 (sp1 p0 p1) (0 : Int32) (0 : Int32) h0 n0 O0) hZ (hw _ (tk 7 rfl)) (hw _ (tk 6 rfl)) (by decide) (by decide)) (g := (mkF m 37 #[.val (.int p0), .val (.int p1), .val (.int p2), .val (.int (0 : Int32)), .val (.int (0 : Int32)), .val (.int (sp1 p0 p1)), .unset] [(.int (0 : Int32)), (.int (0 : Int32)), (.int (sp1 p0 p1))])) rfl (by rw [hml]; rfl) (argsL := [(.int (sp1 p0 p1)), (.int (0 : Int32)), (.int (0 : Int32))]) (rest := []) (lenOf pd_2 rfl) rfl (by show 2 * 0 + _ ≤ _; exact Nat.le_of_eq rfl) (hb hby at_37) (fun _ _ => ⟨rfl, e38, (by decide : 0 + 0 ≤ _), (by decide : 0 + 0 ≤ _)⟩)
              dsimp only [Pt.U, Pt.locs, Pt.cells, Pt.slots] at X102 l102 y102 z102 st102 hQ102
              subst l102 y102 z102
              obtain ⟨rv102, N102q, e102⟩ := hQ102
              rw [show sp2 w_1 w_2 w_3 w_4 w_5 (sp1 p0 p1) (0 : Int32) (0 : Int32) = (.ref w_3) from by unfold sp2; rw [if_neg hc62, if_neg hc93, if_neg hc96, if_neg hc99]] at rv102
              subst rv102
              have N102 := Fr.app N38 N102q
              obtain ⟨_, _, ⟨T103, L103, k103, n103⟩, -, X103, ⟨Lc103, hQ103, l103, y103, z103⟩, st103⟩ := Jvm.LawKit.callS X102 hx (y := Y3) hown (mvT hZ (hw _ (tk 10 rfl))) (mvT hZ (hw _ (tk 11 rfl))) (mvT hZ (hw _ (tk 2 rfl))) (mvT hZ (hw _ (tk 12 rfl))) (by decide) (backOf (W := 1) (rm3 l Z a0 hw [] w_1 w_2 w_3 w_4 w_5 hS0 (sp1 p0 p1) (0 : Int32) (0 : Int32) h0 n0 O0) hZ (hw _ (tk 12 rfl)) (hw _ (tk 2 rfl)) (by decide) (by decide)) (g := (mkF m 49 #[.val (.int p0), .val (.int p1), .val (.int p2), .val (.int (0 : Int32)), .val (.int (0 : Int32)), .val (.int (sp1 p0 p1)), .val (.ref w_3)] [(.int (0 : Int32)), (.int (0 : Int32)), (.int (sp1 p0 p1)), (.ref w_3)])) rfl (by rw [hml]; rfl) (argsL := [(.int (sp1 p0 p1)), (.int (0 : Int32)), (.int (0 : Int32))]) (rest := [(.ref w_3)]) (lenOf pd_2 rfl) rfl (by show 2 * 0 + _ ≤ _; exact Nat.le_of_eq rfl) (hb hby at_49) (fun _ _ => ⟨rfl, e102, (by decide : 0 + 0 ≤ _), (by decide : 0 + 0 ≤ _)⟩)
              dsimp only [Pt.U, Pt.locs, Pt.cells, Pt.slots] at X103 l103 y103 z103 st103 hQ103
              subst l103 y103 z103
              obtain ⟨rv103, N103q, e103⟩ := hQ103
              rw [show sp3 w_1 w_2 w_3 w_4 w_5 (sp1 p0 p1) (0 : Int32) (0 : Int32) = (.ref w_3) from by unfold sp3; rw [if_neg hc62, if_neg hc93, if_pos (by decide : ((0 : Int32) = (0 : Int32))), if_neg hc99]] at rv103
              subst rv103
              have N103 := Fr.app N102 N103q
              obtain ⟨fs, hr, hrun, hended, hW, hsame⟩ := X103.leave (v := some (.int (1 : Int32))) (fun h => by rw [Bd.returns] at h; cases h)
              refine ⟨_, _, pre61 _ ?_, hrun, hended, _, _, rfl, ?_, ⟨_, rfl⟩, hW, hsame.mono (by decide) (by decide)⟩
              · show Steps p.tables e below (T38.setTop (mkF m 37 #[.val (.int p0), .val (.int p1), .val (.int p2), .val (.int (0 : Int32)), .val (.int (0 : Int32)), .val (.int (sp1 p0 p1)), .unset] [(.int (0 : Int32)), (.int (0 : Int32)), (.int (sp1 p0 p1))])) _
                refine st102 _ ?_
                show Steps p.tables e below (T102.setTop (mkF m 40 #[.val (.int p0), .val (.int p1), .val (.int p2), .val (.int (0 : Int32)), .val (.int (0 : Int32)), .val (.int (sp1 p0 p1)), .unset] [(.ref w_3)])) _
                refine XS.astore X102.here hx rfl (hb hby at_40) rfl rfl (l' := #[.val (.int p0), .val (.int p1), .val (.int p2), .val (.int (0 : Int32)), .val (.int (0 : Int32)), .val (.int (sp1 p0 p1)), .val (.ref w_3)]) rfl ?_
                show Steps p.tables e below (T102.setTop (mkF m 42 #[.val (.int p0), .val (.int p1), .val (.int p2), .val (.int (0 : Int32)), .val (.int (0 : Int32)), .val (.int (sp1 p0 p1)), .val (.ref w_3)] [])) _
                refine XS.aload X102.here hx rfl (hb hby at_42) rfl rfl ?_
                show Steps p.tables e below (T102.setTop (mkF m 44 #[.val (.int p0), .val (.int p1), .val (.int p2), .val (.int (0 : Int32)), .val (.int (0 : Int32)), .val (.int (sp1 p0 p1)), .val (.ref w_3)] [(.ref w_3)])) _
                refine XS.iload X102.here hx rfl (hb hby at_44) rfl ?_
                show Steps p.tables e below (T102.setTop (mkF m 46 #[.val (.int p0), .val (.int p1), .val (.int p2), .val (.int (0 : Int32)), .val (.int (0 : Int32)), .val (.int (sp1 p0 p1)), .val (.ref w_3)] [(.int (sp1 p0 p1)), (.ref w_3)])) _
                refine XS.iloadN X102.here hx rfl (hb hby at_46) rfl ?_
                show Steps p.tables e below (T102.setTop (mkF m 47 #[.val (.int p0), .val (.int p1), .val (.int p2), .val (.int (0 : Int32)), .val (.int (0 : Int32)), .val (.int (sp1 p0 p1)), .val (.ref w_3)] [(.int (0 : Int32)), (.int (sp1 p0 p1)), (.ref w_3)])) _
                refine XS.iload X102.here hx rfl (hb hby at_47) rfl ?_
                show Steps p.tables e below (T102.setTop (mkF m 49 #[.val (.int p0), .val (.int p1), .val (.int p2), .val (.int (0 : Int32)), .val (.int (0 : Int32)), .val (.int (sp1 p0 p1)), .val (.ref w_3)] [(.int (0 : Int32)), (.int (0 : Int32)), (.int (sp1 p0 p1)), (.ref w_3)])) _
                refine st103 _ ?_
                show Steps p.tables e below (T103.setTop (mkF m 52 #[.val (.int p0), .val (.int p1), .val (.int p2), .val (.int (0 : Int32)), .val (.int (0 : Int32)), .val (.int (sp1 p0 p1)), .val (.ref w_3)] [(.ref w_3), (.ref w_3)])) _
                refine Jvm.RoadKit.acmp (g := (mkF m 52 #[.val (.int p0), .val (.int p1), .val (.int p2), .val (.int (0 : Int32)), .val (.int (0 : Int32)), .val (.int (sp1 p0 p1)), .val (.ref w_3)] [(.ref w_3), (.ref w_3)])) X103 hx rfl rfl rfl (pc0 := 52) (pc' := 55) (same := true) rfl (hb hby at_52) rfl (decide_eq_true (congrArg Value.ref rfl)) (by decide) (by decide) ?_
                show Steps p.tables e below (T103.setTop (mkF m 55 #[.val (.int p0), .val (.int p1), .val (.int p2), .val (.int (0 : Int32)), .val (.int (0 : Int32)), .val (.int (sp1 p0 p1)), .val (.ref w_3)] [])) _
                refine XS.iconst X103.here hx rfl (hb hby at_55) ?_
                show Steps p.tables e below (T103.setTop (mkF m 56 #[.val (.int p0), .val (.int p1), .val (.int p2), .val (.int (0 : Int32)), .val (.int (0 : Int32)), .val (.int (sp1 p0 p1)), .val (.ref w_3)] [(.int (1 : Int32))])) _
                refine XS.goto X103.here hx rfl (pc0 := 56) (pc' := 60) rfl (hb hby at_56) (by decide) (by decide) ?_
                show Steps p.tables e below (T103.setTop (mkF m 60 #[.val (.int p0), .val (.int p1), .val (.int p2), .val (.int (0 : Int32)), .val (.int (0 : Int32)), .val (.int (sp1 p0 p1)), .val (.ref w_3)] [(.int (1 : Int32))])) _
                exact retN X103 hx (t := .boolean) Bd.returns (by simp) (hb hby at_60) hr
              · show Q0 Z w_1 w_2 w_3 w_4 w_5 p0 p1 p2 h0 n0 _ T103.heap _
                rw [e103]
                exact ⟨by unfold sp0; rw [if_pos hc10, if_pos hc12, if_neg hc62, if_neg hc93, if_neg hc96, if_neg hc99], N103, rfl⟩
    · obtain ⟨_, _, ⟨T104, L104, k104, n104⟩, -, X104, ⟨Lc104, hQ104, l104, y104, z104⟩, st104⟩ := Jvm.LawKit.callS X0 hx (y := Y1) hown (mvT hZ (hw _ (tk 0 rfl))) (mvT hZ (hw _ (tk 1 rfl))) (mvT hZ (hw _ (tk 2 rfl))) (mvT hZ (hw _ (tk 3 rfl))) (by decide) (backOf (W := 0) (rm1 l Z a0 hw [] w_1 w_2 w_3 w_4 w_5 hS0 p0 p1 h0 n0 O0) hZ (hw _ (tk 3 rfl)) (hw _ (tk 2 rfl)) (by decide) (by decide)) (g := (mkF m 27 #[.val (.int p0), .val (.int p1), .val (.int p2), .val (.int (0 : Int32)), .val (.int (1 : Int32)), .unset, .unset] [(.int p1), (.int p0)])) rfl (by rw [hml]; rfl) (argsL := [(.int p0), (.int p1)]) (rest := []) (lenOf pd_1 rfl) rfl (by show 2 * 0 + _ ≤ _; exact Nat.le_of_eq rfl) (hb hby at_27) (fun _ _ => ⟨rfl, e0, (by decide : 0 + 0 ≤ _), (by decide : 0 + 0 ≤ _)⟩)
      dsimp only [Pt.U, Pt.locs, Pt.cells, Pt.slots] at X104 l104 y104 z104 st104 hQ104
      subst l104 y104 z104
      obtain ⟨rv104, N104q, e104⟩ := hQ104
      subst rv104
      have N104 := Fr.app N0 N104q
      have pre105 : ∀ t, Steps p.tables e below (T104.setTop (mkF m 37 #[.val (.int p0), .val (.int p1), .val (.int p2), .val (.int (0 : Int32)), .val (.int (1 : Int32)), .val (.int (sp1 p0 p1)), .unset] [(.int (1 : Int32)), (.int (0 : Int32)), (.int (sp1 p0 p1))])) t → Steps p.tables e below (s₁.setTop (entryFrame m #[(.int p0), (.int p1), (.int p2)] maxLocals)) t := fun t kt => by
        refine pre11 t ?_
        show Steps p.tables e below (s₁.setTop (mkF m 15 #[.val (.int p0), .val (.int p1), .val (.int p2), .val (.int (0 : Int32)), .unset, .unset, .unset] [(.int (p2 &&& (2 : Int32)))])) _
        refine XS.ifNo X0.here hx rfl (hb hby at_15) rfl ((if0 _ _).trans (feq hc12).1) ?_
        show Steps p.tables e below (s₁.setTop (mkF m 18 #[.val (.int p0), .val (.int p1), .val (.int p2), .val (.int (0 : Int32)), .unset, .unset, .unset] [])) _
        refine XS.iconst X0.here hx rfl (hb hby at_18) ?_
        show Steps p.tables e below (s₁.setTop (mkF m 19 #[.val (.int p0), .val (.int p1), .val (.int p2), .val (.int (0 : Int32)), .unset, .unset, .unset] [(.int (1 : Int32))])) _
        refine XS.goto X0.here hx rfl (pc0 := 19) (pc' := 23) rfl (hb hby at_19) (by decide) (by decide) ?_
        show Steps p.tables e below (s₁.setTop (mkF m 23 #[.val (.int p0), .val (.int p1), .val (.int p2), .val (.int (0 : Int32)), .unset, .unset, .unset] [(.int (1 : Int32))])) _
        refine XS.istore X0.here hx rfl (hb hby at_23) rfl (l' := #[.val (.int p0), .val (.int p1), .val (.int p2), .val (.int (0 : Int32)), .val (.int (1 : Int32)), .unset, .unset]) rfl ?_
        show Steps p.tables e below (s₁.setTop (mkF m 25 #[.val (.int p0), .val (.int p1), .val (.int p2), .val (.int (0 : Int32)), .val (.int (1 : Int32)), .unset, .unset] [])) _
        refine XS.iloadN X0.here hx rfl (hb hby at_25) rfl ?_
        show Steps p.tables e below (s₁.setTop (mkF m 26 #[.val (.int p0), .val (.int p1), .val (.int p2), .val (.int (0 : Int32)), .val (.int (1 : Int32)), .unset, .unset] [(.int p0)])) _
        refine XS.iloadN X0.here hx rfl (hb hby at_26) rfl ?_
        show Steps p.tables e below (s₁.setTop (mkF m 27 #[.val (.int p0), .val (.int p1), .val (.int p2), .val (.int (0 : Int32)), .val (.int (1 : Int32)), .unset, .unset] [(.int p1), (.int p0)])) _
        refine st104 _ ?_
        show Steps p.tables e below (T104.setTop (mkF m 30 #[.val (.int p0), .val (.int p1), .val (.int p2), .val (.int (0 : Int32)), .val (.int (1 : Int32)), .unset, .unset] [(.int (sp1 p0 p1))])) _
        refine XS.istore X104.here hx rfl (hb hby at_30) rfl (l' := #[.val (.int p0), .val (.int p1), .val (.int p2), .val (.int (0 : Int32)), .val (.int (1 : Int32)), .val (.int (sp1 p0 p1)), .unset]) rfl ?_
        show Steps p.tables e below (T104.setTop (mkF m 32 #[.val (.int p0), .val (.int p1), .val (.int p2), .val (.int (0 : Int32)), .val (.int (1 : Int32)), .val (.int (sp1 p0 p1)), .unset] [])) _
        refine XS.iload X104.here hx rfl (hb hby at_32) rfl ?_
        show Steps p.tables e below (T104.setTop (mkF m 34 #[.val (.int p0), .val (.int p1), .val (.int p2), .val (.int (0 : Int32)), .val (.int (1 : Int32)), .val (.int (sp1 p0 p1)), .unset] [(.int (sp1 p0 p1))])) _
        refine XS.iloadN X104.here hx rfl (hb hby at_34) rfl ?_
        show Steps p.tables e below (T104.setTop (mkF m 35 #[.val (.int p0), .val (.int p1), .val (.int p2), .val (.int (0 : Int32)), .val (.int (1 : Int32)), .val (.int (sp1 p0 p1)), .unset] [(.int (0 : Int32)), (.int (sp1 p0 p1))])) _
        refine XS.iload X104.here hx rfl (hb hby at_35) rfl ?_
        show Steps p.tables e below (T104.setTop (mkF m 37 #[.val (.int p0), .val (.int p1), .val (.int p2), .val (.int (0 : Int32)), .val (.int (1 : Int32)), .val (.int (sp1 p0 p1)), .unset] [(.int (1 : Int32)), (.int (0 : Int32)), (.int (sp1 p0 p1))])) _
        exact kt
      by_cases hc106 : (sp1 p0 p1) = (404 : Int32)
      · obtain ⟨_, _, ⟨T107, L107, k107, n107⟩, -, X107, ⟨Lc107, hQ107, l107, y107, z107⟩, st107⟩ := Jvm.LawKit.callS X104 hx (y := Y2) hown (mvT hZ (hw _ (tk 4 rfl))) (mvT hZ (hw _ (tk 5 rfl))) (mvT hZ (hw _ (tk 6 rfl))) (mvT hZ (hw _ (tk 7 rfl))) (by decide) (backOf (W := 0) (rm2 l Z a0 hw [] w_1 w_2 w_3 w_4 w_5 hS0 (sp1 p0 p1) (0 : Int32) (1 : Int32) h0 n0 O0) hZ (hw _ (tk 7 rfl)) (hw _ (tk 6 rfl)) (by decide) (by decide)) (g := (mkF m 37 #[.val (.int p0), .val (.int p1), .val (.int p2), .val (.int (0 : Int32)), .val (.int (1 : Int32)), .val (.int (sp1 p0 p1)), .unset] [(.int (1 : Int32)), (.int (0 : Int32)), (.int (sp1 p0 p1))])) rfl (by rw [hml]; rfl) (argsL := [(.int (sp1 p0 p1)), (.int (0 : Int32)), (.int (1 : Int32))]) (rest := []) (lenOf pd_2 rfl) rfl (by show 2 * 0 + _ ≤ _; exact Nat.le_of_eq rfl) (hb hby at_37) (fun _ _ => ⟨rfl, e104, (by decide : 0 + 0 ≤ _), (by decide : 0 + 0 ≤ _)⟩)
        dsimp only [Pt.U, Pt.locs, Pt.cells, Pt.slots] at X107 l107 y107 z107 st107 hQ107
        subst l107 y107 z107
        obtain ⟨rv107, N107q, e107⟩ := hQ107
        rw [show sp2 w_1 w_2 w_3 w_4 w_5 (sp1 p0 p1) (0 : Int32) (1 : Int32) = (.ref w_4) from by unfold sp2; rw [if_pos hc106]] at rv107
        subst rv107
        have N107 := Fr.app N104 N107q
        obtain ⟨_, _, ⟨T108, L108, k108, n108⟩, -, X108, ⟨Lc108, hQ108, l108, y108, z108⟩, st108⟩ := Jvm.LawKit.callS X107 hx (y := Y3) hown (mvT hZ (hw _ (tk 10 rfl))) (mvT hZ (hw _ (tk 11 rfl))) (mvT hZ (hw _ (tk 2 rfl))) (mvT hZ (hw _ (tk 12 rfl))) (by decide) (backOf (W := 1) (rm3 l Z a0 hw [] w_1 w_2 w_3 w_4 w_5 hS0 (sp1 p0 p1) (0 : Int32) (1 : Int32) h0 n0 O0) hZ (hw _ (tk 12 rfl)) (hw _ (tk 2 rfl)) (by decide) (by decide)) (g := (mkF m 49 #[.val (.int p0), .val (.int p1), .val (.int p2), .val (.int (0 : Int32)), .val (.int (1 : Int32)), .val (.int (sp1 p0 p1)), .val (.ref w_4)] [(.int (1 : Int32)), (.int (0 : Int32)), (.int (sp1 p0 p1)), (.ref w_4)])) rfl (by rw [hml]; rfl) (argsL := [(.int (sp1 p0 p1)), (.int (0 : Int32)), (.int (1 : Int32))]) (rest := [(.ref w_4)]) (lenOf pd_2 rfl) rfl (by show 2 * 0 + _ ≤ _; exact Nat.le_of_eq rfl) (hb hby at_49) (fun _ _ => ⟨rfl, e107, (by decide : 0 + 0 ≤ _), (by decide : 0 + 0 ≤ _)⟩)
        dsimp only [Pt.U, Pt.locs, Pt.cells, Pt.slots] at X108 l108 y108 z108 st108 hQ108
        subst l108 y108 z108
        obtain ⟨rv108, N108q, e108⟩ := hQ108
        rw [show sp3 w_1 w_2 w_3 w_4 w_5 (sp1 p0 p1) (0 : Int32) (1 : Int32) = (.ref w_4) from by unfold sp3; rw [if_pos hc106, if_pos (by decide : ((0 : Int32) = (0 : Int32)))]] at rv108
        subst rv108
        have N108 := Fr.app N107 N108q
        obtain ⟨fs, hr, hrun, hended, hW, hsame⟩ := X108.leave (v := some (.int (1 : Int32))) (fun h => by rw [Bd.returns] at h; cases h)
        refine ⟨_, _, pre105 _ ?_, hrun, hended, _, _, rfl, ?_, ⟨_, rfl⟩, hW, hsame.mono (by decide) (by decide)⟩
        · show Steps p.tables e below (T104.setTop (mkF m 37 #[.val (.int p0), .val (.int p1), .val (.int p2), .val (.int (0 : Int32)), .val (.int (1 : Int32)), .val (.int (sp1 p0 p1)), .unset] [(.int (1 : Int32)), (.int (0 : Int32)), (.int (sp1 p0 p1))])) _
          refine st107 _ ?_
          show Steps p.tables e below (T107.setTop (mkF m 40 #[.val (.int p0), .val (.int p1), .val (.int p2), .val (.int (0 : Int32)), .val (.int (1 : Int32)), .val (.int (sp1 p0 p1)), .unset] [(.ref w_4)])) _
          refine XS.astore X107.here hx rfl (hb hby at_40) rfl rfl (l' := #[.val (.int p0), .val (.int p1), .val (.int p2), .val (.int (0 : Int32)), .val (.int (1 : Int32)), .val (.int (sp1 p0 p1)), .val (.ref w_4)]) rfl ?_
          show Steps p.tables e below (T107.setTop (mkF m 42 #[.val (.int p0), .val (.int p1), .val (.int p2), .val (.int (0 : Int32)), .val (.int (1 : Int32)), .val (.int (sp1 p0 p1)), .val (.ref w_4)] [])) _
          refine XS.aload X107.here hx rfl (hb hby at_42) rfl rfl ?_
          show Steps p.tables e below (T107.setTop (mkF m 44 #[.val (.int p0), .val (.int p1), .val (.int p2), .val (.int (0 : Int32)), .val (.int (1 : Int32)), .val (.int (sp1 p0 p1)), .val (.ref w_4)] [(.ref w_4)])) _
          refine XS.iload X107.here hx rfl (hb hby at_44) rfl ?_
          show Steps p.tables e below (T107.setTop (mkF m 46 #[.val (.int p0), .val (.int p1), .val (.int p2), .val (.int (0 : Int32)), .val (.int (1 : Int32)), .val (.int (sp1 p0 p1)), .val (.ref w_4)] [(.int (sp1 p0 p1)), (.ref w_4)])) _
          refine XS.iloadN X107.here hx rfl (hb hby at_46) rfl ?_
          show Steps p.tables e below (T107.setTop (mkF m 47 #[.val (.int p0), .val (.int p1), .val (.int p2), .val (.int (0 : Int32)), .val (.int (1 : Int32)), .val (.int (sp1 p0 p1)), .val (.ref w_4)] [(.int (0 : Int32)), (.int (sp1 p0 p1)), (.ref w_4)])) _
          refine XS.iload X107.here hx rfl (hb hby at_47) rfl ?_
          show Steps p.tables e below (T107.setTop (mkF m 49 #[.val (.int p0), .val (.int p1), .val (.int p2), .val (.int (0 : Int32)), .val (.int (1 : Int32)), .val (.int (sp1 p0 p1)), .val (.ref w_4)] [(.int (1 : Int32)), (.int (0 : Int32)), (.int (sp1 p0 p1)), (.ref w_4)])) _
          refine st108 _ ?_
          show Steps p.tables e below (T108.setTop (mkF m 52 #[.val (.int p0), .val (.int p1), .val (.int p2), .val (.int (0 : Int32)), .val (.int (1 : Int32)), .val (.int (sp1 p0 p1)), .val (.ref w_4)] [(.ref w_4), (.ref w_4)])) _
          refine Jvm.RoadKit.acmp (g := (mkF m 52 #[.val (.int p0), .val (.int p1), .val (.int p2), .val (.int (0 : Int32)), .val (.int (1 : Int32)), .val (.int (sp1 p0 p1)), .val (.ref w_4)] [(.ref w_4), (.ref w_4)])) X108 hx rfl rfl rfl (pc0 := 52) (pc' := 55) (same := true) rfl (hb hby at_52) rfl (decide_eq_true (congrArg Value.ref rfl)) (by decide) (by decide) ?_
          show Steps p.tables e below (T108.setTop (mkF m 55 #[.val (.int p0), .val (.int p1), .val (.int p2), .val (.int (0 : Int32)), .val (.int (1 : Int32)), .val (.int (sp1 p0 p1)), .val (.ref w_4)] [])) _
          refine XS.iconst X108.here hx rfl (hb hby at_55) ?_
          show Steps p.tables e below (T108.setTop (mkF m 56 #[.val (.int p0), .val (.int p1), .val (.int p2), .val (.int (0 : Int32)), .val (.int (1 : Int32)), .val (.int (sp1 p0 p1)), .val (.ref w_4)] [(.int (1 : Int32))])) _
          refine XS.goto X108.here hx rfl (pc0 := 56) (pc' := 60) rfl (hb hby at_56) (by decide) (by decide) ?_
          show Steps p.tables e below (T108.setTop (mkF m 60 #[.val (.int p0), .val (.int p1), .val (.int p2), .val (.int (0 : Int32)), .val (.int (1 : Int32)), .val (.int (sp1 p0 p1)), .val (.ref w_4)] [(.int (1 : Int32))])) _
          exact retN X108 hx (t := .boolean) Bd.returns (by simp) (hb hby at_60) hr
        · show Q0 Z w_1 w_2 w_3 w_4 w_5 p0 p1 p2 h0 n0 _ T108.heap _
          rw [e108]
          exact ⟨by unfold sp0; rw [if_pos hc10, if_neg hc12, if_pos hc106], N108, rfl⟩
      · by_cases hc109 : (sp1 p0 p1) = (410 : Int32)
        · obtain ⟨_, _, ⟨T110, L110, k110, n110⟩, -, X110, ⟨Lc110, hQ110, l110, y110, z110⟩, st110⟩ := Jvm.LawKit.callS X104 hx (y := Y2) hown (mvT hZ (hw _ (tk 4 rfl))) (mvT hZ (hw _ (tk 5 rfl))) (mvT hZ (hw _ (tk 6 rfl))) (mvT hZ (hw _ (tk 7 rfl))) (by decide) (backOf (W := 0) (rm2 l Z a0 hw [] w_1 w_2 w_3 w_4 w_5 hS0 (sp1 p0 p1) (0 : Int32) (1 : Int32) h0 n0 O0) hZ (hw _ (tk 7 rfl)) (hw _ (tk 6 rfl)) (by decide) (by decide)) (g := (mkF m 37 #[.val (.int p0), .val (.int p1), .val (.int p2), .val (.int (0 : Int32)), .val (.int (1 : Int32)), .val (.int (sp1 p0 p1)), .unset] [(.int (1 : Int32)), (.int (0 : Int32)), (.int (sp1 p0 p1))])) rfl (by rw [hml]; rfl) (argsL := [(.int (sp1 p0 p1)), (.int (0 : Int32)), (.int (1 : Int32))]) (rest := []) (lenOf pd_2 rfl) rfl (by show 2 * 0 + _ ≤ _; exact Nat.le_of_eq rfl) (hb hby at_37) (fun _ _ => ⟨rfl, e104, (by decide : 0 + 0 ≤ _), (by decide : 0 + 0 ≤ _)⟩)
          dsimp only [Pt.U, Pt.locs, Pt.cells, Pt.slots] at X110 l110 y110 z110 st110 hQ110
          subst l110 y110 z110
          obtain ⟨rv110, N110q, e110⟩ := hQ110
          rw [show sp2 w_1 w_2 w_3 w_4 w_5 (sp1 p0 p1) (0 : Int32) (1 : Int32) = (.ref w_4) from by unfold sp2; rw [if_neg hc106, if_pos hc109]] at rv110
          subst rv110
          have N110 := Fr.app N104 N110q
          obtain ⟨_, _, ⟨T111, L111, k111, n111⟩, -, X111, ⟨Lc111, hQ111, l111, y111, z111⟩, st111⟩ := Jvm.LawKit.callS X110 hx (y := Y3) hown (mvT hZ (hw _ (tk 10 rfl))) (mvT hZ (hw _ (tk 11 rfl))) (mvT hZ (hw _ (tk 2 rfl))) (mvT hZ (hw _ (tk 12 rfl))) (by decide) (backOf (W := 1) (rm3 l Z a0 hw [] w_1 w_2 w_3 w_4 w_5 hS0 (sp1 p0 p1) (0 : Int32) (1 : Int32) h0 n0 O0) hZ (hw _ (tk 12 rfl)) (hw _ (tk 2 rfl)) (by decide) (by decide)) (g := (mkF m 49 #[.val (.int p0), .val (.int p1), .val (.int p2), .val (.int (0 : Int32)), .val (.int (1 : Int32)), .val (.int (sp1 p0 p1)), .val (.ref w_4)] [(.int (1 : Int32)), (.int (0 : Int32)), (.int (sp1 p0 p1)), (.ref w_4)])) rfl (by rw [hml]; rfl) (argsL := [(.int (sp1 p0 p1)), (.int (0 : Int32)), (.int (1 : Int32))]) (rest := [(.ref w_4)]) (lenOf pd_2 rfl) rfl (by show 2 * 0 + _ ≤ _; exact Nat.le_of_eq rfl) (hb hby at_49) (fun _ _ => ⟨rfl, e110, (by decide : 0 + 0 ≤ _), (by decide : 0 + 0 ≤ _)⟩)
          dsimp only [Pt.U, Pt.locs, Pt.cells, Pt.slots] at X111 l111 y111 z111 st111 hQ111
          subst l111 y111 z111
          obtain ⟨rv111, N111q, e111⟩ := hQ111
          rw [show sp3 w_1 w_2 w_3 w_4 w_5 (sp1 p0 p1) (0 : Int32) (1 : Int32) = (.ref w_4) from by unfold sp3; rw [if_neg hc106, if_pos hc109, if_pos (by decide : ((0 : Int32) = (0 : Int32)))]] at rv111
          subst rv111
          have N111 := Fr.app N110 N111q
          obtain ⟨fs, hr, hrun, hended, hW, hsame⟩ := X111.leave (v := some (.int (1 : Int32))) (fun h => by rw [Bd.returns] at h; cases h)
          refine ⟨_, _, pre105 _ ?_, hrun, hended, _, _, rfl, ?_, ⟨_, rfl⟩, hW, hsame.mono (by decide) (by decide)⟩
          · show Steps p.tables e below (T104.setTop (mkF m 37 #[.val (.int p0), .val (.int p1), .val (.int p2), .val (.int (0 : Int32)), .val (.int (1 : Int32)), .val (.int (sp1 p0 p1)), .unset] [(.int (1 : Int32)), (.int (0 : Int32)), (.int (sp1 p0 p1))])) _
            refine st110 _ ?_
            show Steps p.tables e below (T110.setTop (mkF m 40 #[.val (.int p0), .val (.int p1), .val (.int p2), .val (.int (0 : Int32)), .val (.int (1 : Int32)), .val (.int (sp1 p0 p1)), .unset] [(.ref w_4)])) _
            refine XS.astore X110.here hx rfl (hb hby at_40) rfl rfl (l' := #[.val (.int p0), .val (.int p1), .val (.int p2), .val (.int (0 : Int32)), .val (.int (1 : Int32)), .val (.int (sp1 p0 p1)), .val (.ref w_4)]) rfl ?_
            show Steps p.tables e below (T110.setTop (mkF m 42 #[.val (.int p0), .val (.int p1), .val (.int p2), .val (.int (0 : Int32)), .val (.int (1 : Int32)), .val (.int (sp1 p0 p1)), .val (.ref w_4)] [])) _
            refine XS.aload X110.here hx rfl (hb hby at_42) rfl rfl ?_
            show Steps p.tables e below (T110.setTop (mkF m 44 #[.val (.int p0), .val (.int p1), .val (.int p2), .val (.int (0 : Int32)), .val (.int (1 : Int32)), .val (.int (sp1 p0 p1)), .val (.ref w_4)] [(.ref w_4)])) _
            refine XS.iload X110.here hx rfl (hb hby at_44) rfl ?_
            show Steps p.tables e below (T110.setTop (mkF m 46 #[.val (.int p0), .val (.int p1), .val (.int p2), .val (.int (0 : Int32)), .val (.int (1 : Int32)), .val (.int (sp1 p0 p1)), .val (.ref w_4)] [(.int (sp1 p0 p1)), (.ref w_4)])) _
            refine XS.iloadN X110.here hx rfl (hb hby at_46) rfl ?_
            show Steps p.tables e below (T110.setTop (mkF m 47 #[.val (.int p0), .val (.int p1), .val (.int p2), .val (.int (0 : Int32)), .val (.int (1 : Int32)), .val (.int (sp1 p0 p1)), .val (.ref w_4)] [(.int (0 : Int32)), (.int (sp1 p0 p1)), (.ref w_4)])) _
            refine XS.iload X110.here hx rfl (hb hby at_47) rfl ?_
            show Steps p.tables e below (T110.setTop (mkF m 49 #[.val (.int p0), .val (.int p1), .val (.int p2), .val (.int (0 : Int32)), .val (.int (1 : Int32)), .val (.int (sp1 p0 p1)), .val (.ref w_4)] [(.int (1 : Int32)), (.int (0 : Int32)), (.int (sp1 p0 p1)), (.ref w_4)])) _
            refine st111 _ ?_
            show Steps p.tables e below (T111.setTop (mkF m 52 #[.val (.int p0), .val (.int p1), .val (.int p2), .val (.int (0 : Int32)), .val (.int (1 : Int32)), .val (.int (sp1 p0 p1)), .val (.ref w_4)] [(.ref w_4), (.ref w_4)])) _
            refine Jvm.RoadKit.acmp (g := (mkF m 52 #[.val (.int p0), .val (.int p1), .val (.int p2), .val (.int (0 : Int32)), .val (.int (1 : Int32)), .val (.int (sp1 p0 p1)), .val (.ref w_4)] [(.ref w_4), (.ref w_4)])) X111 hx rfl rfl rfl (pc0 := 52) (pc' := 55) (same := true) rfl (hb hby at_52) rfl (decide_eq_true (congrArg Value.ref rfl)) (by decide) (by decide) ?_
            show Steps p.tables e below (T111.setTop (mkF m 55 #[.val (.int p0), .val (.int p1), .val (.int p2), .val (.int (0 : Int32)), .val (.int (1 : Int32)), .val (.int (sp1 p0 p1)), .val (.ref w_4)] [])) _
            refine XS.iconst X111.here hx rfl (hb hby at_55) ?_
            show Steps p.tables e below (T111.setTop (mkF m 56 #[.val (.int p0), .val (.int p1), .val (.int p2), .val (.int (0 : Int32)), .val (.int (1 : Int32)), .val (.int (sp1 p0 p1)), .val (.ref w_4)] [(.int (1 : Int32))])) _
            refine XS.goto X111.here hx rfl (pc0 := 56) (pc' := 60) rfl (hb hby at_56) (by decide) (by decide) ?_
            show Steps p.tables e below (T111.setTop (mkF m 60 #[.val (.int p0), .val (.int p1), .val (.int p2), .val (.int (0 : Int32)), .val (.int (1 : Int32)), .val (.int (sp1 p0 p1)), .val (.ref w_4)] [(.int (1 : Int32))])) _
            exact retN X111 hx (t := .boolean) Bd.returns (by simp) (hb hby at_60) hr
          · show Q0 Z w_1 w_2 w_3 w_4 w_5 p0 p1 p2 h0 n0 _ T111.heap _
            rw [e111]
            exact ⟨by unfold sp0; rw [if_pos hc10, if_neg hc12, if_neg hc106, if_pos hc109], N111, rfl⟩
        · by_cases hc112 : (sp1 p0 p1) = (304 : Int32)
          · obtain ⟨_, _, ⟨T113, L113, k113, n113⟩, -, X113, ⟨Lc113, hQ113, l113, y113, z113⟩, st113⟩ := Jvm.LawKit.callS X104 hx (y := Y2) hown (mvT hZ (hw _ (tk 4 rfl))) (mvT hZ (hw _ (tk 5 rfl))) (mvT hZ (hw _ (tk 6 rfl))) (mvT hZ (hw _ (tk 7 rfl))) (by decide) (backOf (W := 0) (rm2 l Z a0 hw [] w_1 w_2 w_3 w_4 w_5 hS0 (sp1 p0 p1) (0 : Int32) (1 : Int32) h0 n0 O0) hZ (hw _ (tk 7 rfl)) (hw _ (tk 6 rfl)) (by decide) (by decide)) (g := (mkF m 37 #[.val (.int p0), .val (.int p1), .val (.int p2), .val (.int (0 : Int32)), .val (.int (1 : Int32)), .val (.int (sp1 p0 p1)), .unset] [(.int (1 : Int32)), (.int (0 : Int32)), (.int (sp1 p0 p1))])) rfl (by rw [hml]; rfl) (argsL := [(.int (sp1 p0 p1)), (.int (0 : Int32)), (.int (1 : Int32))]) (rest := []) (lenOf pd_2 rfl) rfl (by show 2 * 0 + _ ≤ _; exact Nat.le_of_eq rfl) (hb hby at_37) (fun _ _ => ⟨rfl, e104, (by decide : 0 + 0 ≤ _), (by decide : 0 + 0 ≤ _)⟩)
            dsimp only [Pt.U, Pt.locs, Pt.cells, Pt.slots] at X113 l113 y113 z113 st113 hQ113
            subst l113 y113 z113
            obtain ⟨rv113, N113q, e113⟩ := hQ113
            rw [show sp2 w_1 w_2 w_3 w_4 w_5 (sp1 p0 p1) (0 : Int32) (1 : Int32) = (.ref w_3) from by unfold sp2; rw [if_neg hc106, if_neg hc109, if_pos hc112, if_pos (by decide : ((0 : Int32) = (0 : Int32)))]] at rv113
            subst rv113
            have N113 := Fr.app N104 N113q
            obtain ⟨_, _, ⟨T114, L114, k114, n114⟩, -, X114, ⟨Lc114, hQ114, l114, y114, z114⟩, st114⟩ := Jvm.LawKit.callS X113 hx (y := Y3) hown (mvT hZ (hw _ (tk 10 rfl))) (mvT hZ (hw _ (tk 11 rfl))) (mvT hZ (hw _ (tk 2 rfl))) (mvT hZ (hw _ (tk 12 rfl))) (by decide) (backOf (W := 1) (rm3 l Z a0 hw [] w_1 w_2 w_3 w_4 w_5 hS0 (sp1 p0 p1) (0 : Int32) (1 : Int32) h0 n0 O0) hZ (hw _ (tk 12 rfl)) (hw _ (tk 2 rfl)) (by decide) (by decide)) (g := (mkF m 49 #[.val (.int p0), .val (.int p1), .val (.int p2), .val (.int (0 : Int32)), .val (.int (1 : Int32)), .val (.int (sp1 p0 p1)), .val (.ref w_3)] [(.int (1 : Int32)), (.int (0 : Int32)), (.int (sp1 p0 p1)), (.ref w_3)])) rfl (by rw [hml]; rfl) (argsL := [(.int (sp1 p0 p1)), (.int (0 : Int32)), (.int (1 : Int32))]) (rest := [(.ref w_3)]) (lenOf pd_2 rfl) rfl (by show 2 * 0 + _ ≤ _; exact Nat.le_of_eq rfl) (hb hby at_49) (fun _ _ => ⟨rfl, e113, (by decide : 0 + 0 ≤ _), (by decide : 0 + 0 ≤ _)⟩)
            dsimp only [Pt.U, Pt.locs, Pt.cells, Pt.slots] at X114 l114 y114 z114 st114 hQ114
            subst l114 y114 z114
            obtain ⟨rv114, N114q, e114⟩ := hQ114
            rw [show sp3 w_1 w_2 w_3 w_4 w_5 (sp1 p0 p1) (0 : Int32) (1 : Int32) = (.ref w_3) from by unfold sp3; rw [if_neg hc106, if_neg hc109, if_pos (by decide : ((0 : Int32) = (0 : Int32))), if_neg (by rw [hc112] <;> decide : ¬ ((sp1 p0 p1) = (200 : Int32)))]] at rv114
            subst rv114
            have N114 := Fr.app N113 N114q
            obtain ⟨fs, hr, hrun, hended, hW, hsame⟩ := X114.leave (v := some (.int (1 : Int32))) (fun h => by rw [Bd.returns] at h; cases h)
            refine ⟨_, _, pre105 _ ?_, hrun, hended, _, _, rfl, ?_, ⟨_, rfl⟩, hW, hsame.mono (by decide) (by decide)⟩
            · show Steps p.tables e below (T104.setTop (mkF m 37 #[.val (.int p0), .val (.int p1), .val (.int p2), .val (.int (0 : Int32)), .val (.int (1 : Int32)), .val (.int (sp1 p0 p1)), .unset] [(.int (1 : Int32)), (.int (0 : Int32)), (.int (sp1 p0 p1))])) _
              refine st113 _ ?_
              show Steps p.tables e below (T113.setTop (mkF m 40 #[.val (.int p0), .val (.int p1), .val (.int p2), .val (.int (0 : Int32)), .val (.int (1 : Int32)), .val (.int (sp1 p0 p1)), .unset] [(.ref w_3)])) _
              refine XS.astore X113.here hx rfl (hb hby at_40) rfl rfl (l' := #[.val (.int p0), .val (.int p1), .val (.int p2), .val (.int (0 : Int32)), .val (.int (1 : Int32)), .val (.int (sp1 p0 p1)), .val (.ref w_3)]) rfl ?_
              show Steps p.tables e below (T113.setTop (mkF m 42 #[.val (.int p0), .val (.int p1), .val (.int p2), .val (.int (0 : Int32)), .val (.int (1 : Int32)), .val (.int (sp1 p0 p1)), .val (.ref w_3)] [])) _
              refine XS.aload X113.here hx rfl (hb hby at_42) rfl rfl ?_
              show Steps p.tables e below (T113.setTop (mkF m 44 #[.val (.int p0), .val (.int p1), .val (.int p2), .val (.int (0 : Int32)), .val (.int (1 : Int32)), .val (.int (sp1 p0 p1)), .val (.ref w_3)] [(.ref w_3)])) _
              refine XS.iload X113.here hx rfl (hb hby at_44) rfl ?_
              show Steps p.tables e below (T113.setTop (mkF m 46 #[.val (.int p0), .val (.int p1), .val (.int p2), .val (.int (0 : Int32)), .val (.int (1 : Int32)), .val (.int (sp1 p0 p1)), .val (.ref w_3)] [(.int (sp1 p0 p1)), (.ref w_3)])) _
              refine XS.iloadN X113.here hx rfl (hb hby at_46) rfl ?_
              show Steps p.tables e below (T113.setTop (mkF m 47 #[.val (.int p0), .val (.int p1), .val (.int p2), .val (.int (0 : Int32)), .val (.int (1 : Int32)), .val (.int (sp1 p0 p1)), .val (.ref w_3)] [(.int (0 : Int32)), (.int (sp1 p0 p1)), (.ref w_3)])) _
              refine XS.iload X113.here hx rfl (hb hby at_47) rfl ?_
              show Steps p.tables e below (T113.setTop (mkF m 49 #[.val (.int p0), .val (.int p1), .val (.int p2), .val (.int (0 : Int32)), .val (.int (1 : Int32)), .val (.int (sp1 p0 p1)), .val (.ref w_3)] [(.int (1 : Int32)), (.int (0 : Int32)), (.int (sp1 p0 p1)), (.ref w_3)])) _
              refine st114 _ ?_
              show Steps p.tables e below (T114.setTop (mkF m 52 #[.val (.int p0), .val (.int p1), .val (.int p2), .val (.int (0 : Int32)), .val (.int (1 : Int32)), .val (.int (sp1 p0 p1)), .val (.ref w_3)] [(.ref w_3), (.ref w_3)])) _
              refine Jvm.RoadKit.acmp (g := (mkF m 52 #[.val (.int p0), .val (.int p1), .val (.int p2), .val (.int (0 : Int32)), .val (.int (1 : Int32)), .val (.int (sp1 p0 p1)), .val (.ref w_3)] [(.ref w_3), (.ref w_3)])) X114 hx rfl rfl rfl (pc0 := 52) (pc' := 55) (same := true) rfl (hb hby at_52) rfl (decide_eq_true (congrArg Value.ref rfl)) (by decide) (by decide) ?_
              show Steps p.tables e below (T114.setTop (mkF m 55 #[.val (.int p0), .val (.int p1), .val (.int p2), .val (.int (0 : Int32)), .val (.int (1 : Int32)), .val (.int (sp1 p0 p1)), .val (.ref w_3)] [])) _
              refine XS.iconst X114.here hx rfl (hb hby at_55) ?_
              show Steps p.tables e below (T114.setTop (mkF m 56 #[.val (.int p0), .val (.int p1), .val (.int p2), .val (.int (0 : Int32)), .val (.int (1 : Int32)), .val (.int (sp1 p0 p1)), .val (.ref w_3)] [(.int (1 : Int32))])) _
              refine XS.goto X114.here hx rfl (pc0 := 56) (pc' := 60) rfl (hb hby at_56) (by decide) (by decide) ?_
              show Steps p.tables e below (T114.setTop (mkF m 60 #[.val (.int p0), .val (.int p1), .val (.int p2), .val (.int (0 : Int32)), .val (.int (1 : Int32)), .val (.int (sp1 p0 p1)), .val (.ref w_3)] [(.int (1 : Int32))])) _
              exact retN X114 hx (t := .boolean) Bd.returns (by simp) (hb hby at_60) hr
            · show Q0 Z w_1 w_2 w_3 w_4 w_5 p0 p1 p2 h0 n0 _ T114.heap _
              rw [e114]
              exact ⟨by unfold sp0; rw [if_pos hc10, if_neg hc12, if_neg hc106, if_neg hc109, if_pos hc112], N114, rfl⟩
          · by_cases hc115 : (sp1 p0 p1) = (200 : Int32)
            · obtain ⟨_, _, ⟨T116, L116, k116, n116⟩, -, X116, ⟨Lc116, hQ116, l116, y116, z116⟩, st116⟩ := Jvm.LawKit.callS X104 hx (y := Y2) hown (mvT hZ (hw _ (tk 4 rfl))) (mvT hZ (hw _ (tk 5 rfl))) (mvT hZ (hw _ (tk 6 rfl))) (mvT hZ (hw _ (tk 7 rfl))) (by decide) (backOf (W := 0) (rm2 l Z a0 hw [] w_1 w_2 w_3 w_4 w_5 hS0 (sp1 p0 p1) (0 : Int32) (1 : Int32) h0 n0 O0) hZ (hw _ (tk 7 rfl)) (hw _ (tk 6 rfl)) (by decide) (by decide)) (g := (mkF m 37 #[.val (.int p0), .val (.int p1), .val (.int p2), .val (.int (0 : Int32)), .val (.int (1 : Int32)), .val (.int (sp1 p0 p1)), .unset] [(.int (1 : Int32)), (.int (0 : Int32)), (.int (sp1 p0 p1))])) rfl (by rw [hml]; rfl) (argsL := [(.int (sp1 p0 p1)), (.int (0 : Int32)), (.int (1 : Int32))]) (rest := []) (lenOf pd_2 rfl) rfl (by show 2 * 0 + _ ≤ _; exact Nat.le_of_eq rfl) (hb hby at_37) (fun _ _ => ⟨rfl, e104, (by decide : 0 + 0 ≤ _), (by decide : 0 + 0 ≤ _)⟩)
              dsimp only [Pt.U, Pt.locs, Pt.cells, Pt.slots] at X116 l116 y116 z116 st116 hQ116
              subst l116 y116 z116
              obtain ⟨rv116, N116q, e116⟩ := hQ116
              rw [show sp2 w_1 w_2 w_3 w_4 w_5 (sp1 p0 p1) (0 : Int32) (1 : Int32) = (.ref w_1) from by unfold sp2; rw [if_neg hc106, if_neg hc109, if_neg hc112, if_pos hc115, if_pos (by decide : ((0 : Int32) = (0 : Int32))), if_neg (by decide : ¬ ((1 : Int32) = (0 : Int32)))]] at rv116
              subst rv116
              have N116 := Fr.app N104 N116q
              obtain ⟨_, _, ⟨T117, L117, k117, n117⟩, -, X117, ⟨Lc117, hQ117, l117, y117, z117⟩, st117⟩ := Jvm.LawKit.callS X116 hx (y := Y3) hown (mvT hZ (hw _ (tk 10 rfl))) (mvT hZ (hw _ (tk 11 rfl))) (mvT hZ (hw _ (tk 2 rfl))) (mvT hZ (hw _ (tk 12 rfl))) (by decide) (backOf (W := 1) (rm3 l Z a0 hw [] w_1 w_2 w_3 w_4 w_5 hS0 (sp1 p0 p1) (0 : Int32) (1 : Int32) h0 n0 O0) hZ (hw _ (tk 12 rfl)) (hw _ (tk 2 rfl)) (by decide) (by decide)) (g := (mkF m 49 #[.val (.int p0), .val (.int p1), .val (.int p2), .val (.int (0 : Int32)), .val (.int (1 : Int32)), .val (.int (sp1 p0 p1)), .val (.ref w_1)] [(.int (1 : Int32)), (.int (0 : Int32)), (.int (sp1 p0 p1)), (.ref w_1)])) rfl (by rw [hml]; rfl) (argsL := [(.int (sp1 p0 p1)), (.int (0 : Int32)), (.int (1 : Int32))]) (rest := [(.ref w_1)]) (lenOf pd_2 rfl) rfl (by show 2 * 0 + _ ≤ _; exact Nat.le_of_eq rfl) (hb hby at_49) (fun _ _ => ⟨rfl, e116, (by decide : 0 + 0 ≤ _), (by decide : 0 + 0 ≤ _)⟩)
              dsimp only [Pt.U, Pt.locs, Pt.cells, Pt.slots] at X117 l117 y117 z117 st117 hQ117
              subst l117 y117 z117
              obtain ⟨rv117, N117q, e117⟩ := hQ117
              rw [show sp3 w_1 w_2 w_3 w_4 w_5 (sp1 p0 p1) (0 : Int32) (1 : Int32) = (.ref w_1) from by unfold sp3; rw [if_neg hc106, if_neg hc109, if_pos (by decide : ((0 : Int32) = (0 : Int32))), if_pos hc115, if_neg (by decide : ¬ ((1 : Int32) = (0 : Int32)))]] at rv117
              subst rv117
              have N117 := Fr.app N116 N117q
              obtain ⟨fs, hr, hrun, hended, hW, hsame⟩ := X117.leave (v := some (.int (1 : Int32))) (fun h => by rw [Bd.returns] at h; cases h)
              refine ⟨_, _, pre105 _ ?_, hrun, hended, _, _, rfl, ?_, ⟨_, rfl⟩, hW, hsame.mono (by decide) (by decide)⟩
              · show Steps p.tables e below (T104.setTop (mkF m 37 #[.val (.int p0), .val (.int p1), .val (.int p2), .val (.int (0 : Int32)), .val (.int (1 : Int32)), .val (.int (sp1 p0 p1)), .unset] [(.int (1 : Int32)), (.int (0 : Int32)), (.int (sp1 p0 p1))])) _
                refine st116 _ ?_
                show Steps p.tables e below (T116.setTop (mkF m 40 #[.val (.int p0), .val (.int p1), .val (.int p2), .val (.int (0 : Int32)), .val (.int (1 : Int32)), .val (.int (sp1 p0 p1)), .unset] [(.ref w_1)])) _
                refine XS.astore X116.here hx rfl (hb hby at_40) rfl rfl (l' := #[.val (.int p0), .val (.int p1), .val (.int p2), .val (.int (0 : Int32)), .val (.int (1 : Int32)), .val (.int (sp1 p0 p1)), .val (.ref w_1)]) rfl ?_
                show Steps p.tables e below (T116.setTop (mkF m 42 #[.val (.int p0), .val (.int p1), .val (.int p2), .val (.int (0 : Int32)), .val (.int (1 : Int32)), .val (.int (sp1 p0 p1)), .val (.ref w_1)] [])) _
                refine XS.aload X116.here hx rfl (hb hby at_42) rfl rfl ?_
                show Steps p.tables e below (T116.setTop (mkF m 44 #[.val (.int p0), .val (.int p1), .val (.int p2), .val (.int (0 : Int32)), .val (.int (1 : Int32)), .val (.int (sp1 p0 p1)), .val (.ref w_1)] [(.ref w_1)])) _
                refine XS.iload X116.here hx rfl (hb hby at_44) rfl ?_
                show Steps p.tables e below (T116.setTop (mkF m 46 #[.val (.int p0), .val (.int p1), .val (.int p2), .val (.int (0 : Int32)), .val (.int (1 : Int32)), .val (.int (sp1 p0 p1)), .val (.ref w_1)] [(.int (sp1 p0 p1)), (.ref w_1)])) _
                refine XS.iloadN X116.here hx rfl (hb hby at_46) rfl ?_
                show Steps p.tables e below (T116.setTop (mkF m 47 #[.val (.int p0), .val (.int p1), .val (.int p2), .val (.int (0 : Int32)), .val (.int (1 : Int32)), .val (.int (sp1 p0 p1)), .val (.ref w_1)] [(.int (0 : Int32)), (.int (sp1 p0 p1)), (.ref w_1)])) _
                refine XS.iload X116.here hx rfl (hb hby at_47) rfl ?_
                show Steps p.tables e below (T116.setTop (mkF m 49 #[.val (.int p0), .val (.int p1), .val (.int p2), .val (.int (0 : Int32)), .val (.int (1 : Int32)), .val (.int (sp1 p0 p1)), .val (.ref w_1)] [(.int (1 : Int32)), (.int (0 : Int32)), (.int (sp1 p0 p1)), (.ref w_1)])) _
                refine st117 _ ?_
                show Steps p.tables e below (T117.setTop (mkF m 52 #[.val (.int p0), .val (.int p1), .val (.int p2), .val (.int (0 : Int32)), .val (.int (1 : Int32)), .val (.int (sp1 p0 p1)), .val (.ref w_1)] [(.ref w_1), (.ref w_1)])) _
                refine Jvm.RoadKit.acmp (g := (mkF m 52 #[.val (.int p0), .val (.int p1), .val (.int p2), .val (.int (0 : Int32)), .val (.int (1 : Int32)), .val (.int (sp1 p0 p1)), .val (.ref w_1)] [(.ref w_1), (.ref w_1)])) X117 hx rfl rfl rfl (pc0 := 52) (pc' := 55) (same := true) rfl (hb hby at_52) rfl (decide_eq_true (congrArg Value.ref rfl)) (by decide) (by decide) ?_
                show Steps p.tables e below (T117.setTop (mkF m 55 #[.val (.int p0), .val (.int p1), .val (.int p2), .val (.int (0 : Int32)), .val (.int (1 : Int32)), .val (.int (sp1 p0 p1)), .val (.ref w_1)] [])) _
                refine XS.iconst X117.here hx rfl (hb hby at_55) ?_
                show Steps p.tables e below (T117.setTop (mkF m 56 #[.val (.int p0), .val (.int p1), .val (.int p2), .val (.int (0 : Int32)), .val (.int (1 : Int32)), .val (.int (sp1 p0 p1)), .val (.ref w_1)] [(.int (1 : Int32))])) _
                refine XS.goto X117.here hx rfl (pc0 := 56) (pc' := 60) rfl (hb hby at_56) (by decide) (by decide) ?_
                show Steps p.tables e below (T117.setTop (mkF m 60 #[.val (.int p0), .val (.int p1), .val (.int p2), .val (.int (0 : Int32)), .val (.int (1 : Int32)), .val (.int (sp1 p0 p1)), .val (.ref w_1)] [(.int (1 : Int32))])) _
                exact retN X117 hx (t := .boolean) Bd.returns (by simp) (hb hby at_60) hr
              · show Q0 Z w_1 w_2 w_3 w_4 w_5 p0 p1 p2 h0 n0 _ T117.heap _
                rw [e117]
                exact ⟨by unfold sp0; rw [if_pos hc10, if_neg hc12, if_neg hc106, if_neg hc109, if_neg hc112, if_pos hc115], N117, rfl⟩
            · obtain ⟨_, _, ⟨T118, L118, k118, n118⟩, -, X118, ⟨Lc118, hQ118, l118, y118, z118⟩, st118⟩ := Jvm.LawKit.callS X104 hx (y := Y2) hown (mvT hZ (hw _ (tk 4 rfl))) (mvT hZ (hw _ (tk 5 rfl))) (mvT hZ (hw _ (tk 6 rfl))) (mvT hZ (hw _ (tk 7 rfl))) (by decide) (backOf (W := 0) (rm2 l Z a0 hw [] w_1 w_2 w_3 w_4 w_5 hS0 (sp1 p0 p1) (0 : Int32) (1 : Int32) h0 n0 O0) hZ (hw _ (tk 7 rfl)) (hw _ (tk 6 rfl)) (by decide) (by decide)) (g := (mkF m 37 #[.val (.int p0), .val (.int p1), .val (.int p2), .val (.int (0 : Int32)), .val (.int (1 : Int32)), .val (.int (sp1 p0 p1)), .unset] [(.int (1 : Int32)), (.int (0 : Int32)), (.int (sp1 p0 p1))])) rfl (by rw [hml]; rfl) (argsL := [(.int (sp1 p0 p1)), (.int (0 : Int32)), (.int (1 : Int32))]) (rest := []) (lenOf pd_2 rfl) rfl (by show 2 * 0 + _ ≤ _; exact Nat.le_of_eq rfl) (hb hby at_37) (fun _ _ => ⟨rfl, e104, (by decide : 0 + 0 ≤ _), (by decide : 0 + 0 ≤ _)⟩)
              dsimp only [Pt.U, Pt.locs, Pt.cells, Pt.slots] at X118 l118 y118 z118 st118 hQ118
              subst l118 y118 z118
              obtain ⟨rv118, N118q, e118⟩ := hQ118
              rw [show sp2 w_1 w_2 w_3 w_4 w_5 (sp1 p0 p1) (0 : Int32) (1 : Int32) = (.ref w_3) from by unfold sp2; rw [if_neg hc106, if_neg hc109, if_neg hc112, if_neg hc115]] at rv118
              subst rv118
              have N118 := Fr.app N104 N118q
              obtain ⟨_, _, ⟨T119, L119, k119, n119⟩, -, X119, ⟨Lc119, hQ119, l119, y119, z119⟩, st119⟩ := Jvm.LawKit.callS X118 hx (y := Y3) hown (mvT hZ (hw _ (tk 10 rfl))) (mvT hZ (hw _ (tk 11 rfl))) (mvT hZ (hw _ (tk 2 rfl))) (mvT hZ (hw _ (tk 12 rfl))) (by decide) (backOf (W := 1) (rm3 l Z a0 hw [] w_1 w_2 w_3 w_4 w_5 hS0 (sp1 p0 p1) (0 : Int32) (1 : Int32) h0 n0 O0) hZ (hw _ (tk 12 rfl)) (hw _ (tk 2 rfl)) (by decide) (by decide)) (g := (mkF m 49 #[.val (.int p0), .val (.int p1), .val (.int p2), .val (.int (0 : Int32)), .val (.int (1 : Int32)), .val (.int (sp1 p0 p1)), .val (.ref w_3)] [(.int (1 : Int32)), (.int (0 : Int32)), (.int (sp1 p0 p1)), (.ref w_3)])) rfl (by rw [hml]; rfl) (argsL := [(.int (sp1 p0 p1)), (.int (0 : Int32)), (.int (1 : Int32))]) (rest := [(.ref w_3)]) (lenOf pd_2 rfl) rfl (by show 2 * 0 + _ ≤ _; exact Nat.le_of_eq rfl) (hb hby at_49) (fun _ _ => ⟨rfl, e118, (by decide : 0 + 0 ≤ _), (by decide : 0 + 0 ≤ _)⟩)
              dsimp only [Pt.U, Pt.locs, Pt.cells, Pt.slots] at X119 l119 y119 z119 st119 hQ119
              subst l119 y119 z119
              obtain ⟨rv119, N119q, e119⟩ := hQ119
              rw [show sp3 w_1 w_2 w_3 w_4 w_5 (sp1 p0 p1) (0 : Int32) (1 : Int32) = (.ref w_3) from by unfold sp3; rw [if_neg hc106, if_neg hc109, if_pos (by decide : ((0 : Int32) = (0 : Int32))), if_neg hc115]] at rv119
              subst rv119
              have N119 := Fr.app N118 N119q
              obtain ⟨fs, hr, hrun, hended, hW, hsame⟩ := X119.leave (v := some (.int (1 : Int32))) (fun h => by rw [Bd.returns] at h; cases h)
              refine ⟨_, _, pre105 _ ?_, hrun, hended, _, _, rfl, ?_, ⟨_, rfl⟩, hW, hsame.mono (by decide) (by decide)⟩
              · show Steps p.tables e below (T104.setTop (mkF m 37 #[.val (.int p0), .val (.int p1), .val (.int p2), .val (.int (0 : Int32)), .val (.int (1 : Int32)), .val (.int (sp1 p0 p1)), .unset] [(.int (1 : Int32)), (.int (0 : Int32)), (.int (sp1 p0 p1))])) _
                refine st118 _ ?_
                show Steps p.tables e below (T118.setTop (mkF m 40 #[.val (.int p0), .val (.int p1), .val (.int p2), .val (.int (0 : Int32)), .val (.int (1 : Int32)), .val (.int (sp1 p0 p1)), .unset] [(.ref w_3)])) _
                refine XS.astore X118.here hx rfl (hb hby at_40) rfl rfl (l' := #[.val (.int p0), .val (.int p1), .val (.int p2), .val (.int (0 : Int32)), .val (.int (1 : Int32)), .val (.int (sp1 p0 p1)), .val (.ref w_3)]) rfl ?_
                show Steps p.tables e below (T118.setTop (mkF m 42 #[.val (.int p0), .val (.int p1), .val (.int p2), .val (.int (0 : Int32)), .val (.int (1 : Int32)), .val (.int (sp1 p0 p1)), .val (.ref w_3)] [])) _
                refine XS.aload X118.here hx rfl (hb hby at_42) rfl rfl ?_
                show Steps p.tables e below (T118.setTop (mkF m 44 #[.val (.int p0), .val (.int p1), .val (.int p2), .val (.int (0 : Int32)), .val (.int (1 : Int32)), .val (.int (sp1 p0 p1)), .val (.ref w_3)] [(.ref w_3)])) _
                refine XS.iload X118.here hx rfl (hb hby at_44) rfl ?_
                show Steps p.tables e below (T118.setTop (mkF m 46 #[.val (.int p0), .val (.int p1), .val (.int p2), .val (.int (0 : Int32)), .val (.int (1 : Int32)), .val (.int (sp1 p0 p1)), .val (.ref w_3)] [(.int (sp1 p0 p1)), (.ref w_3)])) _
                refine XS.iloadN X118.here hx rfl (hb hby at_46) rfl ?_
                show Steps p.tables e below (T118.setTop (mkF m 47 #[.val (.int p0), .val (.int p1), .val (.int p2), .val (.int (0 : Int32)), .val (.int (1 : Int32)), .val (.int (sp1 p0 p1)), .val (.ref w_3)] [(.int (0 : Int32)), (.int (sp1 p0 p1)), (.ref w_3)])) _
                refine XS.iload X118.here hx rfl (hb hby at_47) rfl ?_
                show Steps p.tables e below (T118.setTop (mkF m 49 #[.val (.int p0), .val (.int p1), .val (.int p2), .val (.int (0 : Int32)), .val (.int (1 : Int32)), .val (.int (sp1 p0 p1)), .val (.ref w_3)] [(.int (1 : Int32)), (.int (0 : Int32)), (.int (sp1 p0 p1)), (.ref w_3)])) _
                refine st119 _ ?_
                show Steps p.tables e below (T119.setTop (mkF m 52 #[.val (.int p0), .val (.int p1), .val (.int p2), .val (.int (0 : Int32)), .val (.int (1 : Int32)), .val (.int (sp1 p0 p1)), .val (.ref w_3)] [(.ref w_3), (.ref w_3)])) _
                refine Jvm.RoadKit.acmp (g := (mkF m 52 #[.val (.int p0), .val (.int p1), .val (.int p2), .val (.int (0 : Int32)), .val (.int (1 : Int32)), .val (.int (sp1 p0 p1)), .val (.ref w_3)] [(.ref w_3), (.ref w_3)])) X119 hx rfl rfl rfl (pc0 := 52) (pc' := 55) (same := true) rfl (hb hby at_52) rfl (decide_eq_true (congrArg Value.ref rfl)) (by decide) (by decide) ?_
                show Steps p.tables e below (T119.setTop (mkF m 55 #[.val (.int p0), .val (.int p1), .val (.int p2), .val (.int (0 : Int32)), .val (.int (1 : Int32)), .val (.int (sp1 p0 p1)), .val (.ref w_3)] [])) _
                refine XS.iconst X119.here hx rfl (hb hby at_55) ?_
                show Steps p.tables e below (T119.setTop (mkF m 56 #[.val (.int p0), .val (.int p1), .val (.int p2), .val (.int (0 : Int32)), .val (.int (1 : Int32)), .val (.int (sp1 p0 p1)), .val (.ref w_3)] [(.int (1 : Int32))])) _
                refine XS.goto X119.here hx rfl (pc0 := 56) (pc' := 60) rfl (hb hby at_56) (by decide) (by decide) ?_
                show Steps p.tables e below (T119.setTop (mkF m 60 #[.val (.int p0), .val (.int p1), .val (.int p2), .val (.int (0 : Int32)), .val (.int (1 : Int32)), .val (.int (sp1 p0 p1)), .val (.ref w_3)] [(.int (1 : Int32))])) _
                exact retN X119 hx (t := .boolean) Bd.returns (by simp) (hb hby at_60) hr
              · show Q0 Z w_1 w_2 w_3 w_4 w_5 p0 p1 p2 h0 n0 _ T119.heap _
                rw [e119]
                exact ⟨by unfold sp0; rw [if_pos hc10, if_neg hc12, if_neg hc106, if_neg hc109, if_neg hc112, if_neg hc115], N119, rfl⟩
  · have pre120 : ∀ t, Steps p.tables e below (s₁.setTop (mkF m 15 #[.val (.int p0), .val (.int p1), .val (.int p2), .val (.int (1 : Int32)), .unset, .unset, .unset] [(.int (p2 &&& (2 : Int32)))])) t → Steps p.tables e below (s₁.setTop (entryFrame m #[(.int p0), (.int p1), (.int p2)] maxLocals)) t := fun t kt => by
      refine pre9 t ?_
      show Steps p.tables e below (s₁.setTop (mkF m 3 #[.val (.int p0), .val (.int p1), .val (.int p2), .unset, .unset, .unset, .unset] [(.int (p2 &&& (1 : Int32)))])) _
      refine XS.ifNo X0.here hx rfl (hb hby at_3) rfl ((if0 _ _).trans (feq hc10).1) ?_
      show Steps p.tables e below (s₁.setTop (mkF m 6 #[.val (.int p0), .val (.int p1), .val (.int p2), .unset, .unset, .unset, .unset] [])) _
      refine XS.iconst X0.here hx rfl (hb hby at_6) ?_
      show Steps p.tables e below (s₁.setTop (mkF m 7 #[.val (.int p0), .val (.int p1), .val (.int p2), .unset, .unset, .unset, .unset] [(.int (1 : Int32))])) _
      refine XS.goto X0.here hx rfl (pc0 := 7) (pc' := 11) rfl (hb hby at_7) (by decide) (by decide) ?_
      show Steps p.tables e below (s₁.setTop (mkF m 11 #[.val (.int p0), .val (.int p1), .val (.int p2), .unset, .unset, .unset, .unset] [(.int (1 : Int32))])) _
      refine XS.istoreN X0.here hx rfl (hb hby at_11) rfl (l' := #[.val (.int p0), .val (.int p1), .val (.int p2), .val (.int (1 : Int32)), .unset, .unset, .unset]) rfl ?_
      show Steps p.tables e below (s₁.setTop (mkF m 12 #[.val (.int p0), .val (.int p1), .val (.int p2), .val (.int (1 : Int32)), .unset, .unset, .unset] [])) _
      refine XS.iloadN X0.here hx rfl (hb hby at_12) rfl ?_
      show Steps p.tables e below (s₁.setTop (mkF m 13 #[.val (.int p0), .val (.int p1), .val (.int p2), .val (.int (1 : Int32)), .unset, .unset, .unset] [(.int p2)])) _
      refine XS.iconst X0.here hx rfl (hb hby at_13) ?_
      show Steps p.tables e below (s₁.setTop (mkF m 14 #[.val (.int p0), .val (.int p1), .val (.int p2), .val (.int (1 : Int32)), .unset, .unset, .unset] [(.int (2 : Int32)), (.int p2)])) _
      refine XS.iand X0.here hx rfl (hb hby at_14) rfl ?_
      show Steps p.tables e below (s₁.setTop (mkF m 15 #[.val (.int p0), .val (.int p1), .val (.int p2), .val (.int (1 : Int32)), .unset, .unset, .unset] [(.int (p2 &&& (2 : Int32)))])) _
      exact kt
    by_cases hc121 : (p2 &&& (2 : Int32)) = (0 : Int32)
    · obtain ⟨_, _, ⟨T122, L122, k122, n122⟩, -, X122, ⟨Lc122, hQ122, l122, y122, z122⟩, st122⟩ := Jvm.LawKit.callS X0 hx (y := Y1) hown (mvT hZ (hw _ (tk 0 rfl))) (mvT hZ (hw _ (tk 1 rfl))) (mvT hZ (hw _ (tk 2 rfl))) (mvT hZ (hw _ (tk 3 rfl))) (by decide) (backOf (W := 0) (rm1 l Z a0 hw [] w_1 w_2 w_3 w_4 w_5 hS0 p0 p1 h0 n0 O0) hZ (hw _ (tk 3 rfl)) (hw _ (tk 2 rfl)) (by decide) (by decide)) (g := (mkF m 27 #[.val (.int p0), .val (.int p1), .val (.int p2), .val (.int (1 : Int32)), .val (.int (0 : Int32)), .unset, .unset] [(.int p1), (.int p0)])) rfl (by rw [hml]; rfl) (argsL := [(.int p0), (.int p1)]) (rest := []) (lenOf pd_1 rfl) rfl (by show 2 * 0 + _ ≤ _; exact Nat.le_of_eq rfl) (hb hby at_27) (fun _ _ => ⟨rfl, e0, (by decide : 0 + 0 ≤ _), (by decide : 0 + 0 ≤ _)⟩)
      dsimp only [Pt.U, Pt.locs, Pt.cells, Pt.slots] at X122 l122 y122 z122 st122 hQ122
      subst l122 y122 z122
      obtain ⟨rv122, N122q, e122⟩ := hQ122
      subst rv122
      have N122 := Fr.app N0 N122q
      have pre123 : ∀ t, Steps p.tables e below (T122.setTop (mkF m 37 #[.val (.int p0), .val (.int p1), .val (.int p2), .val (.int (1 : Int32)), .val (.int (0 : Int32)), .val (.int (sp1 p0 p1)), .unset] [(.int (0 : Int32)), (.int (1 : Int32)), (.int (sp1 p0 p1))])) t → Steps p.tables e below (s₁.setTop (entryFrame m #[(.int p0), (.int p1), (.int p2)] maxLocals)) t := fun t kt => by
        refine pre120 t ?_
        show Steps p.tables e below (s₁.setTop (mkF m 15 #[.val (.int p0), .val (.int p1), .val (.int p2), .val (.int (1 : Int32)), .unset, .unset, .unset] [(.int (p2 &&& (2 : Int32)))])) _
        refine XS.ifYes X0.here hx rfl (pc0 := 15) (pc' := 22) rfl (hb hby at_15) rfl ((if0 _ _).trans (teq hc121).1) (by decide) (by decide) ?_
        show Steps p.tables e below (s₁.setTop (mkF m 22 #[.val (.int p0), .val (.int p1), .val (.int p2), .val (.int (1 : Int32)), .unset, .unset, .unset] [])) _
        refine XS.iconst X0.here hx rfl (hb hby at_22) ?_
        show Steps p.tables e below (s₁.setTop (mkF m 23 #[.val (.int p0), .val (.int p1), .val (.int p2), .val (.int (1 : Int32)), .unset, .unset, .unset] [(.int (0 : Int32))])) _
        refine XS.istore X0.here hx rfl (hb hby at_23) rfl (l' := #[.val (.int p0), .val (.int p1), .val (.int p2), .val (.int (1 : Int32)), .val (.int (0 : Int32)), .unset, .unset]) rfl ?_
        show Steps p.tables e below (s₁.setTop (mkF m 25 #[.val (.int p0), .val (.int p1), .val (.int p2), .val (.int (1 : Int32)), .val (.int (0 : Int32)), .unset, .unset] [])) _
        refine XS.iloadN X0.here hx rfl (hb hby at_25) rfl ?_
        show Steps p.tables e below (s₁.setTop (mkF m 26 #[.val (.int p0), .val (.int p1), .val (.int p2), .val (.int (1 : Int32)), .val (.int (0 : Int32)), .unset, .unset] [(.int p0)])) _
        refine XS.iloadN X0.here hx rfl (hb hby at_26) rfl ?_
        show Steps p.tables e below (s₁.setTop (mkF m 27 #[.val (.int p0), .val (.int p1), .val (.int p2), .val (.int (1 : Int32)), .val (.int (0 : Int32)), .unset, .unset] [(.int p1), (.int p0)])) _
        refine st122 _ ?_
        show Steps p.tables e below (T122.setTop (mkF m 30 #[.val (.int p0), .val (.int p1), .val (.int p2), .val (.int (1 : Int32)), .val (.int (0 : Int32)), .unset, .unset] [(.int (sp1 p0 p1))])) _
        refine XS.istore X122.here hx rfl (hb hby at_30) rfl (l' := #[.val (.int p0), .val (.int p1), .val (.int p2), .val (.int (1 : Int32)), .val (.int (0 : Int32)), .val (.int (sp1 p0 p1)), .unset]) rfl ?_
        show Steps p.tables e below (T122.setTop (mkF m 32 #[.val (.int p0), .val (.int p1), .val (.int p2), .val (.int (1 : Int32)), .val (.int (0 : Int32)), .val (.int (sp1 p0 p1)), .unset] [])) _
        refine XS.iload X122.here hx rfl (hb hby at_32) rfl ?_
        show Steps p.tables e below (T122.setTop (mkF m 34 #[.val (.int p0), .val (.int p1), .val (.int p2), .val (.int (1 : Int32)), .val (.int (0 : Int32)), .val (.int (sp1 p0 p1)), .unset] [(.int (sp1 p0 p1))])) _
        refine XS.iloadN X122.here hx rfl (hb hby at_34) rfl ?_
        show Steps p.tables e below (T122.setTop (mkF m 35 #[.val (.int p0), .val (.int p1), .val (.int p2), .val (.int (1 : Int32)), .val (.int (0 : Int32)), .val (.int (sp1 p0 p1)), .unset] [(.int (1 : Int32)), (.int (sp1 p0 p1))])) _
        refine XS.iload X122.here hx rfl (hb hby at_35) rfl ?_
        show Steps p.tables e below (T122.setTop (mkF m 37 #[.val (.int p0), .val (.int p1), .val (.int p2), .val (.int (1 : Int32)), .val (.int (0 : Int32)), .val (.int (sp1 p0 p1)), .unset] [(.int (0 : Int32)), (.int (1 : Int32)), (.int (sp1 p0 p1))])) _
        exact kt
      by_cases hc124 : (sp1 p0 p1) = (404 : Int32)
      · obtain ⟨_, _, ⟨T125, L125, k125, n125⟩, -, X125, ⟨Lc125, hQ125, l125, y125, z125⟩, st125⟩ := Jvm.LawKit.callS X122 hx (y := Y2) hown (mvT hZ (hw _ (tk 4 rfl))) (mvT hZ (hw _ (tk 5 rfl))) (mvT hZ (hw _ (tk 6 rfl))) (mvT hZ (hw _ (tk 7 rfl))) (by decide) (backOf (W := 0) (rm2 l Z a0 hw [] w_1 w_2 w_3 w_4 w_5 hS0 (sp1 p0 p1) (1 : Int32) (0 : Int32) h0 n0 O0) hZ (hw _ (tk 7 rfl)) (hw _ (tk 6 rfl)) (by decide) (by decide)) (g := (mkF m 37 #[.val (.int p0), .val (.int p1), .val (.int p2), .val (.int (1 : Int32)), .val (.int (0 : Int32)), .val (.int (sp1 p0 p1)), .unset] [(.int (0 : Int32)), (.int (1 : Int32)), (.int (sp1 p0 p1))])) rfl (by rw [hml]; rfl) (argsL := [(.int (sp1 p0 p1)), (.int (1 : Int32)), (.int (0 : Int32))]) (rest := []) (lenOf pd_2 rfl) rfl (by show 2 * 0 + _ ≤ _; exact Nat.le_of_eq rfl) (hb hby at_37) (fun _ _ => ⟨rfl, e122, (by decide : 0 + 0 ≤ _), (by decide : 0 + 0 ≤ _)⟩)
        dsimp only [Pt.U, Pt.locs, Pt.cells, Pt.slots] at X125 l125 y125 z125 st125 hQ125
        subst l125 y125 z125
        obtain ⟨rv125, N125q, e125⟩ := hQ125
        rw [show sp2 w_1 w_2 w_3 w_4 w_5 (sp1 p0 p1) (1 : Int32) (0 : Int32) = (.ref w_4) from by unfold sp2; rw [if_pos hc124]] at rv125
        subst rv125
        have N125 := Fr.app N122 N125q
        obtain ⟨_, _, ⟨T126, L126, k126, n126⟩, -, X126, ⟨Lc126, hQ126, l126, y126, z126⟩, st126⟩ := Jvm.LawKit.callS X125 hx (y := Y3) hown (mvT hZ (hw _ (tk 10 rfl))) (mvT hZ (hw _ (tk 11 rfl))) (mvT hZ (hw _ (tk 2 rfl))) (mvT hZ (hw _ (tk 12 rfl))) (by decide) (backOf (W := 1) (rm3 l Z a0 hw [] w_1 w_2 w_3 w_4 w_5 hS0 (sp1 p0 p1) (1 : Int32) (0 : Int32) h0 n0 O0) hZ (hw _ (tk 12 rfl)) (hw _ (tk 2 rfl)) (by decide) (by decide)) (g := (mkF m 49 #[.val (.int p0), .val (.int p1), .val (.int p2), .val (.int (1 : Int32)), .val (.int (0 : Int32)), .val (.int (sp1 p0 p1)), .val (.ref w_4)] [(.int (0 : Int32)), (.int (1 : Int32)), (.int (sp1 p0 p1)), (.ref w_4)])) rfl (by rw [hml]; rfl) (argsL := [(.int (sp1 p0 p1)), (.int (1 : Int32)), (.int (0 : Int32))]) (rest := [(.ref w_4)]) (lenOf pd_2 rfl) rfl (by show 2 * 0 + _ ≤ _; exact Nat.le_of_eq rfl) (hb hby at_49) (fun _ _ => ⟨rfl, e125, (by decide : 0 + 0 ≤ _), (by decide : 0 + 0 ≤ _)⟩)
        dsimp only [Pt.U, Pt.locs, Pt.cells, Pt.slots] at X126 l126 y126 z126 st126 hQ126
        subst l126 y126 z126
        obtain ⟨rv126, N126q, e126⟩ := hQ126
        rw [show sp3 w_1 w_2 w_3 w_4 w_5 (sp1 p0 p1) (1 : Int32) (0 : Int32) = (.ref w_4) from by unfold sp3; rw [if_pos hc124, if_neg (by decide : ¬ ((1 : Int32) = (0 : Int32)))]] at rv126
        subst rv126
        have N126 := Fr.app N125 N126q
        obtain ⟨fs, hr, hrun, hended, hW, hsame⟩ := X126.leave (v := some (.int (1 : Int32))) (fun h => by rw [Bd.returns] at h; cases h)
        refine ⟨_, _, pre123 _ ?_, hrun, hended, _, _, rfl, ?_, ⟨_, rfl⟩, hW, hsame.mono (by decide) (by decide)⟩
        · show Steps p.tables e below (T122.setTop (mkF m 37 #[.val (.int p0), .val (.int p1), .val (.int p2), .val (.int (1 : Int32)), .val (.int (0 : Int32)), .val (.int (sp1 p0 p1)), .unset] [(.int (0 : Int32)), (.int (1 : Int32)), (.int (sp1 p0 p1))])) _
          refine st125 _ ?_
          show Steps p.tables e below (T125.setTop (mkF m 40 #[.val (.int p0), .val (.int p1), .val (.int p2), .val (.int (1 : Int32)), .val (.int (0 : Int32)), .val (.int (sp1 p0 p1)), .unset] [(.ref w_4)])) _
          refine XS.astore X125.here hx rfl (hb hby at_40) rfl rfl (l' := #[.val (.int p0), .val (.int p1), .val (.int p2), .val (.int (1 : Int32)), .val (.int (0 : Int32)), .val (.int (sp1 p0 p1)), .val (.ref w_4)]) rfl ?_
          show Steps p.tables e below (T125.setTop (mkF m 42 #[.val (.int p0), .val (.int p1), .val (.int p2), .val (.int (1 : Int32)), .val (.int (0 : Int32)), .val (.int (sp1 p0 p1)), .val (.ref w_4)] [])) _
          refine XS.aload X125.here hx rfl (hb hby at_42) rfl rfl ?_
          show Steps p.tables e below (T125.setTop (mkF m 44 #[.val (.int p0), .val (.int p1), .val (.int p2), .val (.int (1 : Int32)), .val (.int (0 : Int32)), .val (.int (sp1 p0 p1)), .val (.ref w_4)] [(.ref w_4)])) _
          refine XS.iload X125.here hx rfl (hb hby at_44) rfl ?_
          show Steps p.tables e below (T125.setTop (mkF m 46 #[.val (.int p0), .val (.int p1), .val (.int p2), .val (.int (1 : Int32)), .val (.int (0 : Int32)), .val (.int (sp1 p0 p1)), .val (.ref w_4)] [(.int (sp1 p0 p1)), (.ref w_4)])) _
          refine XS.iloadN X125.here hx rfl (hb hby at_46) rfl ?_
          show Steps p.tables e below (T125.setTop (mkF m 47 #[.val (.int p0), .val (.int p1), .val (.int p2), .val (.int (1 : Int32)), .val (.int (0 : Int32)), .val (.int (sp1 p0 p1)), .val (.ref w_4)] [(.int (1 : Int32)), (.int (sp1 p0 p1)), (.ref w_4)])) _
          refine XS.iload X125.here hx rfl (hb hby at_47) rfl ?_
          show Steps p.tables e below (T125.setTop (mkF m 49 #[.val (.int p0), .val (.int p1), .val (.int p2), .val (.int (1 : Int32)), .val (.int (0 : Int32)), .val (.int (sp1 p0 p1)), .val (.ref w_4)] [(.int (0 : Int32)), (.int (1 : Int32)), (.int (sp1 p0 p1)), (.ref w_4)])) _
          refine st126 _ ?_
          show Steps p.tables e below (T126.setTop (mkF m 52 #[.val (.int p0), .val (.int p1), .val (.int p2), .val (.int (1 : Int32)), .val (.int (0 : Int32)), .val (.int (sp1 p0 p1)), .val (.ref w_4)] [(.ref w_4), (.ref w_4)])) _
          refine Jvm.RoadKit.acmp (g := (mkF m 52 #[.val (.int p0), .val (.int p1), .val (.int p2), .val (.int (1 : Int32)), .val (.int (0 : Int32)), .val (.int (sp1 p0 p1)), .val (.ref w_4)] [(.ref w_4), (.ref w_4)])) X126 hx rfl rfl rfl (pc0 := 52) (pc' := 55) (same := true) rfl (hb hby at_52) rfl (decide_eq_true (congrArg Value.ref rfl)) (by decide) (by decide) ?_
          show Steps p.tables e below (T126.setTop (mkF m 55 #[.val (.int p0), .val (.int p1), .val (.int p2), .val (.int (1 : Int32)), .val (.int (0 : Int32)), .val (.int (sp1 p0 p1)), .val (.ref w_4)] [])) _
          refine XS.iconst X126.here hx rfl (hb hby at_55) ?_
          show Steps p.tables e below (T126.setTop (mkF m 56 #[.val (.int p0), .val (.int p1), .val (.int p2), .val (.int (1 : Int32)), .val (.int (0 : Int32)), .val (.int (sp1 p0 p1)), .val (.ref w_4)] [(.int (1 : Int32))])) _
          refine XS.goto X126.here hx rfl (pc0 := 56) (pc' := 60) rfl (hb hby at_56) (by decide) (by decide) ?_
          show Steps p.tables e below (T126.setTop (mkF m 60 #[.val (.int p0), .val (.int p1), .val (.int p2), .val (.int (1 : Int32)), .val (.int (0 : Int32)), .val (.int (sp1 p0 p1)), .val (.ref w_4)] [(.int (1 : Int32))])) _
          exact retN X126 hx (t := .boolean) Bd.returns (by simp) (hb hby at_60) hr
        · show Q0 Z w_1 w_2 w_3 w_4 w_5 p0 p1 p2 h0 n0 _ T126.heap _
          rw [e126]
          exact ⟨by unfold sp0; rw [if_neg hc10, if_pos hc121, if_pos hc124], N126, rfl⟩
      · by_cases hc127 : (sp1 p0 p1) = (410 : Int32)
        · obtain ⟨_, _, ⟨T128, L128, k128, n128⟩, -, X128, ⟨Lc128, hQ128, l128, y128, z128⟩, st128⟩ := Jvm.LawKit.callS X122 hx (y := Y2) hown (mvT hZ (hw _ (tk 4 rfl))) (mvT hZ (hw _ (tk 5 rfl))) (mvT hZ (hw _ (tk 6 rfl))) (mvT hZ (hw _ (tk 7 rfl))) (by decide) (backOf (W := 0) (rm2 l Z a0 hw [] w_1 w_2 w_3 w_4 w_5 hS0 (sp1 p0 p1) (1 : Int32) (0 : Int32) h0 n0 O0) hZ (hw _ (tk 7 rfl)) (hw _ (tk 6 rfl)) (by decide) (by decide)) (g := (mkF m 37 #[.val (.int p0), .val (.int p1), .val (.int p2), .val (.int (1 : Int32)), .val (.int (0 : Int32)), .val (.int (sp1 p0 p1)), .unset] [(.int (0 : Int32)), (.int (1 : Int32)), (.int (sp1 p0 p1))])) rfl (by rw [hml]; rfl) (argsL := [(.int (sp1 p0 p1)), (.int (1 : Int32)), (.int (0 : Int32))]) (rest := []) (lenOf pd_2 rfl) rfl (by show 2 * 0 + _ ≤ _; exact Nat.le_of_eq rfl) (hb hby at_37) (fun _ _ => ⟨rfl, e122, (by decide : 0 + 0 ≤ _), (by decide : 0 + 0 ≤ _)⟩)
          dsimp only [Pt.U, Pt.locs, Pt.cells, Pt.slots] at X128 l128 y128 z128 st128 hQ128
          subst l128 y128 z128
          obtain ⟨rv128, N128q, e128⟩ := hQ128
          rw [show sp2 w_1 w_2 w_3 w_4 w_5 (sp1 p0 p1) (1 : Int32) (0 : Int32) = (.ref w_4) from by unfold sp2; rw [if_neg hc124, if_pos hc127]] at rv128
          subst rv128
          have N128 := Fr.app N122 N128q
          obtain ⟨_, _, ⟨T129, L129, k129, n129⟩, -, X129, ⟨Lc129, hQ129, l129, y129, z129⟩, st129⟩ := Jvm.LawKit.callS X128 hx (y := Y3) hown (mvT hZ (hw _ (tk 10 rfl))) (mvT hZ (hw _ (tk 11 rfl))) (mvT hZ (hw _ (tk 2 rfl))) (mvT hZ (hw _ (tk 12 rfl))) (by decide) (backOf (W := 1) (rm3 l Z a0 hw [] w_1 w_2 w_3 w_4 w_5 hS0 (sp1 p0 p1) (1 : Int32) (0 : Int32) h0 n0 O0) hZ (hw _ (tk 12 rfl)) (hw _ (tk 2 rfl)) (by decide) (by decide)) (g := (mkF m 49 #[.val (.int p0), .val (.int p1), .val (.int p2), .val (.int (1 : Int32)), .val (.int (0 : Int32)), .val (.int (sp1 p0 p1)), .val (.ref w_4)] [(.int (0 : Int32)), (.int (1 : Int32)), (.int (sp1 p0 p1)), (.ref w_4)])) rfl (by rw [hml]; rfl) (argsL := [(.int (sp1 p0 p1)), (.int (1 : Int32)), (.int (0 : Int32))]) (rest := [(.ref w_4)]) (lenOf pd_2 rfl) rfl (by show 2 * 0 + _ ≤ _; exact Nat.le_of_eq rfl) (hb hby at_49) (fun _ _ => ⟨rfl, e128, (by decide : 0 + 0 ≤ _), (by decide : 0 + 0 ≤ _)⟩)
          dsimp only [Pt.U, Pt.locs, Pt.cells, Pt.slots] at X129 l129 y129 z129 st129 hQ129
          subst l129 y129 z129
          obtain ⟨rv129, N129q, e129⟩ := hQ129
          rw [show sp3 w_1 w_2 w_3 w_4 w_5 (sp1 p0 p1) (1 : Int32) (0 : Int32) = (.ref w_4) from by unfold sp3; rw [if_neg hc124, if_pos hc127, if_neg (by decide : ¬ ((1 : Int32) = (0 : Int32)))]] at rv129
          subst rv129
          have N129 := Fr.app N128 N129q
          obtain ⟨fs, hr, hrun, hended, hW, hsame⟩ := X129.leave (v := some (.int (1 : Int32))) (fun h => by rw [Bd.returns] at h; cases h)
          refine ⟨_, _, pre123 _ ?_, hrun, hended, _, _, rfl, ?_, ⟨_, rfl⟩, hW, hsame.mono (by decide) (by decide)⟩
          · show Steps p.tables e below (T122.setTop (mkF m 37 #[.val (.int p0), .val (.int p1), .val (.int p2), .val (.int (1 : Int32)), .val (.int (0 : Int32)), .val (.int (sp1 p0 p1)), .unset] [(.int (0 : Int32)), (.int (1 : Int32)), (.int (sp1 p0 p1))])) _
            refine st128 _ ?_
            show Steps p.tables e below (T128.setTop (mkF m 40 #[.val (.int p0), .val (.int p1), .val (.int p2), .val (.int (1 : Int32)), .val (.int (0 : Int32)), .val (.int (sp1 p0 p1)), .unset] [(.ref w_4)])) _
            refine XS.astore X128.here hx rfl (hb hby at_40) rfl rfl (l' := #[.val (.int p0), .val (.int p1), .val (.int p2), .val (.int (1 : Int32)), .val (.int (0 : Int32)), .val (.int (sp1 p0 p1)), .val (.ref w_4)]) rfl ?_
            show Steps p.tables e below (T128.setTop (mkF m 42 #[.val (.int p0), .val (.int p1), .val (.int p2), .val (.int (1 : Int32)), .val (.int (0 : Int32)), .val (.int (sp1 p0 p1)), .val (.ref w_4)] [])) _
            refine XS.aload X128.here hx rfl (hb hby at_42) rfl rfl ?_
            show Steps p.tables e below (T128.setTop (mkF m 44 #[.val (.int p0), .val (.int p1), .val (.int p2), .val (.int (1 : Int32)), .val (.int (0 : Int32)), .val (.int (sp1 p0 p1)), .val (.ref w_4)] [(.ref w_4)])) _
            refine XS.iload X128.here hx rfl (hb hby at_44) rfl ?_
            show Steps p.tables e below (T128.setTop (mkF m 46 #[.val (.int p0), .val (.int p1), .val (.int p2), .val (.int (1 : Int32)), .val (.int (0 : Int32)), .val (.int (sp1 p0 p1)), .val (.ref w_4)] [(.int (sp1 p0 p1)), (.ref w_4)])) _
            refine XS.iloadN X128.here hx rfl (hb hby at_46) rfl ?_
            show Steps p.tables e below (T128.setTop (mkF m 47 #[.val (.int p0), .val (.int p1), .val (.int p2), .val (.int (1 : Int32)), .val (.int (0 : Int32)), .val (.int (sp1 p0 p1)), .val (.ref w_4)] [(.int (1 : Int32)), (.int (sp1 p0 p1)), (.ref w_4)])) _
            refine XS.iload X128.here hx rfl (hb hby at_47) rfl ?_
            show Steps p.tables e below (T128.setTop (mkF m 49 #[.val (.int p0), .val (.int p1), .val (.int p2), .val (.int (1 : Int32)), .val (.int (0 : Int32)), .val (.int (sp1 p0 p1)), .val (.ref w_4)] [(.int (0 : Int32)), (.int (1 : Int32)), (.int (sp1 p0 p1)), (.ref w_4)])) _
            refine st129 _ ?_
            show Steps p.tables e below (T129.setTop (mkF m 52 #[.val (.int p0), .val (.int p1), .val (.int p2), .val (.int (1 : Int32)), .val (.int (0 : Int32)), .val (.int (sp1 p0 p1)), .val (.ref w_4)] [(.ref w_4), (.ref w_4)])) _
            refine Jvm.RoadKit.acmp (g := (mkF m 52 #[.val (.int p0), .val (.int p1), .val (.int p2), .val (.int (1 : Int32)), .val (.int (0 : Int32)), .val (.int (sp1 p0 p1)), .val (.ref w_4)] [(.ref w_4), (.ref w_4)])) X129 hx rfl rfl rfl (pc0 := 52) (pc' := 55) (same := true) rfl (hb hby at_52) rfl (decide_eq_true (congrArg Value.ref rfl)) (by decide) (by decide) ?_
            show Steps p.tables e below (T129.setTop (mkF m 55 #[.val (.int p0), .val (.int p1), .val (.int p2), .val (.int (1 : Int32)), .val (.int (0 : Int32)), .val (.int (sp1 p0 p1)), .val (.ref w_4)] [])) _
            refine XS.iconst X129.here hx rfl (hb hby at_55) ?_
            show Steps p.tables e below (T129.setTop (mkF m 56 #[.val (.int p0), .val (.int p1), .val (.int p2), .val (.int (1 : Int32)), .val (.int (0 : Int32)), .val (.int (sp1 p0 p1)), .val (.ref w_4)] [(.int (1 : Int32))])) _
            refine XS.goto X129.here hx rfl (pc0 := 56) (pc' := 60) rfl (hb hby at_56) (by decide) (by decide) ?_
            show Steps p.tables e below (T129.setTop (mkF m 60 #[.val (.int p0), .val (.int p1), .val (.int p2), .val (.int (1 : Int32)), .val (.int (0 : Int32)), .val (.int (sp1 p0 p1)), .val (.ref w_4)] [(.int (1 : Int32))])) _
            exact retN X129 hx (t := .boolean) Bd.returns (by simp) (hb hby at_60) hr
          · show Q0 Z w_1 w_2 w_3 w_4 w_5 p0 p1 p2 h0 n0 _ T129.heap _
            rw [e129]
            exact ⟨by unfold sp0; rw [if_neg hc10, if_pos hc121, if_neg hc124, if_pos hc127], N129, rfl⟩
        · by_cases hc130 : (sp1 p0 p1) = (304 : Int32)
          · obtain ⟨_, _, ⟨T131, L131, k131, n131⟩, -, X131, ⟨Lc131, hQ131, l131, y131, z131⟩, st131⟩ := Jvm.LawKit.callS X122 hx (y := Y2) hown (mvT hZ (hw _ (tk 4 rfl))) (mvT hZ (hw _ (tk 5 rfl))) (mvT hZ (hw _ (tk 6 rfl))) (mvT hZ (hw _ (tk 7 rfl))) (by decide) (backOf (W := 0) (rm2 l Z a0 hw [] w_1 w_2 w_3 w_4 w_5 hS0 (sp1 p0 p1) (1 : Int32) (0 : Int32) h0 n0 O0) hZ (hw _ (tk 7 rfl)) (hw _ (tk 6 rfl)) (by decide) (by decide)) (g := (mkF m 37 #[.val (.int p0), .val (.int p1), .val (.int p2), .val (.int (1 : Int32)), .val (.int (0 : Int32)), .val (.int (sp1 p0 p1)), .unset] [(.int (0 : Int32)), (.int (1 : Int32)), (.int (sp1 p0 p1))])) rfl (by rw [hml]; rfl) (argsL := [(.int (sp1 p0 p1)), (.int (1 : Int32)), (.int (0 : Int32))]) (rest := []) (lenOf pd_2 rfl) rfl (by show 2 * 0 + _ ≤ _; exact Nat.le_of_eq rfl) (hb hby at_37) (fun _ _ => ⟨rfl, e122, (by decide : 0 + 0 ≤ _), (by decide : 0 + 0 ≤ _)⟩)
            dsimp only [Pt.U, Pt.locs, Pt.cells, Pt.slots] at X131 l131 y131 z131 st131 hQ131
            subst l131 y131 z131
            obtain ⟨rv131, N131q, e131⟩ := hQ131
            rw [show sp2 w_1 w_2 w_3 w_4 w_5 (sp1 p0 p1) (1 : Int32) (0 : Int32) = (.ref w_2) from by unfold sp2; rw [if_neg hc124, if_neg hc127, if_pos hc130, if_neg (by decide : ¬ ((1 : Int32) = (0 : Int32)))]] at rv131
            subst rv131
            have N131 := Fr.app N122 N131q
            obtain ⟨_, _, ⟨T132, L132, k132, n132⟩, -, X132, ⟨Lc132, hQ132, l132, y132, z132⟩, st132⟩ := Jvm.LawKit.callS X131 hx (y := Y3) hown (mvT hZ (hw _ (tk 10 rfl))) (mvT hZ (hw _ (tk 11 rfl))) (mvT hZ (hw _ (tk 2 rfl))) (mvT hZ (hw _ (tk 12 rfl))) (by decide) (backOf (W := 1) (rm3 l Z a0 hw [] w_1 w_2 w_3 w_4 w_5 hS0 (sp1 p0 p1) (1 : Int32) (0 : Int32) h0 n0 O0) hZ (hw _ (tk 12 rfl)) (hw _ (tk 2 rfl)) (by decide) (by decide)) (g := (mkF m 49 #[.val (.int p0), .val (.int p1), .val (.int p2), .val (.int (1 : Int32)), .val (.int (0 : Int32)), .val (.int (sp1 p0 p1)), .val (.ref w_2)] [(.int (0 : Int32)), (.int (1 : Int32)), (.int (sp1 p0 p1)), (.ref w_2)])) rfl (by rw [hml]; rfl) (argsL := [(.int (sp1 p0 p1)), (.int (1 : Int32)), (.int (0 : Int32))]) (rest := [(.ref w_2)]) (lenOf pd_2 rfl) rfl (by show 2 * 0 + _ ≤ _; exact Nat.le_of_eq rfl) (hb hby at_49) (fun _ _ => ⟨rfl, e131, (by decide : 0 + 0 ≤ _), (by decide : 0 + 0 ≤ _)⟩)
            dsimp only [Pt.U, Pt.locs, Pt.cells, Pt.slots] at X132 l132 y132 z132 st132 hQ132
            subst l132 y132 z132
            obtain ⟨rv132, N132q, e132⟩ := hQ132
            rw [show sp3 w_1 w_2 w_3 w_4 w_5 (sp1 p0 p1) (1 : Int32) (0 : Int32) = (.ref w_2) from by unfold sp3; rw [if_neg hc124, if_neg hc127, if_neg (by decide : ¬ ((1 : Int32) = (0 : Int32))), if_neg (by rw [hc130] <;> decide : ¬ ((sp1 p0 p1) = (200 : Int32))), if_pos hc130]] at rv132
            subst rv132
            have N132 := Fr.app N131 N132q
            obtain ⟨fs, hr, hrun, hended, hW, hsame⟩ := X132.leave (v := some (.int (1 : Int32))) (fun h => by rw [Bd.returns] at h; cases h)
            refine ⟨_, _, pre123 _ ?_, hrun, hended, _, _, rfl, ?_, ⟨_, rfl⟩, hW, hsame.mono (by decide) (by decide)⟩
            · show Steps p.tables e below (T122.setTop (mkF m 37 #[.val (.int p0), .val (.int p1), .val (.int p2), .val (.int (1 : Int32)), .val (.int (0 : Int32)), .val (.int (sp1 p0 p1)), .unset] [(.int (0 : Int32)), (.int (1 : Int32)), (.int (sp1 p0 p1))])) _
              refine st131 _ ?_
              show Steps p.tables e below (T131.setTop (mkF m 40 #[.val (.int p0), .val (.int p1), .val (.int p2), .val (.int (1 : Int32)), .val (.int (0 : Int32)), .val (.int (sp1 p0 p1)), .unset] [(.ref w_2)])) _
              refine XS.astore X131.here hx rfl (hb hby at_40) rfl rfl (l' := #[.val (.int p0), .val (.int p1), .val (.int p2), .val (.int (1 : Int32)), .val (.int (0 : Int32)), .val (.int (sp1 p0 p1)), .val (.ref w_2)]) rfl ?_
              show Steps p.tables e below (T131.setTop (mkF m 42 #[.val (.int p0), .val (.int p1), .val (.int p2), .val (.int (1 : Int32)), .val (.int (0 : Int32)), .val (.int (sp1 p0 p1)), .val (.ref w_2)] [])) _
              refine XS.aload X131.here hx rfl (hb hby at_42) rfl rfl ?_
              show Steps p.tables e below (T131.setTop (mkF m 44 #[.val (.int p0), .val (.int p1), .val (.int p2), .val (.int (1 : Int32)), .val (.int (0 : Int32)), .val (.int (sp1 p0 p1)), .val (.ref w_2)] [(.ref w_2)])) _
              refine XS.iload X131.here hx rfl (hb hby at_44) rfl ?_
              show Steps p.tables e below (T131.setTop (mkF m 46 #[.val (.int p0), .val (.int p1), .val (.int p2), .val (.int (1 : Int32)), .val (.int (0 : Int32)), .val (.int (sp1 p0 p1)), .val (.ref w_2)] [(.int (sp1 p0 p1)), (.ref w_2)])) _
              refine XS.iloadN X131.here hx rfl (hb hby at_46) rfl ?_
              show Steps p.tables e below (T131.setTop (mkF m 47 #[.val (.int p0), .val (.int p1), .val (.int p2), .val (.int (1 : Int32)), .val (.int (0 : Int32)), .val (.int (sp1 p0 p1)), .val (.ref w_2)] [(.int (1 : Int32)), (.int (sp1 p0 p1)), (.ref w_2)])) _
              refine XS.iload X131.here hx rfl (hb hby at_47) rfl ?_
              show Steps p.tables e below (T131.setTop (mkF m 49 #[.val (.int p0), .val (.int p1), .val (.int p2), .val (.int (1 : Int32)), .val (.int (0 : Int32)), .val (.int (sp1 p0 p1)), .val (.ref w_2)] [(.int (0 : Int32)), (.int (1 : Int32)), (.int (sp1 p0 p1)), (.ref w_2)])) _
              refine st132 _ ?_
              show Steps p.tables e below (T132.setTop (mkF m 52 #[.val (.int p0), .val (.int p1), .val (.int p2), .val (.int (1 : Int32)), .val (.int (0 : Int32)), .val (.int (sp1 p0 p1)), .val (.ref w_2)] [(.ref w_2), (.ref w_2)])) _
              refine Jvm.RoadKit.acmp (g := (mkF m 52 #[.val (.int p0), .val (.int p1), .val (.int p2), .val (.int (1 : Int32)), .val (.int (0 : Int32)), .val (.int (sp1 p0 p1)), .val (.ref w_2)] [(.ref w_2), (.ref w_2)])) X132 hx rfl rfl rfl (pc0 := 52) (pc' := 55) (same := true) rfl (hb hby at_52) rfl (decide_eq_true (congrArg Value.ref rfl)) (by decide) (by decide) ?_
              show Steps p.tables e below (T132.setTop (mkF m 55 #[.val (.int p0), .val (.int p1), .val (.int p2), .val (.int (1 : Int32)), .val (.int (0 : Int32)), .val (.int (sp1 p0 p1)), .val (.ref w_2)] [])) _
              refine XS.iconst X132.here hx rfl (hb hby at_55) ?_
              show Steps p.tables e below (T132.setTop (mkF m 56 #[.val (.int p0), .val (.int p1), .val (.int p2), .val (.int (1 : Int32)), .val (.int (0 : Int32)), .val (.int (sp1 p0 p1)), .val (.ref w_2)] [(.int (1 : Int32))])) _
              refine XS.goto X132.here hx rfl (pc0 := 56) (pc' := 60) rfl (hb hby at_56) (by decide) (by decide) ?_
              show Steps p.tables e below (T132.setTop (mkF m 60 #[.val (.int p0), .val (.int p1), .val (.int p2), .val (.int (1 : Int32)), .val (.int (0 : Int32)), .val (.int (sp1 p0 p1)), .val (.ref w_2)] [(.int (1 : Int32))])) _
              exact retN X132 hx (t := .boolean) Bd.returns (by simp) (hb hby at_60) hr
            · show Q0 Z w_1 w_2 w_3 w_4 w_5 p0 p1 p2 h0 n0 _ T132.heap _
              rw [e132]
              exact ⟨by unfold sp0; rw [if_neg hc10, if_pos hc121, if_neg hc124, if_neg hc127, if_pos hc130], N132, rfl⟩
          · by_cases hc133 : (sp1 p0 p1) = (200 : Int32)
            · obtain ⟨_, _, ⟨T134, L134, k134, n134⟩, -, X134, ⟨Lc134, hQ134, l134, y134, z134⟩, st134⟩ := Jvm.LawKit.callS X122 hx (y := Y2) hown (mvT hZ (hw _ (tk 4 rfl))) (mvT hZ (hw _ (tk 5 rfl))) (mvT hZ (hw _ (tk 6 rfl))) (mvT hZ (hw _ (tk 7 rfl))) (by decide) (backOf (W := 0) (rm2 l Z a0 hw [] w_1 w_2 w_3 w_4 w_5 hS0 (sp1 p0 p1) (1 : Int32) (0 : Int32) h0 n0 O0) hZ (hw _ (tk 7 rfl)) (hw _ (tk 6 rfl)) (by decide) (by decide)) (g := (mkF m 37 #[.val (.int p0), .val (.int p1), .val (.int p2), .val (.int (1 : Int32)), .val (.int (0 : Int32)), .val (.int (sp1 p0 p1)), .unset] [(.int (0 : Int32)), (.int (1 : Int32)), (.int (sp1 p0 p1))])) rfl (by rw [hml]; rfl) (argsL := [(.int (sp1 p0 p1)), (.int (1 : Int32)), (.int (0 : Int32))]) (rest := []) (lenOf pd_2 rfl) rfl (by show 2 * 0 + _ ≤ _; exact Nat.le_of_eq rfl) (hb hby at_37) (fun _ _ => ⟨rfl, e122, (by decide : 0 + 0 ≤ _), (by decide : 0 + 0 ≤ _)⟩)
              dsimp only [Pt.U, Pt.locs, Pt.cells, Pt.slots] at X134 l134 y134 z134 st134 hQ134
              subst l134 y134 z134
              obtain ⟨rv134, N134q, e134⟩ := hQ134
              rw [show sp2 w_1 w_2 w_3 w_4 w_5 (sp1 p0 p1) (1 : Int32) (0 : Int32) = (.ref w_2) from by unfold sp2; rw [if_neg hc124, if_neg hc127, if_neg hc130, if_pos hc133, if_neg (by decide : ¬ ((1 : Int32) = (0 : Int32)))]] at rv134
              subst rv134
              have N134 := Fr.app N122 N134q
              obtain ⟨_, _, ⟨T135, L135, k135, n135⟩, -, X135, ⟨Lc135, hQ135, l135, y135, z135⟩, st135⟩ := Jvm.LawKit.callS X134 hx (y := Y3) hown (mvT hZ (hw _ (tk 10 rfl))) (mvT hZ (hw _ (tk 11 rfl))) (mvT hZ (hw _ (tk 2 rfl))) (mvT hZ (hw _ (tk 12 rfl))) (by decide) (backOf (W := 1) (rm3 l Z a0 hw [] w_1 w_2 w_3 w_4 w_5 hS0 (sp1 p0 p1) (1 : Int32) (0 : Int32) h0 n0 O0) hZ (hw _ (tk 12 rfl)) (hw _ (tk 2 rfl)) (by decide) (by decide)) (g := (mkF m 49 #[.val (.int p0), .val (.int p1), .val (.int p2), .val (.int (1 : Int32)), .val (.int (0 : Int32)), .val (.int (sp1 p0 p1)), .val (.ref w_2)] [(.int (0 : Int32)), (.int (1 : Int32)), (.int (sp1 p0 p1)), (.ref w_2)])) rfl (by rw [hml]; rfl) (argsL := [(.int (sp1 p0 p1)), (.int (1 : Int32)), (.int (0 : Int32))]) (rest := [(.ref w_2)]) (lenOf pd_2 rfl) rfl (by show 2 * 0 + _ ≤ _; exact Nat.le_of_eq rfl) (hb hby at_49) (fun _ _ => ⟨rfl, e134, (by decide : 0 + 0 ≤ _), (by decide : 0 + 0 ≤ _)⟩)
              dsimp only [Pt.U, Pt.locs, Pt.cells, Pt.slots] at X135 l135 y135 z135 st135 hQ135
              subst l135 y135 z135
              obtain ⟨rv135, N135q, e135⟩ := hQ135
              rw [show sp3 w_1 w_2 w_3 w_4 w_5 (sp1 p0 p1) (1 : Int32) (0 : Int32) = (.ref w_2) from by unfold sp3; rw [if_neg hc124, if_neg hc127, if_neg (by decide : ¬ ((1 : Int32) = (0 : Int32))), if_pos hc133]] at rv135
              subst rv135
              have N135 := Fr.app N134 N135q
              obtain ⟨fs, hr, hrun, hended, hW, hsame⟩ := X135.leave (v := some (.int (1 : Int32))) (fun h => by rw [Bd.returns] at h; cases h)
              refine ⟨_, _, pre123 _ ?_, hrun, hended, _, _, rfl, ?_, ⟨_, rfl⟩, hW, hsame.mono (by decide) (by decide)⟩
              · show Steps p.tables e below (T122.setTop (mkF m 37 #[.val (.int p0), .val (.int p1), .val (.int p2), .val (.int (1 : Int32)), .val (.int (0 : Int32)), .val (.int (sp1 p0 p1)), .unset] [(.int (0 : Int32)), (.int (1 : Int32)), (.int (sp1 p0 p1))])) _
                refine st134 _ ?_
                show Steps p.tables e below (T134.setTop (mkF m 40 #[.val (.int p0), .val (.int p1), .val (.int p2), .val (.int (1 : Int32)), .val (.int (0 : Int32)), .val (.int (sp1 p0 p1)), .unset] [(.ref w_2)])) _
                refine XS.astore X134.here hx rfl (hb hby at_40) rfl rfl (l' := #[.val (.int p0), .val (.int p1), .val (.int p2), .val (.int (1 : Int32)), .val (.int (0 : Int32)), .val (.int (sp1 p0 p1)), .val (.ref w_2)]) rfl ?_
                show Steps p.tables e below (T134.setTop (mkF m 42 #[.val (.int p0), .val (.int p1), .val (.int p2), .val (.int (1 : Int32)), .val (.int (0 : Int32)), .val (.int (sp1 p0 p1)), .val (.ref w_2)] [])) _
                refine XS.aload X134.here hx rfl (hb hby at_42) rfl rfl ?_
                show Steps p.tables e below (T134.setTop (mkF m 44 #[.val (.int p0), .val (.int p1), .val (.int p2), .val (.int (1 : Int32)), .val (.int (0 : Int32)), .val (.int (sp1 p0 p1)), .val (.ref w_2)] [(.ref w_2)])) _
                refine XS.iload X134.here hx rfl (hb hby at_44) rfl ?_
                show Steps p.tables e below (T134.setTop (mkF m 46 #[.val (.int p0), .val (.int p1), .val (.int p2), .val (.int (1 : Int32)), .val (.int (0 : Int32)), .val (.int (sp1 p0 p1)), .val (.ref w_2)] [(.int (sp1 p0 p1)), (.ref w_2)])) _
                refine XS.iloadN X134.here hx rfl (hb hby at_46) rfl ?_
                show Steps p.tables e below (T134.setTop (mkF m 47 #[.val (.int p0), .val (.int p1), .val (.int p2), .val (.int (1 : Int32)), .val (.int (0 : Int32)), .val (.int (sp1 p0 p1)), .val (.ref w_2)] [(.int (1 : Int32)), (.int (sp1 p0 p1)), (.ref w_2)])) _
                refine XS.iload X134.here hx rfl (hb hby at_47) rfl ?_
                show Steps p.tables e below (T134.setTop (mkF m 49 #[.val (.int p0), .val (.int p1), .val (.int p2), .val (.int (1 : Int32)), .val (.int (0 : Int32)), .val (.int (sp1 p0 p1)), .val (.ref w_2)] [(.int (0 : Int32)), (.int (1 : Int32)), (.int (sp1 p0 p1)), (.ref w_2)])) _
                refine st135 _ ?_
                show Steps p.tables e below (T135.setTop (mkF m 52 #[.val (.int p0), .val (.int p1), .val (.int p2), .val (.int (1 : Int32)), .val (.int (0 : Int32)), .val (.int (sp1 p0 p1)), .val (.ref w_2)] [(.ref w_2), (.ref w_2)])) _
                refine Jvm.RoadKit.acmp (g := (mkF m 52 #[.val (.int p0), .val (.int p1), .val (.int p2), .val (.int (1 : Int32)), .val (.int (0 : Int32)), .val (.int (sp1 p0 p1)), .val (.ref w_2)] [(.ref w_2), (.ref w_2)])) X135 hx rfl rfl rfl (pc0 := 52) (pc' := 55) (same := true) rfl (hb hby at_52) rfl (decide_eq_true (congrArg Value.ref rfl)) (by decide) (by decide) ?_
                show Steps p.tables e below (T135.setTop (mkF m 55 #[.val (.int p0), .val (.int p1), .val (.int p2), .val (.int (1 : Int32)), .val (.int (0 : Int32)), .val (.int (sp1 p0 p1)), .val (.ref w_2)] [])) _
                refine XS.iconst X135.here hx rfl (hb hby at_55) ?_
                show Steps p.tables e below (T135.setTop (mkF m 56 #[.val (.int p0), .val (.int p1), .val (.int p2), .val (.int (1 : Int32)), .val (.int (0 : Int32)), .val (.int (sp1 p0 p1)), .val (.ref w_2)] [(.int (1 : Int32))])) _
                refine XS.goto X135.here hx rfl (pc0 := 56) (pc' := 60) rfl (hb hby at_56) (by decide) (by decide) ?_
                show Steps p.tables e below (T135.setTop (mkF m 60 #[.val (.int p0), .val (.int p1), .val (.int p2), .val (.int (1 : Int32)), .val (.int (0 : Int32)), .val (.int (sp1 p0 p1)), .val (.ref w_2)] [(.int (1 : Int32))])) _
                exact retN X135 hx (t := .boolean) Bd.returns (by simp) (hb hby at_60) hr
              · show Q0 Z w_1 w_2 w_3 w_4 w_5 p0 p1 p2 h0 n0 _ T135.heap _
                rw [e135]
                exact ⟨by unfold sp0; rw [if_neg hc10, if_pos hc121, if_neg hc124, if_neg hc127, if_neg hc130, if_pos hc133], N135, rfl⟩
            · obtain ⟨_, _, ⟨T136, L136, k136, n136⟩, -, X136, ⟨Lc136, hQ136, l136, y136, z136⟩, st136⟩ := Jvm.LawKit.callS X122 hx (y := Y2) hown (mvT hZ (hw _ (tk 4 rfl))) (mvT hZ (hw _ (tk 5 rfl))) (mvT hZ (hw _ (tk 6 rfl))) (mvT hZ (hw _ (tk 7 rfl))) (by decide) (backOf (W := 0) (rm2 l Z a0 hw [] w_1 w_2 w_3 w_4 w_5 hS0 (sp1 p0 p1) (1 : Int32) (0 : Int32) h0 n0 O0) hZ (hw _ (tk 7 rfl)) (hw _ (tk 6 rfl)) (by decide) (by decide)) (g := (mkF m 37 #[.val (.int p0), .val (.int p1), .val (.int p2), .val (.int (1 : Int32)), .val (.int (0 : Int32)), .val (.int (sp1 p0 p1)), .unset] [(.int (0 : Int32)), (.int (1 : Int32)), (.int (sp1 p0 p1))])) rfl (by rw [hml]; rfl) (argsL := [(.int (sp1 p0 p1)), (.int (1 : Int32)), (.int (0 : Int32))]) (rest := []) (lenOf pd_2 rfl) rfl (by show 2 * 0 + _ ≤ _; exact Nat.le_of_eq rfl) (hb hby at_37) (fun _ _ => ⟨rfl, e122, (by decide : 0 + 0 ≤ _), (by decide : 0 + 0 ≤ _)⟩)
              dsimp only [Pt.U, Pt.locs, Pt.cells, Pt.slots] at X136 l136 y136 z136 st136 hQ136
              subst l136 y136 z136
              obtain ⟨rv136, N136q, e136⟩ := hQ136
              rw [show sp2 w_1 w_2 w_3 w_4 w_5 (sp1 p0 p1) (1 : Int32) (0 : Int32) = (.ref w_3) from by unfold sp2; rw [if_neg hc124, if_neg hc127, if_neg hc130, if_neg hc133]] at rv136
              subst rv136
              have N136 := Fr.app N122 N136q
              obtain ⟨_, _, ⟨T137, L137, k137, n137⟩, -, X137, ⟨Lc137, hQ137, l137, y137, z137⟩, st137⟩ := Jvm.LawKit.callS X136 hx (y := Y3) hown (mvT hZ (hw _ (tk 10 rfl))) (mvT hZ (hw _ (tk 11 rfl))) (mvT hZ (hw _ (tk 2 rfl))) (mvT hZ (hw _ (tk 12 rfl))) (by decide) (backOf (W := 1) (rm3 l Z a0 hw [] w_1 w_2 w_3 w_4 w_5 hS0 (sp1 p0 p1) (1 : Int32) (0 : Int32) h0 n0 O0) hZ (hw _ (tk 12 rfl)) (hw _ (tk 2 rfl)) (by decide) (by decide)) (g := (mkF m 49 #[.val (.int p0), .val (.int p1), .val (.int p2), .val (.int (1 : Int32)), .val (.int (0 : Int32)), .val (.int (sp1 p0 p1)), .val (.ref w_3)] [(.int (0 : Int32)), (.int (1 : Int32)), (.int (sp1 p0 p1)), (.ref w_3)])) rfl (by rw [hml]; rfl) (argsL := [(.int (sp1 p0 p1)), (.int (1 : Int32)), (.int (0 : Int32))]) (rest := [(.ref w_3)]) (lenOf pd_2 rfl) rfl (by show 2 * 0 + _ ≤ _; exact Nat.le_of_eq rfl) (hb hby at_49) (fun _ _ => ⟨rfl, e136, (by decide : 0 + 0 ≤ _), (by decide : 0 + 0 ≤ _)⟩)
              dsimp only [Pt.U, Pt.locs, Pt.cells, Pt.slots] at X137 l137 y137 z137 st137 hQ137
              subst l137 y137 z137
              obtain ⟨rv137, N137q, e137⟩ := hQ137
              rw [show sp3 w_1 w_2 w_3 w_4 w_5 (sp1 p0 p1) (1 : Int32) (0 : Int32) = (.ref w_3) from by unfold sp3; rw [if_neg hc124, if_neg hc127, if_neg (by decide : ¬ ((1 : Int32) = (0 : Int32))), if_neg hc133, if_neg hc130]] at rv137
              subst rv137
              have N137 := Fr.app N136 N137q
              obtain ⟨fs, hr, hrun, hended, hW, hsame⟩ := X137.leave (v := some (.int (1 : Int32))) (fun h => by rw [Bd.returns] at h; cases h)
              refine ⟨_, _, pre123 _ ?_, hrun, hended, _, _, rfl, ?_, ⟨_, rfl⟩, hW, hsame.mono (by decide) (by decide)⟩
              · show Steps p.tables e below (T122.setTop (mkF m 37 #[.val (.int p0), .val (.int p1), .val (.int p2), .val (.int (1 : Int32)), .val (.int (0 : Int32)), .val (.int (sp1 p0 p1)), .unset] [(.int (0 : Int32)), (.int (1 : Int32)), (.int (sp1 p0 p1))])) _
                refine st136 _ ?_
                show Steps p.tables e below (T136.setTop (mkF m 40 #[.val (.int p0), .val (.int p1), .val (.int p2), .val (.int (1 : Int32)), .val (.int (0 : Int32)), .val (.int (sp1 p0 p1)), .unset] [(.ref w_3)])) _
                refine XS.astore X136.here hx rfl (hb hby at_40) rfl rfl (l' := #[.val (.int p0), .val (.int p1), .val (.int p2), .val (.int (1 : Int32)), .val (.int (0 : Int32)), .val (.int (sp1 p0 p1)), .val (.ref w_3)]) rfl ?_
                show Steps p.tables e below (T136.setTop (mkF m 42 #[.val (.int p0), .val (.int p1), .val (.int p2), .val (.int (1 : Int32)), .val (.int (0 : Int32)), .val (.int (sp1 p0 p1)), .val (.ref w_3)] [])) _
                refine XS.aload X136.here hx rfl (hb hby at_42) rfl rfl ?_
                show Steps p.tables e below (T136.setTop (mkF m 44 #[.val (.int p0), .val (.int p1), .val (.int p2), .val (.int (1 : Int32)), .val (.int (0 : Int32)), .val (.int (sp1 p0 p1)), .val (.ref w_3)] [(.ref w_3)])) _
                refine XS.iload X136.here hx rfl (hb hby at_44) rfl ?_
                show Steps p.tables e below (T136.setTop (mkF m 46 #[.val (.int p0), .val (.int p1), .val (.int p2), .val (.int (1 : Int32)), .val (.int (0 : Int32)), .val (.int (sp1 p0 p1)), .val (.ref w_3)] [(.int (sp1 p0 p1)), (.ref w_3)])) _
                refine XS.iloadN X136.here hx rfl (hb hby at_46) rfl ?_
                show Steps p.tables e below (T136.setTop (mkF m 47 #[.val (.int p0), .val (.int p1), .val (.int p2), .val (.int (1 : Int32)), .val (.int (0 : Int32)), .val (.int (sp1 p0 p1)), .val (.ref w_3)] [(.int (1 : Int32)), (.int (sp1 p0 p1)), (.ref w_3)])) _
                refine XS.iload X136.here hx rfl (hb hby at_47) rfl ?_
                show Steps p.tables e below (T136.setTop (mkF m 49 #[.val (.int p0), .val (.int p1), .val (.int p2), .val (.int (1 : Int32)), .val (.int (0 : Int32)), .val (.int (sp1 p0 p1)), .val (.ref w_3)] [(.int (0 : Int32)), (.int (1 : Int32)), (.int (sp1 p0 p1)), (.ref w_3)])) _
                refine st137 _ ?_
                show Steps p.tables e below (T137.setTop (mkF m 52 #[.val (.int p0), .val (.int p1), .val (.int p2), .val (.int (1 : Int32)), .val (.int (0 : Int32)), .val (.int (sp1 p0 p1)), .val (.ref w_3)] [(.ref w_3), (.ref w_3)])) _
                refine Jvm.RoadKit.acmp (g := (mkF m 52 #[.val (.int p0), .val (.int p1), .val (.int p2), .val (.int (1 : Int32)), .val (.int (0 : Int32)), .val (.int (sp1 p0 p1)), .val (.ref w_3)] [(.ref w_3), (.ref w_3)])) X137 hx rfl rfl rfl (pc0 := 52) (pc' := 55) (same := true) rfl (hb hby at_52) rfl (decide_eq_true (congrArg Value.ref rfl)) (by decide) (by decide) ?_
                show Steps p.tables e below (T137.setTop (mkF m 55 #[.val (.int p0), .val (.int p1), .val (.int p2), .val (.int (1 : Int32)), .val (.int (0 : Int32)), .val (.int (sp1 p0 p1)), .val (.ref w_3)] [])) _
                refine XS.iconst X137.here hx rfl (hb hby at_55) ?_
                show Steps p.tables e below (T137.setTop (mkF m 56 #[.val (.int p0), .val (.int p1), .val (.int p2), .val (.int (1 : Int32)), .val (.int (0 : Int32)), .val (.int (sp1 p0 p1)), .val (.ref w_3)] [(.int (1 : Int32))])) _
                refine XS.goto X137.here hx rfl (pc0 := 56) (pc' := 60) rfl (hb hby at_56) (by decide) (by decide) ?_
                show Steps p.tables e below (T137.setTop (mkF m 60 #[.val (.int p0), .val (.int p1), .val (.int p2), .val (.int (1 : Int32)), .val (.int (0 : Int32)), .val (.int (sp1 p0 p1)), .val (.ref w_3)] [(.int (1 : Int32))])) _
                exact retN X137 hx (t := .boolean) Bd.returns (by simp) (hb hby at_60) hr
              · show Q0 Z w_1 w_2 w_3 w_4 w_5 p0 p1 p2 h0 n0 _ T137.heap _
                rw [e137]
                exact ⟨by unfold sp0; rw [if_neg hc10, if_pos hc121, if_neg hc124, if_neg hc127, if_neg hc130, if_neg hc133], N137, rfl⟩
    · obtain ⟨_, _, ⟨T138, L138, k138, n138⟩, -, X138, ⟨Lc138, hQ138, l138, y138, z138⟩, st138⟩ := Jvm.LawKit.callS X0 hx (y := Y1) hown (mvT hZ (hw _ (tk 0 rfl))) (mvT hZ (hw _ (tk 1 rfl))) (mvT hZ (hw _ (tk 2 rfl))) (mvT hZ (hw _ (tk 3 rfl))) (by decide) (backOf (W := 0) (rm1 l Z a0 hw [] w_1 w_2 w_3 w_4 w_5 hS0 p0 p1 h0 n0 O0) hZ (hw _ (tk 3 rfl)) (hw _ (tk 2 rfl)) (by decide) (by decide)) (g := (mkF m 27 #[.val (.int p0), .val (.int p1), .val (.int p2), .val (.int (1 : Int32)), .val (.int (1 : Int32)), .unset, .unset] [(.int p1), (.int p0)])) rfl (by rw [hml]; rfl) (argsL := [(.int p0), (.int p1)]) (rest := []) (lenOf pd_1 rfl) rfl (by show 2 * 0 + _ ≤ _; exact Nat.le_of_eq rfl) (hb hby at_27) (fun _ _ => ⟨rfl, e0, (by decide : 0 + 0 ≤ _), (by decide : 0 + 0 ≤ _)⟩)
      dsimp only [Pt.U, Pt.locs, Pt.cells, Pt.slots] at X138 l138 y138 z138 st138 hQ138
      subst l138 y138 z138
      obtain ⟨rv138, N138q, e138⟩ := hQ138
      subst rv138
      have N138 := Fr.app N0 N138q
      have pre139 : ∀ t, Steps p.tables e below (T138.setTop (mkF m 37 #[.val (.int p0), .val (.int p1), .val (.int p2), .val (.int (1 : Int32)), .val (.int (1 : Int32)), .val (.int (sp1 p0 p1)), .unset] [(.int (1 : Int32)), (.int (1 : Int32)), (.int (sp1 p0 p1))])) t → Steps p.tables e below (s₁.setTop (entryFrame m #[(.int p0), (.int p1), (.int p2)] maxLocals)) t := fun t kt => by
        refine pre120 t ?_
        show Steps p.tables e below (s₁.setTop (mkF m 15 #[.val (.int p0), .val (.int p1), .val (.int p2), .val (.int (1 : Int32)), .unset, .unset, .unset] [(.int (p2 &&& (2 : Int32)))])) _
        refine XS.ifNo X0.here hx rfl (hb hby at_15) rfl ((if0 _ _).trans (feq hc121).1) ?_
        show Steps p.tables e below (s₁.setTop (mkF m 18 #[.val (.int p0), .val (.int p1), .val (.int p2), .val (.int (1 : Int32)), .unset, .unset, .unset] [])) _
        refine XS.iconst X0.here hx rfl (hb hby at_18) ?_
        show Steps p.tables e below (s₁.setTop (mkF m 19 #[.val (.int p0), .val (.int p1), .val (.int p2), .val (.int (1 : Int32)), .unset, .unset, .unset] [(.int (1 : Int32))])) _
        refine XS.goto X0.here hx rfl (pc0 := 19) (pc' := 23) rfl (hb hby at_19) (by decide) (by decide) ?_
        show Steps p.tables e below (s₁.setTop (mkF m 23 #[.val (.int p0), .val (.int p1), .val (.int p2), .val (.int (1 : Int32)), .unset, .unset, .unset] [(.int (1 : Int32))])) _
        refine XS.istore X0.here hx rfl (hb hby at_23) rfl (l' := #[.val (.int p0), .val (.int p1), .val (.int p2), .val (.int (1 : Int32)), .val (.int (1 : Int32)), .unset, .unset]) rfl ?_
        show Steps p.tables e below (s₁.setTop (mkF m 25 #[.val (.int p0), .val (.int p1), .val (.int p2), .val (.int (1 : Int32)), .val (.int (1 : Int32)), .unset, .unset] [])) _
        refine XS.iloadN X0.here hx rfl (hb hby at_25) rfl ?_
        show Steps p.tables e below (s₁.setTop (mkF m 26 #[.val (.int p0), .val (.int p1), .val (.int p2), .val (.int (1 : Int32)), .val (.int (1 : Int32)), .unset, .unset] [(.int p0)])) _
        refine XS.iloadN X0.here hx rfl (hb hby at_26) rfl ?_
        show Steps p.tables e below (s₁.setTop (mkF m 27 #[.val (.int p0), .val (.int p1), .val (.int p2), .val (.int (1 : Int32)), .val (.int (1 : Int32)), .unset, .unset] [(.int p1), (.int p0)])) _
        refine st138 _ ?_
        show Steps p.tables e below (T138.setTop (mkF m 30 #[.val (.int p0), .val (.int p1), .val (.int p2), .val (.int (1 : Int32)), .val (.int (1 : Int32)), .unset, .unset] [(.int (sp1 p0 p1))])) _
        refine XS.istore X138.here hx rfl (hb hby at_30) rfl (l' := #[.val (.int p0), .val (.int p1), .val (.int p2), .val (.int (1 : Int32)), .val (.int (1 : Int32)), .val (.int (sp1 p0 p1)), .unset]) rfl ?_
        show Steps p.tables e below (T138.setTop (mkF m 32 #[.val (.int p0), .val (.int p1), .val (.int p2), .val (.int (1 : Int32)), .val (.int (1 : Int32)), .val (.int (sp1 p0 p1)), .unset] [])) _
        refine XS.iload X138.here hx rfl (hb hby at_32) rfl ?_
        show Steps p.tables e below (T138.setTop (mkF m 34 #[.val (.int p0), .val (.int p1), .val (.int p2), .val (.int (1 : Int32)), .val (.int (1 : Int32)), .val (.int (sp1 p0 p1)), .unset] [(.int (sp1 p0 p1))])) _
        refine XS.iloadN X138.here hx rfl (hb hby at_34) rfl ?_
        show Steps p.tables e below (T138.setTop (mkF m 35 #[.val (.int p0), .val (.int p1), .val (.int p2), .val (.int (1 : Int32)), .val (.int (1 : Int32)), .val (.int (sp1 p0 p1)), .unset] [(.int (1 : Int32)), (.int (sp1 p0 p1))])) _
        refine XS.iload X138.here hx rfl (hb hby at_35) rfl ?_
        show Steps p.tables e below (T138.setTop (mkF m 37 #[.val (.int p0), .val (.int p1), .val (.int p2), .val (.int (1 : Int32)), .val (.int (1 : Int32)), .val (.int (sp1 p0 p1)), .unset] [(.int (1 : Int32)), (.int (1 : Int32)), (.int (sp1 p0 p1))])) _
        exact kt
      by_cases hc140 : (sp1 p0 p1) = (404 : Int32)
      · obtain ⟨_, _, ⟨T141, L141, k141, n141⟩, -, X141, ⟨Lc141, hQ141, l141, y141, z141⟩, st141⟩ := Jvm.LawKit.callS X138 hx (y := Y2) hown (mvT hZ (hw _ (tk 4 rfl))) (mvT hZ (hw _ (tk 5 rfl))) (mvT hZ (hw _ (tk 6 rfl))) (mvT hZ (hw _ (tk 7 rfl))) (by decide) (backOf (W := 0) (rm2 l Z a0 hw [] w_1 w_2 w_3 w_4 w_5 hS0 (sp1 p0 p1) (1 : Int32) (1 : Int32) h0 n0 O0) hZ (hw _ (tk 7 rfl)) (hw _ (tk 6 rfl)) (by decide) (by decide)) (g := (mkF m 37 #[.val (.int p0), .val (.int p1), .val (.int p2), .val (.int (1 : Int32)), .val (.int (1 : Int32)), .val (.int (sp1 p0 p1)), .unset] [(.int (1 : Int32)), (.int (1 : Int32)), (.int (sp1 p0 p1))])) rfl (by rw [hml]; rfl) (argsL := [(.int (sp1 p0 p1)), (.int (1 : Int32)), (.int (1 : Int32))]) (rest := []) (lenOf pd_2 rfl) rfl (by show 2 * 0 + _ ≤ _; exact Nat.le_of_eq rfl) (hb hby at_37) (fun _ _ => ⟨rfl, e138, (by decide : 0 + 0 ≤ _), (by decide : 0 + 0 ≤ _)⟩)
        dsimp only [Pt.U, Pt.locs, Pt.cells, Pt.slots] at X141 l141 y141 z141 st141 hQ141
        subst l141 y141 z141
        obtain ⟨rv141, N141q, e141⟩ := hQ141
        rw [show sp2 w_1 w_2 w_3 w_4 w_5 (sp1 p0 p1) (1 : Int32) (1 : Int32) = (.ref w_4) from by unfold sp2; rw [if_pos hc140]] at rv141
        subst rv141
        have N141 := Fr.app N138 N141q
        obtain ⟨_, _, ⟨T142, L142, k142, n142⟩, -, X142, ⟨Lc142, hQ142, l142, y142, z142⟩, st142⟩ := Jvm.LawKit.callS X141 hx (y := Y3) hown (mvT hZ (hw _ (tk 10 rfl))) (mvT hZ (hw _ (tk 11 rfl))) (mvT hZ (hw _ (tk 2 rfl))) (mvT hZ (hw _ (tk 12 rfl))) (by decide) (backOf (W := 1) (rm3 l Z a0 hw [] w_1 w_2 w_3 w_4 w_5 hS0 (sp1 p0 p1) (1 : Int32) (1 : Int32) h0 n0 O0) hZ (hw _ (tk 12 rfl)) (hw _ (tk 2 rfl)) (by decide) (by decide)) (g := (mkF m 49 #[.val (.int p0), .val (.int p1), .val (.int p2), .val (.int (1 : Int32)), .val (.int (1 : Int32)), .val (.int (sp1 p0 p1)), .val (.ref w_4)] [(.int (1 : Int32)), (.int (1 : Int32)), (.int (sp1 p0 p1)), (.ref w_4)])) rfl (by rw [hml]; rfl) (argsL := [(.int (sp1 p0 p1)), (.int (1 : Int32)), (.int (1 : Int32))]) (rest := [(.ref w_4)]) (lenOf pd_2 rfl) rfl (by show 2 * 0 + _ ≤ _; exact Nat.le_of_eq rfl) (hb hby at_49) (fun _ _ => ⟨rfl, e141, (by decide : 0 + 0 ≤ _), (by decide : 0 + 0 ≤ _)⟩)
        dsimp only [Pt.U, Pt.locs, Pt.cells, Pt.slots] at X142 l142 y142 z142 st142 hQ142
        subst l142 y142 z142
        obtain ⟨rv142, N142q, e142⟩ := hQ142
        rw [show sp3 w_1 w_2 w_3 w_4 w_5 (sp1 p0 p1) (1 : Int32) (1 : Int32) = (.ref w_4) from by unfold sp3; rw [if_pos hc140, if_neg (by decide : ¬ ((1 : Int32) = (0 : Int32)))]] at rv142
        subst rv142
        have N142 := Fr.app N141 N142q
        obtain ⟨fs, hr, hrun, hended, hW, hsame⟩ := X142.leave (v := some (.int (1 : Int32))) (fun h => by rw [Bd.returns] at h; cases h)
        refine ⟨_, _, pre139 _ ?_, hrun, hended, _, _, rfl, ?_, ⟨_, rfl⟩, hW, hsame.mono (by decide) (by decide)⟩
        · show Steps p.tables e below (T138.setTop (mkF m 37 #[.val (.int p0), .val (.int p1), .val (.int p2), .val (.int (1 : Int32)), .val (.int (1 : Int32)), .val (.int (sp1 p0 p1)), .unset] [(.int (1 : Int32)), (.int (1 : Int32)), (.int (sp1 p0 p1))])) _
          refine st141 _ ?_
          show Steps p.tables e below (T141.setTop (mkF m 40 #[.val (.int p0), .val (.int p1), .val (.int p2), .val (.int (1 : Int32)), .val (.int (1 : Int32)), .val (.int (sp1 p0 p1)), .unset] [(.ref w_4)])) _
          refine XS.astore X141.here hx rfl (hb hby at_40) rfl rfl (l' := #[.val (.int p0), .val (.int p1), .val (.int p2), .val (.int (1 : Int32)), .val (.int (1 : Int32)), .val (.int (sp1 p0 p1)), .val (.ref w_4)]) rfl ?_
          show Steps p.tables e below (T141.setTop (mkF m 42 #[.val (.int p0), .val (.int p1), .val (.int p2), .val (.int (1 : Int32)), .val (.int (1 : Int32)), .val (.int (sp1 p0 p1)), .val (.ref w_4)] [])) _
          refine XS.aload X141.here hx rfl (hb hby at_42) rfl rfl ?_
          show Steps p.tables e below (T141.setTop (mkF m 44 #[.val (.int p0), .val (.int p1), .val (.int p2), .val (.int (1 : Int32)), .val (.int (1 : Int32)), .val (.int (sp1 p0 p1)), .val (.ref w_4)] [(.ref w_4)])) _
          refine XS.iload X141.here hx rfl (hb hby at_44) rfl ?_
          show Steps p.tables e below (T141.setTop (mkF m 46 #[.val (.int p0), .val (.int p1), .val (.int p2), .val (.int (1 : Int32)), .val (.int (1 : Int32)), .val (.int (sp1 p0 p1)), .val (.ref w_4)] [(.int (sp1 p0 p1)), (.ref w_4)])) _
          refine XS.iloadN X141.here hx rfl (hb hby at_46) rfl ?_
          show Steps p.tables e below (T141.setTop (mkF m 47 #[.val (.int p0), .val (.int p1), .val (.int p2), .val (.int (1 : Int32)), .val (.int (1 : Int32)), .val (.int (sp1 p0 p1)), .val (.ref w_4)] [(.int (1 : Int32)), (.int (sp1 p0 p1)), (.ref w_4)])) _
          refine XS.iload X141.here hx rfl (hb hby at_47) rfl ?_
          show Steps p.tables e below (T141.setTop (mkF m 49 #[.val (.int p0), .val (.int p1), .val (.int p2), .val (.int (1 : Int32)), .val (.int (1 : Int32)), .val (.int (sp1 p0 p1)), .val (.ref w_4)] [(.int (1 : Int32)), (.int (1 : Int32)), (.int (sp1 p0 p1)), (.ref w_4)])) _
          refine st142 _ ?_
          show Steps p.tables e below (T142.setTop (mkF m 52 #[.val (.int p0), .val (.int p1), .val (.int p2), .val (.int (1 : Int32)), .val (.int (1 : Int32)), .val (.int (sp1 p0 p1)), .val (.ref w_4)] [(.ref w_4), (.ref w_4)])) _
          refine Jvm.RoadKit.acmp (g := (mkF m 52 #[.val (.int p0), .val (.int p1), .val (.int p2), .val (.int (1 : Int32)), .val (.int (1 : Int32)), .val (.int (sp1 p0 p1)), .val (.ref w_4)] [(.ref w_4), (.ref w_4)])) X142 hx rfl rfl rfl (pc0 := 52) (pc' := 55) (same := true) rfl (hb hby at_52) rfl (decide_eq_true (congrArg Value.ref rfl)) (by decide) (by decide) ?_
          show Steps p.tables e below (T142.setTop (mkF m 55 #[.val (.int p0), .val (.int p1), .val (.int p2), .val (.int (1 : Int32)), .val (.int (1 : Int32)), .val (.int (sp1 p0 p1)), .val (.ref w_4)] [])) _
          refine XS.iconst X142.here hx rfl (hb hby at_55) ?_
          show Steps p.tables e below (T142.setTop (mkF m 56 #[.val (.int p0), .val (.int p1), .val (.int p2), .val (.int (1 : Int32)), .val (.int (1 : Int32)), .val (.int (sp1 p0 p1)), .val (.ref w_4)] [(.int (1 : Int32))])) _
          refine XS.goto X142.here hx rfl (pc0 := 56) (pc' := 60) rfl (hb hby at_56) (by decide) (by decide) ?_
          show Steps p.tables e below (T142.setTop (mkF m 60 #[.val (.int p0), .val (.int p1), .val (.int p2), .val (.int (1 : Int32)), .val (.int (1 : Int32)), .val (.int (sp1 p0 p1)), .val (.ref w_4)] [(.int (1 : Int32))])) _
          exact retN X142 hx (t := .boolean) Bd.returns (by simp) (hb hby at_60) hr
        · show Q0 Z w_1 w_2 w_3 w_4 w_5 p0 p1 p2 h0 n0 _ T142.heap _
          rw [e142]
          exact ⟨by unfold sp0; rw [if_neg hc10, if_neg hc121, if_pos hc140], N142, rfl⟩
      · by_cases hc143 : (sp1 p0 p1) = (410 : Int32)
        · obtain ⟨_, _, ⟨T144, L144, k144, n144⟩, -, X144, ⟨Lc144, hQ144, l144, y144, z144⟩, st144⟩ := Jvm.LawKit.callS X138 hx (y := Y2) hown (mvT hZ (hw _ (tk 4 rfl))) (mvT hZ (hw _ (tk 5 rfl))) (mvT hZ (hw _ (tk 6 rfl))) (mvT hZ (hw _ (tk 7 rfl))) (by decide) (backOf (W := 0) (rm2 l Z a0 hw [] w_1 w_2 w_3 w_4 w_5 hS0 (sp1 p0 p1) (1 : Int32) (1 : Int32) h0 n0 O0) hZ (hw _ (tk 7 rfl)) (hw _ (tk 6 rfl)) (by decide) (by decide)) (g := (mkF m 37 #[.val (.int p0), .val (.int p1), .val (.int p2), .val (.int (1 : Int32)), .val (.int (1 : Int32)), .val (.int (sp1 p0 p1)), .unset] [(.int (1 : Int32)), (.int (1 : Int32)), (.int (sp1 p0 p1))])) rfl (by rw [hml]; rfl) (argsL := [(.int (sp1 p0 p1)), (.int (1 : Int32)), (.int (1 : Int32))]) (rest := []) (lenOf pd_2 rfl) rfl (by show 2 * 0 + _ ≤ _; exact Nat.le_of_eq rfl) (hb hby at_37) (fun _ _ => ⟨rfl, e138, (by decide : 0 + 0 ≤ _), (by decide : 0 + 0 ≤ _)⟩)
          dsimp only [Pt.U, Pt.locs, Pt.cells, Pt.slots] at X144 l144 y144 z144 st144 hQ144
          subst l144 y144 z144
          obtain ⟨rv144, N144q, e144⟩ := hQ144
          rw [show sp2 w_1 w_2 w_3 w_4 w_5 (sp1 p0 p1) (1 : Int32) (1 : Int32) = (.ref w_4) from by unfold sp2; rw [if_neg hc140, if_pos hc143]] at rv144
          subst rv144
          have N144 := Fr.app N138 N144q
          obtain ⟨_, _, ⟨T145, L145, k145, n145⟩, -, X145, ⟨Lc145, hQ145, l145, y145, z145⟩, st145⟩ := Jvm.LawKit.callS X144 hx (y := Y3) hown (mvT hZ (hw _ (tk 10 rfl))) (mvT hZ (hw _ (tk 11 rfl))) (mvT hZ (hw _ (tk 2 rfl))) (mvT hZ (hw _ (tk 12 rfl))) (by decide) (backOf (W := 1) (rm3 l Z a0 hw [] w_1 w_2 w_3 w_4 w_5 hS0 (sp1 p0 p1) (1 : Int32) (1 : Int32) h0 n0 O0) hZ (hw _ (tk 12 rfl)) (hw _ (tk 2 rfl)) (by decide) (by decide)) (g := (mkF m 49 #[.val (.int p0), .val (.int p1), .val (.int p2), .val (.int (1 : Int32)), .val (.int (1 : Int32)), .val (.int (sp1 p0 p1)), .val (.ref w_4)] [(.int (1 : Int32)), (.int (1 : Int32)), (.int (sp1 p0 p1)), (.ref w_4)])) rfl (by rw [hml]; rfl) (argsL := [(.int (sp1 p0 p1)), (.int (1 : Int32)), (.int (1 : Int32))]) (rest := [(.ref w_4)]) (lenOf pd_2 rfl) rfl (by show 2 * 0 + _ ≤ _; exact Nat.le_of_eq rfl) (hb hby at_49) (fun _ _ => ⟨rfl, e144, (by decide : 0 + 0 ≤ _), (by decide : 0 + 0 ≤ _)⟩)
          dsimp only [Pt.U, Pt.locs, Pt.cells, Pt.slots] at X145 l145 y145 z145 st145 hQ145
          subst l145 y145 z145
          obtain ⟨rv145, N145q, e145⟩ := hQ145
          rw [show sp3 w_1 w_2 w_3 w_4 w_5 (sp1 p0 p1) (1 : Int32) (1 : Int32) = (.ref w_4) from by unfold sp3; rw [if_neg hc140, if_pos hc143, if_neg (by decide : ¬ ((1 : Int32) = (0 : Int32)))]] at rv145
          subst rv145
          have N145 := Fr.app N144 N145q
          obtain ⟨fs, hr, hrun, hended, hW, hsame⟩ := X145.leave (v := some (.int (1 : Int32))) (fun h => by rw [Bd.returns] at h; cases h)
          refine ⟨_, _, pre139 _ ?_, hrun, hended, _, _, rfl, ?_, ⟨_, rfl⟩, hW, hsame.mono (by decide) (by decide)⟩
          · show Steps p.tables e below (T138.setTop (mkF m 37 #[.val (.int p0), .val (.int p1), .val (.int p2), .val (.int (1 : Int32)), .val (.int (1 : Int32)), .val (.int (sp1 p0 p1)), .unset] [(.int (1 : Int32)), (.int (1 : Int32)), (.int (sp1 p0 p1))])) _
            refine st144 _ ?_
            show Steps p.tables e below (T144.setTop (mkF m 40 #[.val (.int p0), .val (.int p1), .val (.int p2), .val (.int (1 : Int32)), .val (.int (1 : Int32)), .val (.int (sp1 p0 p1)), .unset] [(.ref w_4)])) _
            refine XS.astore X144.here hx rfl (hb hby at_40) rfl rfl (l' := #[.val (.int p0), .val (.int p1), .val (.int p2), .val (.int (1 : Int32)), .val (.int (1 : Int32)), .val (.int (sp1 p0 p1)), .val (.ref w_4)]) rfl ?_
            show Steps p.tables e below (T144.setTop (mkF m 42 #[.val (.int p0), .val (.int p1), .val (.int p2), .val (.int (1 : Int32)), .val (.int (1 : Int32)), .val (.int (sp1 p0 p1)), .val (.ref w_4)] [])) _
            refine XS.aload X144.here hx rfl (hb hby at_42) rfl rfl ?_
            show Steps p.tables e below (T144.setTop (mkF m 44 #[.val (.int p0), .val (.int p1), .val (.int p2), .val (.int (1 : Int32)), .val (.int (1 : Int32)), .val (.int (sp1 p0 p1)), .val (.ref w_4)] [(.ref w_4)])) _
            refine XS.iload X144.here hx rfl (hb hby at_44) rfl ?_
            show Steps p.tables e below (T144.setTop (mkF m 46 #[.val (.int p0), .val (.int p1), .val (.int p2), .val (.int (1 : Int32)), .val (.int (1 : Int32)), .val (.int (sp1 p0 p1)), .val (.ref w_4)] [(.int (sp1 p0 p1)), (.ref w_4)])) _
            refine XS.iloadN X144.here hx rfl (hb hby at_46) rfl ?_
            show Steps p.tables e below (T144.setTop (mkF m 47 #[.val (.int p0), .val (.int p1), .val (.int p2), .val (.int (1 : Int32)), .val (.int (1 : Int32)), .val (.int (sp1 p0 p1)), .val (.ref w_4)] [(.int (1 : Int32)), (.int (sp1 p0 p1)), (.ref w_4)])) _
            refine XS.iload X144.here hx rfl (hb hby at_47) rfl ?_
            show Steps p.tables e below (T144.setTop (mkF m 49 #[.val (.int p0), .val (.int p1), .val (.int p2), .val (.int (1 : Int32)), .val (.int (1 : Int32)), .val (.int (sp1 p0 p1)), .val (.ref w_4)] [(.int (1 : Int32)), (.int (1 : Int32)), (.int (sp1 p0 p1)), (.ref w_4)])) _
            refine st145 _ ?_
            show Steps p.tables e below (T145.setTop (mkF m 52 #[.val (.int p0), .val (.int p1), .val (.int p2), .val (.int (1 : Int32)), .val (.int (1 : Int32)), .val (.int (sp1 p0 p1)), .val (.ref w_4)] [(.ref w_4), (.ref w_4)])) _
            refine Jvm.RoadKit.acmp (g := (mkF m 52 #[.val (.int p0), .val (.int p1), .val (.int p2), .val (.int (1 : Int32)), .val (.int (1 : Int32)), .val (.int (sp1 p0 p1)), .val (.ref w_4)] [(.ref w_4), (.ref w_4)])) X145 hx rfl rfl rfl (pc0 := 52) (pc' := 55) (same := true) rfl (hb hby at_52) rfl (decide_eq_true (congrArg Value.ref rfl)) (by decide) (by decide) ?_
            show Steps p.tables e below (T145.setTop (mkF m 55 #[.val (.int p0), .val (.int p1), .val (.int p2), .val (.int (1 : Int32)), .val (.int (1 : Int32)), .val (.int (sp1 p0 p1)), .val (.ref w_4)] [])) _
            refine XS.iconst X145.here hx rfl (hb hby at_55) ?_
            show Steps p.tables e below (T145.setTop (mkF m 56 #[.val (.int p0), .val (.int p1), .val (.int p2), .val (.int (1 : Int32)), .val (.int (1 : Int32)), .val (.int (sp1 p0 p1)), .val (.ref w_4)] [(.int (1 : Int32))])) _
            refine XS.goto X145.here hx rfl (pc0 := 56) (pc' := 60) rfl (hb hby at_56) (by decide) (by decide) ?_
            show Steps p.tables e below (T145.setTop (mkF m 60 #[.val (.int p0), .val (.int p1), .val (.int p2), .val (.int (1 : Int32)), .val (.int (1 : Int32)), .val (.int (sp1 p0 p1)), .val (.ref w_4)] [(.int (1 : Int32))])) _
            exact retN X145 hx (t := .boolean) Bd.returns (by simp) (hb hby at_60) hr
          · show Q0 Z w_1 w_2 w_3 w_4 w_5 p0 p1 p2 h0 n0 _ T145.heap _
            rw [e145]
            exact ⟨by unfold sp0; rw [if_neg hc10, if_neg hc121, if_neg hc140, if_pos hc143], N145, rfl⟩
        · by_cases hc146 : (sp1 p0 p1) = (304 : Int32)
          · obtain ⟨_, _, ⟨T147, L147, k147, n147⟩, -, X147, ⟨Lc147, hQ147, l147, y147, z147⟩, st147⟩ := Jvm.LawKit.callS X138 hx (y := Y2) hown (mvT hZ (hw _ (tk 4 rfl))) (mvT hZ (hw _ (tk 5 rfl))) (mvT hZ (hw _ (tk 6 rfl))) (mvT hZ (hw _ (tk 7 rfl))) (by decide) (backOf (W := 0) (rm2 l Z a0 hw [] w_1 w_2 w_3 w_4 w_5 hS0 (sp1 p0 p1) (1 : Int32) (1 : Int32) h0 n0 O0) hZ (hw _ (tk 7 rfl)) (hw _ (tk 6 rfl)) (by decide) (by decide)) (g := (mkF m 37 #[.val (.int p0), .val (.int p1), .val (.int p2), .val (.int (1 : Int32)), .val (.int (1 : Int32)), .val (.int (sp1 p0 p1)), .unset] [(.int (1 : Int32)), (.int (1 : Int32)), (.int (sp1 p0 p1))])) rfl (by rw [hml]; rfl) (argsL := [(.int (sp1 p0 p1)), (.int (1 : Int32)), (.int (1 : Int32))]) (rest := []) (lenOf pd_2 rfl) rfl (by show 2 * 0 + _ ≤ _; exact Nat.le_of_eq rfl) (hb hby at_37) (fun _ _ => ⟨rfl, e138, (by decide : 0 + 0 ≤ _), (by decide : 0 + 0 ≤ _)⟩)
            dsimp only [Pt.U, Pt.locs, Pt.cells, Pt.slots] at X147 l147 y147 z147 st147 hQ147
            subst l147 y147 z147
            obtain ⟨rv147, N147q, e147⟩ := hQ147
            rw [show sp2 w_1 w_2 w_3 w_4 w_5 (sp1 p0 p1) (1 : Int32) (1 : Int32) = (.ref w_2) from by unfold sp2; rw [if_neg hc140, if_neg hc143, if_pos hc146, if_neg (by decide : ¬ ((1 : Int32) = (0 : Int32)))]] at rv147
            subst rv147
            have N147 := Fr.app N138 N147q
            obtain ⟨_, _, ⟨T148, L148, k148, n148⟩, -, X148, ⟨Lc148, hQ148, l148, y148, z148⟩, st148⟩ := Jvm.LawKit.callS X147 hx (y := Y3) hown (mvT hZ (hw _ (tk 10 rfl))) (mvT hZ (hw _ (tk 11 rfl))) (mvT hZ (hw _ (tk 2 rfl))) (mvT hZ (hw _ (tk 12 rfl))) (by decide) (backOf (W := 1) (rm3 l Z a0 hw [] w_1 w_2 w_3 w_4 w_5 hS0 (sp1 p0 p1) (1 : Int32) (1 : Int32) h0 n0 O0) hZ (hw _ (tk 12 rfl)) (hw _ (tk 2 rfl)) (by decide) (by decide)) (g := (mkF m 49 #[.val (.int p0), .val (.int p1), .val (.int p2), .val (.int (1 : Int32)), .val (.int (1 : Int32)), .val (.int (sp1 p0 p1)), .val (.ref w_2)] [(.int (1 : Int32)), (.int (1 : Int32)), (.int (sp1 p0 p1)), (.ref w_2)])) rfl (by rw [hml]; rfl) (argsL := [(.int (sp1 p0 p1)), (.int (1 : Int32)), (.int (1 : Int32))]) (rest := [(.ref w_2)]) (lenOf pd_2 rfl) rfl (by show 2 * 0 + _ ≤ _; exact Nat.le_of_eq rfl) (hb hby at_49) (fun _ _ => ⟨rfl, e147, (by decide : 0 + 0 ≤ _), (by decide : 0 + 0 ≤ _)⟩)
            dsimp only [Pt.U, Pt.locs, Pt.cells, Pt.slots] at X148 l148 y148 z148 st148 hQ148
            subst l148 y148 z148
            obtain ⟨rv148, N148q, e148⟩ := hQ148
            rw [show sp3 w_1 w_2 w_3 w_4 w_5 (sp1 p0 p1) (1 : Int32) (1 : Int32) = (.ref w_2) from by unfold sp3; rw [if_neg hc140, if_neg hc143, if_neg (by decide : ¬ ((1 : Int32) = (0 : Int32))), if_neg (by rw [hc146] <;> decide : ¬ ((sp1 p0 p1) = (200 : Int32))), if_pos hc146]] at rv148
            subst rv148
            have N148 := Fr.app N147 N148q
            obtain ⟨fs, hr, hrun, hended, hW, hsame⟩ := X148.leave (v := some (.int (1 : Int32))) (fun h => by rw [Bd.returns] at h; cases h)
            refine ⟨_, _, pre139 _ ?_, hrun, hended, _, _, rfl, ?_, ⟨_, rfl⟩, hW, hsame.mono (by decide) (by decide)⟩
            · show Steps p.tables e below (T138.setTop (mkF m 37 #[.val (.int p0), .val (.int p1), .val (.int p2), .val (.int (1 : Int32)), .val (.int (1 : Int32)), .val (.int (sp1 p0 p1)), .unset] [(.int (1 : Int32)), (.int (1 : Int32)), (.int (sp1 p0 p1))])) _
              refine st147 _ ?_
              show Steps p.tables e below (T147.setTop (mkF m 40 #[.val (.int p0), .val (.int p1), .val (.int p2), .val (.int (1 : Int32)), .val (.int (1 : Int32)), .val (.int (sp1 p0 p1)), .unset] [(.ref w_2)])) _
              refine XS.astore X147.here hx rfl (hb hby at_40) rfl rfl (l' := #[.val (.int p0), .val (.int p1), .val (.int p2), .val (.int (1 : Int32)), .val (.int (1 : Int32)), .val (.int (sp1 p0 p1)), .val (.ref w_2)]) rfl ?_
              show Steps p.tables e below (T147.setTop (mkF m 42 #[.val (.int p0), .val (.int p1), .val (.int p2), .val (.int (1 : Int32)), .val (.int (1 : Int32)), .val (.int (sp1 p0 p1)), .val (.ref w_2)] [])) _
              refine XS.aload X147.here hx rfl (hb hby at_42) rfl rfl ?_
              show Steps p.tables e below (T147.setTop (mkF m 44 #[.val (.int p0), .val (.int p1), .val (.int p2), .val (.int (1 : Int32)), .val (.int (1 : Int32)), .val (.int (sp1 p0 p1)), .val (.ref w_2)] [(.ref w_2)])) _
              refine XS.iload X147.here hx rfl (hb hby at_44) rfl ?_
              show Steps p.tables e below (T147.setTop (mkF m 46 #[.val (.int p0), .val (.int p1), .val (.int p2), .val (.int (1 : Int32)), .val (.int (1 : Int32)), .val (.int (sp1 p0 p1)), .val (.ref w_2)] [(.int (sp1 p0 p1)), (.ref w_2)])) _
              refine XS.iloadN X147.here hx rfl (hb hby at_46) rfl ?_
              show Steps p.tables e below (T147.setTop (mkF m 47 #[.val (.int p0), .val (.int p1), .val (.int p2), .val (.int (1 : Int32)), .val (.int (1 : Int32)), .val (.int (sp1 p0 p1)), .val (.ref w_2)] [(.int (1 : Int32)), (.int (sp1 p0 p1)), (.ref w_2)])) _
              refine XS.iload X147.here hx rfl (hb hby at_47) rfl ?_
              show Steps p.tables e below (T147.setTop (mkF m 49 #[.val (.int p0), .val (.int p1), .val (.int p2), .val (.int (1 : Int32)), .val (.int (1 : Int32)), .val (.int (sp1 p0 p1)), .val (.ref w_2)] [(.int (1 : Int32)), (.int (1 : Int32)), (.int (sp1 p0 p1)), (.ref w_2)])) _
              refine st148 _ ?_
              show Steps p.tables e below (T148.setTop (mkF m 52 #[.val (.int p0), .val (.int p1), .val (.int p2), .val (.int (1 : Int32)), .val (.int (1 : Int32)), .val (.int (sp1 p0 p1)), .val (.ref w_2)] [(.ref w_2), (.ref w_2)])) _
              refine Jvm.RoadKit.acmp (g := (mkF m 52 #[.val (.int p0), .val (.int p1), .val (.int p2), .val (.int (1 : Int32)), .val (.int (1 : Int32)), .val (.int (sp1 p0 p1)), .val (.ref w_2)] [(.ref w_2), (.ref w_2)])) X148 hx rfl rfl rfl (pc0 := 52) (pc' := 55) (same := true) rfl (hb hby at_52) rfl (decide_eq_true (congrArg Value.ref rfl)) (by decide) (by decide) ?_
              show Steps p.tables e below (T148.setTop (mkF m 55 #[.val (.int p0), .val (.int p1), .val (.int p2), .val (.int (1 : Int32)), .val (.int (1 : Int32)), .val (.int (sp1 p0 p1)), .val (.ref w_2)] [])) _
              refine XS.iconst X148.here hx rfl (hb hby at_55) ?_
              show Steps p.tables e below (T148.setTop (mkF m 56 #[.val (.int p0), .val (.int p1), .val (.int p2), .val (.int (1 : Int32)), .val (.int (1 : Int32)), .val (.int (sp1 p0 p1)), .val (.ref w_2)] [(.int (1 : Int32))])) _
              refine XS.goto X148.here hx rfl (pc0 := 56) (pc' := 60) rfl (hb hby at_56) (by decide) (by decide) ?_
              show Steps p.tables e below (T148.setTop (mkF m 60 #[.val (.int p0), .val (.int p1), .val (.int p2), .val (.int (1 : Int32)), .val (.int (1 : Int32)), .val (.int (sp1 p0 p1)), .val (.ref w_2)] [(.int (1 : Int32))])) _
              exact retN X148 hx (t := .boolean) Bd.returns (by simp) (hb hby at_60) hr
            · show Q0 Z w_1 w_2 w_3 w_4 w_5 p0 p1 p2 h0 n0 _ T148.heap _
              rw [e148]
              exact ⟨by unfold sp0; rw [if_neg hc10, if_neg hc121, if_neg hc140, if_neg hc143, if_pos hc146], N148, rfl⟩
          · by_cases hc149 : (sp1 p0 p1) = (200 : Int32)
            · obtain ⟨_, _, ⟨T150, L150, k150, n150⟩, -, X150, ⟨Lc150, hQ150, l150, y150, z150⟩, st150⟩ := Jvm.LawKit.callS X138 hx (y := Y2) hown (mvT hZ (hw _ (tk 4 rfl))) (mvT hZ (hw _ (tk 5 rfl))) (mvT hZ (hw _ (tk 6 rfl))) (mvT hZ (hw _ (tk 7 rfl))) (by decide) (backOf (W := 0) (rm2 l Z a0 hw [] w_1 w_2 w_3 w_4 w_5 hS0 (sp1 p0 p1) (1 : Int32) (1 : Int32) h0 n0 O0) hZ (hw _ (tk 7 rfl)) (hw _ (tk 6 rfl)) (by decide) (by decide)) (g := (mkF m 37 #[.val (.int p0), .val (.int p1), .val (.int p2), .val (.int (1 : Int32)), .val (.int (1 : Int32)), .val (.int (sp1 p0 p1)), .unset] [(.int (1 : Int32)), (.int (1 : Int32)), (.int (sp1 p0 p1))])) rfl (by rw [hml]; rfl) (argsL := [(.int (sp1 p0 p1)), (.int (1 : Int32)), (.int (1 : Int32))]) (rest := []) (lenOf pd_2 rfl) rfl (by show 2 * 0 + _ ≤ _; exact Nat.le_of_eq rfl) (hb hby at_37) (fun _ _ => ⟨rfl, e138, (by decide : 0 + 0 ≤ _), (by decide : 0 + 0 ≤ _)⟩)
              dsimp only [Pt.U, Pt.locs, Pt.cells, Pt.slots] at X150 l150 y150 z150 st150 hQ150
              subst l150 y150 z150
              obtain ⟨rv150, N150q, e150⟩ := hQ150
              rw [show sp2 w_1 w_2 w_3 w_4 w_5 (sp1 p0 p1) (1 : Int32) (1 : Int32) = (.ref w_2) from by unfold sp2; rw [if_neg hc140, if_neg hc143, if_neg hc146, if_pos hc149, if_neg (by decide : ¬ ((1 : Int32) = (0 : Int32)))]] at rv150
              subst rv150
              have N150 := Fr.app N138 N150q
              obtain ⟨_, _, ⟨T151, L151, k151, n151⟩, -, X151, ⟨Lc151, hQ151, l151, y151, z151⟩, st151⟩ := Jvm.LawKit.callS X150 hx (y := Y3) hown (mvT hZ (hw _ (tk 10 rfl))) (mvT hZ (hw _ (tk 11 rfl))) (mvT hZ (hw _ (tk 2 rfl))) (mvT hZ (hw _ (tk 12 rfl))) (by decide) (backOf (W := 1) (rm3 l Z a0 hw [] w_1 w_2 w_3 w_4 w_5 hS0 (sp1 p0 p1) (1 : Int32) (1 : Int32) h0 n0 O0) hZ (hw _ (tk 12 rfl)) (hw _ (tk 2 rfl)) (by decide) (by decide)) (g := (mkF m 49 #[.val (.int p0), .val (.int p1), .val (.int p2), .val (.int (1 : Int32)), .val (.int (1 : Int32)), .val (.int (sp1 p0 p1)), .val (.ref w_2)] [(.int (1 : Int32)), (.int (1 : Int32)), (.int (sp1 p0 p1)), (.ref w_2)])) rfl (by rw [hml]; rfl) (argsL := [(.int (sp1 p0 p1)), (.int (1 : Int32)), (.int (1 : Int32))]) (rest := [(.ref w_2)]) (lenOf pd_2 rfl) rfl (by show 2 * 0 + _ ≤ _; exact Nat.le_of_eq rfl) (hb hby at_49) (fun _ _ => ⟨rfl, e150, (by decide : 0 + 0 ≤ _), (by decide : 0 + 0 ≤ _)⟩)
              dsimp only [Pt.U, Pt.locs, Pt.cells, Pt.slots] at X151 l151 y151 z151 st151 hQ151
              subst l151 y151 z151
              obtain ⟨rv151, N151q, e151⟩ := hQ151
              rw [show sp3 w_1 w_2 w_3 w_4 w_5 (sp1 p0 p1) (1 : Int32) (1 : Int32) = (.ref w_2) from by unfold sp3; rw [if_neg hc140, if_neg hc143, if_neg (by decide : ¬ ((1 : Int32) = (0 : Int32))), if_pos hc149]] at rv151
              subst rv151
              have N151 := Fr.app N150 N151q
              obtain ⟨fs, hr, hrun, hended, hW, hsame⟩ := X151.leave (v := some (.int (1 : Int32))) (fun h => by rw [Bd.returns] at h; cases h)
              refine ⟨_, _, pre139 _ ?_, hrun, hended, _, _, rfl, ?_, ⟨_, rfl⟩, hW, hsame.mono (by decide) (by decide)⟩
              · show Steps p.tables e below (T138.setTop (mkF m 37 #[.val (.int p0), .val (.int p1), .val (.int p2), .val (.int (1 : Int32)), .val (.int (1 : Int32)), .val (.int (sp1 p0 p1)), .unset] [(.int (1 : Int32)), (.int (1 : Int32)), (.int (sp1 p0 p1))])) _
                refine st150 _ ?_
                show Steps p.tables e below (T150.setTop (mkF m 40 #[.val (.int p0), .val (.int p1), .val (.int p2), .val (.int (1 : Int32)), .val (.int (1 : Int32)), .val (.int (sp1 p0 p1)), .unset] [(.ref w_2)])) _
                refine XS.astore X150.here hx rfl (hb hby at_40) rfl rfl (l' := #[.val (.int p0), .val (.int p1), .val (.int p2), .val (.int (1 : Int32)), .val (.int (1 : Int32)), .val (.int (sp1 p0 p1)), .val (.ref w_2)]) rfl ?_
                show Steps p.tables e below (T150.setTop (mkF m 42 #[.val (.int p0), .val (.int p1), .val (.int p2), .val (.int (1 : Int32)), .val (.int (1 : Int32)), .val (.int (sp1 p0 p1)), .val (.ref w_2)] [])) _
                refine XS.aload X150.here hx rfl (hb hby at_42) rfl rfl ?_
                show Steps p.tables e below (T150.setTop (mkF m 44 #[.val (.int p0), .val (.int p1), .val (.int p2), .val (.int (1 : Int32)), .val (.int (1 : Int32)), .val (.int (sp1 p0 p1)), .val (.ref w_2)] [(.ref w_2)])) _
                refine XS.iload X150.here hx rfl (hb hby at_44) rfl ?_
                show Steps p.tables e below (T150.setTop (mkF m 46 #[.val (.int p0), .val (.int p1), .val (.int p2), .val (.int (1 : Int32)), .val (.int (1 : Int32)), .val (.int (sp1 p0 p1)), .val (.ref w_2)] [(.int (sp1 p0 p1)), (.ref w_2)])) _
                refine XS.iloadN X150.here hx rfl (hb hby at_46) rfl ?_
                show Steps p.tables e below (T150.setTop (mkF m 47 #[.val (.int p0), .val (.int p1), .val (.int p2), .val (.int (1 : Int32)), .val (.int (1 : Int32)), .val (.int (sp1 p0 p1)), .val (.ref w_2)] [(.int (1 : Int32)), (.int (sp1 p0 p1)), (.ref w_2)])) _
                refine XS.iload X150.here hx rfl (hb hby at_47) rfl ?_
                show Steps p.tables e below (T150.setTop (mkF m 49 #[.val (.int p0), .val (.int p1), .val (.int p2), .val (.int (1 : Int32)), .val (.int (1 : Int32)), .val (.int (sp1 p0 p1)), .val (.ref w_2)] [(.int (1 : Int32)), (.int (1 : Int32)), (.int (sp1 p0 p1)), (.ref w_2)])) _
                refine st151 _ ?_
                show Steps p.tables e below (T151.setTop (mkF m 52 #[.val (.int p0), .val (.int p1), .val (.int p2), .val (.int (1 : Int32)), .val (.int (1 : Int32)), .val (.int (sp1 p0 p1)), .val (.ref w_2)] [(.ref w_2), (.ref w_2)])) _
                refine Jvm.RoadKit.acmp (g := (mkF m 52 #[.val (.int p0), .val (.int p1), .val (.int p2), .val (.int (1 : Int32)), .val (.int (1 : Int32)), .val (.int (sp1 p0 p1)), .val (.ref w_2)] [(.ref w_2), (.ref w_2)])) X151 hx rfl rfl rfl (pc0 := 52) (pc' := 55) (same := true) rfl (hb hby at_52) rfl (decide_eq_true (congrArg Value.ref rfl)) (by decide) (by decide) ?_
                show Steps p.tables e below (T151.setTop (mkF m 55 #[.val (.int p0), .val (.int p1), .val (.int p2), .val (.int (1 : Int32)), .val (.int (1 : Int32)), .val (.int (sp1 p0 p1)), .val (.ref w_2)] [])) _
                refine XS.iconst X151.here hx rfl (hb hby at_55) ?_
                show Steps p.tables e below (T151.setTop (mkF m 56 #[.val (.int p0), .val (.int p1), .val (.int p2), .val (.int (1 : Int32)), .val (.int (1 : Int32)), .val (.int (sp1 p0 p1)), .val (.ref w_2)] [(.int (1 : Int32))])) _
                refine XS.goto X151.here hx rfl (pc0 := 56) (pc' := 60) rfl (hb hby at_56) (by decide) (by decide) ?_
                show Steps p.tables e below (T151.setTop (mkF m 60 #[.val (.int p0), .val (.int p1), .val (.int p2), .val (.int (1 : Int32)), .val (.int (1 : Int32)), .val (.int (sp1 p0 p1)), .val (.ref w_2)] [(.int (1 : Int32))])) _
                exact retN X151 hx (t := .boolean) Bd.returns (by simp) (hb hby at_60) hr
              · show Q0 Z w_1 w_2 w_3 w_4 w_5 p0 p1 p2 h0 n0 _ T151.heap _
                rw [e151]
                exact ⟨by unfold sp0; rw [if_neg hc10, if_neg hc121, if_neg hc140, if_neg hc143, if_neg hc146, if_pos hc149], N151, rfl⟩
            · obtain ⟨_, _, ⟨T152, L152, k152, n152⟩, -, X152, ⟨Lc152, hQ152, l152, y152, z152⟩, st152⟩ := Jvm.LawKit.callS X138 hx (y := Y2) hown (mvT hZ (hw _ (tk 4 rfl))) (mvT hZ (hw _ (tk 5 rfl))) (mvT hZ (hw _ (tk 6 rfl))) (mvT hZ (hw _ (tk 7 rfl))) (by decide) (backOf (W := 0) (rm2 l Z a0 hw [] w_1 w_2 w_3 w_4 w_5 hS0 (sp1 p0 p1) (1 : Int32) (1 : Int32) h0 n0 O0) hZ (hw _ (tk 7 rfl)) (hw _ (tk 6 rfl)) (by decide) (by decide)) (g := (mkF m 37 #[.val (.int p0), .val (.int p1), .val (.int p2), .val (.int (1 : Int32)), .val (.int (1 : Int32)), .val (.int (sp1 p0 p1)), .unset] [(.int (1 : Int32)), (.int (1 : Int32)), (.int (sp1 p0 p1))])) rfl (by rw [hml]; rfl) (argsL := [(.int (sp1 p0 p1)), (.int (1 : Int32)), (.int (1 : Int32))]) (rest := []) (lenOf pd_2 rfl) rfl (by show 2 * 0 + _ ≤ _; exact Nat.le_of_eq rfl) (hb hby at_37) (fun _ _ => ⟨rfl, e138, (by decide : 0 + 0 ≤ _), (by decide : 0 + 0 ≤ _)⟩)
              dsimp only [Pt.U, Pt.locs, Pt.cells, Pt.slots] at X152 l152 y152 z152 st152 hQ152
              subst l152 y152 z152
              obtain ⟨rv152, N152q, e152⟩ := hQ152
              rw [show sp2 w_1 w_2 w_3 w_4 w_5 (sp1 p0 p1) (1 : Int32) (1 : Int32) = (.ref w_3) from by unfold sp2; rw [if_neg hc140, if_neg hc143, if_neg hc146, if_neg hc149]] at rv152
              subst rv152
              have N152 := Fr.app N138 N152q
              obtain ⟨_, _, ⟨T153, L153, k153, n153⟩, -, X153, ⟨Lc153, hQ153, l153, y153, z153⟩, st153⟩ := Jvm.LawKit.callS X152 hx (y := Y3) hown (mvT hZ (hw _ (tk 10 rfl))) (mvT hZ (hw _ (tk 11 rfl))) (mvT hZ (hw _ (tk 2 rfl))) (mvT hZ (hw _ (tk 12 rfl))) (by decide) (backOf (W := 1) (rm3 l Z a0 hw [] w_1 w_2 w_3 w_4 w_5 hS0 (sp1 p0 p1) (1 : Int32) (1 : Int32) h0 n0 O0) hZ (hw _ (tk 12 rfl)) (hw _ (tk 2 rfl)) (by decide) (by decide)) (g := (mkF m 49 #[.val (.int p0), .val (.int p1), .val (.int p2), .val (.int (1 : Int32)), .val (.int (1 : Int32)), .val (.int (sp1 p0 p1)), .val (.ref w_3)] [(.int (1 : Int32)), (.int (1 : Int32)), (.int (sp1 p0 p1)), (.ref w_3)])) rfl (by rw [hml]; rfl) (argsL := [(.int (sp1 p0 p1)), (.int (1 : Int32)), (.int (1 : Int32))]) (rest := [(.ref w_3)]) (lenOf pd_2 rfl) rfl (by show 2 * 0 + _ ≤ _; exact Nat.le_of_eq rfl) (hb hby at_49) (fun _ _ => ⟨rfl, e152, (by decide : 0 + 0 ≤ _), (by decide : 0 + 0 ≤ _)⟩)
              dsimp only [Pt.U, Pt.locs, Pt.cells, Pt.slots] at X153 l153 y153 z153 st153 hQ153
              subst l153 y153 z153
              obtain ⟨rv153, N153q, e153⟩ := hQ153
              rw [show sp3 w_1 w_2 w_3 w_4 w_5 (sp1 p0 p1) (1 : Int32) (1 : Int32) = (.ref w_3) from by unfold sp3; rw [if_neg hc140, if_neg hc143, if_neg (by decide : ¬ ((1 : Int32) = (0 : Int32))), if_neg hc149, if_neg hc146]] at rv153
              subst rv153
              have N153 := Fr.app N152 N153q
              obtain ⟨fs, hr, hrun, hended, hW, hsame⟩ := X153.leave (v := some (.int (1 : Int32))) (fun h => by rw [Bd.returns] at h; cases h)
              refine ⟨_, _, pre139 _ ?_, hrun, hended, _, _, rfl, ?_, ⟨_, rfl⟩, hW, hsame.mono (by decide) (by decide)⟩
              · show Steps p.tables e below (T138.setTop (mkF m 37 #[.val (.int p0), .val (.int p1), .val (.int p2), .val (.int (1 : Int32)), .val (.int (1 : Int32)), .val (.int (sp1 p0 p1)), .unset] [(.int (1 : Int32)), (.int (1 : Int32)), (.int (sp1 p0 p1))])) _
                refine st152 _ ?_
                show Steps p.tables e below (T152.setTop (mkF m 40 #[.val (.int p0), .val (.int p1), .val (.int p2), .val (.int (1 : Int32)), .val (.int (1 : Int32)), .val (.int (sp1 p0 p1)), .unset] [(.ref w_3)])) _
                refine XS.astore X152.here hx rfl (hb hby at_40) rfl rfl (l' := #[.val (.int p0), .val (.int p1), .val (.int p2), .val (.int (1 : Int32)), .val (.int (1 : Int32)), .val (.int (sp1 p0 p1)), .val (.ref w_3)]) rfl ?_
                show Steps p.tables e below (T152.setTop (mkF m 42 #[.val (.int p0), .val (.int p1), .val (.int p2), .val (.int (1 : Int32)), .val (.int (1 : Int32)), .val (.int (sp1 p0 p1)), .val (.ref w_3)] [])) _
                refine XS.aload X152.here hx rfl (hb hby at_42) rfl rfl ?_
                show Steps p.tables e below (T152.setTop (mkF m 44 #[.val (.int p0), .val (.int p1), .val (.int p2), .val (.int (1 : Int32)), .val (.int (1 : Int32)), .val (.int (sp1 p0 p1)), .val (.ref w_3)] [(.ref w_3)])) _
                refine XS.iload X152.here hx rfl (hb hby at_44) rfl ?_
                show Steps p.tables e below (T152.setTop (mkF m 46 #[.val (.int p0), .val (.int p1), .val (.int p2), .val (.int (1 : Int32)), .val (.int (1 : Int32)), .val (.int (sp1 p0 p1)), .val (.ref w_3)] [(.int (sp1 p0 p1)), (.ref w_3)])) _
                refine XS.iloadN X152.here hx rfl (hb hby at_46) rfl ?_
                show Steps p.tables e below (T152.setTop (mkF m 47 #[.val (.int p0), .val (.int p1), .val (.int p2), .val (.int (1 : Int32)), .val (.int (1 : Int32)), .val (.int (sp1 p0 p1)), .val (.ref w_3)] [(.int (1 : Int32)), (.int (sp1 p0 p1)), (.ref w_3)])) _
                refine XS.iload X152.here hx rfl (hb hby at_47) rfl ?_
                show Steps p.tables e below (T152.setTop (mkF m 49 #[.val (.int p0), .val (.int p1), .val (.int p2), .val (.int (1 : Int32)), .val (.int (1 : Int32)), .val (.int (sp1 p0 p1)), .val (.ref w_3)] [(.int (1 : Int32)), (.int (1 : Int32)), (.int (sp1 p0 p1)), (.ref w_3)])) _
                refine st153 _ ?_
                show Steps p.tables e below (T153.setTop (mkF m 52 #[.val (.int p0), .val (.int p1), .val (.int p2), .val (.int (1 : Int32)), .val (.int (1 : Int32)), .val (.int (sp1 p0 p1)), .val (.ref w_3)] [(.ref w_3), (.ref w_3)])) _
                refine Jvm.RoadKit.acmp (g := (mkF m 52 #[.val (.int p0), .val (.int p1), .val (.int p2), .val (.int (1 : Int32)), .val (.int (1 : Int32)), .val (.int (sp1 p0 p1)), .val (.ref w_3)] [(.ref w_3), (.ref w_3)])) X153 hx rfl rfl rfl (pc0 := 52) (pc' := 55) (same := true) rfl (hb hby at_52) rfl (decide_eq_true (congrArg Value.ref rfl)) (by decide) (by decide) ?_
                show Steps p.tables e below (T153.setTop (mkF m 55 #[.val (.int p0), .val (.int p1), .val (.int p2), .val (.int (1 : Int32)), .val (.int (1 : Int32)), .val (.int (sp1 p0 p1)), .val (.ref w_3)] [])) _
                refine XS.iconst X153.here hx rfl (hb hby at_55) ?_
                show Steps p.tables e below (T153.setTop (mkF m 56 #[.val (.int p0), .val (.int p1), .val (.int p2), .val (.int (1 : Int32)), .val (.int (1 : Int32)), .val (.int (sp1 p0 p1)), .val (.ref w_3)] [(.int (1 : Int32))])) _
                refine XS.goto X153.here hx rfl (pc0 := 56) (pc' := 60) rfl (hb hby at_56) (by decide) (by decide) ?_
                show Steps p.tables e below (T153.setTop (mkF m 60 #[.val (.int p0), .val (.int p1), .val (.int p2), .val (.int (1 : Int32)), .val (.int (1 : Int32)), .val (.int (sp1 p0 p1)), .val (.ref w_3)] [(.int (1 : Int32))])) _
                exact retN X153 hx (t := .boolean) Bd.returns (by simp) (hb hby at_60) hr
              · show Q0 Z w_1 w_2 w_3 w_4 w_5 p0 p1 p2 h0 n0 _ T153.heap _
                rw [e153]
                exact ⟨by unfold sp0; rw [if_neg hc10, if_neg hc121, if_neg hc140, if_neg hc143, if_neg hc146, if_neg hc149], N153, rfl⟩

theorem own_plain (p0 : Int32) (p1 : Int32) (p2 : Int32) : sp0 p0 p1 p2 = (1 : Int32) := by
  unfold sp0
  repeat' split
  all_goals rfl
set_option maxRecDepth 65536 in
set_option maxHeartbeats 40000000 in
theorem comes_1 {Post : Tables → Env → Array Value → State → Outcome → State → Prop} (hpost : ∀ tb e args s v u, (limb_1_1.after args s (.returned v) u = true ∧ limb_1_2.after args s (.returned v) u = true ∧ True) → FrameEnd s (.returned v) u (Jvm.fieldLocs frame_1_writes args s ++ Jvm.arrayLocs frame_1_arrays args s ++ Jvm.staticLocs frame_1_statics s) 0 0 → Post tb e args s (.returned v) u) :
    ArmFor flags0 classFile x code maxLocals ret World_1 tables_1 room_1 Calls_1 rest_1 Pre_1 Post := by
  intro l hfl _ _ p e ha hc hk s m args below hf hA hF happ hP
  obtain ⟨hcalls, hrest, hpre⟩ := hP
  obtain ⟨-, -, -, hnamed, -, -, -, hat⟩ := (Spec.applies_iff hf).mp happ
  obtain ⟨hg, hn⟩ := and_e (Cond.before_iff.mp (show (Jvm.Cond.and given_1 narrow_1).before args s = true from hpre))
  obtain ⟨g154, g155⟩ := and_e hg
  obtain ⟨g156, g157⟩ := and_e g155
  obtain ⟨g158, g159⟩ := and_e g157
  obtain ⟨w0, w1, w2, rfl⟩ : ∃ w0 w1 w2 : Value, args = #[w0, w1, w2] := by
    have hs : args.size = 3 := by simpa [Cond.value, given_1] using g154
    obtain ⟨L⟩ := args
    match L, hs with
    | [w0, w1, w2], _ => exact ⟨w0, w1, w2, rfl⟩
  have hw := fun d (hd : d ∈ tables_1) => atoms_spec (ws := Jvm.Cond.code x code maxLocals ret :: tables_1) hat d (List.mem_cons_of_mem _ hd)
  have hfit : Fit s := fun {y c} hc i hi => by
    obtain ⟨ha, rfl⟩ := Array.getElem?_eq_some_iff.mp hc
    have q := List.all_eq_true.mp ((Array.all_eq_true_iff_forall_mem.mp hF) _ (Array.getElem_mem ha)) i (List.mem_range.mpr hi)
    simpa [Array.getElem?_eq_getElem hi] using q
  obtain ⟨i0, ei0⟩ := is_v g156
  obtain rfl : w0 = (.int i0) := Option.some.inj ei0
  obtain ⟨i1, ei1⟩ := is_v g158
  obtain rfl : w1 = (.int i1) := Option.some.inj ei1
  obtain ⟨i2, ei2⟩ := is_v g159
  obtain rfl : w2 = (.int i2) := Option.some.inj ei2
  obtain ⟨n1, n2⟩ := and_e hn
  obtain ⟨n3, n4⟩ := and_e n2
  obtain ⟨n5, n6⟩ := and_e n4
  obtain ⟨n7, n8⟩ := and_e n6
  obtain ⟨w_1, ew_1⟩ := exa_v n1
  have S_1 : Sta s s.heap "com/example/bristlecone/bristlecone/model/Verdict" "LINKS_CHANGED" "Lcom/example/bristlecone/bristlecone/model/Verdict;" (.ref w_1) := Sta.start ew_1 (Or.inr ⟨(hw _ (tk 6 rfl)), (hw _ (tk 9 rfl))⟩)
  have E_1 : Exa s s.heap w_1 "com/example/bristlecone/bristlecone/model/Verdict" := Exa.start ew_1 n1
  obtain ⟨w_2, ew_2⟩ := exa_v n3
  have S_2 : Sta s s.heap "com/example/bristlecone/bristlecone/model/Verdict" "COHERENT" "Lcom/example/bristlecone/bristlecone/model/Verdict;" (.ref w_2) := Sta.start ew_2 (Or.inr ⟨(hw _ (tk 6 rfl)), (hw _ (tk 15 rfl))⟩)
  have E_2 : Exa s s.heap w_2 "com/example/bristlecone/bristlecone/model/Verdict" := Exa.start ew_2 n3
  obtain ⟨w_3, ew_3⟩ := exa_v n5
  have S_3 : Sta s s.heap "com/example/bristlecone/bristlecone/model/Verdict" "UNVERIFIED" "Lcom/example/bristlecone/bristlecone/model/Verdict;" (.ref w_3) := Sta.start ew_3 (Or.inr ⟨(hw _ (tk 6 rfl)), (hw _ (tk 21 rfl))⟩)
  have E_3 : Exa s s.heap w_3 "com/example/bristlecone/bristlecone/model/Verdict" := Exa.start ew_3 n5
  obtain ⟨w_4, ew_4⟩ := exa_v n7
  have S_4 : Sta s s.heap "com/example/bristlecone/bristlecone/model/Verdict" "MISSING" "Lcom/example/bristlecone/bristlecone/model/Verdict;" (.ref w_4) := Sta.start ew_4 (Or.inr ⟨(hw _ (tk 6 rfl)), (hw _ (tk 24 rfl))⟩)
  have E_4 : Exa s s.heap w_4 "com/example/bristlecone/bristlecone/model/Verdict" := Exa.start ew_4 n7
  obtain ⟨w_5, ew_5⟩ := exa_v n8
  have S_5 : Sta s s.heap "com/example/bristlecone/bristlecone/model/Verdict" "CONTENT_CHANGED" "Lcom/example/bristlecone/bristlecone/model/Verdict;" (.ref w_5) := Sta.start ew_5 (Or.inr ⟨(hw _ (tk 6 rfl)), (hw _ (tk 27 rfl))⟩)
  have E_5 : Exa s s.heap w_5 "com/example/bristlecone/bristlecone/model/Verdict" := Exa.start ew_5 n8
  have hS : StF s w_1 w_2 w_3 w_4 w_5 := ⟨S_1, E_1, S_2, E_2, S_3, E_3, S_4, E_4, S_5, E_5⟩
  obtain ⟨n, o, h1, h2, h3, _, L, rfl, ⟨hv, N, -⟩, hq⟩ := rm0 l s _ hw tables_1 w_1 w_2 w_3 w_4 w_5 hS i0 i1 i2 s.heap s.heap.size (Old.start s) p e ha hc hk s m _ below hf ((Spec.applies_iff_loose hf).mp happ).1 ⟨rfl, State.Warmed39.refl s, rfl⟩ trivial
  rw [own_plain i0 i1 i2] at hv
  subst hv
  refine ⟨n, _, h1, h2, h3, hpost _ _ _ _ _ _ ⟨Cond.after_iff.mpr rfl, Cond.after_iff.mpr (eq_i res_at (Term.int_eval (1)) rfl), trivial⟩ ⟨hq.1, hq.2.1, (hq.2.2.sift fun y hy => Or.inr (N y hy)).mono (by decide) (by decide)⟩⟩
theorem main_1_1 : Claimed_1_1 := comes_1 fun _ _ _ _ _ _ h hF => ⟨h.1, hF⟩
theorem main_1_2 : Claimed_1_2 := comes_1 fun _ _ _ _ _ _ h hF => ⟨h.2.1, hF⟩
end Jvm.Pilot.@@N@@
namespace Jvm.Pilot.@@N@@
open Jvm Jvm.ClassFile Sem Op Lib Jvm.Free Jvm.Stand Jvm.Pilot.@@N@@.Jvm.D
/-! MADE BY PROGRAM (witnessworld.py) out of the Statement's table words and the real class files: 13 classes; the members and pool entries that the words name. The judged class is class 1, her method 1. -/
namespace start1
open Jvm.ClassFile
def u (s : String) : CpInfo := .utf8 (stringToUtf16 s)
/-- a pool by its gaps: so many unusable entries, then the entry; so many at the end -/
def gap : Nat → List CpInfo → List CpInfo
  | 0, r => r
  | n + 1, r => .unusable :: gap n r
def poolList (es : List (Nat × CpInfo)) (last : Nat) : List CpInfo := es.foldr (fun e r => gap e.1 (e.2 :: r)) (gap last [])
def pool (es : List (Nat × CpInfo)) (last : Nat) : Array CpInfo := ⟨poolList es last⟩
def fileOf (pool : Array CpInfo) (this : Nat) (attrs : Array Attribute := #[]) (ms : Array MethodInfo := #[]) (fl : Nat := 33) (sup : Nat := 0) (ifs : Array Nat := #[]) (fds : Array FieldInfo := #[]) : ClassFile where
  minorVersion := 0
  majorVersion := 65
  constantPool := pool
  accessFlags := fl
  thisClass := this
  superClass := sup
  interfaces := ifs
  fields := fds
  methods := ms
  attributes := attrs
def plain (name : String) (sup : Option ClassId) : Class where
  name := name
  kind := .ordinary
  loader := none
  accessFlags := 33
  super := sup
  interfaces := #[]
  cf := none
  fields := #[]
  methods := #[]
  instanceTypes := #[]
  staticTypes := #[]
  resolved := #[]
  callSites := []
  init := .initialized
  statics := none
  mirror := none

def pool0 : Array CpInfo := pool [(5, u "<init>"), (0, u "()V"), (1, .class_ 10), (1, u "java/lang/Object")] 113

def k0m0 : Method := { name := "<init>", desc := "()V", sig := { parameters := [], returnType := none }, accessFlags := 1, code := none }
/-- java/lang/Object -/
def k0 : Class := { plain "java/lang/Object" none with
  accessFlags := 33
  interfaces := #[]
  cf := some (fileOf pool0 8 #[] #[{ accessFlags := 1, nameIndex := 5, descriptorIndex := 6, attributes := #[] }] 33 0 #[] #[])
  fields := #[]
  methods := #[k0m0]
  instanceTypes := #[]
  staticTypes := #[]
  resolved := Array.replicate 124 none
  statics := none }

def pool1 : Array CpInfo := pool [(2, .class_ 4), (1, u "java/lang/Object"), (0, u "<init>"), (0, u "()V"), (0, .methodref 8 9), (0, .class_ 10), (0, .nameAndType 11 12), (0, u "com/example/bristlecone/bristlecone/model/VerdictJudgePinLaw"), (0, u "chooseStatus"), (0, u "(II)I"), (0, .methodref 14 15), (0, .class_ 16), (0, .nameAndType 17 18), (0, u "com/example/bristlecone/bristlecone/model/Verdict"), (0, u "judge"), (0, u "(IZZ)Lcom/example/bristlecone/bristlecone/model/Verdict;"), (0, .methodref 8 20), (0, .nameAndType 21 18), (0, u "expected"), (0, .methodref 8 23), (0, .nameAndType 24 25), (0, u "near"), (0, u "(I)I"), (0, .fieldref 14 27), (0, .nameAndType 28 29), (0, u "MISSING"), (0, u "Lcom/example/bristlecone/bristlecone/model/Verdict;"), (0, .fieldref 14 31), (0, .nameAndType 32 29), (0, u "COHERENT"), (0, .fieldref 14 34), (0, .nameAndType 35 29), (0, u "UNVERIFIED"), (0, .fieldref 14 37), (0, .nameAndType 38 29), (0, u "LINKS_CHANGED"), (0, .fieldref 14 40), (0, .nameAndType 41 29), (0, u "CONTENT_CHANGED"), (2, u "law"), (0, u "(III)Z")] 3

def k1m0 : Method := { name := "<init>", desc := "()V", sig := { parameters := [], returnType := none }, accessFlags := 2, code := none }
def k1c1 : Code := { maxStack := 4, maxLocals := 7, code := code, exceptionTable := #[], attributes := #[] }
def k1m1 : Method := { name := "law", desc := "(III)Z", sig := { parameters := [.int, .int, .int], returnType := some .boolean }, accessFlags := 9, code := some k1c1 }
def k1c2 : Code := { maxStack := 2, maxLocals := 3, code := method_3_code, exceptionTable := #[], attributes := #[] }
def k1m2 : Method := { name := "chooseStatus", desc := "(II)I", sig := { parameters := [.int, .int], returnType := some .int }, accessFlags := 10, code := some k1c2 }
def k1c3 : Code := { maxStack := 2, maxLocals := 2, code := method_4_code, exceptionTable := #[], attributes := #[] }
def k1m3 : Method := { name := "near", desc := "(I)I", sig := { parameters := [.int], returnType := some .int }, accessFlags := 10, code := some k1c3 }
def k1c4 : Code := { maxStack := 2, maxLocals := 5, code := method_5_code, exceptionTable := #[], attributes := #[] }
def k1m4 : Method := { name := "expected", desc := "(IZZ)Lcom/example/bristlecone/bristlecone/model/Verdict;", sig := { parameters := [.int, .boolean, .boolean], returnType := some (.object "com/example/bristlecone/bristlecone/model/Verdict") }, accessFlags := 10, code := some k1c4 }
/-- com/example/bristlecone/bristlecone/model/VerdictJudgePinLaw -/
def k1 : Class := { plain "com/example/bristlecone/bristlecone/model/VerdictJudgePinLaw" (some 0) with
  accessFlags := 49
  interfaces := #[]
  cf := some (fileOf pool1 8 #[] #[{ accessFlags := 2, nameIndex := 5, descriptorIndex := 6, attributes := #[] }, { accessFlags := 9, nameIndex := 44, descriptorIndex := 45, attributes := #[] }, { accessFlags := 10, nameIndex := 11, descriptorIndex := 12, attributes := #[] }, { accessFlags := 10, nameIndex := 24, descriptorIndex := 25, attributes := #[] }, { accessFlags := 10, nameIndex := 21, descriptorIndex := 18, attributes := #[] }] 49 2 #[] #[])
  fields := #[]
  methods := #[k1m0, k1m1, k1m2, k1m3, k1m4]
  instanceTypes := #[]
  staticTypes := #[]
  resolved := Array.replicate 49 none
  statics := none }

def pool2 : Array CpInfo := pool [(1, .class_ 2), (0, u "java/lang/constant/Constable"), (0, .class_ 4), (0, u "java/lang/Object")] 6

/-- java/lang/constant/Constable -/
def k2 : Class := { plain "java/lang/constant/Constable" (some 0) with
  accessFlags := 1537
  interfaces := #[]
  cf := some (fileOf pool2 1 #[] #[] 1537 3 #[] #[])
  fields := #[]
  methods := #[]
  instanceTypes := #[]
  staticTypes := #[]
  resolved := Array.replicate 11 none
  statics := none }

def pool3 : Array CpInfo := pool [(1, .class_ 2), (0, u "java/lang/Comparable"), (0, .class_ 4), (0, u "java/lang/Object")] 7

/-- java/lang/Comparable -/
def k3 : Class := { plain "java/lang/Comparable" (some 0) with
  accessFlags := 1537
  interfaces := #[]
  cf := some (fileOf pool3 1 #[] #[] 1537 3 #[] #[])
  fields := #[]
  methods := #[]
  instanceTypes := #[]
  staticTypes := #[]
  resolved := Array.replicate 12 none
  statics := none }

def pool4 : Array CpInfo := pool [(1, .class_ 2), (0, u "java/io/Serializable"), (0, .class_ 4), (0, u "java/lang/Object")] 2

/-- java/io/Serializable -/
def k4 : Class := { plain "java/io/Serializable" (some 0) with
  accessFlags := 1537
  interfaces := #[]
  cf := some (fileOf pool4 1 #[] #[] 1537 3 #[] #[])
  fields := #[]
  methods := #[]
  instanceTypes := #[]
  staticTypes := #[]
  resolved := Array.replicate 7 none
  statics := none }

def pool5 : Array CpInfo := pool [(2, .class_ 4), (1, u "java/lang/Enum"), (0, u "name"), (0, u "Ljava/lang/String;"), (2, u "ordinal"), (0, u "I"), (1, .class_ 14), (1, u "java/lang/Object"), (4, u "hash"), (86, .class_ 108), (1, u "java/lang/Enum$EnumDesc"), (2, .class_ 112), (0, u "java/lang/constant/Constable"), (0, .class_ 114), (0, u "java/lang/Comparable"), (0, .class_ 116), (0, u "java/io/Serializable")] 87

/-- java/lang/Enum -/
def k5 : Class := { plain "java/lang/Enum" (some 0) with
  accessFlags := 1057
  interfaces := #[2, 3, 4]
  cf := some (fileOf pool5 2 #[.nestMembers #[106]] #[] 1057 12 #[111, 113, 115] #[{ accessFlags := 18, nameIndex := 5, descriptorIndex := 6, attributes := #[] }, { accessFlags := 18, nameIndex := 9, descriptorIndex := 10, attributes := #[] }, { accessFlags := 2, nameIndex := 19, descriptorIndex := 10, attributes := #[] }])
  fields := #[{ name := "name", type := (.object "java/lang/String"), accessFlags := 18, slot := 0, constantValue := 0 }, { name := "ordinal", type := .int, accessFlags := 18, slot := 1, constantValue := 0 }, { name := "hash", type := .int, accessFlags := 2, slot := 2, constantValue := 0 }]
  methods := #[]
  instanceTypes := #[(.object "java/lang/String"), .int, .int]
  staticTypes := #[]
  resolved := Array.replicate 204 none
  statics := none }

def pool6 : Array CpInfo := pool [(9, .class_ 10), (0, u "com/example/bristlecone/bristlecone/model/Worded"), (31, .class_ 43), (0, u "java/lang/Object")] 12

/-- com/example/bristlecone/bristlecone/model/Worded -/
def k6 : Class := { plain "com/example/bristlecone/bristlecone/model/Worded" (some 0) with
  accessFlags := 1537
  interfaces := #[]
  cf := some (fileOf pool6 9 #[] #[] 1537 42 #[] #[])
  fields := #[]
  methods := #[]
  instanceTypes := #[]
  staticTypes := #[]
  resolved := Array.replicate 56 none
  statics := none }

def pool7 : Array CpInfo := pool [(1, .class_ 2), (0, u "com/example/bristlecone/bristlecone/model/Verdict"), (0, .fieldref 1 4), (0, .nameAndType 5 6), (0, u "COHERENT"), (0, u "Lcom/example/bristlecone/bristlecone/model/Verdict;"), (0, .fieldref 1 8), (0, .nameAndType 9 6), (0, u "CONTENT_CHANGED"), (0, .fieldref 1 11), (0, .nameAndType 12 6), (0, u "LINKS_CHANGED"), (0, .fieldref 1 14), (0, .nameAndType 15 6), (0, u "MISSING"), (0, .fieldref 1 17), (0, .nameAndType 18 6), (0, u "UNVERIFIED"), (2, u "$VALUES"), (0, u "[Lcom/example/bristlecone/bristlecone/model/Verdict;"), (6, .class_ 31), (1, u "java/lang/Enum"), (8, u "word"), (0, u "Ljava/lang/String;"), (1, .class_ 45), (1, u "com/example/bristlecone/bristlecone/model/Worded"), (50, u "judge"), (0, u "(IZZ)Lcom/example/bristlecone/bristlecone/model/Verdict;")] 20

def k7c0 : Code := { maxStack := 2, maxLocals := 3, code := prog_24_method_6_code, exceptionTable := #[], attributes := #[] }
def k7m0 : Method := { name := "judge", desc := "(IZZ)Lcom/example/bristlecone/bristlecone/model/Verdict;", sig := { parameters := [.int, .boolean, .boolean], returnType := some (.object "com/example/bristlecone/bristlecone/model/Verdict") }, accessFlags := 9, code := some k7c0 }
/-- com/example/bristlecone/bristlecone/model/Verdict -/
def k7 : Class := { plain "com/example/bristlecone/bristlecone/model/Verdict" (some 5) with
  accessFlags := 16433
  interfaces := #[6]
  cf := some (fileOf pool7 1 #[] #[{ accessFlags := 9, nameIndex := 96, descriptorIndex := 97, attributes := #[] }] 16433 29 #[43] #[{ accessFlags := 16409, nameIndex := 5, descriptorIndex := 6, attributes := #[] }, { accessFlags := 16409, nameIndex := 9, descriptorIndex := 6, attributes := #[] }, { accessFlags := 16409, nameIndex := 12, descriptorIndex := 6, attributes := #[] }, { accessFlags := 16409, nameIndex := 15, descriptorIndex := 6, attributes := #[] }, { accessFlags := 16409, nameIndex := 18, descriptorIndex := 6, attributes := #[] }, { accessFlags := 18, nameIndex := 40, descriptorIndex := 41, attributes := #[] }, { accessFlags := 4122, nameIndex := 21, descriptorIndex := 22, attributes := #[] }])
  fields := #[{ name := "COHERENT", type := (.object "com/example/bristlecone/bristlecone/model/Verdict"), accessFlags := 16409, slot := 0, constantValue := 0 }, { name := "CONTENT_CHANGED", type := (.object "com/example/bristlecone/bristlecone/model/Verdict"), accessFlags := 16409, slot := 1, constantValue := 0 }, { name := "LINKS_CHANGED", type := (.object "com/example/bristlecone/bristlecone/model/Verdict"), accessFlags := 16409, slot := 2, constantValue := 0 }, { name := "MISSING", type := (.object "com/example/bristlecone/bristlecone/model/Verdict"), accessFlags := 16409, slot := 3, constantValue := 0 }, { name := "UNVERIFIED", type := (.object "com/example/bristlecone/bristlecone/model/Verdict"), accessFlags := 16409, slot := 4, constantValue := 0 }, { name := "word", type := (.object "java/lang/String"), accessFlags := 18, slot := 3, constantValue := 0 }, { name := "$VALUES", type := (.array (.object "com/example/bristlecone/bristlecone/model/Verdict")), accessFlags := 4122, slot := 5, constantValue := 0 }]
  methods := #[k7m0]
  instanceTypes := #[(.object "java/lang/String"), .int, .int, (.object "java/lang/String")]
  staticTypes := #[(.object "com/example/bristlecone/bristlecone/model/Verdict"), (.object "com/example/bristlecone/bristlecone/model/Verdict"), (.object "com/example/bristlecone/bristlecone/model/Verdict"), (.object "com/example/bristlecone/bristlecone/model/Verdict"), (.object "com/example/bristlecone/bristlecone/model/Verdict"), (.array (.object "com/example/bristlecone/bristlecone/model/Verdict"))]
  resolved := Array.replicate 118 none
  statics := some 0 }

def pool8 : Array CpInfo := pool [(1, u "java/lang/Cloneable"), (0, .class_ 1), (0, u "java/lang/Object"), (0, .class_ 3)] 3

/-- java/lang/Cloneable -/
def k8 : Class := { plain "java/lang/Cloneable" (some 0) with
  accessFlags := 1537
  interfaces := #[]
  cf := some (fileOf pool8 2 #[] #[] 1537 4 #[] #[])
  fields := #[]
  methods := #[]
  instanceTypes := #[]
  staticTypes := #[]
  resolved := Array.replicate 8 none
  statics := none }

/-- the primitive byte -/
def k9 : Class := { plain "byte" none with kind := .primitive 'B', accessFlags := 0x411 }
/-- [B -/
def k10 : Class := { plain "[B" (some 0) with kind := .array 9 .byte, interfaces := #[8, 4], accessFlags := 1041 }

/-- the primitive int -/
def k11 : Class := { plain "int" none with kind := .primitive 'I', accessFlags := 0x411 }
/-- [I -/
def k12 : Class := { plain "[I" (some 0) with kind := .array 11 .int, interfaces := #[8, 4], accessFlags := 1041 }

def heap : Heap := #[{ cls := 7, slots := #[.ref 2, .ref 5, .ref 1, .ref 4, .ref 3, .null], vm := .statics 7 },
  { cls := 7, slots := #[.null, .int 0, .int 0, .null], vm := .none },
  { cls := 7, slots := #[.null, .int 0, .int 0, .null], vm := .none },
  { cls := 7, slots := #[.null, .int 0, .int 0, .null], vm := .none },
  { cls := 7, slots := #[.null, .int 0, .int 0, .null], vm := .none },
  { cls := 7, slots := #[.null, .int 0, .int 0, .null], vm := .none }]
def classes : Array Class := #[k0, k1, k2, k3, k4, k5, k6, k7, k8, k9, k10, k11, k12]
def interned : List (Array UInt16 × Addr) := []
def slotsUsed : Nat := 26
def theMethod : MethodId := ⟨1, 1⟩
def args0 : Array Value := #[.int 5, .int 7, .int 3]
def aboutOver (below : List Frame) : State where
  vm := { classes := classes, interned := interned.toArray }
  heap := heap
  slotsUsed := slotsUsed
  threads := #[{ frames := .invoking theMethod args0 :: below }]
def below0 : List Frame := [.native { method := ⟨0, 0⟩, args := #[] }]
def about1 : State := aboutOver below0
def p0 : Program := .bare "" "" ""
def e0 : Env := launch0.env 0 0 0
theorem w_frames : about1.frames = Frame.invoking theMethod args0 :: below0 := rfl
set_option maxRecDepth 65536 in
theorem w_args : argsFit about1.vm theMethod args0 = true := by decide +kernel
set_option maxRecDepth 65536 in
theorem w_heap : heapFits about1 = true := by decide +kernel
set_option maxRecDepth 65536 in
theorem w_runnable : about1.curStatus? = some .runnable := by decide +kernel
set_option maxRecDepth 65536 in
theorem w_alone : about1.alone = true := by decide +kernel
set_option maxRecDepth 65536 in
theorem w_named : about1.methodNamed? x = some theMethod := by decide +kernel
set_option maxRecDepth 65536 in
theorem w_hears : about1.hears theMethod below0 = true := by decide +kernel
set_option maxRecDepth 65536 in
theorem w_ripe : about1.ripe theMethod args0 below0 = true := by decide +kernel
theorem w_running : about1.status = .running := rfl
set_option maxRecDepth 65536 in
theorem w_room : about1.hasRoom e0.platform room_1 = true :=
  launch0.hasRoom_least _ room_1 (by decide +kernel) (by decide +kernel) (by decide +kernel) (by decide +kernel) (by decide +kernel) (by decide +kernel)
theorem allAtoms_all (ts : List Jvm.Cond) (a : Array Jvm.Value) (st : Jvm.State) : (allAtoms ts).before a st = ts.all (fun c => c.before a st) := by
  induction ts with
  | nil => rfl
  | cons c t ih =>
    show (Jvm.Cond.and c (allAtoms t)).before a st = _
    rw [Jvm.Cond.before_and, ih, List.all_cons]
def words1 : List Jvm.Cond := Jvm.Cond.code x code maxLocals ret :: tables_1
/-- a 'code' word, met by the world's own term for the bytes: nothing is compared byte by byte -/
theorem code_word {y : MethodName} {bytes : ByteArray} {mx : Nat} {rt : Option FieldType} {a : Array Value} {s : State} {m : MethodId} {meth : Method} {c : Code} (h1 : s.methodNamed? y = some m) (h2 : s.vm.method? m = some meth) (h3 : meth.code = some c) (h4 : c.code = bytes)
    (h5 : (c.maxLocals == mx && c.exceptionTable.isEmpty && decide (c.maxStack ≤ mostOperands) && decide (meth.sig.returnType = rt) && !meth.locks && decide (parseMethodDescriptor y.desc = some meth.sig)) = true) : (Jvm.Cond.code y bytes mx rt).before a s = true := by
  simp only [Bool.and_eq_true, beq_iff_eq, Bool.not_eq_true', decide_eq_true_eq] at h5
  obtain ⟨⟨⟨⟨⟨g1, g2⟩, g3⟩, g4⟩, g5⟩, g6⟩ := h5
  simp [Cond.before, Cond.holds, Cond.value, h1, h2, h3, h4, g1, g2, g3, g4, g5, g6]
def isCode : Jvm.Cond → Bool
  | .code _ _ _ _ => true
  | _ => false
theorem all_split {L : List Jvm.Cond} {P : Jvm.Cond → Bool} (h1 : L.all (fun c => isCode c || P c) = true) (h2 : ∀ c ∈ L.filter isCode, P c = true) : L.all P = true := by
  refine List.all_eq_true.mpr fun c hc => ?_
  have h := List.all_eq_true.mp h1 c hc
  rcases Bool.eq_false_or_eq_true (isCode c) with hi | hi
  · exact h2 c (List.mem_filter.mpr ⟨hc, hi⟩)
  · simpa [hi] using h
set_option maxRecDepth 65536 in
theorem w_c0 : (Jvm.Cond.code x code maxLocals ret).before args0 about1 = true := code_word (m := ⟨1, 1⟩) (meth := k1m1) (c := k1c1) (by decide +kernel) rfl rfl rfl (by decide +kernel)
set_option maxRecDepth 65536 in
theorem w_c1 : (Jvm.Cond.code ({ cls := "com/example/bristlecone/bristlecone/model/VerdictJudgePinLaw", name := "chooseStatus", desc := "(II)I" } : Jvm.MethodName) method_3_code (3 : Nat) (Option.some Jvm.ClassFile.FieldType.int)).before args0 about1 = true := code_word (m := ⟨1, 2⟩) (meth := k1m2) (c := k1c2) (by decide +kernel) rfl rfl rfl (by decide +kernel)
set_option maxRecDepth 65536 in
theorem w_c2 : (Jvm.Cond.code ({ cls := "com/example/bristlecone/bristlecone/model/Verdict", name := "judge", desc := "(IZZ)Lcom/example/bristlecone/bristlecone/model/Verdict;" } : Jvm.MethodName) prog_24_method_6_code (3 : Nat) (Option.some (Jvm.ClassFile.FieldType.object "com/example/bristlecone/bristlecone/model/Verdict"))).before args0 about1 = true := code_word (m := ⟨7, 0⟩) (meth := k7m0) (c := k7c0) (by decide +kernel) rfl rfl rfl (by decide +kernel)
set_option maxRecDepth 65536 in
theorem w_c3 : (Jvm.Cond.code ({ cls := "com/example/bristlecone/bristlecone/model/VerdictJudgePinLaw", name := "expected", desc := "(IZZ)Lcom/example/bristlecone/bristlecone/model/Verdict;" } : Jvm.MethodName) method_5_code (5 : Nat) (Option.some (Jvm.ClassFile.FieldType.object "com/example/bristlecone/bristlecone/model/Verdict"))).before args0 about1 = true := code_word (m := ⟨1, 4⟩) (meth := k1m4) (c := k1c4) (by decide +kernel) rfl rfl rfl (by decide +kernel)
set_option maxRecDepth 65536 in
theorem w_c4 : (Jvm.Cond.code ({ cls := "com/example/bristlecone/bristlecone/model/VerdictJudgePinLaw", name := "near", desc := "(I)I" } : Jvm.MethodName) method_4_code (2 : Nat) (Option.some Jvm.ClassFile.FieldType.int)).before args0 about1 = true := code_word (m := ⟨1, 3⟩) (meth := k1m3) (c := k1c3) (by decide +kernel) rfl rfl rfl (by decide +kernel)
def codes1 : List Jvm.Cond := [Jvm.Cond.code x code maxLocals ret, Jvm.Cond.code ({ cls := "com/example/bristlecone/bristlecone/model/VerdictJudgePinLaw", name := "chooseStatus", desc := "(II)I" } : Jvm.MethodName) method_3_code (3 : Nat) (Option.some Jvm.ClassFile.FieldType.int), Jvm.Cond.code ({ cls := "com/example/bristlecone/bristlecone/model/Verdict", name := "judge", desc := "(IZZ)Lcom/example/bristlecone/bristlecone/model/Verdict;" } : Jvm.MethodName) prog_24_method_6_code (3 : Nat) (Option.some (Jvm.ClassFile.FieldType.object "com/example/bristlecone/bristlecone/model/Verdict")), Jvm.Cond.code ({ cls := "com/example/bristlecone/bristlecone/model/VerdictJudgePinLaw", name := "expected", desc := "(IZZ)Lcom/example/bristlecone/bristlecone/model/Verdict;" } : Jvm.MethodName) method_5_code (5 : Nat) (Option.some (Jvm.ClassFile.FieldType.object "com/example/bristlecone/bristlecone/model/Verdict")), Jvm.Cond.code ({ cls := "com/example/bristlecone/bristlecone/model/VerdictJudgePinLaw", name := "near", desc := "(I)I" } : Jvm.MethodName) method_4_code (2 : Nat) (Option.some Jvm.ClassFile.FieldType.int)]
set_option maxRecDepth 65536 in
theorem codes_eq : words1.filter isCode = codes1 := rfl
theorem w_codes : ∀ c ∈ words1.filter isCode, c.before args0 about1 = true := by
  rw [codes_eq]
  intro c hc
  simp only [codes1, List.mem_cons, List.not_mem_nil, or_false] at hc
  rcases hc with rfl | rfl | rfl | rfl | rfl
  · exact w_c0
  · exact w_c1
  · exact w_c2
  · exact w_c3
  · exact w_c4
set_option maxRecDepth 65536 in
theorem w_t1 : (words1.take 24).all (fun c => isCode c || c.before args0 about1) = true := by decide +kernel
set_option maxRecDepth 65536 in
theorem w_t2 : (words1.drop 24).all (fun c => isCode c || c.before args0 about1) = true := by decide +kernel
theorem w_tables : (allAtoms (Jvm.Cond.code x code maxLocals ret :: tables_1)).before args0 about1 = true := by
  rw [allAtoms_all]
  show words1.all (fun c => c.before args0 about1) = true
  refine all_split ?_ w_codes
  rw [← List.take_append_drop 24 words1, List.all_append, w_t1, w_t2]
  rfl
set_option maxRecDepth 65536 in
theorem w_case : (Jvm.Cond.and given_1 narrow_1).before args0 about1 = true := by decide +kernel
theorem w_applies : (headSpec (Jvm.Cond.code x code maxLocals ret :: tables_1) room_1).applies x e0.platform about1 = true :=
  (Spec.applies_iff w_frames).mpr ⟨w_running, w_runnable, w_alone, w_named, w_hears, w_ripe, w_room, w_tables⟩
theorem atStart : AtStart classFile x code maxLocals ret World_1 tables_1 room_1 Calls_1 rest_1 Pre_1 launch0 p0 e0 about1 theMethod args0 below0 :=
  ⟨lists_1, trivial, launch0.admits_env _ _ _, launch0.least_env, fairChoices_fair.cas, fairChoices_fair.clock, w_frames, w_args, w_heap, w_applies, trivial, trivial, w_case⟩
end start1
theorem witness_1 : WitnessClaimed_1 := ⟨start1.p0, start1.e0, start1.about1, start1.theMethod, start1.args0, start1.below0, start1.atStart⟩
end Jvm.Pilot.@@N@@
