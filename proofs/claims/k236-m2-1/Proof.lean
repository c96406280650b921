import JvmDerived
import JvmDerived.Pilot.@@N@@Statement
import JvmDerived.Pilot.@@N@@Code
set_option linter.unusedVariables false
set_option linter.unusedSimpArgs false
namespace Jvm.RoadKit
open Sem ClassFile Op Lib Jvm.Stand Jvm.Free Jvm.LawKit
section New
variable {p : Program} {l : Launch} {e : Env} {R : Room} {s : State} {m : MethodId} {args : Array Value} {below : List Frame} {meth : Method} {c : Code} {T : State} {locs : List Loc} {cells slots : Nat}
theorem retI (X : Stand p l e R s m args below meth c T locs cells slots) (hx : p.tables.exec = Jvm.exec) {pc : Nat} {Ls : Array Slot} {z : Int32} {rest : List Value} (hret : meth.sig.returnType = some .int) (hd : decode c.code pc = .ok (.ireturn, 1)) {fs : List Frame}
    (hl : ∀ (f : JFrame) (acts : List Action), f.method = m → f.locked = none → f.entered = [] → (doReturn e (T.setTop f) acts (some (.int z))).1 = T.setFrames fs) : Steps p.tables e below (T.setTop (mkF m pc Ls (.int z :: rest))) (T.setFrames fs) := by
  have hm' : T.vm.method? m = some meth := X.method'
  have hn : narrow .int (.int z) = .int z := rfl
  show Steps p.tables e below (T.setTop { method := m, pc := pc, locals := Ls, stack := _ :: rest, locked := none }) _
  jvm_step X.here [X.here.top, hx, hd, hm', hret, hn]
  first | (intro acts; rw [hl _ acts rfl rfl rfl]) | rw [hl _ _ rfl rfl rfl]
  exact Steps.refl _
end New
end Jvm.RoadKit
namespace Jvm.Pilot.@@N@@
open Jvm Jvm.ClassFile Sem Op Lib Jvm.Free Jvm.Stand Jvm.LawKit Jvm.RoadKit Bundle Jvm.Pilot.@@N@@.Jvm.D
theorem tk {L : List Jvm.Cond} {d : Jvm.Cond} (i : Nat) (h : L[i]? = some d) : d ∈ L := List.mem_of_getElem? h
/-! own small facts: what the case says of a pinned static's field -/
theorem own_fld {args : Array Value} {s : State} {t : Term} {C n d : String} {w : Addr} {k : Int32} (ht : t.eval args s none [] s = some (.ref w)) (h : (Cond.eq (.field t C n d) (.int k)).value args s none s [] = some true) : Fld s s.heap w C n d (.int k) := by
  obtain ⟨x, y, hx, hy, -, kin⟩ := cmp_v (Or.inl h)
  obtain rfl : Value.int k = y := Option.some.inj hy
  obtain ⟨z, rfl⟩ := kin
  have e : z = k := by simpa [Cond.value, hx, hy] using h
  subst e
  exact Fld.start ((fld_at ht).symm.trans hx)
theorem own_fldN {args : Array Value} {s : State} {t : Term} {C n d : String} {w : Addr} (ht : t.eval args s none [] s = some (.ref w)) (h : (Cond.eq (.field t C n d) .null).value args s none s [] = some true) : Fld s s.heap w C n d .null :=
  Fld.start ((fld_at ht).symm.trans (null_v h))
theorem own_nsroot {Z : State} {a0 : Array Value} {O K : String} {n : Nat} (w : (Cond.noSuperclass O).before a0 Z = true) (wk : (Cond.instantiable K n).before a0 Z = true) (hn : O ≠ K) : NS Z O K := by
  obtain ⟨c, k, h1, h2, h3, -, -⟩ := Cond.noSuperclass_spec w
  obtain ⟨t, -, g1, -⟩ := Cond.instantiable_spec wk
  have ne := ids_ne h1 g1 hn
  refine ⟨c, t, h1, g1, fun fuel => ?_⟩
  cases fuel with
  | zero => rfl
  | succ f => simp [Vm.isSubclassAux, ne, h2, h3]
theorem own_nsno {Z : State} {a0 : Array Value} {C S K : String} {n : Nat} (w : (Cond.superclass C S).before a0 Z = true) (wk : (Cond.instantiable K n).before a0 Z = true) (ns : NS Z C K) (hn : C ≠ K) : ∃ c t, Z.vm.findClass C = some c ∧ Z.vm.findClass K = some t ∧ Z.vm.assignable c t = false := by
  obtain ⟨c, t, h0, g0, n3⟩ := ns
  obtain ⟨p, k, kp, h1, h2, h3, h4, h5, -, h7⟩ := Cond.superclass_spec h0 w
  obtain ⟨t', k', g1, g2, g3, g4, -⟩ := Cond.instantiable_spec wk
  cases g0.symm.trans g1
  have ne := ids_ne h0 g0 hn
  have g5 : k'.isInterface = false := (Bool.or_eq_false_iff.mp g4).1
  refine ⟨c, t, h0, g0, ?_⟩
  show Z.vm.assignableAux (255 + 1) c t = false
  simp [Vm.assignableAux, ne, h2, g2, h5, g3, g5, Vm.isSubclass, n3]
theorem own_nar {v : Value} {C : String} (h : v.isRef = true) : narrow (.object C) v = v := by rcases ref_cases h with rfl | ⟨a, rfl⟩ <;> rfl
theorem own_fit {v : Value} {C : String} (h : v.isRef = true) : fits (.object C) v = true := by rcases ref_cases h with rfl | ⟨a, rfl⟩ <;> rfl
theorem own_refof {v : Value} (h : v.isRef = true) (n : ¬ v = .null) : ∃ a, v = .ref a := (ref_cases h).elim (fun q => absurd q n) id
theorem own_sint {args : Array Value} {s : State} {t : Term} {k : Int32} (h : (Cond.eq t (.int k)).value args s none s [] = some true) : t.eval args s none [] s = some (.int k) := by
  obtain ⟨x, y, hx, hy, -, kin⟩ := cmp_v (Or.inl h)
  obtain rfl : Value.int k = y := Option.some.inj hy
  obtain ⟨z, rfl⟩ := kin
  have e : z = k := by simpa [Cond.value, hx, hy] using h
  subst e; exact hx
theorem own_snot {args : Array Value} {s : State} {t : Term} {k z : Int32} (ht : t.eval args s none [] s = some (.int z)) (h : (Cond.not (Cond.eq t (.int k))).value args s none s [] = some true) : ¬ z = k := by
  have := not_v h
  intro e
  subst e
  simp [Cond.value, ht, Term.eval] at this
theorem own_seq {args : Array Value} {s : State} {t u : Term} {a b : Addr} (ht : t.eval args s none [] s = some (.ref a)) (hu : u.eval args s none [] s = some (.ref b)) (h : (Cond.eq t u).value args s none s [] = some true) : b = a := by
  have e : a = b := by simpa [Cond.value, ht, hu] using h
  exact e.symm
theorem own_len {args : Array Value} {s : State} {t : Term} {a : Addr} {c : Cell} {ty : FieldType} {n : Int32} (ht : t.eval args s none [] s = some (.ref a)) (A : Arr s s.heap a c ty) (h : (Cond.eq (.length t) (.int n)).value args s none s [] = some true) : c.slots.size < 2 ^ 31 ∧ c.slots.size.toInt32 = n := by
  have e0 := own_sint h
  have hfin := A.fin (Vm.Alike.refl _)
  by_cases hl : c.slots.size < 2 ^ 31
  · rw [len_f ht hfin hl] at e0
    exact ⟨hl, Value.int.inj (Option.some.inj e0)⟩
  · exfalso
    simp [Term.eval, ht, hfin, hl] at e0
theorem own_elem {args : Array Value} {s : State} {t u : Term} {a w : Addr} {c : Cell} {i : Int32} (ht : t.eval args s none [] s = some (.ref a)) (hc : s.heap[a]? = some c) (hu : u.eval args s none [] s = some (.ref w)) (h : (Cond.eq (.elem t (.int i)) u).value args s none s [] = some true) : c.slots[i.toNatClampNeg]? = some (.ref w) := by
  obtain ⟨x, y, hx, hy, k1, k2⟩ := cmp_v (Or.inl h)
  obtain rfl : Value.ref w = y := Option.some.inj (hu.symm.trans hy)
  have e := gotT (eq_R hx hu k2.2 rfl) h
  rw [e] at hx
  exact (elem_in hx ht (Term.int_eval i) hc).2
theorem own_ldcF {p : Program} {l : Launch} {e : Env} {R : Room} {s : State} {m : MethodId} {args : Array Value} {below : List Frame} {meth : Method} {c : Code} {T : State} {locs : List Loc} {cells slots : Nat}
    (X : Stand p l e R s m args below meth c T locs cells slots) (hx : p.tables.exec = Jvm.exec) {own : String} {index : Nat} {b : UInt32} (hown : s.vm.findClass own = some m.cls) (w : (Cond.constantFloat own index b).before args s = true) {g : JFrame} (hg : g.method = m) (hd : decode c.code g.pc = .ok (.ldc index, 2)) :
    ∀ target, Steps p.tables e below (T.setTop { g with pc := g.pc + 2, stack := .float b :: g.stack }) target → Steps p.tables e below (T.setTop g) target := by
  obtain ⟨k, cf, h1, h2, h3⟩ := Cond.constantFloat_spec hown w
  exact X.ldcFloat hx h1 h2 h3 hg hd
theorem own_old {Z : State} {n0 : Nat} {h : Heap} (O : Old Z n0 h) : n0 ≤ h.size := O.1 ▸ O.2.1
theorem own_rand (x m : Int32) (n : Int) (h0 : 0 ≤ m.toInt) (h1 : m.toInt < n) : 0 ≤ (x &&& m).toInt ∧ (x &&& m).toInt < n := by
  have := c_and x m h0; omega
theorem own_rrem (x y : Int32) (n : Int) (h0 : 0 ≤ x.toInt) (hy : y.toInt = n) (hn : 0 < n) : 0 ≤ (x % y).toInt ∧ (x % y).toInt < n := by
  rw [(c_irem x y n hy).1 h0]; exact ⟨Int.emod_nonneg _ (by omega), Int.emod_lt_of_pos _ hn⟩
theorem own_rshr (x q : Int32) (k : Nat) (m : Int) {n : Int} (r : 0 ≤ x.toInt ∧ x.toInt < n) (hk : q.toBitVec.toNat % 32 = k) (hm : (n - 1) / ((2 ^ k : Nat) : Int) < m) : 0 ≤ (x >>> (q &&& 31)).toInt ∧ (x >>> (q &&& 31)).toInt < m := by
  rw [c_ishr x q k hk]
  have hp : (0 : Int) < ((2 ^ k : Nat) : Int) := by exact_mod_cast Nat.two_pow_pos k
  exact ⟨Int.ediv_nonneg r.1 (Int.le_of_lt hp), Int.lt_of_le_of_lt (Int.ediv_le_ediv hp (by omega)) hm⟩
theorem own_off {e c : Int32} {n : Int} (r : 0 ≤ e.toInt ∧ e.toInt < n) (h : decide (n ≤ c.toInt ∨ c.toInt < 0) = true) : ¬ e = c := fun z => by
  subst z
  have := of_decide_eq_true h
  omega
theorem own_below {e c : Int32} {n : Int} (r : 0 ≤ e.toInt ∧ e.toInt < n) (h : n ≤ c.toInt) : e < c := by rw [Int32.lt_iff_toInt_lt]; omega
theorem own_notbelow {e c : Int32} {n : Int} (r : 0 ≤ e.toInt ∧ e.toInt < n) (h : c.toInt ≤ 0) : ¬ e < c := by rw [Int32.lt_iff_toInt_lt]; omega
theorem own_notabove {e c : Int32} {n : Int} (r : 0 ≤ e.toInt ∧ e.toInt < n) (h : n - 1 ≤ c.toInt) : ¬ c < e := by rw [Int32.lt_iff_toInt_lt]; omega
theorem own_above {e c : Int32} {n : Int} (r : 0 ≤ e.toInt ∧ e.toInt < n) (h : c.toInt < 0) : c < e := by rw [Int32.lt_iff_toInt_lt]; omega
theorem own_lt {a b : Int32} {n : Int} (h : a < b) (e : b.toInt = n) : a.toInt < n := by rw [← e]; exact Int32.lt_iff_toInt_lt.mp h
theorem own_ne {a b : Int32} {n : Int} (h : ¬ a = b) (e : b.toInt = n) : a.toInt ≠ n := fun z => h (Int32.toInt_inj.mp (z.trans e.symm))
theorem own_eq {a b : Int32} {n : Int} (e : b.toInt = n) (h : a.toInt = n) : a = b := Int32.toInt_inj.mp (h.trans e.symm)
abbrev Y0 : MethodName := (⟨"com/example/waystone/waystone/hessian/ChunkCodes", "isMedium", "(I)Z"⟩ : MethodName)
abbrev Y1 : MethodName := (⟨"com/example/waystone/waystone/hessian/ChunkCodesIsMediumPinLaw", "ref", "(II)Z"⟩ : MethodName)

def StF (Z : State) (w_1 : Addr) (w_2 : Addr) : Prop :=
  Sta Z Z.heap "com/example/waystone/waystone/hessian/ChunkCodes" "STRING" "Lcom/example/waystone/waystone/hessian/ChunkCodes;" (.ref w_1) ∧
  Exa Z Z.heap w_1 "com/example/waystone/waystone/hessian/ChunkCodes" ∧
  Sta Z Z.heap "com/example/waystone/waystone/hessian/ChunkCodes" "BINARY" "Lcom/example/waystone/waystone/hessian/ChunkCodes;" (.ref w_2) ∧
  Exa Z Z.heap w_2 "com/example/waystone/waystone/hessian/ChunkCodes" ∧
  Fld Z Z.heap w_1 "com/example/waystone/waystone/hessian/ChunkCodes" "medium" "I" (.int (48 : Int32)) ∧
  Fld Z Z.heap w_2 "com/example/waystone/waystone/hessian/ChunkCodes" "medium" "I" (.int (52 : Int32))
theorem d1_0 : decode prog_16_method_5_code 0 = .ok (.aload_n 0, 1) := by decide +kernel
theorem d1_1 : decode prog_16_method_5_code 1 = .ok (.getfield 42, 3) := by decide +kernel
theorem d1_4 : decode prog_16_method_5_code 4 = .ok (.iload_n 1, 1) := by decide +kernel
theorem d1_5 : decode prog_16_method_5_code 5 = .ok (.if_icmp .gt 17, 3) := by decide +kernel
theorem d1_22 : decode prog_16_method_5_code 22 = .ok (.iconst 0, 1) := by decide +kernel
theorem d1_23 : decode prog_16_method_5_code 23 = .ok (.ireturn, 1) := by decide +kernel
theorem d1_8 : decode prog_16_method_5_code 8 = .ok (.iload_n 1, 1) := by decide +kernel
theorem d1_9 : decode prog_16_method_5_code 9 = .ok (.aload_n 0, 1) := by decide +kernel
theorem d1_10 : decode prog_16_method_5_code 10 = .ok (.getfield 42, 3) := by decide +kernel
theorem d1_13 : decode prog_16_method_5_code 13 = .ok (.iconst 3, 1) := by decide +kernel
theorem d1_14 : decode prog_16_method_5_code 14 = .ok (.iadd, 1) := by decide +kernel
theorem d1_15 : decode prog_16_method_5_code 15 = .ok (.if_icmp .gt 7, 3) := by decide +kernel
theorem d1_18 : decode prog_16_method_5_code 18 = .ok (.iconst 1, 1) := by decide +kernel
theorem d1_19 : decode prog_16_method_5_code 19 = .ok (.goto 4, 3) := by decide +kernel
theorem pn_1 : plainName "com/example/waystone/waystone/hessian/ChunkCodes" = true := by first | (simp [plainName, overriddenIn]; done) | decide +kernel
theorem ef_1 (m : MethodId) (r0 : Addr) (p1 : Int32) : entryFrame m #[(.ref r0), (.int p1)] 2 = mkF m 0 #[.val (.ref r0), .val (.int p1)] [] := by first | (simp [entryFrame, mkF, argsToLocals, Value.category]; done) | rfl
def sp1 (p1 : Int32) (f_medium_r0 : Int32) : Int32 := (if p1 < f_medium_r0 then (0 : Int32) else (if (f_medium_r0 + (3 : Int32)) < p1 then (0 : Int32) else (1 : Int32)))
def Q1 (Z : State) (w_1 : Addr) (w_2 : Addr) (r0 : Addr) (p1 : Int32) (f_medium_r0 : Int32) (h0 : Heap) (n0 : Nat) (v : Option Value) (h : Heap) (L : List Loc) : Prop := v = some (.int (sp1 p1 f_medium_r0)) ∧ Fr n0 L ∧ h = h0
set_option maxRecDepth 65536 in
set_option maxHeartbeats 40000000 in
theorem rm1 (l : Launch) (Z : State) (a0 : Array Value) (hw : ∀ d ∈ tables_1, d.before a0 Z = true) (ws : List Jvm.Cond) (w_1 : Addr) (w_2 : Addr) (hS : StF Z w_1 w_2) (r0 : Addr) (p1 : Int32) (f_medium_r0 : Int32) (h0 : Heap) (n0 : Nat) (O0 : Old Z n0 h0) (F_medium_r0 : Fld Z h0 r0 "com/example/waystone/waystone/hessian/ChunkCodes" "medium" "I" (.int f_medium_r0)) :
    MetFree l Y0 (head1 (Jvm.Cond.code Y0 prog_16_method_5_code 2 (some .boolean) :: ws) ({ frames := 0, cells := 0, slots := 0, locals := 0 } : Room)) (fun a U => a = #[(.ref r0), (.int p1)] ∧ Z.Warmed39 U.vm ∧ U.heap = h0) (fun _ _ _ _ _ => True) (fun _ U o U' => ∃ v L, o = .returned v ∧ Q1 Z w_1 w_2 r0 p1 f_medium_r0 h0 n0 v U'.heap L ∧ FrameEnd U o U' L ({ frames := 0, cells := 0, slots := 0, locals := 0 } : Room).cells ({ frames := 0, cells := 0, slots := 0, locals := 0 } : Room).slots) := by
  refine MetFree.of_bodySF (plainFor_of_name pn_1) hisR ?_
  intro p e s m args below meth c s₁ Bd hml0 hP hK
  obtain ⟨rfl, hZ, hh⟩ := hP
  have hx := Bd.exec
  have hby := Bd.bytes
  have hml : c.maxLocals = 2 := hml0
  have hown : s.vm.findClass "com/example/waystone/waystone/hessian/ChunkCodes" = some m.cls := findClass_of_methodNamed Bd.named
  have hnm := (name_of_methodNamed Bd.named Bd.method).1
  have X0 : Stand p l e ({ frames := 0, cells := 0, slots := 0, locals := 0 } : Room) s m #[(.ref r0), (.int p1)] below meth c s₁ [] 0 0 := Stand.of_body Bd
  have e0 : s₁.heap = h0 := by rw [← hh, Bd.state]; rfl
  have N0 := Fr.nil n0
  have hS0 := hS
  obtain ⟨S_1, E_1, S_2, E_2, F_1_medium, F_2_medium⟩ := hS
  have pre0 : ∀ t, Steps p.tables e below (s₁.setTop (mkF m 0 #[.val (.ref r0), .val (.int p1)] [])) t → Steps p.tables e below (s₁.setTop (entryFrame m #[(.ref r0), (.int p1)] 2)) t := fun t k => castTop (ef_1 m r0 p1) k
  obtain ⟨T10, X10, e10, st10⟩ := getF X0 hx hZ hown (host := "") (Or.inl (hw _ (tk 8 rfl))) Via.refl e0 F_medium_r0 (g := (mkF m 1 #[.val (.ref r0), .val (.int p1)] [(.ref r0)])) rfl rfl (hb hby d1_1)
  have pre11 : ∀ t, Steps p.tables e below (T10.setTop (mkF m 5 #[.val (.ref r0), .val (.int p1)] [(.int p1), (.int f_medium_r0)])) t → Steps p.tables e below (s₁.setTop (entryFrame m #[(.ref r0), (.int p1)] 2)) t := fun t kt => by
    refine pre0 t ?_
    show Steps p.tables e below (s₁.setTop (mkF m 0 #[.val (.ref r0), .val (.int p1)] [])) _
    refine XS.aloadN X0.here hx rfl (hb hby d1_0) rfl rfl ?_
    show Steps p.tables e below (s₁.setTop (mkF m 1 #[.val (.ref r0), .val (.int p1)] [(.ref r0)])) _
    refine st10 _ ?_
    show Steps p.tables e below (T10.setTop (mkF m 4 #[.val (.ref r0), .val (.int p1)] [(.int f_medium_r0)])) _
    refine XS.iloadN X10.here hx rfl (hb hby d1_4) rfl ?_
    show Steps p.tables e below (T10.setTop (mkF m 5 #[.val (.ref r0), .val (.int p1)] [(.int p1), (.int f_medium_r0)])) _
    exact kt
  by_cases hc12 : p1 < f_medium_r0
  · obtain ⟨fs, hr, hrun, hended, hW, hsame⟩ := X10.leave (v := some (.int (0 : Int32))) (fun h => by rw [Bd.returns] at h; cases h)
    refine ⟨_, _, pre11 _ ?_, hrun, hended, _, _, rfl, ?_, ⟨_, rfl⟩, hW, hsame.mono (by decide) (by decide)⟩
    · show Steps p.tables e below (T10.setTop (mkF m 5 #[.val (.ref r0), .val (.int p1)] [(.int p1), (.int f_medium_r0)])) _
      refine XS.icmpYes X10.here hx rfl (pc0 := 5) (pc' := 22) rfl (hb hby d1_5) rfl (tlt hc12).2.2.1 (by decide) (by decide) ?_
      show Steps p.tables e below (T10.setTop (mkF m 22 #[.val (.ref r0), .val (.int p1)] [])) _
      refine XS.iconst X10.here hx rfl (hb hby d1_22) ?_
      show Steps p.tables e below (T10.setTop (mkF m 23 #[.val (.ref r0), .val (.int p1)] [(.int (0 : Int32))])) _
      exact retN X10 hx (t := .boolean) Bd.returns (by simp) (hb hby d1_23) hr
    · show Q1 Z w_1 w_2 r0 p1 f_medium_r0 h0 n0 _ T10.heap _
      rw [e10]
      exact ⟨by unfold sp1; rw [if_pos hc12], N0, rfl⟩
  · obtain ⟨T13, X13, e13, st13⟩ := getF X10 hx hZ hown (host := "") (Or.inl (hw _ (tk 8 rfl))) Via.refl e10 F_medium_r0 (g := (mkF m 10 #[.val (.ref r0), .val (.int p1)] [(.ref r0), (.int p1)])) rfl rfl (hb hby d1_10)
    have pre14 : ∀ t, Steps p.tables e below (T13.setTop (mkF m 15 #[.val (.ref r0), .val (.int p1)] [(.int (f_medium_r0 + (3 : Int32))), (.int p1)])) t → Steps p.tables e below (s₁.setTop (entryFrame m #[(.ref r0), (.int p1)] 2)) t := fun t kt => by
      refine pre11 t ?_
      show Steps p.tables e below (T10.setTop (mkF m 5 #[.val (.ref r0), .val (.int p1)] [(.int p1), (.int f_medium_r0)])) _
      refine XS.icmpNo X10.here hx rfl (hb hby d1_5) rfl (flt hc12).2.2.1 ?_
      show Steps p.tables e below (T10.setTop (mkF m 8 #[.val (.ref r0), .val (.int p1)] [])) _
      refine XS.iloadN X10.here hx rfl (hb hby d1_8) rfl ?_
      show Steps p.tables e below (T10.setTop (mkF m 9 #[.val (.ref r0), .val (.int p1)] [(.int p1)])) _
      refine XS.aloadN X10.here hx rfl (hb hby d1_9) rfl rfl ?_
      show Steps p.tables e below (T10.setTop (mkF m 10 #[.val (.ref r0), .val (.int p1)] [(.ref r0), (.int p1)])) _
      refine st13 _ ?_
      show Steps p.tables e below (T13.setTop (mkF m 13 #[.val (.ref r0), .val (.int p1)] [(.int f_medium_r0), (.int p1)])) _
      refine XS.iconst X13.here hx rfl (hb hby d1_13) ?_
      show Steps p.tables e below (T13.setTop (mkF m 14 #[.val (.ref r0), .val (.int p1)] [(.int (3 : Int32)), (.int f_medium_r0), (.int p1)])) _
      refine XS.iadd X13.here hx rfl (hb hby d1_14) rfl ?_
      show Steps p.tables e below (T13.setTop (mkF m 15 #[.val (.ref r0), .val (.int p1)] [(.int (f_medium_r0 + (3 : Int32))), (.int p1)])) _
      exact kt
    by_cases hc15 : (f_medium_r0 + (3 : Int32)) < p1
    · obtain ⟨fs, hr, hrun, hended, hW, hsame⟩ := X13.leave (v := some (.int (0 : Int32))) (fun h => by rw [Bd.returns] at h; cases h)
      refine ⟨_, _, pre14 _ ?_, hrun, hended, _, _, rfl, ?_, ⟨_, rfl⟩, hW, hsame.mono (by decide) (by decide)⟩
      · show Steps p.tables e below (T13.setTop (mkF m 15 #[.val (.ref r0), .val (.int p1)] [(.int (f_medium_r0 + (3 : Int32))), (.int p1)])) _
        refine XS.icmpYes X13.here hx rfl (pc0 := 15) (pc' := 22) rfl (hb hby d1_15) rfl (tlt hc15).2.2.1 (by decide) (by decide) ?_
        show Steps p.tables e below (T13.setTop (mkF m 22 #[.val (.ref r0), .val (.int p1)] [])) _
        refine XS.iconst X13.here hx rfl (hb hby d1_22) ?_
        show Steps p.tables e below (T13.setTop (mkF m 23 #[.val (.ref r0), .val (.int p1)] [(.int (0 : Int32))])) _
        exact retN X13 hx (t := .boolean) Bd.returns (by simp) (hb hby d1_23) hr
      · show Q1 Z w_1 w_2 r0 p1 f_medium_r0 h0 n0 _ T13.heap _
        rw [e13]
        exact ⟨by unfold sp1; rw [if_neg hc12, if_pos hc15], N0, rfl⟩
    · obtain ⟨fs, hr, hrun, hended, hW, hsame⟩ := X13.leave (v := some (.int (1 : Int32))) (fun h => by rw [Bd.returns] at h; cases h)
      refine ⟨_, _, pre14 _ ?_, hrun, hended, _, _, rfl, ?_, ⟨_, rfl⟩, hW, hsame.mono (by decide) (by decide)⟩
      · show Steps p.tables e below (T13.setTop (mkF m 15 #[.val (.ref r0), .val (.int p1)] [(.int (f_medium_r0 + (3 : Int32))), (.int p1)])) _
        refine XS.icmpNo X13.here hx rfl (hb hby d1_15) rfl (flt hc15).2.2.1 ?_
        show Steps p.tables e below (T13.setTop (mkF m 18 #[.val (.ref r0), .val (.int p1)] [])) _
        refine XS.iconst X13.here hx rfl (hb hby d1_18) ?_
        show Steps p.tables e below (T13.setTop (mkF m 19 #[.val (.ref r0), .val (.int p1)] [(.int (1 : Int32))])) _
        refine XS.goto X13.here hx rfl (pc0 := 19) (pc' := 23) rfl (hb hby d1_19) (by decide) (by decide) ?_
        show Steps p.tables e below (T13.setTop (mkF m 23 #[.val (.ref r0), .val (.int p1)] [(.int (1 : Int32))])) _
        exact retN X13 hx (t := .boolean) Bd.returns (by simp) (hb hby d1_23) hr
      · show Q1 Z w_1 w_2 r0 p1 f_medium_r0 h0 n0 _ T13.heap _
        rw [e13]
        exact ⟨by unfold sp1; rw [if_neg hc12, if_neg hc15], N0, rfl⟩
theorem d2_0 : decode method_3_code 0 = .ok (.iload_n 1, 1) := by decide +kernel
theorem d2_1 : decode method_3_code 1 = .ok (.iload_n 0, 1) := by decide +kernel
theorem d2_2 : decode method_3_code 2 = .ok (.if_icmp .eq 24, 3) := by decide +kernel
theorem d2_26 : decode method_3_code 26 = .ok (.iconst 1, 1) := by decide +kernel
theorem d2_27 : decode method_3_code 27 = .ok (.goto 4, 3) := by decide +kernel
theorem d2_31 : decode method_3_code 31 = .ok (.ireturn, 1) := by decide +kernel
theorem d2_5 : decode method_3_code 5 = .ok (.iload_n 1, 1) := by decide +kernel
theorem d2_6 : decode method_3_code 6 = .ok (.iload_n 0, 1) := by decide +kernel
theorem d2_7 : decode method_3_code 7 = .ok (.iconst 1, 1) := by decide +kernel
theorem d2_8 : decode method_3_code 8 = .ok (.iadd, 1) := by decide +kernel
theorem d2_9 : decode method_3_code 9 = .ok (.if_icmp .eq 17, 3) := by decide +kernel
theorem d2_12 : decode method_3_code 12 = .ok (.iload_n 1, 1) := by decide +kernel
theorem d2_13 : decode method_3_code 13 = .ok (.iload_n 0, 1) := by decide +kernel
theorem d2_14 : decode method_3_code 14 = .ok (.iconst 2, 1) := by decide +kernel
theorem d2_15 : decode method_3_code 15 = .ok (.iadd, 1) := by decide +kernel
theorem d2_16 : decode method_3_code 16 = .ok (.if_icmp .eq 10, 3) := by decide +kernel
theorem d2_19 : decode method_3_code 19 = .ok (.iload_n 1, 1) := by decide +kernel
theorem d2_20 : decode method_3_code 20 = .ok (.iload_n 0, 1) := by decide +kernel
theorem d2_21 : decode method_3_code 21 = .ok (.iconst 3, 1) := by decide +kernel
theorem d2_22 : decode method_3_code 22 = .ok (.iadd, 1) := by decide +kernel
theorem d2_23 : decode method_3_code 23 = .ok (.if_icmp .ne 7, 3) := by decide +kernel
theorem d2_30 : decode method_3_code 30 = .ok (.iconst 0, 1) := by decide +kernel
theorem pn_2 : plainName "com/example/waystone/waystone/hessian/ChunkCodesIsMediumPinLaw" = true := by first | (simp [plainName, overriddenIn]; done) | decide +kernel
theorem ef_2 (m : MethodId) (p0 : Int32) (p1 : Int32) : entryFrame m #[(.int p0), (.int p1)] 2 = mkF m 0 #[.val (.int p0), .val (.int p1)] [] := by first | (simp [entryFrame, mkF, argsToLocals, Value.category]; done) | rfl
def sp2 (p0 : Int32) (p1 : Int32) : Int32 := (if p1 = p0 then (1 : Int32) else (if p1 = (p0 + (1 : Int32)) then (1 : Int32) else (if p1 = (p0 + (2 : Int32)) then (1 : Int32) else (if p1 = (p0 + (3 : Int32)) then (1 : Int32) else (0 : Int32)))))
def Q2 (Z : State) (w_1 : Addr) (w_2 : Addr) (p0 : Int32) (p1 : Int32) (h0 : Heap) (n0 : Nat) (v : Option Value) (h : Heap) (L : List Loc) : Prop := v = some (.int (sp2 p0 p1)) ∧ Fr n0 L ∧ h = h0
set_option maxRecDepth 65536 in
set_option maxHeartbeats 40000000 in
theorem rm2 (l : Launch) (Z : State) (a0 : Array Value) (hw : ∀ d ∈ tables_1, d.before a0 Z = true) (ws : List Jvm.Cond) (w_1 : Addr) (w_2 : Addr) (hS : StF Z w_1 w_2) (p0 : Int32) (p1 : Int32) (h0 : Heap) (n0 : Nat) (O0 : Old Z n0 h0) :
    MetFree l Y1 (head1 (Jvm.Cond.code Y1 method_3_code 2 (some .boolean) :: ws) ({ frames := 0, cells := 0, slots := 0, locals := 0 } : Room)) (fun a U => a = #[(.int p0), (.int p1)] ∧ Z.Warmed39 U.vm ∧ U.heap = h0) (fun _ _ _ _ _ => True) (fun _ U o U' => ∃ v L, o = .returned v ∧ Q2 Z w_1 w_2 p0 p1 h0 n0 v U'.heap L ∧ FrameEnd U o U' L ({ frames := 0, cells := 0, slots := 0, locals := 0 } : Room).cells ({ frames := 0, cells := 0, slots := 0, locals := 0 } : Room).slots) := by
  refine MetFree.of_bodySF (plainFor_of_name pn_2) hisR ?_
  intro p e s m args below meth c s₁ Bd hml0 hP hK
  obtain ⟨rfl, hZ, hh⟩ := hP
  have hx := Bd.exec
  have hby := Bd.bytes
  have hml : c.maxLocals = 2 := hml0
  have hown : s.vm.findClass "com/example/waystone/waystone/hessian/ChunkCodesIsMediumPinLaw" = some m.cls := findClass_of_methodNamed Bd.named
  have hnm := (name_of_methodNamed Bd.named Bd.method).1
  have X0 : Stand p l e ({ frames := 0, cells := 0, slots := 0, locals := 0 } : Room) s m #[(.int p0), (.int p1)] below meth c s₁ [] 0 0 := Stand.of_body Bd
  have e0 : s₁.heap = h0 := by rw [← hh, Bd.state]; rfl
  have N0 := Fr.nil n0
  have hS0 := hS
  obtain ⟨S_1, E_1, S_2, E_2, F_1_medium, F_2_medium⟩ := hS
  have pre0 : ∀ t, Steps p.tables e below (s₁.setTop (mkF m 0 #[.val (.int p0), .val (.int p1)] [])) t → Steps p.tables e below (s₁.setTop (entryFrame m #[(.int p0), (.int p1)] 2)) t := fun t k => castTop (ef_2 m p0 p1) k
  have pre17 : ∀ t, Steps p.tables e below (s₁.setTop (mkF m 2 #[.val (.int p0), .val (.int p1)] [(.int p0), (.int p1)])) t → Steps p.tables e below (s₁.setTop (entryFrame m #[(.int p0), (.int p1)] 2)) t := fun t kt => by
    refine pre0 t ?_
    show Steps p.tables e below (s₁.setTop (mkF m 0 #[.val (.int p0), .val (.int p1)] [])) _
    refine XS.iloadN X0.here hx rfl (hb hby d2_0) rfl ?_
    show Steps p.tables e below (s₁.setTop (mkF m 1 #[.val (.int p0), .val (.int p1)] [(.int p1)])) _
    refine XS.iloadN X0.here hx rfl (hb hby d2_1) rfl ?_
    show Steps p.tables e below (s₁.setTop (mkF m 2 #[.val (.int p0), .val (.int p1)] [(.int p0), (.int p1)])) _
    exact kt
  by_cases hc18 : p1 = p0
  · obtain ⟨fs, hr, hrun, hended, hW, hsame⟩ := X0.leave (v := some (.int (1 : Int32))) (fun h => by rw [Bd.returns] at h; cases h)
    refine ⟨_, _, pre17 _ ?_, hrun, hended, _, _, rfl, ?_, ⟨_, rfl⟩, hW, hsame.mono (by decide) (by decide)⟩
    · show Steps p.tables e below (s₁.setTop (mkF m 2 #[.val (.int p0), .val (.int p1)] [(.int p0), (.int p1)])) _
      refine XS.icmpYes X0.here hx rfl (pc0 := 2) (pc' := 26) rfl (hb hby d2_2) rfl (teq hc18).1 (by decide) (by decide) ?_
      show Steps p.tables e below (s₁.setTop (mkF m 26 #[.val (.int p0), .val (.int p1)] [])) _
      refine XS.iconst X0.here hx rfl (hb hby d2_26) ?_
      show Steps p.tables e below (s₁.setTop (mkF m 27 #[.val (.int p0), .val (.int p1)] [(.int (1 : Int32))])) _
      refine XS.goto X0.here hx rfl (pc0 := 27) (pc' := 31) rfl (hb hby d2_27) (by decide) (by decide) ?_
      show Steps p.tables e below (s₁.setTop (mkF m 31 #[.val (.int p0), .val (.int p1)] [(.int (1 : Int32))])) _
      exact retN X0 hx (t := .boolean) Bd.returns (by simp) (hb hby d2_31) hr
    · show Q2 Z w_1 w_2 p0 p1 h0 n0 _ s₁.heap _
      rw [e0]
      exact ⟨by unfold sp2; rw [if_pos hc18], N0, rfl⟩
  · have pre19 : ∀ t, Steps p.tables e below (s₁.setTop (mkF m 9 #[.val (.int p0), .val (.int p1)] [(.int (p0 + (1 : Int32))), (.int p1)])) t → Steps p.tables e below (s₁.setTop (entryFrame m #[(.int p0), (.int p1)] 2)) t := fun t kt => by
      refine pre17 t ?_
      show Steps p.tables e below (s₁.setTop (mkF m 2 #[.val (.int p0), .val (.int p1)] [(.int p0), (.int p1)])) _
      refine XS.icmpNo X0.here hx rfl (hb hby d2_2) rfl (feq hc18).1 ?_
      show Steps p.tables e below (s₁.setTop (mkF m 5 #[.val (.int p0), .val (.int p1)] [])) _
      refine XS.iloadN X0.here hx rfl (hb hby d2_5) rfl ?_
      show Steps p.tables e below (s₁.setTop (mkF m 6 #[.val (.int p0), .val (.int p1)] [(.int p1)])) _
      refine XS.iloadN X0.here hx rfl (hb hby d2_6) rfl ?_
      show Steps p.tables e below (s₁.setTop (mkF m 7 #[.val (.int p0), .val (.int p1)] [(.int p0), (.int p1)])) _
      refine XS.iconst X0.here hx rfl (hb hby d2_7) ?_
      show Steps p.tables e below (s₁.setTop (mkF m 8 #[.val (.int p0), .val (.int p1)] [(.int (1 : Int32)), (.int p0), (.int p1)])) _
      refine XS.iadd X0.here hx rfl (hb hby d2_8) rfl ?_
      show Steps p.tables e below (s₁.setTop (mkF m 9 #[.val (.int p0), .val (.int p1)] [(.int (p0 + (1 : Int32))), (.int p1)])) _
      exact kt
    by_cases hc20 : p1 = (p0 + (1 : Int32))
    · obtain ⟨fs, hr, hrun, hended, hW, hsame⟩ := X0.leave (v := some (.int (1 : Int32))) (fun h => by rw [Bd.returns] at h; cases h)
      refine ⟨_, _, pre19 _ ?_, hrun, hended, _, _, rfl, ?_, ⟨_, rfl⟩, hW, hsame.mono (by decide) (by decide)⟩
      · show Steps p.tables e below (s₁.setTop (mkF m 9 #[.val (.int p0), .val (.int p1)] [(.int (p0 + (1 : Int32))), (.int p1)])) _
        refine XS.icmpYes X0.here hx rfl (pc0 := 9) (pc' := 26) rfl (hb hby d2_9) rfl (teq hc20).1 (by decide) (by decide) ?_
        show Steps p.tables e below (s₁.setTop (mkF m 26 #[.val (.int p0), .val (.int p1)] [])) _
        refine XS.iconst X0.here hx rfl (hb hby d2_26) ?_
        show Steps p.tables e below (s₁.setTop (mkF m 27 #[.val (.int p0), .val (.int p1)] [(.int (1 : Int32))])) _
        refine XS.goto X0.here hx rfl (pc0 := 27) (pc' := 31) rfl (hb hby d2_27) (by decide) (by decide) ?_
        show Steps p.tables e below (s₁.setTop (mkF m 31 #[.val (.int p0), .val (.int p1)] [(.int (1 : Int32))])) _
        exact retN X0 hx (t := .boolean) Bd.returns (by simp) (hb hby d2_31) hr
      · show Q2 Z w_1 w_2 p0 p1 h0 n0 _ s₁.heap _
        rw [e0]
        exact ⟨by unfold sp2; rw [if_neg hc18, if_pos hc20], N0, rfl⟩
    · have pre21 : ∀ t, Steps p.tables e below (s₁.setTop (mkF m 16 #[.val (.int p0), .val (.int p1)] [(.int (p0 + (2 : Int32))), (.int p1)])) t → Steps p.tables e below (s₁.setTop (entryFrame m #[(.int p0), (.int p1)] 2)) t := fun t kt => by
        refine pre19 t ?_
        show Steps p.tables e below (s₁.setTop (mkF m 9 #[.val (.int p0), .val (.int p1)] [(.int (p0 + (1 : Int32))), (.int p1)])) _
        refine XS.icmpNo X0.here hx rfl (hb hby d2_9) rfl (feq hc20).1 ?_
        show Steps p.tables e below (s₁.setTop (mkF m 12 #[.val (.int p0), .val (.int p1)] [])) _
        refine XS.iloadN X0.here hx rfl (hb hby d2_12) rfl ?_
        show Steps p.tables e below (s₁.setTop (mkF m 13 #[.val (.int p0), .val (.int p1)] [(.int p1)])) _
        refine XS.iloadN X0.here hx rfl (hb hby d2_13) rfl ?_
        show Steps p.tables e below (s₁.setTop (mkF m 14 #[.val (.int p0), .val (.int p1)] [(.int p0), (.int p1)])) _
        refine XS.iconst X0.here hx rfl (hb hby d2_14) ?_
        show Steps p.tables e below (s₁.setTop (mkF m 15 #[.val (.int p0), .val (.int p1)] [(.int (2 : Int32)), (.int p0), (.int p1)])) _
        refine XS.iadd X0.here hx rfl (hb hby d2_15) rfl ?_
        show Steps p.tables e below (s₁.setTop (mkF m 16 #[.val (.int p0), .val (.int p1)] [(.int (p0 + (2 : Int32))), (.int p1)])) _
        exact kt
      by_cases hc22 : p1 = (p0 + (2 : Int32))
      · obtain ⟨fs, hr, hrun, hended, hW, hsame⟩ := X0.leave (v := some (.int (1 : Int32))) (fun h => by rw [Bd.returns] at h; cases h)
        refine ⟨_, _, pre21 _ ?_, hrun, hended, _, _, rfl, ?_, ⟨_, rfl⟩, hW, hsame.mono (by decide) (by decide)⟩
        · show Steps p.tables e below (s₁.setTop (mkF m 16 #[.val (.int p0), .val (.int p1)] [(.int (p0 + (2 : Int32))), (.int p1)])) _
          refine XS.icmpYes X0.here hx rfl (pc0 := 16) (pc' := 26) rfl (hb hby d2_16) rfl (teq hc22).1 (by decide) (by decide) ?_
          show Steps p.tables e below (s₁.setTop (mkF m 26 #[.val (.int p0), .val (.int p1)] [])) _
          refine XS.iconst X0.here hx rfl (hb hby d2_26) ?_
          show Steps p.tables e below (s₁.setTop (mkF m 27 #[.val (.int p0), .val (.int p1)] [(.int (1 : Int32))])) _
          refine XS.goto X0.here hx rfl (pc0 := 27) (pc' := 31) rfl (hb hby d2_27) (by decide) (by decide) ?_
          show Steps p.tables e below (s₁.setTop (mkF m 31 #[.val (.int p0), .val (.int p1)] [(.int (1 : Int32))])) _
          exact retN X0 hx (t := .boolean) Bd.returns (by simp) (hb hby d2_31) hr
        · show Q2 Z w_1 w_2 p0 p1 h0 n0 _ s₁.heap _
          rw [e0]
          exact ⟨by unfold sp2; rw [if_neg hc18, if_neg hc20, if_pos hc22], N0, rfl⟩
      · have pre23 : ∀ t, Steps p.tables e below (s₁.setTop (mkF m 23 #[.val (.int p0), .val (.int p1)] [(.int (p0 + (3 : Int32))), (.int p1)])) t → Steps p.tables e below (s₁.setTop (entryFrame m #[(.int p0), (.int p1)] 2)) t := fun t kt => by
          refine pre21 t ?_
          show Steps p.tables e below (s₁.setTop (mkF m 16 #[.val (.int p0), .val (.int p1)] [(.int (p0 + (2 : Int32))), (.int p1)])) _
          refine XS.icmpNo X0.here hx rfl (hb hby d2_16) rfl (feq hc22).1 ?_
          show Steps p.tables e below (s₁.setTop (mkF m 19 #[.val (.int p0), .val (.int p1)] [])) _
          refine XS.iloadN X0.here hx rfl (hb hby d2_19) rfl ?_
          show Steps p.tables e below (s₁.setTop (mkF m 20 #[.val (.int p0), .val (.int p1)] [(.int p1)])) _
          refine XS.iloadN X0.here hx rfl (hb hby d2_20) rfl ?_
          show Steps p.tables e below (s₁.setTop (mkF m 21 #[.val (.int p0), .val (.int p1)] [(.int p0), (.int p1)])) _
          refine XS.iconst X0.here hx rfl (hb hby d2_21) ?_
          show Steps p.tables e below (s₁.setTop (mkF m 22 #[.val (.int p0), .val (.int p1)] [(.int (3 : Int32)), (.int p0), (.int p1)])) _
          refine XS.iadd X0.here hx rfl (hb hby d2_22) rfl ?_
          show Steps p.tables e below (s₁.setTop (mkF m 23 #[.val (.int p0), .val (.int p1)] [(.int (p0 + (3 : Int32))), (.int p1)])) _
          exact kt
        by_cases hc24 : p1 = (p0 + (3 : Int32))
        · obtain ⟨fs, hr, hrun, hended, hW, hsame⟩ := X0.leave (v := some (.int (1 : Int32))) (fun h => by rw [Bd.returns] at h; cases h)
          refine ⟨_, _, pre23 _ ?_, hrun, hended, _, _, rfl, ?_, ⟨_, rfl⟩, hW, hsame.mono (by decide) (by decide)⟩
          · show Steps p.tables e below (s₁.setTop (mkF m 23 #[.val (.int p0), .val (.int p1)] [(.int (p0 + (3 : Int32))), (.int p1)])) _
            refine XS.icmpNo X0.here hx rfl (hb hby d2_23) rfl (teq hc24).2 ?_
            show Steps p.tables e below (s₁.setTop (mkF m 26 #[.val (.int p0), .val (.int p1)] [])) _
            refine XS.iconst X0.here hx rfl (hb hby d2_26) ?_
            show Steps p.tables e below (s₁.setTop (mkF m 27 #[.val (.int p0), .val (.int p1)] [(.int (1 : Int32))])) _
            refine XS.goto X0.here hx rfl (pc0 := 27) (pc' := 31) rfl (hb hby d2_27) (by decide) (by decide) ?_
            show Steps p.tables e below (s₁.setTop (mkF m 31 #[.val (.int p0), .val (.int p1)] [(.int (1 : Int32))])) _
            exact retN X0 hx (t := .boolean) Bd.returns (by simp) (hb hby d2_31) hr
          · show Q2 Z w_1 w_2 p0 p1 h0 n0 _ s₁.heap _
            rw [e0]
            exact ⟨by unfold sp2; rw [if_neg hc18, if_neg hc20, if_neg hc22, if_pos hc24], N0, rfl⟩
        · obtain ⟨fs, hr, hrun, hended, hW, hsame⟩ := X0.leave (v := some (.int (0 : Int32))) (fun h => by rw [Bd.returns] at h; cases h)
          refine ⟨_, _, pre23 _ ?_, hrun, hended, _, _, rfl, ?_, ⟨_, rfl⟩, hW, hsame.mono (by decide) (by decide)⟩
          · show Steps p.tables e below (s₁.setTop (mkF m 23 #[.val (.int p0), .val (.int p1)] [(.int (p0 + (3 : Int32))), (.int p1)])) _
            refine XS.icmpYes X0.here hx rfl (pc0 := 23) (pc' := 30) rfl (hb hby d2_23) rfl (feq hc24).2 (by decide) (by decide) ?_
            show Steps p.tables e below (s₁.setTop (mkF m 30 #[.val (.int p0), .val (.int p1)] [])) _
            refine XS.iconst X0.here hx rfl (hb hby d2_30) ?_
            show Steps p.tables e below (s₁.setTop (mkF m 31 #[.val (.int p0), .val (.int p1)] [(.int (0 : Int32))])) _
            exact retN X0 hx (t := .boolean) Bd.returns (by simp) (hb hby d2_31) hr
          · show Q2 Z w_1 w_2 p0 p1 h0 n0 _ s₁.heap _
            rw [e0]
            exact ⟨by unfold sp2; rw [if_neg hc18, if_neg hc20, if_neg hc22, if_neg hc24], N0, rfl⟩
theorem pd_0 : parseMethodDescriptor "(I)Z" = some ⟨[.int], some .boolean⟩ := by decide +kernel
theorem pd_1 : parseMethodDescriptor "(II)Z" = some ⟨[.int, .int], some .boolean⟩ := by decide +kernel
theorem pn_0 : plainName "com/example/waystone/waystone/hessian/ChunkCodesIsMediumPinLaw" = true := by first | (simp [plainName, overriddenIn]; done) | decide +kernel
theorem ef_0 (m : MethodId) (p0 : Int32) (p1 : Int32) (p2 : Int32) : entryFrame m #[(.int p0), (.int p1), (.int p2)] maxLocals = mkF m 0 #[.val (.int p0), .val (.int p1), .val (.int p2), .unset, .unset, .unset, .unset] [] := by first | (simp [entryFrame, mkF, argsToLocals, Value.category, maxLocals]; done) | rfl
def sp0 (p0 : Int32) (p1 : Int32) (p2 : Int32) : Int32 := (if (p0 &&& (1 : Int32)) = (0 : Int32) then (if (sp1 p1 (48 : Int32)) = (sp2 (48 : Int32) p1) then (if (sp1 ((44 : Int32) + (p2 &&& (15 : Int32))) (48 : Int32)) = (sp2 (48 : Int32) ((44 : Int32) + (p2 &&& (15 : Int32)))) then (1 : Int32) else (0 : Int32)) else (0 : Int32)) else (if (sp1 p1 (52 : Int32)) = (sp2 (52 : Int32) p1) then (if (sp1 ((44 : Int32) + (p2 &&& (15 : Int32))) (52 : Int32)) = (sp2 (52 : Int32) ((44 : Int32) + (p2 &&& (15 : Int32)))) then (1 : Int32) else (0 : Int32)) else (0 : Int32)))
def Q0 (Z : State) (w_1 : Addr) (w_2 : Addr) (p0 : Int32) (p1 : Int32) (p2 : Int32) (h0 : Heap) (n0 : Nat) (v : Option Value) (h : Heap) (L : List Loc) : Prop := v = some (.int (sp0 p0 p1 p2)) ∧ Fr n0 L ∧ h = h0
set_option maxRecDepth 65536 in
set_option maxHeartbeats 40000000 in
theorem rm0 (l : Launch) (Z : State) (a0 : Array Value) (hw : ∀ d ∈ tables_1, d.before a0 Z = true) (ws : List Jvm.Cond) (w_1 : Addr) (w_2 : Addr) (hS : StF Z w_1 w_2) (p0 : Int32) (p1 : Int32) (p2 : Int32) (h0 : Heap) (n0 : Nat) (O0 : Old Z n0 h0) :
    MetFree l x (head1 (Jvm.Cond.code x code maxLocals ret :: ws) room_1) (fun a U => a = #[(.int p0), (.int p1), (.int p2)] ∧ Z.Warmed39 U.vm ∧ U.heap = h0) (fun _ _ _ _ _ => True) (fun _ U o U' => ∃ v L, o = .returned v ∧ Q0 Z w_1 w_2 p0 p1 p2 h0 n0 v U'.heap L ∧ FrameEnd U o U' L room_1.cells room_1.slots) := by
  refine MetFree.of_bodySF (plainFor_of_name pn_0) hisR ?_
  intro p e s m args below meth c s₁ Bd hml0 hP hK
  obtain ⟨rfl, hZ, hh⟩ := hP
  have hx := Bd.exec
  have hby := Bd.bytes
  have hml : c.maxLocals = 7 := hml0
  have hown : s.vm.findClass "com/example/waystone/waystone/hessian/ChunkCodesIsMediumPinLaw" = some m.cls := findClass_of_methodNamed Bd.named
  have hnm := (name_of_methodNamed Bd.named Bd.method).1
  have X0 : Stand p l e room_1 s m #[(.int p0), (.int p1), (.int p2)] below meth c s₁ [] 0 0 := Stand.of_body Bd
  have e0 : s₁.heap = h0 := by rw [← hh, Bd.state]; rfl
  have N0 := Fr.nil n0
  have hS0 := hS
  obtain ⟨S_1, E_1, S_2, E_2, F_1_medium, F_2_medium⟩ := hS
  have pre0 : ∀ t, Steps p.tables e below (s₁.setTop (mkF m 0 #[.val (.int p0), .val (.int p1), .val (.int p2), .unset, .unset, .unset, .unset] [])) t → Steps p.tables e below (s₁.setTop (entryFrame m #[(.int p0), (.int p1), (.int p2)] maxLocals)) t := fun t k => castTop (ef_0 m p0 p1 p2) k
  have pre7 : ∀ t, Steps p.tables e below (s₁.setTop (mkF m 3 #[.val (.int p0), .val (.int p1), .val (.int p2), .unset, .unset, .unset, .unset] [(.int (p0 &&& (1 : Int32)))])) t → Steps p.tables e below (s₁.setTop (entryFrame m #[(.int p0), (.int p1), (.int p2)] maxLocals)) t := fun t kt => by
    refine pre0 t ?_
    show Steps p.tables e below (s₁.setTop (mkF m 0 #[.val (.int p0), .val (.int p1), .val (.int p2), .unset, .unset, .unset, .unset] [])) _
    refine XS.iloadN X0.here hx rfl (hb hby at_0) rfl ?_
    show Steps p.tables e below (s₁.setTop (mkF m 1 #[.val (.int p0), .val (.int p1), .val (.int p2), .unset, .unset, .unset, .unset] [(.int p0)])) _
    refine XS.iconst X0.here hx rfl (hb hby at_1) ?_
    show Steps p.tables e below (s₁.setTop (mkF m 2 #[.val (.int p0), .val (.int p1), .val (.int p2), .unset, .unset, .unset, .unset] [(.int (1 : Int32)), (.int p0)])) _
    refine XS.iand X0.here hx rfl (hb hby at_2) rfl ?_
    show Steps p.tables e below (s₁.setTop (mkF m 3 #[.val (.int p0), .val (.int p1), .val (.int p2), .unset, .unset, .unset, .unset] [(.int (p0 &&& (1 : Int32)))])) _
    exact kt
  by_cases hc8 : (p0 &&& (1 : Int32)) = (0 : Int32)
  · obtain ⟨T9, X9, e9, st9⟩ := getS2 X0 hx hZ hown (host := "") (Or.inl (hw _ (tk 0 rfl))) Via.refl e0 (S_1.ext O0.2) (g := (mkF m 22 #[.val (.int p0), .val (.int p1), .val (.int p2), .val (.int (0 : Int32)), .unset, .unset, .unset] [])) rfl (hb hby at_22)
    obtain ⟨cq16, kq16, q16a, q16b, q16c⟩ := isOf hZ e9 (E_1.ext O0.2)
    obtain ⟨_, _, ⟨T16, L16, k16, n16⟩, -, X16, ⟨Lc16, hQ16, l16, y16, z16⟩, st16⟩ := X9.virtualBack hx (y := Y0) (z := Y0) hown (mvT hZ (hw _ (tk 3 rfl))) (mvT hZ (hw _ (tk 4 rfl))) (notFace_of_selects (args := #[]) (mvT hZ (hw _ (tk 6 rfl)))) (mvT hZ (hw _ (tk 6 rfl))) (mvT hZ (hw _ (tk 5 rfl))) (by decide) (backOf (W := 0) (rm1 l Z a0 hw [] w_1 w_2 hS0 w_1 p1 (48 : Int32) h0 n0 O0 (F_1_medium.ext O0.2)) hZ (hw _ (tk 7 rfl)) (hw _ (tk 1 rfl)) (by decide) (by decide)) q16a q16c (g := (mkF m 52 #[.val (.int p0), .val (.int p1), .val (.int p2), .val (.int (0 : Int32)), .val (.ref w_1), .val (.int (48 : Int32)), .val (.int ((44 : Int32) + (p2 &&& (15 : Int32))))] [(.int p1), (.ref w_1)])) rfl (by rw [hml]; rfl) (Steps.refl _) (argsL := [(.int p1)]) (rest := []) (lenOf pd_0 rfl) rfl (by show 2 * 0 + _ ≤ _; exact Nat.le_of_eq rfl) (hb hby at_52) (fun _ _ => ⟨rfl, e9, (by decide : 0 + 0 ≤ _), (by decide : 0 + 0 ≤ _)⟩)
    dsimp only [Pt.U, Pt.locs, Pt.cells, Pt.slots] at X16 l16 y16 z16 st16 hQ16
    subst l16 y16 z16
    obtain ⟨rv16, N16q, e16⟩ := hQ16
    subst rv16
    have N16 := Fr.app N0 N16q
    obtain ⟨_, _, ⟨T25, L25, k25, n25⟩, -, X25, ⟨Lc25, hQ25, l25, y25, z25⟩, st25⟩ := Jvm.LawKit.callS X16 hx (y := Y1) hown (mvT hZ (hw _ (tk 10 rfl))) (mvT hZ (hw _ (tk 11 rfl))) (mvT hZ (hw _ (tk 12 rfl))) (mvT hZ (hw _ (tk 13 rfl))) (by decide) (backOf (W := 1) (rm2 l Z a0 hw [] w_1 w_2 hS0 (48 : Int32) p1 h0 n0 O0) hZ (hw _ (tk 13 rfl)) (hw _ (tk 12 rfl)) (by decide) (by decide)) (g := (mkF m 58 #[.val (.int p0), .val (.int p1), .val (.int p2), .val (.int (0 : Int32)), .val (.ref w_1), .val (.int (48 : Int32)), .val (.int ((44 : Int32) + (p2 &&& (15 : Int32))))] [(.int p1), (.int (48 : Int32)), (.int (sp1 p1 (48 : Int32)))])) rfl (by rw [hml]; rfl) (argsL := [(.int (48 : Int32)), (.int p1)]) (rest := [(.int (sp1 p1 (48 : Int32)))]) (lenOf pd_1 rfl) rfl (by show 2 * 0 + _ ≤ _; exact Nat.le_of_eq rfl) (hb hby at_58) (fun _ _ => ⟨rfl, e16, (by decide : 0 + 0 ≤ _), (by decide : 0 + 0 ≤ _)⟩)
    dsimp only [Pt.U, Pt.locs, Pt.cells, Pt.slots] at X25 l25 y25 z25 st25 hQ25
    subst l25 y25 z25
    obtain ⟨rv25, N25q, e25⟩ := hQ25
    subst rv25
    have N25 := Fr.app N16 N25q
    have pre26 : ∀ t, Steps p.tables e below (T25.setTop (mkF m 61 #[.val (.int p0), .val (.int p1), .val (.int p2), .val (.int (0 : Int32)), .val (.ref w_1), .val (.int (48 : Int32)), .val (.int ((44 : Int32) + (p2 &&& (15 : Int32))))] [(.int (sp2 (48 : Int32) p1)), (.int (sp1 p1 (48 : Int32)))])) t → Steps p.tables e below (s₁.setTop (entryFrame m #[(.int p0), (.int p1), (.int p2)] maxLocals)) t := fun t kt => by
      refine pre7 t ?_
      show Steps p.tables e below (s₁.setTop (mkF m 3 #[.val (.int p0), .val (.int p1), .val (.int p2), .unset, .unset, .unset, .unset] [(.int (p0 &&& (1 : Int32)))])) _
      refine XS.ifYes X0.here hx rfl (pc0 := 3) (pc' := 10) rfl (hb hby at_3) rfl ((if0 _ _).trans (teq hc8).1) (by decide) (by decide) ?_
      show Steps p.tables e below (s₁.setTop (mkF m 10 #[.val (.int p0), .val (.int p1), .val (.int p2), .unset, .unset, .unset, .unset] [])) _
      refine XS.iconst X0.here hx rfl (hb hby at_10) ?_
      show Steps p.tables e below (s₁.setTop (mkF m 11 #[.val (.int p0), .val (.int p1), .val (.int p2), .unset, .unset, .unset, .unset] [(.int (0 : Int32))])) _
      refine XS.istoreN X0.here hx rfl (hb hby at_11) rfl (l' := #[.val (.int p0), .val (.int p1), .val (.int p2), .val (.int (0 : Int32)), .unset, .unset, .unset]) rfl ?_
      show Steps p.tables e below (s₁.setTop (mkF m 12 #[.val (.int p0), .val (.int p1), .val (.int p2), .val (.int (0 : Int32)), .unset, .unset, .unset] [])) _
      refine XS.iloadN X0.here hx rfl (hb hby at_12) rfl ?_
      show Steps p.tables e below (s₁.setTop (mkF m 13 #[.val (.int p0), .val (.int p1), .val (.int p2), .val (.int (0 : Int32)), .unset, .unset, .unset] [(.int (0 : Int32))])) _
      refine XS.ifYes X0.here hx rfl (pc0 := 13) (pc' := 22) rfl (hb hby at_13) rfl ((if0 _ _).trans (teq (by decide : ((0 : Int32) = (0 : Int32)))).1) (by decide) (by decide) ?_
      show Steps p.tables e below (s₁.setTop (mkF m 22 #[.val (.int p0), .val (.int p1), .val (.int p2), .val (.int (0 : Int32)), .unset, .unset, .unset] [])) _
      refine st9 _ ?_
      show Steps p.tables e below (T9.setTop (mkF m 25 #[.val (.int p0), .val (.int p1), .val (.int p2), .val (.int (0 : Int32)), .unset, .unset, .unset] [(.ref w_1)])) _
      refine XS.astore X9.here hx rfl (hb hby at_25) rfl rfl (l' := #[.val (.int p0), .val (.int p1), .val (.int p2), .val (.int (0 : Int32)), .val (.ref w_1), .unset, .unset]) rfl ?_
      show Steps p.tables e below (T9.setTop (mkF m 27 #[.val (.int p0), .val (.int p1), .val (.int p2), .val (.int (0 : Int32)), .val (.ref w_1), .unset, .unset] [])) _
      refine XS.iloadN X9.here hx rfl (hb hby at_27) rfl ?_
      show Steps p.tables e below (T9.setTop (mkF m 28 #[.val (.int p0), .val (.int p1), .val (.int p2), .val (.int (0 : Int32)), .val (.ref w_1), .unset, .unset] [(.int (0 : Int32))])) _
      refine XS.ifYes X9.here hx rfl (pc0 := 28) (pc' := 36) rfl (hb hby at_28) rfl ((if0 _ _).trans (teq (by decide : ((0 : Int32) = (0 : Int32)))).1) (by decide) (by decide) ?_
      show Steps p.tables e below (T9.setTop (mkF m 36 #[.val (.int p0), .val (.int p1), .val (.int p2), .val (.int (0 : Int32)), .val (.ref w_1), .unset, .unset] [])) _
      refine XS.bipush X9.here hx rfl (hb hby at_36) ?_
      show Steps p.tables e below (T9.setTop (mkF m 38 #[.val (.int p0), .val (.int p1), .val (.int p2), .val (.int (0 : Int32)), .val (.ref w_1), .unset, .unset] [(.int (48 : Int32))])) _
      refine XS.istore X9.here hx rfl (hb hby at_38) rfl (l' := #[.val (.int p0), .val (.int p1), .val (.int p2), .val (.int (0 : Int32)), .val (.ref w_1), .val (.int (48 : Int32)), .unset]) rfl ?_
      show Steps p.tables e below (T9.setTop (mkF m 40 #[.val (.int p0), .val (.int p1), .val (.int p2), .val (.int (0 : Int32)), .val (.ref w_1), .val (.int (48 : Int32)), .unset] [])) _
      refine XS.bipush X9.here hx rfl (hb hby at_40) ?_
      show Steps p.tables e below (T9.setTop (mkF m 42 #[.val (.int p0), .val (.int p1), .val (.int p2), .val (.int (0 : Int32)), .val (.ref w_1), .val (.int (48 : Int32)), .unset] [(.int (44 : Int32))])) _
      refine XS.iloadN X9.here hx rfl (hb hby at_42) rfl ?_
      show Steps p.tables e below (T9.setTop (mkF m 43 #[.val (.int p0), .val (.int p1), .val (.int p2), .val (.int (0 : Int32)), .val (.ref w_1), .val (.int (48 : Int32)), .unset] [(.int p2), (.int (44 : Int32))])) _
      refine XS.bipush X9.here hx rfl (hb hby at_43) ?_
      show Steps p.tables e below (T9.setTop (mkF m 45 #[.val (.int p0), .val (.int p1), .val (.int p2), .val (.int (0 : Int32)), .val (.ref w_1), .val (.int (48 : Int32)), .unset] [(.int (15 : Int32)), (.int p2), (.int (44 : Int32))])) _
      refine XS.iand X9.here hx rfl (hb hby at_45) rfl ?_
      show Steps p.tables e below (T9.setTop (mkF m 46 #[.val (.int p0), .val (.int p1), .val (.int p2), .val (.int (0 : Int32)), .val (.ref w_1), .val (.int (48 : Int32)), .unset] [(.int (p2 &&& (15 : Int32))), (.int (44 : Int32))])) _
      refine XS.iadd X9.here hx rfl (hb hby at_46) rfl ?_
      show Steps p.tables e below (T9.setTop (mkF m 47 #[.val (.int p0), .val (.int p1), .val (.int p2), .val (.int (0 : Int32)), .val (.ref w_1), .val (.int (48 : Int32)), .unset] [(.int ((44 : Int32) + (p2 &&& (15 : Int32))))])) _
      refine XS.istore X9.here hx rfl (hb hby at_47) rfl (l' := #[.val (.int p0), .val (.int p1), .val (.int p2), .val (.int (0 : Int32)), .val (.ref w_1), .val (.int (48 : Int32)), .val (.int ((44 : Int32) + (p2 &&& (15 : Int32))))]) rfl ?_
      show Steps p.tables e below (T9.setTop (mkF m 49 #[.val (.int p0), .val (.int p1), .val (.int p2), .val (.int (0 : Int32)), .val (.ref w_1), .val (.int (48 : Int32)), .val (.int ((44 : Int32) + (p2 &&& (15 : Int32))))] [])) _
      refine XS.aload X9.here hx rfl (hb hby at_49) rfl rfl ?_
      show Steps p.tables e below (T9.setTop (mkF m 51 #[.val (.int p0), .val (.int p1), .val (.int p2), .val (.int (0 : Int32)), .val (.ref w_1), .val (.int (48 : Int32)), .val (.int ((44 : Int32) + (p2 &&& (15 : Int32))))] [(.ref w_1)])) _
      refine XS.iloadN X9.here hx rfl (hb hby at_51) rfl ?_
      show Steps p.tables e below (T9.setTop (mkF m 52 #[.val (.int p0), .val (.int p1), .val (.int p2), .val (.int (0 : Int32)), .val (.ref w_1), .val (.int (48 : Int32)), .val (.int ((44 : Int32) + (p2 &&& (15 : Int32))))] [(.int p1), (.ref w_1)])) _
      refine st16.trans ?_
      show Steps p.tables e below (T16.setTop (mkF m 55 #[.val (.int p0), .val (.int p1), .val (.int p2), .val (.int (0 : Int32)), .val (.ref w_1), .val (.int (48 : Int32)), .val (.int ((44 : Int32) + (p2 &&& (15 : Int32))))] [(.int (sp1 p1 (48 : Int32)))])) _
      refine XS.iload X16.here hx rfl (hb hby at_55) rfl ?_
      show Steps p.tables e below (T16.setTop (mkF m 57 #[.val (.int p0), .val (.int p1), .val (.int p2), .val (.int (0 : Int32)), .val (.ref w_1), .val (.int (48 : Int32)), .val (.int ((44 : Int32) + (p2 &&& (15 : Int32))))] [(.int (48 : Int32)), (.int (sp1 p1 (48 : Int32)))])) _
      refine XS.iloadN X16.here hx rfl (hb hby at_57) rfl ?_
      show Steps p.tables e below (T16.setTop (mkF m 58 #[.val (.int p0), .val (.int p1), .val (.int p2), .val (.int (0 : Int32)), .val (.ref w_1), .val (.int (48 : Int32)), .val (.int ((44 : Int32) + (p2 &&& (15 : Int32))))] [(.int p1), (.int (48 : Int32)), (.int (sp1 p1 (48 : Int32)))])) _
      refine st25 _ ?_
      show Steps p.tables e below (T25.setTop (mkF m 61 #[.val (.int p0), .val (.int p1), .val (.int p2), .val (.int (0 : Int32)), .val (.ref w_1), .val (.int (48 : Int32)), .val (.int ((44 : Int32) + (p2 &&& (15 : Int32))))] [(.int (sp2 (48 : Int32) p1)), (.int (sp1 p1 (48 : Int32)))])) _
      exact kt
    by_cases hc27 : (sp1 p1 (48 : Int32)) = (sp2 (48 : Int32) p1)
    · obtain ⟨cq28, kq28, q28a, q28b, q28c⟩ := isOf hZ e25 (E_1.ext O0.2)
      obtain ⟨_, _, ⟨T28, L28, k28, n28⟩, -, X28, ⟨Lc28, hQ28, l28, y28, z28⟩, st28⟩ := X25.virtualBack hx (y := Y0) (z := Y0) hown (mvT hZ (hw _ (tk 3 rfl))) (mvT hZ (hw _ (tk 4 rfl))) (notFace_of_selects (args := #[]) (mvT hZ (hw _ (tk 6 rfl)))) (mvT hZ (hw _ (tk 6 rfl))) (mvT hZ (hw _ (tk 5 rfl))) (by decide) (backOf (W := 0) (rm1 l Z a0 hw [] w_1 w_2 hS0 w_1 ((44 : Int32) + (p2 &&& (15 : Int32))) (48 : Int32) h0 n0 O0 (F_1_medium.ext O0.2)) hZ (hw _ (tk 7 rfl)) (hw _ (tk 1 rfl)) (by decide) (by decide)) q28a q28c (g := (mkF m 68 #[.val (.int p0), .val (.int p1), .val (.int p2), .val (.int (0 : Int32)), .val (.ref w_1), .val (.int (48 : Int32)), .val (.int ((44 : Int32) + (p2 &&& (15 : Int32))))] [(.int ((44 : Int32) + (p2 &&& (15 : Int32)))), (.ref w_1)])) rfl (by rw [hml]; rfl) (Steps.refl _) (argsL := [(.int ((44 : Int32) + (p2 &&& (15 : Int32))))]) (rest := []) (lenOf pd_0 rfl) rfl (by show 2 * 0 + _ ≤ _; exact Nat.le_of_eq rfl) (hb hby at_68) (fun _ _ => ⟨rfl, e25, (by decide : 0 + 0 ≤ _), (by decide : 0 + 0 ≤ _)⟩)
      dsimp only [Pt.U, Pt.locs, Pt.cells, Pt.slots] at X28 l28 y28 z28 st28 hQ28
      subst l28 y28 z28
      obtain ⟨rv28, N28q, e28⟩ := hQ28
      subst rv28
      have N28 := Fr.app N25 N28q
      obtain ⟨_, _, ⟨T29, L29, k29, n29⟩, -, X29, ⟨Lc29, hQ29, l29, y29, z29⟩, st29⟩ := Jvm.LawKit.callS X28 hx (y := Y1) hown (mvT hZ (hw _ (tk 10 rfl))) (mvT hZ (hw _ (tk 11 rfl))) (mvT hZ (hw _ (tk 12 rfl))) (mvT hZ (hw _ (tk 13 rfl))) (by decide) (backOf (W := 1) (rm2 l Z a0 hw [] w_1 w_2 hS0 (48 : Int32) ((44 : Int32) + (p2 &&& (15 : Int32))) h0 n0 O0) hZ (hw _ (tk 13 rfl)) (hw _ (tk 12 rfl)) (by decide) (by decide)) (g := (mkF m 75 #[.val (.int p0), .val (.int p1), .val (.int p2), .val (.int (0 : Int32)), .val (.ref w_1), .val (.int (48 : Int32)), .val (.int ((44 : Int32) + (p2 &&& (15 : Int32))))] [(.int ((44 : Int32) + (p2 &&& (15 : Int32)))), (.int (48 : Int32)), (.int (sp1 ((44 : Int32) + (p2 &&& (15 : Int32))) (48 : Int32)))])) rfl (by rw [hml]; rfl) (argsL := [(.int (48 : Int32)), (.int ((44 : Int32) + (p2 &&& (15 : Int32))))]) (rest := [(.int (sp1 ((44 : Int32) + (p2 &&& (15 : Int32))) (48 : Int32)))]) (lenOf pd_1 rfl) rfl (by show 2 * 0 + _ ≤ _; exact Nat.le_of_eq rfl) (hb hby at_75) (fun _ _ => ⟨rfl, e28, (by decide : 0 + 0 ≤ _), (by decide : 0 + 0 ≤ _)⟩)
      dsimp only [Pt.U, Pt.locs, Pt.cells, Pt.slots] at X29 l29 y29 z29 st29 hQ29
      subst l29 y29 z29
      obtain ⟨rv29, N29q, e29⟩ := hQ29
      subst rv29
      have N29 := Fr.app N28 N29q
      have pre30 : ∀ t, Steps p.tables e below (T29.setTop (mkF m 78 #[.val (.int p0), .val (.int p1), .val (.int p2), .val (.int (0 : Int32)), .val (.ref w_1), .val (.int (48 : Int32)), .val (.int ((44 : Int32) + (p2 &&& (15 : Int32))))] [(.int (sp2 (48 : Int32) ((44 : Int32) + (p2 &&& (15 : Int32))))), (.int (sp1 ((44 : Int32) + (p2 &&& (15 : Int32))) (48 : Int32)))])) t → Steps p.tables e below (s₁.setTop (entryFrame m #[(.int p0), (.int p1), (.int p2)] maxLocals)) t := fun t kt => by
        refine pre26 t ?_
        show Steps p.tables e below (T25.setTop (mkF m 61 #[.val (.int p0), .val (.int p1), .val (.int p2), .val (.int (0 : Int32)), .val (.ref w_1), .val (.int (48 : Int32)), .val (.int ((44 : Int32) + (p2 &&& (15 : Int32))))] [(.int (sp2 (48 : Int32) p1)), (.int (sp1 p1 (48 : Int32)))])) _
        refine XS.icmpNo X25.here hx rfl (hb hby at_61) rfl (teq hc27).2 ?_
        show Steps p.tables e below (T25.setTop (mkF m 64 #[.val (.int p0), .val (.int p1), .val (.int p2), .val (.int (0 : Int32)), .val (.ref w_1), .val (.int (48 : Int32)), .val (.int ((44 : Int32) + (p2 &&& (15 : Int32))))] [])) _
        refine XS.aload X25.here hx rfl (hb hby at_64) rfl rfl ?_
        show Steps p.tables e below (T25.setTop (mkF m 66 #[.val (.int p0), .val (.int p1), .val (.int p2), .val (.int (0 : Int32)), .val (.ref w_1), .val (.int (48 : Int32)), .val (.int ((44 : Int32) + (p2 &&& (15 : Int32))))] [(.ref w_1)])) _
        refine XS.iload X25.here hx rfl (hb hby at_66) rfl ?_
        show Steps p.tables e below (T25.setTop (mkF m 68 #[.val (.int p0), .val (.int p1), .val (.int p2), .val (.int (0 : Int32)), .val (.ref w_1), .val (.int (48 : Int32)), .val (.int ((44 : Int32) + (p2 &&& (15 : Int32))))] [(.int ((44 : Int32) + (p2 &&& (15 : Int32)))), (.ref w_1)])) _
        refine st28.trans ?_
        show Steps p.tables e below (T28.setTop (mkF m 71 #[.val (.int p0), .val (.int p1), .val (.int p2), .val (.int (0 : Int32)), .val (.ref w_1), .val (.int (48 : Int32)), .val (.int ((44 : Int32) + (p2 &&& (15 : Int32))))] [(.int (sp1 ((44 : Int32) + (p2 &&& (15 : Int32))) (48 : Int32)))])) _
        refine XS.iload X28.here hx rfl (hb hby at_71) rfl ?_
        show Steps p.tables e below (T28.setTop (mkF m 73 #[.val (.int p0), .val (.int p1), .val (.int p2), .val (.int (0 : Int32)), .val (.ref w_1), .val (.int (48 : Int32)), .val (.int ((44 : Int32) + (p2 &&& (15 : Int32))))] [(.int (48 : Int32)), (.int (sp1 ((44 : Int32) + (p2 &&& (15 : Int32))) (48 : Int32)))])) _
        refine XS.iload X28.here hx rfl (hb hby at_73) rfl ?_
        show Steps p.tables e below (T28.setTop (mkF m 75 #[.val (.int p0), .val (.int p1), .val (.int p2), .val (.int (0 : Int32)), .val (.ref w_1), .val (.int (48 : Int32)), .val (.int ((44 : Int32) + (p2 &&& (15 : Int32))))] [(.int ((44 : Int32) + (p2 &&& (15 : Int32)))), (.int (48 : Int32)), (.int (sp1 ((44 : Int32) + (p2 &&& (15 : Int32))) (48 : Int32)))])) _
        refine st29 _ ?_
        show Steps p.tables e below (T29.setTop (mkF m 78 #[.val (.int p0), .val (.int p1), .val (.int p2), .val (.int (0 : Int32)), .val (.ref w_1), .val (.int (48 : Int32)), .val (.int ((44 : Int32) + (p2 &&& (15 : Int32))))] [(.int (sp2 (48 : Int32) ((44 : Int32) + (p2 &&& (15 : Int32))))), (.int (sp1 ((44 : Int32) + (p2 &&& (15 : Int32))) (48 : Int32)))])) _
        exact kt
      by_cases hc31 : (sp1 ((44 : Int32) + (p2 &&& (15 : Int32))) (48 : Int32)) = (sp2 (48 : Int32) ((44 : Int32) + (p2 &&& (15 : Int32))))
      · obtain ⟨fs, hr, hrun, hended, hW, hsame⟩ := X29.leave (v := some (.int (1 : Int32))) (fun h => by rw [Bd.returns] at h; cases h)
        refine ⟨_, _, pre30 _ ?_, hrun, hended, _, _, rfl, ?_, ⟨_, rfl⟩, hW, hsame.mono (by decide) (by decide)⟩
        · show Steps p.tables e below (T29.setTop (mkF m 78 #[.val (.int p0), .val (.int p1), .val (.int p2), .val (.int (0 : Int32)), .val (.ref w_1), .val (.int (48 : Int32)), .val (.int ((44 : Int32) + (p2 &&& (15 : Int32))))] [(.int (sp2 (48 : Int32) ((44 : Int32) + (p2 &&& (15 : Int32))))), (.int (sp1 ((44 : Int32) + (p2 &&& (15 : Int32))) (48 : Int32)))])) _
          refine XS.icmpNo X29.here hx rfl (hb hby at_78) rfl (teq hc31).2 ?_
          show Steps p.tables e below (T29.setTop (mkF m 81 #[.val (.int p0), .val (.int p1), .val (.int p2), .val (.int (0 : Int32)), .val (.ref w_1), .val (.int (48 : Int32)), .val (.int ((44 : Int32) + (p2 &&& (15 : Int32))))] [])) _
          refine XS.iconst X29.here hx rfl (hb hby at_81) ?_
          show Steps p.tables e below (T29.setTop (mkF m 82 #[.val (.int p0), .val (.int p1), .val (.int p2), .val (.int (0 : Int32)), .val (.ref w_1), .val (.int (48 : Int32)), .val (.int ((44 : Int32) + (p2 &&& (15 : Int32))))] [(.int (1 : Int32))])) _
          refine XS.goto X29.here hx rfl (pc0 := 82) (pc' := 86) rfl (hb hby at_82) (by decide) (by decide) ?_
          show Steps p.tables e below (T29.setTop (mkF m 86 #[.val (.int p0), .val (.int p1), .val (.int p2), .val (.int (0 : Int32)), .val (.ref w_1), .val (.int (48 : Int32)), .val (.int ((44 : Int32) + (p2 &&& (15 : Int32))))] [(.int (1 : Int32))])) _
          exact retN X29 hx (t := .boolean) Bd.returns (by simp) (hb hby at_86) hr
        · show Q0 Z w_1 w_2 p0 p1 p2 h0 n0 _ T29.heap _
          rw [e29]
          exact ⟨by unfold sp0; rw [if_pos hc8, if_pos hc27, if_pos hc31], N29, rfl⟩
      · obtain ⟨fs, hr, hrun, hended, hW, hsame⟩ := X29.leave (v := some (.int (0 : Int32))) (fun h => by rw [Bd.returns] at h; cases h)
        refine ⟨_, _, pre30 _ ?_, hrun, hended, _, _, rfl, ?_, ⟨_, rfl⟩, hW, hsame.mono (by decide) (by decide)⟩
        · show Steps p.tables e below (T29.setTop (mkF m 78 #[.val (.int p0), .val (.int p1), .val (.int p2), .val (.int (0 : Int32)), .val (.ref w_1), .val (.int (48 : Int32)), .val (.int ((44 : Int32) + (p2 &&& (15 : Int32))))] [(.int (sp2 (48 : Int32) ((44 : Int32) + (p2 &&& (15 : Int32))))), (.int (sp1 ((44 : Int32) + (p2 &&& (15 : Int32))) (48 : Int32)))])) _
          refine XS.icmpYes X29.here hx rfl (pc0 := 78) (pc' := 85) rfl (hb hby at_78) rfl (feq hc31).2 (by decide) (by decide) ?_
          show Steps p.tables e below (T29.setTop (mkF m 85 #[.val (.int p0), .val (.int p1), .val (.int p2), .val (.int (0 : Int32)), .val (.ref w_1), .val (.int (48 : Int32)), .val (.int ((44 : Int32) + (p2 &&& (15 : Int32))))] [])) _
          refine XS.iconst X29.here hx rfl (hb hby at_85) ?_
          show Steps p.tables e below (T29.setTop (mkF m 86 #[.val (.int p0), .val (.int p1), .val (.int p2), .val (.int (0 : Int32)), .val (.ref w_1), .val (.int (48 : Int32)), .val (.int ((44 : Int32) + (p2 &&& (15 : Int32))))] [(.int (0 : Int32))])) _
          exact retN X29 hx (t := .boolean) Bd.returns (by simp) (hb hby at_86) hr
        · show Q0 Z w_1 w_2 p0 p1 p2 h0 n0 _ T29.heap _
          rw [e29]
          exact ⟨by unfold sp0; rw [if_pos hc8, if_pos hc27, if_neg hc31], N29, rfl⟩
    · obtain ⟨fs, hr, hrun, hended, hW, hsame⟩ := X25.leave (v := some (.int (0 : Int32))) (fun h => by rw [Bd.returns] at h; cases h)
      refine ⟨_, _, pre26 _ ?_, hrun, hended, _, _, rfl, ?_, ⟨_, rfl⟩, hW, hsame.mono (by decide) (by decide)⟩
      · show Steps p.tables e below (T25.setTop (mkF m 61 #[.val (.int p0), .val (.int p1), .val (.int p2), .val (.int (0 : Int32)), .val (.ref w_1), .val (.int (48 : Int32)), .val (.int ((44 : Int32) + (p2 &&& (15 : Int32))))] [(.int (sp2 (48 : Int32) p1)), (.int (sp1 p1 (48 : Int32)))])) _
        refine XS.icmpYes X25.here hx rfl (pc0 := 61) (pc' := 85) rfl (hb hby at_61) rfl (feq hc27).2 (by decide) (by decide) ?_
        show Steps p.tables e below (T25.setTop (mkF m 85 #[.val (.int p0), .val (.int p1), .val (.int p2), .val (.int (0 : Int32)), .val (.ref w_1), .val (.int (48 : Int32)), .val (.int ((44 : Int32) + (p2 &&& (15 : Int32))))] [])) _
        refine XS.iconst X25.here hx rfl (hb hby at_85) ?_
        show Steps p.tables e below (T25.setTop (mkF m 86 #[.val (.int p0), .val (.int p1), .val (.int p2), .val (.int (0 : Int32)), .val (.ref w_1), .val (.int (48 : Int32)), .val (.int ((44 : Int32) + (p2 &&& (15 : Int32))))] [(.int (0 : Int32))])) _
        exact retN X25 hx (t := .boolean) Bd.returns (by simp) (hb hby at_86) hr
      · show Q0 Z w_1 w_2 p0 p1 p2 h0 n0 _ T25.heap _
        rw [e25]
        exact ⟨by unfold sp0; rw [if_pos hc8, if_neg hc27], N25, rfl⟩
  · obtain ⟨T32, X32, e32, st32⟩ := getS2 X0 hx hZ hown (host := "") (Or.inl (hw _ (tk 14 rfl))) Via.refl e0 (S_2.ext O0.2) (g := (mkF m 16 #[.val (.int p0), .val (.int p1), .val (.int p2), .val (.int (1 : Int32)), .unset, .unset, .unset] [])) rfl (hb hby at_16)
    obtain ⟨cq33, kq33, q33a, q33b, q33c⟩ := isOf hZ e32 (E_2.ext O0.2)
    obtain ⟨_, _, ⟨T33, L33, k33, n33⟩, -, X33, ⟨Lc33, hQ33, l33, y33, z33⟩, st33⟩ := X32.virtualBack hx (y := Y0) (z := Y0) hown (mvT hZ (hw _ (tk 3 rfl))) (mvT hZ (hw _ (tk 4 rfl))) (notFace_of_selects (args := #[]) (mvT hZ (hw _ (tk 6 rfl)))) (mvT hZ (hw _ (tk 6 rfl))) (mvT hZ (hw _ (tk 5 rfl))) (by decide) (backOf (W := 0) (rm1 l Z a0 hw [] w_1 w_2 hS0 w_2 p1 (52 : Int32) h0 n0 O0 (F_2_medium.ext O0.2)) hZ (hw _ (tk 7 rfl)) (hw _ (tk 1 rfl)) (by decide) (by decide)) q33a q33c (g := (mkF m 52 #[.val (.int p0), .val (.int p1), .val (.int p2), .val (.int (1 : Int32)), .val (.ref w_2), .val (.int (52 : Int32)), .val (.int ((44 : Int32) + (p2 &&& (15 : Int32))))] [(.int p1), (.ref w_2)])) rfl (by rw [hml]; rfl) (Steps.refl _) (argsL := [(.int p1)]) (rest := []) (lenOf pd_0 rfl) rfl (by show 2 * 0 + _ ≤ _; exact Nat.le_of_eq rfl) (hb hby at_52) (fun _ _ => ⟨rfl, e32, (by decide : 0 + 0 ≤ _), (by decide : 0 + 0 ≤ _)⟩)
    dsimp only [Pt.U, Pt.locs, Pt.cells, Pt.slots] at X33 l33 y33 z33 st33 hQ33
    subst l33 y33 z33
    obtain ⟨rv33, N33q, e33⟩ := hQ33
    subst rv33
    have N33 := Fr.app N0 N33q
    obtain ⟨_, _, ⟨T34, L34, k34, n34⟩, -, X34, ⟨Lc34, hQ34, l34, y34, z34⟩, st34⟩ := Jvm.LawKit.callS X33 hx (y := Y1) hown (mvT hZ (hw _ (tk 10 rfl))) (mvT hZ (hw _ (tk 11 rfl))) (mvT hZ (hw _ (tk 12 rfl))) (mvT hZ (hw _ (tk 13 rfl))) (by decide) (backOf (W := 1) (rm2 l Z a0 hw [] w_1 w_2 hS0 (52 : Int32) p1 h0 n0 O0) hZ (hw _ (tk 13 rfl)) (hw _ (tk 12 rfl)) (by decide) (by decide)) (g := (mkF m 58 #[.val (.int p0), .val (.int p1), .val (.int p2), .val (.int (1 : Int32)), .val (.ref w_2), .val (.int (52 : Int32)), .val (.int ((44 : Int32) + (p2 &&& (15 : Int32))))] [(.int p1), (.int (52 : Int32)), (.int (sp1 p1 (52 : Int32)))])) rfl (by rw [hml]; rfl) (argsL := [(.int (52 : Int32)), (.int p1)]) (rest := [(.int (sp1 p1 (52 : Int32)))]) (lenOf pd_1 rfl) rfl (by show 2 * 0 + _ ≤ _; exact Nat.le_of_eq rfl) (hb hby at_58) (fun _ _ => ⟨rfl, e33, (by decide : 0 + 0 ≤ _), (by decide : 0 + 0 ≤ _)⟩)
    dsimp only [Pt.U, Pt.locs, Pt.cells, Pt.slots] at X34 l34 y34 z34 st34 hQ34
    subst l34 y34 z34
    obtain ⟨rv34, N34q, e34⟩ := hQ34
    subst rv34
    have N34 := Fr.app N33 N34q
    have pre35 : ∀ t, Steps p.tables e below (T34.setTop (mkF m 61 #[.val (.int p0), .val (.int p1), .val (.int p2), .val (.int (1 : Int32)), .val (.ref w_2), .val (.int (52 : Int32)), .val (.int ((44 : Int32) + (p2 &&& (15 : Int32))))] [(.int (sp2 (52 : Int32) p1)), (.int (sp1 p1 (52 : Int32)))])) t → Steps p.tables e below (s₁.setTop (entryFrame m #[(.int p0), (.int p1), (.int p2)] maxLocals)) t := fun t kt => by
      refine pre7 t ?_
      show Steps p.tables e below (s₁.setTop (mkF m 3 #[.val (.int p0), .val (.int p1), .val (.int p2), .unset, .unset, .unset, .unset] [(.int (p0 &&& (1 : Int32)))])) _
      refine XS.ifNo X0.here hx rfl (hb hby at_3) rfl ((if0 _ _).trans (feq hc8).1) ?_
      show Steps p.tables e below (s₁.setTop (mkF m 6 #[.val (.int p0), .val (.int p1), .val (.int p2), .unset, .unset, .unset, .unset] [])) _
      refine XS.iconst X0.here hx rfl (hb hby at_6) ?_
      show Steps p.tables e below (s₁.setTop (mkF m 7 #[.val (.int p0), .val (.int p1), .val (.int p2), .unset, .unset, .unset, .unset] [(.int (1 : Int32))])) _
      refine XS.goto X0.here hx rfl (pc0 := 7) (pc' := 11) rfl (hb hby at_7) (by decide) (by decide) ?_
      show Steps p.tables e below (s₁.setTop (mkF m 11 #[.val (.int p0), .val (.int p1), .val (.int p2), .unset, .unset, .unset, .unset] [(.int (1 : Int32))])) _
      refine XS.istoreN X0.here hx rfl (hb hby at_11) rfl (l' := #[.val (.int p0), .val (.int p1), .val (.int p2), .val (.int (1 : Int32)), .unset, .unset, .unset]) rfl ?_
      show Steps p.tables e below (s₁.setTop (mkF m 12 #[.val (.int p0), .val (.int p1), .val (.int p2), .val (.int (1 : Int32)), .unset, .unset, .unset] [])) _
      refine XS.iloadN X0.here hx rfl (hb hby at_12) rfl ?_
      show Steps p.tables e below (s₁.setTop (mkF m 13 #[.val (.int p0), .val (.int p1), .val (.int p2), .val (.int (1 : Int32)), .unset, .unset, .unset] [(.int (1 : Int32))])) _
      refine XS.ifNo X0.here hx rfl (hb hby at_13) rfl ((if0 _ _).trans (feq (by decide : ¬ ((1 : Int32) = (0 : Int32)))).1) ?_
      show Steps p.tables e below (s₁.setTop (mkF m 16 #[.val (.int p0), .val (.int p1), .val (.int p2), .val (.int (1 : Int32)), .unset, .unset, .unset] [])) _
      refine st32 _ ?_
      show Steps p.tables e below (T32.setTop (mkF m 19 #[.val (.int p0), .val (.int p1), .val (.int p2), .val (.int (1 : Int32)), .unset, .unset, .unset] [(.ref w_2)])) _
      refine XS.goto X32.here hx rfl (pc0 := 19) (pc' := 25) rfl (hb hby at_19) (by decide) (by decide) ?_
      show Steps p.tables e below (T32.setTop (mkF m 25 #[.val (.int p0), .val (.int p1), .val (.int p2), .val (.int (1 : Int32)), .unset, .unset, .unset] [(.ref w_2)])) _
      refine XS.astore X32.here hx rfl (hb hby at_25) rfl rfl (l' := #[.val (.int p0), .val (.int p1), .val (.int p2), .val (.int (1 : Int32)), .val (.ref w_2), .unset, .unset]) rfl ?_
      show Steps p.tables e below (T32.setTop (mkF m 27 #[.val (.int p0), .val (.int p1), .val (.int p2), .val (.int (1 : Int32)), .val (.ref w_2), .unset, .unset] [])) _
      refine XS.iloadN X32.here hx rfl (hb hby at_27) rfl ?_
      show Steps p.tables e below (T32.setTop (mkF m 28 #[.val (.int p0), .val (.int p1), .val (.int p2), .val (.int (1 : Int32)), .val (.ref w_2), .unset, .unset] [(.int (1 : Int32))])) _
      refine XS.ifNo X32.here hx rfl (hb hby at_28) rfl ((if0 _ _).trans (feq (by decide : ¬ ((1 : Int32) = (0 : Int32)))).1) ?_
      show Steps p.tables e below (T32.setTop (mkF m 31 #[.val (.int p0), .val (.int p1), .val (.int p2), .val (.int (1 : Int32)), .val (.ref w_2), .unset, .unset] [])) _
      refine XS.bipush X32.here hx rfl (hb hby at_31) ?_
      show Steps p.tables e below (T32.setTop (mkF m 33 #[.val (.int p0), .val (.int p1), .val (.int p2), .val (.int (1 : Int32)), .val (.ref w_2), .unset, .unset] [(.int (52 : Int32))])) _
      refine XS.goto X32.here hx rfl (pc0 := 33) (pc' := 38) rfl (hb hby at_33) (by decide) (by decide) ?_
      show Steps p.tables e below (T32.setTop (mkF m 38 #[.val (.int p0), .val (.int p1), .val (.int p2), .val (.int (1 : Int32)), .val (.ref w_2), .unset, .unset] [(.int (52 : Int32))])) _
      refine XS.istore X32.here hx rfl (hb hby at_38) rfl (l' := #[.val (.int p0), .val (.int p1), .val (.int p2), .val (.int (1 : Int32)), .val (.ref w_2), .val (.int (52 : Int32)), .unset]) rfl ?_
      show Steps p.tables e below (T32.setTop (mkF m 40 #[.val (.int p0), .val (.int p1), .val (.int p2), .val (.int (1 : Int32)), .val (.ref w_2), .val (.int (52 : Int32)), .unset] [])) _
      refine XS.bipush X32.here hx rfl (hb hby at_40) ?_
      show Steps p.tables e below (T32.setTop (mkF m 42 #[.val (.int p0), .val (.int p1), .val (.int p2), .val (.int (1 : Int32)), .val (.ref w_2), .val (.int (52 : Int32)), .unset] [(.int (44 : Int32))])) _
      refine XS.iloadN X32.here hx rfl (hb hby at_42) rfl ?_
      show Steps p.tables e below (T32.setTop (mkF m 43 #[.val (.int p0), .val (.int p1), .val (.int p2), .val (.int (1 : Int32)), .val (.ref w_2), .val (.int (52 : Int32)), .unset] [(.int p2), (.int (44 : Int32))])) _
      refine XS.bipush X32.here hx rfl (hb hby at_43) ?_
      show Steps p.tables e below (T32.setTop (mkF m 45 #[.val (.int p0), .val (.int p1), .val (.int p2), .val (.int (1 : Int32)), .val (.ref w_2), .val (.int (52 : Int32)), .unset] [(.int (15 : Int32)), (.int p2), (.int (44 : Int32))])) _
      refine XS.iand X32.here hx rfl (hb hby at_45) rfl ?_
      show Steps p.tables e below (T32.setTop (mkF m 46 #[.val (.int p0), .val (.int p1), .val (.int p2), .val (.int (1 : Int32)), .val (.ref w_2), .val (.int (52 : Int32)), .unset] [(.int (p2 &&& (15 : Int32))), (.int (44 : Int32))])) _
      refine XS.iadd X32.here hx rfl (hb hby at_46) rfl ?_
      show Steps p.tables e below (T32.setTop (mkF m 47 #[.val (.int p0), .val (.int p1), .val (.int p2), .val (.int (1 : Int32)), .val (.ref w_2), .val (.int (52 : Int32)), .unset] [(.int ((44 : Int32) + (p2 &&& (15 : Int32))))])) _
      refine XS.istore X32.here hx rfl (hb hby at_47) rfl (l' := #[.val (.int p0), .val (.int p1), .val (.int p2), .val (.int (1 : Int32)), .val (.ref w_2), .val (.int (52 : Int32)), .val (.int ((44 : Int32) + (p2 &&& (15 : Int32))))]) rfl ?_
      show Steps p.tables e below (T32.setTop (mkF m 49 #[.val (.int p0), .val (.int p1), .val (.int p2), .val (.int (1 : Int32)), .val (.ref w_2), .val (.int (52 : Int32)), .val (.int ((44 : Int32) + (p2 &&& (15 : Int32))))] [])) _
      refine XS.aload X32.here hx rfl (hb hby at_49) rfl rfl ?_
      show Steps p.tables e below (T32.setTop (mkF m 51 #[.val (.int p0), .val (.int p1), .val (.int p2), .val (.int (1 : Int32)), .val (.ref w_2), .val (.int (52 : Int32)), .val (.int ((44 : Int32) + (p2 &&& (15 : Int32))))] [(.ref w_2)])) _
      refine XS.iloadN X32.here hx rfl (hb hby at_51) rfl ?_
      show Steps p.tables e below (T32.setTop (mkF m 52 #[.val (.int p0), .val (.int p1), .val (.int p2), .val (.int (1 : Int32)), .val (.ref w_2), .val (.int (52 : Int32)), .val (.int ((44 : Int32) + (p2 &&& (15 : Int32))))] [(.int p1), (.ref w_2)])) _
      refine st33.trans ?_
      show Steps p.tables e below (T33.setTop (mkF m 55 #[.val (.int p0), .val (.int p1), .val (.int p2), .val (.int (1 : Int32)), .val (.ref w_2), .val (.int (52 : Int32)), .val (.int ((44 : Int32) + (p2 &&& (15 : Int32))))] [(.int (sp1 p1 (52 : Int32)))])) _
      refine XS.iload X33.here hx rfl (hb hby at_55) rfl ?_
      show Steps p.tables e below (T33.setTop (mkF m 57 #[.val (.int p0), .val (.int p1), .val (.int p2), .val (.int (1 : Int32)), .val (.ref w_2), .val (.int (52 : Int32)), .val (.int ((44 : Int32) + (p2 &&& (15 : Int32))))] [(.int (52 : Int32)), (.int (sp1 p1 (52 : Int32)))])) _
      refine XS.iloadN X33.here hx rfl (hb hby at_57) rfl ?_
      show Steps p.tables e below (T33.setTop (mkF m 58 #[.val (.int p0), .val (.int p1), .val (.int p2), .val (.int (1 : Int32)), .val (.ref w_2), .val (.int (52 : Int32)), .val (.int ((44 : Int32) + (p2 &&& (15 : Int32))))] [(.int p1), (.int (52 : Int32)), (.int (sp1 p1 (52 : Int32)))])) _
      refine st34 _ ?_
      show Steps p.tables e below (T34.setTop (mkF m 61 #[.val (.int p0), .val (.int p1), .val (.int p2), .val (.int (1 : Int32)), .val (.ref w_2), .val (.int (52 : Int32)), .val (.int ((44 : Int32) + (p2 &&& (15 : Int32))))] [(.int (sp2 (52 : Int32) p1)), (.int (sp1 p1 (52 : Int32)))])) _
      exact kt
    by_cases hc36 : (sp1 p1 (52 : Int32)) = (sp2 (52 : Int32) p1)
    · obtain ⟨cq37, kq37, q37a, q37b, q37c⟩ := isOf hZ e34 (E_2.ext O0.2)
      obtain ⟨_, _, ⟨T37, L37, k37, n37⟩, -, X37, ⟨Lc37, hQ37, l37, y37, z37⟩, st37⟩ := X34.virtualBack hx (y := Y0) (z := Y0) hown (mvT hZ (hw _ (tk 3 rfl))) (mvT hZ (hw _ (tk 4 rfl))) (notFace_of_selects (args := #[]) (mvT hZ (hw _ (tk 6 rfl)))) (mvT hZ (hw _ (tk 6 rfl))) (mvT hZ (hw _ (tk 5 rfl))) (by decide) (backOf (W := 0) (rm1 l Z a0 hw [] w_1 w_2 hS0 w_2 ((44 : Int32) + (p2 &&& (15 : Int32))) (52 : Int32) h0 n0 O0 (F_2_medium.ext O0.2)) hZ (hw _ (tk 7 rfl)) (hw _ (tk 1 rfl)) (by decide) (by decide)) q37a q37c (g := (mkF m 68 #[.val (.int p0), .val (.int p1), .val (.int p2), .val (.int (1 : Int32)), .val (.ref w_2), .val (.int (52 : Int32)), .val (.int ((44 : Int32) + (p2 &&& (15 : Int32))))] [(.int ((44 : Int32) + (p2 &&& (15 : Int32)))), (.ref w_2)])) rfl (by rw [hml]; rfl) (Steps.refl _) (argsL := [(.int ((44 : Int32) + (p2 &&& (15 : Int32))))]) (rest := []) (lenOf pd_0 rfl) rfl (by show 2 * 0 + _ ≤ _; exact Nat.le_of_eq rfl) (hb hby at_68) (fun _ _ => ⟨rfl, e34, (by decide : 0 + 0 ≤ _), (by decide : 0 + 0 ≤ _)⟩)
      dsimp only [Pt.U, Pt.locs, Pt.cells, Pt.slots] at X37 l37 y37 z37 st37 hQ37
      subst l37 y37 z37
      obtain ⟨rv37, N37q, e37⟩ := hQ37
      subst rv37
      have N37 := Fr.app N34 N37q
      obtain ⟨_, _, ⟨T38, L38, k38, n38⟩, -, X38, ⟨Lc38, hQ38, l38, y38, z38⟩, st38⟩ := Jvm.LawKit.callS X37 hx (y := Y1) hown (mvT hZ (hw _ (tk 10 rfl))) (mvT hZ (hw _ (tk 11 rfl))) (mvT hZ (hw _ (tk 12 rfl))) (mvT hZ (hw _ (tk 13 rfl))) (by decide) (backOf (W := 1) (rm2 l Z a0 hw [] w_1 w_2 hS0 (52 : Int32) ((44 : Int32) + (p2 &&& (15 : Int32))) h0 n0 O0) hZ (hw _ (tk 13 rfl)) (hw _ (tk 12 rfl)) (by decide) (by decide)) (g := (mkF m 75 #[.val (.int p0), .val (.int p1), .val (.int p2), .val (.int (1 : Int32)), .val (.ref w_2), .val (.int (52 : Int32)), .val (.int ((44 : Int32) + (p2 &&& (15 : Int32))))] [(.int ((44 : Int32) + (p2 &&& (15 : Int32)))), (.int (52 : Int32)), (.int (sp1 ((44 : Int32) + (p2 &&& (15 : Int32))) (52 : Int32)))])) rfl (by rw [hml]; rfl) (argsL := [(.int (52 : Int32)), (.int ((44 : Int32) + (p2 &&& (15 : Int32))))]) (rest := [(.int (sp1 ((44 : Int32) + (p2 &&& (15 : Int32))) (52 : Int32)))]) (lenOf pd_1 rfl) rfl (by show 2 * 0 + _ ≤ _; exact Nat.le_of_eq rfl) (hb hby at_75) (fun _ _ => ⟨rfl, e37, (by decide : 0 + 0 ≤ _), (by decide : 0 + 0 ≤ _)⟩)
      dsimp only [Pt.U, Pt.locs, Pt.cells, Pt.slots] at X38 l38 y38 z38 st38 hQ38
      subst l38 y38 z38
      obtain ⟨rv38, N38q, e38⟩ := hQ38
      subst rv38
      have N38 := Fr.app N37 N38q
      have pre39 : ∀ t, Steps p.tables e below (T38.setTop (mkF m 78 #[.val (.int p0), .val (.int p1), .val (.int p2), .val (.int (1 : Int32)), .val (.ref w_2), .val (.int (52 : Int32)), .val (.int ((44 : Int32) + (p2 &&& (15 : Int32))))] [(.int (sp2 (52 : Int32) ((44 : Int32) + (p2 &&& (15 : Int32))))), (.int (sp1 ((44 : Int32) + (p2 &&& (15 : Int32))) (52 : Int32)))])) t → Steps p.tables e below (s₁.setTop (entryFrame m #[(.int p0), (.int p1), (.int p2)] maxLocals)) t := fun t kt => by
        refine pre35 t ?_
        show Steps p.tables e below (T34.setTop (mkF m 61 #[.val (.int p0), .val (.int p1), .val (.int p2), .val (.int (1 : Int32)), .val (.ref w_2), .val (.int (52 : Int32)), .val (.int ((44 : Int32) + (p2 &&& (15 : Int32))))] [(.int (sp2 (52 : Int32) p1)), (.int (sp1 p1 (52 : Int32)))])) _
        refine XS.icmpNo X34.here hx rfl (hb hby at_61) rfl (teq hc36).2 ?_
        show Steps p.tables e below (T34.setTop (mkF m 64 #[.val (.int p0), .val (.int p1), .val (.int p2), .val (.int (1 : Int32)), .val (.ref w_2), .val (.int (52 : Int32)), .val (.int ((44 : Int32) + (p2 &&& (15 : Int32))))] [])) _
        refine XS.aload X34.here hx rfl (hb hby at_64) rfl rfl ?_
        show Steps p.tables e below (T34.setTop (mkF m 66 #[.val (.int p0), .val (.int p1), .val (.int p2), .val (.int (1 : Int32)), .val (.ref w_2), .val (.int (52 : Int32)), .val (.int ((44 : Int32) + (p2 &&& (15 : Int32))))] [(.ref w_2)])) _
        refine XS.iload X34.here hx rfl (hb hby at_66) rfl ?_
        show Steps p.tables e below (T34.setTop (mkF m 68 #[.val (.int p0), .val (.int p1), .val (.int p2), .val (.int (1 : Int32)), .val (.ref w_2), .val (.int (52 : Int32)), .val (.int ((44 : Int32) + (p2 &&& (15 : Int32))))] [(.int ((44 : Int32) + (p2 &&& (15 : Int32)))), (.ref w_2)])) _
        refine st37.trans ?_
        show Steps p.tables e below (T37.setTop (mkF m 71 #[.val (.int p0), .val (.int p1), .val (.int p2), .val (.int (1 : Int32)), .val (.ref w_2), .val (.int (52 : Int32)), .val (.int ((44 : Int32) + (p2 &&& (15 : Int32))))] [(.int (sp1 ((44 : Int32) + (p2 &&& (15 : Int32))) (52 : Int32)))])) _
        refine XS.iload X37.here hx rfl (hb hby at_71) rfl ?_
        show Steps p.tables e below (T37.setTop (mkF m 73 #[.val (.int p0), .val (.int p1), .val (.int p2), .val (.int (1 : Int32)), .val (.ref w_2), .val (.int (52 : Int32)), .val (.int ((44 : Int32) + (p2 &&& (15 : Int32))))] [(.int (52 : Int32)), (.int (sp1 ((44 : Int32) + (p2 &&& (15 : Int32))) (52 : Int32)))])) _
        refine XS.iload X37.here hx rfl (hb hby at_73) rfl ?_
        show Steps p.tables e below (T37.setTop (mkF m 75 #[.val (.int p0), .val (.int p1), .val (.int p2), .val (.int (1 : Int32)), .val (.ref w_2), .val (.int (52 : Int32)), .val (.int ((44 : Int32) + (p2 &&& (15 : Int32))))] [(.int ((44 : Int32) + (p2 &&& (15 : Int32)))), (.int (52 : Int32)), (.int (sp1 ((44 : Int32) + (p2 &&& (15 : Int32))) (52 : Int32)))])) _
        refine st38 _ ?_
        show Steps p.tables e below (T38.setTop (mkF m 78 #[.val (.int p0), .val (.int p1), .val (.int p2), .val (.int (1 : Int32)), .val (.ref w_2), .val (.int (52 : Int32)), .val (.int ((44 : Int32) + (p2 &&& (15 : Int32))))] [(.int (sp2 (52 : Int32) ((44 : Int32) + (p2 &&& (15 : Int32))))), (.int (sp1 ((44 : Int32) + (p2 &&& (15 : Int32))) (52 : Int32)))])) _
        exact kt
      by_cases hc40 : (sp1 ((44 : Int32) + (p2 &&& (15 : Int32))) (52 : Int32)) = (sp2 (52 : Int32) ((44 : Int32) + (p2 &&& (15 : Int32))))
      · obtain ⟨fs, hr, hrun, hended, hW, hsame⟩ := X38.leave (v := some (.int (1 : Int32))) (fun h => by rw [Bd.returns] at h; cases h)
        refine ⟨_, _, pre39 _ ?_, hrun, hended, _, _, rfl, ?_, ⟨_, rfl⟩, hW, hsame.mono (by decide) (by decide)⟩
        · show Steps p.tables e below (T38.setTop (mkF m 78 #[.val (.int p0), .val (.int p1), .val (.int p2), .val (.int (1 : Int32)), .val (.ref w_2), .val (.int (52 : Int32)), .val (.int ((44 : Int32) + (p2 &&& (15 : Int32))))] [(.int (sp2 (52 : Int32) ((44 : Int32) + (p2 &&& (15 : Int32))))), (.int (sp1 ((44 : Int32) + (p2 &&& (15 : Int32))) (52 : Int32)))])) _
          refine XS.icmpNo X38.here hx rfl (hb hby at_78) rfl (teq hc40).2 ?_
          show Steps p.tables e below (T38.setTop (mkF m 81 #[.val (.int p0), .val (.int p1), .val (.int p2), .val (.int (1 : Int32)), .val (.ref w_2), .val (.int (52 : Int32)), .val (.int ((44 : Int32) + (p2 &&& (15 : Int32))))] [])) _
          refine XS.iconst X38.here hx rfl (hb hby at_81) ?_
          show Steps p.tables e below (T38.setTop (mkF m 82 #[.val (.int p0), .val (.int p1), .val (.int p2), .val (.int (1 : Int32)), .val (.ref w_2), .val (.int (52 : Int32)), .val (.int ((44 : Int32) + (p2 &&& (15 : Int32))))] [(.int (1 : Int32))])) _
          refine XS.goto X38.here hx rfl (pc0 := 82) (pc' := 86) rfl (hb hby at_82) (by decide) (by decide) ?_
          show Steps p.tables e below (T38.setTop (mkF m 86 #[.val (.int p0), .val (.int p1), .val (.int p2), .val (.int (1 : Int32)), .val (.ref w_2), .val (.int (52 : Int32)), .val (.int ((44 : Int32) + (p2 &&& (15 : Int32))))] [(.int (1 : Int32))])) _
          exact retN X38 hx (t := .boolean) Bd.returns (by simp) (hb hby at_86) hr
        · show Q0 Z w_1 w_2 p0 p1 p2 h0 n0 _ T38.heap _
          rw [e38]
          exact ⟨by unfold sp0; rw [if_neg hc8, if_pos hc36, if_pos hc40], N38, rfl⟩
      · obtain ⟨fs, hr, hrun, hended, hW, hsame⟩ := X38.leave (v := some (.int (0 : Int32))) (fun h => by rw [Bd.returns] at h; cases h)
        refine ⟨_, _, pre39 _ ?_, hrun, hended, _, _, rfl, ?_, ⟨_, rfl⟩, hW, hsame.mono (by decide) (by decide)⟩
        · show Steps p.tables e below (T38.setTop (mkF m 78 #[.val (.int p0), .val (.int p1), .val (.int p2), .val (.int (1 : Int32)), .val (.ref w_2), .val (.int (52 : Int32)), .val (.int ((44 : Int32) + (p2 &&& (15 : Int32))))] [(.int (sp2 (52 : Int32) ((44 : Int32) + (p2 &&& (15 : Int32))))), (.int (sp1 ((44 : Int32) + (p2 &&& (15 : Int32))) (52 : Int32)))])) _
          refine XS.icmpYes X38.here hx rfl (pc0 := 78) (pc' := 85) rfl (hb hby at_78) rfl (feq hc40).2 (by decide) (by decide) ?_
          show Steps p.tables e below (T38.setTop (mkF m 85 #[.val (.int p0), .val (.int p1), .val (.int p2), .val (.int (1 : Int32)), .val (.ref w_2), .val (.int (52 : Int32)), .val (.int ((44 : Int32) + (p2 &&& (15 : Int32))))] [])) _
          refine XS.iconst X38.here hx rfl (hb hby at_85) ?_
          show Steps p.tables e below (T38.setTop (mkF m 86 #[.val (.int p0), .val (.int p1), .val (.int p2), .val (.int (1 : Int32)), .val (.ref w_2), .val (.int (52 : Int32)), .val (.int ((44 : Int32) + (p2 &&& (15 : Int32))))] [(.int (0 : Int32))])) _
          exact retN X38 hx (t := .boolean) Bd.returns (by simp) (hb hby at_86) hr
        · show Q0 Z w_1 w_2 p0 p1 p2 h0 n0 _ T38.heap _
          rw [e38]
          exact ⟨by unfold sp0; rw [if_neg hc8, if_pos hc36, if_neg hc40], N38, rfl⟩
    · obtain ⟨fs, hr, hrun, hended, hW, hsame⟩ := X34.leave (v := some (.int (0 : Int32))) (fun h => by rw [Bd.returns] at h; cases h)
      refine ⟨_, _, pre35 _ ?_, hrun, hended, _, _, rfl, ?_, ⟨_, rfl⟩, hW, hsame.mono (by decide) (by decide)⟩
      · show Steps p.tables e below (T34.setTop (mkF m 61 #[.val (.int p0), .val (.int p1), .val (.int p2), .val (.int (1 : Int32)), .val (.ref w_2), .val (.int (52 : Int32)), .val (.int ((44 : Int32) + (p2 &&& (15 : Int32))))] [(.int (sp2 (52 : Int32) p1)), (.int (sp1 p1 (52 : Int32)))])) _
        refine XS.icmpYes X34.here hx rfl (pc0 := 61) (pc' := 85) rfl (hb hby at_61) rfl (feq hc36).2 (by decide) (by decide) ?_
        show Steps p.tables e below (T34.setTop (mkF m 85 #[.val (.int p0), .val (.int p1), .val (.int p2), .val (.int (1 : Int32)), .val (.ref w_2), .val (.int (52 : Int32)), .val (.int ((44 : Int32) + (p2 &&& (15 : Int32))))] [])) _
        refine XS.iconst X34.here hx rfl (hb hby at_85) ?_
        show Steps p.tables e below (T34.setTop (mkF m 86 #[.val (.int p0), .val (.int p1), .val (.int p2), .val (.int (1 : Int32)), .val (.ref w_2), .val (.int (52 : Int32)), .val (.int ((44 : Int32) + (p2 &&& (15 : Int32))))] [(.int (0 : Int32))])) _
        exact retN X34 hx (t := .boolean) Bd.returns (by simp) (hb hby at_86) hr
      · show Q0 Z w_1 w_2 p0 p1 p2 h0 n0 _ T34.heap _
        rw [e34]
        exact ⟨by unfold sp0; rw [if_neg hc8, if_neg hc36], N34, rfl⟩
theorem own_med (x b b1 b2 b3 : Int32) (n : Int) (h0 : b.toInt = n) (e1 : b + 1 = b1) (e2 : b + 2 = b2) (e3 : b + 3 = b3) (h1 : b1.toInt = n + 1) (h2 : b2.toInt = n + 2) (h3 : b3.toInt = n + 3) : sp1 x b = sp2 b x := by
  unfold sp1 sp2
  rw [e1, e2, e3]
  by_cases q0 : x = b
  · subst q0
    rw [if_neg (by rw [Int32.lt_iff_toInt_lt]; omega), if_neg (by rw [Int32.lt_iff_toInt_lt]; omega), if_pos rfl]
  by_cases q1 : x = b1
  · subst q1
    rw [if_neg (by rw [Int32.lt_iff_toInt_lt]; omega), if_neg (by rw [Int32.lt_iff_toInt_lt]; omega), if_neg q0, if_pos rfl]
  by_cases q2 : x = b2
  · subst q2
    rw [if_neg (by rw [Int32.lt_iff_toInt_lt]; omega), if_neg (by rw [Int32.lt_iff_toInt_lt]; omega), if_neg q0, if_neg q1, if_pos rfl]
  by_cases q3 : x = b3
  · subst q3
    rw [if_neg (by rw [Int32.lt_iff_toInt_lt]; omega), if_neg (by rw [Int32.lt_iff_toInt_lt]; omega), if_neg q0, if_neg q1, if_neg q2, if_pos rfl]
  rw [if_neg q0, if_neg q1, if_neg q2, if_neg q3]
  have r0 := own_ne q0 h0
  have r1 := own_ne q1 h1
  have r2 := own_ne q2 h2
  have r3 := own_ne q3 h3
  split
  · rfl
  · split
    · rfl
    · rename_i g1 g2
      rw [Int32.lt_iff_toInt_lt] at g1 g2
      omega
theorem own_48 (x : Int32) : sp1 x 48 = sp2 48 x := own_med x 48 49 50 51 48 (by decide) (by decide) (by decide) (by decide) (by decide) (by decide) (by decide)
theorem own_52 (x : Int32) : sp1 x 52 = sp2 52 x := own_med x 52 53 54 55 52 (by decide) (by decide) (by decide) (by decide) (by decide) (by decide) (by decide)
theorem own_plain (p0 : Int32) (p1 : Int32) (p2 : Int32) : sp0 p0 p1 p2 = (1 : Int32) := by
  unfold sp0
  simp only [own_48, own_52, if_true]
  split <;> rfl
set_option maxRecDepth 65536 in
set_option maxHeartbeats 40000000 in
theorem comes_1 {Post : Tables → Env → Array Value → State → Outcome → State → Prop} (hpost : ∀ tb e args s v u, (limb_1_1.after args s (.returned v) u = true ∧ limb_1_2.after args s (.returned v) u = true ∧ True) → FrameEnd s (.returned v) u (Jvm.fieldLocs frame_1_writes args s ++ Jvm.arrayLocs frame_1_arrays args s ++ Jvm.staticLocs frame_1_statics s) 0 0 → Post tb e args s (.returned v) u) :
    ArmFor flags0 classFile x code maxLocals ret World_1 tables_1 room_1 Calls_1 rest_1 Pre_1 Post := by
  intro l hfl _ _ p e ha hc hk s m args below hf hA hF happ hP
  obtain ⟨hcalls, hrest, hpre⟩ := hP
  obtain ⟨-, -, -, hnamed, -, -, -, hat⟩ := (Spec.applies_iff hf).mp happ
  obtain ⟨hg, hn⟩ := and_e (Cond.before_iff.mp (show (Jvm.Cond.and given_1 narrow_1).before args s = true from hpre))
  obtain ⟨g41, g42⟩ := and_e hg
  obtain ⟨g43, g44⟩ := and_e g42
  obtain ⟨g45, g46⟩ := and_e g44
  obtain ⟨w0, w1, w2, rfl⟩ : ∃ w0 w1 w2 : Value, args = #[w0, w1, w2] := by
    have hs : args.size = 3 := by simpa [Cond.value, given_1] using g41
    obtain ⟨L⟩ := args
    match L, hs with
    | [w0, w1, w2], _ => exact ⟨w0, w1, w2, rfl⟩
  have hw := fun d (hd : d ∈ tables_1) => atoms_spec (ws := Jvm.Cond.code x code maxLocals ret :: tables_1) hat d (List.mem_cons_of_mem _ hd)
  have hfit : Fit s := fun {y c} hc i hi => by
    obtain ⟨ha, rfl⟩ := Array.getElem?_eq_some_iff.mp hc
    have q := List.all_eq_true.mp ((Array.all_eq_true_iff_forall_mem.mp hF) _ (Array.getElem_mem ha)) i (List.mem_range.mpr hi)
    simpa [Array.getElem?_eq_getElem hi] using q
  obtain ⟨i0, ei0⟩ := is_v g43
  obtain rfl : w0 = (.int i0) := Option.some.inj ei0
  obtain ⟨i1, ei1⟩ := is_v g45
  obtain rfl : w1 = (.int i1) := Option.some.inj ei1
  obtain ⟨i2, ei2⟩ := is_v g46
  obtain rfl : w2 = (.int i2) := Option.some.inj ei2
  obtain ⟨n1, n2⟩ := and_e hn
  obtain ⟨n3, n4⟩ := and_e n2
  obtain ⟨n5, n6⟩ := and_e n4
  obtain ⟨w_1, ew_1⟩ := exa_v n1
  have S_1 : Sta s s.heap "com/example/waystone/waystone/hessian/ChunkCodes" "STRING" "Lcom/example/waystone/waystone/hessian/ChunkCodes;" (.ref w_1) := Sta.start ew_1 (Or.inr ⟨(hw _ (tk 1 rfl)), (hw _ (tk 2 rfl))⟩)
  have E_1 : Exa s s.heap w_1 "com/example/waystone/waystone/hessian/ChunkCodes" := Exa.start ew_1 n1
  obtain ⟨w_2, ew_2⟩ := exa_v n5
  have S_2 : Sta s s.heap "com/example/waystone/waystone/hessian/ChunkCodes" "BINARY" "Lcom/example/waystone/waystone/hessian/ChunkCodes;" (.ref w_2) := Sta.start ew_2 (Or.inr ⟨(hw _ (tk 1 rfl)), (hw _ (tk 15 rfl))⟩)
  have E_2 : Exa s s.heap w_2 "com/example/waystone/waystone/hessian/ChunkCodes" := Exa.start ew_2 n5
  have F_1_medium : Fld s s.heap w_1 "com/example/waystone/waystone/hessian/ChunkCodes" "medium" "I" (.int (48 : Int32)) := own_fld ew_1 n3
  have F_2_medium : Fld s s.heap w_2 "com/example/waystone/waystone/hessian/ChunkCodes" "medium" "I" (.int (52 : Int32)) := own_fld ew_2 n6
  have hS : StF s w_1 w_2 := ⟨S_1, E_1, S_2, E_2, F_1_medium, F_2_medium⟩
  obtain ⟨n, o, h1, h2, h3, _, L, rfl, ⟨hv, N, -⟩, hq⟩ := rm0 l s _ hw tables_1 w_1 w_2 hS i0 i1 i2 s.heap s.heap.size (Old.start s) p e ha hc hk s m _ below hf ((Spec.applies_iff_loose hf).mp happ).1 ⟨rfl, State.Warmed39.refl s, rfl⟩ trivial
  rw [own_plain i0 i1 i2] at hv
  subst hv
  refine ⟨n, _, h1, h2, h3, hpost _ _ _ _ _ _ ⟨Cond.after_iff.mpr rfl, Cond.after_iff.mpr (eq_i res_at (Term.int_eval (1)) rfl), trivial⟩ ⟨hq.1, hq.2.1, (hq.2.2.sift fun y hy => Or.inr (N y hy)).mono (by decide) (by decide)⟩⟩
theorem main_1_1 : Claimed_1_1 := comes_1 fun _ _ _ _ _ _ h hF => ⟨h.1, hF⟩
theorem main_1_2 : Claimed_1_2 := comes_1 fun _ _ _ _ _ _ h hF => ⟨h.2.1, hF⟩
end Jvm.Pilot.@@N@@
namespace Jvm.Pilot.@@N@@
open Jvm Jvm.ClassFile Sem Op Lib Jvm.Free Jvm.Stand Jvm.Pilot.@@N@@.Jvm.D
/-! MADE BY PROGRAM (witnessworld.py) out of the Statement's table words and the real class files: 12 classes; the members and pool entries that the words name. The judged class is class 1, her method 1. -/
namespace start1
open Jvm.ClassFile
def u (s : String) : CpInfo := .utf8 (stringToUtf16 s)
/-- a pool by its gaps: so many unusable entries, then the entry; so many at the end -/
def gap : Nat → List CpInfo → List CpInfo
  | 0, r => r
  | n + 1, r => .unusable :: gap n r
def poolList (es : List (Nat × CpInfo)) (last : Nat) : List CpInfo := es.foldr (fun e r => gap e.1 (e.2 :: r)) (gap last [])
def pool (es : List (Nat × CpInfo)) (last : Nat) : Array CpInfo := ⟨poolList es last⟩
def fileOf (pool : Array CpInfo) (this : Nat) (attrs : Array Attribute := #[]) (ms : Array MethodInfo := #[]) (fl : Nat := 33) (sup : Nat := 0) (ifs : Array Nat := #[]) (fds : Array FieldInfo := #[]) : ClassFile where
  minorVersion := 0
  majorVersion := 65
  constantPool := pool
  accessFlags := fl
  thisClass := this
  superClass := sup
  interfaces := ifs
  fields := fds
  methods := ms
  attributes := attrs
def plain (name : String) (sup : Option ClassId) : Class where
  name := name
  kind := .ordinary
  loader := none
  accessFlags := 33
  super := sup
  interfaces := #[]
  cf := none
  fields := #[]
  methods := #[]
  instanceTypes := #[]
  staticTypes := #[]
  resolved := #[]
  callSites := []
  init := .initialized
  statics := none
  mirror := none

def pool0 : Array CpInfo := pool [(5, u "<init>"), (0, u "()V"), (1, .class_ 10), (1, u "java/lang/Object")] 113

def k0m0 : Method := { name := "<init>", desc := "()V", sig := { parameters := [], returnType := none }, accessFlags := 1, code := none }
/-- java/lang/Object -/
def k0 : Class := { plain "java/lang/Object" none with
  accessFlags := 33
  interfaces := #[]
  cf := some (fileOf pool0 8 #[] #[{ accessFlags := 1, nameIndex := 5, descriptorIndex := 6, attributes := #[] }] 33 0 #[] #[])
  fields := #[]
  methods := #[k0m0]
  instanceTypes := #[]
  staticTypes := #[]
  resolved := Array.replicate 124 none
  statics := none }

def pool1 : Array CpInfo := pool [(2, .class_ 4), (1, u "java/lang/Object"), (0, u "<init>"), (0, u "()V"), (0, .fieldref 8 9), (0, .class_ 10), (0, .nameAndType 11 12), (0, u "com/example/waystone/waystone/hessian/ChunkCodes"), (0, u "BINARY"), (0, u "Lcom/example/waystone/waystone/hessian/ChunkCodes;"), (0, .fieldref 8 14), (0, .nameAndType 15 12), (0, u "STRING"), (0, .methodref 8 17), (0, .nameAndType 18 19), (0, u "isMedium"), (0, u "(I)Z"), (0, .methodref 21 22), (0, .class_ 23), (0, .nameAndType 24 25), (0, u "com/example/waystone/waystone/hessian/ChunkCodesIsMediumPinLaw"), (0, u "ref"), (0, u "(II)Z"), (2, u "law"), (0, u "(III)Z")] 3

def k1m0 : Method := { name := "<init>", desc := "()V", sig := { parameters := [], returnType := none }, accessFlags := 1, code := none }
def k1c1 : Code := { maxStack := 3, maxLocals := 7, code := code, exceptionTable := #[], attributes := #[] }
def k1m1 : Method := { name := "law", desc := "(III)Z", sig := { parameters := [.int, .int, .int], returnType := some .boolean }, accessFlags := 9, code := some k1c1 }
def k1c2 : Code := { maxStack := 3, maxLocals := 2, code := method_3_code, exceptionTable := #[], attributes := #[] }
def k1m2 : Method := { name := "ref", desc := "(II)Z", sig := { parameters := [.int, .int], returnType := some .boolean }, accessFlags := 10, code := some k1c2 }
/-- com/example/waystone/waystone/hessian/ChunkCodesIsMediumPinLaw -/
def k1 : Class := { plain "com/example/waystone/waystone/hessian/ChunkCodesIsMediumPinLaw" (some 0) with
  accessFlags := 49
  interfaces := #[]
  cf := some (fileOf pool1 21 #[] #[{ accessFlags := 1, nameIndex := 5, descriptorIndex := 6, attributes := #[] }, { accessFlags := 9, nameIndex := 28, descriptorIndex := 29, attributes := #[] }, { accessFlags := 10, nameIndex := 24, descriptorIndex := 25, attributes := #[] }] 49 2 #[] #[])
  fields := #[]
  methods := #[k1m0, k1m1, k1m2]
  instanceTypes := #[]
  staticTypes := #[]
  resolved := Array.replicate 33 none
  statics := none }

def pool2 : Array CpInfo := pool [(1, .class_ 2), (0, u "java/lang/constant/Constable"), (0, .class_ 4), (0, u "java/lang/Object")] 6

/-- java/lang/constant/Constable -/
def k2 : Class := { plain "java/lang/constant/Constable" (some 0) with
  accessFlags := 1537
  interfaces := #[]
  cf := some (fileOf pool2 1 #[] #[] 1537 3 #[] #[])
  fields := #[]
  methods := #[]
  instanceTypes := #[]
  staticTypes := #[]
  resolved := Array.replicate 11 none
  statics := none }

def pool3 : Array CpInfo := pool [(1, .class_ 2), (0, u "java/lang/Comparable"), (0, .class_ 4), (0, u "java/lang/Object")] 7

/-- java/lang/Comparable -/
def k3 : Class := { plain "java/lang/Comparable" (some 0) with
  accessFlags := 1537
  interfaces := #[]
  cf := some (fileOf pool3 1 #[] #[] 1537 3 #[] #[])
  fields := #[]
  methods := #[]
  instanceTypes := #[]
  staticTypes := #[]
  resolved := Array.replicate 12 none
  statics := none }

def pool4 : Array CpInfo := pool [(1, .class_ 2), (0, u "java/io/Serializable"), (0, .class_ 4), (0, u "java/lang/Object")] 2

/-- java/io/Serializable -/
def k4 : Class := { plain "java/io/Serializable" (some 0) with
  accessFlags := 1537
  interfaces := #[]
  cf := some (fileOf pool4 1 #[] #[] 1537 3 #[] #[])
  fields := #[]
  methods := #[]
  instanceTypes := #[]
  staticTypes := #[]
  resolved := Array.replicate 7 none
  statics := none }

def pool5 : Array CpInfo := pool [(2, .class_ 4), (1, u "java/lang/Enum"), (0, u "name"), (0, u "Ljava/lang/String;"), (2, u "ordinal"), (0, u "I"), (1, .class_ 14), (1, u "java/lang/Object"), (4, u "hash"), (86, .class_ 108), (1, u "java/lang/Enum$EnumDesc"), (2, .class_ 112), (0, u "java/lang/constant/Constable"), (0, .class_ 114), (0, u "java/lang/Comparable"), (0, .class_ 116), (0, u "java/io/Serializable")] 87

/-- java/lang/Enum -/
def k5 : Class := { plain "java/lang/Enum" (some 0) with
  accessFlags := 1057
  interfaces := #[2, 3, 4]
  cf := some (fileOf pool5 2 #[.nestMembers #[106]] #[] 1057 12 #[111, 113, 115] #[{ accessFlags := 18, nameIndex := 5, descriptorIndex := 6, attributes := #[] }, { accessFlags := 18, nameIndex := 9, descriptorIndex := 10, attributes := #[] }, { accessFlags := 2, nameIndex := 19, descriptorIndex := 10, attributes := #[] }])
  fields := #[{ name := "name", type := (.object "java/lang/String"), accessFlags := 18, slot := 0, constantValue := 0 }, { name := "ordinal", type := .int, accessFlags := 18, slot := 1, constantValue := 0 }, { name := "hash", type := .int, accessFlags := 2, slot := 2, constantValue := 0 }]
  methods := #[]
  instanceTypes := #[(.object "java/lang/String"), .int, .int]
  staticTypes := #[]
  resolved := Array.replicate 204 none
  statics := none }

def pool6 : Array CpInfo := pool [(1, .class_ 2), (0, u "com/example/waystone/waystone/hessian/ChunkCodes"), (2, u "STRING"), (0, u "Lcom/example/waystone/waystone/hessian/ChunkCodes;"), (2, u "BINARY"), (2, u "$VALUES"), (0, u "[Lcom/example/waystone/waystone/hessian/ChunkCodes;"), (6, .class_ 22), (1, u "java/lang/Enum"), (8, u "more"), (0, u "I"), (2, u "last"), (2, u "compact"), (2, u "compactMax"), (0, .fieldref 1 43), (0, .nameAndType 44 32), (0, u "medium"), (3, u "(I)Z"), (2, u "isMedium"), (9, u "MEDIUM_MAX")] 16

def k6c0 : Code := { maxStack := 3, maxLocals := 2, code := prog_16_method_5_code, exceptionTable := #[], attributes := #[] }
def k6m0 : Method := { name := "isMedium", desc := "(I)Z", sig := { parameters := [.int], returnType := some .boolean }, accessFlags := 0, code := some k6c0 }
/-- com/example/waystone/waystone/hessian/ChunkCodes -/
def k6 : Class := { plain "com/example/waystone/waystone/hessian/ChunkCodes" (some 5) with
  accessFlags := 16432
  interfaces := #[]
  cf := some (fileOf pool6 1 #[] #[{ accessFlags := 0, nameIndex := 51, descriptorIndex := 48, attributes := #[] }] 16432 20 #[] #[{ accessFlags := 16409, nameIndex := 5, descriptorIndex := 6, attributes := #[] }, { accessFlags := 16409, nameIndex := 9, descriptorIndex := 6, attributes := #[] }, { accessFlags := 24, nameIndex := 61, descriptorIndex := 32, attributes := #[] }, { accessFlags := 16, nameIndex := 31, descriptorIndex := 32, attributes := #[] }, { accessFlags := 16, nameIndex := 35, descriptorIndex := 32, attributes := #[] }, { accessFlags := 16, nameIndex := 38, descriptorIndex := 32, attributes := #[] }, { accessFlags := 16, nameIndex := 41, descriptorIndex := 32, attributes := #[] }, { accessFlags := 16, nameIndex := 44, descriptorIndex := 32, attributes := #[] }, { accessFlags := 4122, nameIndex := 12, descriptorIndex := 13, attributes := #[] }])
  fields := #[{ name := "STRING", type := (.object "com/example/waystone/waystone/hessian/ChunkCodes"), accessFlags := 16409, slot := 0, constantValue := 0 }, { name := "BINARY", type := (.object "com/example/waystone/waystone/hessian/ChunkCodes"), accessFlags := 16409, slot := 1, constantValue := 0 }, { name := "MEDIUM_MAX", type := .int, accessFlags := 24, slot := 2, constantValue := 0 }, { name := "more", type := .int, accessFlags := 16, slot := 3, constantValue := 0 }, { name := "last", type := .int, accessFlags := 16, slot := 4, constantValue := 0 }, { name := "compact", type := .int, accessFlags := 16, slot := 5, constantValue := 0 }, { name := "compactMax", type := .int, accessFlags := 16, slot := 6, constantValue := 0 }, { name := "medium", type := .int, accessFlags := 16, slot := 7, constantValue := 0 }, { name := "$VALUES", type := (.array (.object "com/example/waystone/waystone/hessian/ChunkCodes")), accessFlags := 4122, slot := 3, constantValue := 0 }]
  methods := #[k6m0]
  instanceTypes := #[(.object "java/lang/String"), .int, .int, .int, .int, .int, .int, .int]
  staticTypes := #[(.object "com/example/waystone/waystone/hessian/ChunkCodes"), (.object "com/example/waystone/waystone/hessian/ChunkCodes"), .int, (.array (.object "com/example/waystone/waystone/hessian/ChunkCodes"))]
  resolved := Array.replicate 78 none
  statics := some 0 }

def pool7 : Array CpInfo := pool [(1, u "java/lang/Cloneable"), (0, .class_ 1), (0, u "java/lang/Object"), (0, .class_ 3)] 3

/-- java/lang/Cloneable -/
def k7 : Class := { plain "java/lang/Cloneable" (some 0) with
  accessFlags := 1537
  interfaces := #[]
  cf := some (fileOf pool7 2 #[] #[] 1537 4 #[] #[])
  fields := #[]
  methods := #[]
  instanceTypes := #[]
  staticTypes := #[]
  resolved := Array.replicate 8 none
  statics := none }

/-- the primitive byte -/
def k8 : Class := { plain "byte" none with kind := .primitive 'B', accessFlags := 0x411 }
/-- [B -/
def k9 : Class := { plain "[B" (some 0) with kind := .array 8 .byte, interfaces := #[7, 4], accessFlags := 1041 }

/-- the primitive int -/
def k10 : Class := { plain "int" none with kind := .primitive 'I', accessFlags := 0x411 }
/-- [I -/
def k11 : Class := { plain "[I" (some 0) with kind := .array 10 .int, interfaces := #[7, 4], accessFlags := 1041 }

def heap : Heap := #[{ cls := 6, slots := #[.ref 1, .ref 2, .int 0, .null], vm := .statics 6 },
  { cls := 6, slots := #[.null, .int 0, .int 0, .int 0, .int 0, .int 0, .int 0, .int 48], vm := .none },
  { cls := 6, slots := #[.null, .int 0, .int 0, .int 0, .int 0, .int 0, .int 0, .int 52], vm := .none }]
def classes : Array Class := #[k0, k1, k2, k3, k4, k5, k6, k7, k8, k9, k10, k11]
def interned : List (Array UInt16 × Addr) := []
def slotsUsed : Nat := 20
def theMethod : MethodId := ⟨1, 1⟩
def args0 : Array Value := #[.int 1, .int 2, .int 3]
def aboutOver (below : List Frame) : State where
  vm := { classes := classes, interned := interned.toArray }
  heap := heap
  slotsUsed := slotsUsed
  threads := #[{ frames := .invoking theMethod args0 :: below }]
def below0 : List Frame := [.native { method := ⟨0, 0⟩, args := #[] }]
def about1 : State := aboutOver below0
def p0 : Program := .bare "" "" ""
def e0 : Env := launch0.env 0 0 0
theorem w_frames : about1.frames = Frame.invoking theMethod args0 :: below0 := rfl
set_option maxRecDepth 65536 in
theorem w_args : argsFit about1.vm theMethod args0 = true := by decide +kernel
set_option maxRecDepth 65536 in
theorem w_heap : heapFits about1 = true := by decide +kernel
set_option maxRecDepth 65536 in
theorem w_runnable : about1.curStatus? = some .runnable := by decide +kernel
set_option maxRecDepth 65536 in
theorem w_alone : about1.alone = true := by decide +kernel
set_option maxRecDepth 65536 in
theorem w_named : about1.methodNamed? x = some theMethod := by decide +kernel
set_option maxRecDepth 65536 in
theorem w_hears : about1.hears theMethod below0 = true := by decide +kernel
set_option maxRecDepth 65536 in
theorem w_ripe : about1.ripe theMethod args0 below0 = true := by decide +kernel
theorem w_running : about1.status = .running := rfl
set_option maxRecDepth 65536 in
theorem w_room : about1.hasRoom e0.platform room_1 = true :=
  launch0.hasRoom_least _ room_1 (by decide +kernel) (by decide +kernel) (by decide +kernel) (by decide +kernel) (by decide +kernel) (by decide +kernel)
theorem allAtoms_all (ts : List Jvm.Cond) (a : Array Jvm.Value) (st : Jvm.State) : (allAtoms ts).before a st = ts.all (fun c => c.before a st) := by
  induction ts with
  | nil => rfl
  | cons c t ih =>
    show (Jvm.Cond.and c (allAtoms t)).before a st = _
    rw [Jvm.Cond.before_and, ih, List.all_cons]
def words1 : List Jvm.Cond := Jvm.Cond.code x code maxLocals ret :: tables_1
/-- a 'code' word, met by the world's own term for the bytes: nothing is compared byte by byte -/
theorem code_word {y : MethodName} {bytes : ByteArray} {mx : Nat} {rt : Option FieldType} {a : Array Value} {s : State} {m : MethodId} {meth : Method} {c : Code} (h1 : s.methodNamed? y = some m) (h2 : s.vm.method? m = some meth) (h3 : meth.code = some c) (h4 : c.code = bytes)
    (h5 : (c.maxLocals == mx && c.exceptionTable.isEmpty && decide (c.maxStack ≤ mostOperands) && decide (meth.sig.returnType = rt) && !meth.locks && decide (parseMethodDescriptor y.desc = some meth.sig)) = true) : (Jvm.Cond.code y bytes mx rt).before a s = true := by
  simp only [Bool.and_eq_true, beq_iff_eq, Bool.not_eq_true', decide_eq_true_eq] at h5
  obtain ⟨⟨⟨⟨⟨g1, g2⟩, g3⟩, g4⟩, g5⟩, g6⟩ := h5
  simp [Cond.before, Cond.holds, Cond.value, h1, h2, h3, h4, g1, g2, g3, g4, g5, g6]
def isCode : Jvm.Cond → Bool
  | .code _ _ _ _ => true
  | _ => false
theorem all_split {L : List Jvm.Cond} {P : Jvm.Cond → Bool} (h1 : L.all (fun c => isCode c || P c) = true) (h2 : ∀ c ∈ L.filter isCode, P c = true) : L.all P = true := by
  refine List.all_eq_true.mpr fun c hc => ?_
  have h := List.all_eq_true.mp h1 c hc
  rcases Bool.eq_false_or_eq_true (isCode c) with hi | hi
  · exact h2 c (List.mem_filter.mpr ⟨hc, hi⟩)
  · simpa [hi] using h
set_option maxRecDepth 65536 in
theorem w_c0 : (Jvm.Cond.code x code maxLocals ret).before args0 about1 = true := code_word (m := ⟨1, 1⟩) (meth := k1m1) (c := k1c1) (by decide +kernel) rfl rfl rfl (by decide +kernel)
set_option maxRecDepth 65536 in
theorem w_c1 : (Jvm.Cond.code ({ cls := "com/example/waystone/waystone/hessian/ChunkCodes", name := "isMedium", desc := "(I)Z" } : Jvm.MethodName) prog_16_method_5_code (2 : Nat) (Option.some Jvm.ClassFile.FieldType.boolean)).before args0 about1 = true := code_word (m := ⟨6, 0⟩) (meth := k6m0) (c := k6c0) (by decide +kernel) rfl rfl rfl (by decide +kernel)
set_option maxRecDepth 65536 in
theorem w_c2 : (Jvm.Cond.code ({ cls := "com/example/waystone/waystone/hessian/ChunkCodesIsMediumPinLaw", name := "ref", desc := "(II)Z" } : Jvm.MethodName) method_3_code (2 : Nat) (Option.some Jvm.ClassFile.FieldType.boolean)).before args0 about1 = true := code_word (m := ⟨1, 2⟩) (meth := k1m2) (c := k1c2) (by decide +kernel) rfl rfl rfl (by decide +kernel)
def codes1 : List Jvm.Cond := [Jvm.Cond.code x code maxLocals ret, Jvm.Cond.code ({ cls := "com/example/waystone/waystone/hessian/ChunkCodes", name := "isMedium", desc := "(I)Z" } : Jvm.MethodName) prog_16_method_5_code (2 : Nat) (Option.some Jvm.ClassFile.FieldType.boolean), Jvm.Cond.code ({ cls := "com/example/waystone/waystone/hessian/ChunkCodesIsMediumPinLaw", name := "ref", desc := "(II)Z" } : Jvm.MethodName) method_3_code (2 : Nat) (Option.some Jvm.ClassFile.FieldType.boolean)]
set_option maxRecDepth 65536 in
theorem codes_eq : words1.filter isCode = codes1 := rfl
theorem w_codes : ∀ c ∈ words1.filter isCode, c.before args0 about1 = true := by
  rw [codes_eq]
  intro c hc
  simp only [codes1, List.mem_cons, List.not_mem_nil, or_false] at hc
  rcases hc with rfl | rfl | rfl
  · exact w_c0
  · exact w_c1
  · exact w_c2
set_option maxRecDepth 65536 in
theorem w_t1 : words1.all (fun c => isCode c || c.before args0 about1) = true := by decide +kernel
theorem w_tables : (allAtoms (Jvm.Cond.code x code maxLocals ret :: tables_1)).before args0 about1 = true := by
  rw [allAtoms_all]
  show words1.all (fun c => c.before args0 about1) = true
  refine all_split ?_ w_codes
  rw [w_t1]
set_option maxRecDepth 65536 in
theorem w_case : (Jvm.Cond.and given_1 narrow_1).before args0 about1 = true := by decide +kernel
theorem w_applies : (headSpec (Jvm.Cond.code x code maxLocals ret :: tables_1) room_1).applies x e0.platform about1 = true :=
  (Spec.applies_iff w_frames).mpr ⟨w_running, w_runnable, w_alone, w_named, w_hears, w_ripe, w_room, w_tables⟩
theorem atStart : AtStart classFile x code maxLocals ret World_1 tables_1 room_1 Calls_1 rest_1 Pre_1 launch0 p0 e0 about1 theMethod args0 below0 :=
  ⟨lists_1, trivial, launch0.admits_env _ _ _, launch0.least_env, fairChoices_fair.cas, fairChoices_fair.clock, w_frames, w_args, w_heap, w_applies, trivial, trivial, w_case⟩
end start1
theorem witness_1 : WitnessClaimed_1 := ⟨start1.p0, start1.e0, start1.about1, start1.theMethod, start1.args0, start1.below0, start1.atStart⟩
end Jvm.Pilot.@@N@@
