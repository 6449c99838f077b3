import JvmDerived
import JvmDerived.Pilot.@@N@@Statement
import JvmDerived.Pilot.@@N@@Code
set_option linter.unusedVariables false
set_option linter.unusedSimpArgs false
@@BLOCK:HandJ.lean.txt@@
@@BLOCK:SymMore.lean.txt@@
namespace Jvm.RoadKit
open Sem ClassFile Op Lib Jvm.Stand Jvm.Free Jvm.LawKit
section Own
variable {p : Program} {l : Launch} {e : Env} {R : Room} {s : State} {m : MethodId} {args : Array Value} {below : List Frame} {meth : Method} {c : Code} {T : State} {locs : List Loc} {cells slots : Nat} {Q : Option Value → Heap → List Loc → Prop} {kc ks : Nat}
/-- the run from S comes to its end and leaves what Q says -/
def own_Fin (p : Program) (e : Env) (below : List Frame) (s : State) (kc ks : Nat) (Q : Option Value → Heap → List Loc → Prop) (S : State) : Prop :=
  ∃ U o, Steps p.tables e below S U ∧ U.status = .running ∧ Ended U below o ∧ ∃ v L, o = .returned v ∧ Q v U.heap L ∧ FrameEnd s o U L kc ks
theorem own_step {S S' : State} (h : ∀ t, Steps p.tables e below S' t → Steps p.tables e below S t) (k : own_Fin p e below s kc ks Q S') : own_Fin p e below s kc ks Q S := by
  obtain ⟨U, o, h1, r⟩ := k
  exact ⟨U, o, h _ h1, r⟩
theorem own_ret (X : Stand p l e R s m args below meth c T locs cells slots) (hlk : meth.locks = false) {v : Option Value} (hv : meth.sig.returnType = none → v = none) (hc : cells ≤ kc) (hs : slots ≤ ks) (hQ : Q v T.heap locs) {S : State}
    (hst : ∀ fs, (∀ (f : JFrame) (acts : List Action), f.method = m → f.locked = none → f.entered = [] → (doReturn e (T.setTop f) acts v).1 = T.setFrames fs) → Steps p.tables e below S (T.setFrames fs)) : own_Fin p e below s kc ks Q S := by
  obtain ⟨fs, hr, hrun, hended, hW, hsame⟩ := X.leave (v := v) hv hlk
  exact ⟨_, _, hst fs hr, hrun, hended, _, _, rfl, hQ, ⟨_, rfl⟩, hW, hsame.mono hc hs⟩
def own_FinW (p : Program) (e : Env) (below : List Frame) (s : State) (kc ks : Nat) (Q : Option Value → Heap → List Loc → Prop) (S : State) : Prop :=
  ∃ U o, Steps p.tables e below S U ∧ U.status = .running ∧ Ended U below o ∧ ∃ v L, o = .returned v ∧ Q v U.heap L ∧ ReturnedEndW s o U L kc ks
theorem own_stepW {S S' : State} (h : ∀ t, Steps p.tables e below S' t → Steps p.tables e below S t) (k : own_FinW p e below s kc ks Q S') : own_FinW p e below s kc ks Q S := by
  obtain ⟨U, o, h1, r⟩ := k
  exact ⟨U, o, h _ h1, r⟩
theorem own_retW {vm1 : Vm} (X : Stand p l e R (s.setVm vm1) m args below meth c T locs cells slots) (hlk : meth.locks = false) {n : Nat} (hS : s.Since vm1 n) {h : Heap} (eT : T.heap = h) (hn : n ≤ h.size) {v : Option Value} (hv : meth.sig.returnType = none → v = none) (hc : cells ≤ kc) (hs : slots ≤ ks) (hQ : Q v T.heap locs) {S : State}
    (hst : ∀ fs, (∀ (f : JFrame) (acts : List Action), f.method = m → f.locked = none → f.entered = [] → (doReturn e (T.setTop f) acts v).1 = T.setFrames fs) → Steps p.tables e below S (T.setFrames fs)) : own_FinW p e below s kc ks Q S := by
  obtain ⟨fs, hr, hrun, hended, hE⟩ := X.leaveW hS (by rw [eT]; exact hn) (v := v) hv hlk
  exact ⟨_, _, hst fs hr, hrun, hended, _, _, rfl, hQ, hE.1, hE.2.1, hE.2.2.1, hE.2.2.2.mono hc hs⟩
theorem own_castW {g g' : JFrame} (q : g = g') (k : own_FinW p e below s kc ks Q (T.setTop g')) : own_FinW p e below s kc ks Q (T.setTop g) := q ▸ k
theorem own_abs1 {F : UInt64 → Prop} {e : UInt64} (k : ∀ x, x = e → F x) : F e := k e rfl
theorem own_m0 : Jvm.Free.Fl.Mag64 1 FP.dconst0 := by unfold Jvm.Free.Fl.Mag64; decide
theorem own_mz : Jvm.Free.Fl.Mag64 1 (0 : UInt64) := by unfold Jvm.Free.Fl.Mag64; decide
theorem own_m1 : Jvm.Free.Fl.Mag64 1024 FP.dconst1 := by unfold Jvm.Free.Fl.Mag64; decide
/-- roads that meet again: what lies behind the meeting is walked once -/
theorem own_join {G : Prop} {F : State → Prop} (X : Stand p l e R s m args below meth c T locs cells slots) {h : Heap} (eT : T.heap = h) {β : Type} (g : β → JFrame) (hyp : β → Prop)
    (body : ∀ Tj : State, Stand p l e R s m args below meth c Tj locs cells slots → Tj.heap = h → ∀ b, hyp b → F (Tj.setTop (g b)))
    (cont : (∀ Tj : State, Stand p l e R s m args below meth c Tj locs cells slots → Tj.heap = h → ∀ b, hyp b → F (Tj.setTop (g b))) → G) : G := cont body
theorem own_ltn {n k j : Int32} (h : ¬ n < k) (q : j < k) : j < n := by
  rw [Int32.lt_iff_toInt_lt] at *
  omega
theorem own_cast {g g' : JFrame} (q : g = g') (k : own_Fin p e below s kc ks Q (T.setTop g')) : own_Fin p e below s kc ks Q (T.setTop g) := q ▸ k
theorem own_getJ {cl : Cell} {vs : List Int64} {j : Int32} (H : Has cl (vs.map Value.long) (.long 0)) (q : ¬ (j < 0 ∨ cl.slots.size ≤ j.toNatClampNeg)) : cl.slots[j.toNatClampNeg]? = some (.long (vs.getD j.toNatClampNeg 0)) := by
  refine Has.at H q ?_
  simp only [List.getD_eq_getElem?_getD, List.getElem?_map]
  cases vs[j.toNatClampNeg]? <;> rfl
def own_Nst (h : Heap) (x : Addr) : Prop := ∃ c : Cell, h[x]? = some c ∧ c.vm.isStatics = false
theorem own_nst_exa {Z : State} {h : Heap} {a : Addr} {C : String} (F : Exa Z h a C) : own_Nst h a := by
  obtain ⟨c, _, h1, _, _, h4, _⟩ := F
  exact ⟨c, h1, h4⟩
theorem own_nst_arv {Z : State} {h : Heap} {a : Addr} {k : ClassId} {ty : FieldType} {n : Int32} {vs : List Value} {d : Value} (F : Arv Z h a k ty n vs d) : own_Nst h a := by
  obtain ⟨c, A, _⟩ := F
  exact ⟨c, A.1, A.plain⟩
theorem own_sta_keep {Z : State} {h h' : Heap} {C n d : String} {v : Value} {ws : List Addr} (F : Sta Z h C n d v) (K : Keep h h' ws) (q : ∀ x ∈ ws, own_Nst h x) : Sta Z h' C n d v := by
  obtain ⟨cf, i, k, f, st, cell, h1, h2, h3, h4, h5, h6, h7⟩ := F
  refine ⟨cf, i, k, f, st, cell, h1, h2, h3, h4, K.2.1 _ _ h5 (fun z => ?_), h6, h7⟩
  obtain ⟨c, e1, e2⟩ := q _ z
  cases h5.symm.trans e1
  rw [h6] at e2
  cases e2
theorem own_sta_keep0 {Z : State} {h h' : Heap} {C n d : String} {v : Value} (F : Sta Z h C n d v) (K : Keep h h' []) : Sta Z h' C n d v := own_sta_keep F K (fun _ z => nomatch z)
end Own
section OwnStart
variable {args : Array Value} {Z : State} {t : Term} {a : Addr} {O n d : String}
theorem own_fldV {v : Value} (ev : t.eval args Z none [] Z = some (.ref a)) (h : (Term.field t O n d).eval args Z none [] Z = some v) : Fld Z Z.heap a O n d v := Fld.start ((fld_at ev).symm.trans h)
theorem own_len {cl : Cell} {ty : FieldType} {k : Int32} (ev : t.eval args Z none [] Z = some (.ref a)) (A : Arr Z Z.heap a cl ty) (h : (Cond.eq (.length t) (.int k)).value args Z none Z [] = some true) : cl.slots.size < 2 ^ 31 ∧ cl.slots.size.toInt32 = k := by
  have e := eqv_i (y := k) rfl h
  have ha := A.fin (Vm.Alike.refl _)
  by_cases q : cl.slots.size < 2 ^ 31
  · exact ⟨q, Value.int.inj (Option.some.inj ((len_f ev ha q).symm.trans e))⟩
  · simp [Term.eval, ev, ha, q] at e
theorem own_elI {cl : Cell} {ty : FieldType} {i k : Int32} (ev : t.eval args Z none [] Z = some (.ref a)) (A : Arr Z Z.heap a cl ty) (hi : ¬ i < 0) (h : (Cond.eq (.elem t (.int i)) (.int k)).value args Z none Z [] = some true) : cl.slots[i.toNatClampNeg]? = some (.int k) :=
  (elem_f ev rfl (A.fin (Vm.Alike.refl _)) hi).symm.trans (eqv_i (y := k) rfl h)
theorem own_elJ {cl : Cell} {ty : FieldType} {i : Int32} {k : Int64} (ev : t.eval args Z none [] Z = some (.ref a)) (A : Arr Z Z.heap a cl ty) (hi : ¬ i < 0) (h : (Cond.eq (.elem t (.int i)) (.long k)).value args Z none Z [] = some true) : cl.slots[i.toNatClampNeg]? = some (.long k) :=
  (elem_f ev rfl (A.fin (Vm.Alike.refl _)) hi).symm.trans (eqv_l (y := k) rfl h)
end OwnStart
end Jvm.RoadKit
namespace Jvm.Pilot.@@N@@
open Jvm Jvm.ClassFile Sem Op Lib Jvm.Free Jvm.Stand Jvm.LawKit Jvm.RoadKit Bundle Jvm.Pilot.@@N@@.Jvm.D
theorem own_w {ts : List Jvm.Cond} {Z : State} {a0 : Array Value} (hw : ∀ d ∈ ts, d.before a0 Z = true) (i : Nat) {d : Jvm.Cond} (h : ts[i]? = some d) : d.before a0 Z = true := hw d (List.mem_of_getElem? h)
theorem own_one (x : Int32) : 1 ≤ ((1 : Int32) + (((x.toUInt32 >>> ((13 : Int32) &&& 31).toUInt32).toInt32) &&& (3 : Int32))).toInt ∧ ((1 : Int32) + (((x.toUInt32 >>> ((13 : Int32) &&& 31).toUInt32).toInt32) &&& (3 : Int32))).toInt ≤ 4 := by
  generalize (x.toUInt32 >>> ((13 : Int32) &&& 31).toUInt32).toInt32 = y
  have h1 : (y &&& (3 : Int32)).toInt = y.toInt % 4 := c_mask y _ 2 (by decide) (by decide)
  have h2 := c_iadd 1 (y &&& (3 : Int32))
  have h3 : (1 : Int32).toInt = 1 := by decide
  have h4 := rng32 ((1 : Int32) + (y &&& (3 : Int32)))
  omega
theorem own_one0 (x : Int32) : ¬ (((1 : Int32) + (((x.toUInt32 >>> ((13 : Int32) &&& 31).toUInt32).toInt32) &&& (3 : Int32))) < (0 : Int32)) := by
  have := own_one x
  rw [Int32.lt_iff_toInt_lt, show (0 : Int32).toInt = 0 from by decide]
  omega
theorem own_one4 (x : Int32) : ((1 : Int32) + (((x.toUInt32 >>> ((13 : Int32) &&& 31).toUInt32).toInt32) &&& (3 : Int32))).toNatClampNeg ≤ 4 := by
  have := own_one x
  show ((1 : Int32) + (((x.toUInt32 >>> ((13 : Int32) &&& 31).toUInt32).toInt32) &&& (3 : Int32))).toInt.toNat ≤ 4
  omega
theorem own_l0 : FP.dconst0 = FP.l2d 0 := by decide +kernel
/-- a difference of two ints that doesn't compare as nought is at least one -/
theorem own_big {a b : Int32} {x : UInt64} (hx : x = FP.dsub (FP.i2d a) (FP.i2d b)) (h : ¬ ((cmpValue (FP.dcmp x FP.dconst0) .l) = (0 : Int32))) : Big64 1023 x := by
  rw [hx] at h ⊢
  have ra := rng32 a
  have rb := rng32 b
  have ba : B53 a.toInt64 := by unfold B53; rw [c_i2l]; omega
  have bb : B53 b.toInt64 := by unfold B53; rw [c_i2l]; omega
  have e : FP.dsub (FP.i2d a) (FP.i2d b) = FP.l2d (a.toInt64 - b.toInt64) := by rw [i2d_w, i2d_w]; exact dsub_w ba bb
  rw [e] at h ⊢
  refine l2d_big fun q => h ?_
  rw [q, own_l0]
  exact dcmpV_self (Jvm.Free.Fl.l2d_fin 0).noNaN _
theorem own_d1_0 : decode prog_42_method_1_code 0 = .ok (.aload_n 0, 1) := by decide +kernel
theorem own_d1_1 : decode prog_42_method_1_code 1 = .ok (.invokespecial 1, 3) := by decide +kernel
theorem own_d1_4 : decode prog_42_method_1_code 4 = .ok (.aload_n 0, 1) := by decide +kernel
theorem own_d1_5 : decode prog_42_method_1_code 5 = .ok (.iload_n 1, 1) := by decide +kernel
theorem own_d1_6 : decode prog_42_method_1_code 6 = .ok (.newarray .double, 2) := by decide +kernel
theorem own_d1_8 : decode prog_42_method_1_code 8 = .ok (.putfield 7, 3) := by decide +kernel
theorem own_d1_11 : decode prog_42_method_1_code 11 = .ok (.aload_n 0, 1) := by decide +kernel
theorem own_d1_12 : decode prog_42_method_1_code 12 = .ok (.iload_n 1, 1) := by decide +kernel
theorem own_d1_13 : decode prog_42_method_1_code 13 = .ok (.newarray .double, 2) := by decide +kernel
theorem own_d1_15 : decode prog_42_method_1_code 15 = .ok (.putfield 13, 3) := by decide +kernel
theorem own_d1_18 : decode prog_42_method_1_code 18 = .ok (.return_, 1) := by decide +kernel
theorem own_pn0 : plainName "com/example/tandem/tandem/analysis/PseudoAffine" = true := by first | (simp [plainName, overriddenIn]; done) | decide +kernel
theorem own_ef1 (m : MethodId) (ad0 : Addr) (p1 : Int32) : entryFrame m #[(.ref ad0), (.int p1)] 2 = mkF m 0 #[.val (.ref ad0), .val (.int p1)] [] := by first | (simp [entryFrame, mkF, argsToLocals, Value.category]; done) | rfl
def own_Q1 (Z : State) (ad0 : Addr) (p1 : Int32) (ujumps_ad0 : Value) (urates_ad0 : Value) (uoffset_ad0 : Value) (upieces_ad0 : Value) (h0 : Heap) (n0 : Nat) (v : Option Value) (h : Heap) (L : List Loc) : Prop := Fr n0 L ∧ Keep h0 h [ad0] ∧ ∃ o0 : Addr, n0 ≤ o0 ∧ h0.size ≤ o0 ∧ ∃ o1 : Addr, n0 ≤ o1 ∧ h0.size ≤ o1 ∧ ∃ (ko0 : ClassId) (ko1 : ClassId), v = none ∧ Exa Z h ad0 "com/example/tandem/tandem/analysis/PseudoAffine" ∧ Fld Z h ad0 "com/example/tandem/tandem/analysis/PseudoAffine" "offset" "D" uoffset_ad0 ∧ Fld Z h ad0 "com/example/tandem/tandem/analysis/PseudoAffine" "pieces" "I" upieces_ad0 ∧ Fld Z h ad0 "com/example/tandem/tandem/analysis/PseudoAffine" "jumps" "[D" (.ref o0) ∧ Fld Z h ad0 "com/example/tandem/tandem/analysis/PseudoAffine" "rates" "[D" (.ref o1) ∧ Arv Z h o0 ko0 .double p1 [(.double (0 : UInt64)), (.double (0 : UInt64))] (.double (0 : UInt64)) ∧ Arv Z h o1 ko1 .double p1 [(.double (0 : UInt64)), (.double (0 : UInt64))] (.double (0 : UInt64)) ∧ o0 ≠ o1
set_option maxRecDepth 65536 in
set_option maxHeartbeats 40000000 in
theorem own_rm1 (l : Launch) (Z : State) (a0 : Array Value) (hw : ∀ d ∈ tables_1, d.before a0 Z = true) (ws : List Jvm.Cond) (ad0 : Addr) (p1 : Int32) (ujumps_ad0 : Value) (urates_ad0 : Value) (uoffset_ad0 : Value) (upieces_ad0 : Value) (h0 : Heap) (n0 : Nat) (Z0 : n0 ≤ h0.size) (E_ad0 : Exa Z h0 ad0 "com/example/tandem/tandem/analysis/PseudoAffine") (F_jumps_ad0 : Fld Z h0 ad0 "com/example/tandem/tandem/analysis/PseudoAffine" "jumps" "[D" ujumps_ad0) (F_rates_ad0 : Fld Z h0 ad0 "com/example/tandem/tandem/analysis/PseudoAffine" "rates" "[D" urates_ad0) (F_offset_ad0 : Fld Z h0 ad0 "com/example/tandem/tandem/analysis/PseudoAffine" "offset" "D" uoffset_ad0) (F_pieces_ad0 : Fld Z h0 ad0 "com/example/tandem/tandem/analysis/PseudoAffine" "pieces" "I" upieces_ad0) (hneg : ¬ (p1 < (0 : Int32))) (hcap : p1.toNatClampNeg ≤ 4) (g_ad0 : n0 ≤ ad0) :
    MetFree l (⟨"com/example/tandem/tandem/analysis/PseudoAffine", "<init>", "(I)V"⟩ : MethodName) (head1 (Jvm.Cond.code (⟨"com/example/tandem/tandem/analysis/PseudoAffine", "<init>", "(I)V"⟩ : MethodName) prog_42_method_1_code 2 none :: ws) ({ frames := 1, cells := 2, slots := 8, locals := 12 } : Room)) (fun a U => a = #[(.ref ad0), (.int p1)] ∧ Z.Warmed39 U.vm ∧ U.heap = h0) (fun _ _ _ _ _ => True) (fun _ U o U' => ∃ v L, o = .returned v ∧ own_Q1 Z ad0 p1 ujumps_ad0 urates_ad0 uoffset_ad0 upieces_ad0 h0 n0 v U'.heap L ∧ FrameEnd U o U' L ({ frames := 1, cells := 2, slots := 8, locals := 12 } : Room).cells ({ frames := 1, cells := 2, slots := 8, locals := 12 } : Room).slots) := by
  refine MetFree.of_bodySF (plainFor_of_name own_pn0) hisR ?_
  intro p e s m args below meth c s₁ Bd hml0 hP hK
  obtain ⟨rfl, hZ, hh⟩ := hP
  have hx := Bd.exec
  have hby := Bd.bytes
  have hlk := Bd.notSynchronized
  have hml : c.maxLocals = 2 := hml0
  have hown : s.vm.findClass "com/example/tandem/tandem/analysis/PseudoAffine" = some m.cls := findClass_of_methodNamed Bd.named
  have hnm := (name_of_methodNamed Bd.named Bd.method).1
  have X0 : Stand p l e ({ frames := 1, cells := 2, slots := 8, locals := 12 } : Room) s m #[(.ref ad0), (.int p1)] below meth c s₁ [] 0 0 := Stand.of_body Bd
  have e0 : s₁.heap = h0 := by rw [← hh, Bd.state]; rfl
  have N0 := Fr.nil n0
  have KR : Keep h0 h0 [ad0] := Keep.refl _ _
  show own_Fin p e below s ({ frames := 1, cells := 2, slots := 8, locals := 12 } : Room).cells ({ frames := 1, cells := 2, slots := 8, locals := 12 } : Room).slots (own_Q1 Z ad0 p1 ujumps_ad0 urates_ad0 uoffset_ad0 upieces_ad0 h0 n0) (s₁.setTop (entryFrame m #[(.ref ad0), (.int p1)] 2))
  refine own_cast (own_ef1 m ad0 p1) ?_
  refine own_step (fun _ k => XS.aloadN X0.here hx rfl (hb hby own_d1_0) rfl rfl k) ?_
  obtain ⟨T1, X1, e1, st1⟩ := initO X0 hx hZ hown (own_w hw 6 rfl) (own_w hw 7 rfl) (own_w hw 8 rfl) e0 (g := (mkF m 1 #[.val (.ref ad0), .val (.int p1)] [(.ref ad0)])) rfl (by rw [hml]; rfl) rfl (hb hby own_d1_1) (by decide) (W := 0) (by show 2 * 0 + _ ≤ _; exact Nat.le_of_eq rfl) (by decide)
  refine own_step st1 ?_
  show own_Fin p e below s _ _ _ (T1.setTop (mkF m 4 #[.val (.ref ad0), .val (.int p1)] []))
  refine own_step (fun _ k => XS.aloadN X1.here hx rfl (hb hby own_d1_4) rfl rfl k) ?_
  refine own_step (fun _ k => XS.iloadN X1.here hx rfl (hb hby own_d1_5) rfl k) ?_
  obtain ⟨T2, h2, k2, X2, e2, E2, A2, st2⟩ := newP X1 hx hZ (own_w hw 9 rfl) e1 (g := (mkF m 6 #[.val (.ref ad0), .val (.int p1)] [(.int p1), (.ref ad0)])) rfl (hb hby own_d1_6) rfl hneg (cap := 4) hcap (by decide) (by decide) (by decide)
  obtain ⟨b2, g2⟩ : ∃ z, z = h0.size := ⟨_, rfl⟩
  rw [← g2] at A2 st2
  have ne2_ad0 : ad0 ≠ b2 := Nat.ne_of_lt (Nat.lt_of_lt_of_le E_ad0.lt (Nat.le_of_eq g2.symm))
  have gg2 : n0 ≤ b2 := Nat.le_trans Z0 (Nat.le_of_eq g2.symm)
  have sz2 : h0.size ≤ b2 := Nat.le_trans KR.1 (Nat.le_of_eq g2.symm)
  have K2 : Keep h0 h2 [ad0] := KR.ext E2
  have Z2 : n0 ≤ h2.size := Nat.le_trans Z0 E2.1
  have G3 := (E_ad0.ext E2)
  have G4 := (F_jumps_ad0.ext E2)
  have G5 := (F_rates_ad0.ext E2)
  have G6 := (F_offset_ad0.ext E2)
  have G7 := (F_pieces_ad0.ext E2)
  have G8 : Arv Z h2 b2 k2 .double p1 [(.double (0 : UInt64)), (.double (0 : UInt64))] (.double (0 : UInt64)) := (Arv.new A2 hneg).pad (pad_rep [] (.double (0 : UInt64)) 2)
  refine own_step st2 ?_
  show own_Fin p e below s _ _ _ (T2.setTop (mkF m 8 #[.val (.ref ad0), .val (.int p1)] [(.ref b2), (.ref ad0)]))
  obtain ⟨T9, h9, X9, e9, W9, st9⟩ := putF X2 hx hZ hown (host := "") (Or.inl (own_w hw 10 rfl)) Via.refl e2 G4 G3 (Or.inr ⟨(own_w hw 11 rfl), rfl, hnm⟩) (own_w hw 1 rfl) (ty := (.array .double)) (by decide) rfl rfl (g := (mkF m 8 #[.val (.ref ad0), .val (.int p1)] [(.ref b2), (.ref ad0)])) rfl rfl (hb hby own_d1_8)
  have N9 := Fr.snoc X9 N0 g_ad0
  have K9 : Keep h0 h9 [ad0] := K2.wr W9 (Or.inl (List.mem_of_getElem? (i := 0) rfl))
  have Z9 : n0 ≤ h9.size := Nat.le_trans Z2 (Keep.of_wr W9).1
  have G10 := (G3.wr W9)
  have G11 := (G5.other W9 (Or.inr (slot_ne (Or.inr (own_w hw 13 rfl)) (Or.inr (own_w hw 11 rfl)) (by decide) (t := (.array .double)) (t' := (.array .double)) (by decide) (by decide))))
  have G12 := (G6.other W9 (Or.inr (slot_ne (Or.inl (own_w hw 36 rfl)) (Or.inr (own_w hw 11 rfl)) (by decide) (t := .double) (t' := (.array .double)) (by decide) (by decide))))
  have G13 := (G7.other W9 (Or.inr (slot_ne (Or.inl (own_w hw 38 rfl)) (Or.inr (own_w hw 11 rfl)) (by decide) (t := .int) (t' := (.array .double)) (by decide) (by decide))))
  have G14 := (G8.other W9 (Ne.symm ne2_ad0))
  have G15 := G4.same W9
  refine own_step st9 ?_
  show own_Fin p e below s _ _ _ (T9.setTop (mkF m 11 #[.val (.ref ad0), .val (.int p1)] []))
  refine own_step (fun _ k => XS.aloadN X9.here hx rfl (hb hby own_d1_11) rfl rfl k) ?_
  refine own_step (fun _ k => XS.iloadN X9.here hx rfl (hb hby own_d1_12) rfl k) ?_
  obtain ⟨T16, h16, k16, X16, e16, E16, A16, st16⟩ := newP X9 hx hZ (own_w hw 9 rfl) e9 (g := (mkF m 13 #[.val (.ref ad0), .val (.int p1)] [(.int p1), (.ref ad0)])) rfl (hb hby own_d1_13) rfl hneg (cap := 4) hcap (by decide) (by decide) (by decide)
  obtain ⟨b16, g16⟩ : ∃ z, z = h9.size := ⟨_, rfl⟩
  rw [← g16] at A16 st16
  have ne16_ad0 : ad0 ≠ b16 := Nat.ne_of_lt (Nat.lt_of_lt_of_le G10.lt (Nat.le_of_eq g16.symm))
  have ne16_b2 : b2 ≠ b16 := Nat.ne_of_lt (Nat.lt_of_lt_of_le G14.lt (Nat.le_of_eq g16.symm))
  have gg16 : n0 ≤ b16 := Nat.le_trans Z9 (Nat.le_of_eq g16.symm)
  have sz16 : h0.size ≤ b16 := Nat.le_trans K9.1 (Nat.le_of_eq g16.symm)
  have K16 : Keep h0 h16 [ad0] := K9.ext E16
  have Z16 : n0 ≤ h16.size := Nat.le_trans Z9 E16.1
  have G17 := (G10.ext E16)
  have G18 := (G11.ext E16)
  have G19 := (G12.ext E16)
  have G20 := (G13.ext E16)
  have G21 := (G14.ext E16)
  have G22 := (G15.ext E16)
  have G23 : Arv Z h16 b16 k16 .double p1 [(.double (0 : UInt64)), (.double (0 : UInt64))] (.double (0 : UInt64)) := (Arv.new A16 hneg).pad (pad_rep [] (.double (0 : UInt64)) 2)
  refine own_step st16 ?_
  show own_Fin p e below s _ _ _ (T16.setTop (mkF m 15 #[.val (.ref ad0), .val (.int p1)] [(.ref b16), (.ref ad0)]))
  obtain ⟨T24, h24, X24, e24, W24, st24⟩ := putF X16 hx hZ hown (host := "") (Or.inl (own_w hw 12 rfl)) Via.refl e16 G18 G17 (Or.inr ⟨(own_w hw 13 rfl), rfl, hnm⟩) (own_w hw 1 rfl) (ty := (.array .double)) (by decide) rfl rfl (g := (mkF m 15 #[.val (.ref ad0), .val (.int p1)] [(.ref b16), (.ref ad0)])) rfl rfl (hb hby own_d1_15)
  have N24 := Fr.snoc X24 N9 g_ad0
  have K24 : Keep h0 h24 [ad0] := K16.wr W24 (Or.inl (List.mem_of_getElem? (i := 0) rfl))
  have Z24 : n0 ≤ h24.size := Nat.le_trans Z16 (Keep.of_wr W24).1
  have G25 := (G17.wr W24)
  have G26 := (G19.other W24 (Or.inr (slot_ne (Or.inl (own_w hw 36 rfl)) (Or.inr (own_w hw 13 rfl)) (by decide) (t := .double) (t' := (.array .double)) (by decide) (by decide))))
  have G27 := (G20.other W24 (Or.inr (slot_ne (Or.inl (own_w hw 38 rfl)) (Or.inr (own_w hw 13 rfl)) (by decide) (t := .int) (t' := (.array .double)) (by decide) (by decide))))
  have G28 := (G21.other W24 (Ne.symm ne2_ad0))
  have G29 := (G22.other W24 (Or.inr (slot_ne (Or.inr (own_w hw 11 rfl)) (Or.inr (own_w hw 13 rfl)) (by decide) (t := (.array .double)) (t' := (.array .double)) (by decide) (by decide))))
  have G30 := (G23.other W24 (Ne.symm ne16_ad0))
  have G31 := G18.same W24
  refine own_step st24 ?_
  show own_Fin p e below s _ _ _ (T24.setTop (mkF m 18 #[.val (.ref ad0), .val (.int p1)] []))
  exact own_ret X24 hlk (v := none) (fun _ => rfl) (by decide) (by decide) (by show own_Q1 Z ad0 p1 ujumps_ad0 urates_ad0 uoffset_ad0 upieces_ad0 h0 n0 _ T24.heap _; rw [e24]; exact ⟨N24, K24, b2, gg2, sz2, b16, gg16, sz16, k2, k16, rfl, G25, G26, G27, G29, G31, G28, G30, ne16_b2⟩) (fun fs hr => X24.returnOut hx Bd.returns (hb hby own_d1_18) hr)

theorem own_d2_0 : decode jdk_30_method_1_code 0 = .ok (.aload_n 0, 1) := by decide +kernel
theorem own_d2_1 : decode jdk_30_method_1_code 1 = .ok (.invokespecial 1, 3) := by decide +kernel
theorem own_d2_4 : decode jdk_30_method_1_code 4 = .ok (.return_, 1) := by decide +kernel
theorem own_pn1 : plainName "java/lang/Record" = true := by first | (simp [plainName, overriddenIn]; done) | decide +kernel
theorem own_ef2 (m : MethodId) (ad0 : Addr) : entryFrame m #[(.ref ad0)] 1 = mkF m 0 #[.val (.ref ad0)] [] := by first | (simp [entryFrame, mkF, argsToLocals, Value.category]; done) | rfl
def own_Q2 (Z : State) (ad0 : Addr) (h0 : Heap) (n0 : Nat) (v : Option Value) (h : Heap) (L : List Loc) : Prop := v = none ∧ Fr n0 L ∧ h = h0
set_option maxRecDepth 65536 in
set_option maxHeartbeats 40000000 in
theorem own_rm2 (l : Launch) (Z : State) (a0 : Array Value) (hw : ∀ d ∈ tables_1, d.before a0 Z = true) (ws : List Jvm.Cond) (ad0 : Addr) (h0 : Heap) (n0 : Nat) (Z0 : n0 ≤ h0.size) :
    MetFree l (⟨"java/lang/Record", "<init>", "()V"⟩ : MethodName) (head1 (Jvm.Cond.code (⟨"java/lang/Record", "<init>", "()V"⟩ : MethodName) jdk_30_method_1_code 1 none :: ws) ({ frames := 1, cells := 0, slots := 0, locals := 12 } : Room)) (fun a U => a = #[(.ref ad0)] ∧ Z.Warmed39 U.vm ∧ U.heap = h0) (fun _ _ _ _ _ => True) (fun _ U o U' => ∃ v L, o = .returned v ∧ own_Q2 Z ad0 h0 n0 v U'.heap L ∧ FrameEnd U o U' L ({ frames := 1, cells := 0, slots := 0, locals := 12 } : Room).cells ({ frames := 1, cells := 0, slots := 0, locals := 12 } : Room).slots) := by
  refine MetFree.of_bodySF (plainFor_of_name own_pn1) hisR ?_
  intro p e s m args below meth c s₁ Bd hml0 hP hK
  obtain ⟨rfl, hZ, hh⟩ := hP
  have hx := Bd.exec
  have hby := Bd.bytes
  have hlk := Bd.notSynchronized
  have hml : c.maxLocals = 1 := hml0
  have hown : s.vm.findClass "java/lang/Record" = some m.cls := findClass_of_methodNamed Bd.named
  have hnm := (name_of_methodNamed Bd.named Bd.method).1
  have X0 : Stand p l e ({ frames := 1, cells := 0, slots := 0, locals := 12 } : Room) s m #[(.ref ad0)] below meth c s₁ [] 0 0 := Stand.of_body Bd
  have e0 : s₁.heap = h0 := by rw [← hh, Bd.state]; rfl
  have N0 := Fr.nil n0
  have KR : Keep h0 h0 [] := Keep.refl _ _
  show own_Fin p e below s ({ frames := 1, cells := 0, slots := 0, locals := 12 } : Room).cells ({ frames := 1, cells := 0, slots := 0, locals := 12 } : Room).slots (own_Q2 Z ad0 h0 n0) (s₁.setTop (entryFrame m #[(.ref ad0)] 1))
  refine own_cast (own_ef2 m ad0) ?_
  refine own_step (fun _ k => XS.aloadN X0.here hx rfl (hb hby own_d2_0) rfl rfl k) ?_
  obtain ⟨T1, X1, e1, st1⟩ := initO X0 hx hZ hown (own_w hw 25 rfl) (own_w hw 7 rfl) (own_w hw 8 rfl) e0 (g := (mkF m 1 #[.val (.ref ad0)] [(.ref ad0)])) rfl (by rw [hml]; rfl) rfl (hb hby own_d2_1) (by decide) (W := 0) (by show 2 * 0 + _ ≤ _; exact Nat.le_of_eq rfl) (by decide)
  refine own_step st1 ?_
  show own_Fin p e below s _ _ _ (T1.setTop (mkF m 4 #[.val (.ref ad0)] []))
  exact own_ret X1 hlk (v := none) (fun _ => rfl) (by decide) (by decide) (by show own_Q2 Z ad0 h0 n0 _ T1.heap _; rw [e1]; exact ⟨rfl, N0, rfl⟩) (fun fs hr => X1.returnOut hx Bd.returns (hb hby own_d2_4) hr)

theorem own_pd0 : parseMethodDescriptor "()V" = some ⟨[], none⟩ := by decide +kernel
abbrev own_y0 : MethodName := (⟨"java/lang/Record", "<init>", "()V"⟩ : MethodName)
theorem own_d3_0 : decode prog_54_method_1_code 0 = .ok (.aload_n 0, 1) := by decide +kernel
theorem own_d3_1 : decode prog_54_method_1_code 1 = .ok (.invokespecial 1, 3) := by decide +kernel
theorem own_d3_4 : decode prog_54_method_1_code 4 = .ok (.aload_n 0, 1) := by decide +kernel
theorem own_d3_5 : decode prog_54_method_1_code 5 = .ok (.dload_n 1, 1) := by decide +kernel
theorem own_d3_6 : decode prog_54_method_1_code 6 = .ok (.putfield 7, 3) := by decide +kernel
theorem own_d3_9 : decode prog_54_method_1_code 9 = .ok (.aload_n 0, 1) := by decide +kernel
theorem own_d3_10 : decode prog_54_method_1_code 10 = .ok (.dload_n 3, 1) := by decide +kernel
theorem own_d3_11 : decode prog_54_method_1_code 11 = .ok (.putfield 13, 3) := by decide +kernel
theorem own_d3_14 : decode prog_54_method_1_code 14 = .ok (.return_, 1) := by decide +kernel
theorem own_pn2 : plainName "com/example/tandem/tandem/model/RateLatency" = true := by first | (simp [plainName, overriddenIn]; done) | decide +kernel
theorem own_ef3 (m : MethodId) (ad0 : Addr) (z1 : UInt64) (z2 : UInt64) : entryFrame m #[(.ref ad0), (.double z1), (.double z2)] 5 = mkF m 0 #[.val (.ref ad0), .val (.double z1), .second, .val (.double z2), .second] [] := by first | (simp [entryFrame, mkF, argsToLocals, Value.category]; done) | rfl
def own_Q3 (Z : State) (ad0 : Addr) (z1 : UInt64) (z2 : UInt64) (urate_ad0 : Value) (ulatency_ad0 : Value) (h0 : Heap) (n0 : Nat) (v : Option Value) (h : Heap) (L : List Loc) : Prop := Fr n0 L ∧ Keep h0 h [ad0] ∧ v = none ∧ Exa Z h ad0 "com/example/tandem/tandem/model/RateLatency" ∧ Fld Z h ad0 "com/example/tandem/tandem/model/RateLatency" "rate" "D" (.double z1) ∧ Fld Z h ad0 "com/example/tandem/tandem/model/RateLatency" "latency" "D" (.double z2)
set_option maxRecDepth 65536 in
set_option maxHeartbeats 40000000 in
theorem own_rm3 (l : Launch) (Z : State) (a0 : Array Value) (hw : ∀ d ∈ tables_1, d.before a0 Z = true) (ws : List Jvm.Cond) (ad0 : Addr) (z1 : UInt64) (z2 : UInt64) (urate_ad0 : Value) (ulatency_ad0 : Value) (h0 : Heap) (n0 : Nat) (Z0 : n0 ≤ h0.size) (E_ad0 : Exa Z h0 ad0 "com/example/tandem/tandem/model/RateLatency") (F_rate_ad0 : Fld Z h0 ad0 "com/example/tandem/tandem/model/RateLatency" "rate" "D" urate_ad0) (F_latency_ad0 : Fld Z h0 ad0 "com/example/tandem/tandem/model/RateLatency" "latency" "D" ulatency_ad0) (g_ad0 : n0 ≤ ad0) :
    MetFree l (⟨"com/example/tandem/tandem/model/RateLatency", "<init>", "(DD)V"⟩ : MethodName) (head1 (Jvm.Cond.code (⟨"com/example/tandem/tandem/model/RateLatency", "<init>", "(DD)V"⟩ : MethodName) prog_54_method_1_code 5 none :: ws) ({ frames := 2, cells := 0, slots := 0, locals := 24 } : Room)) (fun a U => a = #[(.ref ad0), (.double z1), (.double z2)] ∧ Z.Warmed39 U.vm ∧ U.heap = h0) (fun _ _ _ _ _ => True) (fun _ U o U' => ∃ v L, o = .returned v ∧ own_Q3 Z ad0 z1 z2 urate_ad0 ulatency_ad0 h0 n0 v U'.heap L ∧ FrameEnd U o U' L ({ frames := 2, cells := 0, slots := 0, locals := 24 } : Room).cells ({ frames := 2, cells := 0, slots := 0, locals := 24 } : Room).slots) := by
  refine MetFree.of_bodySF (plainFor_of_name own_pn2) hisR ?_
  intro p e s m args below meth c s₁ Bd hml0 hP hK
  obtain ⟨rfl, hZ, hh⟩ := hP
  have hx := Bd.exec
  have hby := Bd.bytes
  have hlk := Bd.notSynchronized
  have hml : c.maxLocals = 5 := hml0
  have hown : s.vm.findClass "com/example/tandem/tandem/model/RateLatency" = some m.cls := findClass_of_methodNamed Bd.named
  have hnm := (name_of_methodNamed Bd.named Bd.method).1
  have X0 : Stand p l e ({ frames := 2, cells := 0, slots := 0, locals := 24 } : Room) s m #[(.ref ad0), (.double z1), (.double z2)] below meth c s₁ [] 0 0 := Stand.of_body Bd
  have e0 : s₁.heap = h0 := by rw [← hh, Bd.state]; rfl
  have N0 := Fr.nil n0
  have KR : Keep h0 h0 [ad0] := Keep.refl _ _
  show own_Fin p e below s ({ frames := 2, cells := 0, slots := 0, locals := 24 } : Room).cells ({ frames := 2, cells := 0, slots := 0, locals := 24 } : Room).slots (own_Q3 Z ad0 z1 z2 urate_ad0 ulatency_ad0 h0 n0) (s₁.setTop (entryFrame m #[(.ref ad0), (.double z1), (.double z2)] 5))
  refine own_cast (own_ef3 m ad0 z1 z2) ?_
  refine own_step (fun _ k => XS.aloadN X0.here hx rfl (hb hby own_d3_0) rfl rfl k) ?_
  obtain ⟨_, _, ⟨T1, L1, k1, n1⟩, -, X1, ⟨Lc1, hQ1, l1, y1, z1⟩, st1⟩ := X0.specialBack hx (y := own_y0) rfl hown (mvT hZ (own_w hw 20 rfl)) (mvT hZ (own_w hw 21 rfl)) (mvT hZ (own_w hw 24 rfl)) (by decide) (backOf (W := 0) (own_rm2 l Z a0 hw [] ad0 h0 n0 Z0 ) hZ (own_w hw 24 rfl) (own_w hw 23 rfl) (by decide) (by decide)) (g := (mkF m 1 #[.val (.ref ad0), .val (.double z1), .second, .val (.double z2), .second] [(.ref ad0)])) rfl (by rw [hml]; rfl) (Steps.refl _) (a := ad0) (argsL := []) (rest := []) (lenOf own_pd0 rfl) rfl (by show 2 * 0 + _ ≤ _; exact Nat.le_of_eq rfl) (hb hby own_d3_1) (fun _ _ => ⟨rfl, e0, (by decide : 0 + 0 ≤ _), (by decide : 0 + 0 ≤ _)⟩)
  dsimp only [Pt.U, Pt.locs, Pt.cells, Pt.slots] at X1 l1 y1 z1 st1 hQ1
  subst l1 y1 z1
  obtain ⟨rfl, N1q, e1⟩ := hQ1
  have N1 := Fr.app N0 N1q
  refine own_step (fun _ k => st1.trans k) ?_
  show own_Fin p e below s _ _ _ (T1.setTop (mkF m 4 #[.val (.ref ad0), .val (.double z1), .second, .val (.double z2), .second] []))
  refine own_step (fun _ k => XS.aloadN X1.here hx rfl (hb hby own_d3_4) rfl rfl k) ?_
  refine own_step (fun _ k => XS.dloadN X1.here hx rfl (hb hby own_d3_5) rfl k) ?_
  obtain ⟨T2, h2, X2, e2, W2, st2⟩ := putF X1 hx hZ hown (host := "") (Or.inl (own_w hw 26 rfl)) Via.refl e1 F_rate_ad0 E_ad0 (Or.inr ⟨(own_w hw 27 rfl), rfl, hnm⟩) (own_w hw 15 rfl) (ty := .double) (by decide) rfl rfl (g := (mkF m 6 #[.val (.ref ad0), .val (.double z1), .second, .val (.double z2), .second] [(.double z1), (.ref ad0)])) rfl rfl (hb hby own_d3_6)
  have N2 := Fr.snoc X2 N1 g_ad0
  have K2 : Keep h0 h2 [ad0] := KR.wr W2 (Or.inl (List.mem_of_getElem? (i := 0) rfl))
  have Z2 : n0 ≤ h2.size := Nat.le_trans Z0 (Keep.of_wr W2).1
  have G3 := (E_ad0.wr W2)
  have G4 := (F_latency_ad0.other W2 (Or.inr (slot_ne (Or.inr (own_w hw 29 rfl)) (Or.inr (own_w hw 27 rfl)) (by decide) (t := .double) (t' := .double) (by decide) (by decide))))
  have G5 := F_rate_ad0.same W2
  refine own_step st2 ?_
  show own_Fin p e below s _ _ _ (T2.setTop (mkF m 9 #[.val (.ref ad0), .val (.double z1), .second, .val (.double z2), .second] []))
  refine own_step (fun _ k => XS.aloadN X2.here hx rfl (hb hby own_d3_9) rfl rfl k) ?_
  refine own_step (fun _ k => XS.dloadN X2.here hx rfl (hb hby own_d3_10) rfl k) ?_
  obtain ⟨T6, h6, X6, e6, W6, st6⟩ := putF X2 hx hZ hown (host := "") (Or.inl (own_w hw 28 rfl)) Via.refl e2 G4 G3 (Or.inr ⟨(own_w hw 29 rfl), rfl, hnm⟩) (own_w hw 15 rfl) (ty := .double) (by decide) rfl rfl (g := (mkF m 11 #[.val (.ref ad0), .val (.double z1), .second, .val (.double z2), .second] [(.double z2), (.ref ad0)])) rfl rfl (hb hby own_d3_11)
  have N6 := Fr.snoc X6 N2 g_ad0
  have K6 : Keep h0 h6 [ad0] := K2.wr W6 (Or.inl (List.mem_of_getElem? (i := 0) rfl))
  have Z6 : n0 ≤ h6.size := Nat.le_trans Z2 (Keep.of_wr W6).1
  have G7 := (G3.wr W6)
  have G8 := (G5.other W6 (Or.inr (slot_ne (Or.inr (own_w hw 27 rfl)) (Or.inr (own_w hw 29 rfl)) (by decide) (t := .double) (t' := .double) (by decide) (by decide))))
  have G9 := G4.same W6
  refine own_step st6 ?_
  show own_Fin p e below s _ _ _ (T6.setTop (mkF m 14 #[.val (.ref ad0), .val (.double z1), .second, .val (.double z2), .second] []))
  exact own_ret X6 hlk (v := none) (fun _ => rfl) (by decide) (by decide) (by show own_Q3 Z ad0 z1 z2 urate_ad0 ulatency_ad0 h0 n0 _ T6.heap _; rw [e6]; exact ⟨N6, K6, rfl, G7, G8, G9⟩) (fun fs hr => X6.returnOut hx Bd.returns (hb hby own_d3_14) hr)

theorem own_d4_0 : decode prog_56_method_1_code 0 = .ok (.aload_n 0, 1) := by decide +kernel
theorem own_d4_1 : decode prog_56_method_1_code 1 = .ok (.invokespecial 1, 3) := by decide +kernel
theorem own_d4_4 : decode prog_56_method_1_code 4 = .ok (.aload_n 0, 1) := by decide +kernel
theorem own_d4_5 : decode prog_56_method_1_code 5 = .ok (.dload_n 1, 1) := by decide +kernel
theorem own_d4_6 : decode prog_56_method_1_code 6 = .ok (.putfield 7, 3) := by decide +kernel
theorem own_d4_9 : decode prog_56_method_1_code 9 = .ok (.aload_n 0, 1) := by decide +kernel
theorem own_d4_10 : decode prog_56_method_1_code 10 = .ok (.dload_n 3, 1) := by decide +kernel
theorem own_d4_11 : decode prog_56_method_1_code 11 = .ok (.putfield 13, 3) := by decide +kernel
theorem own_d4_14 : decode prog_56_method_1_code 14 = .ok (.return_, 1) := by decide +kernel
theorem own_pn3 : plainName "com/example/tandem/tandem/model/TokenBucket" = true := by first | (simp [plainName, overriddenIn]; done) | decide +kernel
theorem own_ef4 (m : MethodId) (ad0 : Addr) (z1 : UInt64) (z2 : UInt64) : entryFrame m #[(.ref ad0), (.double z1), (.double z2)] 5 = mkF m 0 #[.val (.ref ad0), .val (.double z1), .second, .val (.double z2), .second] [] := by first | (simp [entryFrame, mkF, argsToLocals, Value.category]; done) | rfl
def own_Q4 (Z : State) (ad0 : Addr) (z1 : UInt64) (z2 : UInt64) (urate_ad0 : Value) (uburst_ad0 : Value) (h0 : Heap) (n0 : Nat) (v : Option Value) (h : Heap) (L : List Loc) : Prop := Fr n0 L ∧ Keep h0 h [ad0] ∧ v = none ∧ Exa Z h ad0 "com/example/tandem/tandem/model/TokenBucket" ∧ Fld Z h ad0 "com/example/tandem/tandem/model/TokenBucket" "rate" "D" (.double z1) ∧ Fld Z h ad0 "com/example/tandem/tandem/model/TokenBucket" "burst" "D" (.double z2)
set_option maxRecDepth 65536 in
set_option maxHeartbeats 40000000 in
theorem own_rm4 (l : Launch) (Z : State) (a0 : Array Value) (hw : ∀ d ∈ tables_1, d.before a0 Z = true) (ws : List Jvm.Cond) (ad0 : Addr) (z1 : UInt64) (z2 : UInt64) (urate_ad0 : Value) (uburst_ad0 : Value) (h0 : Heap) (n0 : Nat) (Z0 : n0 ≤ h0.size) (E_ad0 : Exa Z h0 ad0 "com/example/tandem/tandem/model/TokenBucket") (F_rate_ad0 : Fld Z h0 ad0 "com/example/tandem/tandem/model/TokenBucket" "rate" "D" urate_ad0) (F_burst_ad0 : Fld Z h0 ad0 "com/example/tandem/tandem/model/TokenBucket" "burst" "D" uburst_ad0) (g_ad0 : n0 ≤ ad0) :
    MetFree l (⟨"com/example/tandem/tandem/model/TokenBucket", "<init>", "(DD)V"⟩ : MethodName) (head1 (Jvm.Cond.code (⟨"com/example/tandem/tandem/model/TokenBucket", "<init>", "(DD)V"⟩ : MethodName) prog_56_method_1_code 5 none :: ws) ({ frames := 2, cells := 0, slots := 0, locals := 24 } : Room)) (fun a U => a = #[(.ref ad0), (.double z1), (.double z2)] ∧ Z.Warmed39 U.vm ∧ U.heap = h0) (fun _ _ _ _ _ => True) (fun _ U o U' => ∃ v L, o = .returned v ∧ own_Q4 Z ad0 z1 z2 urate_ad0 uburst_ad0 h0 n0 v U'.heap L ∧ FrameEnd U o U' L ({ frames := 2, cells := 0, slots := 0, locals := 24 } : Room).cells ({ frames := 2, cells := 0, slots := 0, locals := 24 } : Room).slots) := by
  refine MetFree.of_bodySF (plainFor_of_name own_pn3) hisR ?_
  intro p e s m args below meth c s₁ Bd hml0 hP hK
  obtain ⟨rfl, hZ, hh⟩ := hP
  have hx := Bd.exec
  have hby := Bd.bytes
  have hlk := Bd.notSynchronized
  have hml : c.maxLocals = 5 := hml0
  have hown : s.vm.findClass "com/example/tandem/tandem/model/TokenBucket" = some m.cls := findClass_of_methodNamed Bd.named
  have hnm := (name_of_methodNamed Bd.named Bd.method).1
  have X0 : Stand p l e ({ frames := 2, cells := 0, slots := 0, locals := 24 } : Room) s m #[(.ref ad0), (.double z1), (.double z2)] below meth c s₁ [] 0 0 := Stand.of_body Bd
  have e0 : s₁.heap = h0 := by rw [← hh, Bd.state]; rfl
  have N0 := Fr.nil n0
  have KR : Keep h0 h0 [ad0] := Keep.refl _ _
  show own_Fin p e below s ({ frames := 2, cells := 0, slots := 0, locals := 24 } : Room).cells ({ frames := 2, cells := 0, slots := 0, locals := 24 } : Room).slots (own_Q4 Z ad0 z1 z2 urate_ad0 uburst_ad0 h0 n0) (s₁.setTop (entryFrame m #[(.ref ad0), (.double z1), (.double z2)] 5))
  refine own_cast (own_ef4 m ad0 z1 z2) ?_
  refine own_step (fun _ k => XS.aloadN X0.here hx rfl (hb hby own_d4_0) rfl rfl k) ?_
  obtain ⟨_, _, ⟨T1, L1, k1, n1⟩, -, X1, ⟨Lc1, hQ1, l1, y1, z1⟩, st1⟩ := X0.specialBack hx (y := own_y0) rfl hown (mvT hZ (own_w hw 45 rfl)) (mvT hZ (own_w hw 21 rfl)) (mvT hZ (own_w hw 24 rfl)) (by decide) (backOf (W := 0) (own_rm2 l Z a0 hw [] ad0 h0 n0 Z0 ) hZ (own_w hw 24 rfl) (own_w hw 23 rfl) (by decide) (by decide)) (g := (mkF m 1 #[.val (.ref ad0), .val (.double z1), .second, .val (.double z2), .second] [(.ref ad0)])) rfl (by rw [hml]; rfl) (Steps.refl _) (a := ad0) (argsL := []) (rest := []) (lenOf own_pd0 rfl) rfl (by show 2 * 0 + _ ≤ _; exact Nat.le_of_eq rfl) (hb hby own_d4_1) (fun _ _ => ⟨rfl, e0, (by decide : 0 + 0 ≤ _), (by decide : 0 + 0 ≤ _)⟩)
  dsimp only [Pt.U, Pt.locs, Pt.cells, Pt.slots] at X1 l1 y1 z1 st1 hQ1
  subst l1 y1 z1
  obtain ⟨rfl, N1q, e1⟩ := hQ1
  have N1 := Fr.app N0 N1q
  refine own_step (fun _ k => st1.trans k) ?_
  show own_Fin p e below s _ _ _ (T1.setTop (mkF m 4 #[.val (.ref ad0), .val (.double z1), .second, .val (.double z2), .second] []))
  refine own_step (fun _ k => XS.aloadN X1.here hx rfl (hb hby own_d4_4) rfl rfl k) ?_
  refine own_step (fun _ k => XS.dloadN X1.here hx rfl (hb hby own_d4_5) rfl k) ?_
  obtain ⟨T2, h2, X2, e2, W2, st2⟩ := putF X1 hx hZ hown (host := "") (Or.inl (own_w hw 46 rfl)) Via.refl e1 F_rate_ad0 E_ad0 (Or.inr ⟨(own_w hw 47 rfl), rfl, hnm⟩) (own_w hw 40 rfl) (ty := .double) (by decide) rfl rfl (g := (mkF m 6 #[.val (.ref ad0), .val (.double z1), .second, .val (.double z2), .second] [(.double z1), (.ref ad0)])) rfl rfl (hb hby own_d4_6)
  have N2 := Fr.snoc X2 N1 g_ad0
  have K2 : Keep h0 h2 [ad0] := KR.wr W2 (Or.inl (List.mem_of_getElem? (i := 0) rfl))
  have Z2 : n0 ≤ h2.size := Nat.le_trans Z0 (Keep.of_wr W2).1
  have G3 := (E_ad0.wr W2)
  have G4 := (F_burst_ad0.other W2 (Or.inr (slot_ne (Or.inr (own_w hw 49 rfl)) (Or.inr (own_w hw 47 rfl)) (by decide) (t := .double) (t' := .double) (by decide) (by decide))))
  have G5 := F_rate_ad0.same W2
  refine own_step st2 ?_
  show own_Fin p e below s _ _ _ (T2.setTop (mkF m 9 #[.val (.ref ad0), .val (.double z1), .second, .val (.double z2), .second] []))
  refine own_step (fun _ k => XS.aloadN X2.here hx rfl (hb hby own_d4_9) rfl rfl k) ?_
  refine own_step (fun _ k => XS.dloadN X2.here hx rfl (hb hby own_d4_10) rfl k) ?_
  obtain ⟨T6, h6, X6, e6, W6, st6⟩ := putF X2 hx hZ hown (host := "") (Or.inl (own_w hw 48 rfl)) Via.refl e2 G4 G3 (Or.inr ⟨(own_w hw 49 rfl), rfl, hnm⟩) (own_w hw 40 rfl) (ty := .double) (by decide) rfl rfl (g := (mkF m 11 #[.val (.ref ad0), .val (.double z1), .second, .val (.double z2), .second] [(.double z2), (.ref ad0)])) rfl rfl (hb hby own_d4_11)
  have N6 := Fr.snoc X6 N2 g_ad0
  have K6 : Keep h0 h6 [ad0] := K2.wr W6 (Or.inl (List.mem_of_getElem? (i := 0) rfl))
  have Z6 : n0 ≤ h6.size := Nat.le_trans Z2 (Keep.of_wr W6).1
  have G7 := (G3.wr W6)
  have G8 := (G5.other W6 (Or.inr (slot_ne (Or.inr (own_w hw 47 rfl)) (Or.inr (own_w hw 49 rfl)) (by decide) (t := .double) (t' := .double) (by decide) (by decide))))
  have G9 := G4.same W6
  refine own_step st6 ?_
  show own_Fin p e below s _ _ _ (T6.setTop (mkF m 14 #[.val (.ref ad0), .val (.double z1), .second, .val (.double z2), .second] []))
  exact own_ret X6 hlk (v := none) (fun _ => rfl) (by decide) (by decide) (by show own_Q4 Z ad0 z1 z2 urate_ad0 uburst_ad0 h0 n0 _ T6.heap _; rw [e6]; exact ⟨N6, K6, rfl, G7, G8, G9⟩) (fun fs hr => X6.returnOut hx Bd.returns (hb hby own_d4_14) hr)

theorem own_d5_0 : decode prog_42_method_2_code 0 = .ok (.aload_n 0, 1) := by decide +kernel
theorem own_d5_1 : decode prog_42_method_2_code 1 = .ok (.dconst 0, 1) := by decide +kernel
theorem own_d5_2 : decode prog_42_method_2_code 2 = .ok (.putfield 16, 3) := by decide +kernel
theorem own_d5_5 : decode prog_42_method_2_code 5 = .ok (.aload_n 0, 1) := by decide +kernel
theorem own_d5_6 : decode prog_42_method_2_code 6 = .ok (.iconst 0, 1) := by decide +kernel
theorem own_d5_7 : decode prog_42_method_2_code 7 = .ok (.putfield 20, 3) := by decide +kernel
theorem own_d5_10 : decode prog_42_method_2_code 10 = .ok (.aload_n 0, 1) := by decide +kernel
theorem own_d5_11 : decode prog_42_method_2_code 11 = .ok (.areturn, 1) := by decide +kernel
theorem own_ef5 (m : MethodId) (ad0 : Addr) : entryFrame m #[(.ref ad0)] 1 = mkF m 0 #[.val (.ref ad0)] [] := by first | (simp [entryFrame, mkF, argsToLocals, Value.category]; done) | rfl
def own_Q5 (Z : State) (ad0 : Addr) (wjumps_ad0 : Addr) (wrates_ad0 : Addr) (uoffset_ad0 : Value) (upieces_ad0 : Value) (h0 : Heap) (n0 : Nat) (v : Option Value) (h : Heap) (L : List Loc) : Prop := Fr n0 L ∧ Keep h0 h [ad0] ∧ v = some (.ref ad0) ∧ Exa Z h ad0 "com/example/tandem/tandem/analysis/PseudoAffine" ∧ Fld Z h ad0 "com/example/tandem/tandem/analysis/PseudoAffine" "jumps" "[D" (.ref wjumps_ad0) ∧ Fld Z h ad0 "com/example/tandem/tandem/analysis/PseudoAffine" "rates" "[D" (.ref wrates_ad0) ∧ Fld Z h ad0 "com/example/tandem/tandem/analysis/PseudoAffine" "offset" "D" (.double FP.dconst0) ∧ Fld Z h ad0 "com/example/tandem/tandem/analysis/PseudoAffine" "pieces" "I" (.int (0 : Int32))
set_option maxRecDepth 65536 in
set_option maxHeartbeats 40000000 in
theorem own_rm5 (l : Launch) (Z : State) (a0 : Array Value) (hw : ∀ d ∈ tables_1, d.before a0 Z = true) (ws : List Jvm.Cond) (ad0 : Addr) (wjumps_ad0 : Addr) (wrates_ad0 : Addr) (uoffset_ad0 : Value) (upieces_ad0 : Value) (h0 : Heap) (n0 : Nat) (Z0 : n0 ≤ h0.size) (E_ad0 : Exa Z h0 ad0 "com/example/tandem/tandem/analysis/PseudoAffine") (F_jumps_ad0 : Fld Z h0 ad0 "com/example/tandem/tandem/analysis/PseudoAffine" "jumps" "[D" (.ref wjumps_ad0)) (F_rates_ad0 : Fld Z h0 ad0 "com/example/tandem/tandem/analysis/PseudoAffine" "rates" "[D" (.ref wrates_ad0)) (F_offset_ad0 : Fld Z h0 ad0 "com/example/tandem/tandem/analysis/PseudoAffine" "offset" "D" uoffset_ad0) (F_pieces_ad0 : Fld Z h0 ad0 "com/example/tandem/tandem/analysis/PseudoAffine" "pieces" "I" upieces_ad0) (g_ad0 : n0 ≤ ad0) :
    MetFree l (⟨"com/example/tandem/tandem/analysis/PseudoAffine", "clear", "()Lcom/example/tandem/tandem/analysis/PseudoAffine;"⟩ : MethodName) (head1 (Jvm.Cond.code (⟨"com/example/tandem/tandem/analysis/PseudoAffine", "clear", "()Lcom/example/tandem/tandem/analysis/PseudoAffine;"⟩ : MethodName) prog_42_method_2_code 1 (some (.object "com/example/tandem/tandem/analysis/PseudoAffine")) :: ws) ({ frames := 0, cells := 0, slots := 0, locals := 0 } : Room)) (fun a U => a = #[(.ref ad0)] ∧ Z.Warmed39 U.vm ∧ U.heap = h0) (fun _ _ _ _ _ => True) (fun _ U o U' => ∃ v L, o = .returned v ∧ own_Q5 Z ad0 wjumps_ad0 wrates_ad0 uoffset_ad0 upieces_ad0 h0 n0 v U'.heap L ∧ FrameEnd U o U' L ({ frames := 0, cells := 0, slots := 0, locals := 0 } : Room).cells ({ frames := 0, cells := 0, slots := 0, locals := 0 } : Room).slots) := by
  refine MetFree.of_bodySF (plainFor_of_name own_pn0) hisR ?_
  intro p e s m args below meth c s₁ Bd hml0 hP hK
  obtain ⟨rfl, hZ, hh⟩ := hP
  have hx := Bd.exec
  have hby := Bd.bytes
  have hlk := Bd.notSynchronized
  have hml : c.maxLocals = 1 := hml0
  have hown : s.vm.findClass "com/example/tandem/tandem/analysis/PseudoAffine" = some m.cls := findClass_of_methodNamed Bd.named
  have hnm := (name_of_methodNamed Bd.named Bd.method).1
  have X0 : Stand p l e ({ frames := 0, cells := 0, slots := 0, locals := 0 } : Room) s m #[(.ref ad0)] below meth c s₁ [] 0 0 := Stand.of_body Bd
  have e0 : s₁.heap = h0 := by rw [← hh, Bd.state]; rfl
  have N0 := Fr.nil n0
  have KR : Keep h0 h0 [ad0] := Keep.refl _ _
  show own_Fin p e below s ({ frames := 0, cells := 0, slots := 0, locals := 0 } : Room).cells ({ frames := 0, cells := 0, slots := 0, locals := 0 } : Room).slots (own_Q5 Z ad0 wjumps_ad0 wrates_ad0 uoffset_ad0 upieces_ad0 h0 n0) (s₁.setTop (entryFrame m #[(.ref ad0)] 1))
  refine own_cast (own_ef5 m ad0) ?_
  refine own_step (fun _ k => XS.aloadN X0.here hx rfl (hb hby own_d5_0) rfl rfl k) ?_
  refine own_step (fun _ k => XS.dconst0 X0.here hx rfl (hb hby own_d5_1) rfl k) ?_
  obtain ⟨T1, h1, X1, e1, W1, st1⟩ := putF X0 hx hZ hown (host := "") (Or.inl (own_w hw 35 rfl)) Via.refl e0 F_offset_ad0 E_ad0 (Or.inl (own_w hw 36 rfl)) (own_w hw 1 rfl) (ty := .double) (by decide) rfl rfl (g := (mkF m 2 #[.val (.ref ad0)] [(.double FP.dconst0), (.ref ad0)])) rfl rfl (hb hby own_d5_2)
  have N1 := Fr.snoc X1 N0 g_ad0
  have K1 : Keep h0 h1 [ad0] := KR.wr W1 (Or.inl (List.mem_of_getElem? (i := 0) rfl))
  have Z1 : n0 ≤ h1.size := Nat.le_trans Z0 (Keep.of_wr W1).1
  have G2 := (E_ad0.wr W1)
  have G3 := (F_jumps_ad0.other W1 (Or.inr (slot_ne (Or.inr (own_w hw 11 rfl)) (Or.inl (own_w hw 36 rfl)) (by decide) (t := (.array .double)) (t' := .double) (by decide) (by decide))))
  have G4 := (F_rates_ad0.other W1 (Or.inr (slot_ne (Or.inr (own_w hw 13 rfl)) (Or.inl (own_w hw 36 rfl)) (by decide) (t := (.array .double)) (t' := .double) (by decide) (by decide))))
  have G5 := (F_pieces_ad0.other W1 (Or.inr (slot_ne (Or.inl (own_w hw 38 rfl)) (Or.inl (own_w hw 36 rfl)) (by decide) (t := .int) (t' := .double) (by decide) (by decide))))
  have G6 := F_offset_ad0.same W1
  refine own_step st1 ?_
  show own_Fin p e below s _ _ _ (T1.setTop (mkF m 5 #[.val (.ref ad0)] []))
  refine own_step (fun _ k => XS.aloadN X1.here hx rfl (hb hby own_d5_5) rfl rfl k) ?_
  refine own_step (fun _ k => XS.iconst X1.here hx rfl (hb hby own_d5_6) k) ?_
  obtain ⟨T7, h7, X7, e7, W7, st7⟩ := putF X1 hx hZ hown (host := "") (Or.inl (own_w hw 37 rfl)) Via.refl e1 G5 G2 (Or.inl (own_w hw 38 rfl)) (own_w hw 1 rfl) (ty := .int) (by decide) rfl rfl (g := (mkF m 7 #[.val (.ref ad0)] [(.int (0 : Int32)), (.ref ad0)])) rfl rfl (hb hby own_d5_7)
  have N7 := Fr.snoc X7 N1 g_ad0
  have K7 : Keep h0 h7 [ad0] := K1.wr W7 (Or.inl (List.mem_of_getElem? (i := 0) rfl))
  have Z7 : n0 ≤ h7.size := Nat.le_trans Z1 (Keep.of_wr W7).1
  have G8 := (G2.wr W7)
  have G9 := (G3.other W7 (Or.inr (slot_ne (Or.inr (own_w hw 11 rfl)) (Or.inl (own_w hw 38 rfl)) (by decide) (t := (.array .double)) (t' := .int) (by decide) (by decide))))
  have G10 := (G4.other W7 (Or.inr (slot_ne (Or.inr (own_w hw 13 rfl)) (Or.inl (own_w hw 38 rfl)) (by decide) (t := (.array .double)) (t' := .int) (by decide) (by decide))))
  have G11 := (G6.other W7 (Or.inr (slot_ne (Or.inl (own_w hw 36 rfl)) (Or.inl (own_w hw 38 rfl)) (by decide) (t := .double) (t' := .int) (by decide) (by decide))))
  have G12 := G5.same W7
  refine own_step st7 ?_
  show own_Fin p e below s _ _ _ (T7.setTop (mkF m 10 #[.val (.ref ad0)] []))
  refine own_step (fun _ k => XS.aloadN X7.here hx rfl (hb hby own_d5_10) rfl rfl k) ?_
  exact own_ret X7 hlk (v := some (.ref ad0)) (fun h => by rw [Bd.returns] at h; cases h) (by decide) (by decide) (by show own_Q5 Z ad0 wjumps_ad0 wrates_ad0 uoffset_ad0 upieces_ad0 h0 n0 _ T7.heap _; rw [e7]; exact ⟨N7, K7, rfl, G8, G9, G10, G11, G12⟩) (fun fs hr => retOut X7 hx Bd.returns rfl (Or.inr (Or.inr (Or.inr (Or.inr ⟨rfl, rfl, rfl⟩)))) (hb hby own_d5_11) hr)

theorem own_d6_0 : decode prog_42_method_8_code 0 = .ok (.aload_n 0, 1) := by decide +kernel
theorem own_d6_1 : decode prog_42_method_8_code 1 = .ok (.getfield 16, 3) := by decide +kernel
theorem own_d6_4 : decode prog_42_method_8_code 4 = .ok (.dreturn, 1) := by decide +kernel
theorem own_ef6 (m : MethodId) (ad0 : Addr) : entryFrame m #[(.ref ad0)] 1 = mkF m 0 #[.val (.ref ad0)] [] := by first | (simp [entryFrame, mkF, argsToLocals, Value.category]; done) | rfl
def own_Q6 (Z : State) (ad0 : Addr) (woffset_ad0 : UInt64) (h0 : Heap) (n0 : Nat) (v : Option Value) (h : Heap) (L : List Loc) : Prop := v = some (.double woffset_ad0) ∧ Fr n0 L ∧ h = h0
set_option maxRecDepth 65536 in
set_option maxHeartbeats 40000000 in
theorem own_rm6 (l : Launch) (Z : State) (a0 : Array Value) (hw : ∀ d ∈ tables_1, d.before a0 Z = true) (ws : List Jvm.Cond) (ad0 : Addr) (woffset_ad0 : UInt64) (h0 : Heap) (n0 : Nat) (Z0 : n0 ≤ h0.size) (F_offset_ad0 : Fld Z h0 ad0 "com/example/tandem/tandem/analysis/PseudoAffine" "offset" "D" (.double woffset_ad0)) :
    MetFree l (⟨"com/example/tandem/tandem/analysis/PseudoAffine", "offset", "()D"⟩ : MethodName) (head1 (Jvm.Cond.code (⟨"com/example/tandem/tandem/analysis/PseudoAffine", "offset", "()D"⟩ : MethodName) prog_42_method_8_code 1 (some .double) :: ws) ({ frames := 0, cells := 0, slots := 0, locals := 0 } : Room)) (fun a U => a = #[(.ref ad0)] ∧ Z.Warmed39 U.vm ∧ U.heap = h0) (fun _ _ _ _ _ => True) (fun _ U o U' => ∃ v L, o = .returned v ∧ own_Q6 Z ad0 woffset_ad0 h0 n0 v U'.heap L ∧ FrameEnd U o U' L ({ frames := 0, cells := 0, slots := 0, locals := 0 } : Room).cells ({ frames := 0, cells := 0, slots := 0, locals := 0 } : Room).slots) := by
  refine MetFree.of_bodySF (plainFor_of_name own_pn0) hisR ?_
  intro p e s m args below meth c s₁ Bd hml0 hP hK
  obtain ⟨rfl, hZ, hh⟩ := hP
  have hx := Bd.exec
  have hby := Bd.bytes
  have hlk := Bd.notSynchronized
  have hml : c.maxLocals = 1 := hml0
  have hown : s.vm.findClass "com/example/tandem/tandem/analysis/PseudoAffine" = some m.cls := findClass_of_methodNamed Bd.named
  have hnm := (name_of_methodNamed Bd.named Bd.method).1
  have X0 : Stand p l e ({ frames := 0, cells := 0, slots := 0, locals := 0 } : Room) s m #[(.ref ad0)] below meth c s₁ [] 0 0 := Stand.of_body Bd
  have e0 : s₁.heap = h0 := by rw [← hh, Bd.state]; rfl
  have N0 := Fr.nil n0
  have KR : Keep h0 h0 [] := Keep.refl _ _
  show own_Fin p e below s ({ frames := 0, cells := 0, slots := 0, locals := 0 } : Room).cells ({ frames := 0, cells := 0, slots := 0, locals := 0 } : Room).slots (own_Q6 Z ad0 woffset_ad0 h0 n0) (s₁.setTop (entryFrame m #[(.ref ad0)] 1))
  refine own_cast (own_ef6 m ad0) ?_
  refine own_step (fun _ k => XS.aloadN X0.here hx rfl (hb hby own_d6_0) rfl rfl k) ?_
  obtain ⟨T1, X1, e1, st1⟩ := getF X0 hx hZ hown (host := "") (Or.inl (own_w hw 35 rfl)) Via.refl e0 F_offset_ad0 (g := (mkF m 1 #[.val (.ref ad0)] [(.ref ad0)])) rfl rfl (hb hby own_d6_1)
  refine own_step st1 ?_
  show own_Fin p e below s _ _ _ (T1.setTop (mkF m 4 #[.val (.ref ad0)] [(.double woffset_ad0)]))
  exact own_ret X1 hlk (v := some (.double woffset_ad0)) (fun h => by rw [Bd.returns] at h; cases h) (by decide) (by decide) (by show own_Q6 Z ad0 woffset_ad0 h0 n0 _ T1.heap _; rw [e1]; exact ⟨rfl, N0, rfl⟩) (fun fs hr => retOut X1 hx Bd.returns rfl (Or.inr (Or.inr (Or.inl ⟨rfl, rfl, _, rfl⟩))) (hb hby own_d6_4) hr)

theorem own_d7_0 : decode prog_54_method_6_code 0 = .ok (.aload_n 0, 1) := by decide +kernel
theorem own_d7_1 : decode prog_54_method_6_code 1 = .ok (.getfield 13, 3) := by decide +kernel
theorem own_d7_4 : decode prog_54_method_6_code 4 = .ok (.dreturn, 1) := by decide +kernel
theorem own_ef7 (m : MethodId) (ad0 : Addr) : entryFrame m #[(.ref ad0)] 1 = mkF m 0 #[.val (.ref ad0)] [] := by first | (simp [entryFrame, mkF, argsToLocals, Value.category]; done) | rfl
def own_Q7 (Z : State) (ad0 : Addr) (wlatency_ad0 : UInt64) (h0 : Heap) (n0 : Nat) (v : Option Value) (h : Heap) (L : List Loc) : Prop := v = some (.double wlatency_ad0) ∧ Fr n0 L ∧ h = h0
set_option maxRecDepth 65536 in
set_option maxHeartbeats 40000000 in
theorem own_rm7 (l : Launch) (Z : State) (a0 : Array Value) (hw : ∀ d ∈ tables_1, d.before a0 Z = true) (ws : List Jvm.Cond) (ad0 : Addr) (wlatency_ad0 : UInt64) (h0 : Heap) (n0 : Nat) (Z0 : n0 ≤ h0.size) (F_latency_ad0 : Fld Z h0 ad0 "com/example/tandem/tandem/model/RateLatency" "latency" "D" (.double wlatency_ad0)) :
    MetFree l (⟨"com/example/tandem/tandem/model/RateLatency", "latency", "()D"⟩ : MethodName) (head1 (Jvm.Cond.code (⟨"com/example/tandem/tandem/model/RateLatency", "latency", "()D"⟩ : MethodName) prog_54_method_6_code 1 (some .double) :: ws) ({ frames := 0, cells := 0, slots := 0, locals := 0 } : Room)) (fun a U => a = #[(.ref ad0)] ∧ Z.Warmed39 U.vm ∧ U.heap = h0) (fun _ _ _ _ _ => True) (fun _ U o U' => ∃ v L, o = .returned v ∧ own_Q7 Z ad0 wlatency_ad0 h0 n0 v U'.heap L ∧ FrameEnd U o U' L ({ frames := 0, cells := 0, slots := 0, locals := 0 } : Room).cells ({ frames := 0, cells := 0, slots := 0, locals := 0 } : Room).slots) := by
  refine MetFree.of_bodySF (plainFor_of_name own_pn2) hisR ?_
  intro p e s m args below meth c s₁ Bd hml0 hP hK
  obtain ⟨rfl, hZ, hh⟩ := hP
  have hx := Bd.exec
  have hby := Bd.bytes
  have hlk := Bd.notSynchronized
  have hml : c.maxLocals = 1 := hml0
  have hown : s.vm.findClass "com/example/tandem/tandem/model/RateLatency" = some m.cls := findClass_of_methodNamed Bd.named
  have hnm := (name_of_methodNamed Bd.named Bd.method).1
  have X0 : Stand p l e ({ frames := 0, cells := 0, slots := 0, locals := 0 } : Room) s m #[(.ref ad0)] below meth c s₁ [] 0 0 := Stand.of_body Bd
  have e0 : s₁.heap = h0 := by rw [← hh, Bd.state]; rfl
  have N0 := Fr.nil n0
  have KR : Keep h0 h0 [] := Keep.refl _ _
  show own_Fin p e below s ({ frames := 0, cells := 0, slots := 0, locals := 0 } : Room).cells ({ frames := 0, cells := 0, slots := 0, locals := 0 } : Room).slots (own_Q7 Z ad0 wlatency_ad0 h0 n0) (s₁.setTop (entryFrame m #[(.ref ad0)] 1))
  refine own_cast (own_ef7 m ad0) ?_
  refine own_step (fun _ k => XS.aloadN X0.here hx rfl (hb hby own_d7_0) rfl rfl k) ?_
  obtain ⟨T1, X1, e1, st1⟩ := getF X0 hx hZ hown (host := "") (Or.inl (own_w hw 28 rfl)) Via.refl e0 F_latency_ad0 (g := (mkF m 1 #[.val (.ref ad0)] [(.ref ad0)])) rfl rfl (hb hby own_d7_1)
  refine own_step st1 ?_
  show own_Fin p e below s _ _ _ (T1.setTop (mkF m 4 #[.val (.ref ad0)] [(.double wlatency_ad0)]))
  exact own_ret X1 hlk (v := some (.double wlatency_ad0)) (fun h => by rw [Bd.returns] at h; cases h) (by decide) (by decide) (by show own_Q7 Z ad0 wlatency_ad0 h0 n0 _ T1.heap _; rw [e1]; exact ⟨rfl, N0, rfl⟩) (fun fs hr => retOut X1 hx Bd.returns rfl (Or.inr (Or.inr (Or.inl ⟨rfl, rfl, _, rfl⟩))) (hb hby own_d7_4) hr)

theorem own_d8_0 : decode prog_54_method_5_code 0 = .ok (.aload_n 0, 1) := by decide +kernel
theorem own_d8_1 : decode prog_54_method_5_code 1 = .ok (.getfield 7, 3) := by decide +kernel
theorem own_d8_4 : decode prog_54_method_5_code 4 = .ok (.dreturn, 1) := by decide +kernel
theorem own_ef8 (m : MethodId) (ad0 : Addr) : entryFrame m #[(.ref ad0)] 1 = mkF m 0 #[.val (.ref ad0)] [] := by first | (simp [entryFrame, mkF, argsToLocals, Value.category]; done) | rfl
def own_Q8 (Z : State) (ad0 : Addr) (wrate_ad0 : UInt64) (h0 : Heap) (n0 : Nat) (v : Option Value) (h : Heap) (L : List Loc) : Prop := v = some (.double wrate_ad0) ∧ Fr n0 L ∧ h = h0
set_option maxRecDepth 65536 in
set_option maxHeartbeats 40000000 in
theorem own_rm8 (l : Launch) (Z : State) (a0 : Array Value) (hw : ∀ d ∈ tables_1, d.before a0 Z = true) (ws : List Jvm.Cond) (ad0 : Addr) (wrate_ad0 : UInt64) (h0 : Heap) (n0 : Nat) (Z0 : n0 ≤ h0.size) (F_rate_ad0 : Fld Z h0 ad0 "com/example/tandem/tandem/model/RateLatency" "rate" "D" (.double wrate_ad0)) :
    MetFree l (⟨"com/example/tandem/tandem/model/RateLatency", "rate", "()D"⟩ : MethodName) (head1 (Jvm.Cond.code (⟨"com/example/tandem/tandem/model/RateLatency", "rate", "()D"⟩ : MethodName) prog_54_method_5_code 1 (some .double) :: ws) ({ frames := 0, cells := 0, slots := 0, locals := 0 } : Room)) (fun a U => a = #[(.ref ad0)] ∧ Z.Warmed39 U.vm ∧ U.heap = h0) (fun _ _ _ _ _ => True) (fun _ U o U' => ∃ v L, o = .returned v ∧ own_Q8 Z ad0 wrate_ad0 h0 n0 v U'.heap L ∧ FrameEnd U o U' L ({ frames := 0, cells := 0, slots := 0, locals := 0 } : Room).cells ({ frames := 0, cells := 0, slots := 0, locals := 0 } : Room).slots) := by
  refine MetFree.of_bodySF (plainFor_of_name own_pn2) hisR ?_
  intro p e s m args below meth c s₁ Bd hml0 hP hK
  obtain ⟨rfl, hZ, hh⟩ := hP
  have hx := Bd.exec
  have hby := Bd.bytes
  have hlk := Bd.notSynchronized
  have hml : c.maxLocals = 1 := hml0
  have hown : s.vm.findClass "com/example/tandem/tandem/model/RateLatency" = some m.cls := findClass_of_methodNamed Bd.named
  have hnm := (name_of_methodNamed Bd.named Bd.method).1
  have X0 : Stand p l e ({ frames := 0, cells := 0, slots := 0, locals := 0 } : Room) s m #[(.ref ad0)] below meth c s₁ [] 0 0 := Stand.of_body Bd
  have e0 : s₁.heap = h0 := by rw [← hh, Bd.state]; rfl
  have N0 := Fr.nil n0
  have KR : Keep h0 h0 [] := Keep.refl _ _
  show own_Fin p e below s ({ frames := 0, cells := 0, slots := 0, locals := 0 } : Room).cells ({ frames := 0, cells := 0, slots := 0, locals := 0 } : Room).slots (own_Q8 Z ad0 wrate_ad0 h0 n0) (s₁.setTop (entryFrame m #[(.ref ad0)] 1))
  refine own_cast (own_ef8 m ad0) ?_
  refine own_step (fun _ k => XS.aloadN X0.here hx rfl (hb hby own_d8_0) rfl rfl k) ?_
  obtain ⟨T1, X1, e1, st1⟩ := getF X0 hx hZ hown (host := "") (Or.inl (own_w hw 26 rfl)) Via.refl e0 F_rate_ad0 (g := (mkF m 1 #[.val (.ref ad0)] [(.ref ad0)])) rfl rfl (hb hby own_d8_1)
  refine own_step st1 ?_
  show own_Fin p e below s _ _ _ (T1.setTop (mkF m 4 #[.val (.ref ad0)] [(.double wrate_ad0)]))
  exact own_ret X1 hlk (v := some (.double wrate_ad0)) (fun h => by rw [Bd.returns] at h; cases h) (by decide) (by decide) (by show own_Q8 Z ad0 wrate_ad0 h0 n0 _ T1.heap _; rw [e1]; exact ⟨rfl, N0, rfl⟩) (fun fs hr => retOut X1 hx Bd.returns rfl (Or.inr (Or.inr (Or.inl ⟨rfl, rfl, _, rfl⟩))) (hb hby own_d8_4) hr)

theorem own_d9_0 : decode prog_56_method_5_code 0 = .ok (.aload_n 0, 1) := by decide +kernel
theorem own_d9_1 : decode prog_56_method_5_code 1 = .ok (.getfield 7, 3) := by decide +kernel
theorem own_d9_4 : decode prog_56_method_5_code 4 = .ok (.dreturn, 1) := by decide +kernel
theorem own_ef9 (m : MethodId) (ad0 : Addr) : entryFrame m #[(.ref ad0)] 1 = mkF m 0 #[.val (.ref ad0)] [] := by first | (simp [entryFrame, mkF, argsToLocals, Value.category]; done) | rfl
def own_Q9 (Z : State) (ad0 : Addr) (wrate_ad0 : UInt64) (h0 : Heap) (n0 : Nat) (v : Option Value) (h : Heap) (L : List Loc) : Prop := v = some (.double wrate_ad0) ∧ Fr n0 L ∧ h = h0
set_option maxRecDepth 65536 in
set_option maxHeartbeats 40000000 in
theorem own_rm9 (l : Launch) (Z : State) (a0 : Array Value) (hw : ∀ d ∈ tables_1, d.before a0 Z = true) (ws : List Jvm.Cond) (ad0 : Addr) (wrate_ad0 : UInt64) (h0 : Heap) (n0 : Nat) (Z0 : n0 ≤ h0.size) (F_rate_ad0 : Fld Z h0 ad0 "com/example/tandem/tandem/model/TokenBucket" "rate" "D" (.double wrate_ad0)) :
    MetFree l (⟨"com/example/tandem/tandem/model/TokenBucket", "rate", "()D"⟩ : MethodName) (head1 (Jvm.Cond.code (⟨"com/example/tandem/tandem/model/TokenBucket", "rate", "()D"⟩ : MethodName) prog_56_method_5_code 1 (some .double) :: ws) ({ frames := 0, cells := 0, slots := 0, locals := 0 } : Room)) (fun a U => a = #[(.ref ad0)] ∧ Z.Warmed39 U.vm ∧ U.heap = h0) (fun _ _ _ _ _ => True) (fun _ U o U' => ∃ v L, o = .returned v ∧ own_Q9 Z ad0 wrate_ad0 h0 n0 v U'.heap L ∧ FrameEnd U o U' L ({ frames := 0, cells := 0, slots := 0, locals := 0 } : Room).cells ({ frames := 0, cells := 0, slots := 0, locals := 0 } : Room).slots) := by
  refine MetFree.of_bodySF (plainFor_of_name own_pn3) hisR ?_
  intro p e s m args below meth c s₁ Bd hml0 hP hK
  obtain ⟨rfl, hZ, hh⟩ := hP
  have hx := Bd.exec
  have hby := Bd.bytes
  have hlk := Bd.notSynchronized
  have hml : c.maxLocals = 1 := hml0
  have hown : s.vm.findClass "com/example/tandem/tandem/model/TokenBucket" = some m.cls := findClass_of_methodNamed Bd.named
  have hnm := (name_of_methodNamed Bd.named Bd.method).1
  have X0 : Stand p l e ({ frames := 0, cells := 0, slots := 0, locals := 0 } : Room) s m #[(.ref ad0)] below meth c s₁ [] 0 0 := Stand.of_body Bd
  have e0 : s₁.heap = h0 := by rw [← hh, Bd.state]; rfl
  have N0 := Fr.nil n0
  have KR : Keep h0 h0 [] := Keep.refl _ _
  show own_Fin p e below s ({ frames := 0, cells := 0, slots := 0, locals := 0 } : Room).cells ({ frames := 0, cells := 0, slots := 0, locals := 0 } : Room).slots (own_Q9 Z ad0 wrate_ad0 h0 n0) (s₁.setTop (entryFrame m #[(.ref ad0)] 1))
  refine own_cast (own_ef9 m ad0) ?_
  refine own_step (fun _ k => XS.aloadN X0.here hx rfl (hb hby own_d9_0) rfl rfl k) ?_
  obtain ⟨T1, X1, e1, st1⟩ := getF X0 hx hZ hown (host := "") (Or.inl (own_w hw 46 rfl)) Via.refl e0 F_rate_ad0 (g := (mkF m 1 #[.val (.ref ad0)] [(.ref ad0)])) rfl rfl (hb hby own_d9_1)
  refine own_step st1 ?_
  show own_Fin p e below s _ _ _ (T1.setTop (mkF m 4 #[.val (.ref ad0)] [(.double wrate_ad0)]))
  exact own_ret X1 hlk (v := some (.double wrate_ad0)) (fun h => by rw [Bd.returns] at h; cases h) (by decide) (by decide) (by show own_Q9 Z ad0 wrate_ad0 h0 n0 _ T1.heap _; rw [e1]; exact ⟨rfl, N0, rfl⟩) (fun fs hr => retOut X1 hx Bd.returns rfl (Or.inr (Or.inr (Or.inl ⟨rfl, rfl, _, rfl⟩))) (hb hby own_d9_4) hr)

theorem own_d10_0 : decode prog_56_method_6_code 0 = .ok (.aload_n 0, 1) := by decide +kernel
theorem own_d10_1 : decode prog_56_method_6_code 1 = .ok (.getfield 13, 3) := by decide +kernel
theorem own_d10_4 : decode prog_56_method_6_code 4 = .ok (.dreturn, 1) := by decide +kernel
theorem own_ef10 (m : MethodId) (ad0 : Addr) : entryFrame m #[(.ref ad0)] 1 = mkF m 0 #[.val (.ref ad0)] [] := by first | (simp [entryFrame, mkF, argsToLocals, Value.category]; done) | rfl
def own_Q10 (Z : State) (ad0 : Addr) (wburst_ad0 : UInt64) (h0 : Heap) (n0 : Nat) (v : Option Value) (h : Heap) (L : List Loc) : Prop := v = some (.double wburst_ad0) ∧ Fr n0 L ∧ h = h0
set_option maxRecDepth 65536 in
set_option maxHeartbeats 40000000 in
theorem own_rm10 (l : Launch) (Z : State) (a0 : Array Value) (hw : ∀ d ∈ tables_1, d.before a0 Z = true) (ws : List Jvm.Cond) (ad0 : Addr) (wburst_ad0 : UInt64) (h0 : Heap) (n0 : Nat) (Z0 : n0 ≤ h0.size) (F_burst_ad0 : Fld Z h0 ad0 "com/example/tandem/tandem/model/TokenBucket" "burst" "D" (.double wburst_ad0)) :
    MetFree l (⟨"com/example/tandem/tandem/model/TokenBucket", "burst", "()D"⟩ : MethodName) (head1 (Jvm.Cond.code (⟨"com/example/tandem/tandem/model/TokenBucket", "burst", "()D"⟩ : MethodName) prog_56_method_6_code 1 (some .double) :: ws) ({ frames := 0, cells := 0, slots := 0, locals := 0 } : Room)) (fun a U => a = #[(.ref ad0)] ∧ Z.Warmed39 U.vm ∧ U.heap = h0) (fun _ _ _ _ _ => True) (fun _ U o U' => ∃ v L, o = .returned v ∧ own_Q10 Z ad0 wburst_ad0 h0 n0 v U'.heap L ∧ FrameEnd U o U' L ({ frames := 0, cells := 0, slots := 0, locals := 0 } : Room).cells ({ frames := 0, cells := 0, slots := 0, locals := 0 } : Room).slots) := by
  refine MetFree.of_bodySF (plainFor_of_name own_pn3) hisR ?_
  intro p e s m args below meth c s₁ Bd hml0 hP hK
  obtain ⟨rfl, hZ, hh⟩ := hP
  have hx := Bd.exec
  have hby := Bd.bytes
  have hlk := Bd.notSynchronized
  have hml : c.maxLocals = 1 := hml0
  have hown : s.vm.findClass "com/example/tandem/tandem/model/TokenBucket" = some m.cls := findClass_of_methodNamed Bd.named
  have hnm := (name_of_methodNamed Bd.named Bd.method).1
  have X0 : Stand p l e ({ frames := 0, cells := 0, slots := 0, locals := 0 } : Room) s m #[(.ref ad0)] below meth c s₁ [] 0 0 := Stand.of_body Bd
  have e0 : s₁.heap = h0 := by rw [← hh, Bd.state]; rfl
  have N0 := Fr.nil n0
  have KR : Keep h0 h0 [] := Keep.refl _ _
  show own_Fin p e below s ({ frames := 0, cells := 0, slots := 0, locals := 0 } : Room).cells ({ frames := 0, cells := 0, slots := 0, locals := 0 } : Room).slots (own_Q10 Z ad0 wburst_ad0 h0 n0) (s₁.setTop (entryFrame m #[(.ref ad0)] 1))
  refine own_cast (own_ef10 m ad0) ?_
  refine own_step (fun _ k => XS.aloadN X0.here hx rfl (hb hby own_d10_0) rfl rfl k) ?_
  obtain ⟨T1, X1, e1, st1⟩ := getF X0 hx hZ hown (host := "") (Or.inl (own_w hw 48 rfl)) Via.refl e0 F_burst_ad0 (g := (mkF m 1 #[.val (.ref ad0)] [(.ref ad0)])) rfl rfl (hb hby own_d10_1)
  refine own_step st1 ?_
  show own_Fin p e below s _ _ _ (T1.setTop (mkF m 4 #[.val (.ref ad0)] [(.double wburst_ad0)]))
  exact own_ret X1 hlk (v := some (.double wburst_ad0)) (fun h => by rw [Bd.returns] at h; cases h) (by decide) (by decide) (by show own_Q10 Z ad0 wburst_ad0 h0 n0 _ T1.heap _; rw [e1]; exact ⟨rfl, N0, rfl⟩) (fun fs hr => retOut X1 hx Bd.returns rfl (Or.inr (Or.inr (Or.inl ⟨rfl, rfl, _, rfl⟩))) (hb hby own_d10_4) hr)

theorem own_d11_0 : decode prog_42_method_7_code 0 = .ok (.aload_n 0, 1) := by decide +kernel
theorem own_d11_1 : decode prog_42_method_7_code 1 = .ok (.ldc2_w 51, 3) := by decide +kernel
theorem own_d11_4 : decode prog_42_method_7_code 4 = .ok (.putfield 16, 3) := by decide +kernel
theorem own_d11_7 : decode prog_42_method_7_code 7 = .ok (.aload_n 0, 1) := by decide +kernel
theorem own_d11_8 : decode prog_42_method_7_code 8 = .ok (.iconst 0, 1) := by decide +kernel
theorem own_d11_9 : decode prog_42_method_7_code 9 = .ok (.putfield 20, 3) := by decide +kernel
theorem own_d11_12 : decode prog_42_method_7_code 12 = .ok (.aload_n 0, 1) := by decide +kernel
theorem own_d11_13 : decode prog_42_method_7_code 13 = .ok (.areturn, 1) := by decide +kernel
theorem own_ef11 (m : MethodId) (ad0 : Addr) : entryFrame m #[(.ref ad0)] 1 = mkF m 0 #[.val (.ref ad0)] [] := by first | (simp [entryFrame, mkF, argsToLocals, Value.category]; done) | rfl
def own_Q11 (Z : State) (ad0 : Addr) (wjumps_ad0 : Addr) (wrates_ad0 : Addr) (uoffset_ad0 : Value) (upieces_ad0 : Value) (h0 : Heap) (n0 : Nat) (v : Option Value) (h : Heap) (L : List Loc) : Prop := Fr n0 L ∧ Keep h0 h [ad0] ∧ v = some (.ref ad0) ∧ Exa Z h ad0 "com/example/tandem/tandem/analysis/PseudoAffine" ∧ Fld Z h ad0 "com/example/tandem/tandem/analysis/PseudoAffine" "jumps" "[D" (.ref wjumps_ad0) ∧ Fld Z h ad0 "com/example/tandem/tandem/analysis/PseudoAffine" "rates" "[D" (.ref wrates_ad0) ∧ Fld Z h ad0 "com/example/tandem/tandem/analysis/PseudoAffine" "offset" "D" (.double (9218868437227405312 : UInt64)) ∧ Fld Z h ad0 "com/example/tandem/tandem/analysis/PseudoAffine" "pieces" "I" (.int (0 : Int32))
set_option maxRecDepth 65536 in
set_option maxHeartbeats 40000000 in
theorem own_rm11 (l : Launch) (Z : State) (a0 : Array Value) (hw : ∀ d ∈ tables_1, d.before a0 Z = true) (ws : List Jvm.Cond) (ad0 : Addr) (wjumps_ad0 : Addr) (wrates_ad0 : Addr) (uoffset_ad0 : Value) (upieces_ad0 : Value) (h0 : Heap) (n0 : Nat) (Z0 : n0 ≤ h0.size) (E_ad0 : Exa Z h0 ad0 "com/example/tandem/tandem/analysis/PseudoAffine") (F_jumps_ad0 : Fld Z h0 ad0 "com/example/tandem/tandem/analysis/PseudoAffine" "jumps" "[D" (.ref wjumps_ad0)) (F_rates_ad0 : Fld Z h0 ad0 "com/example/tandem/tandem/analysis/PseudoAffine" "rates" "[D" (.ref wrates_ad0)) (F_offset_ad0 : Fld Z h0 ad0 "com/example/tandem/tandem/analysis/PseudoAffine" "offset" "D" uoffset_ad0) (F_pieces_ad0 : Fld Z h0 ad0 "com/example/tandem/tandem/analysis/PseudoAffine" "pieces" "I" upieces_ad0) (g_ad0 : n0 ≤ ad0) :
    MetFree l (⟨"com/example/tandem/tandem/analysis/PseudoAffine", "guaranteeNothing", "()Lcom/example/tandem/tandem/analysis/PseudoAffine;"⟩ : MethodName) (head1 (Jvm.Cond.code (⟨"com/example/tandem/tandem/analysis/PseudoAffine", "guaranteeNothing", "()Lcom/example/tandem/tandem/analysis/PseudoAffine;"⟩ : MethodName) prog_42_method_7_code 1 (some (.object "com/example/tandem/tandem/analysis/PseudoAffine")) :: ws) ({ frames := 0, cells := 0, slots := 0, locals := 0 } : Room)) (fun a U => a = #[(.ref ad0)] ∧ Z.Warmed39 U.vm ∧ U.heap = h0) (fun _ _ _ _ _ => True) (fun _ U o U' => ∃ v L, o = .returned v ∧ own_Q11 Z ad0 wjumps_ad0 wrates_ad0 uoffset_ad0 upieces_ad0 h0 n0 v U'.heap L ∧ FrameEnd U o U' L ({ frames := 0, cells := 0, slots := 0, locals := 0 } : Room).cells ({ frames := 0, cells := 0, slots := 0, locals := 0 } : Room).slots) := by
  refine MetFree.of_bodySF (plainFor_of_name own_pn0) hisR ?_
  intro p e s m args below meth c s₁ Bd hml0 hP hK
  obtain ⟨rfl, hZ, hh⟩ := hP
  have hx := Bd.exec
  have hby := Bd.bytes
  have hlk := Bd.notSynchronized
  have hml : c.maxLocals = 1 := hml0
  have hown : s.vm.findClass "com/example/tandem/tandem/analysis/PseudoAffine" = some m.cls := findClass_of_methodNamed Bd.named
  have hnm := (name_of_methodNamed Bd.named Bd.method).1
  have X0 : Stand p l e ({ frames := 0, cells := 0, slots := 0, locals := 0 } : Room) s m #[(.ref ad0)] below meth c s₁ [] 0 0 := Stand.of_body Bd
  have e0 : s₁.heap = h0 := by rw [← hh, Bd.state]; rfl
  have N0 := Fr.nil n0
  have KR : Keep h0 h0 [ad0] := Keep.refl _ _
  show own_Fin p e below s ({ frames := 0, cells := 0, slots := 0, locals := 0 } : Room).cells ({ frames := 0, cells := 0, slots := 0, locals := 0 } : Room).slots (own_Q11 Z ad0 wjumps_ad0 wrates_ad0 uoffset_ad0 upieces_ad0 h0 n0) (s₁.setTop (entryFrame m #[(.ref ad0)] 1))
  refine own_cast (own_ef11 m ad0) ?_
  refine own_step (fun _ k => XS.aloadN X0.here hx rfl (hb hby own_d11_0) rfl rfl k) ?_
  refine own_step (fun _ k => X0.ldc2DoubleC hx hown (mvT hZ (own_w hw 115 rfl)) (g := (mkF m 1 #[.val (.ref ad0)] [(.ref ad0)])) rfl (hb hby own_d11_1) _ k) ?_
  obtain ⟨T1, h1, X1, e1, W1, st1⟩ := putF X0 hx hZ hown (host := "") (Or.inl (own_w hw 35 rfl)) Via.refl e0 F_offset_ad0 E_ad0 (Or.inl (own_w hw 36 rfl)) (own_w hw 1 rfl) (ty := .double) (by decide) rfl rfl (g := (mkF m 4 #[.val (.ref ad0)] [(.double (9218868437227405312 : UInt64)), (.ref ad0)])) rfl rfl (hb hby own_d11_4)
  have N1 := Fr.snoc X1 N0 g_ad0
  have K1 : Keep h0 h1 [ad0] := KR.wr W1 (Or.inl (List.mem_of_getElem? (i := 0) rfl))
  have Z1 : n0 ≤ h1.size := Nat.le_trans Z0 (Keep.of_wr W1).1
  have G2 := (E_ad0.wr W1)
  have G3 := (F_jumps_ad0.other W1 (Or.inr (slot_ne (Or.inr (own_w hw 11 rfl)) (Or.inl (own_w hw 36 rfl)) (by decide) (t := (.array .double)) (t' := .double) (by decide) (by decide))))
  have G4 := (F_rates_ad0.other W1 (Or.inr (slot_ne (Or.inr (own_w hw 13 rfl)) (Or.inl (own_w hw 36 rfl)) (by decide) (t := (.array .double)) (t' := .double) (by decide) (by decide))))
  have G5 := (F_pieces_ad0.other W1 (Or.inr (slot_ne (Or.inl (own_w hw 38 rfl)) (Or.inl (own_w hw 36 rfl)) (by decide) (t := .int) (t' := .double) (by decide) (by decide))))
  have G6 := F_offset_ad0.same W1
  refine own_step st1 ?_
  show own_Fin p e below s _ _ _ (T1.setTop (mkF m 7 #[.val (.ref ad0)] []))
  refine own_step (fun _ k => XS.aloadN X1.here hx rfl (hb hby own_d11_7) rfl rfl k) ?_
  refine own_step (fun _ k => XS.iconst X1.here hx rfl (hb hby own_d11_8) k) ?_
  obtain ⟨T7, h7, X7, e7, W7, st7⟩ := putF X1 hx hZ hown (host := "") (Or.inl (own_w hw 37 rfl)) Via.refl e1 G5 G2 (Or.inl (own_w hw 38 rfl)) (own_w hw 1 rfl) (ty := .int) (by decide) rfl rfl (g := (mkF m 9 #[.val (.ref ad0)] [(.int (0 : Int32)), (.ref ad0)])) rfl rfl (hb hby own_d11_9)
  have N7 := Fr.snoc X7 N1 g_ad0
  have K7 : Keep h0 h7 [ad0] := K1.wr W7 (Or.inl (List.mem_of_getElem? (i := 0) rfl))
  have Z7 : n0 ≤ h7.size := Nat.le_trans Z1 (Keep.of_wr W7).1
  have G8 := (G2.wr W7)
  have G9 := (G3.other W7 (Or.inr (slot_ne (Or.inr (own_w hw 11 rfl)) (Or.inl (own_w hw 38 rfl)) (by decide) (t := (.array .double)) (t' := .int) (by decide) (by decide))))
  have G10 := (G4.other W7 (Or.inr (slot_ne (Or.inr (own_w hw 13 rfl)) (Or.inl (own_w hw 38 rfl)) (by decide) (t := (.array .double)) (t' := .int) (by decide) (by decide))))
  have G11 := (G6.other W7 (Or.inr (slot_ne (Or.inl (own_w hw 36 rfl)) (Or.inl (own_w hw 38 rfl)) (by decide) (t := .double) (t' := .int) (by decide) (by decide))))
  have G12 := G5.same W7
  refine own_step st7 ?_
  show own_Fin p e below s _ _ _ (T7.setTop (mkF m 12 #[.val (.ref ad0)] []))
  refine own_step (fun _ k => XS.aloadN X7.here hx rfl (hb hby own_d11_12) rfl rfl k) ?_
  exact own_ret X7 hlk (v := some (.ref ad0)) (fun h => by rw [Bd.returns] at h; cases h) (by decide) (by decide) (by show own_Q11 Z ad0 wjumps_ad0 wrates_ad0 uoffset_ad0 upieces_ad0 h0 n0 _ T7.heap _; rw [e7]; exact ⟨N7, K7, rfl, G8, G9, G10, G11, G12⟩) (fun fs hr => retOut X7 hx Bd.returns rfl (Or.inr (Or.inr (Or.inr (Or.inr ⟨rfl, rfl, rfl⟩)))) (hb hby own_d11_13) hr)

theorem own_pd1 : parseMethodDescriptor "()D" = some ⟨[], some .double⟩ := by decide +kernel
abbrev own_y1 : MethodName := (⟨"com/example/tandem/tandem/model/RateLatency", "latency", "()D"⟩ : MethodName)
abbrev own_y2 : MethodName := (⟨"com/example/tandem/tandem/model/RateLatency", "rate", "()D"⟩ : MethodName)
theorem own_d12_0 : decode prog_42_method_3_code 0 = .ok (.aload_n 0, 1) := by decide +kernel
theorem own_d12_1 : decode prog_42_method_3_code 1 = .ok (.dup, 1) := by decide +kernel
theorem own_d12_2 : decode prog_42_method_3_code 2 = .ok (.getfield 16, 3) := by decide +kernel
theorem own_d12_5 : decode prog_42_method_3_code 5 = .ok (.aload_n 1, 1) := by decide +kernel
theorem own_d12_6 : decode prog_42_method_3_code 6 = .ok (.invokevirtual 24, 3) := by decide +kernel
theorem own_d12_9 : decode prog_42_method_3_code 9 = .ok (.dadd, 1) := by decide +kernel
theorem own_d12_10 : decode prog_42_method_3_code 10 = .ok (.putfield 16, 3) := by decide +kernel
theorem own_d12_13 : decode prog_42_method_3_code 13 = .ok (.aload_n 0, 1) := by decide +kernel
theorem own_d12_14 : decode prog_42_method_3_code 14 = .ok (.getfield 7, 3) := by decide +kernel
theorem own_d12_17 : decode prog_42_method_3_code 17 = .ok (.aload_n 0, 1) := by decide +kernel
theorem own_d12_18 : decode prog_42_method_3_code 18 = .ok (.getfield 20, 3) := by decide +kernel
theorem own_d12_21 : decode prog_42_method_3_code 21 = .ok (.dconst 0, 1) := by decide +kernel
theorem own_d12_22 : decode prog_42_method_3_code 22 = .ok (.dastore, 1) := by decide +kernel
theorem own_d12_23 : decode prog_42_method_3_code 23 = .ok (.aload_n 0, 1) := by decide +kernel
theorem own_d12_24 : decode prog_42_method_3_code 24 = .ok (.getfield 13, 3) := by decide +kernel
theorem own_d12_27 : decode prog_42_method_3_code 27 = .ok (.aload_n 0, 1) := by decide +kernel
theorem own_d12_28 : decode prog_42_method_3_code 28 = .ok (.getfield 20, 3) := by decide +kernel
theorem own_d12_31 : decode prog_42_method_3_code 31 = .ok (.aload_n 1, 1) := by decide +kernel
theorem own_d12_32 : decode prog_42_method_3_code 32 = .ok (.invokevirtual 30, 3) := by decide +kernel
theorem own_d12_35 : decode prog_42_method_3_code 35 = .ok (.dastore, 1) := by decide +kernel
theorem own_d12_36 : decode prog_42_method_3_code 36 = .ok (.aload_n 0, 1) := by decide +kernel
theorem own_d12_37 : decode prog_42_method_3_code 37 = .ok (.dup, 1) := by decide +kernel
theorem own_d12_38 : decode prog_42_method_3_code 38 = .ok (.getfield 20, 3) := by decide +kernel
theorem own_d12_41 : decode prog_42_method_3_code 41 = .ok (.iconst 1, 1) := by decide +kernel
theorem own_d12_42 : decode prog_42_method_3_code 42 = .ok (.iadd, 1) := by decide +kernel
theorem own_d12_43 : decode prog_42_method_3_code 43 = .ok (.putfield 20, 3) := by decide +kernel
theorem own_d12_46 : decode prog_42_method_3_code 46 = .ok (.aload_n 0, 1) := by decide +kernel
theorem own_d12_47 : decode prog_42_method_3_code 47 = .ok (.areturn, 1) := by decide +kernel
theorem own_ef12 (m : MethodId) (ad0 : Addr) (ad1 : Addr) : entryFrame m #[(.ref ad0), (.ref ad1)] 2 = mkF m 0 #[.val (.ref ad0), .val (.ref ad1)] [] := by first | (simp [entryFrame, mkF, argsToLocals, Value.category]; done) | rfl
def own_Q12 (Z : State) (ad0 : Addr) (ad1 : Addr) (wjumps_ad0 : Addr) (wrates_ad0 : Addr) (woffset_ad0 : UInt64) (k_wjumps_ad0 : ClassId) (wjumps_ad0_0 : UInt64) (wjumps_ad0_1 : UInt64) (k_wrates_ad0 : ClassId) (wrates_ad0_0 : UInt64) (wrates_ad0_1 : UInt64) (wlatency_ad1 : UInt64) (wrate_ad1 : UInt64) (h0 : Heap) (n0 : Nat) (v : Option Value) (h : Heap) (L : List Loc) : Prop := Fr n0 L ∧ Keep h0 h [ad0, wjumps_ad0, wrates_ad0] ∧ v = some (.ref ad0) ∧ Exa Z h ad0 "com/example/tandem/tandem/analysis/PseudoAffine" ∧ Fld Z h ad0 "com/example/tandem/tandem/analysis/PseudoAffine" "jumps" "[D" (.ref wjumps_ad0) ∧ Fld Z h ad0 "com/example/tandem/tandem/analysis/PseudoAffine" "rates" "[D" (.ref wrates_ad0) ∧ Fld Z h ad0 "com/example/tandem/tandem/analysis/PseudoAffine" "offset" "D" (.double (FP.dadd woffset_ad0 wlatency_ad1)) ∧ Fld Z h ad0 "com/example/tandem/tandem/analysis/PseudoAffine" "pieces" "I" (.int (1 : Int32)) ∧ Arv Z h wjumps_ad0 k_wjumps_ad0 .double (4 : Int32) [(.double FP.dconst0), (.double wjumps_ad0_1)] (.double (0 : UInt64)) ∧ Arv Z h wrates_ad0 k_wrates_ad0 .double (4 : Int32) [(.double wrate_ad1), (.double wrates_ad0_1)] (.double (0 : UInt64))
set_option maxRecDepth 65536 in
set_option maxHeartbeats 40000000 in
theorem own_rm12 (l : Launch) (Z : State) (a0 : Array Value) (hw : ∀ d ∈ tables_1, d.before a0 Z = true) (ws : List Jvm.Cond) (ad0 : Addr) (ad1 : Addr) (wjumps_ad0 : Addr) (wrates_ad0 : Addr) (woffset_ad0 : UInt64) (k_wjumps_ad0 : ClassId) (wjumps_ad0_0 : UInt64) (wjumps_ad0_1 : UInt64) (k_wrates_ad0 : ClassId) (wrates_ad0_0 : UInt64) (wrates_ad0_1 : UInt64) (wlatency_ad1 : UInt64) (wrate_ad1 : UInt64) (h0 : Heap) (n0 : Nat) (Z0 : n0 ≤ h0.size) (E_ad0 : Exa Z h0 ad0 "com/example/tandem/tandem/analysis/PseudoAffine") (F_jumps_ad0 : Fld Z h0 ad0 "com/example/tandem/tandem/analysis/PseudoAffine" "jumps" "[D" (.ref wjumps_ad0)) (F_rates_ad0 : Fld Z h0 ad0 "com/example/tandem/tandem/analysis/PseudoAffine" "rates" "[D" (.ref wrates_ad0)) (hm_woffset_ad0 : Jvm.Free.Fl.Mag64 1100 woffset_ad0) (F_offset_ad0 : Fld Z h0 ad0 "com/example/tandem/tandem/analysis/PseudoAffine" "offset" "D" (.double woffset_ad0)) (F_pieces_ad0 : Fld Z h0 ad0 "com/example/tandem/tandem/analysis/PseudoAffine" "pieces" "I" (.int (0 : Int32))) (A_wjumps_ad0 : Arv Z h0 wjumps_ad0 k_wjumps_ad0 .double (4 : Int32) [(.double wjumps_ad0_0), (.double wjumps_ad0_1)] (.double (0 : UInt64))) (A_wrates_ad0 : Arv Z h0 wrates_ad0 k_wrates_ad0 .double (4 : Int32) [(.double wrates_ad0_0), (.double wrates_ad0_1)] (.double (0 : UInt64))) (E_ad1 : Exa Z h0 ad1 "com/example/tandem/tandem/model/RateLatency") (hm_wlatency_ad1 : Jvm.Free.Fl.Mag64 1056 wlatency_ad1) (F_latency_ad1 : Fld Z h0 ad1 "com/example/tandem/tandem/model/RateLatency" "latency" "D" (.double wlatency_ad1)) (F_rate_ad1 : Fld Z h0 ad1 "com/example/tandem/tandem/model/RateLatency" "rate" "D" (.double wrate_ad1)) (g_ad0 : n0 ≤ ad0) (ne_wjumps_ad0_ad0 : wjumps_ad0 ≠ ad0) (ne_wrates_ad0_ad0 : wrates_ad0 ≠ ad0) (ne_ad1_ad0 : ad1 ≠ ad0) (g_wjumps_ad0 : n0 ≤ wjumps_ad0) (ne_ad0_wjumps_ad0 : ad0 ≠ wjumps_ad0) (ne_wrates_ad0_wjumps_ad0 : wrates_ad0 ≠ wjumps_ad0) (ne_ad1_wjumps_ad0 : ad1 ≠ wjumps_ad0) (g_wrates_ad0 : n0 ≤ wrates_ad0) (ne_ad0_wrates_ad0 : ad0 ≠ wrates_ad0) (ne_ad1_wrates_ad0 : ad1 ≠ wrates_ad0) (ne_wjumps_ad0_wrates_ad0 : wjumps_ad0 ≠ wrates_ad0) :
    MetFree l (⟨"com/example/tandem/tandem/analysis/PseudoAffine", "concatenate", "(Lcom/example/tandem/tandem/model/RateLatency;)Lcom/example/tandem/tandem/analysis/PseudoAffine;"⟩ : MethodName) (head1 (Jvm.Cond.code (⟨"com/example/tandem/tandem/analysis/PseudoAffine", "concatenate", "(Lcom/example/tandem/tandem/model/RateLatency;)Lcom/example/tandem/tandem/analysis/PseudoAffine;"⟩ : MethodName) prog_42_method_3_code 2 (some (.object "com/example/tandem/tandem/analysis/PseudoAffine")) :: ws) ({ frames := 1, cells := 0, slots := 0, locals := 15 } : Room)) (fun a U => a = #[(.ref ad0), (.ref ad1)] ∧ Z.Warmed39 U.vm ∧ U.heap = h0) (fun _ _ _ _ _ => True) (fun _ U o U' => ∃ v L, o = .returned v ∧ own_Q12 Z ad0 ad1 wjumps_ad0 wrates_ad0 woffset_ad0 k_wjumps_ad0 wjumps_ad0_0 wjumps_ad0_1 k_wrates_ad0 wrates_ad0_0 wrates_ad0_1 wlatency_ad1 wrate_ad1 h0 n0 v U'.heap L ∧ FrameEnd U o U' L ({ frames := 1, cells := 0, slots := 0, locals := 15 } : Room).cells ({ frames := 1, cells := 0, slots := 0, locals := 15 } : Room).slots) := by
  refine MetFree.of_bodySF (plainFor_of_name own_pn0) hisR ?_
  intro p e s m args below meth c s₁ Bd hml0 hP hK
  obtain ⟨rfl, hZ, hh⟩ := hP
  have hx := Bd.exec
  have hby := Bd.bytes
  have hlk := Bd.notSynchronized
  have hml : c.maxLocals = 2 := hml0
  have hown : s.vm.findClass "com/example/tandem/tandem/analysis/PseudoAffine" = some m.cls := findClass_of_methodNamed Bd.named
  have hnm := (name_of_methodNamed Bd.named Bd.method).1
  have X0 : Stand p l e ({ frames := 1, cells := 0, slots := 0, locals := 15 } : Room) s m #[(.ref ad0), (.ref ad1)] below meth c s₁ [] 0 0 := Stand.of_body Bd
  have e0 : s₁.heap = h0 := by rw [← hh, Bd.state]; rfl
  have N0 := Fr.nil n0
  have KR : Keep h0 h0 [ad0, wjumps_ad0, wrates_ad0] := Keep.refl _ _
  show own_Fin p e below s ({ frames := 1, cells := 0, slots := 0, locals := 15 } : Room).cells ({ frames := 1, cells := 0, slots := 0, locals := 15 } : Room).slots (own_Q12 Z ad0 ad1 wjumps_ad0 wrates_ad0 woffset_ad0 k_wjumps_ad0 wjumps_ad0_0 wjumps_ad0_1 k_wrates_ad0 wrates_ad0_0 wrates_ad0_1 wlatency_ad1 wrate_ad1 h0 n0) (s₁.setTop (entryFrame m #[(.ref ad0), (.ref ad1)] 2))
  refine own_cast (own_ef12 m ad0 ad1) ?_
  refine own_step (fun _ k => XS.aloadN X0.here hx rfl (hb hby own_d12_0) rfl rfl k) ?_
  refine own_step (fun _ k => XS.dup X0.here hx rfl (hb hby own_d12_1) rfl rfl k) ?_
  obtain ⟨T1, X1, e1, st1⟩ := getF X0 hx hZ hown (host := "") (Or.inl (own_w hw 35 rfl)) Via.refl e0 F_offset_ad0 (g := (mkF m 2 #[.val (.ref ad0), .val (.ref ad1)] [(.ref ad0), (.ref ad0)])) rfl rfl (hb hby own_d12_2)
  refine own_step st1 ?_
  show own_Fin p e below s _ _ _ (T1.setTop (mkF m 5 #[.val (.ref ad0), .val (.ref ad1)] [(.double woffset_ad0), (.ref ad0)]))
  refine own_step (fun _ k => XS.aloadN X1.here hx rfl (hb hby own_d12_5) rfl rfl k) ?_
  obtain ⟨cq2, kq2, q2a, q2b, q2c⟩ := isOf hZ e1 E_ad1
  obtain ⟨_, _, ⟨T2, L2, k2, n2⟩, -, X2, ⟨Lc2, hQ2, l2, y2, z2⟩, st2⟩ := X1.virtualBack hx (y := own_y1) (z := own_y1) hown (mvT hZ (own_w hw 95 rfl)) (mvT hZ (own_w hw 96 rfl)) (notFace_of_selects (args := #[]) (mvT hZ (own_w hw 98 rfl))) (mvT hZ (own_w hw 98 rfl)) (mvT hZ (own_w hw 97 rfl)) (by decide) (backOf (W := 3) (own_rm7 l Z a0 hw [] ad1 wlatency_ad1 h0 n0 Z0 F_latency_ad1) hZ (own_w hw 99 rfl) (own_w hw 16 rfl) (by decide) (by decide)) q2a q2c (g := (mkF m 6 #[.val (.ref ad0), .val (.ref ad1)] [(.ref ad1), (.double woffset_ad0), (.ref ad0)])) rfl (by rw [hml]; rfl) (Steps.refl _) (argsL := []) (rest := [(.double woffset_ad0), (.ref ad0)]) (lenOf own_pd1 rfl) rfl (by show 2 * 0 + _ ≤ _; exact Nat.le_of_eq rfl) (hb hby own_d12_6) (fun _ _ => ⟨rfl, e1, (by decide : 0 + 0 ≤ _), (by decide : 0 + 0 ≤ _)⟩)
  dsimp only [Pt.U, Pt.locs, Pt.cells, Pt.slots] at X2 l2 y2 z2 st2 hQ2
  subst l2 y2 z2
  obtain ⟨rfl, N2q, e2⟩ := hQ2
  have N2 := Fr.app N0 N2q
  refine own_step (fun _ k => st2.trans k) ?_
  show own_Fin p e below s _ _ _ (T2.setTop (mkF m 9 #[.val (.ref ad0), .val (.ref ad1)] [(.double wlatency_ad1), (.double woffset_ad0), (.ref ad0)]))
  refine own_step (fun _ k => XS.daddS X2.here hx rfl (hb hby own_d12_9) rfl (show Jvm.Free.Fl.NoNaN64 (FP.dadd woffset_ad0 wlatency_ad1) from (Jvm.Free.Fl.Mag64.fin (Jvm.Free.Fl.dadd_mag (K := 1100) (hm_woffset_ad0.mono (by decide)) (hm_wlatency_ad1.mono (by decide)) (by decide)) (by decide)).noNaN) rfl k) ?_
  obtain ⟨T3, h3, X3, e3, W3, st3⟩ := putF X2 hx hZ hown (host := "") (Or.inl (own_w hw 35 rfl)) Via.refl e2 F_offset_ad0 E_ad0 (Or.inl (own_w hw 36 rfl)) (own_w hw 1 rfl) (ty := .double) (by decide) rfl rfl (g := (mkF m 10 #[.val (.ref ad0), .val (.ref ad1)] [(.double (FP.dadd woffset_ad0 wlatency_ad1)), (.ref ad0)])) rfl rfl (hb hby own_d12_10)
  have N3 := Fr.snoc X3 N2 g_ad0
  have K3 : Keep h0 h3 [ad0, wjumps_ad0, wrates_ad0] := KR.wr W3 (Or.inl (List.mem_of_getElem? (i := 0) rfl))
  have Z3 : n0 ≤ h3.size := Nat.le_trans Z0 (Keep.of_wr W3).1
  have G4 := (E_ad0.wr W3)
  have G5 := (F_jumps_ad0.other W3 (Or.inr (slot_ne (Or.inr (own_w hw 11 rfl)) (Or.inl (own_w hw 36 rfl)) (by decide) (t := (.array .double)) (t' := .double) (by decide) (by decide))))
  have G6 := (F_rates_ad0.other W3 (Or.inr (slot_ne (Or.inr (own_w hw 13 rfl)) (Or.inl (own_w hw 36 rfl)) (by decide) (t := (.array .double)) (t' := .double) (by decide) (by decide))))
  have G7 := (F_pieces_ad0.other W3 (Or.inr (slot_ne (Or.inl (own_w hw 38 rfl)) (Or.inl (own_w hw 36 rfl)) (by decide) (t := .int) (t' := .double) (by decide) (by decide))))
  have G8 := (A_wjumps_ad0.other W3 ne_wjumps_ad0_ad0)
  have G9 := (A_wrates_ad0.other W3 ne_wrates_ad0_ad0)
  have G10 := (E_ad1.wr W3)
  have G11 := (F_latency_ad1.other W3 (Or.inl ne_ad1_ad0))
  have G12 := (F_rate_ad1.other W3 (Or.inl ne_ad1_ad0))
  have G13 := F_offset_ad0.same W3
  refine own_step st3 ?_
  show own_Fin p e below s _ _ _ (T3.setTop (mkF m 13 #[.val (.ref ad0), .val (.ref ad1)] []))
  refine own_step (fun _ k => XS.aloadN X3.here hx rfl (hb hby own_d12_13) rfl rfl k) ?_
  obtain ⟨T14, X14, e14, st14⟩ := getF X3 hx hZ hown (host := "") (Or.inl (own_w hw 10 rfl)) Via.refl e3 G5 (g := (mkF m 14 #[.val (.ref ad0), .val (.ref ad1)] [(.ref ad0)])) rfl rfl (hb hby own_d12_14)
  refine own_step st14 ?_
  show own_Fin p e below s _ _ _ (T14.setTop (mkF m 17 #[.val (.ref ad0), .val (.ref ad1)] [(.ref wjumps_ad0)]))
  refine own_step (fun _ k => XS.aloadN X14.here hx rfl (hb hby own_d12_17) rfl rfl k) ?_
  obtain ⟨T15, X15, e15, st15⟩ := getF X14 hx hZ hown (host := "") (Or.inl (own_w hw 37 rfl)) Via.refl e14 G7 (g := (mkF m 18 #[.val (.ref ad0), .val (.ref ad1)] [(.ref ad0), (.ref wjumps_ad0)])) rfl rfl (hb hby own_d12_18)
  refine own_step st15 ?_
  show own_Fin p e below s _ _ _ (T15.setTop (mkF m 21 #[.val (.ref ad0), .val (.ref ad1)] [(.int (0 : Int32)), (.ref wjumps_ad0)]))
  refine own_step (fun _ k => XS.dconst0 X15.here hx rfl (hb hby own_d12_21) rfl k) ?_
  obtain ⟨cl16, Ar16, q16, Sz16, Ng16, Hs16, Gf16⟩ := id G8
  have hin16 : ¬ ((0 : Int32) < 0 ∨ cl16.slots.size ≤ ((0 : Int32)).toNatClampNeg) := inb_of Sz16 ⟨by decide, by decide⟩
  obtain ⟨T16, h16, X16, e16, W16, st16⟩ := stD X15 hx hZ e15 Ar16 (j := (0 : Int32)) hin16 (g := (mkF m 22 #[.val (.ref ad0), .val (.ref ad1)] [(.double FP.dconst0), (.int (0 : Int32)), (.ref wjumps_ad0)])) rfl rfl (hb hby own_d12_22)
  have N16 := Fr.snoc X16 N3 g_wjumps_ad0
  have K16 : Keep h0 h16 [ad0, wjumps_ad0, wrates_ad0] := K3.wr W16 (Or.inl (List.mem_of_getElem? (i := 1) rfl))
  have Z16 : n0 ≤ h16.size := Nat.le_trans Z3 (Keep.of_wr W16).1
  have G17 := (G4.wr W16)
  have G18 := (G5.other W16 (Or.inl ne_ad0_wjumps_ad0))
  have G19 := (G6.other W16 (Or.inl ne_ad0_wjumps_ad0))
  have G20 := (G7.other W16 (Or.inl ne_ad0_wjumps_ad0))
  have G21 := (G9.other W16 ne_wrates_ad0_wjumps_ad0)
  have G22 := (G10.wr W16)
  have G23 := (G11.other W16 (Or.inl ne_ad1_wjumps_ad0))
  have G24 := (G12.other W16 (Or.inl ne_ad1_wjumps_ad0))
  have G25 := (G13.other W16 (Or.inl ne_ad0_wjumps_ad0))
  have G26 : Arv Z h16 wjumps_ad0 k_wjumps_ad0 .double (4 : Int32) [(.double FP.dconst0), (.double wjumps_ad0_1)] (.double (0 : UInt64)) := Arv.set Ar16 q16 Sz16 Ng16 Hs16 Gf16 rfl W16 0 rfl (Nat.le_of_ble_eq_true rfl)
  refine own_step st16 ?_
  show own_Fin p e below s _ _ _ (T16.setTop (mkF m 23 #[.val (.ref ad0), .val (.ref ad1)] []))
  refine own_step (fun _ k => XS.aloadN X16.here hx rfl (hb hby own_d12_23) rfl rfl k) ?_
  obtain ⟨T27, X27, e27, st27⟩ := getF X16 hx hZ hown (host := "") (Or.inl (own_w hw 12 rfl)) Via.refl e16 G19 (g := (mkF m 24 #[.val (.ref ad0), .val (.ref ad1)] [(.ref ad0)])) rfl rfl (hb hby own_d12_24)
  refine own_step st27 ?_
  show own_Fin p e below s _ _ _ (T27.setTop (mkF m 27 #[.val (.ref ad0), .val (.ref ad1)] [(.ref wrates_ad0)]))
  refine own_step (fun _ k => XS.aloadN X27.here hx rfl (hb hby own_d12_27) rfl rfl k) ?_
  obtain ⟨T28, X28, e28, st28⟩ := getF X27 hx hZ hown (host := "") (Or.inl (own_w hw 37 rfl)) Via.refl e27 G20 (g := (mkF m 28 #[.val (.ref ad0), .val (.ref ad1)] [(.ref ad0), (.ref wrates_ad0)])) rfl rfl (hb hby own_d12_28)
  refine own_step st28 ?_
  show own_Fin p e below s _ _ _ (T28.setTop (mkF m 31 #[.val (.ref ad0), .val (.ref ad1)] [(.int (0 : Int32)), (.ref wrates_ad0)]))
  refine own_step (fun _ k => XS.aloadN X28.here hx rfl (hb hby own_d12_31) rfl rfl k) ?_
  obtain ⟨cq29, kq29, q29a, q29b, q29c⟩ := isOf hZ e28 G22
  obtain ⟨_, _, ⟨T29, L29, k29, n29⟩, -, X29, ⟨Lc29, hQ29, l29, y29, z29⟩, st29⟩ := X28.virtualBack hx (y := own_y2) (z := own_y2) hown (mvT hZ (own_w hw 100 rfl)) (mvT hZ (own_w hw 101 rfl)) (notFace_of_selects (args := #[]) (mvT hZ (own_w hw 103 rfl))) (mvT hZ (own_w hw 103 rfl)) (mvT hZ (own_w hw 102 rfl)) (by decide) (backOf (W := 2) (own_rm8 l Z a0 hw [] ad1 wrate_ad1 h16 n0 Z16 G24) hZ (own_w hw 104 rfl) (own_w hw 16 rfl) (by decide) (by decide)) q29a q29c (g := (mkF m 32 #[.val (.ref ad0), .val (.ref ad1)] [(.ref ad1), (.int (0 : Int32)), (.ref wrates_ad0)])) rfl (by rw [hml]; rfl) (Steps.refl _) (argsL := []) (rest := [(.int (0 : Int32)), (.ref wrates_ad0)]) (lenOf own_pd1 rfl) rfl (by show 2 * 0 + _ ≤ _; exact Nat.le_of_eq rfl) (hb hby own_d12_32) (fun _ _ => ⟨rfl, e28, (by decide : 0 + 0 ≤ _), (by decide : 0 + 0 ≤ _)⟩)
  dsimp only [Pt.U, Pt.locs, Pt.cells, Pt.slots] at X29 l29 y29 z29 st29 hQ29
  subst l29 y29 z29
  obtain ⟨rfl, N29q, e29⟩ := hQ29
  have N29 := Fr.app N16 N29q
  refine own_step (fun _ k => st29.trans k) ?_
  show own_Fin p e below s _ _ _ (T29.setTop (mkF m 35 #[.val (.ref ad0), .val (.ref ad1)] [(.double wrate_ad1), (.int (0 : Int32)), (.ref wrates_ad0)]))
  obtain ⟨cl30, Ar30, q30, Sz30, Ng30, Hs30, Gf30⟩ := id G21
  have hin30 : ¬ ((0 : Int32) < 0 ∨ cl30.slots.size ≤ ((0 : Int32)).toNatClampNeg) := inb_of Sz30 ⟨by decide, by decide⟩
  obtain ⟨T30, h30, X30, e30, W30, st30⟩ := stD X29 hx hZ e29 Ar30 (j := (0 : Int32)) hin30 (g := (mkF m 35 #[.val (.ref ad0), .val (.ref ad1)] [(.double wrate_ad1), (.int (0 : Int32)), (.ref wrates_ad0)])) rfl rfl (hb hby own_d12_35)
  have N30 := Fr.snoc X30 N29 g_wrates_ad0
  have K30 : Keep h0 h30 [ad0, wjumps_ad0, wrates_ad0] := K16.wr W30 (Or.inl (List.mem_of_getElem? (i := 2) rfl))
  have Z30 : n0 ≤ h30.size := Nat.le_trans Z16 (Keep.of_wr W30).1
  have G31 := (G17.wr W30)
  have G32 := (G18.other W30 (Or.inl ne_ad0_wrates_ad0))
  have G33 := (G19.other W30 (Or.inl ne_ad0_wrates_ad0))
  have G34 := (G20.other W30 (Or.inl ne_ad0_wrates_ad0))
  have G35 := (G22.wr W30)
  have G36 := (G23.other W30 (Or.inl ne_ad1_wrates_ad0))
  have G37 := (G24.other W30 (Or.inl ne_ad1_wrates_ad0))
  have G38 := (G25.other W30 (Or.inl ne_ad0_wrates_ad0))
  have G39 := (G26.other W30 ne_wjumps_ad0_wrates_ad0)
  have G40 : Arv Z h30 wrates_ad0 k_wrates_ad0 .double (4 : Int32) [(.double wrate_ad1), (.double wrates_ad0_1)] (.double (0 : UInt64)) := Arv.set Ar30 q30 Sz30 Ng30 Hs30 Gf30 rfl W30 0 rfl (Nat.le_of_ble_eq_true rfl)
  refine own_step st30 ?_
  show own_Fin p e below s _ _ _ (T30.setTop (mkF m 36 #[.val (.ref ad0), .val (.ref ad1)] []))
  refine own_step (fun _ k => XS.aloadN X30.here hx rfl (hb hby own_d12_36) rfl rfl k) ?_
  refine own_step (fun _ k => XS.dup X30.here hx rfl (hb hby own_d12_37) rfl rfl k) ?_
  obtain ⟨T41, X41, e41, st41⟩ := getF X30 hx hZ hown (host := "") (Or.inl (own_w hw 37 rfl)) Via.refl e30 G34 (g := (mkF m 38 #[.val (.ref ad0), .val (.ref ad1)] [(.ref ad0), (.ref ad0)])) rfl rfl (hb hby own_d12_38)
  refine own_step st41 ?_
  show own_Fin p e below s _ _ _ (T41.setTop (mkF m 41 #[.val (.ref ad0), .val (.ref ad1)] [(.int (0 : Int32)), (.ref ad0)]))
  refine own_step (fun _ k => XS.iconst X41.here hx rfl (hb hby own_d12_41) k) ?_
  refine own_step (fun _ k => XS.iadd X41.here hx rfl (hb hby own_d12_42) rfl k) ?_
  show own_Fin p e below s _ _ _ (T41.setTop (mkF m 43 #[.val (.ref ad0), .val (.ref ad1)] [(.int ((0 : Int32) + (1 : Int32))), (.ref ad0)]))
  rw [show ((0 : Int32) + (1 : Int32)) = (1 : Int32) from by decide]
  show own_Fin p e below s _ _ _ (T41.setTop (mkF m 43 #[.val (.ref ad0), .val (.ref ad1)] [(.int (1 : Int32)), (.ref ad0)]))
  obtain ⟨T42, h42, X42, e42, W42, st42⟩ := putF X41 hx hZ hown (host := "") (Or.inl (own_w hw 37 rfl)) Via.refl e41 G34 G31 (Or.inl (own_w hw 38 rfl)) (own_w hw 1 rfl) (ty := .int) (by decide) rfl rfl (g := (mkF m 43 #[.val (.ref ad0), .val (.ref ad1)] [(.int (1 : Int32)), (.ref ad0)])) rfl rfl (hb hby own_d12_43)
  have N42 := Fr.snoc X42 N30 g_ad0
  have K42 : Keep h0 h42 [ad0, wjumps_ad0, wrates_ad0] := K30.wr W42 (Or.inl (List.mem_of_getElem? (i := 0) rfl))
  have Z42 : n0 ≤ h42.size := Nat.le_trans Z30 (Keep.of_wr W42).1
  have G43 := (G31.wr W42)
  have G44 := (G32.other W42 (Or.inr (slot_ne (Or.inr (own_w hw 11 rfl)) (Or.inl (own_w hw 38 rfl)) (by decide) (t := (.array .double)) (t' := .int) (by decide) (by decide))))
  have G45 := (G33.other W42 (Or.inr (slot_ne (Or.inr (own_w hw 13 rfl)) (Or.inl (own_w hw 38 rfl)) (by decide) (t := (.array .double)) (t' := .int) (by decide) (by decide))))
  have G46 := (G35.wr W42)
  have G47 := (G36.other W42 (Or.inl ne_ad1_ad0))
  have G48 := (G37.other W42 (Or.inl ne_ad1_ad0))
  have G49 := (G38.other W42 (Or.inr (slot_ne (Or.inl (own_w hw 36 rfl)) (Or.inl (own_w hw 38 rfl)) (by decide) (t := .double) (t' := .int) (by decide) (by decide))))
  have G50 := (G39.other W42 ne_wjumps_ad0_ad0)
  have G51 := (G40.other W42 ne_wrates_ad0_ad0)
  have G52 := G34.same W42
  refine own_step st42 ?_
  show own_Fin p e below s _ _ _ (T42.setTop (mkF m 46 #[.val (.ref ad0), .val (.ref ad1)] []))
  refine own_step (fun _ k => XS.aloadN X42.here hx rfl (hb hby own_d12_46) rfl rfl k) ?_
  exact own_ret X42 hlk (v := some (.ref ad0)) (fun h => by rw [Bd.returns] at h; cases h) (by decide) (by decide) (by show own_Q12 Z ad0 ad1 wjumps_ad0 wrates_ad0 woffset_ad0 k_wjumps_ad0 wjumps_ad0_0 wjumps_ad0_1 k_wrates_ad0 wrates_ad0_0 wrates_ad0_1 wlatency_ad1 wrate_ad1 h0 n0 _ T42.heap _; rw [e42]; exact ⟨N42, K42, rfl, G43, G44, G45, G49, G52, G50, G51⟩) (fun fs hr => retOut X42 hx Bd.returns rfl (Or.inr (Or.inr (Or.inr (Or.inr ⟨rfl, rfl, rfl⟩)))) (hb hby own_d12_47) hr)

theorem own_d13_0 : decode prog_42_method_3_code 0 = .ok (.aload_n 0, 1) := by decide +kernel
theorem own_d13_1 : decode prog_42_method_3_code 1 = .ok (.dup, 1) := by decide +kernel
theorem own_d13_2 : decode prog_42_method_3_code 2 = .ok (.getfield 16, 3) := by decide +kernel
theorem own_d13_5 : decode prog_42_method_3_code 5 = .ok (.aload_n 1, 1) := by decide +kernel
theorem own_d13_6 : decode prog_42_method_3_code 6 = .ok (.invokevirtual 24, 3) := by decide +kernel
theorem own_d13_9 : decode prog_42_method_3_code 9 = .ok (.dadd, 1) := by decide +kernel
theorem own_d13_10 : decode prog_42_method_3_code 10 = .ok (.putfield 16, 3) := by decide +kernel
theorem own_d13_13 : decode prog_42_method_3_code 13 = .ok (.aload_n 0, 1) := by decide +kernel
theorem own_d13_14 : decode prog_42_method_3_code 14 = .ok (.getfield 7, 3) := by decide +kernel
theorem own_d13_17 : decode prog_42_method_3_code 17 = .ok (.aload_n 0, 1) := by decide +kernel
theorem own_d13_18 : decode prog_42_method_3_code 18 = .ok (.getfield 20, 3) := by decide +kernel
theorem own_d13_21 : decode prog_42_method_3_code 21 = .ok (.dconst 0, 1) := by decide +kernel
theorem own_d13_22 : decode prog_42_method_3_code 22 = .ok (.dastore, 1) := by decide +kernel
theorem own_d13_23 : decode prog_42_method_3_code 23 = .ok (.aload_n 0, 1) := by decide +kernel
theorem own_d13_24 : decode prog_42_method_3_code 24 = .ok (.getfield 13, 3) := by decide +kernel
theorem own_d13_27 : decode prog_42_method_3_code 27 = .ok (.aload_n 0, 1) := by decide +kernel
theorem own_d13_28 : decode prog_42_method_3_code 28 = .ok (.getfield 20, 3) := by decide +kernel
theorem own_d13_31 : decode prog_42_method_3_code 31 = .ok (.aload_n 1, 1) := by decide +kernel
theorem own_d13_32 : decode prog_42_method_3_code 32 = .ok (.invokevirtual 30, 3) := by decide +kernel
theorem own_d13_35 : decode prog_42_method_3_code 35 = .ok (.dastore, 1) := by decide +kernel
theorem own_d13_36 : decode prog_42_method_3_code 36 = .ok (.aload_n 0, 1) := by decide +kernel
theorem own_d13_37 : decode prog_42_method_3_code 37 = .ok (.dup, 1) := by decide +kernel
theorem own_d13_38 : decode prog_42_method_3_code 38 = .ok (.getfield 20, 3) := by decide +kernel
theorem own_d13_41 : decode prog_42_method_3_code 41 = .ok (.iconst 1, 1) := by decide +kernel
theorem own_d13_42 : decode prog_42_method_3_code 42 = .ok (.iadd, 1) := by decide +kernel
theorem own_d13_43 : decode prog_42_method_3_code 43 = .ok (.putfield 20, 3) := by decide +kernel
theorem own_d13_46 : decode prog_42_method_3_code 46 = .ok (.aload_n 0, 1) := by decide +kernel
theorem own_d13_47 : decode prog_42_method_3_code 47 = .ok (.areturn, 1) := by decide +kernel
theorem own_ef13 (m : MethodId) (ad0 : Addr) (ad1 : Addr) : entryFrame m #[(.ref ad0), (.ref ad1)] 2 = mkF m 0 #[.val (.ref ad0), .val (.ref ad1)] [] := by first | (simp [entryFrame, mkF, argsToLocals, Value.category]; done) | rfl
def own_Q13 (Z : State) (ad0 : Addr) (ad1 : Addr) (wjumps_ad0 : Addr) (wrates_ad0 : Addr) (woffset_ad0 : UInt64) (k_wjumps_ad0 : ClassId) (wjumps_ad0_0 : UInt64) (wjumps_ad0_1 : UInt64) (k_wrates_ad0 : ClassId) (wrates_ad0_0 : UInt64) (wrates_ad0_1 : UInt64) (wlatency_ad1 : UInt64) (wrate_ad1 : UInt64) (h0 : Heap) (n0 : Nat) (v : Option Value) (h : Heap) (L : List Loc) : Prop := Fr n0 L ∧ Keep h0 h [ad0, wjumps_ad0, wrates_ad0] ∧ v = some (.ref ad0) ∧ Exa Z h ad0 "com/example/tandem/tandem/analysis/PseudoAffine" ∧ Fld Z h ad0 "com/example/tandem/tandem/analysis/PseudoAffine" "jumps" "[D" (.ref wjumps_ad0) ∧ Fld Z h ad0 "com/example/tandem/tandem/analysis/PseudoAffine" "rates" "[D" (.ref wrates_ad0) ∧ Fld Z h ad0 "com/example/tandem/tandem/analysis/PseudoAffine" "offset" "D" (.double (FP.dadd woffset_ad0 wlatency_ad1)) ∧ Fld Z h ad0 "com/example/tandem/tandem/analysis/PseudoAffine" "pieces" "I" (.int (2 : Int32)) ∧ Arv Z h wjumps_ad0 k_wjumps_ad0 .double (4 : Int32) [(.double wjumps_ad0_0), (.double FP.dconst0)] (.double (0 : UInt64)) ∧ Arv Z h wrates_ad0 k_wrates_ad0 .double (4 : Int32) [(.double wrates_ad0_0), (.double wrate_ad1)] (.double (0 : UInt64))
set_option maxRecDepth 65536 in
set_option maxHeartbeats 40000000 in
theorem own_rm13 (l : Launch) (Z : State) (a0 : Array Value) (hw : ∀ d ∈ tables_1, d.before a0 Z = true) (ws : List Jvm.Cond) (ad0 : Addr) (ad1 : Addr) (wjumps_ad0 : Addr) (wrates_ad0 : Addr) (woffset_ad0 : UInt64) (k_wjumps_ad0 : ClassId) (wjumps_ad0_0 : UInt64) (wjumps_ad0_1 : UInt64) (k_wrates_ad0 : ClassId) (wrates_ad0_0 : UInt64) (wrates_ad0_1 : UInt64) (wlatency_ad1 : UInt64) (wrate_ad1 : UInt64) (h0 : Heap) (n0 : Nat) (Z0 : n0 ≤ h0.size) (E_ad0 : Exa Z h0 ad0 "com/example/tandem/tandem/analysis/PseudoAffine") (F_jumps_ad0 : Fld Z h0 ad0 "com/example/tandem/tandem/analysis/PseudoAffine" "jumps" "[D" (.ref wjumps_ad0)) (F_rates_ad0 : Fld Z h0 ad0 "com/example/tandem/tandem/analysis/PseudoAffine" "rates" "[D" (.ref wrates_ad0)) (hm_woffset_ad0 : Jvm.Free.Fl.Mag64 1100 woffset_ad0) (F_offset_ad0 : Fld Z h0 ad0 "com/example/tandem/tandem/analysis/PseudoAffine" "offset" "D" (.double woffset_ad0)) (F_pieces_ad0 : Fld Z h0 ad0 "com/example/tandem/tandem/analysis/PseudoAffine" "pieces" "I" (.int (1 : Int32))) (A_wjumps_ad0 : Arv Z h0 wjumps_ad0 k_wjumps_ad0 .double (4 : Int32) [(.double wjumps_ad0_0), (.double wjumps_ad0_1)] (.double (0 : UInt64))) (A_wrates_ad0 : Arv Z h0 wrates_ad0 k_wrates_ad0 .double (4 : Int32) [(.double wrates_ad0_0), (.double wrates_ad0_1)] (.double (0 : UInt64))) (E_ad1 : Exa Z h0 ad1 "com/example/tandem/tandem/model/RateLatency") (hm_wlatency_ad1 : Jvm.Free.Fl.Mag64 1056 wlatency_ad1) (F_latency_ad1 : Fld Z h0 ad1 "com/example/tandem/tandem/model/RateLatency" "latency" "D" (.double wlatency_ad1)) (F_rate_ad1 : Fld Z h0 ad1 "com/example/tandem/tandem/model/RateLatency" "rate" "D" (.double wrate_ad1)) (g_ad0 : n0 ≤ ad0) (ne_wjumps_ad0_ad0 : wjumps_ad0 ≠ ad0) (ne_wrates_ad0_ad0 : wrates_ad0 ≠ ad0) (ne_ad1_ad0 : ad1 ≠ ad0) (g_wjumps_ad0 : n0 ≤ wjumps_ad0) (ne_ad0_wjumps_ad0 : ad0 ≠ wjumps_ad0) (ne_wrates_ad0_wjumps_ad0 : wrates_ad0 ≠ wjumps_ad0) (ne_ad1_wjumps_ad0 : ad1 ≠ wjumps_ad0) (g_wrates_ad0 : n0 ≤ wrates_ad0) (ne_ad0_wrates_ad0 : ad0 ≠ wrates_ad0) (ne_ad1_wrates_ad0 : ad1 ≠ wrates_ad0) (ne_wjumps_ad0_wrates_ad0 : wjumps_ad0 ≠ wrates_ad0) :
    MetFree l (⟨"com/example/tandem/tandem/analysis/PseudoAffine", "concatenate", "(Lcom/example/tandem/tandem/model/RateLatency;)Lcom/example/tandem/tandem/analysis/PseudoAffine;"⟩ : MethodName) (head1 (Jvm.Cond.code (⟨"com/example/tandem/tandem/analysis/PseudoAffine", "concatenate", "(Lcom/example/tandem/tandem/model/RateLatency;)Lcom/example/tandem/tandem/analysis/PseudoAffine;"⟩ : MethodName) prog_42_method_3_code 2 (some (.object "com/example/tandem/tandem/analysis/PseudoAffine")) :: ws) ({ frames := 1, cells := 0, slots := 0, locals := 15 } : Room)) (fun a U => a = #[(.ref ad0), (.ref ad1)] ∧ Z.Warmed39 U.vm ∧ U.heap = h0) (fun _ _ _ _ _ => True) (fun _ U o U' => ∃ v L, o = .returned v ∧ own_Q13 Z ad0 ad1 wjumps_ad0 wrates_ad0 woffset_ad0 k_wjumps_ad0 wjumps_ad0_0 wjumps_ad0_1 k_wrates_ad0 wrates_ad0_0 wrates_ad0_1 wlatency_ad1 wrate_ad1 h0 n0 v U'.heap L ∧ FrameEnd U o U' L ({ frames := 1, cells := 0, slots := 0, locals := 15 } : Room).cells ({ frames := 1, cells := 0, slots := 0, locals := 15 } : Room).slots) := by
  refine MetFree.of_bodySF (plainFor_of_name own_pn0) hisR ?_
  intro p e s m args below meth c s₁ Bd hml0 hP hK
  obtain ⟨rfl, hZ, hh⟩ := hP
  have hx := Bd.exec
  have hby := Bd.bytes
  have hlk := Bd.notSynchronized
  have hml : c.maxLocals = 2 := hml0
  have hown : s.vm.findClass "com/example/tandem/tandem/analysis/PseudoAffine" = some m.cls := findClass_of_methodNamed Bd.named
  have hnm := (name_of_methodNamed Bd.named Bd.method).1
  have X0 : Stand p l e ({ frames := 1, cells := 0, slots := 0, locals := 15 } : Room) s m #[(.ref ad0), (.ref ad1)] below meth c s₁ [] 0 0 := Stand.of_body Bd
  have e0 : s₁.heap = h0 := by rw [← hh, Bd.state]; rfl
  have N0 := Fr.nil n0
  have KR : Keep h0 h0 [ad0, wjumps_ad0, wrates_ad0] := Keep.refl _ _
  show own_Fin p e below s ({ frames := 1, cells := 0, slots := 0, locals := 15 } : Room).cells ({ frames := 1, cells := 0, slots := 0, locals := 15 } : Room).slots (own_Q13 Z ad0 ad1 wjumps_ad0 wrates_ad0 woffset_ad0 k_wjumps_ad0 wjumps_ad0_0 wjumps_ad0_1 k_wrates_ad0 wrates_ad0_0 wrates_ad0_1 wlatency_ad1 wrate_ad1 h0 n0) (s₁.setTop (entryFrame m #[(.ref ad0), (.ref ad1)] 2))
  refine own_cast (own_ef13 m ad0 ad1) ?_
  refine own_step (fun _ k => XS.aloadN X0.here hx rfl (hb hby own_d13_0) rfl rfl k) ?_
  refine own_step (fun _ k => XS.dup X0.here hx rfl (hb hby own_d13_1) rfl rfl k) ?_
  obtain ⟨T1, X1, e1, st1⟩ := getF X0 hx hZ hown (host := "") (Or.inl (own_w hw 35 rfl)) Via.refl e0 F_offset_ad0 (g := (mkF m 2 #[.val (.ref ad0), .val (.ref ad1)] [(.ref ad0), (.ref ad0)])) rfl rfl (hb hby own_d13_2)
  refine own_step st1 ?_
  show own_Fin p e below s _ _ _ (T1.setTop (mkF m 5 #[.val (.ref ad0), .val (.ref ad1)] [(.double woffset_ad0), (.ref ad0)]))
  refine own_step (fun _ k => XS.aloadN X1.here hx rfl (hb hby own_d13_5) rfl rfl k) ?_
  obtain ⟨cq2, kq2, q2a, q2b, q2c⟩ := isOf hZ e1 E_ad1
  obtain ⟨_, _, ⟨T2, L2, k2, n2⟩, -, X2, ⟨Lc2, hQ2, l2, y2, z2⟩, st2⟩ := X1.virtualBack hx (y := own_y1) (z := own_y1) hown (mvT hZ (own_w hw 95 rfl)) (mvT hZ (own_w hw 96 rfl)) (notFace_of_selects (args := #[]) (mvT hZ (own_w hw 98 rfl))) (mvT hZ (own_w hw 98 rfl)) (mvT hZ (own_w hw 97 rfl)) (by decide) (backOf (W := 3) (own_rm7 l Z a0 hw [] ad1 wlatency_ad1 h0 n0 Z0 F_latency_ad1) hZ (own_w hw 99 rfl) (own_w hw 16 rfl) (by decide) (by decide)) q2a q2c (g := (mkF m 6 #[.val (.ref ad0), .val (.ref ad1)] [(.ref ad1), (.double woffset_ad0), (.ref ad0)])) rfl (by rw [hml]; rfl) (Steps.refl _) (argsL := []) (rest := [(.double woffset_ad0), (.ref ad0)]) (lenOf own_pd1 rfl) rfl (by show 2 * 0 + _ ≤ _; exact Nat.le_of_eq rfl) (hb hby own_d13_6) (fun _ _ => ⟨rfl, e1, (by decide : 0 + 0 ≤ _), (by decide : 0 + 0 ≤ _)⟩)
  dsimp only [Pt.U, Pt.locs, Pt.cells, Pt.slots] at X2 l2 y2 z2 st2 hQ2
  subst l2 y2 z2
  obtain ⟨rfl, N2q, e2⟩ := hQ2
  have N2 := Fr.app N0 N2q
  refine own_step (fun _ k => st2.trans k) ?_
  show own_Fin p e below s _ _ _ (T2.setTop (mkF m 9 #[.val (.ref ad0), .val (.ref ad1)] [(.double wlatency_ad1), (.double woffset_ad0), (.ref ad0)]))
  refine own_step (fun _ k => XS.daddS X2.here hx rfl (hb hby own_d13_9) rfl (show Jvm.Free.Fl.NoNaN64 (FP.dadd woffset_ad0 wlatency_ad1) from (Jvm.Free.Fl.Mag64.fin (Jvm.Free.Fl.dadd_mag (K := 1100) (hm_woffset_ad0.mono (by decide)) (hm_wlatency_ad1.mono (by decide)) (by decide)) (by decide)).noNaN) rfl k) ?_
  obtain ⟨T3, h3, X3, e3, W3, st3⟩ := putF X2 hx hZ hown (host := "") (Or.inl (own_w hw 35 rfl)) Via.refl e2 F_offset_ad0 E_ad0 (Or.inl (own_w hw 36 rfl)) (own_w hw 1 rfl) (ty := .double) (by decide) rfl rfl (g := (mkF m 10 #[.val (.ref ad0), .val (.ref ad1)] [(.double (FP.dadd woffset_ad0 wlatency_ad1)), (.ref ad0)])) rfl rfl (hb hby own_d13_10)
  have N3 := Fr.snoc X3 N2 g_ad0
  have K3 : Keep h0 h3 [ad0, wjumps_ad0, wrates_ad0] := KR.wr W3 (Or.inl (List.mem_of_getElem? (i := 0) rfl))
  have Z3 : n0 ≤ h3.size := Nat.le_trans Z0 (Keep.of_wr W3).1
  have G4 := (E_ad0.wr W3)
  have G5 := (F_jumps_ad0.other W3 (Or.inr (slot_ne (Or.inr (own_w hw 11 rfl)) (Or.inl (own_w hw 36 rfl)) (by decide) (t := (.array .double)) (t' := .double) (by decide) (by decide))))
  have G6 := (F_rates_ad0.other W3 (Or.inr (slot_ne (Or.inr (own_w hw 13 rfl)) (Or.inl (own_w hw 36 rfl)) (by decide) (t := (.array .double)) (t' := .double) (by decide) (by decide))))
  have G7 := (F_pieces_ad0.other W3 (Or.inr (slot_ne (Or.inl (own_w hw 38 rfl)) (Or.inl (own_w hw 36 rfl)) (by decide) (t := .int) (t' := .double) (by decide) (by decide))))
  have G8 := (A_wjumps_ad0.other W3 ne_wjumps_ad0_ad0)
  have G9 := (A_wrates_ad0.other W3 ne_wrates_ad0_ad0)
  have G10 := (E_ad1.wr W3)
  have G11 := (F_latency_ad1.other W3 (Or.inl ne_ad1_ad0))
  have G12 := (F_rate_ad1.other W3 (Or.inl ne_ad1_ad0))
  have G13 := F_offset_ad0.same W3
  refine own_step st3 ?_
  show own_Fin p e below s _ _ _ (T3.setTop (mkF m 13 #[.val (.ref ad0), .val (.ref ad1)] []))
  refine own_step (fun _ k => XS.aloadN X3.here hx rfl (hb hby own_d13_13) rfl rfl k) ?_
  obtain ⟨T14, X14, e14, st14⟩ := getF X3 hx hZ hown (host := "") (Or.inl (own_w hw 10 rfl)) Via.refl e3 G5 (g := (mkF m 14 #[.val (.ref ad0), .val (.ref ad1)] [(.ref ad0)])) rfl rfl (hb hby own_d13_14)
  refine own_step st14 ?_
  show own_Fin p e below s _ _ _ (T14.setTop (mkF m 17 #[.val (.ref ad0), .val (.ref ad1)] [(.ref wjumps_ad0)]))
  refine own_step (fun _ k => XS.aloadN X14.here hx rfl (hb hby own_d13_17) rfl rfl k) ?_
  obtain ⟨T15, X15, e15, st15⟩ := getF X14 hx hZ hown (host := "") (Or.inl (own_w hw 37 rfl)) Via.refl e14 G7 (g := (mkF m 18 #[.val (.ref ad0), .val (.ref ad1)] [(.ref ad0), (.ref wjumps_ad0)])) rfl rfl (hb hby own_d13_18)
  refine own_step st15 ?_
  show own_Fin p e below s _ _ _ (T15.setTop (mkF m 21 #[.val (.ref ad0), .val (.ref ad1)] [(.int (1 : Int32)), (.ref wjumps_ad0)]))
  refine own_step (fun _ k => XS.dconst0 X15.here hx rfl (hb hby own_d13_21) rfl k) ?_
  obtain ⟨cl16, Ar16, q16, Sz16, Ng16, Hs16, Gf16⟩ := id G8
  have hin16 : ¬ ((1 : Int32) < 0 ∨ cl16.slots.size ≤ ((1 : Int32)).toNatClampNeg) := inb_of Sz16 ⟨by decide, by decide⟩
  obtain ⟨T16, h16, X16, e16, W16, st16⟩ := stD X15 hx hZ e15 Ar16 (j := (1 : Int32)) hin16 (g := (mkF m 22 #[.val (.ref ad0), .val (.ref ad1)] [(.double FP.dconst0), (.int (1 : Int32)), (.ref wjumps_ad0)])) rfl rfl (hb hby own_d13_22)
  have N16 := Fr.snoc X16 N3 g_wjumps_ad0
  have K16 : Keep h0 h16 [ad0, wjumps_ad0, wrates_ad0] := K3.wr W16 (Or.inl (List.mem_of_getElem? (i := 1) rfl))
  have Z16 : n0 ≤ h16.size := Nat.le_trans Z3 (Keep.of_wr W16).1
  have G17 := (G4.wr W16)
  have G18 := (G5.other W16 (Or.inl ne_ad0_wjumps_ad0))
  have G19 := (G6.other W16 (Or.inl ne_ad0_wjumps_ad0))
  have G20 := (G7.other W16 (Or.inl ne_ad0_wjumps_ad0))
  have G21 := (G9.other W16 ne_wrates_ad0_wjumps_ad0)
  have G22 := (G10.wr W16)
  have G23 := (G11.other W16 (Or.inl ne_ad1_wjumps_ad0))
  have G24 := (G12.other W16 (Or.inl ne_ad1_wjumps_ad0))
  have G25 := (G13.other W16 (Or.inl ne_ad0_wjumps_ad0))
  have G26 : Arv Z h16 wjumps_ad0 k_wjumps_ad0 .double (4 : Int32) [(.double wjumps_ad0_0), (.double FP.dconst0)] (.double (0 : UInt64)) := Arv.set Ar16 q16 Sz16 Ng16 Hs16 Gf16 rfl W16 1 rfl (Nat.le_of_ble_eq_true rfl)
  refine own_step st16 ?_
  show own_Fin p e below s _ _ _ (T16.setTop (mkF m 23 #[.val (.ref ad0), .val (.ref ad1)] []))
  refine own_step (fun _ k => XS.aloadN X16.here hx rfl (hb hby own_d13_23) rfl rfl k) ?_
  obtain ⟨T27, X27, e27, st27⟩ := getF X16 hx hZ hown (host := "") (Or.inl (own_w hw 12 rfl)) Via.refl e16 G19 (g := (mkF m 24 #[.val (.ref ad0), .val (.ref ad1)] [(.ref ad0)])) rfl rfl (hb hby own_d13_24)
  refine own_step st27 ?_
  show own_Fin p e below s _ _ _ (T27.setTop (mkF m 27 #[.val (.ref ad0), .val (.ref ad1)] [(.ref wrates_ad0)]))
  refine own_step (fun _ k => XS.aloadN X27.here hx rfl (hb hby own_d13_27) rfl rfl k) ?_
  obtain ⟨T28, X28, e28, st28⟩ := getF X27 hx hZ hown (host := "") (Or.inl (own_w hw 37 rfl)) Via.refl e27 G20 (g := (mkF m 28 #[.val (.ref ad0), .val (.ref ad1)] [(.ref ad0), (.ref wrates_ad0)])) rfl rfl (hb hby own_d13_28)
  refine own_step st28 ?_
  show own_Fin p e below s _ _ _ (T28.setTop (mkF m 31 #[.val (.ref ad0), .val (.ref ad1)] [(.int (1 : Int32)), (.ref wrates_ad0)]))
  refine own_step (fun _ k => XS.aloadN X28.here hx rfl (hb hby own_d13_31) rfl rfl k) ?_
  obtain ⟨cq29, kq29, q29a, q29b, q29c⟩ := isOf hZ e28 G22
  obtain ⟨_, _, ⟨T29, L29, k29, n29⟩, -, X29, ⟨Lc29, hQ29, l29, y29, z29⟩, st29⟩ := X28.virtualBack hx (y := own_y2) (z := own_y2) hown (mvT hZ (own_w hw 100 rfl)) (mvT hZ (own_w hw 101 rfl)) (notFace_of_selects (args := #[]) (mvT hZ (own_w hw 103 rfl))) (mvT hZ (own_w hw 103 rfl)) (mvT hZ (own_w hw 102 rfl)) (by decide) (backOf (W := 2) (own_rm8 l Z a0 hw [] ad1 wrate_ad1 h16 n0 Z16 G24) hZ (own_w hw 104 rfl) (own_w hw 16 rfl) (by decide) (by decide)) q29a q29c (g := (mkF m 32 #[.val (.ref ad0), .val (.ref ad1)] [(.ref ad1), (.int (1 : Int32)), (.ref wrates_ad0)])) rfl (by rw [hml]; rfl) (Steps.refl _) (argsL := []) (rest := [(.int (1 : Int32)), (.ref wrates_ad0)]) (lenOf own_pd1 rfl) rfl (by show 2 * 0 + _ ≤ _; exact Nat.le_of_eq rfl) (hb hby own_d13_32) (fun _ _ => ⟨rfl, e28, (by decide : 0 + 0 ≤ _), (by decide : 0 + 0 ≤ _)⟩)
  dsimp only [Pt.U, Pt.locs, Pt.cells, Pt.slots] at X29 l29 y29 z29 st29 hQ29
  subst l29 y29 z29
  obtain ⟨rfl, N29q, e29⟩ := hQ29
  have N29 := Fr.app N16 N29q
  refine own_step (fun _ k => st29.trans k) ?_
  show own_Fin p e below s _ _ _ (T29.setTop (mkF m 35 #[.val (.ref ad0), .val (.ref ad1)] [(.double wrate_ad1), (.int (1 : Int32)), (.ref wrates_ad0)]))
  obtain ⟨cl30, Ar30, q30, Sz30, Ng30, Hs30, Gf30⟩ := id G21
  have hin30 : ¬ ((1 : Int32) < 0 ∨ cl30.slots.size ≤ ((1 : Int32)).toNatClampNeg) := inb_of Sz30 ⟨by decide, by decide⟩
  obtain ⟨T30, h30, X30, e30, W30, st30⟩ := stD X29 hx hZ e29 Ar30 (j := (1 : Int32)) hin30 (g := (mkF m 35 #[.val (.ref ad0), .val (.ref ad1)] [(.double wrate_ad1), (.int (1 : Int32)), (.ref wrates_ad0)])) rfl rfl (hb hby own_d13_35)
  have N30 := Fr.snoc X30 N29 g_wrates_ad0
  have K30 : Keep h0 h30 [ad0, wjumps_ad0, wrates_ad0] := K16.wr W30 (Or.inl (List.mem_of_getElem? (i := 2) rfl))
  have Z30 : n0 ≤ h30.size := Nat.le_trans Z16 (Keep.of_wr W30).1
  have G31 := (G17.wr W30)
  have G32 := (G18.other W30 (Or.inl ne_ad0_wrates_ad0))
  have G33 := (G19.other W30 (Or.inl ne_ad0_wrates_ad0))
  have G34 := (G20.other W30 (Or.inl ne_ad0_wrates_ad0))
  have G35 := (G22.wr W30)
  have G36 := (G23.other W30 (Or.inl ne_ad1_wrates_ad0))
  have G37 := (G24.other W30 (Or.inl ne_ad1_wrates_ad0))
  have G38 := (G25.other W30 (Or.inl ne_ad0_wrates_ad0))
  have G39 := (G26.other W30 ne_wjumps_ad0_wrates_ad0)
  have G40 : Arv Z h30 wrates_ad0 k_wrates_ad0 .double (4 : Int32) [(.double wrates_ad0_0), (.double wrate_ad1)] (.double (0 : UInt64)) := Arv.set Ar30 q30 Sz30 Ng30 Hs30 Gf30 rfl W30 1 rfl (Nat.le_of_ble_eq_true rfl)
  refine own_step st30 ?_
  show own_Fin p e below s _ _ _ (T30.setTop (mkF m 36 #[.val (.ref ad0), .val (.ref ad1)] []))
  refine own_step (fun _ k => XS.aloadN X30.here hx rfl (hb hby own_d13_36) rfl rfl k) ?_
  refine own_step (fun _ k => XS.dup X30.here hx rfl (hb hby own_d13_37) rfl rfl k) ?_
  obtain ⟨T41, X41, e41, st41⟩ := getF X30 hx hZ hown (host := "") (Or.inl (own_w hw 37 rfl)) Via.refl e30 G34 (g := (mkF m 38 #[.val (.ref ad0), .val (.ref ad1)] [(.ref ad0), (.ref ad0)])) rfl rfl (hb hby own_d13_38)
  refine own_step st41 ?_
  show own_Fin p e below s _ _ _ (T41.setTop (mkF m 41 #[.val (.ref ad0), .val (.ref ad1)] [(.int (1 : Int32)), (.ref ad0)]))
  refine own_step (fun _ k => XS.iconst X41.here hx rfl (hb hby own_d13_41) k) ?_
  refine own_step (fun _ k => XS.iadd X41.here hx rfl (hb hby own_d13_42) rfl k) ?_
  show own_Fin p e below s _ _ _ (T41.setTop (mkF m 43 #[.val (.ref ad0), .val (.ref ad1)] [(.int ((1 : Int32) + (1 : Int32))), (.ref ad0)]))
  rw [show ((1 : Int32) + (1 : Int32)) = (2 : Int32) from by decide]
  show own_Fin p e below s _ _ _ (T41.setTop (mkF m 43 #[.val (.ref ad0), .val (.ref ad1)] [(.int (2 : Int32)), (.ref ad0)]))
  obtain ⟨T42, h42, X42, e42, W42, st42⟩ := putF X41 hx hZ hown (host := "") (Or.inl (own_w hw 37 rfl)) Via.refl e41 G34 G31 (Or.inl (own_w hw 38 rfl)) (own_w hw 1 rfl) (ty := .int) (by decide) rfl rfl (g := (mkF m 43 #[.val (.ref ad0), .val (.ref ad1)] [(.int (2 : Int32)), (.ref ad0)])) rfl rfl (hb hby own_d13_43)
  have N42 := Fr.snoc X42 N30 g_ad0
  have K42 : Keep h0 h42 [ad0, wjumps_ad0, wrates_ad0] := K30.wr W42 (Or.inl (List.mem_of_getElem? (i := 0) rfl))
  have Z42 : n0 ≤ h42.size := Nat.le_trans Z30 (Keep.of_wr W42).1
  have G43 := (G31.wr W42)
  have G44 := (G32.other W42 (Or.inr (slot_ne (Or.inr (own_w hw 11 rfl)) (Or.inl (own_w hw 38 rfl)) (by decide) (t := (.array .double)) (t' := .int) (by decide) (by decide))))
  have G45 := (G33.other W42 (Or.inr (slot_ne (Or.inr (own_w hw 13 rfl)) (Or.inl (own_w hw 38 rfl)) (by decide) (t := (.array .double)) (t' := .int) (by decide) (by decide))))
  have G46 := (G35.wr W42)
  have G47 := (G36.other W42 (Or.inl ne_ad1_ad0))
  have G48 := (G37.other W42 (Or.inl ne_ad1_ad0))
  have G49 := (G38.other W42 (Or.inr (slot_ne (Or.inl (own_w hw 36 rfl)) (Or.inl (own_w hw 38 rfl)) (by decide) (t := .double) (t' := .int) (by decide) (by decide))))
  have G50 := (G39.other W42 ne_wjumps_ad0_ad0)
  have G51 := (G40.other W42 ne_wrates_ad0_ad0)
  have G52 := G34.same W42
  refine own_step st42 ?_
  show own_Fin p e below s _ _ _ (T42.setTop (mkF m 46 #[.val (.ref ad0), .val (.ref ad1)] []))
  refine own_step (fun _ k => XS.aloadN X42.here hx rfl (hb hby own_d13_46) rfl rfl k) ?_
  exact own_ret X42 hlk (v := some (.ref ad0)) (fun h => by rw [Bd.returns] at h; cases h) (by decide) (by decide) (by show own_Q13 Z ad0 ad1 wjumps_ad0 wrates_ad0 woffset_ad0 k_wjumps_ad0 wjumps_ad0_0 wjumps_ad0_1 k_wrates_ad0 wrates_ad0_0 wrates_ad0_1 wlatency_ad1 wrate_ad1 h0 n0 _ T42.heap _; rw [e42]; exact ⟨N42, K42, rfl, G43, G44, G45, G49, G52, G50, G51⟩) (fun fs hr => retOut X42 hx Bd.returns rfl (Or.inr (Or.inr (Or.inr (Or.inr ⟨rfl, rfl, rfl⟩)))) (hb hby own_d13_47) hr)

abbrev own_y3 : MethodName := (⟨"com/example/tandem/tandem/model/TokenBucket", "burst", "()D"⟩ : MethodName)
abbrev own_y4 : MethodName := (⟨"com/example/tandem/tandem/model/TokenBucket", "rate", "()D"⟩ : MethodName)
theorem own_pd2 : parseMethodDescriptor "(DD)D" = some ⟨[.double, .double], some .double⟩ := by decide +kernel
theorem own_d14_0 : decode prog_42_method_6_code 0 = .ok (.aload_n 2, 1) := by decide +kernel
theorem own_d14_1 : decode prog_42_method_6_code 1 = .ok (.invokevirtual 43, 3) := by decide +kernel
theorem own_d14_4 : decode prog_42_method_6_code 4 = .ok (.dstore 5, 2) := by decide +kernel
theorem own_d14_6 : decode prog_42_method_6_code 6 = .ok (.aload_n 2, 1) := by decide +kernel
theorem own_d14_7 : decode prog_42_method_6_code 7 = .ok (.invokevirtual 48, 3) := by decide +kernel
theorem own_d14_10 : decode prog_42_method_6_code 10 = .ok (.dstore 7, 2) := by decide +kernel
theorem own_d14_12 : decode prog_42_method_6_code 12 = .ok (.aload_n 1, 1) := by decide +kernel
theorem own_d14_13 : decode prog_42_method_6_code 13 = .ok (.getfield 16, 3) := by decide +kernel
theorem own_d14_16 : decode prog_42_method_6_code 16 = .ok (.dstore 9, 2) := by decide +kernel
theorem own_d14_18 : decode prog_42_method_6_code 18 = .ok (.dload 9, 2) := by decide +kernel
theorem own_d14_20 : decode prog_42_method_6_code 20 = .ok (.ldc2_w 51, 3) := by decide +kernel
theorem own_d14_23 : decode prog_42_method_6_code 23 = .ok (.dcmp .l, 1) := by decide +kernel
theorem own_d14_24 : decode prog_42_method_6_code 24 = .ok (.ifCond .eq 12, 3) := by decide +kernel
theorem own_d14_27 : decode prog_42_method_6_code 27 = .ok (.dload 5, 2) := by decide +kernel
theorem own_d14_29 : decode prog_42_method_6_code 29 = .ok (.ldc2_w 51, 3) := by decide +kernel
theorem own_d14_32 : decode prog_42_method_6_code 32 = .ok (.dcmp .l, 1) := by decide +kernel
theorem own_d14_33 : decode prog_42_method_6_code 33 = .ok (.ifCond .ne 8, 3) := by decide +kernel
theorem own_d14_41 : decode prog_42_method_6_code 41 = .ok (.dload_n 3, 1) := by decide +kernel
theorem own_d14_42 : decode prog_42_method_6_code 42 = .ok (.dload 9, 2) := by decide +kernel
theorem own_d14_44 : decode prog_42_method_6_code 44 = .ok (.invokestatic 57, 3) := by decide +kernel
theorem own_d14_47 : decode prog_42_method_6_code 47 = .ok (.dstore 11, 2) := by decide +kernel
theorem own_d14_49 : decode prog_42_method_6_code 49 = .ok (.dconst 0, 1) := by decide +kernel
theorem own_d14_50 : decode prog_42_method_6_code 50 = .ok (.dstore 13, 2) := by decide +kernel
theorem own_d14_52 : decode prog_42_method_6_code 52 = .ok (.iconst 0, 1) := by decide +kernel
theorem own_d14_53 : decode prog_42_method_6_code 53 = .ok (.istore 15, 2) := by decide +kernel
theorem own_d14_55 : decode prog_42_method_6_code 55 = .ok (.iload 15, 2) := by decide +kernel
theorem own_d14_57 : decode prog_42_method_6_code 57 = .ok (.aload_n 1, 1) := by decide +kernel
theorem own_d14_58 : decode prog_42_method_6_code 58 = .ok (.getfield 20, 3) := by decide +kernel
theorem own_d14_61 : decode prog_42_method_6_code 61 = .ok (.if_icmp .ge 119, 3) := by decide +kernel
theorem own_d14_180 : decode prog_42_method_6_code 180 = .ok (.aload_n 0, 1) := by decide +kernel
theorem own_d14_181 : decode prog_42_method_6_code 181 = .ok (.aload_n 1, 1) := by decide +kernel
theorem own_d14_182 : decode prog_42_method_6_code 182 = .ok (.getfield 20, 3) := by decide +kernel
theorem own_d14_185 : decode prog_42_method_6_code 185 = .ok (.putfield 20, 3) := by decide +kernel
theorem own_d14_188 : decode prog_42_method_6_code 188 = .ok (.iconst 0, 1) := by decide +kernel
theorem own_d14_189 : decode prog_42_method_6_code 189 = .ok (.istore 15, 2) := by decide +kernel
theorem own_d14_191 : decode prog_42_method_6_code 191 = .ok (.iload 15, 2) := by decide +kernel
theorem own_d14_193 : decode prog_42_method_6_code 193 = .ok (.aload_n 0, 1) := by decide +kernel
theorem own_d14_194 : decode prog_42_method_6_code 194 = .ok (.getfield 20, 3) := by decide +kernel
theorem own_d14_197 : decode prog_42_method_6_code 197 = .ok (.if_icmp .ge 38, 3) := by decide +kernel
theorem own_d14_235 : decode prog_42_method_6_code 235 = .ok (.aload_n 0, 1) := by decide +kernel
theorem own_d14_236 : decode prog_42_method_6_code 236 = .ok (.dload 11, 2) := by decide +kernel
theorem own_d14_238 : decode prog_42_method_6_code 238 = .ok (.dload 13, 2) := by decide +kernel
theorem own_d14_240 : decode prog_42_method_6_code 240 = .ok (.dadd, 1) := by decide +kernel
theorem own_d14_241 : decode prog_42_method_6_code 241 = .ok (.putfield 16, 3) := by decide +kernel
theorem own_d14_244 : decode prog_42_method_6_code 244 = .ok (.aload_n 0, 1) := by decide +kernel
theorem own_d14_245 : decode prog_42_method_6_code 245 = .ok (.areturn, 1) := by decide +kernel
theorem own_ef14 (m : MethodId) (ad0 : Addr) (ad2 : Addr) (z3 : UInt64) : entryFrame m #[(.ref ad0), (.ref ad0), (.ref ad2), (.double z3)] 20 = mkF m 0 #[.val (.ref ad0), .val (.ref ad0), .val (.ref ad2), .val (.double z3), .second, .unset, .unset, .unset, .unset, .unset, .unset, .unset, .unset, .unset, .unset, .unset, .unset, .unset, .unset, .unset] [] := by first | (simp [entryFrame, mkF, argsToLocals, Value.category]; done) | rfl
def own_Q14 (Z : State) (ad0 : Addr) (ad2 : Addr) (z3 : UInt64) (xb : Int32) (xr : Int32) (wjumps_ad0 : Addr) (wrates_ad0 : Addr) (woffset_ad0 : UInt64) (k_wjumps_ad0 : ClassId) (k_wrates_ad0 : ClassId) (h0 : Heap) (n0 : Nat) (v : Option Value) (h : Heap) (L : List Loc) : Prop := Fr n0 L ∧ Keep h0 h [ad0] ∧ ∃ (uo0 : Value), v = some (.ref ad0) ∧ Exa Z h ad0 "com/example/tandem/tandem/analysis/PseudoAffine" ∧ Fld Z h ad0 "com/example/tandem/tandem/analysis/PseudoAffine" "jumps" "[D" (.ref wjumps_ad0) ∧ Fld Z h ad0 "com/example/tandem/tandem/analysis/PseudoAffine" "rates" "[D" (.ref wrates_ad0) ∧ Fld Z h ad0 "com/example/tandem/tandem/analysis/PseudoAffine" "pieces" "I" (.int (0 : Int32)) ∧ Fld Z h ad0 "com/example/tandem/tandem/analysis/PseudoAffine" "offset" "D" uo0
set_option maxRecDepth 65536 in
set_option maxHeartbeats 40000000 in
theorem own_rm14 (l : Launch) (Z : State) (a0 : Array Value) (hw : ∀ d ∈ tables_1, d.before a0 Z = true) (ws : List Jvm.Cond) (ad0 : Addr) (ad2 : Addr) (z3 : UInt64) (xb : Int32) (xr : Int32) (wjumps_ad0 : Addr) (wrates_ad0 : Addr) (woffset_ad0 : UInt64) (k_wjumps_ad0 : ClassId) (k_wrates_ad0 : ClassId) (h0 : Heap) (n0 : Nat) (Z0 : n0 ≤ h0.size) (hm_z3 : Jvm.Free.Fl.Mag64 1056 z3) (E_ad0 : Exa Z h0 ad0 "com/example/tandem/tandem/analysis/PseudoAffine") (F_jumps_ad0 : Fld Z h0 ad0 "com/example/tandem/tandem/analysis/PseudoAffine" "jumps" "[D" (.ref wjumps_ad0)) (F_rates_ad0 : Fld Z h0 ad0 "com/example/tandem/tandem/analysis/PseudoAffine" "rates" "[D" (.ref wrates_ad0)) (hm_woffset_ad0 : Jvm.Free.Fl.Mag64 1100 woffset_ad0) (F_offset_ad0 : Fld Z h0 ad0 "com/example/tandem/tandem/analysis/PseudoAffine" "offset" "D" (.double woffset_ad0)) (F_pieces_ad0 : Fld Z h0 ad0 "com/example/tandem/tandem/analysis/PseudoAffine" "pieces" "I" (.int (0 : Int32))) (A_wjumps_ad0 : Arv Z h0 wjumps_ad0 k_wjumps_ad0 .double (4 : Int32) [(.double (0 : UInt64)), (.double (0 : UInt64))] (.double (0 : UInt64))) (A_wrates_ad0 : Arv Z h0 wrates_ad0 k_wrates_ad0 .double (4 : Int32) [(.double (0 : UInt64)), (.double (0 : UInt64))] (.double (0 : UInt64))) (E_ad2 : Exa Z h0 ad2 "com/example/tandem/tandem/model/TokenBucket") (F_burst_ad2 : Fld Z h0 ad2 "com/example/tandem/tandem/model/TokenBucket" "burst" "D" (.double (FP.i2d xb))) (F_rate_ad2 : Fld Z h0 ad2 "com/example/tandem/tandem/model/TokenBucket" "rate" "D" (.double (FP.i2d xr))) (g_ad0 : n0 ≤ ad0) (ne_wjumps_ad0_ad0 : wjumps_ad0 ≠ ad0) (ne_wrates_ad0_ad0 : wrates_ad0 ≠ ad0) (ne_ad2_ad0 : ad2 ≠ ad0) :
    MetFree l (⟨"com/example/tandem/tandem/analysis/PseudoAffine", "leaveOver", "(Lcom/example/tandem/tandem/analysis/PseudoAffine;Lcom/example/tandem/tandem/model/TokenBucket;D)Lcom/example/tandem/tandem/analysis/PseudoAffine;"⟩ : MethodName) (head1 (Jvm.Cond.code (⟨"com/example/tandem/tandem/analysis/PseudoAffine", "leaveOver", "(Lcom/example/tandem/tandem/analysis/PseudoAffine;Lcom/example/tandem/tandem/model/TokenBucket;D)Lcom/example/tandem/tandem/analysis/PseudoAffine;"⟩ : MethodName) prog_42_method_6_code 20 (some (.object "com/example/tandem/tandem/analysis/PseudoAffine")) :: ws) ({ frames := 1, cells := 0, slots := 0, locals := 15 } : Room)) (fun a U => a = #[(.ref ad0), (.ref ad0), (.ref ad2), (.double z3)] ∧ Z.Warmed39 U.vm ∧ U.heap = h0) (fun _ _ _ _ _ => True) (fun _ U o U' => ∃ v L, o = .returned v ∧ own_Q14 Z ad0 ad2 z3 xb xr wjumps_ad0 wrates_ad0 woffset_ad0 k_wjumps_ad0 k_wrates_ad0 h0 n0 v U'.heap L ∧ FrameEnd U o U' L ({ frames := 1, cells := 0, slots := 0, locals := 15 } : Room).cells ({ frames := 1, cells := 0, slots := 0, locals := 15 } : Room).slots) := by
  refine MetFree.of_bodySF (plainFor_of_name own_pn0) hisR ?_
  intro p e s m args below meth c s₁ Bd hml0 hP hK
  obtain ⟨rfl, hZ, hh⟩ := hP
  have hx := Bd.exec
  have hby := Bd.bytes
  have hlk := Bd.notSynchronized
  have hml : c.maxLocals = 20 := hml0
  have hown : s.vm.findClass "com/example/tandem/tandem/analysis/PseudoAffine" = some m.cls := findClass_of_methodNamed Bd.named
  have hnm := (name_of_methodNamed Bd.named Bd.method).1
  have X0 : Stand p l e ({ frames := 1, cells := 0, slots := 0, locals := 15 } : Room) s m #[(.ref ad0), (.ref ad0), (.ref ad2), (.double z3)] below meth c s₁ [] 0 0 := Stand.of_body Bd
  have e0 : s₁.heap = h0 := by rw [← hh, Bd.state]; rfl
  have N0 := Fr.nil n0
  have KR : Keep h0 h0 [ad0] := Keep.refl _ _
  show own_Fin p e below s ({ frames := 1, cells := 0, slots := 0, locals := 15 } : Room).cells ({ frames := 1, cells := 0, slots := 0, locals := 15 } : Room).slots (own_Q14 Z ad0 ad2 z3 xb xr wjumps_ad0 wrates_ad0 woffset_ad0 k_wjumps_ad0 k_wrates_ad0 h0 n0) (s₁.setTop (entryFrame m #[(.ref ad0), (.ref ad0), (.ref ad2), (.double z3)] 20))
  refine own_cast (own_ef14 m ad0 ad2 z3) ?_
  refine own_step (fun _ k => XS.aloadN X0.here hx rfl (hb hby own_d14_0) rfl rfl k) ?_
  obtain ⟨cq1, kq1, q1a, q1b, q1c⟩ := isOf hZ e0 E_ad2
  obtain ⟨_, _, ⟨T1, L1, k1, n1⟩, -, X1, ⟨Lc1, hQ1, l1, y1, z1⟩, st1⟩ := X0.virtualBack hx (y := own_y3) (z := own_y3) hown (mvT hZ (own_w hw 85 rfl)) (mvT hZ (own_w hw 86 rfl)) (notFace_of_selects (args := #[]) (mvT hZ (own_w hw 88 rfl))) (mvT hZ (own_w hw 88 rfl)) (mvT hZ (own_w hw 87 rfl)) (by decide) (backOf (W := 0) (own_rm10 l Z a0 hw [] ad2 ((FP.i2d xb)) h0 n0 Z0 F_burst_ad2) hZ (own_w hw 89 rfl) (own_w hw 41 rfl) (by decide) (by decide)) q1a q1c (g := (mkF m 1 #[.val (.ref ad0), .val (.ref ad0), .val (.ref ad2), .val (.double z3), .second, .unset, .unset, .unset, .unset, .unset, .unset, .unset, .unset, .unset, .unset, .unset, .unset, .unset, .unset, .unset] [(.ref ad2)])) rfl (by rw [hml]; rfl) (Steps.refl _) (argsL := []) (rest := []) (lenOf own_pd1 rfl) rfl (by show 2 * 0 + _ ≤ _; exact Nat.le_of_eq rfl) (hb hby own_d14_1) (fun _ _ => ⟨rfl, e0, (by decide : 0 + 0 ≤ _), (by decide : 0 + 0 ≤ _)⟩)
  dsimp only [Pt.U, Pt.locs, Pt.cells, Pt.slots] at X1 l1 y1 z1 st1 hQ1
  subst l1 y1 z1
  obtain ⟨rfl, N1q, e1⟩ := hQ1
  have N1 := Fr.app N0 N1q
  refine own_step (fun _ k => st1.trans k) ?_
  show own_Fin p e below s _ _ _ (T1.setTop (mkF m 4 #[.val (.ref ad0), .val (.ref ad0), .val (.ref ad2), .val (.double z3), .second, .unset, .unset, .unset, .unset, .unset, .unset, .unset, .unset, .unset, .unset, .unset, .unset, .unset, .unset, .unset] [(.double (FP.i2d xb))]))
  refine own_step (fun _ k => XS.dstore X1.here hx rfl (hb hby own_d14_4) rfl (l' := #[.val (.ref ad0), .val (.ref ad0), .val (.ref ad2), .val (.double z3), .second, .val (.double (FP.i2d xb)), .second, .unset, .unset, .unset, .unset, .unset, .unset, .unset, .unset, .unset, .unset, .unset, .unset, .unset]) rfl k) ?_
  refine own_step (fun _ k => XS.aloadN X1.here hx rfl (hb hby own_d14_6) rfl rfl k) ?_
  obtain ⟨cq2, kq2, q2a, q2b, q2c⟩ := isOf hZ e1 E_ad2
  obtain ⟨_, _, ⟨T2, L2, k2, n2⟩, -, X2, ⟨Lc2, hQ2, l2, y2, z2⟩, st2⟩ := X1.virtualBack hx (y := own_y4) (z := own_y4) hown (mvT hZ (own_w hw 80 rfl)) (mvT hZ (own_w hw 81 rfl)) (notFace_of_selects (args := #[]) (mvT hZ (own_w hw 83 rfl))) (mvT hZ (own_w hw 83 rfl)) (mvT hZ (own_w hw 82 rfl)) (by decide) (backOf (W := 0) (own_rm9 l Z a0 hw [] ad2 ((FP.i2d xr)) h0 n0 Z0 F_rate_ad2) hZ (own_w hw 84 rfl) (own_w hw 41 rfl) (by decide) (by decide)) q2a q2c (g := (mkF m 7 #[.val (.ref ad0), .val (.ref ad0), .val (.ref ad2), .val (.double z3), .second, .val (.double (FP.i2d xb)), .second, .unset, .unset, .unset, .unset, .unset, .unset, .unset, .unset, .unset, .unset, .unset, .unset, .unset] [(.ref ad2)])) rfl (by rw [hml]; rfl) (Steps.refl _) (argsL := []) (rest := []) (lenOf own_pd1 rfl) rfl (by show 2 * 0 + _ ≤ _; exact Nat.le_of_eq rfl) (hb hby own_d14_7) (fun _ _ => ⟨rfl, e1, (by decide : 0 + 0 ≤ _), (by decide : 0 + 0 ≤ _)⟩)
  dsimp only [Pt.U, Pt.locs, Pt.cells, Pt.slots] at X2 l2 y2 z2 st2 hQ2
  subst l2 y2 z2
  obtain ⟨rfl, N2q, e2⟩ := hQ2
  have N2 := Fr.app N1 N2q
  refine own_step (fun _ k => st2.trans k) ?_
  show own_Fin p e below s _ _ _ (T2.setTop (mkF m 10 #[.val (.ref ad0), .val (.ref ad0), .val (.ref ad2), .val (.double z3), .second, .val (.double (FP.i2d xb)), .second, .unset, .unset, .unset, .unset, .unset, .unset, .unset, .unset, .unset, .unset, .unset, .unset, .unset] [(.double (FP.i2d xr))]))
  refine own_step (fun _ k => XS.dstore X2.here hx rfl (hb hby own_d14_10) rfl (l' := #[.val (.ref ad0), .val (.ref ad0), .val (.ref ad2), .val (.double z3), .second, .val (.double (FP.i2d xb)), .second, .val (.double (FP.i2d xr)), .second, .unset, .unset, .unset, .unset, .unset, .unset, .unset, .unset, .unset, .unset, .unset]) rfl k) ?_
  refine own_step (fun _ k => XS.aloadN X2.here hx rfl (hb hby own_d14_12) rfl rfl k) ?_
  obtain ⟨T3, X3, e3, st3⟩ := getF X2 hx hZ hown (host := "") (Or.inl (own_w hw 35 rfl)) Via.refl e2 F_offset_ad0 (g := (mkF m 13 #[.val (.ref ad0), .val (.ref ad0), .val (.ref ad2), .val (.double z3), .second, .val (.double (FP.i2d xb)), .second, .val (.double (FP.i2d xr)), .second, .unset, .unset, .unset, .unset, .unset, .unset, .unset, .unset, .unset, .unset, .unset] [(.ref ad0)])) rfl rfl (hb hby own_d14_13)
  refine own_step st3 ?_
  show own_Fin p e below s _ _ _ (T3.setTop (mkF m 16 #[.val (.ref ad0), .val (.ref ad0), .val (.ref ad2), .val (.double z3), .second, .val (.double (FP.i2d xb)), .second, .val (.double (FP.i2d xr)), .second, .unset, .unset, .unset, .unset, .unset, .unset, .unset, .unset, .unset, .unset, .unset] [(.double woffset_ad0)]))
  refine own_step (fun _ k => XS.dstore X3.here hx rfl (hb hby own_d14_16) rfl (l' := #[.val (.ref ad0), .val (.ref ad0), .val (.ref ad2), .val (.double z3), .second, .val (.double (FP.i2d xb)), .second, .val (.double (FP.i2d xr)), .second, .val (.double woffset_ad0), .second, .unset, .unset, .unset, .unset, .unset, .unset, .unset, .unset, .unset]) rfl k) ?_
  refine own_step (fun _ k => XS.dload X3.here hx rfl (hb hby own_d14_18) rfl k) ?_
  refine own_step (fun _ k => X3.ldc2DoubleC hx hown (mvT hZ (own_w hw 115 rfl)) (g := (mkF m 20 #[.val (.ref ad0), .val (.ref ad0), .val (.ref ad2), .val (.double z3), .second, .val (.double (FP.i2d xb)), .second, .val (.double (FP.i2d xr)), .second, .val (.double woffset_ad0), .second, .unset, .unset, .unset, .unset, .unset, .unset, .unset, .unset, .unset] [(.double woffset_ad0)])) rfl (hb hby own_d14_20) _ k) ?_
  refine own_step (fun _ k => XS.dcmpS X3.here hx rfl (hb hby own_d14_23) rfl rfl k) ?_
  show own_Fin p e below s _ _ _ (T3.setTop (mkF m 24 #[.val (.ref ad0), .val (.ref ad0), .val (.ref ad2), .val (.double z3), .second, .val (.double (FP.i2d xb)), .second, .val (.double (FP.i2d xr)), .second, .val (.double woffset_ad0), .second, .unset, .unset, .unset, .unset, .unset, .unset, .unset, .unset, .unset] [(.int (cmpValue (FP.dcmp woffset_ad0 (9218868437227405312 : UInt64)) .l))]))
  have hf4 : ¬ ((cmpValue (FP.dcmp woffset_ad0 (9218868437227405312 : UInt64)) .l) = (0 : Int32)) := by rw [dcmp_pinf (Jvm.Free.Fl.Mag64.fin hm_woffset_ad0 (by decide))]; decide
  refine own_step (fun _ k => XS.ifNo X3.here hx rfl (hb hby own_d14_24) rfl ((if0 _ _).trans (feq hf4).1) k) ?_
  refine own_step (fun _ k => XS.dload X3.here hx rfl (hb hby own_d14_27) rfl k) ?_
  refine own_step (fun _ k => X3.ldc2DoubleC hx hown (mvT hZ (own_w hw 115 rfl)) (g := (mkF m 29 #[.val (.ref ad0), .val (.ref ad0), .val (.ref ad2), .val (.double z3), .second, .val (.double (FP.i2d xb)), .second, .val (.double (FP.i2d xr)), .second, .val (.double woffset_ad0), .second, .unset, .unset, .unset, .unset, .unset, .unset, .unset, .unset, .unset] [(.double (FP.i2d xb))])) rfl (hb hby own_d14_29) _ k) ?_
  refine own_step (fun _ k => XS.dcmpS X3.here hx rfl (hb hby own_d14_32) rfl rfl k) ?_
  show own_Fin p e below s _ _ _ (T3.setTop (mkF m 33 #[.val (.ref ad0), .val (.ref ad0), .val (.ref ad2), .val (.double z3), .second, .val (.double (FP.i2d xb)), .second, .val (.double (FP.i2d xr)), .second, .val (.double woffset_ad0), .second, .unset, .unset, .unset, .unset, .unset, .unset, .unset, .unset, .unset] [(.int (cmpValue (FP.dcmp (FP.i2d xb) (9218868437227405312 : UInt64)) .l))]))
  have hf5 : ¬ ((cmpValue (FP.dcmp (FP.i2d xb) (9218868437227405312 : UInt64)) .l) = (0 : Int32)) := by rw [dcmp_pinf (Jvm.Free.Fl.Mag64.fin (Jvm.Free.Fl.i2d_mag (xb)) (by decide))]; decide
  refine own_step (fun _ k => XS.ifYes X3.here hx rfl (pc0 := 33) (pc' := 41) rfl (hb hby own_d14_33) rfl ((if0 _ _).trans (feq hf5).2) (by decide) (by decide) k) ?_
  refine own_step (fun _ k => XS.dloadN X3.here hx rfl (hb hby own_d14_41) rfl k) ?_
  refine own_step (fun _ k => XS.dload X3.here hx rfl (hb hby own_d14_42) rfl k) ?_
  obtain ⟨T6, X6, e6, st6⟩ := natS X3 hx hZ hown (own_w hw 116 rfl) (own_w hw 117 rfl) (own_w hw 118 rfl) (show (Jvm.Cond.code Jvm.Free.Fl.Abs.maxDN Jvm.Free.Fl.Abs.maxDCode 4 (some .double)).before a0 Z = true from (own_w hw 119 rfl)) (by decide) e3 (fun hcd => Jvm.Free.Fl.Abs.maxD_pays (W := 0) z3 woffset_ad0 hcd (by decide) (by decide)) (g := (mkF m 44 #[.val (.ref ad0), .val (.ref ad0), .val (.ref ad2), .val (.double z3), .second, .val (.double (FP.i2d xb)), .second, .val (.double (FP.i2d xr)), .second, .val (.double woffset_ad0), .second, .unset, .unset, .unset, .unset, .unset, .unset, .unset, .unset, .unset] [(.double woffset_ad0), (.double z3)])) rfl (by rw [hml]; rfl) (argsL := [(.double z3), (.double woffset_ad0)]) (rest := []) (lenOf own_pd2 rfl) rfl (by show 2 * 0 + _ ≤ _; exact Nat.le_of_eq rfl) (hb hby own_d14_44) (by decide) (by decide) ⟨rfl, (Jvm.Free.Fl.Mag64.fin hm_z3 (by decide)).noNaN, (Jvm.Free.Fl.Mag64.fin hm_woffset_ad0 (by decide)).noNaN⟩ (val' := (.double (Jvm.Native.java_lang_Math.nans.pick64 true z3 woffset_ad0))) rfl
  refine own_step st6 ?_
  show own_Fin p e below s _ _ _ (T6.setTop (mkF m 47 #[.val (.ref ad0), .val (.ref ad0), .val (.ref ad2), .val (.double z3), .second, .val (.double (FP.i2d xb)), .second, .val (.double (FP.i2d xr)), .second, .val (.double woffset_ad0), .second, .unset, .unset, .unset, .unset, .unset, .unset, .unset, .unset, .unset] [(.double (Jvm.Native.java_lang_Math.nans.pick64 true z3 woffset_ad0))]))
  show own_Fin p e below s _ _ _ (T6.setTop (mkF m 47 #[.val (.ref ad0), .val (.ref ad0), .val (.ref ad2), .val (.double z3), .second, .val (.double (FP.i2d xb)), .second, .val (.double (FP.i2d xr)), .second, .val (.double woffset_ad0), .second, .unset, .unset, .unset, .unset, .unset, .unset, .unset, .unset, .unset] [(.double (Jvm.Native.java_lang_Math.nans.pick64 true z3 woffset_ad0))]))
  refine own_abs1 (F := fun x7 => own_Fin p e below s ({ frames := 1, cells := 0, slots := 0, locals := 15 } : Room).cells ({ frames := 1, cells := 0, slots := 0, locals := 15 } : Room).slots (own_Q14 Z ad0 ad2 z3 xb xr wjumps_ad0 wrates_ad0 woffset_ad0 k_wjumps_ad0 k_wrates_ad0 h0 n0) (T6.setTop (mkF m 47 #[.val (.ref ad0), .val (.ref ad0), .val (.ref ad2), .val (.double z3), .second, .val (.double (FP.i2d xb)), .second, .val (.double (FP.i2d xr)), .second, .val (.double woffset_ad0), .second, .unset, .unset, .unset, .unset, .unset, .unset, .unset, .unset, .unset] [(.double x7)]))) (e := (Jvm.Native.java_lang_Math.nans.pick64 true z3 woffset_ad0)) fun x7 gx7 => ?_
  have hm7 : Jvm.Free.Fl.Mag64 1100 x7 := by rw [gx7]; exact (Jvm.Free.Fl.pick64_mag (hm_z3.mono (by decide)) (hm_woffset_ad0.mono (by decide)) : Jvm.Free.Fl.Mag64 1100 _)
  show own_Fin p e below s _ _ _ (T6.setTop (mkF m 47 #[.val (.ref ad0), .val (.ref ad0), .val (.ref ad2), .val (.double z3), .second, .val (.double (FP.i2d xb)), .second, .val (.double (FP.i2d xr)), .second, .val (.double woffset_ad0), .second, .unset, .unset, .unset, .unset, .unset, .unset, .unset, .unset, .unset] [(.double x7)]))
  refine own_step (fun _ k => XS.dstore X6.here hx rfl (hb hby own_d14_47) rfl (l' := #[.val (.ref ad0), .val (.ref ad0), .val (.ref ad2), .val (.double z3), .second, .val (.double (FP.i2d xb)), .second, .val (.double (FP.i2d xr)), .second, .val (.double woffset_ad0), .second, .val (.double x7), .second, .unset, .unset, .unset, .unset, .unset, .unset, .unset]) rfl k) ?_
  refine own_step (fun _ k => XS.dconst0 X6.here hx rfl (hb hby own_d14_49) rfl k) ?_
  refine own_step (fun _ k => XS.dstore X6.here hx rfl (hb hby own_d14_50) rfl (l' := #[.val (.ref ad0), .val (.ref ad0), .val (.ref ad2), .val (.double z3), .second, .val (.double (FP.i2d xb)), .second, .val (.double (FP.i2d xr)), .second, .val (.double woffset_ad0), .second, .val (.double x7), .second, .val (.double FP.dconst0), .second, .unset, .unset, .unset, .unset, .unset]) rfl k) ?_
  refine own_step (fun _ k => XS.iconst X6.here hx rfl (hb hby own_d14_52) k) ?_
  show own_Fin p e below s _ _ _ (T6.setTop (mkF m 53 #[.val (.ref ad0), .val (.ref ad0), .val (.ref ad2), .val (.double z3), .second, .val (.double (FP.i2d xb)), .second, .val (.double (FP.i2d xr)), .second, .val (.double woffset_ad0), .second, .val (.double x7), .second, .val (.double FP.dconst0), .second, .unset, .unset, .unset, .unset, .unset] [(.int (0 : Int32))]))
  refine own_step (fun _ k => XS.istore X6.here hx rfl (hb hby own_d14_53) rfl (l' := #[.val (.ref ad0), .val (.ref ad0), .val (.ref ad2), .val (.double z3), .second, .val (.double (FP.i2d xb)), .second, .val (.double (FP.i2d xr)), .second, .val (.double woffset_ad0), .second, .val (.double x7), .second, .val (.double FP.dconst0), .second, .val (.int (0 : Int32)), .unset, .unset, .unset, .unset]) rfl k) ?_
  refine own_step (fun _ k => XS.iload X6.here hx rfl (hb hby own_d14_55) rfl k) ?_
  refine own_step (fun _ k => XS.aloadN X6.here hx rfl (hb hby own_d14_57) rfl rfl k) ?_
  obtain ⟨T8, X8, e8, st8⟩ := getF X6 hx hZ hown (host := "") (Or.inl (own_w hw 37 rfl)) Via.refl e6 F_pieces_ad0 (g := (mkF m 58 #[.val (.ref ad0), .val (.ref ad0), .val (.ref ad2), .val (.double z3), .second, .val (.double (FP.i2d xb)), .second, .val (.double (FP.i2d xr)), .second, .val (.double woffset_ad0), .second, .val (.double x7), .second, .val (.double FP.dconst0), .second, .val (.int (0 : Int32)), .unset, .unset, .unset, .unset] [(.ref ad0), (.int (0 : Int32))])) rfl rfl (hb hby own_d14_58)
  refine own_step st8 ?_
  show own_Fin p e below s _ _ _ (T8.setTop (mkF m 61 #[.val (.ref ad0), .val (.ref ad0), .val (.ref ad2), .val (.double z3), .second, .val (.double (FP.i2d xb)), .second, .val (.double (FP.i2d xr)), .second, .val (.double woffset_ad0), .second, .val (.double x7), .second, .val (.double FP.dconst0), .second, .val (.int (0 : Int32)), .unset, .unset, .unset, .unset] [(.int (0 : Int32)), (.int (0 : Int32))]))
  refine own_step (fun _ k => XS.icmpYes X8.here hx rfl (pc0 := 61) (pc' := 180) rfl (hb hby own_d14_61) rfl (flt (by decide : ¬ ((0 : Int32) < (0 : Int32)))).2.1 (by decide) (by decide) k) ?_
  refine own_step (fun _ k => XS.aloadN X8.here hx rfl (hb hby own_d14_180) rfl rfl k) ?_
  refine own_step (fun _ k => XS.aloadN X8.here hx rfl (hb hby own_d14_181) rfl rfl k) ?_
  obtain ⟨T9, X9, e9, st9⟩ := getF X8 hx hZ hown (host := "") (Or.inl (own_w hw 37 rfl)) Via.refl e8 F_pieces_ad0 (g := (mkF m 182 #[.val (.ref ad0), .val (.ref ad0), .val (.ref ad2), .val (.double z3), .second, .val (.double (FP.i2d xb)), .second, .val (.double (FP.i2d xr)), .second, .val (.double woffset_ad0), .second, .val (.double x7), .second, .val (.double FP.dconst0), .second, .val (.int (0 : Int32)), .unset, .unset, .unset, .unset] [(.ref ad0), (.ref ad0)])) rfl rfl (hb hby own_d14_182)
  refine own_step st9 ?_
  show own_Fin p e below s _ _ _ (T9.setTop (mkF m 185 #[.val (.ref ad0), .val (.ref ad0), .val (.ref ad2), .val (.double z3), .second, .val (.double (FP.i2d xb)), .second, .val (.double (FP.i2d xr)), .second, .val (.double woffset_ad0), .second, .val (.double x7), .second, .val (.double FP.dconst0), .second, .val (.int (0 : Int32)), .unset, .unset, .unset, .unset] [(.int (0 : Int32)), (.ref ad0)]))
  obtain ⟨T10, h10, X10, e10, W10, st10⟩ := putF X9 hx hZ hown (host := "") (Or.inl (own_w hw 37 rfl)) Via.refl e9 F_pieces_ad0 E_ad0 (Or.inl (own_w hw 38 rfl)) (own_w hw 1 rfl) (ty := .int) (by decide) rfl rfl (g := (mkF m 185 #[.val (.ref ad0), .val (.ref ad0), .val (.ref ad2), .val (.double z3), .second, .val (.double (FP.i2d xb)), .second, .val (.double (FP.i2d xr)), .second, .val (.double woffset_ad0), .second, .val (.double x7), .second, .val (.double FP.dconst0), .second, .val (.int (0 : Int32)), .unset, .unset, .unset, .unset] [(.int (0 : Int32)), (.ref ad0)])) rfl rfl (hb hby own_d14_185)
  have N10 := Fr.snoc X10 N2 g_ad0
  have K10 : Keep h0 h10 [ad0] := KR.wr W10 (Or.inl (List.mem_of_getElem? (i := 0) rfl))
  have Z10 : n0 ≤ h10.size := Nat.le_trans Z0 (Keep.of_wr W10).1
  have G11 := (E_ad0.wr W10)
  have G12 := (F_jumps_ad0.other W10 (Or.inr (slot_ne (Or.inr (own_w hw 11 rfl)) (Or.inl (own_w hw 38 rfl)) (by decide) (t := (.array .double)) (t' := .int) (by decide) (by decide))))
  have G13 := (F_rates_ad0.other W10 (Or.inr (slot_ne (Or.inr (own_w hw 13 rfl)) (Or.inl (own_w hw 38 rfl)) (by decide) (t := (.array .double)) (t' := .int) (by decide) (by decide))))
  have G14 := (F_offset_ad0.other W10 (Or.inr (slot_ne (Or.inl (own_w hw 36 rfl)) (Or.inl (own_w hw 38 rfl)) (by decide) (t := .double) (t' := .int) (by decide) (by decide))))
  have G15 := (A_wjumps_ad0.other W10 ne_wjumps_ad0_ad0)
  have G16 := (A_wrates_ad0.other W10 ne_wrates_ad0_ad0)
  have G17 := (E_ad2.wr W10)
  have G18 := (F_burst_ad2.other W10 (Or.inl ne_ad2_ad0))
  have G19 := (F_rate_ad2.other W10 (Or.inl ne_ad2_ad0))
  have G20 := F_pieces_ad0.same W10
  refine own_step st10 ?_
  show own_Fin p e below s _ _ _ (T10.setTop (mkF m 188 #[.val (.ref ad0), .val (.ref ad0), .val (.ref ad2), .val (.double z3), .second, .val (.double (FP.i2d xb)), .second, .val (.double (FP.i2d xr)), .second, .val (.double woffset_ad0), .second, .val (.double x7), .second, .val (.double FP.dconst0), .second, .val (.int (0 : Int32)), .unset, .unset, .unset, .unset] []))
  refine own_step (fun _ k => XS.iconst X10.here hx rfl (hb hby own_d14_188) k) ?_
  refine own_step (fun _ k => XS.istore X10.here hx rfl (hb hby own_d14_189) rfl (l' := #[.val (.ref ad0), .val (.ref ad0), .val (.ref ad2), .val (.double z3), .second, .val (.double (FP.i2d xb)), .second, .val (.double (FP.i2d xr)), .second, .val (.double woffset_ad0), .second, .val (.double x7), .second, .val (.double FP.dconst0), .second, .val (.int (0 : Int32)), .unset, .unset, .unset, .unset]) rfl k) ?_
  refine own_step (fun _ k => XS.iload X10.here hx rfl (hb hby own_d14_191) rfl k) ?_
  refine own_step (fun _ k => XS.aloadN X10.here hx rfl (hb hby own_d14_193) rfl rfl k) ?_
  show own_Fin p e below s _ _ _ (T10.setTop (mkF m 194 #[.val (.ref ad0), .val (.ref ad0), .val (.ref ad2), .val (.double z3), .second, .val (.double (FP.i2d xb)), .second, .val (.double (FP.i2d xr)), .second, .val (.double woffset_ad0), .second, .val (.double x7), .second, .val (.double FP.dconst0), .second, .val (.int (0 : Int32)), .unset, .unset, .unset, .unset] [(.ref ad0), (.int (0 : Int32))]))
  obtain ⟨T21, X21, e21, st21⟩ := getF X10 hx hZ hown (host := "") (Or.inl (own_w hw 37 rfl)) Via.refl e10 G20 (g := (mkF m 194 #[.val (.ref ad0), .val (.ref ad0), .val (.ref ad2), .val (.double z3), .second, .val (.double (FP.i2d xb)), .second, .val (.double (FP.i2d xr)), .second, .val (.double woffset_ad0), .second, .val (.double x7), .second, .val (.double FP.dconst0), .second, .val (.int (0 : Int32)), .unset, .unset, .unset, .unset] [(.ref ad0), (.int (0 : Int32))])) rfl rfl (hb hby own_d14_194)
  refine own_step st21 ?_
  show own_Fin p e below s _ _ _ (T21.setTop (mkF m 197 #[.val (.ref ad0), .val (.ref ad0), .val (.ref ad2), .val (.double z3), .second, .val (.double (FP.i2d xb)), .second, .val (.double (FP.i2d xr)), .second, .val (.double woffset_ad0), .second, .val (.double x7), .second, .val (.double FP.dconst0), .second, .val (.int (0 : Int32)), .unset, .unset, .unset, .unset] [(.int (0 : Int32)), (.int (0 : Int32))]))
  refine own_step (fun _ k => XS.icmpYes X21.here hx rfl (pc0 := 197) (pc' := 235) rfl (hb hby own_d14_197) rfl (flt (by decide : ¬ ((0 : Int32) < (0 : Int32)))).2.1 (by decide) (by decide) k) ?_
  refine own_step (fun _ k => XS.aloadN X21.here hx rfl (hb hby own_d14_235) rfl rfl k) ?_
  refine own_step (fun _ k => XS.dload X21.here hx rfl (hb hby own_d14_236) rfl k) ?_
  refine own_step (fun _ k => XS.dload X21.here hx rfl (hb hby own_d14_238) rfl k) ?_
  show own_Fin p e below s _ _ _ (T21.setTop (mkF m 240 #[.val (.ref ad0), .val (.ref ad0), .val (.ref ad2), .val (.double z3), .second, .val (.double (FP.i2d xb)), .second, .val (.double (FP.i2d xr)), .second, .val (.double woffset_ad0), .second, .val (.double x7), .second, .val (.double FP.dconst0), .second, .val (.int (0 : Int32)), .unset, .unset, .unset, .unset] [(.double FP.dconst0), (.double x7), (.ref ad0)]))
  refine own_step (fun _ k => XS.daddS X21.here hx rfl (hb hby own_d14_240) rfl (show Jvm.Free.Fl.NoNaN64 (FP.dadd x7 FP.dconst0) from (Jvm.Free.Fl.Mag64.fin (Jvm.Free.Fl.dadd_mag (K := 1100) (hm7.mono (by decide)) ((own_m0).mono (by decide)) (by decide)) (by decide)).noNaN) rfl k) ?_
  show own_Fin p e below s _ _ _ (T21.setTop (mkF m 241 #[.val (.ref ad0), .val (.ref ad0), .val (.ref ad2), .val (.double z3), .second, .val (.double (FP.i2d xb)), .second, .val (.double (FP.i2d xr)), .second, .val (.double woffset_ad0), .second, .val (.double x7), .second, .val (.double FP.dconst0), .second, .val (.int (0 : Int32)), .unset, .unset, .unset, .unset] [(.double (FP.dadd x7 FP.dconst0)), (.ref ad0)]))
  refine own_abs1 (F := fun x22 => own_Fin p e below s ({ frames := 1, cells := 0, slots := 0, locals := 15 } : Room).cells ({ frames := 1, cells := 0, slots := 0, locals := 15 } : Room).slots (own_Q14 Z ad0 ad2 z3 xb xr wjumps_ad0 wrates_ad0 woffset_ad0 k_wjumps_ad0 k_wrates_ad0 h0 n0) (T21.setTop (mkF m 241 #[.val (.ref ad0), .val (.ref ad0), .val (.ref ad2), .val (.double z3), .second, .val (.double (FP.i2d xb)), .second, .val (.double (FP.i2d xr)), .second, .val (.double woffset_ad0), .second, .val (.double x7), .second, .val (.double FP.dconst0), .second, .val (.int (0 : Int32)), .unset, .unset, .unset, .unset] [(.double x22), (.ref ad0)]))) (e := (FP.dadd x7 FP.dconst0)) fun x22 gx22 => ?_
  have hm22 : Jvm.Free.Fl.Mag64 1102 x22 := by rw [gx22]; have q := (Jvm.Free.Fl.dadd_mag (K := 1100) (hm7.mono (by decide)) ((own_m0).mono (by decide)) (by decide)); exact q
  show own_Fin p e below s _ _ _ (T21.setTop (mkF m 241 #[.val (.ref ad0), .val (.ref ad0), .val (.ref ad2), .val (.double z3), .second, .val (.double (FP.i2d xb)), .second, .val (.double (FP.i2d xr)), .second, .val (.double woffset_ad0), .second, .val (.double x7), .second, .val (.double FP.dconst0), .second, .val (.int (0 : Int32)), .unset, .unset, .unset, .unset] [(.double x22), (.ref ad0)]))
  obtain ⟨T23, h23, X23, e23, W23, st23⟩ := putF X21 hx hZ hown (host := "") (Or.inl (own_w hw 35 rfl)) Via.refl e21 G14 G11 (Or.inl (own_w hw 36 rfl)) (own_w hw 1 rfl) (ty := .double) (by decide) rfl rfl (g := (mkF m 241 #[.val (.ref ad0), .val (.ref ad0), .val (.ref ad2), .val (.double z3), .second, .val (.double (FP.i2d xb)), .second, .val (.double (FP.i2d xr)), .second, .val (.double woffset_ad0), .second, .val (.double x7), .second, .val (.double FP.dconst0), .second, .val (.int (0 : Int32)), .unset, .unset, .unset, .unset] [(.double x22), (.ref ad0)])) rfl rfl (hb hby own_d14_241)
  have N23 := Fr.snoc X23 N10 g_ad0
  have K23 : Keep h0 h23 [ad0] := K10.wr W23 (Or.inl (List.mem_of_getElem? (i := 0) rfl))
  have Z23 : n0 ≤ h23.size := Nat.le_trans Z10 (Keep.of_wr W23).1
  have G24 := (G11.wr W23)
  have G25 := (G12.other W23 (Or.inr (slot_ne (Or.inr (own_w hw 11 rfl)) (Or.inl (own_w hw 36 rfl)) (by decide) (t := (.array .double)) (t' := .double) (by decide) (by decide))))
  have G26 := (G13.other W23 (Or.inr (slot_ne (Or.inr (own_w hw 13 rfl)) (Or.inl (own_w hw 36 rfl)) (by decide) (t := (.array .double)) (t' := .double) (by decide) (by decide))))
  have G27 := (G15.other W23 ne_wjumps_ad0_ad0)
  have G28 := (G16.other W23 ne_wrates_ad0_ad0)
  have G29 := (G17.wr W23)
  have G30 := (G18.other W23 (Or.inl ne_ad2_ad0))
  have G31 := (G19.other W23 (Or.inl ne_ad2_ad0))
  have G32 := (G20.other W23 (Or.inr (slot_ne (Or.inl (own_w hw 38 rfl)) (Or.inl (own_w hw 36 rfl)) (by decide) (t := .int) (t' := .double) (by decide) (by decide))))
  have G33 := G14.same W23
  refine own_step st23 ?_
  show own_Fin p e below s _ _ _ (T23.setTop (mkF m 244 #[.val (.ref ad0), .val (.ref ad0), .val (.ref ad2), .val (.double z3), .second, .val (.double (FP.i2d xb)), .second, .val (.double (FP.i2d xr)), .second, .val (.double woffset_ad0), .second, .val (.double x7), .second, .val (.double FP.dconst0), .second, .val (.int (0 : Int32)), .unset, .unset, .unset, .unset] []))
  refine own_step (fun _ k => XS.aloadN X23.here hx rfl (hb hby own_d14_244) rfl rfl k) ?_
  exact own_ret X23 hlk (v := some (.ref ad0)) (fun h => by rw [Bd.returns] at h; cases h) (by decide) (by decide) (by show own_Q14 Z ad0 ad2 z3 xb xr wjumps_ad0 wrates_ad0 woffset_ad0 k_wjumps_ad0 k_wrates_ad0 h0 n0 _ T23.heap _; rw [e23]; exact ⟨N23, K23, (.double x22), rfl, G24, G25, G26, G32, G33⟩) (fun fs hr => retOut X23 hx Bd.returns rfl (Or.inr (Or.inr (Or.inr (Or.inr ⟨rfl, rfl, rfl⟩)))) (hb hby own_d14_245) hr)

theorem own_pd3 : parseMethodDescriptor "(Lcom/example/tandem/tandem/analysis/PseudoAffine;Lcom/example/tandem/tandem/model/TokenBucket;D)Lcom/example/tandem/tandem/analysis/PseudoAffine;" = some ⟨[(.object "com/example/tandem/tandem/analysis/PseudoAffine"), (.object "com/example/tandem/tandem/model/TokenBucket"), .double], some (.object "com/example/tandem/tandem/analysis/PseudoAffine")⟩ := by decide +kernel
abbrev own_y5 : MethodName := (⟨"com/example/tandem/tandem/analysis/PseudoAffine", "leaveOver", "(Lcom/example/tandem/tandem/analysis/PseudoAffine;Lcom/example/tandem/tandem/model/TokenBucket;D)Lcom/example/tandem/tandem/analysis/PseudoAffine;"⟩ : MethodName)
theorem own_d15_0 : decode prog_42_method_5_code 0 = .ok (.aload_n 0, 1) := by decide +kernel
theorem own_d15_1 : decode prog_42_method_5_code 1 = .ok (.aload_n 0, 1) := by decide +kernel
theorem own_d15_2 : decode prog_42_method_5_code 2 = .ok (.aload_n 1, 1) := by decide +kernel
theorem own_d15_3 : decode prog_42_method_5_code 3 = .ok (.dload_n 2, 1) := by decide +kernel
theorem own_d15_4 : decode prog_42_method_5_code 4 = .ok (.invokevirtual 39, 3) := by decide +kernel
theorem own_d15_7 : decode prog_42_method_5_code 7 = .ok (.areturn, 1) := by decide +kernel
theorem own_ef15 (m : MethodId) (ad0 : Addr) (ad1 : Addr) (z2 : UInt64) : entryFrame m #[(.ref ad0), (.ref ad1), (.double z2)] 4 = mkF m 0 #[.val (.ref ad0), .val (.ref ad1), .val (.double z2), .second] [] := by first | (simp [entryFrame, mkF, argsToLocals, Value.category]; done) | rfl
def own_Q15 (Z : State) (ad0 : Addr) (ad1 : Addr) (z2 : UInt64) (xb : Int32) (xr : Int32) (wjumps_ad0 : Addr) (wrates_ad0 : Addr) (woffset_ad0 : UInt64) (k_wjumps_ad0 : ClassId) (k_wrates_ad0 : ClassId) (h0 : Heap) (n0 : Nat) (v : Option Value) (h : Heap) (L : List Loc) : Prop := Fr n0 L ∧ Keep h0 h [ad0] ∧ ∃ (uo0 : Value), v = some (.ref ad0) ∧ Exa Z h ad0 "com/example/tandem/tandem/analysis/PseudoAffine" ∧ Fld Z h ad0 "com/example/tandem/tandem/analysis/PseudoAffine" "jumps" "[D" (.ref wjumps_ad0) ∧ Fld Z h ad0 "com/example/tandem/tandem/analysis/PseudoAffine" "rates" "[D" (.ref wrates_ad0) ∧ Fld Z h ad0 "com/example/tandem/tandem/analysis/PseudoAffine" "pieces" "I" (.int (0 : Int32)) ∧ Fld Z h ad0 "com/example/tandem/tandem/analysis/PseudoAffine" "offset" "D" uo0
set_option maxRecDepth 65536 in
set_option maxHeartbeats 40000000 in
theorem own_rm15 (l : Launch) (Z : State) (a0 : Array Value) (hw : ∀ d ∈ tables_1, d.before a0 Z = true) (ws : List Jvm.Cond) (ad0 : Addr) (ad1 : Addr) (z2 : UInt64) (xb : Int32) (xr : Int32) (wjumps_ad0 : Addr) (wrates_ad0 : Addr) (woffset_ad0 : UInt64) (k_wjumps_ad0 : ClassId) (k_wrates_ad0 : ClassId) (h0 : Heap) (n0 : Nat) (Z0 : n0 ≤ h0.size) (hm_z2 : Jvm.Free.Fl.Mag64 1056 z2) (E_ad0 : Exa Z h0 ad0 "com/example/tandem/tandem/analysis/PseudoAffine") (F_jumps_ad0 : Fld Z h0 ad0 "com/example/tandem/tandem/analysis/PseudoAffine" "jumps" "[D" (.ref wjumps_ad0)) (F_rates_ad0 : Fld Z h0 ad0 "com/example/tandem/tandem/analysis/PseudoAffine" "rates" "[D" (.ref wrates_ad0)) (hm_woffset_ad0 : Jvm.Free.Fl.Mag64 1100 woffset_ad0) (F_offset_ad0 : Fld Z h0 ad0 "com/example/tandem/tandem/analysis/PseudoAffine" "offset" "D" (.double woffset_ad0)) (F_pieces_ad0 : Fld Z h0 ad0 "com/example/tandem/tandem/analysis/PseudoAffine" "pieces" "I" (.int (0 : Int32))) (A_wjumps_ad0 : Arv Z h0 wjumps_ad0 k_wjumps_ad0 .double (4 : Int32) [(.double (0 : UInt64)), (.double (0 : UInt64))] (.double (0 : UInt64))) (A_wrates_ad0 : Arv Z h0 wrates_ad0 k_wrates_ad0 .double (4 : Int32) [(.double (0 : UInt64)), (.double (0 : UInt64))] (.double (0 : UInt64))) (E_ad1 : Exa Z h0 ad1 "com/example/tandem/tandem/model/TokenBucket") (F_burst_ad1 : Fld Z h0 ad1 "com/example/tandem/tandem/model/TokenBucket" "burst" "D" (.double (FP.i2d xb))) (F_rate_ad1 : Fld Z h0 ad1 "com/example/tandem/tandem/model/TokenBucket" "rate" "D" (.double (FP.i2d xr))) (g_ad0 : n0 ≤ ad0) (ne_wjumps_ad0_ad0 : wjumps_ad0 ≠ ad0) (ne_wrates_ad0_ad0 : wrates_ad0 ≠ ad0) (ne_ad1_ad0 : ad1 ≠ ad0) :
    MetFree l (⟨"com/example/tandem/tandem/analysis/PseudoAffine", "leaveOver", "(Lcom/example/tandem/tandem/model/TokenBucket;D)Lcom/example/tandem/tandem/analysis/PseudoAffine;"⟩ : MethodName) (head1 (Jvm.Cond.code (⟨"com/example/tandem/tandem/analysis/PseudoAffine", "leaveOver", "(Lcom/example/tandem/tandem/model/TokenBucket;D)Lcom/example/tandem/tandem/analysis/PseudoAffine;"⟩ : MethodName) prog_42_method_5_code 4 (some (.object "com/example/tandem/tandem/analysis/PseudoAffine")) :: ws) ({ frames := 2, cells := 0, slots := 0, locals := 46 } : Room)) (fun a U => a = #[(.ref ad0), (.ref ad1), (.double z2)] ∧ Z.Warmed39 U.vm ∧ U.heap = h0) (fun _ _ _ _ _ => True) (fun _ U o U' => ∃ v L, o = .returned v ∧ own_Q15 Z ad0 ad1 z2 xb xr wjumps_ad0 wrates_ad0 woffset_ad0 k_wjumps_ad0 k_wrates_ad0 h0 n0 v U'.heap L ∧ FrameEnd U o U' L ({ frames := 2, cells := 0, slots := 0, locals := 46 } : Room).cells ({ frames := 2, cells := 0, slots := 0, locals := 46 } : Room).slots) := by
  refine MetFree.of_bodySF (plainFor_of_name own_pn0) hisR ?_
  intro p e s m args below meth c s₁ Bd hml0 hP hK
  obtain ⟨rfl, hZ, hh⟩ := hP
  have hx := Bd.exec
  have hby := Bd.bytes
  have hlk := Bd.notSynchronized
  have hml : c.maxLocals = 4 := hml0
  have hown : s.vm.findClass "com/example/tandem/tandem/analysis/PseudoAffine" = some m.cls := findClass_of_methodNamed Bd.named
  have hnm := (name_of_methodNamed Bd.named Bd.method).1
  have X0 : Stand p l e ({ frames := 2, cells := 0, slots := 0, locals := 46 } : Room) s m #[(.ref ad0), (.ref ad1), (.double z2)] below meth c s₁ [] 0 0 := Stand.of_body Bd
  have e0 : s₁.heap = h0 := by rw [← hh, Bd.state]; rfl
  have N0 := Fr.nil n0
  have KR : Keep h0 h0 [ad0] := Keep.refl _ _
  show own_Fin p e below s ({ frames := 2, cells := 0, slots := 0, locals := 46 } : Room).cells ({ frames := 2, cells := 0, slots := 0, locals := 46 } : Room).slots (own_Q15 Z ad0 ad1 z2 xb xr wjumps_ad0 wrates_ad0 woffset_ad0 k_wjumps_ad0 k_wrates_ad0 h0 n0) (s₁.setTop (entryFrame m #[(.ref ad0), (.ref ad1), (.double z2)] 4))
  refine own_cast (own_ef15 m ad0 ad1 z2) ?_
  refine own_step (fun _ k => XS.aloadN X0.here hx rfl (hb hby own_d15_0) rfl rfl k) ?_
  refine own_step (fun _ k => XS.aloadN X0.here hx rfl (hb hby own_d15_1) rfl rfl k) ?_
  refine own_step (fun _ k => XS.aloadN X0.here hx rfl (hb hby own_d15_2) rfl rfl k) ?_
  refine own_step (fun _ k => XS.dloadN X0.here hx rfl (hb hby own_d15_3) rfl k) ?_
  show own_Fin p e below s _ _ _ (s₁.setTop (mkF m 4 #[.val (.ref ad0), .val (.ref ad1), .val (.double z2), .second] [(.double z2), (.ref ad1), (.ref ad0), (.ref ad0)]))
  obtain ⟨cq1, kq1, q1a, q1b, q1c⟩ := isOf hZ e0 E_ad0
  obtain ⟨_, _, ⟨T1, L1, k1, n1⟩, -, X1, ⟨Lc1, hQ1, l1, y1, z1⟩, st1⟩ := X0.virtualBack hx (y := own_y5) (z := own_y5) hown (mvT hZ (own_w hw 110 rfl)) (mvT hZ (own_w hw 111 rfl)) (notFace_of_selects (args := #[]) (mvT hZ (own_w hw 113 rfl))) (mvT hZ (own_w hw 113 rfl)) (mvT hZ (own_w hw 112 rfl)) (by decide) (backOf (W := 0) (own_rm14 l Z a0 hw [] ad0 ad1 z2 xb xr wjumps_ad0 wrates_ad0 woffset_ad0 k_wjumps_ad0 k_wrates_ad0 h0 n0 Z0 (show Jvm.Free.Fl.Mag64 1056 z2 from (hm_z2.mono (by decide))) E_ad0 F_jumps_ad0 F_rates_ad0 (show Jvm.Free.Fl.Mag64 1100 woffset_ad0 from (hm_woffset_ad0.mono (by decide))) F_offset_ad0 F_pieces_ad0 A_wjumps_ad0 A_wrates_ad0 E_ad1 F_burst_ad1 F_rate_ad1 g_ad0 ne_wjumps_ad0_ad0 ne_wrates_ad0_ad0 ne_ad1_ad0) hZ (own_w hw 114 rfl) (own_w hw 2 rfl) (by decide) (by decide)) q1a q1c (g := (mkF m 4 #[.val (.ref ad0), .val (.ref ad1), .val (.double z2), .second] [(.double z2), (.ref ad1), (.ref ad0), (.ref ad0)])) rfl (by rw [hml]; rfl) (Steps.refl _) (argsL := [(.ref ad0), (.ref ad1), (.double z2)]) (rest := []) (lenOf own_pd3 rfl) rfl (by show 2 * 0 + _ ≤ _; exact Nat.le_of_eq rfl) (hb hby own_d15_4) (fun _ _ => ⟨rfl, e0, (by decide : 0 + 0 ≤ _), (by decide : 0 + 0 ≤ _)⟩)
  dsimp only [Pt.U, Pt.locs, Pt.cells, Pt.slots] at X1 l1 y1 z1 st1 hQ1
  subst l1 y1 z1
  obtain ⟨N1q, K1q, uo0_1, rfl, G2, G3, G4, G5, G6⟩ := hQ1
  have N1 := Fr.app N0 N1q
  have K1 : Keep h0 T1.heap [ad0] := KR.trans K1q (allS (P := fun x => x ∈ [ad0] ∨ h0.size ≤ x) (Or.inl (List.mem_of_getElem? (i := 0) rfl)) all0)
  have Z1 : n0 ≤ T1.heap.size := Nat.le_trans Z0 K1q.1
  have G7 := (E_ad0.keep K1q)
  have G8 := (A_wjumps_ad0.keep K1q (ninS ne_wjumps_ad0_ad0 nin0))
  have G9 := (A_wrates_ad0.keep K1q (ninS ne_wrates_ad0_ad0 nin0))
  have G10 := (E_ad1.keep K1q)
  have G11 := (F_burst_ad1.keep K1q (ninS ne_ad1_ad0 nin0))
  have G12 := (F_rate_ad1.keep K1q (ninS ne_ad1_ad0 nin0))
  refine own_step (fun _ k => st1.trans k) ?_
  show own_Fin p e below s _ _ _ (T1.setTop (mkF m 7 #[.val (.ref ad0), .val (.ref ad1), .val (.double z2), .second] [(.ref ad0)]))
  exact own_ret X1 hlk (v := some (.ref ad0)) (fun h => by rw [Bd.returns] at h; cases h) (by decide) (by decide) (by show own_Q15 Z ad0 ad1 z2 xb xr wjumps_ad0 wrates_ad0 woffset_ad0 k_wjumps_ad0 k_wrates_ad0 h0 n0 _ T1.heap _; exact ⟨N1, K1, uo0_1, rfl, G2, G3, G4, G5, G6⟩) (fun fs hr => retOut X1 hx Bd.returns rfl (Or.inr (Or.inr (Or.inr (Or.inr ⟨rfl, rfl, rfl⟩)))) (hb hby own_d15_7) hr)

theorem own_pd4 : parseMethodDescriptor "()Lcom/example/tandem/tandem/analysis/PseudoAffine;" = some ⟨[], some (.object "com/example/tandem/tandem/analysis/PseudoAffine")⟩ := by decide +kernel
abbrev own_y6 : MethodName := (⟨"com/example/tandem/tandem/analysis/PseudoAffine", "guaranteeNothing", "()Lcom/example/tandem/tandem/analysis/PseudoAffine;"⟩ : MethodName)
theorem own_d16_0 : decode prog_42_method_6_code 0 = .ok (.aload_n 2, 1) := by decide +kernel
theorem own_d16_1 : decode prog_42_method_6_code 1 = .ok (.invokevirtual 43, 3) := by decide +kernel
theorem own_d16_4 : decode prog_42_method_6_code 4 = .ok (.dstore 5, 2) := by decide +kernel
theorem own_d16_6 : decode prog_42_method_6_code 6 = .ok (.aload_n 2, 1) := by decide +kernel
theorem own_d16_7 : decode prog_42_method_6_code 7 = .ok (.invokevirtual 48, 3) := by decide +kernel
theorem own_d16_10 : decode prog_42_method_6_code 10 = .ok (.dstore 7, 2) := by decide +kernel
theorem own_d16_12 : decode prog_42_method_6_code 12 = .ok (.aload_n 1, 1) := by decide +kernel
theorem own_d16_13 : decode prog_42_method_6_code 13 = .ok (.getfield 16, 3) := by decide +kernel
theorem own_d16_16 : decode prog_42_method_6_code 16 = .ok (.dstore 9, 2) := by decide +kernel
theorem own_d16_18 : decode prog_42_method_6_code 18 = .ok (.dload 9, 2) := by decide +kernel
theorem own_d16_20 : decode prog_42_method_6_code 20 = .ok (.ldc2_w 51, 3) := by decide +kernel
theorem own_d16_23 : decode prog_42_method_6_code 23 = .ok (.dcmp .l, 1) := by decide +kernel
theorem own_d16_24 : decode prog_42_method_6_code 24 = .ok (.ifCond .eq 12, 3) := by decide +kernel
theorem own_d16_27 : decode prog_42_method_6_code 27 = .ok (.dload 5, 2) := by decide +kernel
theorem own_d16_29 : decode prog_42_method_6_code 29 = .ok (.ldc2_w 51, 3) := by decide +kernel
theorem own_d16_32 : decode prog_42_method_6_code 32 = .ok (.dcmp .l, 1) := by decide +kernel
theorem own_d16_33 : decode prog_42_method_6_code 33 = .ok (.ifCond .ne 8, 3) := by decide +kernel
theorem own_d16_41 : decode prog_42_method_6_code 41 = .ok (.dload_n 3, 1) := by decide +kernel
theorem own_d16_42 : decode prog_42_method_6_code 42 = .ok (.dload 9, 2) := by decide +kernel
theorem own_d16_44 : decode prog_42_method_6_code 44 = .ok (.invokestatic 57, 3) := by decide +kernel
theorem own_d16_47 : decode prog_42_method_6_code 47 = .ok (.dstore 11, 2) := by decide +kernel
theorem own_d16_49 : decode prog_42_method_6_code 49 = .ok (.dconst 0, 1) := by decide +kernel
theorem own_d16_50 : decode prog_42_method_6_code 50 = .ok (.dstore 13, 2) := by decide +kernel
theorem own_d16_52 : decode prog_42_method_6_code 52 = .ok (.iconst 0, 1) := by decide +kernel
theorem own_d16_53 : decode prog_42_method_6_code 53 = .ok (.istore 15, 2) := by decide +kernel
theorem own_d16_55 : decode prog_42_method_6_code 55 = .ok (.iload 15, 2) := by decide +kernel
theorem own_d16_57 : decode prog_42_method_6_code 57 = .ok (.aload_n 1, 1) := by decide +kernel
theorem own_d16_58 : decode prog_42_method_6_code 58 = .ok (.getfield 20, 3) := by decide +kernel
theorem own_d16_61 : decode prog_42_method_6_code 61 = .ok (.if_icmp .ge 119, 3) := by decide +kernel
theorem own_d16_64 : decode prog_42_method_6_code 64 = .ok (.aload_n 1, 1) := by decide +kernel
theorem own_d16_65 : decode prog_42_method_6_code 65 = .ok (.getfield 13, 3) := by decide +kernel
theorem own_d16_68 : decode prog_42_method_6_code 68 = .ok (.iload 15, 2) := by decide +kernel
theorem own_d16_70 : decode prog_42_method_6_code 70 = .ok (.daload, 1) := by decide +kernel
theorem own_d16_71 : decode prog_42_method_6_code 71 = .ok (.dload 7, 2) := by decide +kernel
theorem own_d16_73 : decode prog_42_method_6_code 73 = .ok (.dsub, 1) := by decide +kernel
theorem own_d16_74 : decode prog_42_method_6_code 74 = .ok (.dstore 16, 2) := by decide +kernel
theorem own_d16_76 : decode prog_42_method_6_code 76 = .ok (.aload_n 1, 1) := by decide +kernel
theorem own_d16_77 : decode prog_42_method_6_code 77 = .ok (.getfield 7, 3) := by decide +kernel
theorem own_d16_80 : decode prog_42_method_6_code 80 = .ok (.iload 15, 2) := by decide +kernel
theorem own_d16_82 : decode prog_42_method_6_code 82 = .ok (.daload, 1) := by decide +kernel
theorem own_d16_83 : decode prog_42_method_6_code 83 = .ok (.aload_n 1, 1) := by decide +kernel
theorem own_d16_84 : decode prog_42_method_6_code 84 = .ok (.getfield 13, 3) := by decide +kernel
theorem own_d16_87 : decode prog_42_method_6_code 87 = .ok (.iload 15, 2) := by decide +kernel
theorem own_d16_89 : decode prog_42_method_6_code 89 = .ok (.daload, 1) := by decide +kernel
theorem own_d16_90 : decode prog_42_method_6_code 90 = .ok (.dload 11, 2) := by decide +kernel
theorem own_d16_92 : decode prog_42_method_6_code 92 = .ok (.dload 9, 2) := by decide +kernel
theorem own_d16_94 : decode prog_42_method_6_code 94 = .ok (.dsub, 1) := by decide +kernel
theorem own_d16_95 : decode prog_42_method_6_code 95 = .ok (.dmul, 1) := by decide +kernel
theorem own_d16_96 : decode prog_42_method_6_code 96 = .ok (.dadd, 1) := by decide +kernel
theorem own_d16_97 : decode prog_42_method_6_code 97 = .ok (.dload 5, 2) := by decide +kernel
theorem own_d16_99 : decode prog_42_method_6_code 99 = .ok (.dsub, 1) := by decide +kernel
theorem own_d16_100 : decode prog_42_method_6_code 100 = .ok (.dload 7, 2) := by decide +kernel
theorem own_d16_102 : decode prog_42_method_6_code 102 = .ok (.dload 11, 2) := by decide +kernel
theorem own_d16_104 : decode prog_42_method_6_code 104 = .ok (.dload_n 3, 1) := by decide +kernel
theorem own_d16_105 : decode prog_42_method_6_code 105 = .ok (.dsub, 1) := by decide +kernel
theorem own_d16_106 : decode prog_42_method_6_code 106 = .ok (.dmul, 1) := by decide +kernel
theorem own_d16_107 : decode prog_42_method_6_code 107 = .ok (.dsub, 1) := by decide +kernel
theorem own_d16_108 : decode prog_42_method_6_code 108 = .ok (.dstore 18, 2) := by decide +kernel
theorem own_d16_110 : decode prog_42_method_6_code 110 = .ok (.dload 16, 2) := by decide +kernel
theorem own_d16_112 : decode prog_42_method_6_code 112 = .ok (.dconst 0, 1) := by decide +kernel
theorem own_d16_113 : decode prog_42_method_6_code 113 = .ok (.dcmp .g, 1) := by decide +kernel
theorem own_d16_114 : decode prog_42_method_6_code 114 = .ok (.ifCond .lt 17, 3) := by decide +kernel
theorem own_d16_117 : decode prog_42_method_6_code 117 = .ok (.dload 16, 2) := by decide +kernel
theorem own_d16_119 : decode prog_42_method_6_code 119 = .ok (.dconst 0, 1) := by decide +kernel
theorem own_d16_120 : decode prog_42_method_6_code 120 = .ok (.dcmp .l, 1) := by decide +kernel
theorem own_d16_121 : decode prog_42_method_6_code 121 = .ok (.ifCond .ne 15, 3) := by decide +kernel
theorem own_d16_124 : decode prog_42_method_6_code 124 = .ok (.dload 18, 2) := by decide +kernel
theorem own_d16_126 : decode prog_42_method_6_code 126 = .ok (.dconst 0, 1) := by decide +kernel
theorem own_d16_127 : decode prog_42_method_6_code 127 = .ok (.dcmp .g, 1) := by decide +kernel
theorem own_d16_128 : decode prog_42_method_6_code 128 = .ok (.ifCond .ge 8, 3) := by decide +kernel
theorem own_d16_131 : decode prog_42_method_6_code 131 = .ok (.aload_n 0, 1) := by decide +kernel
theorem own_d16_132 : decode prog_42_method_6_code 132 = .ok (.invokevirtual 53, 3) := by decide +kernel
theorem own_d16_135 : decode prog_42_method_6_code 135 = .ok (.areturn, 1) := by decide +kernel
theorem own_d16_136 : decode prog_42_method_6_code 136 = .ok (.dload 18, 2) := by decide +kernel
theorem own_d16_138 : decode prog_42_method_6_code 138 = .ok (.dconst 0, 1) := by decide +kernel
theorem own_d16_139 : decode prog_42_method_6_code 139 = .ok (.dcmp .g, 1) := by decide +kernel
theorem own_d16_140 : decode prog_42_method_6_code 140 = .ok (.ifCond .ge 16, 3) := by decide +kernel
theorem own_d16_143 : decode prog_42_method_6_code 143 = .ok (.dload 13, 2) := by decide +kernel
theorem own_d16_145 : decode prog_42_method_6_code 145 = .ok (.dload 18, 2) := by decide +kernel
theorem own_d16_147 : decode prog_42_method_6_code 147 = .ok (.dneg, 1) := by decide +kernel
theorem own_d16_148 : decode prog_42_method_6_code 148 = .ok (.dload 16, 2) := by decide +kernel
theorem own_d16_150 : decode prog_42_method_6_code 150 = .ok (.ddiv, 1) := by decide +kernel
theorem own_d16_151 : decode prog_42_method_6_code 151 = .ok (.invokestatic 57, 3) := by decide +kernel
theorem own_d16_154 : decode prog_42_method_6_code 154 = .ok (.dstore 13, 2) := by decide +kernel
theorem own_d16_156 : decode prog_42_method_6_code 156 = .ok (.aload_n 0, 1) := by decide +kernel
theorem own_d16_157 : decode prog_42_method_6_code 157 = .ok (.getfield 7, 3) := by decide +kernel
theorem own_d16_160 : decode prog_42_method_6_code 160 = .ok (.iload 15, 2) := by decide +kernel
theorem own_d16_162 : decode prog_42_method_6_code 162 = .ok (.dload 18, 2) := by decide +kernel
theorem own_d16_164 : decode prog_42_method_6_code 164 = .ok (.dastore, 1) := by decide +kernel
theorem own_d16_165 : decode prog_42_method_6_code 165 = .ok (.aload_n 0, 1) := by decide +kernel
theorem own_d16_166 : decode prog_42_method_6_code 166 = .ok (.getfield 13, 3) := by decide +kernel
theorem own_d16_169 : decode prog_42_method_6_code 169 = .ok (.iload 15, 2) := by decide +kernel
theorem own_d16_171 : decode prog_42_method_6_code 171 = .ok (.dload 16, 2) := by decide +kernel
theorem own_d16_173 : decode prog_42_method_6_code 173 = .ok (.dastore, 1) := by decide +kernel
theorem own_d16_174 : decode prog_42_method_6_code 174 = .ok (.iinc 15 1, 3) := by decide +kernel
theorem own_d16_177 : decode prog_42_method_6_code 177 = .ok (.goto (-122), 3) := by decide +kernel
theorem own_d16_180 : decode prog_42_method_6_code 180 = .ok (.aload_n 0, 1) := by decide +kernel
theorem own_d16_181 : decode prog_42_method_6_code 181 = .ok (.aload_n 1, 1) := by decide +kernel
theorem own_d16_182 : decode prog_42_method_6_code 182 = .ok (.getfield 20, 3) := by decide +kernel
theorem own_d16_185 : decode prog_42_method_6_code 185 = .ok (.putfield 20, 3) := by decide +kernel
theorem own_d16_188 : decode prog_42_method_6_code 188 = .ok (.iconst 0, 1) := by decide +kernel
theorem own_d16_189 : decode prog_42_method_6_code 189 = .ok (.istore 15, 2) := by decide +kernel
theorem own_d16_191 : decode prog_42_method_6_code 191 = .ok (.iload 15, 2) := by decide +kernel
theorem own_d16_193 : decode prog_42_method_6_code 193 = .ok (.aload_n 0, 1) := by decide +kernel
theorem own_d16_194 : decode prog_42_method_6_code 194 = .ok (.getfield 20, 3) := by decide +kernel
theorem own_d16_197 : decode prog_42_method_6_code 197 = .ok (.if_icmp .ge 38, 3) := by decide +kernel
theorem own_d16_200 : decode prog_42_method_6_code 200 = .ok (.aload_n 0, 1) := by decide +kernel
theorem own_d16_201 : decode prog_42_method_6_code 201 = .ok (.getfield 7, 3) := by decide +kernel
theorem own_d16_204 : decode prog_42_method_6_code 204 = .ok (.iload 15, 2) := by decide +kernel
theorem own_d16_206 : decode prog_42_method_6_code 206 = .ok (.dconst 0, 1) := by decide +kernel
theorem own_d16_207 : decode prog_42_method_6_code 207 = .ok (.aload_n 0, 1) := by decide +kernel
theorem own_d16_208 : decode prog_42_method_6_code 208 = .ok (.getfield 7, 3) := by decide +kernel
theorem own_d16_211 : decode prog_42_method_6_code 211 = .ok (.iload 15, 2) := by decide +kernel
theorem own_d16_213 : decode prog_42_method_6_code 213 = .ok (.daload, 1) := by decide +kernel
theorem own_d16_214 : decode prog_42_method_6_code 214 = .ok (.aload_n 0, 1) := by decide +kernel
theorem own_d16_215 : decode prog_42_method_6_code 215 = .ok (.getfield 13, 3) := by decide +kernel
theorem own_d16_218 : decode prog_42_method_6_code 218 = .ok (.iload 15, 2) := by decide +kernel
theorem own_d16_220 : decode prog_42_method_6_code 220 = .ok (.daload, 1) := by decide +kernel
theorem own_d16_221 : decode prog_42_method_6_code 221 = .ok (.dload 13, 2) := by decide +kernel
theorem own_d16_223 : decode prog_42_method_6_code 223 = .ok (.dmul, 1) := by decide +kernel
theorem own_d16_224 : decode prog_42_method_6_code 224 = .ok (.dadd, 1) := by decide +kernel
theorem own_d16_225 : decode prog_42_method_6_code 225 = .ok (.invokestatic 57, 3) := by decide +kernel
theorem own_d16_228 : decode prog_42_method_6_code 228 = .ok (.dastore, 1) := by decide +kernel
theorem own_d16_229 : decode prog_42_method_6_code 229 = .ok (.iinc 15 1, 3) := by decide +kernel
theorem own_d16_232 : decode prog_42_method_6_code 232 = .ok (.goto (-41), 3) := by decide +kernel
theorem own_d16_235 : decode prog_42_method_6_code 235 = .ok (.aload_n 0, 1) := by decide +kernel
theorem own_d16_236 : decode prog_42_method_6_code 236 = .ok (.dload 11, 2) := by decide +kernel
theorem own_d16_238 : decode prog_42_method_6_code 238 = .ok (.dload 13, 2) := by decide +kernel
theorem own_d16_240 : decode prog_42_method_6_code 240 = .ok (.dadd, 1) := by decide +kernel
theorem own_d16_241 : decode prog_42_method_6_code 241 = .ok (.putfield 16, 3) := by decide +kernel
theorem own_d16_244 : decode prog_42_method_6_code 244 = .ok (.aload_n 0, 1) := by decide +kernel
theorem own_d16_245 : decode prog_42_method_6_code 245 = .ok (.areturn, 1) := by decide +kernel
theorem own_ef16 (m : MethodId) (ad0 : Addr) (ad2 : Addr) (z3 : UInt64) : entryFrame m #[(.ref ad0), (.ref ad0), (.ref ad2), (.double z3)] 20 = mkF m 0 #[.val (.ref ad0), .val (.ref ad0), .val (.ref ad2), .val (.double z3), .second, .unset, .unset, .unset, .unset, .unset, .unset, .unset, .unset, .unset, .unset, .unset, .unset, .unset, .unset, .unset] [] := by first | (simp [entryFrame, mkF, argsToLocals, Value.category]; done) | rfl
def own_Q16 (Z : State) (ad0 : Addr) (ad2 : Addr) (z3 : UInt64) (ra0 : Int32) (xb : Int32) (xr : Int32) (wjumps_ad0 : Addr) (wrates_ad0 : Addr) (woffset_ad0 : UInt64) (k_wjumps_ad0 : ClassId) (k_wrates_ad0 : ClassId) (h0 : Heap) (n0 : Nat) (v : Option Value) (h : Heap) (L : List Loc) : Prop := Fr n0 L ∧ Keep h0 h [wjumps_ad0, wrates_ad0, ad0] ∧ ∃ (uo0 : Value) (uo1 : Value), v = some (.ref ad0) ∧ Exa Z h ad0 "com/example/tandem/tandem/analysis/PseudoAffine" ∧ Fld Z h ad0 "com/example/tandem/tandem/analysis/PseudoAffine" "jumps" "[D" (.ref wjumps_ad0) ∧ Fld Z h ad0 "com/example/tandem/tandem/analysis/PseudoAffine" "rates" "[D" (.ref wrates_ad0) ∧ Fld Z h ad0 "com/example/tandem/tandem/analysis/PseudoAffine" "pieces" "I" uo0 ∧ Fld Z h ad0 "com/example/tandem/tandem/analysis/PseudoAffine" "offset" "D" uo1
set_option maxRecDepth 65536 in
set_option maxHeartbeats 40000000 in
theorem own_rm16 (l : Launch) (Z : State) (a0 : Array Value) (hw : ∀ d ∈ tables_1, d.before a0 Z = true) (ws : List Jvm.Cond) (ad0 : Addr) (ad2 : Addr) (z3 : UInt64) (ra0 : Int32) (xb : Int32) (xr : Int32) (wjumps_ad0 : Addr) (wrates_ad0 : Addr) (woffset_ad0 : UInt64) (k_wjumps_ad0 : ClassId) (k_wrates_ad0 : ClassId) (h0 : Heap) (n0 : Nat) (Z0 : n0 ≤ h0.size) (hm_z3 : Jvm.Free.Fl.Mag64 1056 z3) (E_ad0 : Exa Z h0 ad0 "com/example/tandem/tandem/analysis/PseudoAffine") (F_jumps_ad0 : Fld Z h0 ad0 "com/example/tandem/tandem/analysis/PseudoAffine" "jumps" "[D" (.ref wjumps_ad0)) (F_rates_ad0 : Fld Z h0 ad0 "com/example/tandem/tandem/analysis/PseudoAffine" "rates" "[D" (.ref wrates_ad0)) (hm_woffset_ad0 : Jvm.Free.Fl.Mag64 1100 woffset_ad0) (F_offset_ad0 : Fld Z h0 ad0 "com/example/tandem/tandem/analysis/PseudoAffine" "offset" "D" (.double woffset_ad0)) (F_pieces_ad0 : Fld Z h0 ad0 "com/example/tandem/tandem/analysis/PseudoAffine" "pieces" "I" (.int (1 : Int32))) (A_wjumps_ad0 : Arv Z h0 wjumps_ad0 k_wjumps_ad0 .double (4 : Int32) [(.double FP.dconst0), (.double (0 : UInt64))] (.double (0 : UInt64))) (A_wrates_ad0 : Arv Z h0 wrates_ad0 k_wrates_ad0 .double (4 : Int32) [(.double (FP.i2d ra0)), (.double (0 : UInt64))] (.double (0 : UInt64))) (E_ad2 : Exa Z h0 ad2 "com/example/tandem/tandem/model/TokenBucket") (F_burst_ad2 : Fld Z h0 ad2 "com/example/tandem/tandem/model/TokenBucket" "burst" "D" (.double (FP.i2d xb))) (F_rate_ad2 : Fld Z h0 ad2 "com/example/tandem/tandem/model/TokenBucket" "rate" "D" (.double (FP.i2d xr))) (g_wjumps_ad0 : n0 ≤ wjumps_ad0) (ne_ad0_wjumps_ad0 : ad0 ≠ wjumps_ad0) (ne_wrates_ad0_wjumps_ad0 : wrates_ad0 ≠ wjumps_ad0) (ne_ad2_wjumps_ad0 : ad2 ≠ wjumps_ad0) (g_wrates_ad0 : n0 ≤ wrates_ad0) (ne_ad0_wrates_ad0 : ad0 ≠ wrates_ad0) (ne_ad2_wrates_ad0 : ad2 ≠ wrates_ad0) (ne_wjumps_ad0_wrates_ad0 : wjumps_ad0 ≠ wrates_ad0) (g_ad0 : n0 ≤ ad0) (ne_ad2_ad0 : ad2 ≠ ad0) (ne_wjumps_ad0_ad0 : wjumps_ad0 ≠ ad0) (ne_wrates_ad0_ad0 : wrates_ad0 ≠ ad0) :
    MetFree l (⟨"com/example/tandem/tandem/analysis/PseudoAffine", "leaveOver", "(Lcom/example/tandem/tandem/analysis/PseudoAffine;Lcom/example/tandem/tandem/model/TokenBucket;D)Lcom/example/tandem/tandem/analysis/PseudoAffine;"⟩ : MethodName) (head1 (Jvm.Cond.code (⟨"com/example/tandem/tandem/analysis/PseudoAffine", "leaveOver", "(Lcom/example/tandem/tandem/analysis/PseudoAffine;Lcom/example/tandem/tandem/model/TokenBucket;D)Lcom/example/tandem/tandem/analysis/PseudoAffine;"⟩ : MethodName) prog_42_method_6_code 20 (some (.object "com/example/tandem/tandem/analysis/PseudoAffine")) :: ws) ({ frames := 1, cells := 0, slots := 0, locals := 17 } : Room)) (fun a U => a = #[(.ref ad0), (.ref ad0), (.ref ad2), (.double z3)] ∧ Z.Warmed39 U.vm ∧ U.heap = h0) (fun _ _ _ _ _ => True) (fun _ U o U' => ∃ v L, o = .returned v ∧ own_Q16 Z ad0 ad2 z3 ra0 xb xr wjumps_ad0 wrates_ad0 woffset_ad0 k_wjumps_ad0 k_wrates_ad0 h0 n0 v U'.heap L ∧ FrameEnd U o U' L ({ frames := 1, cells := 0, slots := 0, locals := 17 } : Room).cells ({ frames := 1, cells := 0, slots := 0, locals := 17 } : Room).slots) := by
  refine MetFree.of_bodySF (plainFor_of_name own_pn0) hisR ?_
  intro p e s m args below meth c s₁ Bd hml0 hP hK
  obtain ⟨rfl, hZ, hh⟩ := hP
  have hx := Bd.exec
  have hby := Bd.bytes
  have hlk := Bd.notSynchronized
  have hml : c.maxLocals = 20 := hml0
  have hown : s.vm.findClass "com/example/tandem/tandem/analysis/PseudoAffine" = some m.cls := findClass_of_methodNamed Bd.named
  have hnm := (name_of_methodNamed Bd.named Bd.method).1
  have X0 : Stand p l e ({ frames := 1, cells := 0, slots := 0, locals := 17 } : Room) s m #[(.ref ad0), (.ref ad0), (.ref ad2), (.double z3)] below meth c s₁ [] 0 0 := Stand.of_body Bd
  have e0 : s₁.heap = h0 := by rw [← hh, Bd.state]; rfl
  have N0 := Fr.nil n0
  have KR : Keep h0 h0 [wjumps_ad0, wrates_ad0, ad0] := Keep.refl _ _
  show own_Fin p e below s ({ frames := 1, cells := 0, slots := 0, locals := 17 } : Room).cells ({ frames := 1, cells := 0, slots := 0, locals := 17 } : Room).slots (own_Q16 Z ad0 ad2 z3 ra0 xb xr wjumps_ad0 wrates_ad0 woffset_ad0 k_wjumps_ad0 k_wrates_ad0 h0 n0) (s₁.setTop (entryFrame m #[(.ref ad0), (.ref ad0), (.ref ad2), (.double z3)] 20))
  refine own_cast (own_ef16 m ad0 ad2 z3) ?_
  refine own_step (fun _ k => XS.aloadN X0.here hx rfl (hb hby own_d16_0) rfl rfl k) ?_
  obtain ⟨cq1, kq1, q1a, q1b, q1c⟩ := isOf hZ e0 E_ad2
  obtain ⟨_, _, ⟨T1, L1, k1, n1⟩, -, X1, ⟨Lc1, hQ1, l1, y1, z1⟩, st1⟩ := X0.virtualBack hx (y := own_y3) (z := own_y3) hown (mvT hZ (own_w hw 85 rfl)) (mvT hZ (own_w hw 86 rfl)) (notFace_of_selects (args := #[]) (mvT hZ (own_w hw 88 rfl))) (mvT hZ (own_w hw 88 rfl)) (mvT hZ (own_w hw 87 rfl)) (by decide) (backOf (W := 0) (own_rm10 l Z a0 hw [] ad2 ((FP.i2d xb)) h0 n0 Z0 F_burst_ad2) hZ (own_w hw 89 rfl) (own_w hw 41 rfl) (by decide) (by decide)) q1a q1c (g := (mkF m 1 #[.val (.ref ad0), .val (.ref ad0), .val (.ref ad2), .val (.double z3), .second, .unset, .unset, .unset, .unset, .unset, .unset, .unset, .unset, .unset, .unset, .unset, .unset, .unset, .unset, .unset] [(.ref ad2)])) rfl (by rw [hml]; rfl) (Steps.refl _) (argsL := []) (rest := []) (lenOf own_pd1 rfl) rfl (by show 2 * 0 + _ ≤ _; exact Nat.le_of_eq rfl) (hb hby own_d16_1) (fun _ _ => ⟨rfl, e0, (by decide : 0 + 0 ≤ _), (by decide : 0 + 0 ≤ _)⟩)
  dsimp only [Pt.U, Pt.locs, Pt.cells, Pt.slots] at X1 l1 y1 z1 st1 hQ1
  subst l1 y1 z1
  obtain ⟨rfl, N1q, e1⟩ := hQ1
  have N1 := Fr.app N0 N1q
  refine own_step (fun _ k => st1.trans k) ?_
  show own_Fin p e below s _ _ _ (T1.setTop (mkF m 4 #[.val (.ref ad0), .val (.ref ad0), .val (.ref ad2), .val (.double z3), .second, .unset, .unset, .unset, .unset, .unset, .unset, .unset, .unset, .unset, .unset, .unset, .unset, .unset, .unset, .unset] [(.double (FP.i2d xb))]))
  refine own_step (fun _ k => XS.dstore X1.here hx rfl (hb hby own_d16_4) rfl (l' := #[.val (.ref ad0), .val (.ref ad0), .val (.ref ad2), .val (.double z3), .second, .val (.double (FP.i2d xb)), .second, .unset, .unset, .unset, .unset, .unset, .unset, .unset, .unset, .unset, .unset, .unset, .unset, .unset]) rfl k) ?_
  refine own_step (fun _ k => XS.aloadN X1.here hx rfl (hb hby own_d16_6) rfl rfl k) ?_
  obtain ⟨cq2, kq2, q2a, q2b, q2c⟩ := isOf hZ e1 E_ad2
  obtain ⟨_, _, ⟨T2, L2, k2, n2⟩, -, X2, ⟨Lc2, hQ2, l2, y2, z2⟩, st2⟩ := X1.virtualBack hx (y := own_y4) (z := own_y4) hown (mvT hZ (own_w hw 80 rfl)) (mvT hZ (own_w hw 81 rfl)) (notFace_of_selects (args := #[]) (mvT hZ (own_w hw 83 rfl))) (mvT hZ (own_w hw 83 rfl)) (mvT hZ (own_w hw 82 rfl)) (by decide) (backOf (W := 0) (own_rm9 l Z a0 hw [] ad2 ((FP.i2d xr)) h0 n0 Z0 F_rate_ad2) hZ (own_w hw 84 rfl) (own_w hw 41 rfl) (by decide) (by decide)) q2a q2c (g := (mkF m 7 #[.val (.ref ad0), .val (.ref ad0), .val (.ref ad2), .val (.double z3), .second, .val (.double (FP.i2d xb)), .second, .unset, .unset, .unset, .unset, .unset, .unset, .unset, .unset, .unset, .unset, .unset, .unset, .unset] [(.ref ad2)])) rfl (by rw [hml]; rfl) (Steps.refl _) (argsL := []) (rest := []) (lenOf own_pd1 rfl) rfl (by show 2 * 0 + _ ≤ _; exact Nat.le_of_eq rfl) (hb hby own_d16_7) (fun _ _ => ⟨rfl, e1, (by decide : 0 + 0 ≤ _), (by decide : 0 + 0 ≤ _)⟩)
  dsimp only [Pt.U, Pt.locs, Pt.cells, Pt.slots] at X2 l2 y2 z2 st2 hQ2
  subst l2 y2 z2
  obtain ⟨rfl, N2q, e2⟩ := hQ2
  have N2 := Fr.app N1 N2q
  refine own_step (fun _ k => st2.trans k) ?_
  show own_Fin p e below s _ _ _ (T2.setTop (mkF m 10 #[.val (.ref ad0), .val (.ref ad0), .val (.ref ad2), .val (.double z3), .second, .val (.double (FP.i2d xb)), .second, .unset, .unset, .unset, .unset, .unset, .unset, .unset, .unset, .unset, .unset, .unset, .unset, .unset] [(.double (FP.i2d xr))]))
  refine own_step (fun _ k => XS.dstore X2.here hx rfl (hb hby own_d16_10) rfl (l' := #[.val (.ref ad0), .val (.ref ad0), .val (.ref ad2), .val (.double z3), .second, .val (.double (FP.i2d xb)), .second, .val (.double (FP.i2d xr)), .second, .unset, .unset, .unset, .unset, .unset, .unset, .unset, .unset, .unset, .unset, .unset]) rfl k) ?_
  refine own_step (fun _ k => XS.aloadN X2.here hx rfl (hb hby own_d16_12) rfl rfl k) ?_
  obtain ⟨T3, X3, e3, st3⟩ := getF X2 hx hZ hown (host := "") (Or.inl (own_w hw 35 rfl)) Via.refl e2 F_offset_ad0 (g := (mkF m 13 #[.val (.ref ad0), .val (.ref ad0), .val (.ref ad2), .val (.double z3), .second, .val (.double (FP.i2d xb)), .second, .val (.double (FP.i2d xr)), .second, .unset, .unset, .unset, .unset, .unset, .unset, .unset, .unset, .unset, .unset, .unset] [(.ref ad0)])) rfl rfl (hb hby own_d16_13)
  refine own_step st3 ?_
  show own_Fin p e below s _ _ _ (T3.setTop (mkF m 16 #[.val (.ref ad0), .val (.ref ad0), .val (.ref ad2), .val (.double z3), .second, .val (.double (FP.i2d xb)), .second, .val (.double (FP.i2d xr)), .second, .unset, .unset, .unset, .unset, .unset, .unset, .unset, .unset, .unset, .unset, .unset] [(.double woffset_ad0)]))
  refine own_step (fun _ k => XS.dstore X3.here hx rfl (hb hby own_d16_16) rfl (l' := #[.val (.ref ad0), .val (.ref ad0), .val (.ref ad2), .val (.double z3), .second, .val (.double (FP.i2d xb)), .second, .val (.double (FP.i2d xr)), .second, .val (.double woffset_ad0), .second, .unset, .unset, .unset, .unset, .unset, .unset, .unset, .unset, .unset]) rfl k) ?_
  refine own_step (fun _ k => XS.dload X3.here hx rfl (hb hby own_d16_18) rfl k) ?_
  refine own_step (fun _ k => X3.ldc2DoubleC hx hown (mvT hZ (own_w hw 115 rfl)) (g := (mkF m 20 #[.val (.ref ad0), .val (.ref ad0), .val (.ref ad2), .val (.double z3), .second, .val (.double (FP.i2d xb)), .second, .val (.double (FP.i2d xr)), .second, .val (.double woffset_ad0), .second, .unset, .unset, .unset, .unset, .unset, .unset, .unset, .unset, .unset] [(.double woffset_ad0)])) rfl (hb hby own_d16_20) _ k) ?_
  refine own_step (fun _ k => XS.dcmpS X3.here hx rfl (hb hby own_d16_23) rfl rfl k) ?_
  show own_Fin p e below s _ _ _ (T3.setTop (mkF m 24 #[.val (.ref ad0), .val (.ref ad0), .val (.ref ad2), .val (.double z3), .second, .val (.double (FP.i2d xb)), .second, .val (.double (FP.i2d xr)), .second, .val (.double woffset_ad0), .second, .unset, .unset, .unset, .unset, .unset, .unset, .unset, .unset, .unset] [(.int (cmpValue (FP.dcmp woffset_ad0 (9218868437227405312 : UInt64)) .l))]))
  have hf4 : ¬ ((cmpValue (FP.dcmp woffset_ad0 (9218868437227405312 : UInt64)) .l) = (0 : Int32)) := by rw [dcmp_pinf (Jvm.Free.Fl.Mag64.fin hm_woffset_ad0 (by decide))]; decide
  refine own_step (fun _ k => XS.ifNo X3.here hx rfl (hb hby own_d16_24) rfl ((if0 _ _).trans (feq hf4).1) k) ?_
  refine own_step (fun _ k => XS.dload X3.here hx rfl (hb hby own_d16_27) rfl k) ?_
  refine own_step (fun _ k => X3.ldc2DoubleC hx hown (mvT hZ (own_w hw 115 rfl)) (g := (mkF m 29 #[.val (.ref ad0), .val (.ref ad0), .val (.ref ad2), .val (.double z3), .second, .val (.double (FP.i2d xb)), .second, .val (.double (FP.i2d xr)), .second, .val (.double woffset_ad0), .second, .unset, .unset, .unset, .unset, .unset, .unset, .unset, .unset, .unset] [(.double (FP.i2d xb))])) rfl (hb hby own_d16_29) _ k) ?_
  refine own_step (fun _ k => XS.dcmpS X3.here hx rfl (hb hby own_d16_32) rfl rfl k) ?_
  show own_Fin p e below s _ _ _ (T3.setTop (mkF m 33 #[.val (.ref ad0), .val (.ref ad0), .val (.ref ad2), .val (.double z3), .second, .val (.double (FP.i2d xb)), .second, .val (.double (FP.i2d xr)), .second, .val (.double woffset_ad0), .second, .unset, .unset, .unset, .unset, .unset, .unset, .unset, .unset, .unset] [(.int (cmpValue (FP.dcmp (FP.i2d xb) (9218868437227405312 : UInt64)) .l))]))
  have hf5 : ¬ ((cmpValue (FP.dcmp (FP.i2d xb) (9218868437227405312 : UInt64)) .l) = (0 : Int32)) := by rw [dcmp_pinf (Jvm.Free.Fl.Mag64.fin (Jvm.Free.Fl.i2d_mag (xb)) (by decide))]; decide
  refine own_step (fun _ k => XS.ifYes X3.here hx rfl (pc0 := 33) (pc' := 41) rfl (hb hby own_d16_33) rfl ((if0 _ _).trans (feq hf5).2) (by decide) (by decide) k) ?_
  refine own_step (fun _ k => XS.dloadN X3.here hx rfl (hb hby own_d16_41) rfl k) ?_
  refine own_step (fun _ k => XS.dload X3.here hx rfl (hb hby own_d16_42) rfl k) ?_
  obtain ⟨T6, X6, e6, st6⟩ := natS X3 hx hZ hown (own_w hw 116 rfl) (own_w hw 117 rfl) (own_w hw 118 rfl) (show (Jvm.Cond.code Jvm.Free.Fl.Abs.maxDN Jvm.Free.Fl.Abs.maxDCode 4 (some .double)).before a0 Z = true from (own_w hw 119 rfl)) (by decide) e3 (fun hcd => Jvm.Free.Fl.Abs.maxD_pays (W := 0) z3 woffset_ad0 hcd (by decide) (by decide)) (g := (mkF m 44 #[.val (.ref ad0), .val (.ref ad0), .val (.ref ad2), .val (.double z3), .second, .val (.double (FP.i2d xb)), .second, .val (.double (FP.i2d xr)), .second, .val (.double woffset_ad0), .second, .unset, .unset, .unset, .unset, .unset, .unset, .unset, .unset, .unset] [(.double woffset_ad0), (.double z3)])) rfl (by rw [hml]; rfl) (argsL := [(.double z3), (.double woffset_ad0)]) (rest := []) (lenOf own_pd2 rfl) rfl (by show 2 * 0 + _ ≤ _; exact Nat.le_of_eq rfl) (hb hby own_d16_44) (by decide) (by decide) ⟨rfl, (Jvm.Free.Fl.Mag64.fin hm_z3 (by decide)).noNaN, (Jvm.Free.Fl.Mag64.fin hm_woffset_ad0 (by decide)).noNaN⟩ (val' := (.double (Jvm.Native.java_lang_Math.nans.pick64 true z3 woffset_ad0))) rfl
  refine own_step st6 ?_
  show own_Fin p e below s _ _ _ (T6.setTop (mkF m 47 #[.val (.ref ad0), .val (.ref ad0), .val (.ref ad2), .val (.double z3), .second, .val (.double (FP.i2d xb)), .second, .val (.double (FP.i2d xr)), .second, .val (.double woffset_ad0), .second, .unset, .unset, .unset, .unset, .unset, .unset, .unset, .unset, .unset] [(.double (Jvm.Native.java_lang_Math.nans.pick64 true z3 woffset_ad0))]))
  show own_Fin p e below s _ _ _ (T6.setTop (mkF m 47 #[.val (.ref ad0), .val (.ref ad0), .val (.ref ad2), .val (.double z3), .second, .val (.double (FP.i2d xb)), .second, .val (.double (FP.i2d xr)), .second, .val (.double woffset_ad0), .second, .unset, .unset, .unset, .unset, .unset, .unset, .unset, .unset, .unset] [(.double (Jvm.Native.java_lang_Math.nans.pick64 true z3 woffset_ad0))]))
  refine own_abs1 (F := fun x7 => own_Fin p e below s ({ frames := 1, cells := 0, slots := 0, locals := 17 } : Room).cells ({ frames := 1, cells := 0, slots := 0, locals := 17 } : Room).slots (own_Q16 Z ad0 ad2 z3 ra0 xb xr wjumps_ad0 wrates_ad0 woffset_ad0 k_wjumps_ad0 k_wrates_ad0 h0 n0) (T6.setTop (mkF m 47 #[.val (.ref ad0), .val (.ref ad0), .val (.ref ad2), .val (.double z3), .second, .val (.double (FP.i2d xb)), .second, .val (.double (FP.i2d xr)), .second, .val (.double woffset_ad0), .second, .unset, .unset, .unset, .unset, .unset, .unset, .unset, .unset, .unset] [(.double x7)]))) (e := (Jvm.Native.java_lang_Math.nans.pick64 true z3 woffset_ad0)) fun x7 gx7 => ?_
  have hm7 : Jvm.Free.Fl.Mag64 1100 x7 := by rw [gx7]; exact (Jvm.Free.Fl.pick64_mag (hm_z3.mono (by decide)) (hm_woffset_ad0.mono (by decide)) : Jvm.Free.Fl.Mag64 1100 _)
  show own_Fin p e below s _ _ _ (T6.setTop (mkF m 47 #[.val (.ref ad0), .val (.ref ad0), .val (.ref ad2), .val (.double z3), .second, .val (.double (FP.i2d xb)), .second, .val (.double (FP.i2d xr)), .second, .val (.double woffset_ad0), .second, .unset, .unset, .unset, .unset, .unset, .unset, .unset, .unset, .unset] [(.double x7)]))
  refine own_step (fun _ k => XS.dstore X6.here hx rfl (hb hby own_d16_47) rfl (l' := #[.val (.ref ad0), .val (.ref ad0), .val (.ref ad2), .val (.double z3), .second, .val (.double (FP.i2d xb)), .second, .val (.double (FP.i2d xr)), .second, .val (.double woffset_ad0), .second, .val (.double x7), .second, .unset, .unset, .unset, .unset, .unset, .unset, .unset]) rfl k) ?_
  refine own_step (fun _ k => XS.dconst0 X6.here hx rfl (hb hby own_d16_49) rfl k) ?_
  refine own_step (fun _ k => XS.dstore X6.here hx rfl (hb hby own_d16_50) rfl (l' := #[.val (.ref ad0), .val (.ref ad0), .val (.ref ad2), .val (.double z3), .second, .val (.double (FP.i2d xb)), .second, .val (.double (FP.i2d xr)), .second, .val (.double woffset_ad0), .second, .val (.double x7), .second, .val (.double FP.dconst0), .second, .unset, .unset, .unset, .unset, .unset]) rfl k) ?_
  refine own_step (fun _ k => XS.iconst X6.here hx rfl (hb hby own_d16_52) k) ?_
  show own_Fin p e below s _ _ _ (T6.setTop (mkF m 53 #[.val (.ref ad0), .val (.ref ad0), .val (.ref ad2), .val (.double z3), .second, .val (.double (FP.i2d xb)), .second, .val (.double (FP.i2d xr)), .second, .val (.double woffset_ad0), .second, .val (.double x7), .second, .val (.double FP.dconst0), .second, .unset, .unset, .unset, .unset, .unset] [(.int (0 : Int32))]))
  refine own_step (fun _ k => XS.istore X6.here hx rfl (hb hby own_d16_53) rfl (l' := #[.val (.ref ad0), .val (.ref ad0), .val (.ref ad2), .val (.double z3), .second, .val (.double (FP.i2d xb)), .second, .val (.double (FP.i2d xr)), .second, .val (.double woffset_ad0), .second, .val (.double x7), .second, .val (.double FP.dconst0), .second, .val (.int (0 : Int32)), .unset, .unset, .unset, .unset]) rfl k) ?_
  refine own_step (fun _ k => XS.iload X6.here hx rfl (hb hby own_d16_55) rfl k) ?_
  refine own_step (fun _ k => XS.aloadN X6.here hx rfl (hb hby own_d16_57) rfl rfl k) ?_
  obtain ⟨T8, X8, e8, st8⟩ := getF X6 hx hZ hown (host := "") (Or.inl (own_w hw 37 rfl)) Via.refl e6 F_pieces_ad0 (g := (mkF m 58 #[.val (.ref ad0), .val (.ref ad0), .val (.ref ad2), .val (.double z3), .second, .val (.double (FP.i2d xb)), .second, .val (.double (FP.i2d xr)), .second, .val (.double woffset_ad0), .second, .val (.double x7), .second, .val (.double FP.dconst0), .second, .val (.int (0 : Int32)), .unset, .unset, .unset, .unset] [(.ref ad0), (.int (0 : Int32))])) rfl rfl (hb hby own_d16_58)
  refine own_step st8 ?_
  show own_Fin p e below s _ _ _ (T8.setTop (mkF m 61 #[.val (.ref ad0), .val (.ref ad0), .val (.ref ad2), .val (.double z3), .second, .val (.double (FP.i2d xb)), .second, .val (.double (FP.i2d xr)), .second, .val (.double woffset_ad0), .second, .val (.double x7), .second, .val (.double FP.dconst0), .second, .val (.int (0 : Int32)), .unset, .unset, .unset, .unset] [(.int (1 : Int32)), (.int (0 : Int32))]))
  refine own_step (fun _ k => XS.icmpNo X8.here hx rfl (hb hby own_d16_61) rfl (tlt (by decide : (0 : Int32) < (1 : Int32))).2.1 k) ?_
  refine own_step (fun _ k => XS.aloadN X8.here hx rfl (hb hby own_d16_64) rfl rfl k) ?_
  obtain ⟨T9, X9, e9, st9⟩ := getF X8 hx hZ hown (host := "") (Or.inl (own_w hw 12 rfl)) Via.refl e8 F_rates_ad0 (g := (mkF m 65 #[.val (.ref ad0), .val (.ref ad0), .val (.ref ad2), .val (.double z3), .second, .val (.double (FP.i2d xb)), .second, .val (.double (FP.i2d xr)), .second, .val (.double woffset_ad0), .second, .val (.double x7), .second, .val (.double FP.dconst0), .second, .val (.int (0 : Int32)), .unset, .unset, .unset, .unset] [(.ref ad0)])) rfl rfl (hb hby own_d16_65)
  refine own_step st9 ?_
  show own_Fin p e below s _ _ _ (T9.setTop (mkF m 68 #[.val (.ref ad0), .val (.ref ad0), .val (.ref ad2), .val (.double z3), .second, .val (.double (FP.i2d xb)), .second, .val (.double (FP.i2d xr)), .second, .val (.double woffset_ad0), .second, .val (.double x7), .second, .val (.double FP.dconst0), .second, .val (.int (0 : Int32)), .unset, .unset, .unset, .unset] [(.ref wrates_ad0)]))
  refine own_step (fun _ k => XS.iload X9.here hx rfl (hb hby own_d16_68) rfl k) ?_
  obtain ⟨cl10, Ar10, q10, Sz10, Ng10, Hs10, Gf10⟩ := id A_wrates_ad0
  have hin10 : ¬ ((0 : Int32) < 0 ∨ cl10.slots.size ≤ ((0 : Int32)).toNatClampNeg) := inb_of Sz10 ⟨by decide, by decide⟩
  refine own_step (fun _ k => X9.daload hx (j := (0 : Int32)) (v := (.double (FP.i2d ra0))) (by rw [e9]; exact Ar10.1) (State.isArrayOf_alike hZ.alike Ar10.2.1) Ar10.2.2 hin10 (Has.at Hs10 hin10 rfl) (g := (mkF m 70 #[.val (.ref ad0), .val (.ref ad0), .val (.ref ad2), .val (.double z3), .second, .val (.double (FP.i2d xb)), .second, .val (.double (FP.i2d xr)), .second, .val (.double woffset_ad0), .second, .val (.double x7), .second, .val (.double FP.dconst0), .second, .val (.int (0 : Int32)), .unset, .unset, .unset, .unset] [(.int (0 : Int32)), (.ref wrates_ad0)])) rfl rfl (hb hby own_d16_70) _ k) ?_
  refine own_step (fun _ k => XS.dload X9.here hx rfl (hb hby own_d16_71) rfl k) ?_
  refine own_step (fun _ k => XS.dsubS X9.here hx rfl (hb hby own_d16_73) rfl (show Jvm.Free.Fl.NoNaN64 (FP.dsub (FP.i2d ra0) (FP.i2d xr)) from (Jvm.Free.Fl.Mag64.fin (Jvm.Free.Fl.dsub_mag (K := 1056) ((Jvm.Free.Fl.i2d_mag (ra0)).mono (by decide)) ((Jvm.Free.Fl.i2d_mag (xr)).mono (by decide)) (by decide)) (by decide)).noNaN) rfl k) ?_
  show own_Fin p e below s _ _ _ (T9.setTop (mkF m 74 #[.val (.ref ad0), .val (.ref ad0), .val (.ref ad2), .val (.double z3), .second, .val (.double (FP.i2d xb)), .second, .val (.double (FP.i2d xr)), .second, .val (.double woffset_ad0), .second, .val (.double x7), .second, .val (.double FP.dconst0), .second, .val (.int (0 : Int32)), .unset, .unset, .unset, .unset] [(.double (FP.dsub (FP.i2d ra0) (FP.i2d xr)))]))
  show own_Fin p e below s _ _ _ (T9.setTop (mkF m 74 #[.val (.ref ad0), .val (.ref ad0), .val (.ref ad2), .val (.double z3), .second, .val (.double (FP.i2d xb)), .second, .val (.double (FP.i2d xr)), .second, .val (.double woffset_ad0), .second, .val (.double x7), .second, .val (.double FP.dconst0), .second, .val (.int (0 : Int32)), .unset, .unset, .unset, .unset] [(.double (FP.dsub (FP.i2d ra0) (FP.i2d xr)))]))
  refine own_abs1 (F := fun x11 => own_Fin p e below s ({ frames := 1, cells := 0, slots := 0, locals := 17 } : Room).cells ({ frames := 1, cells := 0, slots := 0, locals := 17 } : Room).slots (own_Q16 Z ad0 ad2 z3 ra0 xb xr wjumps_ad0 wrates_ad0 woffset_ad0 k_wjumps_ad0 k_wrates_ad0 h0 n0) (T9.setTop (mkF m 74 #[.val (.ref ad0), .val (.ref ad0), .val (.ref ad2), .val (.double z3), .second, .val (.double (FP.i2d xb)), .second, .val (.double (FP.i2d xr)), .second, .val (.double woffset_ad0), .second, .val (.double x7), .second, .val (.double FP.dconst0), .second, .val (.int (0 : Int32)), .unset, .unset, .unset, .unset] [(.double x11)]))) (e := (FP.dsub (FP.i2d ra0) (FP.i2d xr))) fun x11 gx11 => ?_
  have hm11 : Jvm.Free.Fl.Mag64 1058 x11 := by rw [gx11]; have q := (Jvm.Free.Fl.dsub_mag (K := 1056) ((Jvm.Free.Fl.i2d_mag (ra0)).mono (by decide)) ((Jvm.Free.Fl.i2d_mag (xr)).mono (by decide)) (by decide)); exact q
  show own_Fin p e below s _ _ _ (T9.setTop (mkF m 74 #[.val (.ref ad0), .val (.ref ad0), .val (.ref ad2), .val (.double z3), .second, .val (.double (FP.i2d xb)), .second, .val (.double (FP.i2d xr)), .second, .val (.double woffset_ad0), .second, .val (.double x7), .second, .val (.double FP.dconst0), .second, .val (.int (0 : Int32)), .unset, .unset, .unset, .unset] [(.double x11)]))
  refine own_step (fun _ k => XS.dstore X9.here hx rfl (hb hby own_d16_74) rfl (l' := #[.val (.ref ad0), .val (.ref ad0), .val (.ref ad2), .val (.double z3), .second, .val (.double (FP.i2d xb)), .second, .val (.double (FP.i2d xr)), .second, .val (.double woffset_ad0), .second, .val (.double x7), .second, .val (.double FP.dconst0), .second, .val (.int (0 : Int32)), .val (.double x11), .second, .unset, .unset]) rfl k) ?_
  refine own_step (fun _ k => XS.aloadN X9.here hx rfl (hb hby own_d16_76) rfl rfl k) ?_
  obtain ⟨T12, X12, e12, st12⟩ := getF X9 hx hZ hown (host := "") (Or.inl (own_w hw 10 rfl)) Via.refl e9 F_jumps_ad0 (g := (mkF m 77 #[.val (.ref ad0), .val (.ref ad0), .val (.ref ad2), .val (.double z3), .second, .val (.double (FP.i2d xb)), .second, .val (.double (FP.i2d xr)), .second, .val (.double woffset_ad0), .second, .val (.double x7), .second, .val (.double FP.dconst0), .second, .val (.int (0 : Int32)), .val (.double x11), .second, .unset, .unset] [(.ref ad0)])) rfl rfl (hb hby own_d16_77)
  refine own_step st12 ?_
  show own_Fin p e below s _ _ _ (T12.setTop (mkF m 80 #[.val (.ref ad0), .val (.ref ad0), .val (.ref ad2), .val (.double z3), .second, .val (.double (FP.i2d xb)), .second, .val (.double (FP.i2d xr)), .second, .val (.double woffset_ad0), .second, .val (.double x7), .second, .val (.double FP.dconst0), .second, .val (.int (0 : Int32)), .val (.double x11), .second, .unset, .unset] [(.ref wjumps_ad0)]))
  refine own_step (fun _ k => XS.iload X12.here hx rfl (hb hby own_d16_80) rfl k) ?_
  obtain ⟨cl13, Ar13, q13, Sz13, Ng13, Hs13, Gf13⟩ := id A_wjumps_ad0
  have hin13 : ¬ ((0 : Int32) < 0 ∨ cl13.slots.size ≤ ((0 : Int32)).toNatClampNeg) := inb_of Sz13 ⟨by decide, by decide⟩
  refine own_step (fun _ k => X12.daload hx (j := (0 : Int32)) (v := (.double FP.dconst0)) (by rw [e12]; exact Ar13.1) (State.isArrayOf_alike hZ.alike Ar13.2.1) Ar13.2.2 hin13 (Has.at Hs13 hin13 rfl) (g := (mkF m 82 #[.val (.ref ad0), .val (.ref ad0), .val (.ref ad2), .val (.double z3), .second, .val (.double (FP.i2d xb)), .second, .val (.double (FP.i2d xr)), .second, .val (.double woffset_ad0), .second, .val (.double x7), .second, .val (.double FP.dconst0), .second, .val (.int (0 : Int32)), .val (.double x11), .second, .unset, .unset] [(.int (0 : Int32)), (.ref wjumps_ad0)])) rfl rfl (hb hby own_d16_82) _ k) ?_
  refine own_step (fun _ k => XS.aloadN X12.here hx rfl (hb hby own_d16_83) rfl rfl k) ?_
  obtain ⟨T14, X14, e14, st14⟩ := getF X12 hx hZ hown (host := "") (Or.inl (own_w hw 12 rfl)) Via.refl e12 F_rates_ad0 (g := (mkF m 84 #[.val (.ref ad0), .val (.ref ad0), .val (.ref ad2), .val (.double z3), .second, .val (.double (FP.i2d xb)), .second, .val (.double (FP.i2d xr)), .second, .val (.double woffset_ad0), .second, .val (.double x7), .second, .val (.double FP.dconst0), .second, .val (.int (0 : Int32)), .val (.double x11), .second, .unset, .unset] [(.ref ad0), (.double FP.dconst0)])) rfl rfl (hb hby own_d16_84)
  refine own_step st14 ?_
  show own_Fin p e below s _ _ _ (T14.setTop (mkF m 87 #[.val (.ref ad0), .val (.ref ad0), .val (.ref ad2), .val (.double z3), .second, .val (.double (FP.i2d xb)), .second, .val (.double (FP.i2d xr)), .second, .val (.double woffset_ad0), .second, .val (.double x7), .second, .val (.double FP.dconst0), .second, .val (.int (0 : Int32)), .val (.double x11), .second, .unset, .unset] [(.ref wrates_ad0), (.double FP.dconst0)]))
  refine own_step (fun _ k => XS.iload X14.here hx rfl (hb hby own_d16_87) rfl k) ?_
  obtain ⟨cl15, Ar15, q15, Sz15, Ng15, Hs15, Gf15⟩ := id A_wrates_ad0
  have hin15 : ¬ ((0 : Int32) < 0 ∨ cl15.slots.size ≤ ((0 : Int32)).toNatClampNeg) := inb_of Sz15 ⟨by decide, by decide⟩
  refine own_step (fun _ k => X14.daload hx (j := (0 : Int32)) (v := (.double (FP.i2d ra0))) (by rw [e14]; exact Ar15.1) (State.isArrayOf_alike hZ.alike Ar15.2.1) Ar15.2.2 hin15 (Has.at Hs15 hin15 rfl) (g := (mkF m 89 #[.val (.ref ad0), .val (.ref ad0), .val (.ref ad2), .val (.double z3), .second, .val (.double (FP.i2d xb)), .second, .val (.double (FP.i2d xr)), .second, .val (.double woffset_ad0), .second, .val (.double x7), .second, .val (.double FP.dconst0), .second, .val (.int (0 : Int32)), .val (.double x11), .second, .unset, .unset] [(.int (0 : Int32)), (.ref wrates_ad0), (.double FP.dconst0)])) rfl rfl (hb hby own_d16_89) _ k) ?_
  refine own_step (fun _ k => XS.dload X14.here hx rfl (hb hby own_d16_90) rfl k) ?_
  refine own_step (fun _ k => XS.dload X14.here hx rfl (hb hby own_d16_92) rfl k) ?_
  show own_Fin p e below s _ _ _ (T14.setTop (mkF m 94 #[.val (.ref ad0), .val (.ref ad0), .val (.ref ad2), .val (.double z3), .second, .val (.double (FP.i2d xb)), .second, .val (.double (FP.i2d xr)), .second, .val (.double woffset_ad0), .second, .val (.double x7), .second, .val (.double FP.dconst0), .second, .val (.int (0 : Int32)), .val (.double x11), .second, .unset, .unset] [(.double woffset_ad0), (.double x7), (.double (FP.i2d ra0)), (.double FP.dconst0)]))
  refine own_step (fun _ k => XS.dsubS X14.here hx rfl (hb hby own_d16_94) rfl (show Jvm.Free.Fl.NoNaN64 (FP.dsub x7 woffset_ad0) from (Jvm.Free.Fl.Mag64.fin (Jvm.Free.Fl.dsub_mag (K := 1100) (hm7.mono (by decide)) (hm_woffset_ad0.mono (by decide)) (by decide)) (by decide)).noNaN) rfl k) ?_
  show own_Fin p e below s _ _ _ (T14.setTop (mkF m 95 #[.val (.ref ad0), .val (.ref ad0), .val (.ref ad2), .val (.double z3), .second, .val (.double (FP.i2d xb)), .second, .val (.double (FP.i2d xr)), .second, .val (.double woffset_ad0), .second, .val (.double x7), .second, .val (.double FP.dconst0), .second, .val (.int (0 : Int32)), .val (.double x11), .second, .unset, .unset] [(.double (FP.dsub x7 woffset_ad0)), (.double (FP.i2d ra0)), (.double FP.dconst0)]))
  refine own_abs1 (F := fun x16 => own_Fin p e below s ({ frames := 1, cells := 0, slots := 0, locals := 17 } : Room).cells ({ frames := 1, cells := 0, slots := 0, locals := 17 } : Room).slots (own_Q16 Z ad0 ad2 z3 ra0 xb xr wjumps_ad0 wrates_ad0 woffset_ad0 k_wjumps_ad0 k_wrates_ad0 h0 n0) (T14.setTop (mkF m 95 #[.val (.ref ad0), .val (.ref ad0), .val (.ref ad2), .val (.double z3), .second, .val (.double (FP.i2d xb)), .second, .val (.double (FP.i2d xr)), .second, .val (.double woffset_ad0), .second, .val (.double x7), .second, .val (.double FP.dconst0), .second, .val (.int (0 : Int32)), .val (.double x11), .second, .unset, .unset] [(.double x16), (.double (FP.i2d ra0)), (.double FP.dconst0)]))) (e := (FP.dsub x7 woffset_ad0)) fun x16 gx16 => ?_
  have hm16 : Jvm.Free.Fl.Mag64 1102 x16 := by rw [gx16]; have q := (Jvm.Free.Fl.dsub_mag (K := 1100) (hm7.mono (by decide)) (hm_woffset_ad0.mono (by decide)) (by decide)); exact q
  show own_Fin p e below s _ _ _ (T14.setTop (mkF m 95 #[.val (.ref ad0), .val (.ref ad0), .val (.ref ad2), .val (.double z3), .second, .val (.double (FP.i2d xb)), .second, .val (.double (FP.i2d xr)), .second, .val (.double woffset_ad0), .second, .val (.double x7), .second, .val (.double FP.dconst0), .second, .val (.int (0 : Int32)), .val (.double x11), .second, .unset, .unset] [(.double x16), (.double (FP.i2d ra0)), (.double FP.dconst0)]))
  refine own_step (fun _ k => XS.dmulS X14.here hx rfl (hb hby own_d16_95) rfl (show Jvm.Free.Fl.NoNaN64 (FP.dmul (FP.i2d ra0) x16) from (Jvm.Free.Fl.Mag64.fin (Jvm.Free.Fl.dmul_mag (Jvm.Free.Fl.i2d_mag (ra0)) hm16 (by decide) (by decide)) (by decide)).noNaN) rfl k) ?_
  show own_Fin p e below s _ _ _ (T14.setTop (mkF m 96 #[.val (.ref ad0), .val (.ref ad0), .val (.ref ad2), .val (.double z3), .second, .val (.double (FP.i2d xb)), .second, .val (.double (FP.i2d xr)), .second, .val (.double woffset_ad0), .second, .val (.double x7), .second, .val (.double FP.dconst0), .second, .val (.int (0 : Int32)), .val (.double x11), .second, .unset, .unset] [(.double (FP.dmul (FP.i2d ra0) x16)), (.double FP.dconst0)]))
  refine own_abs1 (F := fun x17 => own_Fin p e below s ({ frames := 1, cells := 0, slots := 0, locals := 17 } : Room).cells ({ frames := 1, cells := 0, slots := 0, locals := 17 } : Room).slots (own_Q16 Z ad0 ad2 z3 ra0 xb xr wjumps_ad0 wrates_ad0 woffset_ad0 k_wjumps_ad0 k_wrates_ad0 h0 n0) (T14.setTop (mkF m 96 #[.val (.ref ad0), .val (.ref ad0), .val (.ref ad2), .val (.double z3), .second, .val (.double (FP.i2d xb)), .second, .val (.double (FP.i2d xr)), .second, .val (.double woffset_ad0), .second, .val (.double x7), .second, .val (.double FP.dconst0), .second, .val (.int (0 : Int32)), .val (.double x11), .second, .unset, .unset] [(.double x17), (.double FP.dconst0)]))) (e := (FP.dmul (FP.i2d ra0) x16)) fun x17 gx17 => ?_
  have hm17 : Jvm.Free.Fl.Mag64 1136 x17 := by rw [gx17]; have q := (Jvm.Free.Fl.dmul_mag (Jvm.Free.Fl.i2d_mag (ra0)) hm16 (by decide) (by decide)); exact q
  show own_Fin p e below s _ _ _ (T14.setTop (mkF m 96 #[.val (.ref ad0), .val (.ref ad0), .val (.ref ad2), .val (.double z3), .second, .val (.double (FP.i2d xb)), .second, .val (.double (FP.i2d xr)), .second, .val (.double woffset_ad0), .second, .val (.double x7), .second, .val (.double FP.dconst0), .second, .val (.int (0 : Int32)), .val (.double x11), .second, .unset, .unset] [(.double x17), (.double FP.dconst0)]))
  refine own_step (fun _ k => XS.daddS X14.here hx rfl (hb hby own_d16_96) rfl (show Jvm.Free.Fl.NoNaN64 (FP.dadd FP.dconst0 x17) from (Jvm.Free.Fl.Mag64.fin (Jvm.Free.Fl.dadd_mag (K := 1136) ((own_m0).mono (by decide)) (hm17.mono (by decide)) (by decide)) (by decide)).noNaN) rfl k) ?_
  show own_Fin p e below s _ _ _ (T14.setTop (mkF m 97 #[.val (.ref ad0), .val (.ref ad0), .val (.ref ad2), .val (.double z3), .second, .val (.double (FP.i2d xb)), .second, .val (.double (FP.i2d xr)), .second, .val (.double woffset_ad0), .second, .val (.double x7), .second, .val (.double FP.dconst0), .second, .val (.int (0 : Int32)), .val (.double x11), .second, .unset, .unset] [(.double (FP.dadd FP.dconst0 x17))]))
  refine own_abs1 (F := fun x18 => own_Fin p e below s ({ frames := 1, cells := 0, slots := 0, locals := 17 } : Room).cells ({ frames := 1, cells := 0, slots := 0, locals := 17 } : Room).slots (own_Q16 Z ad0 ad2 z3 ra0 xb xr wjumps_ad0 wrates_ad0 woffset_ad0 k_wjumps_ad0 k_wrates_ad0 h0 n0) (T14.setTop (mkF m 97 #[.val (.ref ad0), .val (.ref ad0), .val (.ref ad2), .val (.double z3), .second, .val (.double (FP.i2d xb)), .second, .val (.double (FP.i2d xr)), .second, .val (.double woffset_ad0), .second, .val (.double x7), .second, .val (.double FP.dconst0), .second, .val (.int (0 : Int32)), .val (.double x11), .second, .unset, .unset] [(.double x18)]))) (e := (FP.dadd FP.dconst0 x17)) fun x18 gx18 => ?_
  have hm18 : Jvm.Free.Fl.Mag64 1138 x18 := by rw [gx18]; have q := (Jvm.Free.Fl.dadd_mag (K := 1136) ((own_m0).mono (by decide)) (hm17.mono (by decide)) (by decide)); exact q
  show own_Fin p e below s _ _ _ (T14.setTop (mkF m 97 #[.val (.ref ad0), .val (.ref ad0), .val (.ref ad2), .val (.double z3), .second, .val (.double (FP.i2d xb)), .second, .val (.double (FP.i2d xr)), .second, .val (.double woffset_ad0), .second, .val (.double x7), .second, .val (.double FP.dconst0), .second, .val (.int (0 : Int32)), .val (.double x11), .second, .unset, .unset] [(.double x18)]))
  refine own_step (fun _ k => XS.dload X14.here hx rfl (hb hby own_d16_97) rfl k) ?_
  refine own_step (fun _ k => XS.dsubS X14.here hx rfl (hb hby own_d16_99) rfl (show Jvm.Free.Fl.NoNaN64 (FP.dsub x18 (FP.i2d xb)) from (Jvm.Free.Fl.Mag64.fin (Jvm.Free.Fl.dsub_mag (K := 1138) (hm18.mono (by decide)) ((Jvm.Free.Fl.i2d_mag (xb)).mono (by decide)) (by decide)) (by decide)).noNaN) rfl k) ?_
  show own_Fin p e below s _ _ _ (T14.setTop (mkF m 100 #[.val (.ref ad0), .val (.ref ad0), .val (.ref ad2), .val (.double z3), .second, .val (.double (FP.i2d xb)), .second, .val (.double (FP.i2d xr)), .second, .val (.double woffset_ad0), .second, .val (.double x7), .second, .val (.double FP.dconst0), .second, .val (.int (0 : Int32)), .val (.double x11), .second, .unset, .unset] [(.double (FP.dsub x18 (FP.i2d xb)))]))
  refine own_abs1 (F := fun x19 => own_Fin p e below s ({ frames := 1, cells := 0, slots := 0, locals := 17 } : Room).cells ({ frames := 1, cells := 0, slots := 0, locals := 17 } : Room).slots (own_Q16 Z ad0 ad2 z3 ra0 xb xr wjumps_ad0 wrates_ad0 woffset_ad0 k_wjumps_ad0 k_wrates_ad0 h0 n0) (T14.setTop (mkF m 100 #[.val (.ref ad0), .val (.ref ad0), .val (.ref ad2), .val (.double z3), .second, .val (.double (FP.i2d xb)), .second, .val (.double (FP.i2d xr)), .second, .val (.double woffset_ad0), .second, .val (.double x7), .second, .val (.double FP.dconst0), .second, .val (.int (0 : Int32)), .val (.double x11), .second, .unset, .unset] [(.double x19)]))) (e := (FP.dsub x18 (FP.i2d xb))) fun x19 gx19 => ?_
  have hm19 : Jvm.Free.Fl.Mag64 1140 x19 := by rw [gx19]; have q := (Jvm.Free.Fl.dsub_mag (K := 1138) (hm18.mono (by decide)) ((Jvm.Free.Fl.i2d_mag (xb)).mono (by decide)) (by decide)); exact q
  show own_Fin p e below s _ _ _ (T14.setTop (mkF m 100 #[.val (.ref ad0), .val (.ref ad0), .val (.ref ad2), .val (.double z3), .second, .val (.double (FP.i2d xb)), .second, .val (.double (FP.i2d xr)), .second, .val (.double woffset_ad0), .second, .val (.double x7), .second, .val (.double FP.dconst0), .second, .val (.int (0 : Int32)), .val (.double x11), .second, .unset, .unset] [(.double x19)]))
  refine own_step (fun _ k => XS.dload X14.here hx rfl (hb hby own_d16_100) rfl k) ?_
  refine own_step (fun _ k => XS.dload X14.here hx rfl (hb hby own_d16_102) rfl k) ?_
  refine own_step (fun _ k => XS.dloadN X14.here hx rfl (hb hby own_d16_104) rfl k) ?_
  refine own_step (fun _ k => XS.dsubS X14.here hx rfl (hb hby own_d16_105) rfl (show Jvm.Free.Fl.NoNaN64 (FP.dsub x7 z3) from (Jvm.Free.Fl.Mag64.fin (Jvm.Free.Fl.dsub_mag (K := 1100) (hm7.mono (by decide)) (hm_z3.mono (by decide)) (by decide)) (by decide)).noNaN) rfl k) ?_
  show own_Fin p e below s _ _ _ (T14.setTop (mkF m 106 #[.val (.ref ad0), .val (.ref ad0), .val (.ref ad2), .val (.double z3), .second, .val (.double (FP.i2d xb)), .second, .val (.double (FP.i2d xr)), .second, .val (.double woffset_ad0), .second, .val (.double x7), .second, .val (.double FP.dconst0), .second, .val (.int (0 : Int32)), .val (.double x11), .second, .unset, .unset] [(.double (FP.dsub x7 z3)), (.double (FP.i2d xr)), (.double x19)]))
  show own_Fin p e below s _ _ _ (T14.setTop (mkF m 106 #[.val (.ref ad0), .val (.ref ad0), .val (.ref ad2), .val (.double z3), .second, .val (.double (FP.i2d xb)), .second, .val (.double (FP.i2d xr)), .second, .val (.double woffset_ad0), .second, .val (.double x7), .second, .val (.double FP.dconst0), .second, .val (.int (0 : Int32)), .val (.double x11), .second, .unset, .unset] [(.double (FP.dsub x7 z3)), (.double (FP.i2d xr)), (.double x19)]))
  refine own_abs1 (F := fun x20 => own_Fin p e below s ({ frames := 1, cells := 0, slots := 0, locals := 17 } : Room).cells ({ frames := 1, cells := 0, slots := 0, locals := 17 } : Room).slots (own_Q16 Z ad0 ad2 z3 ra0 xb xr wjumps_ad0 wrates_ad0 woffset_ad0 k_wjumps_ad0 k_wrates_ad0 h0 n0) (T14.setTop (mkF m 106 #[.val (.ref ad0), .val (.ref ad0), .val (.ref ad2), .val (.double z3), .second, .val (.double (FP.i2d xb)), .second, .val (.double (FP.i2d xr)), .second, .val (.double woffset_ad0), .second, .val (.double x7), .second, .val (.double FP.dconst0), .second, .val (.int (0 : Int32)), .val (.double x11), .second, .unset, .unset] [(.double x20), (.double (FP.i2d xr)), (.double x19)]))) (e := (FP.dsub x7 z3)) fun x20 gx20 => ?_
  have hm20 : Jvm.Free.Fl.Mag64 1102 x20 := by rw [gx20]; have q := (Jvm.Free.Fl.dsub_mag (K := 1100) (hm7.mono (by decide)) (hm_z3.mono (by decide)) (by decide)); exact q
  show own_Fin p e below s _ _ _ (T14.setTop (mkF m 106 #[.val (.ref ad0), .val (.ref ad0), .val (.ref ad2), .val (.double z3), .second, .val (.double (FP.i2d xb)), .second, .val (.double (FP.i2d xr)), .second, .val (.double woffset_ad0), .second, .val (.double x7), .second, .val (.double FP.dconst0), .second, .val (.int (0 : Int32)), .val (.double x11), .second, .unset, .unset] [(.double x20), (.double (FP.i2d xr)), (.double x19)]))
  refine own_step (fun _ k => XS.dmulS X14.here hx rfl (hb hby own_d16_106) rfl (show Jvm.Free.Fl.NoNaN64 (FP.dmul (FP.i2d xr) x20) from (Jvm.Free.Fl.Mag64.fin (Jvm.Free.Fl.dmul_mag (Jvm.Free.Fl.i2d_mag (xr)) hm20 (by decide) (by decide)) (by decide)).noNaN) rfl k) ?_
  show own_Fin p e below s _ _ _ (T14.setTop (mkF m 107 #[.val (.ref ad0), .val (.ref ad0), .val (.ref ad2), .val (.double z3), .second, .val (.double (FP.i2d xb)), .second, .val (.double (FP.i2d xr)), .second, .val (.double woffset_ad0), .second, .val (.double x7), .second, .val (.double FP.dconst0), .second, .val (.int (0 : Int32)), .val (.double x11), .second, .unset, .unset] [(.double (FP.dmul (FP.i2d xr) x20)), (.double x19)]))
  refine own_abs1 (F := fun x21 => own_Fin p e below s ({ frames := 1, cells := 0, slots := 0, locals := 17 } : Room).cells ({ frames := 1, cells := 0, slots := 0, locals := 17 } : Room).slots (own_Q16 Z ad0 ad2 z3 ra0 xb xr wjumps_ad0 wrates_ad0 woffset_ad0 k_wjumps_ad0 k_wrates_ad0 h0 n0) (T14.setTop (mkF m 107 #[.val (.ref ad0), .val (.ref ad0), .val (.ref ad2), .val (.double z3), .second, .val (.double (FP.i2d xb)), .second, .val (.double (FP.i2d xr)), .second, .val (.double woffset_ad0), .second, .val (.double x7), .second, .val (.double FP.dconst0), .second, .val (.int (0 : Int32)), .val (.double x11), .second, .unset, .unset] [(.double x21), (.double x19)]))) (e := (FP.dmul (FP.i2d xr) x20)) fun x21 gx21 => ?_
  have hm21 : Jvm.Free.Fl.Mag64 1136 x21 := by rw [gx21]; have q := (Jvm.Free.Fl.dmul_mag (Jvm.Free.Fl.i2d_mag (xr)) hm20 (by decide) (by decide)); exact q
  show own_Fin p e below s _ _ _ (T14.setTop (mkF m 107 #[.val (.ref ad0), .val (.ref ad0), .val (.ref ad2), .val (.double z3), .second, .val (.double (FP.i2d xb)), .second, .val (.double (FP.i2d xr)), .second, .val (.double woffset_ad0), .second, .val (.double x7), .second, .val (.double FP.dconst0), .second, .val (.int (0 : Int32)), .val (.double x11), .second, .unset, .unset] [(.double x21), (.double x19)]))
  refine own_step (fun _ k => XS.dsubS X14.here hx rfl (hb hby own_d16_107) rfl (show Jvm.Free.Fl.NoNaN64 (FP.dsub x19 x21) from (Jvm.Free.Fl.Mag64.fin (Jvm.Free.Fl.dsub_mag (K := 1140) (hm19.mono (by decide)) (hm21.mono (by decide)) (by decide)) (by decide)).noNaN) rfl k) ?_
  show own_Fin p e below s _ _ _ (T14.setTop (mkF m 108 #[.val (.ref ad0), .val (.ref ad0), .val (.ref ad2), .val (.double z3), .second, .val (.double (FP.i2d xb)), .second, .val (.double (FP.i2d xr)), .second, .val (.double woffset_ad0), .second, .val (.double x7), .second, .val (.double FP.dconst0), .second, .val (.int (0 : Int32)), .val (.double x11), .second, .unset, .unset] [(.double (FP.dsub x19 x21))]))
  refine own_abs1 (F := fun x22 => own_Fin p e below s ({ frames := 1, cells := 0, slots := 0, locals := 17 } : Room).cells ({ frames := 1, cells := 0, slots := 0, locals := 17 } : Room).slots (own_Q16 Z ad0 ad2 z3 ra0 xb xr wjumps_ad0 wrates_ad0 woffset_ad0 k_wjumps_ad0 k_wrates_ad0 h0 n0) (T14.setTop (mkF m 108 #[.val (.ref ad0), .val (.ref ad0), .val (.ref ad2), .val (.double z3), .second, .val (.double (FP.i2d xb)), .second, .val (.double (FP.i2d xr)), .second, .val (.double woffset_ad0), .second, .val (.double x7), .second, .val (.double FP.dconst0), .second, .val (.int (0 : Int32)), .val (.double x11), .second, .unset, .unset] [(.double x22)]))) (e := (FP.dsub x19 x21)) fun x22 gx22 => ?_
  have hm22 : Jvm.Free.Fl.Mag64 1142 x22 := by rw [gx22]; have q := (Jvm.Free.Fl.dsub_mag (K := 1140) (hm19.mono (by decide)) (hm21.mono (by decide)) (by decide)); exact q
  show own_Fin p e below s _ _ _ (T14.setTop (mkF m 108 #[.val (.ref ad0), .val (.ref ad0), .val (.ref ad2), .val (.double z3), .second, .val (.double (FP.i2d xb)), .second, .val (.double (FP.i2d xr)), .second, .val (.double woffset_ad0), .second, .val (.double x7), .second, .val (.double FP.dconst0), .second, .val (.int (0 : Int32)), .val (.double x11), .second, .unset, .unset] [(.double x22)]))
  refine own_step (fun _ k => XS.dstore X14.here hx rfl (hb hby own_d16_108) rfl (l' := #[.val (.ref ad0), .val (.ref ad0), .val (.ref ad2), .val (.double z3), .second, .val (.double (FP.i2d xb)), .second, .val (.double (FP.i2d xr)), .second, .val (.double woffset_ad0), .second, .val (.double x7), .second, .val (.double FP.dconst0), .second, .val (.int (0 : Int32)), .val (.double x11), .second, .val (.double x22), .second]) rfl k) ?_
  refine own_join (F := own_Fin p e below s ({ frames := 1, cells := 0, slots := 0, locals := 17 } : Room).cells ({ frames := 1, cells := 0, slots := 0, locals := 17 } : Room).slots (own_Q16 Z ad0 ad2 z3 ra0 xb xr wjumps_ad0 wrates_ad0 woffset_ad0 k_wjumps_ad0 k_wrates_ad0 h0 n0)) X14 e14 (β := UInt64) (fun w23 => (mkF m 156 #[.val (.ref ad0), .val (.ref ad0), .val (.ref ad2), .val (.double z3), .second, .val (.double (FP.i2d xb)), .second, .val (.double (FP.i2d xr)), .second, .val (.double woffset_ad0), .second, .val (.double x7), .second, .val (.double w23), .second, .val (.int (0 : Int32)), .val (.double x11), .second, .val (.double x22), .second] [])) (fun w23 => Jvm.Free.Fl.Mag64 1200 w23) ?_ ?_
  · intro Tj23 Xj23 ej23 w23 hj23
    show own_Fin p e below s _ _ _ (Tj23.setTop (mkF m 156 #[.val (.ref ad0), .val (.ref ad0), .val (.ref ad2), .val (.double z3), .second, .val (.double (FP.i2d xb)), .second, .val (.double (FP.i2d xr)), .second, .val (.double woffset_ad0), .second, .val (.double x7), .second, .val (.double w23), .second, .val (.int (0 : Int32)), .val (.double x11), .second, .val (.double x22), .second] []))
    refine own_step (fun _ k => XS.aloadN Xj23.here hx rfl (hb hby own_d16_156) rfl rfl k) ?_
    obtain ⟨T24, X24, e24, st24⟩ := getF Xj23 hx hZ hown (host := "") (Or.inl (own_w hw 10 rfl)) Via.refl ej23 F_jumps_ad0 (g := (mkF m 157 #[.val (.ref ad0), .val (.ref ad0), .val (.ref ad2), .val (.double z3), .second, .val (.double (FP.i2d xb)), .second, .val (.double (FP.i2d xr)), .second, .val (.double woffset_ad0), .second, .val (.double x7), .second, .val (.double w23), .second, .val (.int (0 : Int32)), .val (.double x11), .second, .val (.double x22), .second] [(.ref ad0)])) rfl rfl (hb hby own_d16_157)
    refine own_step st24 ?_
    show own_Fin p e below s _ _ _ (T24.setTop (mkF m 160 #[.val (.ref ad0), .val (.ref ad0), .val (.ref ad2), .val (.double z3), .second, .val (.double (FP.i2d xb)), .second, .val (.double (FP.i2d xr)), .second, .val (.double woffset_ad0), .second, .val (.double x7), .second, .val (.double w23), .second, .val (.int (0 : Int32)), .val (.double x11), .second, .val (.double x22), .second] [(.ref wjumps_ad0)]))
    refine own_step (fun _ k => XS.iload X24.here hx rfl (hb hby own_d16_160) rfl k) ?_
    refine own_step (fun _ k => XS.dload X24.here hx rfl (hb hby own_d16_162) rfl k) ?_
    obtain ⟨cl25, Ar25, q25, Sz25, Ng25, Hs25, Gf25⟩ := id A_wjumps_ad0
    have hin25 : ¬ ((0 : Int32) < 0 ∨ cl25.slots.size ≤ ((0 : Int32)).toNatClampNeg) := inb_of Sz25 ⟨by decide, by decide⟩
    obtain ⟨T25, h25, X25, e25, W25, st25⟩ := stD X24 hx hZ e24 Ar25 (j := (0 : Int32)) hin25 (g := (mkF m 164 #[.val (.ref ad0), .val (.ref ad0), .val (.ref ad2), .val (.double z3), .second, .val (.double (FP.i2d xb)), .second, .val (.double (FP.i2d xr)), .second, .val (.double woffset_ad0), .second, .val (.double x7), .second, .val (.double w23), .second, .val (.int (0 : Int32)), .val (.double x11), .second, .val (.double x22), .second] [(.double x22), (.int (0 : Int32)), (.ref wjumps_ad0)])) rfl rfl (hb hby own_d16_164)
    have N25 := Fr.snoc X25 N2 g_wjumps_ad0
    have K25 : Keep h0 h25 [wjumps_ad0, wrates_ad0, ad0] := KR.wr W25 (Or.inl (List.mem_of_getElem? (i := 0) rfl))
    have Z25 : n0 ≤ h25.size := Nat.le_trans Z0 (Keep.of_wr W25).1
    have G26 := (E_ad0.wr W25)
    have G27 := (F_jumps_ad0.other W25 (Or.inl ne_ad0_wjumps_ad0))
    have G28 := (F_rates_ad0.other W25 (Or.inl ne_ad0_wjumps_ad0))
    have G29 := (F_offset_ad0.other W25 (Or.inl ne_ad0_wjumps_ad0))
    have G30 := (F_pieces_ad0.other W25 (Or.inl ne_ad0_wjumps_ad0))
    have G31 := (A_wrates_ad0.other W25 ne_wrates_ad0_wjumps_ad0)
    have G32 := (E_ad2.wr W25)
    have G33 := (F_burst_ad2.other W25 (Or.inl ne_ad2_wjumps_ad0))
    have G34 := (F_rate_ad2.other W25 (Or.inl ne_ad2_wjumps_ad0))
    have G35 : Arv Z h25 wjumps_ad0 k_wjumps_ad0 .double (4 : Int32) [(.double x22), (.double (0 : UInt64))] (.double (0 : UInt64)) := Arv.set Ar25 q25 Sz25 Ng25 Hs25 Gf25 rfl W25 0 rfl (Nat.le_of_ble_eq_true rfl)
    refine own_step st25 ?_
    show own_Fin p e below s _ _ _ (T25.setTop (mkF m 165 #[.val (.ref ad0), .val (.ref ad0), .val (.ref ad2), .val (.double z3), .second, .val (.double (FP.i2d xb)), .second, .val (.double (FP.i2d xr)), .second, .val (.double woffset_ad0), .second, .val (.double x7), .second, .val (.double w23), .second, .val (.int (0 : Int32)), .val (.double x11), .second, .val (.double x22), .second] []))
    refine own_step (fun _ k => XS.aloadN X25.here hx rfl (hb hby own_d16_165) rfl rfl k) ?_
    obtain ⟨T36, X36, e36, st36⟩ := getF X25 hx hZ hown (host := "") (Or.inl (own_w hw 12 rfl)) Via.refl e25 G28 (g := (mkF m 166 #[.val (.ref ad0), .val (.ref ad0), .val (.ref ad2), .val (.double z3), .second, .val (.double (FP.i2d xb)), .second, .val (.double (FP.i2d xr)), .second, .val (.double woffset_ad0), .second, .val (.double x7), .second, .val (.double w23), .second, .val (.int (0 : Int32)), .val (.double x11), .second, .val (.double x22), .second] [(.ref ad0)])) rfl rfl (hb hby own_d16_166)
    refine own_step st36 ?_
    show own_Fin p e below s _ _ _ (T36.setTop (mkF m 169 #[.val (.ref ad0), .val (.ref ad0), .val (.ref ad2), .val (.double z3), .second, .val (.double (FP.i2d xb)), .second, .val (.double (FP.i2d xr)), .second, .val (.double woffset_ad0), .second, .val (.double x7), .second, .val (.double w23), .second, .val (.int (0 : Int32)), .val (.double x11), .second, .val (.double x22), .second] [(.ref wrates_ad0)]))
    refine own_step (fun _ k => XS.iload X36.here hx rfl (hb hby own_d16_169) rfl k) ?_
    refine own_step (fun _ k => XS.dload X36.here hx rfl (hb hby own_d16_171) rfl k) ?_
    obtain ⟨cl37, Ar37, q37, Sz37, Ng37, Hs37, Gf37⟩ := id G31
    have hin37 : ¬ ((0 : Int32) < 0 ∨ cl37.slots.size ≤ ((0 : Int32)).toNatClampNeg) := inb_of Sz37 ⟨by decide, by decide⟩
    obtain ⟨T37, h37, X37, e37, W37, st37⟩ := stD X36 hx hZ e36 Ar37 (j := (0 : Int32)) hin37 (g := (mkF m 173 #[.val (.ref ad0), .val (.ref ad0), .val (.ref ad2), .val (.double z3), .second, .val (.double (FP.i2d xb)), .second, .val (.double (FP.i2d xr)), .second, .val (.double woffset_ad0), .second, .val (.double x7), .second, .val (.double w23), .second, .val (.int (0 : Int32)), .val (.double x11), .second, .val (.double x22), .second] [(.double x11), (.int (0 : Int32)), (.ref wrates_ad0)])) rfl rfl (hb hby own_d16_173)
    have N37 := Fr.snoc X37 N25 g_wrates_ad0
    have K37 : Keep h0 h37 [wjumps_ad0, wrates_ad0, ad0] := K25.wr W37 (Or.inl (List.mem_of_getElem? (i := 1) rfl))
    have Z37 : n0 ≤ h37.size := Nat.le_trans Z25 (Keep.of_wr W37).1
    have G38 := (G26.wr W37)
    have G39 := (G27.other W37 (Or.inl ne_ad0_wrates_ad0))
    have G40 := (G28.other W37 (Or.inl ne_ad0_wrates_ad0))
    have G41 := (G29.other W37 (Or.inl ne_ad0_wrates_ad0))
    have G42 := (G30.other W37 (Or.inl ne_ad0_wrates_ad0))
    have G43 := (G32.wr W37)
    have G44 := (G33.other W37 (Or.inl ne_ad2_wrates_ad0))
    have G45 := (G34.other W37 (Or.inl ne_ad2_wrates_ad0))
    have G46 := (G35.other W37 ne_wjumps_ad0_wrates_ad0)
    have G47 : Arv Z h37 wrates_ad0 k_wrates_ad0 .double (4 : Int32) [(.double x11), (.double (0 : UInt64))] (.double (0 : UInt64)) := Arv.set Ar37 q37 Sz37 Ng37 Hs37 Gf37 rfl W37 0 rfl (Nat.le_of_ble_eq_true rfl)
    refine own_step st37 ?_
    show own_Fin p e below s _ _ _ (T37.setTop (mkF m 174 #[.val (.ref ad0), .val (.ref ad0), .val (.ref ad2), .val (.double z3), .second, .val (.double (FP.i2d xb)), .second, .val (.double (FP.i2d xr)), .second, .val (.double woffset_ad0), .second, .val (.double x7), .second, .val (.double w23), .second, .val (.int (0 : Int32)), .val (.double x11), .second, .val (.double x22), .second] []))
    refine own_step (fun _ k => XS.iinc X37.here hx rfl (hb hby own_d16_174) rfl (l' := #[.val (.ref ad0), .val (.ref ad0), .val (.ref ad2), .val (.double z3), .second, .val (.double (FP.i2d xb)), .second, .val (.double (FP.i2d xr)), .second, .val (.double woffset_ad0), .second, .val (.double x7), .second, .val (.double w23), .second, .val (.int ((0 : Int32) + (1 : Int32))), .val (.double x11), .second, .val (.double x22), .second]) rfl k) ?_
    show own_Fin p e below s _ _ _ (T37.setTop (mkF m 177 #[.val (.ref ad0), .val (.ref ad0), .val (.ref ad2), .val (.double z3), .second, .val (.double (FP.i2d xb)), .second, .val (.double (FP.i2d xr)), .second, .val (.double woffset_ad0), .second, .val (.double x7), .second, .val (.double w23), .second, .val (.int ((0 : Int32) + (1 : Int32))), .val (.double x11), .second, .val (.double x22), .second] []))
    rw [show ((0 : Int32) + (1 : Int32)) = (1 : Int32) from by decide]
    show own_Fin p e below s _ _ _ (T37.setTop (mkF m 177 #[.val (.ref ad0), .val (.ref ad0), .val (.ref ad2), .val (.double z3), .second, .val (.double (FP.i2d xb)), .second, .val (.double (FP.i2d xr)), .second, .val (.double woffset_ad0), .second, .val (.double x7), .second, .val (.double w23), .second, .val (.int (1 : Int32)), .val (.double x11), .second, .val (.double x22), .second] []))
    refine own_step (fun _ k => XS.goto X37.here hx rfl (pc0 := 177) (pc' := 55) rfl (hb hby own_d16_177) (by decide) (by decide) k) ?_
    refine own_step (fun _ k => XS.iload X37.here hx rfl (hb hby own_d16_55) rfl k) ?_
    refine own_step (fun _ k => XS.aloadN X37.here hx rfl (hb hby own_d16_57) rfl rfl k) ?_
    obtain ⟨T48, X48, e48, st48⟩ := getF X37 hx hZ hown (host := "") (Or.inl (own_w hw 37 rfl)) Via.refl e37 G42 (g := (mkF m 58 #[.val (.ref ad0), .val (.ref ad0), .val (.ref ad2), .val (.double z3), .second, .val (.double (FP.i2d xb)), .second, .val (.double (FP.i2d xr)), .second, .val (.double woffset_ad0), .second, .val (.double x7), .second, .val (.double w23), .second, .val (.int (1 : Int32)), .val (.double x11), .second, .val (.double x22), .second] [(.ref ad0), (.int (1 : Int32))])) rfl rfl (hb hby own_d16_58)
    refine own_step st48 ?_
    show own_Fin p e below s _ _ _ (T48.setTop (mkF m 61 #[.val (.ref ad0), .val (.ref ad0), .val (.ref ad2), .val (.double z3), .second, .val (.double (FP.i2d xb)), .second, .val (.double (FP.i2d xr)), .second, .val (.double woffset_ad0), .second, .val (.double x7), .second, .val (.double w23), .second, .val (.int (1 : Int32)), .val (.double x11), .second, .val (.double x22), .second] [(.int (1 : Int32)), (.int (1 : Int32))]))
    refine own_step (fun _ k => XS.icmpYes X48.here hx rfl (pc0 := 61) (pc' := 180) rfl (hb hby own_d16_61) rfl (flt (by decide : ¬ ((1 : Int32) < (1 : Int32)))).2.1 (by decide) (by decide) k) ?_
    refine own_step (fun _ k => XS.aloadN X48.here hx rfl (hb hby own_d16_180) rfl rfl k) ?_
    refine own_step (fun _ k => XS.aloadN X48.here hx rfl (hb hby own_d16_181) rfl rfl k) ?_
    obtain ⟨T49, X49, e49, st49⟩ := getF X48 hx hZ hown (host := "") (Or.inl (own_w hw 37 rfl)) Via.refl e48 G42 (g := (mkF m 182 #[.val (.ref ad0), .val (.ref ad0), .val (.ref ad2), .val (.double z3), .second, .val (.double (FP.i2d xb)), .second, .val (.double (FP.i2d xr)), .second, .val (.double woffset_ad0), .second, .val (.double x7), .second, .val (.double w23), .second, .val (.int (1 : Int32)), .val (.double x11), .second, .val (.double x22), .second] [(.ref ad0), (.ref ad0)])) rfl rfl (hb hby own_d16_182)
    refine own_step st49 ?_
    show own_Fin p e below s _ _ _ (T49.setTop (mkF m 185 #[.val (.ref ad0), .val (.ref ad0), .val (.ref ad2), .val (.double z3), .second, .val (.double (FP.i2d xb)), .second, .val (.double (FP.i2d xr)), .second, .val (.double woffset_ad0), .second, .val (.double x7), .second, .val (.double w23), .second, .val (.int (1 : Int32)), .val (.double x11), .second, .val (.double x22), .second] [(.int (1 : Int32)), (.ref ad0)]))
    obtain ⟨T50, h50, X50, e50, W50, st50⟩ := putF X49 hx hZ hown (host := "") (Or.inl (own_w hw 37 rfl)) Via.refl e49 G42 G38 (Or.inl (own_w hw 38 rfl)) (own_w hw 1 rfl) (ty := .int) (by decide) rfl rfl (g := (mkF m 185 #[.val (.ref ad0), .val (.ref ad0), .val (.ref ad2), .val (.double z3), .second, .val (.double (FP.i2d xb)), .second, .val (.double (FP.i2d xr)), .second, .val (.double woffset_ad0), .second, .val (.double x7), .second, .val (.double w23), .second, .val (.int (1 : Int32)), .val (.double x11), .second, .val (.double x22), .second] [(.int (1 : Int32)), (.ref ad0)])) rfl rfl (hb hby own_d16_185)
    have N50 := Fr.snoc X50 N37 g_ad0
    have K50 : Keep h0 h50 [wjumps_ad0, wrates_ad0, ad0] := K37.wr W50 (Or.inl (List.mem_of_getElem? (i := 2) rfl))
    have Z50 : n0 ≤ h50.size := Nat.le_trans Z37 (Keep.of_wr W50).1
    have G51 := (G38.wr W50)
    have G52 := (G39.other W50 (Or.inr (slot_ne (Or.inr (own_w hw 11 rfl)) (Or.inl (own_w hw 38 rfl)) (by decide) (t := (.array .double)) (t' := .int) (by decide) (by decide))))
    have G53 := (G40.other W50 (Or.inr (slot_ne (Or.inr (own_w hw 13 rfl)) (Or.inl (own_w hw 38 rfl)) (by decide) (t := (.array .double)) (t' := .int) (by decide) (by decide))))
    have G54 := (G41.other W50 (Or.inr (slot_ne (Or.inl (own_w hw 36 rfl)) (Or.inl (own_w hw 38 rfl)) (by decide) (t := .double) (t' := .int) (by decide) (by decide))))
    have G55 := (G43.wr W50)
    have G56 := (G44.other W50 (Or.inl ne_ad2_ad0))
    have G57 := (G45.other W50 (Or.inl ne_ad2_ad0))
    have G58 := (G46.other W50 ne_wjumps_ad0_ad0)
    have G59 := (G47.other W50 ne_wrates_ad0_ad0)
    have G60 := G42.same W50
    refine own_step st50 ?_
    show own_Fin p e below s _ _ _ (T50.setTop (mkF m 188 #[.val (.ref ad0), .val (.ref ad0), .val (.ref ad2), .val (.double z3), .second, .val (.double (FP.i2d xb)), .second, .val (.double (FP.i2d xr)), .second, .val (.double woffset_ad0), .second, .val (.double x7), .second, .val (.double w23), .second, .val (.int (1 : Int32)), .val (.double x11), .second, .val (.double x22), .second] []))
    refine own_step (fun _ k => XS.iconst X50.here hx rfl (hb hby own_d16_188) k) ?_
    refine own_step (fun _ k => XS.istore X50.here hx rfl (hb hby own_d16_189) rfl (l' := #[.val (.ref ad0), .val (.ref ad0), .val (.ref ad2), .val (.double z3), .second, .val (.double (FP.i2d xb)), .second, .val (.double (FP.i2d xr)), .second, .val (.double woffset_ad0), .second, .val (.double x7), .second, .val (.double w23), .second, .val (.int (0 : Int32)), .val (.double x11), .second, .val (.double x22), .second]) rfl k) ?_
    refine own_step (fun _ k => XS.iload X50.here hx rfl (hb hby own_d16_191) rfl k) ?_
    refine own_step (fun _ k => XS.aloadN X50.here hx rfl (hb hby own_d16_193) rfl rfl k) ?_
    show own_Fin p e below s _ _ _ (T50.setTop (mkF m 194 #[.val (.ref ad0), .val (.ref ad0), .val (.ref ad2), .val (.double z3), .second, .val (.double (FP.i2d xb)), .second, .val (.double (FP.i2d xr)), .second, .val (.double woffset_ad0), .second, .val (.double x7), .second, .val (.double w23), .second, .val (.int (0 : Int32)), .val (.double x11), .second, .val (.double x22), .second] [(.ref ad0), (.int (0 : Int32))]))
    obtain ⟨T61, X61, e61, st61⟩ := getF X50 hx hZ hown (host := "") (Or.inl (own_w hw 37 rfl)) Via.refl e50 G60 (g := (mkF m 194 #[.val (.ref ad0), .val (.ref ad0), .val (.ref ad2), .val (.double z3), .second, .val (.double (FP.i2d xb)), .second, .val (.double (FP.i2d xr)), .second, .val (.double woffset_ad0), .second, .val (.double x7), .second, .val (.double w23), .second, .val (.int (0 : Int32)), .val (.double x11), .second, .val (.double x22), .second] [(.ref ad0), (.int (0 : Int32))])) rfl rfl (hb hby own_d16_194)
    refine own_step st61 ?_
    show own_Fin p e below s _ _ _ (T61.setTop (mkF m 197 #[.val (.ref ad0), .val (.ref ad0), .val (.ref ad2), .val (.double z3), .second, .val (.double (FP.i2d xb)), .second, .val (.double (FP.i2d xr)), .second, .val (.double woffset_ad0), .second, .val (.double x7), .second, .val (.double w23), .second, .val (.int (0 : Int32)), .val (.double x11), .second, .val (.double x22), .second] [(.int (1 : Int32)), (.int (0 : Int32))]))
    refine own_step (fun _ k => XS.icmpNo X61.here hx rfl (hb hby own_d16_197) rfl (tlt (by decide : (0 : Int32) < (1 : Int32))).2.1 k) ?_
    refine own_step (fun _ k => XS.aloadN X61.here hx rfl (hb hby own_d16_200) rfl rfl k) ?_
    obtain ⟨T62, X62, e62, st62⟩ := getF X61 hx hZ hown (host := "") (Or.inl (own_w hw 10 rfl)) Via.refl e61 G52 (g := (mkF m 201 #[.val (.ref ad0), .val (.ref ad0), .val (.ref ad2), .val (.double z3), .second, .val (.double (FP.i2d xb)), .second, .val (.double (FP.i2d xr)), .second, .val (.double woffset_ad0), .second, .val (.double x7), .second, .val (.double w23), .second, .val (.int (0 : Int32)), .val (.double x11), .second, .val (.double x22), .second] [(.ref ad0)])) rfl rfl (hb hby own_d16_201)
    refine own_step st62 ?_
    show own_Fin p e below s _ _ _ (T62.setTop (mkF m 204 #[.val (.ref ad0), .val (.ref ad0), .val (.ref ad2), .val (.double z3), .second, .val (.double (FP.i2d xb)), .second, .val (.double (FP.i2d xr)), .second, .val (.double woffset_ad0), .second, .val (.double x7), .second, .val (.double w23), .second, .val (.int (0 : Int32)), .val (.double x11), .second, .val (.double x22), .second] [(.ref wjumps_ad0)]))
    refine own_step (fun _ k => XS.iload X62.here hx rfl (hb hby own_d16_204) rfl k) ?_
    refine own_step (fun _ k => XS.dconst0 X62.here hx rfl (hb hby own_d16_206) rfl k) ?_
    refine own_step (fun _ k => XS.aloadN X62.here hx rfl (hb hby own_d16_207) rfl rfl k) ?_
    obtain ⟨T63, X63, e63, st63⟩ := getF X62 hx hZ hown (host := "") (Or.inl (own_w hw 10 rfl)) Via.refl e62 G52 (g := (mkF m 208 #[.val (.ref ad0), .val (.ref ad0), .val (.ref ad2), .val (.double z3), .second, .val (.double (FP.i2d xb)), .second, .val (.double (FP.i2d xr)), .second, .val (.double woffset_ad0), .second, .val (.double x7), .second, .val (.double w23), .second, .val (.int (0 : Int32)), .val (.double x11), .second, .val (.double x22), .second] [(.ref ad0), (.double FP.dconst0), (.int (0 : Int32)), (.ref wjumps_ad0)])) rfl rfl (hb hby own_d16_208)
    refine own_step st63 ?_
    show own_Fin p e below s _ _ _ (T63.setTop (mkF m 211 #[.val (.ref ad0), .val (.ref ad0), .val (.ref ad2), .val (.double z3), .second, .val (.double (FP.i2d xb)), .second, .val (.double (FP.i2d xr)), .second, .val (.double woffset_ad0), .second, .val (.double x7), .second, .val (.double w23), .second, .val (.int (0 : Int32)), .val (.double x11), .second, .val (.double x22), .second] [(.ref wjumps_ad0), (.double FP.dconst0), (.int (0 : Int32)), (.ref wjumps_ad0)]))
    refine own_step (fun _ k => XS.iload X63.here hx rfl (hb hby own_d16_211) rfl k) ?_
    obtain ⟨cl64, Ar64, q64, Sz64, Ng64, Hs64, Gf64⟩ := id G58
    have hin64 : ¬ ((0 : Int32) < 0 ∨ cl64.slots.size ≤ ((0 : Int32)).toNatClampNeg) := inb_of Sz64 ⟨by decide, by decide⟩
    refine own_step (fun _ k => X63.daload hx (j := (0 : Int32)) (v := (.double x22)) (by rw [e63]; exact Ar64.1) (State.isArrayOf_alike hZ.alike Ar64.2.1) Ar64.2.2 hin64 (Has.at Hs64 hin64 rfl) (g := (mkF m 213 #[.val (.ref ad0), .val (.ref ad0), .val (.ref ad2), .val (.double z3), .second, .val (.double (FP.i2d xb)), .second, .val (.double (FP.i2d xr)), .second, .val (.double woffset_ad0), .second, .val (.double x7), .second, .val (.double w23), .second, .val (.int (0 : Int32)), .val (.double x11), .second, .val (.double x22), .second] [(.int (0 : Int32)), (.ref wjumps_ad0), (.double FP.dconst0), (.int (0 : Int32)), (.ref wjumps_ad0)])) rfl rfl (hb hby own_d16_213) _ k) ?_
    refine own_step (fun _ k => XS.aloadN X63.here hx rfl (hb hby own_d16_214) rfl rfl k) ?_
    obtain ⟨T65, X65, e65, st65⟩ := getF X63 hx hZ hown (host := "") (Or.inl (own_w hw 12 rfl)) Via.refl e63 G53 (g := (mkF m 215 #[.val (.ref ad0), .val (.ref ad0), .val (.ref ad2), .val (.double z3), .second, .val (.double (FP.i2d xb)), .second, .val (.double (FP.i2d xr)), .second, .val (.double woffset_ad0), .second, .val (.double x7), .second, .val (.double w23), .second, .val (.int (0 : Int32)), .val (.double x11), .second, .val (.double x22), .second] [(.ref ad0), (.double x22), (.double FP.dconst0), (.int (0 : Int32)), (.ref wjumps_ad0)])) rfl rfl (hb hby own_d16_215)
    refine own_step st65 ?_
    show own_Fin p e below s _ _ _ (T65.setTop (mkF m 218 #[.val (.ref ad0), .val (.ref ad0), .val (.ref ad2), .val (.double z3), .second, .val (.double (FP.i2d xb)), .second, .val (.double (FP.i2d xr)), .second, .val (.double woffset_ad0), .second, .val (.double x7), .second, .val (.double w23), .second, .val (.int (0 : Int32)), .val (.double x11), .second, .val (.double x22), .second] [(.ref wrates_ad0), (.double x22), (.double FP.dconst0), (.int (0 : Int32)), (.ref wjumps_ad0)]))
    refine own_step (fun _ k => XS.iload X65.here hx rfl (hb hby own_d16_218) rfl k) ?_
    obtain ⟨cl66, Ar66, q66, Sz66, Ng66, Hs66, Gf66⟩ := id G59
    have hin66 : ¬ ((0 : Int32) < 0 ∨ cl66.slots.size ≤ ((0 : Int32)).toNatClampNeg) := inb_of Sz66 ⟨by decide, by decide⟩
    refine own_step (fun _ k => X65.daload hx (j := (0 : Int32)) (v := (.double x11)) (by rw [e65]; exact Ar66.1) (State.isArrayOf_alike hZ.alike Ar66.2.1) Ar66.2.2 hin66 (Has.at Hs66 hin66 rfl) (g := (mkF m 220 #[.val (.ref ad0), .val (.ref ad0), .val (.ref ad2), .val (.double z3), .second, .val (.double (FP.i2d xb)), .second, .val (.double (FP.i2d xr)), .second, .val (.double woffset_ad0), .second, .val (.double x7), .second, .val (.double w23), .second, .val (.int (0 : Int32)), .val (.double x11), .second, .val (.double x22), .second] [(.int (0 : Int32)), (.ref wrates_ad0), (.double x22), (.double FP.dconst0), (.int (0 : Int32)), (.ref wjumps_ad0)])) rfl rfl (hb hby own_d16_220) _ k) ?_
    refine own_step (fun _ k => XS.dload X65.here hx rfl (hb hby own_d16_221) rfl k) ?_
    refine own_step (fun _ k => XS.dmulS X65.here hx rfl (hb hby own_d16_223) rfl (show Jvm.Free.Fl.NoNaN64 (FP.dmul x11 w23) from (Jvm.Free.Fl.Mag64.fin (Jvm.Free.Fl.dmul_mag hm11 hj23 (by decide) (by decide)) (by decide)).noNaN) rfl k) ?_
    show own_Fin p e below s _ _ _ (T65.setTop (mkF m 224 #[.val (.ref ad0), .val (.ref ad0), .val (.ref ad2), .val (.double z3), .second, .val (.double (FP.i2d xb)), .second, .val (.double (FP.i2d xr)), .second, .val (.double woffset_ad0), .second, .val (.double x7), .second, .val (.double w23), .second, .val (.int (0 : Int32)), .val (.double x11), .second, .val (.double x22), .second] [(.double (FP.dmul x11 w23)), (.double x22), (.double FP.dconst0), (.int (0 : Int32)), (.ref wjumps_ad0)]))
    show own_Fin p e below s _ _ _ (T65.setTop (mkF m 224 #[.val (.ref ad0), .val (.ref ad0), .val (.ref ad2), .val (.double z3), .second, .val (.double (FP.i2d xb)), .second, .val (.double (FP.i2d xr)), .second, .val (.double woffset_ad0), .second, .val (.double x7), .second, .val (.double w23), .second, .val (.int (0 : Int32)), .val (.double x11), .second, .val (.double x22), .second] [(.double (FP.dmul x11 w23)), (.double x22), (.double FP.dconst0), (.int (0 : Int32)), (.ref wjumps_ad0)]))
    refine own_abs1 (F := fun x67 => own_Fin p e below s ({ frames := 1, cells := 0, slots := 0, locals := 17 } : Room).cells ({ frames := 1, cells := 0, slots := 0, locals := 17 } : Room).slots (own_Q16 Z ad0 ad2 z3 ra0 xb xr wjumps_ad0 wrates_ad0 woffset_ad0 k_wjumps_ad0 k_wrates_ad0 h0 n0) (T65.setTop (mkF m 224 #[.val (.ref ad0), .val (.ref ad0), .val (.ref ad2), .val (.double z3), .second, .val (.double (FP.i2d xb)), .second, .val (.double (FP.i2d xr)), .second, .val (.double woffset_ad0), .second, .val (.double x7), .second, .val (.double w23), .second, .val (.int (0 : Int32)), .val (.double x11), .second, .val (.double x22), .second] [(.double x67), (.double x22), (.double FP.dconst0), (.int (0 : Int32)), (.ref wjumps_ad0)]))) (e := (FP.dmul x11 w23)) fun x67 gx67 => ?_
    have hm67 : Jvm.Free.Fl.Mag64 1236 x67 := by rw [gx67]; have q := (Jvm.Free.Fl.dmul_mag hm11 hj23 (by decide) (by decide)); exact q
    show own_Fin p e below s _ _ _ (T65.setTop (mkF m 224 #[.val (.ref ad0), .val (.ref ad0), .val (.ref ad2), .val (.double z3), .second, .val (.double (FP.i2d xb)), .second, .val (.double (FP.i2d xr)), .second, .val (.double woffset_ad0), .second, .val (.double x7), .second, .val (.double w23), .second, .val (.int (0 : Int32)), .val (.double x11), .second, .val (.double x22), .second] [(.double x67), (.double x22), (.double FP.dconst0), (.int (0 : Int32)), (.ref wjumps_ad0)]))
    refine own_step (fun _ k => XS.daddS X65.here hx rfl (hb hby own_d16_224) rfl (show Jvm.Free.Fl.NoNaN64 (FP.dadd x22 x67) from (Jvm.Free.Fl.Mag64.fin (Jvm.Free.Fl.dadd_mag (K := 1236) (hm22.mono (by decide)) (hm67.mono (by decide)) (by decide)) (by decide)).noNaN) rfl k) ?_
    show own_Fin p e below s _ _ _ (T65.setTop (mkF m 225 #[.val (.ref ad0), .val (.ref ad0), .val (.ref ad2), .val (.double z3), .second, .val (.double (FP.i2d xb)), .second, .val (.double (FP.i2d xr)), .second, .val (.double woffset_ad0), .second, .val (.double x7), .second, .val (.double w23), .second, .val (.int (0 : Int32)), .val (.double x11), .second, .val (.double x22), .second] [(.double (FP.dadd x22 x67)), (.double FP.dconst0), (.int (0 : Int32)), (.ref wjumps_ad0)]))
    refine own_abs1 (F := fun x68 => own_Fin p e below s ({ frames := 1, cells := 0, slots := 0, locals := 17 } : Room).cells ({ frames := 1, cells := 0, slots := 0, locals := 17 } : Room).slots (own_Q16 Z ad0 ad2 z3 ra0 xb xr wjumps_ad0 wrates_ad0 woffset_ad0 k_wjumps_ad0 k_wrates_ad0 h0 n0) (T65.setTop (mkF m 225 #[.val (.ref ad0), .val (.ref ad0), .val (.ref ad2), .val (.double z3), .second, .val (.double (FP.i2d xb)), .second, .val (.double (FP.i2d xr)), .second, .val (.double woffset_ad0), .second, .val (.double x7), .second, .val (.double w23), .second, .val (.int (0 : Int32)), .val (.double x11), .second, .val (.double x22), .second] [(.double x68), (.double FP.dconst0), (.int (0 : Int32)), (.ref wjumps_ad0)]))) (e := (FP.dadd x22 x67)) fun x68 gx68 => ?_
    have hm68 : Jvm.Free.Fl.Mag64 1238 x68 := by rw [gx68]; have q := (Jvm.Free.Fl.dadd_mag (K := 1236) (hm22.mono (by decide)) (hm67.mono (by decide)) (by decide)); exact q
    show own_Fin p e below s _ _ _ (T65.setTop (mkF m 225 #[.val (.ref ad0), .val (.ref ad0), .val (.ref ad2), .val (.double z3), .second, .val (.double (FP.i2d xb)), .second, .val (.double (FP.i2d xr)), .second, .val (.double woffset_ad0), .second, .val (.double x7), .second, .val (.double w23), .second, .val (.int (0 : Int32)), .val (.double x11), .second, .val (.double x22), .second] [(.double x68), (.double FP.dconst0), (.int (0 : Int32)), (.ref wjumps_ad0)]))
    obtain ⟨T69, X69, e69, st69⟩ := natS X65 hx hZ hown (own_w hw 116 rfl) (own_w hw 117 rfl) (own_w hw 118 rfl) (show (Jvm.Cond.code Jvm.Free.Fl.Abs.maxDN Jvm.Free.Fl.Abs.maxDCode 4 (some .double)).before a0 Z = true from (own_w hw 119 rfl)) (by decide) e65 (fun hcd => Jvm.Free.Fl.Abs.maxD_pays (W := 2) FP.dconst0 x68 hcd (by decide) (by decide)) (g := (mkF m 225 #[.val (.ref ad0), .val (.ref ad0), .val (.ref ad2), .val (.double z3), .second, .val (.double (FP.i2d xb)), .second, .val (.double (FP.i2d xr)), .second, .val (.double woffset_ad0), .second, .val (.double x7), .second, .val (.double w23), .second, .val (.int (0 : Int32)), .val (.double x11), .second, .val (.double x22), .second] [(.double x68), (.double FP.dconst0), (.int (0 : Int32)), (.ref wjumps_ad0)])) rfl (by rw [hml]; rfl) (argsL := [(.double FP.dconst0), (.double x68)]) (rest := [(.int (0 : Int32)), (.ref wjumps_ad0)]) (lenOf own_pd2 rfl) rfl (by show 2 * 0 + _ ≤ _; exact Nat.le_of_eq rfl) (hb hby own_d16_225) (by decide) (by decide) ⟨rfl, (Jvm.Free.Fl.Mag64.fin (own_m0) (by decide)).noNaN, (Jvm.Free.Fl.Mag64.fin hm68 (by decide)).noNaN⟩ (val' := (.double (Jvm.Native.java_lang_Math.nans.pick64 true FP.dconst0 x68))) rfl
    refine own_step st69 ?_
    show own_Fin p e below s _ _ _ (T69.setTop (mkF m 228 #[.val (.ref ad0), .val (.ref ad0), .val (.ref ad2), .val (.double z3), .second, .val (.double (FP.i2d xb)), .second, .val (.double (FP.i2d xr)), .second, .val (.double woffset_ad0), .second, .val (.double x7), .second, .val (.double w23), .second, .val (.int (0 : Int32)), .val (.double x11), .second, .val (.double x22), .second] [(.double (Jvm.Native.java_lang_Math.nans.pick64 true FP.dconst0 x68)), (.int (0 : Int32)), (.ref wjumps_ad0)]))
    show own_Fin p e below s _ _ _ (T69.setTop (mkF m 228 #[.val (.ref ad0), .val (.ref ad0), .val (.ref ad2), .val (.double z3), .second, .val (.double (FP.i2d xb)), .second, .val (.double (FP.i2d xr)), .second, .val (.double woffset_ad0), .second, .val (.double x7), .second, .val (.double w23), .second, .val (.int (0 : Int32)), .val (.double x11), .second, .val (.double x22), .second] [(.double (Jvm.Native.java_lang_Math.nans.pick64 true FP.dconst0 x68)), (.int (0 : Int32)), (.ref wjumps_ad0)]))
    refine own_abs1 (F := fun x70 => own_Fin p e below s ({ frames := 1, cells := 0, slots := 0, locals := 17 } : Room).cells ({ frames := 1, cells := 0, slots := 0, locals := 17 } : Room).slots (own_Q16 Z ad0 ad2 z3 ra0 xb xr wjumps_ad0 wrates_ad0 woffset_ad0 k_wjumps_ad0 k_wrates_ad0 h0 n0) (T69.setTop (mkF m 228 #[.val (.ref ad0), .val (.ref ad0), .val (.ref ad2), .val (.double z3), .second, .val (.double (FP.i2d xb)), .second, .val (.double (FP.i2d xr)), .second, .val (.double woffset_ad0), .second, .val (.double x7), .second, .val (.double w23), .second, .val (.int (0 : Int32)), .val (.double x11), .second, .val (.double x22), .second] [(.double x70), (.int (0 : Int32)), (.ref wjumps_ad0)]))) (e := (Jvm.Native.java_lang_Math.nans.pick64 true FP.dconst0 x68)) fun x70 gx70 => ?_
    have hm70 : Jvm.Free.Fl.Mag64 1238 x70 := by rw [gx70]; exact (Jvm.Free.Fl.pick64_mag ((own_m0).mono (by decide)) (hm68.mono (by decide)) : Jvm.Free.Fl.Mag64 1238 _)
    show own_Fin p e below s _ _ _ (T69.setTop (mkF m 228 #[.val (.ref ad0), .val (.ref ad0), .val (.ref ad2), .val (.double z3), .second, .val (.double (FP.i2d xb)), .second, .val (.double (FP.i2d xr)), .second, .val (.double woffset_ad0), .second, .val (.double x7), .second, .val (.double w23), .second, .val (.int (0 : Int32)), .val (.double x11), .second, .val (.double x22), .second] [(.double x70), (.int (0 : Int32)), (.ref wjumps_ad0)]))
    obtain ⟨cl71, Ar71, q71, Sz71, Ng71, Hs71, Gf71⟩ := id G58
    have hin71 : ¬ ((0 : Int32) < 0 ∨ cl71.slots.size ≤ ((0 : Int32)).toNatClampNeg) := inb_of Sz71 ⟨by decide, by decide⟩
    obtain ⟨T71, h71, X71, e71, W71, st71⟩ := stD X69 hx hZ e69 Ar71 (j := (0 : Int32)) hin71 (g := (mkF m 228 #[.val (.ref ad0), .val (.ref ad0), .val (.ref ad2), .val (.double z3), .second, .val (.double (FP.i2d xb)), .second, .val (.double (FP.i2d xr)), .second, .val (.double woffset_ad0), .second, .val (.double x7), .second, .val (.double w23), .second, .val (.int (0 : Int32)), .val (.double x11), .second, .val (.double x22), .second] [(.double x70), (.int (0 : Int32)), (.ref wjumps_ad0)])) rfl rfl (hb hby own_d16_228)
    have N71 := Fr.snoc X71 N50 g_wjumps_ad0
    have K71 : Keep h0 h71 [wjumps_ad0, wrates_ad0, ad0] := K50.wr W71 (Or.inl (List.mem_of_getElem? (i := 0) rfl))
    have Z71 : n0 ≤ h71.size := Nat.le_trans Z50 (Keep.of_wr W71).1
    have G72 := (G51.wr W71)
    have G73 := (G52.other W71 (Or.inl ne_ad0_wjumps_ad0))
    have G74 := (G53.other W71 (Or.inl ne_ad0_wjumps_ad0))
    have G75 := (G54.other W71 (Or.inl ne_ad0_wjumps_ad0))
    have G76 := (G55.wr W71)
    have G77 := (G56.other W71 (Or.inl ne_ad2_wjumps_ad0))
    have G78 := (G57.other W71 (Or.inl ne_ad2_wjumps_ad0))
    have G79 := (G59.other W71 ne_wrates_ad0_wjumps_ad0)
    have G80 := (G60.other W71 (Or.inl ne_ad0_wjumps_ad0))
    have G81 : Arv Z h71 wjumps_ad0 k_wjumps_ad0 .double (4 : Int32) [(.double x70), (.double (0 : UInt64))] (.double (0 : UInt64)) := Arv.set Ar71 q71 Sz71 Ng71 Hs71 Gf71 rfl W71 0 rfl (Nat.le_of_ble_eq_true rfl)
    refine own_step st71 ?_
    show own_Fin p e below s _ _ _ (T71.setTop (mkF m 229 #[.val (.ref ad0), .val (.ref ad0), .val (.ref ad2), .val (.double z3), .second, .val (.double (FP.i2d xb)), .second, .val (.double (FP.i2d xr)), .second, .val (.double woffset_ad0), .second, .val (.double x7), .second, .val (.double w23), .second, .val (.int (0 : Int32)), .val (.double x11), .second, .val (.double x22), .second] []))
    refine own_step (fun _ k => XS.iinc X71.here hx rfl (hb hby own_d16_229) rfl (l' := #[.val (.ref ad0), .val (.ref ad0), .val (.ref ad2), .val (.double z3), .second, .val (.double (FP.i2d xb)), .second, .val (.double (FP.i2d xr)), .second, .val (.double woffset_ad0), .second, .val (.double x7), .second, .val (.double w23), .second, .val (.int ((0 : Int32) + (1 : Int32))), .val (.double x11), .second, .val (.double x22), .second]) rfl k) ?_
    show own_Fin p e below s _ _ _ (T71.setTop (mkF m 232 #[.val (.ref ad0), .val (.ref ad0), .val (.ref ad2), .val (.double z3), .second, .val (.double (FP.i2d xb)), .second, .val (.double (FP.i2d xr)), .second, .val (.double woffset_ad0), .second, .val (.double x7), .second, .val (.double w23), .second, .val (.int ((0 : Int32) + (1 : Int32))), .val (.double x11), .second, .val (.double x22), .second] []))
    rw [show ((0 : Int32) + (1 : Int32)) = (1 : Int32) from by decide]
    show own_Fin p e below s _ _ _ (T71.setTop (mkF m 232 #[.val (.ref ad0), .val (.ref ad0), .val (.ref ad2), .val (.double z3), .second, .val (.double (FP.i2d xb)), .second, .val (.double (FP.i2d xr)), .second, .val (.double woffset_ad0), .second, .val (.double x7), .second, .val (.double w23), .second, .val (.int (1 : Int32)), .val (.double x11), .second, .val (.double x22), .second] []))
    refine own_step (fun _ k => XS.goto X71.here hx rfl (pc0 := 232) (pc' := 191) rfl (hb hby own_d16_232) (by decide) (by decide) k) ?_
    refine own_step (fun _ k => XS.iload X71.here hx rfl (hb hby own_d16_191) rfl k) ?_
    refine own_step (fun _ k => XS.aloadN X71.here hx rfl (hb hby own_d16_193) rfl rfl k) ?_
    obtain ⟨T82, X82, e82, st82⟩ := getF X71 hx hZ hown (host := "") (Or.inl (own_w hw 37 rfl)) Via.refl e71 G80 (g := (mkF m 194 #[.val (.ref ad0), .val (.ref ad0), .val (.ref ad2), .val (.double z3), .second, .val (.double (FP.i2d xb)), .second, .val (.double (FP.i2d xr)), .second, .val (.double woffset_ad0), .second, .val (.double x7), .second, .val (.double w23), .second, .val (.int (1 : Int32)), .val (.double x11), .second, .val (.double x22), .second] [(.ref ad0), (.int (1 : Int32))])) rfl rfl (hb hby own_d16_194)
    refine own_step st82 ?_
    show own_Fin p e below s _ _ _ (T82.setTop (mkF m 197 #[.val (.ref ad0), .val (.ref ad0), .val (.ref ad2), .val (.double z3), .second, .val (.double (FP.i2d xb)), .second, .val (.double (FP.i2d xr)), .second, .val (.double woffset_ad0), .second, .val (.double x7), .second, .val (.double w23), .second, .val (.int (1 : Int32)), .val (.double x11), .second, .val (.double x22), .second] [(.int (1 : Int32)), (.int (1 : Int32))]))
    refine own_step (fun _ k => XS.icmpYes X82.here hx rfl (pc0 := 197) (pc' := 235) rfl (hb hby own_d16_197) rfl (flt (by decide : ¬ ((1 : Int32) < (1 : Int32)))).2.1 (by decide) (by decide) k) ?_
    refine own_step (fun _ k => XS.aloadN X82.here hx rfl (hb hby own_d16_235) rfl rfl k) ?_
    refine own_step (fun _ k => XS.dload X82.here hx rfl (hb hby own_d16_236) rfl k) ?_
    refine own_step (fun _ k => XS.dload X82.here hx rfl (hb hby own_d16_238) rfl k) ?_
    show own_Fin p e below s _ _ _ (T82.setTop (mkF m 240 #[.val (.ref ad0), .val (.ref ad0), .val (.ref ad2), .val (.double z3), .second, .val (.double (FP.i2d xb)), .second, .val (.double (FP.i2d xr)), .second, .val (.double woffset_ad0), .second, .val (.double x7), .second, .val (.double w23), .second, .val (.int (1 : Int32)), .val (.double x11), .second, .val (.double x22), .second] [(.double w23), (.double x7), (.ref ad0)]))
    refine own_step (fun _ k => XS.daddS X82.here hx rfl (hb hby own_d16_240) rfl (show Jvm.Free.Fl.NoNaN64 (FP.dadd x7 w23) from (Jvm.Free.Fl.Mag64.fin (Jvm.Free.Fl.dadd_mag (K := 1200) (hm7.mono (by decide)) (hj23.mono (by decide)) (by decide)) (by decide)).noNaN) rfl k) ?_
    show own_Fin p e below s _ _ _ (T82.setTop (mkF m 241 #[.val (.ref ad0), .val (.ref ad0), .val (.ref ad2), .val (.double z3), .second, .val (.double (FP.i2d xb)), .second, .val (.double (FP.i2d xr)), .second, .val (.double woffset_ad0), .second, .val (.double x7), .second, .val (.double w23), .second, .val (.int (1 : Int32)), .val (.double x11), .second, .val (.double x22), .second] [(.double (FP.dadd x7 w23)), (.ref ad0)]))
    refine own_abs1 (F := fun x83 => own_Fin p e below s ({ frames := 1, cells := 0, slots := 0, locals := 17 } : Room).cells ({ frames := 1, cells := 0, slots := 0, locals := 17 } : Room).slots (own_Q16 Z ad0 ad2 z3 ra0 xb xr wjumps_ad0 wrates_ad0 woffset_ad0 k_wjumps_ad0 k_wrates_ad0 h0 n0) (T82.setTop (mkF m 241 #[.val (.ref ad0), .val (.ref ad0), .val (.ref ad2), .val (.double z3), .second, .val (.double (FP.i2d xb)), .second, .val (.double (FP.i2d xr)), .second, .val (.double woffset_ad0), .second, .val (.double x7), .second, .val (.double w23), .second, .val (.int (1 : Int32)), .val (.double x11), .second, .val (.double x22), .second] [(.double x83), (.ref ad0)]))) (e := (FP.dadd x7 w23)) fun x83 gx83 => ?_
    have hm83 : Jvm.Free.Fl.Mag64 1202 x83 := by rw [gx83]; have q := (Jvm.Free.Fl.dadd_mag (K := 1200) (hm7.mono (by decide)) (hj23.mono (by decide)) (by decide)); exact q
    show own_Fin p e below s _ _ _ (T82.setTop (mkF m 241 #[.val (.ref ad0), .val (.ref ad0), .val (.ref ad2), .val (.double z3), .second, .val (.double (FP.i2d xb)), .second, .val (.double (FP.i2d xr)), .second, .val (.double woffset_ad0), .second, .val (.double x7), .second, .val (.double w23), .second, .val (.int (1 : Int32)), .val (.double x11), .second, .val (.double x22), .second] [(.double x83), (.ref ad0)]))
    obtain ⟨T84, h84, X84, e84, W84, st84⟩ := putF X82 hx hZ hown (host := "") (Or.inl (own_w hw 35 rfl)) Via.refl e82 G75 G72 (Or.inl (own_w hw 36 rfl)) (own_w hw 1 rfl) (ty := .double) (by decide) rfl rfl (g := (mkF m 241 #[.val (.ref ad0), .val (.ref ad0), .val (.ref ad2), .val (.double z3), .second, .val (.double (FP.i2d xb)), .second, .val (.double (FP.i2d xr)), .second, .val (.double woffset_ad0), .second, .val (.double x7), .second, .val (.double w23), .second, .val (.int (1 : Int32)), .val (.double x11), .second, .val (.double x22), .second] [(.double x83), (.ref ad0)])) rfl rfl (hb hby own_d16_241)
    have N84 := Fr.snoc X84 N71 g_ad0
    have K84 : Keep h0 h84 [wjumps_ad0, wrates_ad0, ad0] := K71.wr W84 (Or.inl (List.mem_of_getElem? (i := 2) rfl))
    have Z84 : n0 ≤ h84.size := Nat.le_trans Z71 (Keep.of_wr W84).1
    have G85 := (G72.wr W84)
    have G86 := (G73.other W84 (Or.inr (slot_ne (Or.inr (own_w hw 11 rfl)) (Or.inl (own_w hw 36 rfl)) (by decide) (t := (.array .double)) (t' := .double) (by decide) (by decide))))
    have G87 := (G74.other W84 (Or.inr (slot_ne (Or.inr (own_w hw 13 rfl)) (Or.inl (own_w hw 36 rfl)) (by decide) (t := (.array .double)) (t' := .double) (by decide) (by decide))))
    have G88 := (G76.wr W84)
    have G89 := (G77.other W84 (Or.inl ne_ad2_ad0))
    have G90 := (G78.other W84 (Or.inl ne_ad2_ad0))
    have G91 := (G79.other W84 ne_wrates_ad0_ad0)
    have G92 := (G80.other W84 (Or.inr (slot_ne (Or.inl (own_w hw 38 rfl)) (Or.inl (own_w hw 36 rfl)) (by decide) (t := .int) (t' := .double) (by decide) (by decide))))
    have G93 := (G81.other W84 ne_wjumps_ad0_ad0)
    have G94 := G75.same W84
    refine own_step st84 ?_
    show own_Fin p e below s _ _ _ (T84.setTop (mkF m 244 #[.val (.ref ad0), .val (.ref ad0), .val (.ref ad2), .val (.double z3), .second, .val (.double (FP.i2d xb)), .second, .val (.double (FP.i2d xr)), .second, .val (.double woffset_ad0), .second, .val (.double x7), .second, .val (.double w23), .second, .val (.int (1 : Int32)), .val (.double x11), .second, .val (.double x22), .second] []))
    refine own_step (fun _ k => XS.aloadN X84.here hx rfl (hb hby own_d16_244) rfl rfl k) ?_
    exact own_ret X84 hlk (v := some (.ref ad0)) (fun h => by rw [Bd.returns] at h; cases h) (by decide) (by decide) (by show own_Q16 Z ad0 ad2 z3 ra0 xb xr wjumps_ad0 wrates_ad0 woffset_ad0 k_wjumps_ad0 k_wrates_ad0 h0 n0 _ T84.heap _; rw [e84]; exact ⟨N84, K84, (.int (1 : Int32)), (.double x83), rfl, G85, G86, G87, G92, G94⟩) (fun fs hr => retOut X84 hx Bd.returns rfl (Or.inr (Or.inr (Or.inr (Or.inr ⟨rfl, rfl, rfl⟩)))) (hb hby own_d16_245) hr)
  · intro J23
    show own_Fin p e below s _ _ _ (T14.setTop (mkF m 110 #[.val (.ref ad0), .val (.ref ad0), .val (.ref ad2), .val (.double z3), .second, .val (.double (FP.i2d xb)), .second, .val (.double (FP.i2d xr)), .second, .val (.double woffset_ad0), .second, .val (.double x7), .second, .val (.double FP.dconst0), .second, .val (.int (0 : Int32)), .val (.double x11), .second, .val (.double x22), .second] []))
    refine own_step (fun _ k => XS.dload X14.here hx rfl (hb hby own_d16_110) rfl k) ?_
    refine own_step (fun _ k => XS.dconst0 X14.here hx rfl (hb hby own_d16_112) rfl k) ?_
    refine own_step (fun _ k => XS.dcmpS X14.here hx rfl (hb hby own_d16_113) rfl rfl k) ?_
    by_cases hc95 : (cmpValue (FP.dcmp x11 FP.dconst0) .g) < (0 : Int32)
    · refine own_step (fun _ k => XS.ifYes X14.here hx rfl (pc0 := 114) (pc' := 131) rfl (hb hby own_d16_114) rfl ((if0 _ _).trans (tlt hc95).1) (by decide) (by decide) k) ?_
      show own_Fin p e below s _ _ _ (T14.setTop (mkF m 131 #[.val (.ref ad0), .val (.ref ad0), .val (.ref ad2), .val (.double z3), .second, .val (.double (FP.i2d xb)), .second, .val (.double (FP.i2d xr)), .second, .val (.double woffset_ad0), .second, .val (.double x7), .second, .val (.double FP.dconst0), .second, .val (.int (0 : Int32)), .val (.double x11), .second, .val (.double x22), .second] []))
      refine own_step (fun _ k => XS.aloadN X14.here hx rfl (hb hby own_d16_131) rfl rfl k) ?_
      obtain ⟨cq96, q96, q96'⟩ := E_ad0.cell
      obtain ⟨_, _, ⟨T96, L96, k96, n96⟩, -, X96, ⟨Lc96, hQ96, l96, y96, z96⟩, st96⟩ := X14.privateBack hx (y := own_y6) hown (mvT hZ (own_w hw 120 rfl)) (mvT hZ (own_w hw 121 rfl)) (Jvm.Kit.selects_private (by decide) (mvT hZ (own_w hw 1 rfl)) (mvP hZ (own_w hw 122 rfl)) (mvT hZ (own_w hw 121 rfl))) (Cond.privateMethod_at (mvP hZ (own_w hw 122 rfl) (args := #[]))) (mvT hZ (own_w hw 123 rfl)) (by decide) (backOf (W := 0) (own_rm11 l Z a0 hw [] ad0 wjumps_ad0 wrates_ad0 ((.double woffset_ad0)) ((.int (1 : Int32))) h0 n0 Z0 E_ad0 F_jumps_ad0 F_rates_ad0 F_offset_ad0 F_pieces_ad0 g_ad0) hZ (own_w hw 123 rfl) (own_w hw 2 rfl) (by decide) (by decide)) (g := (mkF m 132 #[.val (.ref ad0), .val (.ref ad0), .val (.ref ad2), .val (.double z3), .second, .val (.double (FP.i2d xb)), .second, .val (.double (FP.i2d xr)), .second, .val (.double woffset_ad0), .second, .val (.double x7), .second, .val (.double FP.dconst0), .second, .val (.int (0 : Int32)), .val (.double x11), .second, .val (.double x22), .second] [(.ref ad0)])) rfl (by rw [hml]; rfl) (Steps.refl _) (a := ad0) (by rw [e14]; exact q96) q96' (argsL := []) (rest := []) (lenOf own_pd4 rfl) rfl (by show 2 * 0 + _ ≤ _; exact Nat.le_of_eq rfl) (hb hby own_d16_132) (fun _ _ => ⟨rfl, e14, (by decide : 0 + 0 ≤ _), (by decide : 0 + 0 ≤ _)⟩)
      dsimp only [Pt.U, Pt.locs, Pt.cells, Pt.slots] at X96 l96 y96 z96 st96 hQ96
      subst l96 y96 z96
      obtain ⟨N96q, K96q, rfl, G97, G98, G99, G100, G101⟩ := hQ96
      have N96 := Fr.app N2 N96q
      have K96 : Keep h0 T96.heap [wjumps_ad0, wrates_ad0, ad0] := KR.trans K96q (allS (P := fun x => x ∈ [wjumps_ad0, wrates_ad0, ad0] ∨ h0.size ≤ x) (Or.inl (List.mem_of_getElem? (i := 2) rfl)) all0)
      have Z96 : n0 ≤ T96.heap.size := Nat.le_trans Z0 K96q.1
      have G102 := (E_ad0.keep K96q)
      have G103 := (A_wjumps_ad0.keep K96q (ninS ne_wjumps_ad0_ad0 nin0))
      have G104 := (A_wrates_ad0.keep K96q (ninS ne_wrates_ad0_ad0 nin0))
      have G105 := (E_ad2.keep K96q)
      have G106 := (F_burst_ad2.keep K96q (ninS ne_ad2_ad0 nin0))
      have G107 := (F_rate_ad2.keep K96q (ninS ne_ad2_ad0 nin0))
      refine own_step (fun _ k => st96.trans k) ?_
      show own_Fin p e below s _ _ _ (T96.setTop (mkF m 135 #[.val (.ref ad0), .val (.ref ad0), .val (.ref ad2), .val (.double z3), .second, .val (.double (FP.i2d xb)), .second, .val (.double (FP.i2d xr)), .second, .val (.double woffset_ad0), .second, .val (.double x7), .second, .val (.double FP.dconst0), .second, .val (.int (0 : Int32)), .val (.double x11), .second, .val (.double x22), .second] [(.ref ad0)]))
      exact own_ret X96 hlk (v := some (.ref ad0)) (fun h => by rw [Bd.returns] at h; cases h) (by decide) (by decide) (by show own_Q16 Z ad0 ad2 z3 ra0 xb xr wjumps_ad0 wrates_ad0 woffset_ad0 k_wjumps_ad0 k_wrates_ad0 h0 n0 _ T96.heap _; exact ⟨N96, K96, (.int (0 : Int32)), (.double (9218868437227405312 : UInt64)), rfl, G97, G98, G99, G101, G100⟩) (fun fs hr => retOut X96 hx Bd.returns rfl (Or.inr (Or.inr (Or.inr (Or.inr ⟨rfl, rfl, rfl⟩)))) (hb hby own_d16_135) hr)
    · refine own_step (fun _ k => XS.ifNo X14.here hx rfl (hb hby own_d16_114) rfl ((if0 _ _).trans (flt hc95).1) k) ?_
      show own_Fin p e below s _ _ _ (T14.setTop (mkF m 117 #[.val (.ref ad0), .val (.ref ad0), .val (.ref ad2), .val (.double z3), .second, .val (.double (FP.i2d xb)), .second, .val (.double (FP.i2d xr)), .second, .val (.double woffset_ad0), .second, .val (.double x7), .second, .val (.double FP.dconst0), .second, .val (.int (0 : Int32)), .val (.double x11), .second, .val (.double x22), .second] []))
      refine own_step (fun _ k => XS.dload X14.here hx rfl (hb hby own_d16_117) rfl k) ?_
      refine own_step (fun _ k => XS.dconst0 X14.here hx rfl (hb hby own_d16_119) rfl k) ?_
      refine own_step (fun _ k => XS.dcmpS X14.here hx rfl (hb hby own_d16_120) rfl rfl k) ?_
      by_cases hc108 : (cmpValue (FP.dcmp x11 FP.dconst0) .l) = (0 : Int32)
      · refine own_step (fun _ k => XS.ifNo X14.here hx rfl (hb hby own_d16_121) rfl ((if0 _ _).trans (teq hc108).2) k) ?_
        show own_Fin p e below s _ _ _ (T14.setTop (mkF m 124 #[.val (.ref ad0), .val (.ref ad0), .val (.ref ad2), .val (.double z3), .second, .val (.double (FP.i2d xb)), .second, .val (.double (FP.i2d xr)), .second, .val (.double woffset_ad0), .second, .val (.double x7), .second, .val (.double FP.dconst0), .second, .val (.int (0 : Int32)), .val (.double x11), .second, .val (.double x22), .second] []))
        refine own_step (fun _ k => XS.dload X14.here hx rfl (hb hby own_d16_124) rfl k) ?_
        refine own_step (fun _ k => XS.dconst0 X14.here hx rfl (hb hby own_d16_126) rfl k) ?_
        refine own_step (fun _ k => XS.dcmpS X14.here hx rfl (hb hby own_d16_127) rfl rfl k) ?_
        by_cases hc109 : (cmpValue (FP.dcmp x22 FP.dconst0) .g) < (0 : Int32)
        · refine own_step (fun _ k => XS.ifNo X14.here hx rfl (hb hby own_d16_128) rfl ((if0 _ _).trans (tlt hc109).2.1) k) ?_
          show own_Fin p e below s _ _ _ (T14.setTop (mkF m 131 #[.val (.ref ad0), .val (.ref ad0), .val (.ref ad2), .val (.double z3), .second, .val (.double (FP.i2d xb)), .second, .val (.double (FP.i2d xr)), .second, .val (.double woffset_ad0), .second, .val (.double x7), .second, .val (.double FP.dconst0), .second, .val (.int (0 : Int32)), .val (.double x11), .second, .val (.double x22), .second] []))
          refine own_step (fun _ k => XS.aloadN X14.here hx rfl (hb hby own_d16_131) rfl rfl k) ?_
          obtain ⟨cq110, q110, q110'⟩ := E_ad0.cell
          obtain ⟨_, _, ⟨T110, L110, k110, n110⟩, -, X110, ⟨Lc110, hQ110, l110, y110, z110⟩, st110⟩ := X14.privateBack hx (y := own_y6) hown (mvT hZ (own_w hw 120 rfl)) (mvT hZ (own_w hw 121 rfl)) (Jvm.Kit.selects_private (by decide) (mvT hZ (own_w hw 1 rfl)) (mvP hZ (own_w hw 122 rfl)) (mvT hZ (own_w hw 121 rfl))) (Cond.privateMethod_at (mvP hZ (own_w hw 122 rfl) (args := #[]))) (mvT hZ (own_w hw 123 rfl)) (by decide) (backOf (W := 0) (own_rm11 l Z a0 hw [] ad0 wjumps_ad0 wrates_ad0 ((.double woffset_ad0)) ((.int (1 : Int32))) h0 n0 Z0 E_ad0 F_jumps_ad0 F_rates_ad0 F_offset_ad0 F_pieces_ad0 g_ad0) hZ (own_w hw 123 rfl) (own_w hw 2 rfl) (by decide) (by decide)) (g := (mkF m 132 #[.val (.ref ad0), .val (.ref ad0), .val (.ref ad2), .val (.double z3), .second, .val (.double (FP.i2d xb)), .second, .val (.double (FP.i2d xr)), .second, .val (.double woffset_ad0), .second, .val (.double x7), .second, .val (.double FP.dconst0), .second, .val (.int (0 : Int32)), .val (.double x11), .second, .val (.double x22), .second] [(.ref ad0)])) rfl (by rw [hml]; rfl) (Steps.refl _) (a := ad0) (by rw [e14]; exact q110) q110' (argsL := []) (rest := []) (lenOf own_pd4 rfl) rfl (by show 2 * 0 + _ ≤ _; exact Nat.le_of_eq rfl) (hb hby own_d16_132) (fun _ _ => ⟨rfl, e14, (by decide : 0 + 0 ≤ _), (by decide : 0 + 0 ≤ _)⟩)
          dsimp only [Pt.U, Pt.locs, Pt.cells, Pt.slots] at X110 l110 y110 z110 st110 hQ110
          subst l110 y110 z110
          obtain ⟨N110q, K110q, rfl, G111, G112, G113, G114, G115⟩ := hQ110
          have N110 := Fr.app N2 N110q
          have K110 : Keep h0 T110.heap [wjumps_ad0, wrates_ad0, ad0] := KR.trans K110q (allS (P := fun x => x ∈ [wjumps_ad0, wrates_ad0, ad0] ∨ h0.size ≤ x) (Or.inl (List.mem_of_getElem? (i := 2) rfl)) all0)
          have Z110 : n0 ≤ T110.heap.size := Nat.le_trans Z0 K110q.1
          have G116 := (E_ad0.keep K110q)
          have G117 := (A_wjumps_ad0.keep K110q (ninS ne_wjumps_ad0_ad0 nin0))
          have G118 := (A_wrates_ad0.keep K110q (ninS ne_wrates_ad0_ad0 nin0))
          have G119 := (E_ad2.keep K110q)
          have G120 := (F_burst_ad2.keep K110q (ninS ne_ad2_ad0 nin0))
          have G121 := (F_rate_ad2.keep K110q (ninS ne_ad2_ad0 nin0))
          refine own_step (fun _ k => st110.trans k) ?_
          show own_Fin p e below s _ _ _ (T110.setTop (mkF m 135 #[.val (.ref ad0), .val (.ref ad0), .val (.ref ad2), .val (.double z3), .second, .val (.double (FP.i2d xb)), .second, .val (.double (FP.i2d xr)), .second, .val (.double woffset_ad0), .second, .val (.double x7), .second, .val (.double FP.dconst0), .second, .val (.int (0 : Int32)), .val (.double x11), .second, .val (.double x22), .second] [(.ref ad0)]))
          exact own_ret X110 hlk (v := some (.ref ad0)) (fun h => by rw [Bd.returns] at h; cases h) (by decide) (by decide) (by show own_Q16 Z ad0 ad2 z3 ra0 xb xr wjumps_ad0 wrates_ad0 woffset_ad0 k_wjumps_ad0 k_wrates_ad0 h0 n0 _ T110.heap _; exact ⟨N110, K110, (.int (0 : Int32)), (.double (9218868437227405312 : UInt64)), rfl, G111, G112, G113, G115, G114⟩) (fun fs hr => retOut X110 hx Bd.returns rfl (Or.inr (Or.inr (Or.inr (Or.inr ⟨rfl, rfl, rfl⟩)))) (hb hby own_d16_135) hr)
        · refine own_step (fun _ k => XS.ifYes X14.here hx rfl (pc0 := 128) (pc' := 136) rfl (hb hby own_d16_128) rfl ((if0 _ _).trans (flt hc109).2.1) (by decide) (by decide) k) ?_
          show own_Fin p e below s _ _ _ (T14.setTop (mkF m 136 #[.val (.ref ad0), .val (.ref ad0), .val (.ref ad2), .val (.double z3), .second, .val (.double (FP.i2d xb)), .second, .val (.double (FP.i2d xr)), .second, .val (.double woffset_ad0), .second, .val (.double x7), .second, .val (.double FP.dconst0), .second, .val (.int (0 : Int32)), .val (.double x11), .second, .val (.double x22), .second] []))
          refine own_step (fun _ k => XS.dload X14.here hx rfl (hb hby own_d16_136) rfl k) ?_
          refine own_step (fun _ k => XS.dconst0 X14.here hx rfl (hb hby own_d16_138) rfl k) ?_
          refine own_step (fun _ k => XS.dcmpS X14.here hx rfl (hb hby own_d16_139) rfl rfl k) ?_
          refine own_step (fun _ k => XS.ifYes X14.here hx rfl (pc0 := 140) (pc' := 156) rfl (hb hby own_d16_140) rfl ((if0 _ _).trans (flt hc109).2.1) (by decide) (by decide) k) ?_
          show own_Fin p e below s _ _ _ (T14.setTop (mkF m 156 #[.val (.ref ad0), .val (.ref ad0), .val (.ref ad2), .val (.double z3), .second, .val (.double (FP.i2d xb)), .second, .val (.double (FP.i2d xr)), .second, .val (.double woffset_ad0), .second, .val (.double x7), .second, .val (.double FP.dconst0), .second, .val (.int (0 : Int32)), .val (.double x11), .second, .val (.double x22), .second] []))
          exact J23 _ X14 e14 FP.dconst0 ((own_m0).mono (by decide))
      · refine own_step (fun _ k => XS.ifYes X14.here hx rfl (pc0 := 121) (pc' := 136) rfl (hb hby own_d16_121) rfl ((if0 _ _).trans (feq hc108).2) (by decide) (by decide) k) ?_
        show own_Fin p e below s _ _ _ (T14.setTop (mkF m 136 #[.val (.ref ad0), .val (.ref ad0), .val (.ref ad2), .val (.double z3), .second, .val (.double (FP.i2d xb)), .second, .val (.double (FP.i2d xr)), .second, .val (.double woffset_ad0), .second, .val (.double x7), .second, .val (.double FP.dconst0), .second, .val (.int (0 : Int32)), .val (.double x11), .second, .val (.double x22), .second] []))
        refine own_step (fun _ k => XS.dload X14.here hx rfl (hb hby own_d16_136) rfl k) ?_
        refine own_step (fun _ k => XS.dconst0 X14.here hx rfl (hb hby own_d16_138) rfl k) ?_
        refine own_step (fun _ k => XS.dcmpS X14.here hx rfl (hb hby own_d16_139) rfl rfl k) ?_
        by_cases hc122 : (cmpValue (FP.dcmp x22 FP.dconst0) .g) < (0 : Int32)
        · refine own_step (fun _ k => XS.ifNo X14.here hx rfl (hb hby own_d16_140) rfl ((if0 _ _).trans (tlt hc122).2.1) k) ?_
          show own_Fin p e below s _ _ _ (T14.setTop (mkF m 143 #[.val (.ref ad0), .val (.ref ad0), .val (.ref ad2), .val (.double z3), .second, .val (.double (FP.i2d xb)), .second, .val (.double (FP.i2d xr)), .second, .val (.double woffset_ad0), .second, .val (.double x7), .second, .val (.double FP.dconst0), .second, .val (.int (0 : Int32)), .val (.double x11), .second, .val (.double x22), .second] []))
          refine own_step (fun _ k => XS.dload X14.here hx rfl (hb hby own_d16_143) rfl k) ?_
          refine own_step (fun _ k => XS.dload X14.here hx rfl (hb hby own_d16_145) rfl k) ?_
          refine own_step (fun _ k => XS.dnegS X14.here hx rfl (hb hby own_d16_147) rfl rfl k) ?_
          refine own_step (fun _ k => XS.dload X14.here hx rfl (hb hby own_d16_148) rfl k) ?_
          show own_Fin p e below s _ _ _ (T14.setTop (mkF m 150 #[.val (.ref ad0), .val (.ref ad0), .val (.ref ad2), .val (.double z3), .second, .val (.double (FP.i2d xb)), .second, .val (.double (FP.i2d xr)), .second, .val (.double woffset_ad0), .second, .val (.double x7), .second, .val (.double FP.dconst0), .second, .val (.int (0 : Int32)), .val (.double x11), .second, .val (.double x22), .second] [(.double x11), (.double (FP.dneg x22)), (.double FP.dconst0)]))
          refine own_step (fun _ k => XS.ddivS X14.here hx rfl (hb hby own_d16_150) rfl (show Jvm.Free.Fl.NoNaN64 (FP.ddiv (FP.dneg x22) x11) from (Jvm.Free.Fl.Mag64.fin (ddiv_mag (dneg_mag hm22) (own_big gx11 hc108) (by decide) (by decide)) (by decide)).noNaN) rfl k) ?_
          show own_Fin p e below s _ _ _ (T14.setTop (mkF m 151 #[.val (.ref ad0), .val (.ref ad0), .val (.ref ad2), .val (.double z3), .second, .val (.double (FP.i2d xb)), .second, .val (.double (FP.i2d xr)), .second, .val (.double woffset_ad0), .second, .val (.double x7), .second, .val (.double FP.dconst0), .second, .val (.int (0 : Int32)), .val (.double x11), .second, .val (.double x22), .second] [(.double (FP.ddiv (FP.dneg x22) x11)), (.double FP.dconst0)]))
          refine own_abs1 (F := fun x123 => own_Fin p e below s ({ frames := 1, cells := 0, slots := 0, locals := 17 } : Room).cells ({ frames := 1, cells := 0, slots := 0, locals := 17 } : Room).slots (own_Q16 Z ad0 ad2 z3 ra0 xb xr wjumps_ad0 wrates_ad0 woffset_ad0 k_wjumps_ad0 k_wrates_ad0 h0 n0) (T14.setTop (mkF m 151 #[.val (.ref ad0), .val (.ref ad0), .val (.ref ad2), .val (.double z3), .second, .val (.double (FP.i2d xb)), .second, .val (.double (FP.i2d xr)), .second, .val (.double woffset_ad0), .second, .val (.double x7), .second, .val (.double FP.dconst0), .second, .val (.int (0 : Int32)), .val (.double x11), .second, .val (.double x22), .second] [(.double x123), (.double FP.dconst0)]))) (e := (FP.ddiv (FP.dneg x22) x11)) fun x123 gx123 => ?_
          have hm123 : Jvm.Free.Fl.Mag64 1143 x123 := by rw [gx123]; have q := (ddiv_mag (dneg_mag hm22) (own_big gx11 hc108) (by decide) (by decide)); exact q
          show own_Fin p e below s _ _ _ (T14.setTop (mkF m 151 #[.val (.ref ad0), .val (.ref ad0), .val (.ref ad2), .val (.double z3), .second, .val (.double (FP.i2d xb)), .second, .val (.double (FP.i2d xr)), .second, .val (.double woffset_ad0), .second, .val (.double x7), .second, .val (.double FP.dconst0), .second, .val (.int (0 : Int32)), .val (.double x11), .second, .val (.double x22), .second] [(.double x123), (.double FP.dconst0)]))
          obtain ⟨T124, X124, e124, st124⟩ := natS X14 hx hZ hown (own_w hw 116 rfl) (own_w hw 117 rfl) (own_w hw 118 rfl) (show (Jvm.Cond.code Jvm.Free.Fl.Abs.maxDN Jvm.Free.Fl.Abs.maxDCode 4 (some .double)).before a0 Z = true from (own_w hw 119 rfl)) (by decide) e14 (fun hcd => Jvm.Free.Fl.Abs.maxD_pays (W := 0) FP.dconst0 x123 hcd (by decide) (by decide)) (g := (mkF m 151 #[.val (.ref ad0), .val (.ref ad0), .val (.ref ad2), .val (.double z3), .second, .val (.double (FP.i2d xb)), .second, .val (.double (FP.i2d xr)), .second, .val (.double woffset_ad0), .second, .val (.double x7), .second, .val (.double FP.dconst0), .second, .val (.int (0 : Int32)), .val (.double x11), .second, .val (.double x22), .second] [(.double x123), (.double FP.dconst0)])) rfl (by rw [hml]; rfl) (argsL := [(.double FP.dconst0), (.double x123)]) (rest := []) (lenOf own_pd2 rfl) rfl (by show 2 * 0 + _ ≤ _; exact Nat.le_of_eq rfl) (hb hby own_d16_151) (by decide) (by decide) ⟨rfl, (Jvm.Free.Fl.Mag64.fin (own_m0) (by decide)).noNaN, (Jvm.Free.Fl.Mag64.fin hm123 (by decide)).noNaN⟩ (val' := (.double (Jvm.Native.java_lang_Math.nans.pick64 true FP.dconst0 x123))) rfl
          refine own_step st124 ?_
          show own_Fin p e below s _ _ _ (T124.setTop (mkF m 154 #[.val (.ref ad0), .val (.ref ad0), .val (.ref ad2), .val (.double z3), .second, .val (.double (FP.i2d xb)), .second, .val (.double (FP.i2d xr)), .second, .val (.double woffset_ad0), .second, .val (.double x7), .second, .val (.double FP.dconst0), .second, .val (.int (0 : Int32)), .val (.double x11), .second, .val (.double x22), .second] [(.double (Jvm.Native.java_lang_Math.nans.pick64 true FP.dconst0 x123))]))
          show own_Fin p e below s _ _ _ (T124.setTop (mkF m 154 #[.val (.ref ad0), .val (.ref ad0), .val (.ref ad2), .val (.double z3), .second, .val (.double (FP.i2d xb)), .second, .val (.double (FP.i2d xr)), .second, .val (.double woffset_ad0), .second, .val (.double x7), .second, .val (.double FP.dconst0), .second, .val (.int (0 : Int32)), .val (.double x11), .second, .val (.double x22), .second] [(.double (Jvm.Native.java_lang_Math.nans.pick64 true FP.dconst0 x123))]))
          refine own_abs1 (F := fun x125 => own_Fin p e below s ({ frames := 1, cells := 0, slots := 0, locals := 17 } : Room).cells ({ frames := 1, cells := 0, slots := 0, locals := 17 } : Room).slots (own_Q16 Z ad0 ad2 z3 ra0 xb xr wjumps_ad0 wrates_ad0 woffset_ad0 k_wjumps_ad0 k_wrates_ad0 h0 n0) (T124.setTop (mkF m 154 #[.val (.ref ad0), .val (.ref ad0), .val (.ref ad2), .val (.double z3), .second, .val (.double (FP.i2d xb)), .second, .val (.double (FP.i2d xr)), .second, .val (.double woffset_ad0), .second, .val (.double x7), .second, .val (.double FP.dconst0), .second, .val (.int (0 : Int32)), .val (.double x11), .second, .val (.double x22), .second] [(.double x125)]))) (e := (Jvm.Native.java_lang_Math.nans.pick64 true FP.dconst0 x123)) fun x125 gx125 => ?_
          have hm125 : Jvm.Free.Fl.Mag64 1143 x125 := by rw [gx125]; exact (Jvm.Free.Fl.pick64_mag ((own_m0).mono (by decide)) (hm123.mono (by decide)) : Jvm.Free.Fl.Mag64 1143 _)
          show own_Fin p e below s _ _ _ (T124.setTop (mkF m 154 #[.val (.ref ad0), .val (.ref ad0), .val (.ref ad2), .val (.double z3), .second, .val (.double (FP.i2d xb)), .second, .val (.double (FP.i2d xr)), .second, .val (.double woffset_ad0), .second, .val (.double x7), .second, .val (.double FP.dconst0), .second, .val (.int (0 : Int32)), .val (.double x11), .second, .val (.double x22), .second] [(.double x125)]))
          refine own_step (fun _ k => XS.dstore X124.here hx rfl (hb hby own_d16_154) rfl (l' := #[.val (.ref ad0), .val (.ref ad0), .val (.ref ad2), .val (.double z3), .second, .val (.double (FP.i2d xb)), .second, .val (.double (FP.i2d xr)), .second, .val (.double woffset_ad0), .second, .val (.double x7), .second, .val (.double x125), .second, .val (.int (0 : Int32)), .val (.double x11), .second, .val (.double x22), .second]) rfl k) ?_
          exact J23 _ X124 e124 x125 (hm125.mono (by decide))
        · refine own_step (fun _ k => XS.ifYes X14.here hx rfl (pc0 := 140) (pc' := 156) rfl (hb hby own_d16_140) rfl ((if0 _ _).trans (flt hc122).2.1) (by decide) (by decide) k) ?_
          show own_Fin p e below s _ _ _ (T14.setTop (mkF m 156 #[.val (.ref ad0), .val (.ref ad0), .val (.ref ad2), .val (.double z3), .second, .val (.double (FP.i2d xb)), .second, .val (.double (FP.i2d xr)), .second, .val (.double woffset_ad0), .second, .val (.double x7), .second, .val (.double FP.dconst0), .second, .val (.int (0 : Int32)), .val (.double x11), .second, .val (.double x22), .second] []))
          exact J23 _ X14 e14 FP.dconst0 ((own_m0).mono (by decide))

theorem own_d17_0 : decode prog_42_method_5_code 0 = .ok (.aload_n 0, 1) := by decide +kernel
theorem own_d17_1 : decode prog_42_method_5_code 1 = .ok (.aload_n 0, 1) := by decide +kernel
theorem own_d17_2 : decode prog_42_method_5_code 2 = .ok (.aload_n 1, 1) := by decide +kernel
theorem own_d17_3 : decode prog_42_method_5_code 3 = .ok (.dload_n 2, 1) := by decide +kernel
theorem own_d17_4 : decode prog_42_method_5_code 4 = .ok (.invokevirtual 39, 3) := by decide +kernel
theorem own_d17_7 : decode prog_42_method_5_code 7 = .ok (.areturn, 1) := by decide +kernel
theorem own_ef17 (m : MethodId) (ad0 : Addr) (ad1 : Addr) (z2 : UInt64) : entryFrame m #[(.ref ad0), (.ref ad1), (.double z2)] 4 = mkF m 0 #[.val (.ref ad0), .val (.ref ad1), .val (.double z2), .second] [] := by first | (simp [entryFrame, mkF, argsToLocals, Value.category]; done) | rfl
def own_Q17 (Z : State) (ad0 : Addr) (ad1 : Addr) (z2 : UInt64) (ra0 : Int32) (xb : Int32) (xr : Int32) (wjumps_ad0 : Addr) (wrates_ad0 : Addr) (woffset_ad0 : UInt64) (k_wjumps_ad0 : ClassId) (k_wrates_ad0 : ClassId) (h0 : Heap) (n0 : Nat) (v : Option Value) (h : Heap) (L : List Loc) : Prop := Fr n0 L ∧ Keep h0 h [ad0, wrates_ad0, wjumps_ad0] ∧ ∃ (uo0 : Value) (uo1 : Value), v = some (.ref ad0) ∧ Exa Z h ad0 "com/example/tandem/tandem/analysis/PseudoAffine" ∧ Fld Z h ad0 "com/example/tandem/tandem/analysis/PseudoAffine" "jumps" "[D" (.ref wjumps_ad0) ∧ Fld Z h ad0 "com/example/tandem/tandem/analysis/PseudoAffine" "rates" "[D" (.ref wrates_ad0) ∧ Fld Z h ad0 "com/example/tandem/tandem/analysis/PseudoAffine" "pieces" "I" uo0 ∧ Fld Z h ad0 "com/example/tandem/tandem/analysis/PseudoAffine" "offset" "D" uo1
set_option maxRecDepth 65536 in
set_option maxHeartbeats 40000000 in
theorem own_rm17 (l : Launch) (Z : State) (a0 : Array Value) (hw : ∀ d ∈ tables_1, d.before a0 Z = true) (ws : List Jvm.Cond) (ad0 : Addr) (ad1 : Addr) (z2 : UInt64) (ra0 : Int32) (xb : Int32) (xr : Int32) (wjumps_ad0 : Addr) (wrates_ad0 : Addr) (woffset_ad0 : UInt64) (k_wjumps_ad0 : ClassId) (k_wrates_ad0 : ClassId) (h0 : Heap) (n0 : Nat) (Z0 : n0 ≤ h0.size) (hm_z2 : Jvm.Free.Fl.Mag64 1056 z2) (E_ad0 : Exa Z h0 ad0 "com/example/tandem/tandem/analysis/PseudoAffine") (F_jumps_ad0 : Fld Z h0 ad0 "com/example/tandem/tandem/analysis/PseudoAffine" "jumps" "[D" (.ref wjumps_ad0)) (F_rates_ad0 : Fld Z h0 ad0 "com/example/tandem/tandem/analysis/PseudoAffine" "rates" "[D" (.ref wrates_ad0)) (hm_woffset_ad0 : Jvm.Free.Fl.Mag64 1100 woffset_ad0) (F_offset_ad0 : Fld Z h0 ad0 "com/example/tandem/tandem/analysis/PseudoAffine" "offset" "D" (.double woffset_ad0)) (F_pieces_ad0 : Fld Z h0 ad0 "com/example/tandem/tandem/analysis/PseudoAffine" "pieces" "I" (.int (1 : Int32))) (A_wjumps_ad0 : Arv Z h0 wjumps_ad0 k_wjumps_ad0 .double (4 : Int32) [(.double FP.dconst0), (.double (0 : UInt64))] (.double (0 : UInt64))) (A_wrates_ad0 : Arv Z h0 wrates_ad0 k_wrates_ad0 .double (4 : Int32) [(.double (FP.i2d ra0)), (.double (0 : UInt64))] (.double (0 : UInt64))) (E_ad1 : Exa Z h0 ad1 "com/example/tandem/tandem/model/TokenBucket") (F_burst_ad1 : Fld Z h0 ad1 "com/example/tandem/tandem/model/TokenBucket" "burst" "D" (.double (FP.i2d xb))) (F_rate_ad1 : Fld Z h0 ad1 "com/example/tandem/tandem/model/TokenBucket" "rate" "D" (.double (FP.i2d xr))) (g_wjumps_ad0 : n0 ≤ wjumps_ad0) (ne_ad0_wjumps_ad0 : ad0 ≠ wjumps_ad0) (ne_wrates_ad0_wjumps_ad0 : wrates_ad0 ≠ wjumps_ad0) (ne_ad1_wjumps_ad0 : ad1 ≠ wjumps_ad0) (g_wrates_ad0 : n0 ≤ wrates_ad0) (ne_ad0_wrates_ad0 : ad0 ≠ wrates_ad0) (ne_ad1_wrates_ad0 : ad1 ≠ wrates_ad0) (ne_wjumps_ad0_wrates_ad0 : wjumps_ad0 ≠ wrates_ad0) (g_ad0 : n0 ≤ ad0) (ne_ad1_ad0 : ad1 ≠ ad0) (ne_wjumps_ad0_ad0 : wjumps_ad0 ≠ ad0) (ne_wrates_ad0_ad0 : wrates_ad0 ≠ ad0) :
    MetFree l (⟨"com/example/tandem/tandem/analysis/PseudoAffine", "leaveOver", "(Lcom/example/tandem/tandem/model/TokenBucket;D)Lcom/example/tandem/tandem/analysis/PseudoAffine;"⟩ : MethodName) (head1 (Jvm.Cond.code (⟨"com/example/tandem/tandem/analysis/PseudoAffine", "leaveOver", "(Lcom/example/tandem/tandem/model/TokenBucket;D)Lcom/example/tandem/tandem/analysis/PseudoAffine;"⟩ : MethodName) prog_42_method_5_code 4 (some (.object "com/example/tandem/tandem/analysis/PseudoAffine")) :: ws) ({ frames := 2, cells := 0, slots := 0, locals := 48 } : Room)) (fun a U => a = #[(.ref ad0), (.ref ad1), (.double z2)] ∧ Z.Warmed39 U.vm ∧ U.heap = h0) (fun _ _ _ _ _ => True) (fun _ U o U' => ∃ v L, o = .returned v ∧ own_Q17 Z ad0 ad1 z2 ra0 xb xr wjumps_ad0 wrates_ad0 woffset_ad0 k_wjumps_ad0 k_wrates_ad0 h0 n0 v U'.heap L ∧ FrameEnd U o U' L ({ frames := 2, cells := 0, slots := 0, locals := 48 } : Room).cells ({ frames := 2, cells := 0, slots := 0, locals := 48 } : Room).slots) := by
  refine MetFree.of_bodySF (plainFor_of_name own_pn0) hisR ?_
  intro p e s m args below meth c s₁ Bd hml0 hP hK
  obtain ⟨rfl, hZ, hh⟩ := hP
  have hx := Bd.exec
  have hby := Bd.bytes
  have hlk := Bd.notSynchronized
  have hml : c.maxLocals = 4 := hml0
  have hown : s.vm.findClass "com/example/tandem/tandem/analysis/PseudoAffine" = some m.cls := findClass_of_methodNamed Bd.named
  have hnm := (name_of_methodNamed Bd.named Bd.method).1
  have X0 : Stand p l e ({ frames := 2, cells := 0, slots := 0, locals := 48 } : Room) s m #[(.ref ad0), (.ref ad1), (.double z2)] below meth c s₁ [] 0 0 := Stand.of_body Bd
  have e0 : s₁.heap = h0 := by rw [← hh, Bd.state]; rfl
  have N0 := Fr.nil n0
  have KR : Keep h0 h0 [ad0, wrates_ad0, wjumps_ad0] := Keep.refl _ _
  show own_Fin p e below s ({ frames := 2, cells := 0, slots := 0, locals := 48 } : Room).cells ({ frames := 2, cells := 0, slots := 0, locals := 48 } : Room).slots (own_Q17 Z ad0 ad1 z2 ra0 xb xr wjumps_ad0 wrates_ad0 woffset_ad0 k_wjumps_ad0 k_wrates_ad0 h0 n0) (s₁.setTop (entryFrame m #[(.ref ad0), (.ref ad1), (.double z2)] 4))
  refine own_cast (own_ef17 m ad0 ad1 z2) ?_
  refine own_step (fun _ k => XS.aloadN X0.here hx rfl (hb hby own_d17_0) rfl rfl k) ?_
  refine own_step (fun _ k => XS.aloadN X0.here hx rfl (hb hby own_d17_1) rfl rfl k) ?_
  refine own_step (fun _ k => XS.aloadN X0.here hx rfl (hb hby own_d17_2) rfl rfl k) ?_
  refine own_step (fun _ k => XS.dloadN X0.here hx rfl (hb hby own_d17_3) rfl k) ?_
  show own_Fin p e below s _ _ _ (s₁.setTop (mkF m 4 #[.val (.ref ad0), .val (.ref ad1), .val (.double z2), .second] [(.double z2), (.ref ad1), (.ref ad0), (.ref ad0)]))
  obtain ⟨cq1, kq1, q1a, q1b, q1c⟩ := isOf hZ e0 E_ad0
  obtain ⟨_, _, ⟨T1, L1, k1, n1⟩, -, X1, ⟨Lc1, hQ1, l1, y1, z1⟩, st1⟩ := X0.virtualBack hx (y := own_y5) (z := own_y5) hown (mvT hZ (own_w hw 110 rfl)) (mvT hZ (own_w hw 111 rfl)) (notFace_of_selects (args := #[]) (mvT hZ (own_w hw 113 rfl))) (mvT hZ (own_w hw 113 rfl)) (mvT hZ (own_w hw 112 rfl)) (by decide) (backOf (W := 0) (own_rm16 l Z a0 hw [] ad0 ad1 z2 ra0 xb xr wjumps_ad0 wrates_ad0 woffset_ad0 k_wjumps_ad0 k_wrates_ad0 h0 n0 Z0 (show Jvm.Free.Fl.Mag64 1056 z2 from (hm_z2.mono (by decide))) E_ad0 F_jumps_ad0 F_rates_ad0 (show Jvm.Free.Fl.Mag64 1100 woffset_ad0 from (hm_woffset_ad0.mono (by decide))) F_offset_ad0 F_pieces_ad0 A_wjumps_ad0 A_wrates_ad0 E_ad1 F_burst_ad1 F_rate_ad1 g_wjumps_ad0 ne_ad0_wjumps_ad0 ne_wrates_ad0_wjumps_ad0 ne_ad1_wjumps_ad0 g_wrates_ad0 ne_ad0_wrates_ad0 ne_ad1_wrates_ad0 ne_wjumps_ad0_wrates_ad0 g_ad0 ne_ad1_ad0 ne_wjumps_ad0_ad0 ne_wrates_ad0_ad0) hZ (own_w hw 114 rfl) (own_w hw 2 rfl) (by decide) (by decide)) q1a q1c (g := (mkF m 4 #[.val (.ref ad0), .val (.ref ad1), .val (.double z2), .second] [(.double z2), (.ref ad1), (.ref ad0), (.ref ad0)])) rfl (by rw [hml]; rfl) (Steps.refl _) (argsL := [(.ref ad0), (.ref ad1), (.double z2)]) (rest := []) (lenOf own_pd3 rfl) rfl (by show 2 * 0 + _ ≤ _; exact Nat.le_of_eq rfl) (hb hby own_d17_4) (fun _ _ => ⟨rfl, e0, (by decide : 0 + 0 ≤ _), (by decide : 0 + 0 ≤ _)⟩)
  dsimp only [Pt.U, Pt.locs, Pt.cells, Pt.slots] at X1 l1 y1 z1 st1 hQ1
  subst l1 y1 z1
  obtain ⟨N1q, K1q, uo0_1, uo1_1, rfl, G2, G3, G4, G5, G6⟩ := hQ1
  have N1 := Fr.app N0 N1q
  have K1 : Keep h0 T1.heap [ad0, wrates_ad0, wjumps_ad0] := KR.trans K1q (allS (P := fun x => x ∈ [ad0, wrates_ad0, wjumps_ad0] ∨ h0.size ≤ x) (Or.inl (List.mem_of_getElem? (i := 2) rfl)) (allS (P := fun x => x ∈ [ad0, wrates_ad0, wjumps_ad0] ∨ h0.size ≤ x) (Or.inl (List.mem_of_getElem? (i := 1) rfl)) (allS (P := fun x => x ∈ [ad0, wrates_ad0, wjumps_ad0] ∨ h0.size ≤ x) (Or.inl (List.mem_of_getElem? (i := 0) rfl)) all0)))
  have Z1 : n0 ≤ T1.heap.size := Nat.le_trans Z0 K1q.1
  have G7 := (E_ad0.keep K1q)
  have G8 := (E_ad1.keep K1q)
  have G9 := (F_burst_ad1.keep K1q (ninS ne_ad1_wjumps_ad0 (ninS ne_ad1_wrates_ad0 (ninS ne_ad1_ad0 nin0))))
  have G10 := (F_rate_ad1.keep K1q (ninS ne_ad1_wjumps_ad0 (ninS ne_ad1_wrates_ad0 (ninS ne_ad1_ad0 nin0))))
  refine own_step (fun _ k => st1.trans k) ?_
  show own_Fin p e below s _ _ _ (T1.setTop (mkF m 7 #[.val (.ref ad0), .val (.ref ad1), .val (.double z2), .second] [(.ref ad0)]))
  exact own_ret X1 hlk (v := some (.ref ad0)) (fun h => by rw [Bd.returns] at h; cases h) (by decide) (by decide) (by show own_Q17 Z ad0 ad1 z2 ra0 xb xr wjumps_ad0 wrates_ad0 woffset_ad0 k_wjumps_ad0 k_wrates_ad0 h0 n0 _ T1.heap _; exact ⟨N1, K1, uo0_1, uo1_1, rfl, G2, G3, G4, G5, G6⟩) (fun fs hr => retOut X1 hx Bd.returns rfl (Or.inr (Or.inr (Or.inr (Or.inr ⟨rfl, rfl, rfl⟩)))) (hb hby own_d17_7) hr)

theorem own_d18_0 : decode prog_42_method_6_code 0 = .ok (.aload_n 2, 1) := by decide +kernel
theorem own_d18_1 : decode prog_42_method_6_code 1 = .ok (.invokevirtual 43, 3) := by decide +kernel
theorem own_d18_4 : decode prog_42_method_6_code 4 = .ok (.dstore 5, 2) := by decide +kernel
theorem own_d18_6 : decode prog_42_method_6_code 6 = .ok (.aload_n 2, 1) := by decide +kernel
theorem own_d18_7 : decode prog_42_method_6_code 7 = .ok (.invokevirtual 48, 3) := by decide +kernel
theorem own_d18_10 : decode prog_42_method_6_code 10 = .ok (.dstore 7, 2) := by decide +kernel
theorem own_d18_12 : decode prog_42_method_6_code 12 = .ok (.aload_n 1, 1) := by decide +kernel
theorem own_d18_13 : decode prog_42_method_6_code 13 = .ok (.getfield 16, 3) := by decide +kernel
theorem own_d18_16 : decode prog_42_method_6_code 16 = .ok (.dstore 9, 2) := by decide +kernel
theorem own_d18_18 : decode prog_42_method_6_code 18 = .ok (.dload 9, 2) := by decide +kernel
theorem own_d18_20 : decode prog_42_method_6_code 20 = .ok (.ldc2_w 51, 3) := by decide +kernel
theorem own_d18_23 : decode prog_42_method_6_code 23 = .ok (.dcmp .l, 1) := by decide +kernel
theorem own_d18_24 : decode prog_42_method_6_code 24 = .ok (.ifCond .eq 12, 3) := by decide +kernel
theorem own_d18_27 : decode prog_42_method_6_code 27 = .ok (.dload 5, 2) := by decide +kernel
theorem own_d18_29 : decode prog_42_method_6_code 29 = .ok (.ldc2_w 51, 3) := by decide +kernel
theorem own_d18_32 : decode prog_42_method_6_code 32 = .ok (.dcmp .l, 1) := by decide +kernel
theorem own_d18_33 : decode prog_42_method_6_code 33 = .ok (.ifCond .ne 8, 3) := by decide +kernel
theorem own_d18_41 : decode prog_42_method_6_code 41 = .ok (.dload_n 3, 1) := by decide +kernel
theorem own_d18_42 : decode prog_42_method_6_code 42 = .ok (.dload 9, 2) := by decide +kernel
theorem own_d18_44 : decode prog_42_method_6_code 44 = .ok (.invokestatic 57, 3) := by decide +kernel
theorem own_d18_47 : decode prog_42_method_6_code 47 = .ok (.dstore 11, 2) := by decide +kernel
theorem own_d18_49 : decode prog_42_method_6_code 49 = .ok (.dconst 0, 1) := by decide +kernel
theorem own_d18_50 : decode prog_42_method_6_code 50 = .ok (.dstore 13, 2) := by decide +kernel
theorem own_d18_52 : decode prog_42_method_6_code 52 = .ok (.iconst 0, 1) := by decide +kernel
theorem own_d18_53 : decode prog_42_method_6_code 53 = .ok (.istore 15, 2) := by decide +kernel
theorem own_d18_55 : decode prog_42_method_6_code 55 = .ok (.iload 15, 2) := by decide +kernel
theorem own_d18_57 : decode prog_42_method_6_code 57 = .ok (.aload_n 1, 1) := by decide +kernel
theorem own_d18_58 : decode prog_42_method_6_code 58 = .ok (.getfield 20, 3) := by decide +kernel
theorem own_d18_61 : decode prog_42_method_6_code 61 = .ok (.if_icmp .ge 119, 3) := by decide +kernel
theorem own_d18_64 : decode prog_42_method_6_code 64 = .ok (.aload_n 1, 1) := by decide +kernel
theorem own_d18_65 : decode prog_42_method_6_code 65 = .ok (.getfield 13, 3) := by decide +kernel
theorem own_d18_68 : decode prog_42_method_6_code 68 = .ok (.iload 15, 2) := by decide +kernel
theorem own_d18_70 : decode prog_42_method_6_code 70 = .ok (.daload, 1) := by decide +kernel
theorem own_d18_71 : decode prog_42_method_6_code 71 = .ok (.dload 7, 2) := by decide +kernel
theorem own_d18_73 : decode prog_42_method_6_code 73 = .ok (.dsub, 1) := by decide +kernel
theorem own_d18_74 : decode prog_42_method_6_code 74 = .ok (.dstore 16, 2) := by decide +kernel
theorem own_d18_76 : decode prog_42_method_6_code 76 = .ok (.aload_n 1, 1) := by decide +kernel
theorem own_d18_77 : decode prog_42_method_6_code 77 = .ok (.getfield 7, 3) := by decide +kernel
theorem own_d18_80 : decode prog_42_method_6_code 80 = .ok (.iload 15, 2) := by decide +kernel
theorem own_d18_82 : decode prog_42_method_6_code 82 = .ok (.daload, 1) := by decide +kernel
theorem own_d18_83 : decode prog_42_method_6_code 83 = .ok (.aload_n 1, 1) := by decide +kernel
theorem own_d18_84 : decode prog_42_method_6_code 84 = .ok (.getfield 13, 3) := by decide +kernel
theorem own_d18_87 : decode prog_42_method_6_code 87 = .ok (.iload 15, 2) := by decide +kernel
theorem own_d18_89 : decode prog_42_method_6_code 89 = .ok (.daload, 1) := by decide +kernel
theorem own_d18_90 : decode prog_42_method_6_code 90 = .ok (.dload 11, 2) := by decide +kernel
theorem own_d18_92 : decode prog_42_method_6_code 92 = .ok (.dload 9, 2) := by decide +kernel
theorem own_d18_94 : decode prog_42_method_6_code 94 = .ok (.dsub, 1) := by decide +kernel
theorem own_d18_95 : decode prog_42_method_6_code 95 = .ok (.dmul, 1) := by decide +kernel
theorem own_d18_96 : decode prog_42_method_6_code 96 = .ok (.dadd, 1) := by decide +kernel
theorem own_d18_97 : decode prog_42_method_6_code 97 = .ok (.dload 5, 2) := by decide +kernel
theorem own_d18_99 : decode prog_42_method_6_code 99 = .ok (.dsub, 1) := by decide +kernel
theorem own_d18_100 : decode prog_42_method_6_code 100 = .ok (.dload 7, 2) := by decide +kernel
theorem own_d18_102 : decode prog_42_method_6_code 102 = .ok (.dload 11, 2) := by decide +kernel
theorem own_d18_104 : decode prog_42_method_6_code 104 = .ok (.dload_n 3, 1) := by decide +kernel
theorem own_d18_105 : decode prog_42_method_6_code 105 = .ok (.dsub, 1) := by decide +kernel
theorem own_d18_106 : decode prog_42_method_6_code 106 = .ok (.dmul, 1) := by decide +kernel
theorem own_d18_107 : decode prog_42_method_6_code 107 = .ok (.dsub, 1) := by decide +kernel
theorem own_d18_108 : decode prog_42_method_6_code 108 = .ok (.dstore 18, 2) := by decide +kernel
theorem own_d18_110 : decode prog_42_method_6_code 110 = .ok (.dload 16, 2) := by decide +kernel
theorem own_d18_112 : decode prog_42_method_6_code 112 = .ok (.dconst 0, 1) := by decide +kernel
theorem own_d18_113 : decode prog_42_method_6_code 113 = .ok (.dcmp .g, 1) := by decide +kernel
theorem own_d18_114 : decode prog_42_method_6_code 114 = .ok (.ifCond .lt 17, 3) := by decide +kernel
theorem own_d18_117 : decode prog_42_method_6_code 117 = .ok (.dload 16, 2) := by decide +kernel
theorem own_d18_119 : decode prog_42_method_6_code 119 = .ok (.dconst 0, 1) := by decide +kernel
theorem own_d18_120 : decode prog_42_method_6_code 120 = .ok (.dcmp .l, 1) := by decide +kernel
theorem own_d18_121 : decode prog_42_method_6_code 121 = .ok (.ifCond .ne 15, 3) := by decide +kernel
theorem own_d18_124 : decode prog_42_method_6_code 124 = .ok (.dload 18, 2) := by decide +kernel
theorem own_d18_126 : decode prog_42_method_6_code 126 = .ok (.dconst 0, 1) := by decide +kernel
theorem own_d18_127 : decode prog_42_method_6_code 127 = .ok (.dcmp .g, 1) := by decide +kernel
theorem own_d18_128 : decode prog_42_method_6_code 128 = .ok (.ifCond .ge 8, 3) := by decide +kernel
theorem own_d18_131 : decode prog_42_method_6_code 131 = .ok (.aload_n 0, 1) := by decide +kernel
theorem own_d18_132 : decode prog_42_method_6_code 132 = .ok (.invokevirtual 53, 3) := by decide +kernel
theorem own_d18_135 : decode prog_42_method_6_code 135 = .ok (.areturn, 1) := by decide +kernel
theorem own_d18_136 : decode prog_42_method_6_code 136 = .ok (.dload 18, 2) := by decide +kernel
theorem own_d18_138 : decode prog_42_method_6_code 138 = .ok (.dconst 0, 1) := by decide +kernel
theorem own_d18_139 : decode prog_42_method_6_code 139 = .ok (.dcmp .g, 1) := by decide +kernel
theorem own_d18_140 : decode prog_42_method_6_code 140 = .ok (.ifCond .ge 16, 3) := by decide +kernel
theorem own_d18_143 : decode prog_42_method_6_code 143 = .ok (.dload 13, 2) := by decide +kernel
theorem own_d18_145 : decode prog_42_method_6_code 145 = .ok (.dload 18, 2) := by decide +kernel
theorem own_d18_147 : decode prog_42_method_6_code 147 = .ok (.dneg, 1) := by decide +kernel
theorem own_d18_148 : decode prog_42_method_6_code 148 = .ok (.dload 16, 2) := by decide +kernel
theorem own_d18_150 : decode prog_42_method_6_code 150 = .ok (.ddiv, 1) := by decide +kernel
theorem own_d18_151 : decode prog_42_method_6_code 151 = .ok (.invokestatic 57, 3) := by decide +kernel
theorem own_d18_154 : decode prog_42_method_6_code 154 = .ok (.dstore 13, 2) := by decide +kernel
theorem own_d18_156 : decode prog_42_method_6_code 156 = .ok (.aload_n 0, 1) := by decide +kernel
theorem own_d18_157 : decode prog_42_method_6_code 157 = .ok (.getfield 7, 3) := by decide +kernel
theorem own_d18_160 : decode prog_42_method_6_code 160 = .ok (.iload 15, 2) := by decide +kernel
theorem own_d18_162 : decode prog_42_method_6_code 162 = .ok (.dload 18, 2) := by decide +kernel
theorem own_d18_164 : decode prog_42_method_6_code 164 = .ok (.dastore, 1) := by decide +kernel
theorem own_d18_165 : decode prog_42_method_6_code 165 = .ok (.aload_n 0, 1) := by decide +kernel
theorem own_d18_166 : decode prog_42_method_6_code 166 = .ok (.getfield 13, 3) := by decide +kernel
theorem own_d18_169 : decode prog_42_method_6_code 169 = .ok (.iload 15, 2) := by decide +kernel
theorem own_d18_171 : decode prog_42_method_6_code 171 = .ok (.dload 16, 2) := by decide +kernel
theorem own_d18_173 : decode prog_42_method_6_code 173 = .ok (.dastore, 1) := by decide +kernel
theorem own_d18_174 : decode prog_42_method_6_code 174 = .ok (.iinc 15 1, 3) := by decide +kernel
theorem own_d18_177 : decode prog_42_method_6_code 177 = .ok (.goto (-122), 3) := by decide +kernel
theorem own_d18_180 : decode prog_42_method_6_code 180 = .ok (.aload_n 0, 1) := by decide +kernel
theorem own_d18_181 : decode prog_42_method_6_code 181 = .ok (.aload_n 1, 1) := by decide +kernel
theorem own_d18_182 : decode prog_42_method_6_code 182 = .ok (.getfield 20, 3) := by decide +kernel
theorem own_d18_185 : decode prog_42_method_6_code 185 = .ok (.putfield 20, 3) := by decide +kernel
theorem own_d18_188 : decode prog_42_method_6_code 188 = .ok (.iconst 0, 1) := by decide +kernel
theorem own_d18_189 : decode prog_42_method_6_code 189 = .ok (.istore 15, 2) := by decide +kernel
theorem own_d18_191 : decode prog_42_method_6_code 191 = .ok (.iload 15, 2) := by decide +kernel
theorem own_d18_193 : decode prog_42_method_6_code 193 = .ok (.aload_n 0, 1) := by decide +kernel
theorem own_d18_194 : decode prog_42_method_6_code 194 = .ok (.getfield 20, 3) := by decide +kernel
theorem own_d18_197 : decode prog_42_method_6_code 197 = .ok (.if_icmp .ge 38, 3) := by decide +kernel
theorem own_d18_200 : decode prog_42_method_6_code 200 = .ok (.aload_n 0, 1) := by decide +kernel
theorem own_d18_201 : decode prog_42_method_6_code 201 = .ok (.getfield 7, 3) := by decide +kernel
theorem own_d18_204 : decode prog_42_method_6_code 204 = .ok (.iload 15, 2) := by decide +kernel
theorem own_d18_206 : decode prog_42_method_6_code 206 = .ok (.dconst 0, 1) := by decide +kernel
theorem own_d18_207 : decode prog_42_method_6_code 207 = .ok (.aload_n 0, 1) := by decide +kernel
theorem own_d18_208 : decode prog_42_method_6_code 208 = .ok (.getfield 7, 3) := by decide +kernel
theorem own_d18_211 : decode prog_42_method_6_code 211 = .ok (.iload 15, 2) := by decide +kernel
theorem own_d18_213 : decode prog_42_method_6_code 213 = .ok (.daload, 1) := by decide +kernel
theorem own_d18_214 : decode prog_42_method_6_code 214 = .ok (.aload_n 0, 1) := by decide +kernel
theorem own_d18_215 : decode prog_42_method_6_code 215 = .ok (.getfield 13, 3) := by decide +kernel
theorem own_d18_218 : decode prog_42_method_6_code 218 = .ok (.iload 15, 2) := by decide +kernel
theorem own_d18_220 : decode prog_42_method_6_code 220 = .ok (.daload, 1) := by decide +kernel
theorem own_d18_221 : decode prog_42_method_6_code 221 = .ok (.dload 13, 2) := by decide +kernel
theorem own_d18_223 : decode prog_42_method_6_code 223 = .ok (.dmul, 1) := by decide +kernel
theorem own_d18_224 : decode prog_42_method_6_code 224 = .ok (.dadd, 1) := by decide +kernel
theorem own_d18_225 : decode prog_42_method_6_code 225 = .ok (.invokestatic 57, 3) := by decide +kernel
theorem own_d18_228 : decode prog_42_method_6_code 228 = .ok (.dastore, 1) := by decide +kernel
theorem own_d18_229 : decode prog_42_method_6_code 229 = .ok (.iinc 15 1, 3) := by decide +kernel
theorem own_d18_232 : decode prog_42_method_6_code 232 = .ok (.goto (-41), 3) := by decide +kernel
theorem own_d18_235 : decode prog_42_method_6_code 235 = .ok (.aload_n 0, 1) := by decide +kernel
theorem own_d18_236 : decode prog_42_method_6_code 236 = .ok (.dload 11, 2) := by decide +kernel
theorem own_d18_238 : decode prog_42_method_6_code 238 = .ok (.dload 13, 2) := by decide +kernel
theorem own_d18_240 : decode prog_42_method_6_code 240 = .ok (.dadd, 1) := by decide +kernel
theorem own_d18_241 : decode prog_42_method_6_code 241 = .ok (.putfield 16, 3) := by decide +kernel
theorem own_d18_244 : decode prog_42_method_6_code 244 = .ok (.aload_n 0, 1) := by decide +kernel
theorem own_d18_245 : decode prog_42_method_6_code 245 = .ok (.areturn, 1) := by decide +kernel
theorem own_ef18 (m : MethodId) (ad0 : Addr) (ad2 : Addr) (z3 : UInt64) : entryFrame m #[(.ref ad0), (.ref ad0), (.ref ad2), (.double z3)] 20 = mkF m 0 #[.val (.ref ad0), .val (.ref ad0), .val (.ref ad2), .val (.double z3), .second, .unset, .unset, .unset, .unset, .unset, .unset, .unset, .unset, .unset, .unset, .unset, .unset, .unset, .unset, .unset] [] := by first | (simp [entryFrame, mkF, argsToLocals, Value.category]; done) | rfl
def own_Q18 (Z : State) (ad0 : Addr) (ad2 : Addr) (z3 : UInt64) (ra0 : Int32) (ra1 : Int32) (xb : Int32) (xr : Int32) (wjumps_ad0 : Addr) (wrates_ad0 : Addr) (woffset_ad0 : UInt64) (k_wjumps_ad0 : ClassId) (k_wrates_ad0 : ClassId) (h0 : Heap) (n0 : Nat) (v : Option Value) (h : Heap) (L : List Loc) : Prop := Fr n0 L ∧ Keep h0 h [wjumps_ad0, wrates_ad0, ad0] ∧ ∃ (uo0 : Value) (uo1 : Value), v = some (.ref ad0) ∧ Exa Z h ad0 "com/example/tandem/tandem/analysis/PseudoAffine" ∧ Fld Z h ad0 "com/example/tandem/tandem/analysis/PseudoAffine" "jumps" "[D" (.ref wjumps_ad0) ∧ Fld Z h ad0 "com/example/tandem/tandem/analysis/PseudoAffine" "rates" "[D" (.ref wrates_ad0) ∧ Fld Z h ad0 "com/example/tandem/tandem/analysis/PseudoAffine" "pieces" "I" uo0 ∧ Fld Z h ad0 "com/example/tandem/tandem/analysis/PseudoAffine" "offset" "D" uo1
set_option maxRecDepth 65536 in
set_option maxHeartbeats 40000000 in
theorem own_rm18 (l : Launch) (Z : State) (a0 : Array Value) (hw : ∀ d ∈ tables_1, d.before a0 Z = true) (ws : List Jvm.Cond) (ad0 : Addr) (ad2 : Addr) (z3 : UInt64) (ra0 : Int32) (ra1 : Int32) (xb : Int32) (xr : Int32) (wjumps_ad0 : Addr) (wrates_ad0 : Addr) (woffset_ad0 : UInt64) (k_wjumps_ad0 : ClassId) (k_wrates_ad0 : ClassId) (h0 : Heap) (n0 : Nat) (Z0 : n0 ≤ h0.size) (hm_z3 : Jvm.Free.Fl.Mag64 1056 z3) (E_ad0 : Exa Z h0 ad0 "com/example/tandem/tandem/analysis/PseudoAffine") (F_jumps_ad0 : Fld Z h0 ad0 "com/example/tandem/tandem/analysis/PseudoAffine" "jumps" "[D" (.ref wjumps_ad0)) (F_rates_ad0 : Fld Z h0 ad0 "com/example/tandem/tandem/analysis/PseudoAffine" "rates" "[D" (.ref wrates_ad0)) (hm_woffset_ad0 : Jvm.Free.Fl.Mag64 1100 woffset_ad0) (F_offset_ad0 : Fld Z h0 ad0 "com/example/tandem/tandem/analysis/PseudoAffine" "offset" "D" (.double woffset_ad0)) (F_pieces_ad0 : Fld Z h0 ad0 "com/example/tandem/tandem/analysis/PseudoAffine" "pieces" "I" (.int (2 : Int32))) (A_wjumps_ad0 : Arv Z h0 wjumps_ad0 k_wjumps_ad0 .double (4 : Int32) [(.double FP.dconst0), (.double FP.dconst0)] (.double (0 : UInt64))) (A_wrates_ad0 : Arv Z h0 wrates_ad0 k_wrates_ad0 .double (4 : Int32) [(.double (FP.i2d ra0)), (.double (FP.i2d ra1))] (.double (0 : UInt64))) (E_ad2 : Exa Z h0 ad2 "com/example/tandem/tandem/model/TokenBucket") (F_burst_ad2 : Fld Z h0 ad2 "com/example/tandem/tandem/model/TokenBucket" "burst" "D" (.double (FP.i2d xb))) (F_rate_ad2 : Fld Z h0 ad2 "com/example/tandem/tandem/model/TokenBucket" "rate" "D" (.double (FP.i2d xr))) (g_wjumps_ad0 : n0 ≤ wjumps_ad0) (ne_ad0_wjumps_ad0 : ad0 ≠ wjumps_ad0) (ne_wrates_ad0_wjumps_ad0 : wrates_ad0 ≠ wjumps_ad0) (ne_ad2_wjumps_ad0 : ad2 ≠ wjumps_ad0) (g_wrates_ad0 : n0 ≤ wrates_ad0) (ne_ad0_wrates_ad0 : ad0 ≠ wrates_ad0) (ne_ad2_wrates_ad0 : ad2 ≠ wrates_ad0) (ne_wjumps_ad0_wrates_ad0 : wjumps_ad0 ≠ wrates_ad0) (g_ad0 : n0 ≤ ad0) (ne_ad2_ad0 : ad2 ≠ ad0) (ne_wjumps_ad0_ad0 : wjumps_ad0 ≠ ad0) (ne_wrates_ad0_ad0 : wrates_ad0 ≠ ad0) :
    MetFree l (⟨"com/example/tandem/tandem/analysis/PseudoAffine", "leaveOver", "(Lcom/example/tandem/tandem/analysis/PseudoAffine;Lcom/example/tandem/tandem/model/TokenBucket;D)Lcom/example/tandem/tandem/analysis/PseudoAffine;"⟩ : MethodName) (head1 (Jvm.Cond.code (⟨"com/example/tandem/tandem/analysis/PseudoAffine", "leaveOver", "(Lcom/example/tandem/tandem/analysis/PseudoAffine;Lcom/example/tandem/tandem/model/TokenBucket;D)Lcom/example/tandem/tandem/analysis/PseudoAffine;"⟩ : MethodName) prog_42_method_6_code 20 (some (.object "com/example/tandem/tandem/analysis/PseudoAffine")) :: ws) ({ frames := 1, cells := 0, slots := 0, locals := 17 } : Room)) (fun a U => a = #[(.ref ad0), (.ref ad0), (.ref ad2), (.double z3)] ∧ Z.Warmed39 U.vm ∧ U.heap = h0) (fun _ _ _ _ _ => True) (fun _ U o U' => ∃ v L, o = .returned v ∧ own_Q18 Z ad0 ad2 z3 ra0 ra1 xb xr wjumps_ad0 wrates_ad0 woffset_ad0 k_wjumps_ad0 k_wrates_ad0 h0 n0 v U'.heap L ∧ FrameEnd U o U' L ({ frames := 1, cells := 0, slots := 0, locals := 17 } : Room).cells ({ frames := 1, cells := 0, slots := 0, locals := 17 } : Room).slots) := by
  refine MetFree.of_bodySF (plainFor_of_name own_pn0) hisR ?_
  intro p e s m args below meth c s₁ Bd hml0 hP hK
  obtain ⟨rfl, hZ, hh⟩ := hP
  have hx := Bd.exec
  have hby := Bd.bytes
  have hlk := Bd.notSynchronized
  have hml : c.maxLocals = 20 := hml0
  have hown : s.vm.findClass "com/example/tandem/tandem/analysis/PseudoAffine" = some m.cls := findClass_of_methodNamed Bd.named
  have hnm := (name_of_methodNamed Bd.named Bd.method).1
  have X0 : Stand p l e ({ frames := 1, cells := 0, slots := 0, locals := 17 } : Room) s m #[(.ref ad0), (.ref ad0), (.ref ad2), (.double z3)] below meth c s₁ [] 0 0 := Stand.of_body Bd
  have e0 : s₁.heap = h0 := by rw [← hh, Bd.state]; rfl
  have N0 := Fr.nil n0
  have KR : Keep h0 h0 [wjumps_ad0, wrates_ad0, ad0] := Keep.refl _ _
  show own_Fin p e below s ({ frames := 1, cells := 0, slots := 0, locals := 17 } : Room).cells ({ frames := 1, cells := 0, slots := 0, locals := 17 } : Room).slots (own_Q18 Z ad0 ad2 z3 ra0 ra1 xb xr wjumps_ad0 wrates_ad0 woffset_ad0 k_wjumps_ad0 k_wrates_ad0 h0 n0) (s₁.setTop (entryFrame m #[(.ref ad0), (.ref ad0), (.ref ad2), (.double z3)] 20))
  refine own_cast (own_ef18 m ad0 ad2 z3) ?_
  refine own_step (fun _ k => XS.aloadN X0.here hx rfl (hb hby own_d18_0) rfl rfl k) ?_
  obtain ⟨cq1, kq1, q1a, q1b, q1c⟩ := isOf hZ e0 E_ad2
  obtain ⟨_, _, ⟨T1, L1, k1, n1⟩, -, X1, ⟨Lc1, hQ1, l1, y1, z1⟩, st1⟩ := X0.virtualBack hx (y := own_y3) (z := own_y3) hown (mvT hZ (own_w hw 85 rfl)) (mvT hZ (own_w hw 86 rfl)) (notFace_of_selects (args := #[]) (mvT hZ (own_w hw 88 rfl))) (mvT hZ (own_w hw 88 rfl)) (mvT hZ (own_w hw 87 rfl)) (by decide) (backOf (W := 0) (own_rm10 l Z a0 hw [] ad2 ((FP.i2d xb)) h0 n0 Z0 F_burst_ad2) hZ (own_w hw 89 rfl) (own_w hw 41 rfl) (by decide) (by decide)) q1a q1c (g := (mkF m 1 #[.val (.ref ad0), .val (.ref ad0), .val (.ref ad2), .val (.double z3), .second, .unset, .unset, .unset, .unset, .unset, .unset, .unset, .unset, .unset, .unset, .unset, .unset, .unset, .unset, .unset] [(.ref ad2)])) rfl (by rw [hml]; rfl) (Steps.refl _) (argsL := []) (rest := []) (lenOf own_pd1 rfl) rfl (by show 2 * 0 + _ ≤ _; exact Nat.le_of_eq rfl) (hb hby own_d18_1) (fun _ _ => ⟨rfl, e0, (by decide : 0 + 0 ≤ _), (by decide : 0 + 0 ≤ _)⟩)
  dsimp only [Pt.U, Pt.locs, Pt.cells, Pt.slots] at X1 l1 y1 z1 st1 hQ1
  subst l1 y1 z1
  obtain ⟨rfl, N1q, e1⟩ := hQ1
  have N1 := Fr.app N0 N1q
  refine own_step (fun _ k => st1.trans k) ?_
  show own_Fin p e below s _ _ _ (T1.setTop (mkF m 4 #[.val (.ref ad0), .val (.ref ad0), .val (.ref ad2), .val (.double z3), .second, .unset, .unset, .unset, .unset, .unset, .unset, .unset, .unset, .unset, .unset, .unset, .unset, .unset, .unset, .unset] [(.double (FP.i2d xb))]))
  refine own_step (fun _ k => XS.dstore X1.here hx rfl (hb hby own_d18_4) rfl (l' := #[.val (.ref ad0), .val (.ref ad0), .val (.ref ad2), .val (.double z3), .second, .val (.double (FP.i2d xb)), .second, .unset, .unset, .unset, .unset, .unset, .unset, .unset, .unset, .unset, .unset, .unset, .unset, .unset]) rfl k) ?_
  refine own_step (fun _ k => XS.aloadN X1.here hx rfl (hb hby own_d18_6) rfl rfl k) ?_
  obtain ⟨cq2, kq2, q2a, q2b, q2c⟩ := isOf hZ e1 E_ad2
  obtain ⟨_, _, ⟨T2, L2, k2, n2⟩, -, X2, ⟨Lc2, hQ2, l2, y2, z2⟩, st2⟩ := X1.virtualBack hx (y := own_y4) (z := own_y4) hown (mvT hZ (own_w hw 80 rfl)) (mvT hZ (own_w hw 81 rfl)) (notFace_of_selects (args := #[]) (mvT hZ (own_w hw 83 rfl))) (mvT hZ (own_w hw 83 rfl)) (mvT hZ (own_w hw 82 rfl)) (by decide) (backOf (W := 0) (own_rm9 l Z a0 hw [] ad2 ((FP.i2d xr)) h0 n0 Z0 F_rate_ad2) hZ (own_w hw 84 rfl) (own_w hw 41 rfl) (by decide) (by decide)) q2a q2c (g := (mkF m 7 #[.val (.ref ad0), .val (.ref ad0), .val (.ref ad2), .val (.double z3), .second, .val (.double (FP.i2d xb)), .second, .unset, .unset, .unset, .unset, .unset, .unset, .unset, .unset, .unset, .unset, .unset, .unset, .unset] [(.ref ad2)])) rfl (by rw [hml]; rfl) (Steps.refl _) (argsL := []) (rest := []) (lenOf own_pd1 rfl) rfl (by show 2 * 0 + _ ≤ _; exact Nat.le_of_eq rfl) (hb hby own_d18_7) (fun _ _ => ⟨rfl, e1, (by decide : 0 + 0 ≤ _), (by decide : 0 + 0 ≤ _)⟩)
  dsimp only [Pt.U, Pt.locs, Pt.cells, Pt.slots] at X2 l2 y2 z2 st2 hQ2
  subst l2 y2 z2
  obtain ⟨rfl, N2q, e2⟩ := hQ2
  have N2 := Fr.app N1 N2q
  refine own_step (fun _ k => st2.trans k) ?_
  show own_Fin p e below s _ _ _ (T2.setTop (mkF m 10 #[.val (.ref ad0), .val (.ref ad0), .val (.ref ad2), .val (.double z3), .second, .val (.double (FP.i2d xb)), .second, .unset, .unset, .unset, .unset, .unset, .unset, .unset, .unset, .unset, .unset, .unset, .unset, .unset] [(.double (FP.i2d xr))]))
  refine own_step (fun _ k => XS.dstore X2.here hx rfl (hb hby own_d18_10) rfl (l' := #[.val (.ref ad0), .val (.ref ad0), .val (.ref ad2), .val (.double z3), .second, .val (.double (FP.i2d xb)), .second, .val (.double (FP.i2d xr)), .second, .unset, .unset, .unset, .unset, .unset, .unset, .unset, .unset, .unset, .unset, .unset]) rfl k) ?_
  refine own_step (fun _ k => XS.aloadN X2.here hx rfl (hb hby own_d18_12) rfl rfl k) ?_
  obtain ⟨T3, X3, e3, st3⟩ := getF X2 hx hZ hown (host := "") (Or.inl (own_w hw 35 rfl)) Via.refl e2 F_offset_ad0 (g := (mkF m 13 #[.val (.ref ad0), .val (.ref ad0), .val (.ref ad2), .val (.double z3), .second, .val (.double (FP.i2d xb)), .second, .val (.double (FP.i2d xr)), .second, .unset, .unset, .unset, .unset, .unset, .unset, .unset, .unset, .unset, .unset, .unset] [(.ref ad0)])) rfl rfl (hb hby own_d18_13)
  refine own_step st3 ?_
  show own_Fin p e below s _ _ _ (T3.setTop (mkF m 16 #[.val (.ref ad0), .val (.ref ad0), .val (.ref ad2), .val (.double z3), .second, .val (.double (FP.i2d xb)), .second, .val (.double (FP.i2d xr)), .second, .unset, .unset, .unset, .unset, .unset, .unset, .unset, .unset, .unset, .unset, .unset] [(.double woffset_ad0)]))
  refine own_step (fun _ k => XS.dstore X3.here hx rfl (hb hby own_d18_16) rfl (l' := #[.val (.ref ad0), .val (.ref ad0), .val (.ref ad2), .val (.double z3), .second, .val (.double (FP.i2d xb)), .second, .val (.double (FP.i2d xr)), .second, .val (.double woffset_ad0), .second, .unset, .unset, .unset, .unset, .unset, .unset, .unset, .unset, .unset]) rfl k) ?_
  refine own_step (fun _ k => XS.dload X3.here hx rfl (hb hby own_d18_18) rfl k) ?_
  refine own_step (fun _ k => X3.ldc2DoubleC hx hown (mvT hZ (own_w hw 115 rfl)) (g := (mkF m 20 #[.val (.ref ad0), .val (.ref ad0), .val (.ref ad2), .val (.double z3), .second, .val (.double (FP.i2d xb)), .second, .val (.double (FP.i2d xr)), .second, .val (.double woffset_ad0), .second, .unset, .unset, .unset, .unset, .unset, .unset, .unset, .unset, .unset] [(.double woffset_ad0)])) rfl (hb hby own_d18_20) _ k) ?_
  refine own_step (fun _ k => XS.dcmpS X3.here hx rfl (hb hby own_d18_23) rfl rfl k) ?_
  show own_Fin p e below s _ _ _ (T3.setTop (mkF m 24 #[.val (.ref ad0), .val (.ref ad0), .val (.ref ad2), .val (.double z3), .second, .val (.double (FP.i2d xb)), .second, .val (.double (FP.i2d xr)), .second, .val (.double woffset_ad0), .second, .unset, .unset, .unset, .unset, .unset, .unset, .unset, .unset, .unset] [(.int (cmpValue (FP.dcmp woffset_ad0 (9218868437227405312 : UInt64)) .l))]))
  have hf4 : ¬ ((cmpValue (FP.dcmp woffset_ad0 (9218868437227405312 : UInt64)) .l) = (0 : Int32)) := by rw [dcmp_pinf (Jvm.Free.Fl.Mag64.fin hm_woffset_ad0 (by decide))]; decide
  refine own_step (fun _ k => XS.ifNo X3.here hx rfl (hb hby own_d18_24) rfl ((if0 _ _).trans (feq hf4).1) k) ?_
  refine own_step (fun _ k => XS.dload X3.here hx rfl (hb hby own_d18_27) rfl k) ?_
  refine own_step (fun _ k => X3.ldc2DoubleC hx hown (mvT hZ (own_w hw 115 rfl)) (g := (mkF m 29 #[.val (.ref ad0), .val (.ref ad0), .val (.ref ad2), .val (.double z3), .second, .val (.double (FP.i2d xb)), .second, .val (.double (FP.i2d xr)), .second, .val (.double woffset_ad0), .second, .unset, .unset, .unset, .unset, .unset, .unset, .unset, .unset, .unset] [(.double (FP.i2d xb))])) rfl (hb hby own_d18_29) _ k) ?_
  refine own_step (fun _ k => XS.dcmpS X3.here hx rfl (hb hby own_d18_32) rfl rfl k) ?_
  show own_Fin p e below s _ _ _ (T3.setTop (mkF m 33 #[.val (.ref ad0), .val (.ref ad0), .val (.ref ad2), .val (.double z3), .second, .val (.double (FP.i2d xb)), .second, .val (.double (FP.i2d xr)), .second, .val (.double woffset_ad0), .second, .unset, .unset, .unset, .unset, .unset, .unset, .unset, .unset, .unset] [(.int (cmpValue (FP.dcmp (FP.i2d xb) (9218868437227405312 : UInt64)) .l))]))
  have hf5 : ¬ ((cmpValue (FP.dcmp (FP.i2d xb) (9218868437227405312 : UInt64)) .l) = (0 : Int32)) := by rw [dcmp_pinf (Jvm.Free.Fl.Mag64.fin (Jvm.Free.Fl.i2d_mag (xb)) (by decide))]; decide
  refine own_step (fun _ k => XS.ifYes X3.here hx rfl (pc0 := 33) (pc' := 41) rfl (hb hby own_d18_33) rfl ((if0 _ _).trans (feq hf5).2) (by decide) (by decide) k) ?_
  refine own_step (fun _ k => XS.dloadN X3.here hx rfl (hb hby own_d18_41) rfl k) ?_
  refine own_step (fun _ k => XS.dload X3.here hx rfl (hb hby own_d18_42) rfl k) ?_
  obtain ⟨T6, X6, e6, st6⟩ := natS X3 hx hZ hown (own_w hw 116 rfl) (own_w hw 117 rfl) (own_w hw 118 rfl) (show (Jvm.Cond.code Jvm.Free.Fl.Abs.maxDN Jvm.Free.Fl.Abs.maxDCode 4 (some .double)).before a0 Z = true from (own_w hw 119 rfl)) (by decide) e3 (fun hcd => Jvm.Free.Fl.Abs.maxD_pays (W := 0) z3 woffset_ad0 hcd (by decide) (by decide)) (g := (mkF m 44 #[.val (.ref ad0), .val (.ref ad0), .val (.ref ad2), .val (.double z3), .second, .val (.double (FP.i2d xb)), .second, .val (.double (FP.i2d xr)), .second, .val (.double woffset_ad0), .second, .unset, .unset, .unset, .unset, .unset, .unset, .unset, .unset, .unset] [(.double woffset_ad0), (.double z3)])) rfl (by rw [hml]; rfl) (argsL := [(.double z3), (.double woffset_ad0)]) (rest := []) (lenOf own_pd2 rfl) rfl (by show 2 * 0 + _ ≤ _; exact Nat.le_of_eq rfl) (hb hby own_d18_44) (by decide) (by decide) ⟨rfl, (Jvm.Free.Fl.Mag64.fin hm_z3 (by decide)).noNaN, (Jvm.Free.Fl.Mag64.fin hm_woffset_ad0 (by decide)).noNaN⟩ (val' := (.double (Jvm.Native.java_lang_Math.nans.pick64 true z3 woffset_ad0))) rfl
  refine own_step st6 ?_
  show own_Fin p e below s _ _ _ (T6.setTop (mkF m 47 #[.val (.ref ad0), .val (.ref ad0), .val (.ref ad2), .val (.double z3), .second, .val (.double (FP.i2d xb)), .second, .val (.double (FP.i2d xr)), .second, .val (.double woffset_ad0), .second, .unset, .unset, .unset, .unset, .unset, .unset, .unset, .unset, .unset] [(.double (Jvm.Native.java_lang_Math.nans.pick64 true z3 woffset_ad0))]))
  show own_Fin p e below s _ _ _ (T6.setTop (mkF m 47 #[.val (.ref ad0), .val (.ref ad0), .val (.ref ad2), .val (.double z3), .second, .val (.double (FP.i2d xb)), .second, .val (.double (FP.i2d xr)), .second, .val (.double woffset_ad0), .second, .unset, .unset, .unset, .unset, .unset, .unset, .unset, .unset, .unset] [(.double (Jvm.Native.java_lang_Math.nans.pick64 true z3 woffset_ad0))]))
  refine own_abs1 (F := fun x7 => own_Fin p e below s ({ frames := 1, cells := 0, slots := 0, locals := 17 } : Room).cells ({ frames := 1, cells := 0, slots := 0, locals := 17 } : Room).slots (own_Q18 Z ad0 ad2 z3 ra0 ra1 xb xr wjumps_ad0 wrates_ad0 woffset_ad0 k_wjumps_ad0 k_wrates_ad0 h0 n0) (T6.setTop (mkF m 47 #[.val (.ref ad0), .val (.ref ad0), .val (.ref ad2), .val (.double z3), .second, .val (.double (FP.i2d xb)), .second, .val (.double (FP.i2d xr)), .second, .val (.double woffset_ad0), .second, .unset, .unset, .unset, .unset, .unset, .unset, .unset, .unset, .unset] [(.double x7)]))) (e := (Jvm.Native.java_lang_Math.nans.pick64 true z3 woffset_ad0)) fun x7 gx7 => ?_
  have hm7 : Jvm.Free.Fl.Mag64 1100 x7 := by rw [gx7]; exact (Jvm.Free.Fl.pick64_mag (hm_z3.mono (by decide)) (hm_woffset_ad0.mono (by decide)) : Jvm.Free.Fl.Mag64 1100 _)
  show own_Fin p e below s _ _ _ (T6.setTop (mkF m 47 #[.val (.ref ad0), .val (.ref ad0), .val (.ref ad2), .val (.double z3), .second, .val (.double (FP.i2d xb)), .second, .val (.double (FP.i2d xr)), .second, .val (.double woffset_ad0), .second, .unset, .unset, .unset, .unset, .unset, .unset, .unset, .unset, .unset] [(.double x7)]))
  refine own_step (fun _ k => XS.dstore X6.here hx rfl (hb hby own_d18_47) rfl (l' := #[.val (.ref ad0), .val (.ref ad0), .val (.ref ad2), .val (.double z3), .second, .val (.double (FP.i2d xb)), .second, .val (.double (FP.i2d xr)), .second, .val (.double woffset_ad0), .second, .val (.double x7), .second, .unset, .unset, .unset, .unset, .unset, .unset, .unset]) rfl k) ?_
  refine own_step (fun _ k => XS.dconst0 X6.here hx rfl (hb hby own_d18_49) rfl k) ?_
  refine own_step (fun _ k => XS.dstore X6.here hx rfl (hb hby own_d18_50) rfl (l' := #[.val (.ref ad0), .val (.ref ad0), .val (.ref ad2), .val (.double z3), .second, .val (.double (FP.i2d xb)), .second, .val (.double (FP.i2d xr)), .second, .val (.double woffset_ad0), .second, .val (.double x7), .second, .val (.double FP.dconst0), .second, .unset, .unset, .unset, .unset, .unset]) rfl k) ?_
  refine own_step (fun _ k => XS.iconst X6.here hx rfl (hb hby own_d18_52) k) ?_
  show own_Fin p e below s _ _ _ (T6.setTop (mkF m 53 #[.val (.ref ad0), .val (.ref ad0), .val (.ref ad2), .val (.double z3), .second, .val (.double (FP.i2d xb)), .second, .val (.double (FP.i2d xr)), .second, .val (.double woffset_ad0), .second, .val (.double x7), .second, .val (.double FP.dconst0), .second, .unset, .unset, .unset, .unset, .unset] [(.int (0 : Int32))]))
  refine own_step (fun _ k => XS.istore X6.here hx rfl (hb hby own_d18_53) rfl (l' := #[.val (.ref ad0), .val (.ref ad0), .val (.ref ad2), .val (.double z3), .second, .val (.double (FP.i2d xb)), .second, .val (.double (FP.i2d xr)), .second, .val (.double woffset_ad0), .second, .val (.double x7), .second, .val (.double FP.dconst0), .second, .val (.int (0 : Int32)), .unset, .unset, .unset, .unset]) rfl k) ?_
  refine own_step (fun _ k => XS.iload X6.here hx rfl (hb hby own_d18_55) rfl k) ?_
  refine own_step (fun _ k => XS.aloadN X6.here hx rfl (hb hby own_d18_57) rfl rfl k) ?_
  obtain ⟨T8, X8, e8, st8⟩ := getF X6 hx hZ hown (host := "") (Or.inl (own_w hw 37 rfl)) Via.refl e6 F_pieces_ad0 (g := (mkF m 58 #[.val (.ref ad0), .val (.ref ad0), .val (.ref ad2), .val (.double z3), .second, .val (.double (FP.i2d xb)), .second, .val (.double (FP.i2d xr)), .second, .val (.double woffset_ad0), .second, .val (.double x7), .second, .val (.double FP.dconst0), .second, .val (.int (0 : Int32)), .unset, .unset, .unset, .unset] [(.ref ad0), (.int (0 : Int32))])) rfl rfl (hb hby own_d18_58)
  refine own_step st8 ?_
  show own_Fin p e below s _ _ _ (T8.setTop (mkF m 61 #[.val (.ref ad0), .val (.ref ad0), .val (.ref ad2), .val (.double z3), .second, .val (.double (FP.i2d xb)), .second, .val (.double (FP.i2d xr)), .second, .val (.double woffset_ad0), .second, .val (.double x7), .second, .val (.double FP.dconst0), .second, .val (.int (0 : Int32)), .unset, .unset, .unset, .unset] [(.int (2 : Int32)), (.int (0 : Int32))]))
  refine own_step (fun _ k => XS.icmpNo X8.here hx rfl (hb hby own_d18_61) rfl (tlt (by decide : (0 : Int32) < (2 : Int32))).2.1 k) ?_
  refine own_step (fun _ k => XS.aloadN X8.here hx rfl (hb hby own_d18_64) rfl rfl k) ?_
  obtain ⟨T9, X9, e9, st9⟩ := getF X8 hx hZ hown (host := "") (Or.inl (own_w hw 12 rfl)) Via.refl e8 F_rates_ad0 (g := (mkF m 65 #[.val (.ref ad0), .val (.ref ad0), .val (.ref ad2), .val (.double z3), .second, .val (.double (FP.i2d xb)), .second, .val (.double (FP.i2d xr)), .second, .val (.double woffset_ad0), .second, .val (.double x7), .second, .val (.double FP.dconst0), .second, .val (.int (0 : Int32)), .unset, .unset, .unset, .unset] [(.ref ad0)])) rfl rfl (hb hby own_d18_65)
  refine own_step st9 ?_
  show own_Fin p e below s _ _ _ (T9.setTop (mkF m 68 #[.val (.ref ad0), .val (.ref ad0), .val (.ref ad2), .val (.double z3), .second, .val (.double (FP.i2d xb)), .second, .val (.double (FP.i2d xr)), .second, .val (.double woffset_ad0), .second, .val (.double x7), .second, .val (.double FP.dconst0), .second, .val (.int (0 : Int32)), .unset, .unset, .unset, .unset] [(.ref wrates_ad0)]))
  refine own_step (fun _ k => XS.iload X9.here hx rfl (hb hby own_d18_68) rfl k) ?_
  obtain ⟨cl10, Ar10, q10, Sz10, Ng10, Hs10, Gf10⟩ := id A_wrates_ad0
  have hin10 : ¬ ((0 : Int32) < 0 ∨ cl10.slots.size ≤ ((0 : Int32)).toNatClampNeg) := inb_of Sz10 ⟨by decide, by decide⟩
  refine own_step (fun _ k => X9.daload hx (j := (0 : Int32)) (v := (.double (FP.i2d ra0))) (by rw [e9]; exact Ar10.1) (State.isArrayOf_alike hZ.alike Ar10.2.1) Ar10.2.2 hin10 (Has.at Hs10 hin10 rfl) (g := (mkF m 70 #[.val (.ref ad0), .val (.ref ad0), .val (.ref ad2), .val (.double z3), .second, .val (.double (FP.i2d xb)), .second, .val (.double (FP.i2d xr)), .second, .val (.double woffset_ad0), .second, .val (.double x7), .second, .val (.double FP.dconst0), .second, .val (.int (0 : Int32)), .unset, .unset, .unset, .unset] [(.int (0 : Int32)), (.ref wrates_ad0)])) rfl rfl (hb hby own_d18_70) _ k) ?_
  refine own_step (fun _ k => XS.dload X9.here hx rfl (hb hby own_d18_71) rfl k) ?_
  refine own_step (fun _ k => XS.dsubS X9.here hx rfl (hb hby own_d18_73) rfl (show Jvm.Free.Fl.NoNaN64 (FP.dsub (FP.i2d ra0) (FP.i2d xr)) from (Jvm.Free.Fl.Mag64.fin (Jvm.Free.Fl.dsub_mag (K := 1056) ((Jvm.Free.Fl.i2d_mag (ra0)).mono (by decide)) ((Jvm.Free.Fl.i2d_mag (xr)).mono (by decide)) (by decide)) (by decide)).noNaN) rfl k) ?_
  show own_Fin p e below s _ _ _ (T9.setTop (mkF m 74 #[.val (.ref ad0), .val (.ref ad0), .val (.ref ad2), .val (.double z3), .second, .val (.double (FP.i2d xb)), .second, .val (.double (FP.i2d xr)), .second, .val (.double woffset_ad0), .second, .val (.double x7), .second, .val (.double FP.dconst0), .second, .val (.int (0 : Int32)), .unset, .unset, .unset, .unset] [(.double (FP.dsub (FP.i2d ra0) (FP.i2d xr)))]))
  show own_Fin p e below s _ _ _ (T9.setTop (mkF m 74 #[.val (.ref ad0), .val (.ref ad0), .val (.ref ad2), .val (.double z3), .second, .val (.double (FP.i2d xb)), .second, .val (.double (FP.i2d xr)), .second, .val (.double woffset_ad0), .second, .val (.double x7), .second, .val (.double FP.dconst0), .second, .val (.int (0 : Int32)), .unset, .unset, .unset, .unset] [(.double (FP.dsub (FP.i2d ra0) (FP.i2d xr)))]))
  refine own_abs1 (F := fun x11 => own_Fin p e below s ({ frames := 1, cells := 0, slots := 0, locals := 17 } : Room).cells ({ frames := 1, cells := 0, slots := 0, locals := 17 } : Room).slots (own_Q18 Z ad0 ad2 z3 ra0 ra1 xb xr wjumps_ad0 wrates_ad0 woffset_ad0 k_wjumps_ad0 k_wrates_ad0 h0 n0) (T9.setTop (mkF m 74 #[.val (.ref ad0), .val (.ref ad0), .val (.ref ad2), .val (.double z3), .second, .val (.double (FP.i2d xb)), .second, .val (.double (FP.i2d xr)), .second, .val (.double woffset_ad0), .second, .val (.double x7), .second, .val (.double FP.dconst0), .second, .val (.int (0 : Int32)), .unset, .unset, .unset, .unset] [(.double x11)]))) (e := (FP.dsub (FP.i2d ra0) (FP.i2d xr))) fun x11 gx11 => ?_
  have hm11 : Jvm.Free.Fl.Mag64 1058 x11 := by rw [gx11]; have q := (Jvm.Free.Fl.dsub_mag (K := 1056) ((Jvm.Free.Fl.i2d_mag (ra0)).mono (by decide)) ((Jvm.Free.Fl.i2d_mag (xr)).mono (by decide)) (by decide)); exact q
  show own_Fin p e below s _ _ _ (T9.setTop (mkF m 74 #[.val (.ref ad0), .val (.ref ad0), .val (.ref ad2), .val (.double z3), .second, .val (.double (FP.i2d xb)), .second, .val (.double (FP.i2d xr)), .second, .val (.double woffset_ad0), .second, .val (.double x7), .second, .val (.double FP.dconst0), .second, .val (.int (0 : Int32)), .unset, .unset, .unset, .unset] [(.double x11)]))
  refine own_step (fun _ k => XS.dstore X9.here hx rfl (hb hby own_d18_74) rfl (l' := #[.val (.ref ad0), .val (.ref ad0), .val (.ref ad2), .val (.double z3), .second, .val (.double (FP.i2d xb)), .second, .val (.double (FP.i2d xr)), .second, .val (.double woffset_ad0), .second, .val (.double x7), .second, .val (.double FP.dconst0), .second, .val (.int (0 : Int32)), .val (.double x11), .second, .unset, .unset]) rfl k) ?_
  refine own_step (fun _ k => XS.aloadN X9.here hx rfl (hb hby own_d18_76) rfl rfl k) ?_
  obtain ⟨T12, X12, e12, st12⟩ := getF X9 hx hZ hown (host := "") (Or.inl (own_w hw 10 rfl)) Via.refl e9 F_jumps_ad0 (g := (mkF m 77 #[.val (.ref ad0), .val (.ref ad0), .val (.ref ad2), .val (.double z3), .second, .val (.double (FP.i2d xb)), .second, .val (.double (FP.i2d xr)), .second, .val (.double woffset_ad0), .second, .val (.double x7), .second, .val (.double FP.dconst0), .second, .val (.int (0 : Int32)), .val (.double x11), .second, .unset, .unset] [(.ref ad0)])) rfl rfl (hb hby own_d18_77)
  refine own_step st12 ?_
  show own_Fin p e below s _ _ _ (T12.setTop (mkF m 80 #[.val (.ref ad0), .val (.ref ad0), .val (.ref ad2), .val (.double z3), .second, .val (.double (FP.i2d xb)), .second, .val (.double (FP.i2d xr)), .second, .val (.double woffset_ad0), .second, .val (.double x7), .second, .val (.double FP.dconst0), .second, .val (.int (0 : Int32)), .val (.double x11), .second, .unset, .unset] [(.ref wjumps_ad0)]))
  refine own_step (fun _ k => XS.iload X12.here hx rfl (hb hby own_d18_80) rfl k) ?_
  obtain ⟨cl13, Ar13, q13, Sz13, Ng13, Hs13, Gf13⟩ := id A_wjumps_ad0
  have hin13 : ¬ ((0 : Int32) < 0 ∨ cl13.slots.size ≤ ((0 : Int32)).toNatClampNeg) := inb_of Sz13 ⟨by decide, by decide⟩
  refine own_step (fun _ k => X12.daload hx (j := (0 : Int32)) (v := (.double FP.dconst0)) (by rw [e12]; exact Ar13.1) (State.isArrayOf_alike hZ.alike Ar13.2.1) Ar13.2.2 hin13 (Has.at Hs13 hin13 rfl) (g := (mkF m 82 #[.val (.ref ad0), .val (.ref ad0), .val (.ref ad2), .val (.double z3), .second, .val (.double (FP.i2d xb)), .second, .val (.double (FP.i2d xr)), .second, .val (.double woffset_ad0), .second, .val (.double x7), .second, .val (.double FP.dconst0), .second, .val (.int (0 : Int32)), .val (.double x11), .second, .unset, .unset] [(.int (0 : Int32)), (.ref wjumps_ad0)])) rfl rfl (hb hby own_d18_82) _ k) ?_
  refine own_step (fun _ k => XS.aloadN X12.here hx rfl (hb hby own_d18_83) rfl rfl k) ?_
  obtain ⟨T14, X14, e14, st14⟩ := getF X12 hx hZ hown (host := "") (Or.inl (own_w hw 12 rfl)) Via.refl e12 F_rates_ad0 (g := (mkF m 84 #[.val (.ref ad0), .val (.ref ad0), .val (.ref ad2), .val (.double z3), .second, .val (.double (FP.i2d xb)), .second, .val (.double (FP.i2d xr)), .second, .val (.double woffset_ad0), .second, .val (.double x7), .second, .val (.double FP.dconst0), .second, .val (.int (0 : Int32)), .val (.double x11), .second, .unset, .unset] [(.ref ad0), (.double FP.dconst0)])) rfl rfl (hb hby own_d18_84)
  refine own_step st14 ?_
  show own_Fin p e below s _ _ _ (T14.setTop (mkF m 87 #[.val (.ref ad0), .val (.ref ad0), .val (.ref ad2), .val (.double z3), .second, .val (.double (FP.i2d xb)), .second, .val (.double (FP.i2d xr)), .second, .val (.double woffset_ad0), .second, .val (.double x7), .second, .val (.double FP.dconst0), .second, .val (.int (0 : Int32)), .val (.double x11), .second, .unset, .unset] [(.ref wrates_ad0), (.double FP.dconst0)]))
  refine own_step (fun _ k => XS.iload X14.here hx rfl (hb hby own_d18_87) rfl k) ?_
  obtain ⟨cl15, Ar15, q15, Sz15, Ng15, Hs15, Gf15⟩ := id A_wrates_ad0
  have hin15 : ¬ ((0 : Int32) < 0 ∨ cl15.slots.size ≤ ((0 : Int32)).toNatClampNeg) := inb_of Sz15 ⟨by decide, by decide⟩
  refine own_step (fun _ k => X14.daload hx (j := (0 : Int32)) (v := (.double (FP.i2d ra0))) (by rw [e14]; exact Ar15.1) (State.isArrayOf_alike hZ.alike Ar15.2.1) Ar15.2.2 hin15 (Has.at Hs15 hin15 rfl) (g := (mkF m 89 #[.val (.ref ad0), .val (.ref ad0), .val (.ref ad2), .val (.double z3), .second, .val (.double (FP.i2d xb)), .second, .val (.double (FP.i2d xr)), .second, .val (.double woffset_ad0), .second, .val (.double x7), .second, .val (.double FP.dconst0), .second, .val (.int (0 : Int32)), .val (.double x11), .second, .unset, .unset] [(.int (0 : Int32)), (.ref wrates_ad0), (.double FP.dconst0)])) rfl rfl (hb hby own_d18_89) _ k) ?_
  refine own_step (fun _ k => XS.dload X14.here hx rfl (hb hby own_d18_90) rfl k) ?_
  refine own_step (fun _ k => XS.dload X14.here hx rfl (hb hby own_d18_92) rfl k) ?_
  show own_Fin p e below s _ _ _ (T14.setTop (mkF m 94 #[.val (.ref ad0), .val (.ref ad0), .val (.ref ad2), .val (.double z3), .second, .val (.double (FP.i2d xb)), .second, .val (.double (FP.i2d xr)), .second, .val (.double woffset_ad0), .second, .val (.double x7), .second, .val (.double FP.dconst0), .second, .val (.int (0 : Int32)), .val (.double x11), .second, .unset, .unset] [(.double woffset_ad0), (.double x7), (.double (FP.i2d ra0)), (.double FP.dconst0)]))
  refine own_step (fun _ k => XS.dsubS X14.here hx rfl (hb hby own_d18_94) rfl (show Jvm.Free.Fl.NoNaN64 (FP.dsub x7 woffset_ad0) from (Jvm.Free.Fl.Mag64.fin (Jvm.Free.Fl.dsub_mag (K := 1100) (hm7.mono (by decide)) (hm_woffset_ad0.mono (by decide)) (by decide)) (by decide)).noNaN) rfl k) ?_
  show own_Fin p e below s _ _ _ (T14.setTop (mkF m 95 #[.val (.ref ad0), .val (.ref ad0), .val (.ref ad2), .val (.double z3), .second, .val (.double (FP.i2d xb)), .second, .val (.double (FP.i2d xr)), .second, .val (.double woffset_ad0), .second, .val (.double x7), .second, .val (.double FP.dconst0), .second, .val (.int (0 : Int32)), .val (.double x11), .second, .unset, .unset] [(.double (FP.dsub x7 woffset_ad0)), (.double (FP.i2d ra0)), (.double FP.dconst0)]))
  refine own_abs1 (F := fun x16 => own_Fin p e below s ({ frames := 1, cells := 0, slots := 0, locals := 17 } : Room).cells ({ frames := 1, cells := 0, slots := 0, locals := 17 } : Room).slots (own_Q18 Z ad0 ad2 z3 ra0 ra1 xb xr wjumps_ad0 wrates_ad0 woffset_ad0 k_wjumps_ad0 k_wrates_ad0 h0 n0) (T14.setTop (mkF m 95 #[.val (.ref ad0), .val (.ref ad0), .val (.ref ad2), .val (.double z3), .second, .val (.double (FP.i2d xb)), .second, .val (.double (FP.i2d xr)), .second, .val (.double woffset_ad0), .second, .val (.double x7), .second, .val (.double FP.dconst0), .second, .val (.int (0 : Int32)), .val (.double x11), .second, .unset, .unset] [(.double x16), (.double (FP.i2d ra0)), (.double FP.dconst0)]))) (e := (FP.dsub x7 woffset_ad0)) fun x16 gx16 => ?_
  have hm16 : Jvm.Free.Fl.Mag64 1102 x16 := by rw [gx16]; have q := (Jvm.Free.Fl.dsub_mag (K := 1100) (hm7.mono (by decide)) (hm_woffset_ad0.mono (by decide)) (by decide)); exact q
  show own_Fin p e below s _ _ _ (T14.setTop (mkF m 95 #[.val (.ref ad0), .val (.ref ad0), .val (.ref ad2), .val (.double z3), .second, .val (.double (FP.i2d xb)), .second, .val (.double (FP.i2d xr)), .second, .val (.double woffset_ad0), .second, .val (.double x7), .second, .val (.double FP.dconst0), .second, .val (.int (0 : Int32)), .val (.double x11), .second, .unset, .unset] [(.double x16), (.double (FP.i2d ra0)), (.double FP.dconst0)]))
  refine own_step (fun _ k => XS.dmulS X14.here hx rfl (hb hby own_d18_95) rfl (show Jvm.Free.Fl.NoNaN64 (FP.dmul (FP.i2d ra0) x16) from (Jvm.Free.Fl.Mag64.fin (Jvm.Free.Fl.dmul_mag (Jvm.Free.Fl.i2d_mag (ra0)) hm16 (by decide) (by decide)) (by decide)).noNaN) rfl k) ?_
  show own_Fin p e below s _ _ _ (T14.setTop (mkF m 96 #[.val (.ref ad0), .val (.ref ad0), .val (.ref ad2), .val (.double z3), .second, .val (.double (FP.i2d xb)), .second, .val (.double (FP.i2d xr)), .second, .val (.double woffset_ad0), .second, .val (.double x7), .second, .val (.double FP.dconst0), .second, .val (.int (0 : Int32)), .val (.double x11), .second, .unset, .unset] [(.double (FP.dmul (FP.i2d ra0) x16)), (.double FP.dconst0)]))
  refine own_abs1 (F := fun x17 => own_Fin p e below s ({ frames := 1, cells := 0, slots := 0, locals := 17 } : Room).cells ({ frames := 1, cells := 0, slots := 0, locals := 17 } : Room).slots (own_Q18 Z ad0 ad2 z3 ra0 ra1 xb xr wjumps_ad0 wrates_ad0 woffset_ad0 k_wjumps_ad0 k_wrates_ad0 h0 n0) (T14.setTop (mkF m 96 #[.val (.ref ad0), .val (.ref ad0), .val (.ref ad2), .val (.double z3), .second, .val (.double (FP.i2d xb)), .second, .val (.double (FP.i2d xr)), .second, .val (.double woffset_ad0), .second, .val (.double x7), .second, .val (.double FP.dconst0), .second, .val (.int (0 : Int32)), .val (.double x11), .second, .unset, .unset] [(.double x17), (.double FP.dconst0)]))) (e := (FP.dmul (FP.i2d ra0) x16)) fun x17 gx17 => ?_
  have hm17 : Jvm.Free.Fl.Mag64 1136 x17 := by rw [gx17]; have q := (Jvm.Free.Fl.dmul_mag (Jvm.Free.Fl.i2d_mag (ra0)) hm16 (by decide) (by decide)); exact q
  show own_Fin p e below s _ _ _ (T14.setTop (mkF m 96 #[.val (.ref ad0), .val (.ref ad0), .val (.ref ad2), .val (.double z3), .second, .val (.double (FP.i2d xb)), .second, .val (.double (FP.i2d xr)), .second, .val (.double woffset_ad0), .second, .val (.double x7), .second, .val (.double FP.dconst0), .second, .val (.int (0 : Int32)), .val (.double x11), .second, .unset, .unset] [(.double x17), (.double FP.dconst0)]))
  refine own_step (fun _ k => XS.daddS X14.here hx rfl (hb hby own_d18_96) rfl (show Jvm.Free.Fl.NoNaN64 (FP.dadd FP.dconst0 x17) from (Jvm.Free.Fl.Mag64.fin (Jvm.Free.Fl.dadd_mag (K := 1136) ((own_m0).mono (by decide)) (hm17.mono (by decide)) (by decide)) (by decide)).noNaN) rfl k) ?_
  show own_Fin p e below s _ _ _ (T14.setTop (mkF m 97 #[.val (.ref ad0), .val (.ref ad0), .val (.ref ad2), .val (.double z3), .second, .val (.double (FP.i2d xb)), .second, .val (.double (FP.i2d xr)), .second, .val (.double woffset_ad0), .second, .val (.double x7), .second, .val (.double FP.dconst0), .second, .val (.int (0 : Int32)), .val (.double x11), .second, .unset, .unset] [(.double (FP.dadd FP.dconst0 x17))]))
  refine own_abs1 (F := fun x18 => own_Fin p e below s ({ frames := 1, cells := 0, slots := 0, locals := 17 } : Room).cells ({ frames := 1, cells := 0, slots := 0, locals := 17 } : Room).slots (own_Q18 Z ad0 ad2 z3 ra0 ra1 xb xr wjumps_ad0 wrates_ad0 woffset_ad0 k_wjumps_ad0 k_wrates_ad0 h0 n0) (T14.setTop (mkF m 97 #[.val (.ref ad0), .val (.ref ad0), .val (.ref ad2), .val (.double z3), .second, .val (.double (FP.i2d xb)), .second, .val (.double (FP.i2d xr)), .second, .val (.double woffset_ad0), .second, .val (.double x7), .second, .val (.double FP.dconst0), .second, .val (.int (0 : Int32)), .val (.double x11), .second, .unset, .unset] [(.double x18)]))) (e := (FP.dadd FP.dconst0 x17)) fun x18 gx18 => ?_
  have hm18 : Jvm.Free.Fl.Mag64 1138 x18 := by rw [gx18]; have q := (Jvm.Free.Fl.dadd_mag (K := 1136) ((own_m0).mono (by decide)) (hm17.mono (by decide)) (by decide)); exact q
  show own_Fin p e below s _ _ _ (T14.setTop (mkF m 97 #[.val (.ref ad0), .val (.ref ad0), .val (.ref ad2), .val (.double z3), .second, .val (.double (FP.i2d xb)), .second, .val (.double (FP.i2d xr)), .second, .val (.double woffset_ad0), .second, .val (.double x7), .second, .val (.double FP.dconst0), .second, .val (.int (0 : Int32)), .val (.double x11), .second, .unset, .unset] [(.double x18)]))
  refine own_step (fun _ k => XS.dload X14.here hx rfl (hb hby own_d18_97) rfl k) ?_
  refine own_step (fun _ k => XS.dsubS X14.here hx rfl (hb hby own_d18_99) rfl (show Jvm.Free.Fl.NoNaN64 (FP.dsub x18 (FP.i2d xb)) from (Jvm.Free.Fl.Mag64.fin (Jvm.Free.Fl.dsub_mag (K := 1138) (hm18.mono (by decide)) ((Jvm.Free.Fl.i2d_mag (xb)).mono (by decide)) (by decide)) (by decide)).noNaN) rfl k) ?_
  show own_Fin p e below s _ _ _ (T14.setTop (mkF m 100 #[.val (.ref ad0), .val (.ref ad0), .val (.ref ad2), .val (.double z3), .second, .val (.double (FP.i2d xb)), .second, .val (.double (FP.i2d xr)), .second, .val (.double woffset_ad0), .second, .val (.double x7), .second, .val (.double FP.dconst0), .second, .val (.int (0 : Int32)), .val (.double x11), .second, .unset, .unset] [(.double (FP.dsub x18 (FP.i2d xb)))]))
  refine own_abs1 (F := fun x19 => own_Fin p e below s ({ frames := 1, cells := 0, slots := 0, locals := 17 } : Room).cells ({ frames := 1, cells := 0, slots := 0, locals := 17 } : Room).slots (own_Q18 Z ad0 ad2 z3 ra0 ra1 xb xr wjumps_ad0 wrates_ad0 woffset_ad0 k_wjumps_ad0 k_wrates_ad0 h0 n0) (T14.setTop (mkF m 100 #[.val (.ref ad0), .val (.ref ad0), .val (.ref ad2), .val (.double z3), .second, .val (.double (FP.i2d xb)), .second, .val (.double (FP.i2d xr)), .second, .val (.double woffset_ad0), .second, .val (.double x7), .second, .val (.double FP.dconst0), .second, .val (.int (0 : Int32)), .val (.double x11), .second, .unset, .unset] [(.double x19)]))) (e := (FP.dsub x18 (FP.i2d xb))) fun x19 gx19 => ?_
  have hm19 : Jvm.Free.Fl.Mag64 1140 x19 := by rw [gx19]; have q := (Jvm.Free.Fl.dsub_mag (K := 1138) (hm18.mono (by decide)) ((Jvm.Free.Fl.i2d_mag (xb)).mono (by decide)) (by decide)); exact q
  show own_Fin p e below s _ _ _ (T14.setTop (mkF m 100 #[.val (.ref ad0), .val (.ref ad0), .val (.ref ad2), .val (.double z3), .second, .val (.double (FP.i2d xb)), .second, .val (.double (FP.i2d xr)), .second, .val (.double woffset_ad0), .second, .val (.double x7), .second, .val (.double FP.dconst0), .second, .val (.int (0 : Int32)), .val (.double x11), .second, .unset, .unset] [(.double x19)]))
  refine own_step (fun _ k => XS.dload X14.here hx rfl (hb hby own_d18_100) rfl k) ?_
  refine own_step (fun _ k => XS.dload X14.here hx rfl (hb hby own_d18_102) rfl k) ?_
  refine own_step (fun _ k => XS.dloadN X14.here hx rfl (hb hby own_d18_104) rfl k) ?_
  refine own_step (fun _ k => XS.dsubS X14.here hx rfl (hb hby own_d18_105) rfl (show Jvm.Free.Fl.NoNaN64 (FP.dsub x7 z3) from (Jvm.Free.Fl.Mag64.fin (Jvm.Free.Fl.dsub_mag (K := 1100) (hm7.mono (by decide)) (hm_z3.mono (by decide)) (by decide)) (by decide)).noNaN) rfl k) ?_
  show own_Fin p e below s _ _ _ (T14.setTop (mkF m 106 #[.val (.ref ad0), .val (.ref ad0), .val (.ref ad2), .val (.double z3), .second, .val (.double (FP.i2d xb)), .second, .val (.double (FP.i2d xr)), .second, .val (.double woffset_ad0), .second, .val (.double x7), .second, .val (.double FP.dconst0), .second, .val (.int (0 : Int32)), .val (.double x11), .second, .unset, .unset] [(.double (FP.dsub x7 z3)), (.double (FP.i2d xr)), (.double x19)]))
  show own_Fin p e below s _ _ _ (T14.setTop (mkF m 106 #[.val (.ref ad0), .val (.ref ad0), .val (.ref ad2), .val (.double z3), .second, .val (.double (FP.i2d xb)), .second, .val (.double (FP.i2d xr)), .second, .val (.double woffset_ad0), .second, .val (.double x7), .second, .val (.double FP.dconst0), .second, .val (.int (0 : Int32)), .val (.double x11), .second, .unset, .unset] [(.double (FP.dsub x7 z3)), (.double (FP.i2d xr)), (.double x19)]))
  refine own_abs1 (F := fun x20 => own_Fin p e below s ({ frames := 1, cells := 0, slots := 0, locals := 17 } : Room).cells ({ frames := 1, cells := 0, slots := 0, locals := 17 } : Room).slots (own_Q18 Z ad0 ad2 z3 ra0 ra1 xb xr wjumps_ad0 wrates_ad0 woffset_ad0 k_wjumps_ad0 k_wrates_ad0 h0 n0) (T14.setTop (mkF m 106 #[.val (.ref ad0), .val (.ref ad0), .val (.ref ad2), .val (.double z3), .second, .val (.double (FP.i2d xb)), .second, .val (.double (FP.i2d xr)), .second, .val (.double woffset_ad0), .second, .val (.double x7), .second, .val (.double FP.dconst0), .second, .val (.int (0 : Int32)), .val (.double x11), .second, .unset, .unset] [(.double x20), (.double (FP.i2d xr)), (.double x19)]))) (e := (FP.dsub x7 z3)) fun x20 gx20 => ?_
  have hm20 : Jvm.Free.Fl.Mag64 1102 x20 := by rw [gx20]; have q := (Jvm.Free.Fl.dsub_mag (K := 1100) (hm7.mono (by decide)) (hm_z3.mono (by decide)) (by decide)); exact q
  show own_Fin p e below s _ _ _ (T14.setTop (mkF m 106 #[.val (.ref ad0), .val (.ref ad0), .val (.ref ad2), .val (.double z3), .second, .val (.double (FP.i2d xb)), .second, .val (.double (FP.i2d xr)), .second, .val (.double woffset_ad0), .second, .val (.double x7), .second, .val (.double FP.dconst0), .second, .val (.int (0 : Int32)), .val (.double x11), .second, .unset, .unset] [(.double x20), (.double (FP.i2d xr)), (.double x19)]))
  refine own_step (fun _ k => XS.dmulS X14.here hx rfl (hb hby own_d18_106) rfl (show Jvm.Free.Fl.NoNaN64 (FP.dmul (FP.i2d xr) x20) from (Jvm.Free.Fl.Mag64.fin (Jvm.Free.Fl.dmul_mag (Jvm.Free.Fl.i2d_mag (xr)) hm20 (by decide) (by decide)) (by decide)).noNaN) rfl k) ?_
  show own_Fin p e below s _ _ _ (T14.setTop (mkF m 107 #[.val (.ref ad0), .val (.ref ad0), .val (.ref ad2), .val (.double z3), .second, .val (.double (FP.i2d xb)), .second, .val (.double (FP.i2d xr)), .second, .val (.double woffset_ad0), .second, .val (.double x7), .second, .val (.double FP.dconst0), .second, .val (.int (0 : Int32)), .val (.double x11), .second, .unset, .unset] [(.double (FP.dmul (FP.i2d xr) x20)), (.double x19)]))
  refine own_abs1 (F := fun x21 => own_Fin p e below s ({ frames := 1, cells := 0, slots := 0, locals := 17 } : Room).cells ({ frames := 1, cells := 0, slots := 0, locals := 17 } : Room).slots (own_Q18 Z ad0 ad2 z3 ra0 ra1 xb xr wjumps_ad0 wrates_ad0 woffset_ad0 k_wjumps_ad0 k_wrates_ad0 h0 n0) (T14.setTop (mkF m 107 #[.val (.ref ad0), .val (.ref ad0), .val (.ref ad2), .val (.double z3), .second, .val (.double (FP.i2d xb)), .second, .val (.double (FP.i2d xr)), .second, .val (.double woffset_ad0), .second, .val (.double x7), .second, .val (.double FP.dconst0), .second, .val (.int (0 : Int32)), .val (.double x11), .second, .unset, .unset] [(.double x21), (.double x19)]))) (e := (FP.dmul (FP.i2d xr) x20)) fun x21 gx21 => ?_
  have hm21 : Jvm.Free.Fl.Mag64 1136 x21 := by rw [gx21]; have q := (Jvm.Free.Fl.dmul_mag (Jvm.Free.Fl.i2d_mag (xr)) hm20 (by decide) (by decide)); exact q
  show own_Fin p e below s _ _ _ (T14.setTop (mkF m 107 #[.val (.ref ad0), .val (.ref ad0), .val (.ref ad2), .val (.double z3), .second, .val (.double (FP.i2d xb)), .second, .val (.double (FP.i2d xr)), .second, .val (.double woffset_ad0), .second, .val (.double x7), .second, .val (.double FP.dconst0), .second, .val (.int (0 : Int32)), .val (.double x11), .second, .unset, .unset] [(.double x21), (.double x19)]))
  refine own_step (fun _ k => XS.dsubS X14.here hx rfl (hb hby own_d18_107) rfl (show Jvm.Free.Fl.NoNaN64 (FP.dsub x19 x21) from (Jvm.Free.Fl.Mag64.fin (Jvm.Free.Fl.dsub_mag (K := 1140) (hm19.mono (by decide)) (hm21.mono (by decide)) (by decide)) (by decide)).noNaN) rfl k) ?_
  show own_Fin p e below s _ _ _ (T14.setTop (mkF m 108 #[.val (.ref ad0), .val (.ref ad0), .val (.ref ad2), .val (.double z3), .second, .val (.double (FP.i2d xb)), .second, .val (.double (FP.i2d xr)), .second, .val (.double woffset_ad0), .second, .val (.double x7), .second, .val (.double FP.dconst0), .second, .val (.int (0 : Int32)), .val (.double x11), .second, .unset, .unset] [(.double (FP.dsub x19 x21))]))
  refine own_abs1 (F := fun x22 => own_Fin p e below s ({ frames := 1, cells := 0, slots := 0, locals := 17 } : Room).cells ({ frames := 1, cells := 0, slots := 0, locals := 17 } : Room).slots (own_Q18 Z ad0 ad2 z3 ra0 ra1 xb xr wjumps_ad0 wrates_ad0 woffset_ad0 k_wjumps_ad0 k_wrates_ad0 h0 n0) (T14.setTop (mkF m 108 #[.val (.ref ad0), .val (.ref ad0), .val (.ref ad2), .val (.double z3), .second, .val (.double (FP.i2d xb)), .second, .val (.double (FP.i2d xr)), .second, .val (.double woffset_ad0), .second, .val (.double x7), .second, .val (.double FP.dconst0), .second, .val (.int (0 : Int32)), .val (.double x11), .second, .unset, .unset] [(.double x22)]))) (e := (FP.dsub x19 x21)) fun x22 gx22 => ?_
  have hm22 : Jvm.Free.Fl.Mag64 1142 x22 := by rw [gx22]; have q := (Jvm.Free.Fl.dsub_mag (K := 1140) (hm19.mono (by decide)) (hm21.mono (by decide)) (by decide)); exact q
  show own_Fin p e below s _ _ _ (T14.setTop (mkF m 108 #[.val (.ref ad0), .val (.ref ad0), .val (.ref ad2), .val (.double z3), .second, .val (.double (FP.i2d xb)), .second, .val (.double (FP.i2d xr)), .second, .val (.double woffset_ad0), .second, .val (.double x7), .second, .val (.double FP.dconst0), .second, .val (.int (0 : Int32)), .val (.double x11), .second, .unset, .unset] [(.double x22)]))
  refine own_step (fun _ k => XS.dstore X14.here hx rfl (hb hby own_d18_108) rfl (l' := #[.val (.ref ad0), .val (.ref ad0), .val (.ref ad2), .val (.double z3), .second, .val (.double (FP.i2d xb)), .second, .val (.double (FP.i2d xr)), .second, .val (.double woffset_ad0), .second, .val (.double x7), .second, .val (.double FP.dconst0), .second, .val (.int (0 : Int32)), .val (.double x11), .second, .val (.double x22), .second]) rfl k) ?_
  refine own_join (F := own_Fin p e below s ({ frames := 1, cells := 0, slots := 0, locals := 17 } : Room).cells ({ frames := 1, cells := 0, slots := 0, locals := 17 } : Room).slots (own_Q18 Z ad0 ad2 z3 ra0 ra1 xb xr wjumps_ad0 wrates_ad0 woffset_ad0 k_wjumps_ad0 k_wrates_ad0 h0 n0)) X14 e14 (β := UInt64) (fun w23 => (mkF m 156 #[.val (.ref ad0), .val (.ref ad0), .val (.ref ad2), .val (.double z3), .second, .val (.double (FP.i2d xb)), .second, .val (.double (FP.i2d xr)), .second, .val (.double woffset_ad0), .second, .val (.double x7), .second, .val (.double w23), .second, .val (.int (0 : Int32)), .val (.double x11), .second, .val (.double x22), .second] [])) (fun w23 => Jvm.Free.Fl.Mag64 1200 w23) ?_ ?_
  · intro Tj23 Xj23 ej23 w23 hj23
    show own_Fin p e below s _ _ _ (Tj23.setTop (mkF m 156 #[.val (.ref ad0), .val (.ref ad0), .val (.ref ad2), .val (.double z3), .second, .val (.double (FP.i2d xb)), .second, .val (.double (FP.i2d xr)), .second, .val (.double woffset_ad0), .second, .val (.double x7), .second, .val (.double w23), .second, .val (.int (0 : Int32)), .val (.double x11), .second, .val (.double x22), .second] []))
    refine own_step (fun _ k => XS.aloadN Xj23.here hx rfl (hb hby own_d18_156) rfl rfl k) ?_
    obtain ⟨T24, X24, e24, st24⟩ := getF Xj23 hx hZ hown (host := "") (Or.inl (own_w hw 10 rfl)) Via.refl ej23 F_jumps_ad0 (g := (mkF m 157 #[.val (.ref ad0), .val (.ref ad0), .val (.ref ad2), .val (.double z3), .second, .val (.double (FP.i2d xb)), .second, .val (.double (FP.i2d xr)), .second, .val (.double woffset_ad0), .second, .val (.double x7), .second, .val (.double w23), .second, .val (.int (0 : Int32)), .val (.double x11), .second, .val (.double x22), .second] [(.ref ad0)])) rfl rfl (hb hby own_d18_157)
    refine own_step st24 ?_
    show own_Fin p e below s _ _ _ (T24.setTop (mkF m 160 #[.val (.ref ad0), .val (.ref ad0), .val (.ref ad2), .val (.double z3), .second, .val (.double (FP.i2d xb)), .second, .val (.double (FP.i2d xr)), .second, .val (.double woffset_ad0), .second, .val (.double x7), .second, .val (.double w23), .second, .val (.int (0 : Int32)), .val (.double x11), .second, .val (.double x22), .second] [(.ref wjumps_ad0)]))
    refine own_step (fun _ k => XS.iload X24.here hx rfl (hb hby own_d18_160) rfl k) ?_
    refine own_step (fun _ k => XS.dload X24.here hx rfl (hb hby own_d18_162) rfl k) ?_
    obtain ⟨cl25, Ar25, q25, Sz25, Ng25, Hs25, Gf25⟩ := id A_wjumps_ad0
    have hin25 : ¬ ((0 : Int32) < 0 ∨ cl25.slots.size ≤ ((0 : Int32)).toNatClampNeg) := inb_of Sz25 ⟨by decide, by decide⟩
    obtain ⟨T25, h25, X25, e25, W25, st25⟩ := stD X24 hx hZ e24 Ar25 (j := (0 : Int32)) hin25 (g := (mkF m 164 #[.val (.ref ad0), .val (.ref ad0), .val (.ref ad2), .val (.double z3), .second, .val (.double (FP.i2d xb)), .second, .val (.double (FP.i2d xr)), .second, .val (.double woffset_ad0), .second, .val (.double x7), .second, .val (.double w23), .second, .val (.int (0 : Int32)), .val (.double x11), .second, .val (.double x22), .second] [(.double x22), (.int (0 : Int32)), (.ref wjumps_ad0)])) rfl rfl (hb hby own_d18_164)
    have N25 := Fr.snoc X25 N2 g_wjumps_ad0
    have K25 : Keep h0 h25 [wjumps_ad0, wrates_ad0, ad0] := KR.wr W25 (Or.inl (List.mem_of_getElem? (i := 0) rfl))
    have Z25 : n0 ≤ h25.size := Nat.le_trans Z0 (Keep.of_wr W25).1
    have G26 := (E_ad0.wr W25)
    have G27 := (F_jumps_ad0.other W25 (Or.inl ne_ad0_wjumps_ad0))
    have G28 := (F_rates_ad0.other W25 (Or.inl ne_ad0_wjumps_ad0))
    have G29 := (F_offset_ad0.other W25 (Or.inl ne_ad0_wjumps_ad0))
    have G30 := (F_pieces_ad0.other W25 (Or.inl ne_ad0_wjumps_ad0))
    have G31 := (A_wrates_ad0.other W25 ne_wrates_ad0_wjumps_ad0)
    have G32 := (E_ad2.wr W25)
    have G33 := (F_burst_ad2.other W25 (Or.inl ne_ad2_wjumps_ad0))
    have G34 := (F_rate_ad2.other W25 (Or.inl ne_ad2_wjumps_ad0))
    have G35 : Arv Z h25 wjumps_ad0 k_wjumps_ad0 .double (4 : Int32) [(.double x22), (.double FP.dconst0)] (.double (0 : UInt64)) := Arv.set Ar25 q25 Sz25 Ng25 Hs25 Gf25 rfl W25 0 rfl (Nat.le_of_ble_eq_true rfl)
    refine own_step st25 ?_
    show own_Fin p e below s _ _ _ (T25.setTop (mkF m 165 #[.val (.ref ad0), .val (.ref ad0), .val (.ref ad2), .val (.double z3), .second, .val (.double (FP.i2d xb)), .second, .val (.double (FP.i2d xr)), .second, .val (.double woffset_ad0), .second, .val (.double x7), .second, .val (.double w23), .second, .val (.int (0 : Int32)), .val (.double x11), .second, .val (.double x22), .second] []))
    refine own_step (fun _ k => XS.aloadN X25.here hx rfl (hb hby own_d18_165) rfl rfl k) ?_
    obtain ⟨T36, X36, e36, st36⟩ := getF X25 hx hZ hown (host := "") (Or.inl (own_w hw 12 rfl)) Via.refl e25 G28 (g := (mkF m 166 #[.val (.ref ad0), .val (.ref ad0), .val (.ref ad2), .val (.double z3), .second, .val (.double (FP.i2d xb)), .second, .val (.double (FP.i2d xr)), .second, .val (.double woffset_ad0), .second, .val (.double x7), .second, .val (.double w23), .second, .val (.int (0 : Int32)), .val (.double x11), .second, .val (.double x22), .second] [(.ref ad0)])) rfl rfl (hb hby own_d18_166)
    refine own_step st36 ?_
    show own_Fin p e below s _ _ _ (T36.setTop (mkF m 169 #[.val (.ref ad0), .val (.ref ad0), .val (.ref ad2), .val (.double z3), .second, .val (.double (FP.i2d xb)), .second, .val (.double (FP.i2d xr)), .second, .val (.double woffset_ad0), .second, .val (.double x7), .second, .val (.double w23), .second, .val (.int (0 : Int32)), .val (.double x11), .second, .val (.double x22), .second] [(.ref wrates_ad0)]))
    refine own_step (fun _ k => XS.iload X36.here hx rfl (hb hby own_d18_169) rfl k) ?_
    refine own_step (fun _ k => XS.dload X36.here hx rfl (hb hby own_d18_171) rfl k) ?_
    obtain ⟨cl37, Ar37, q37, Sz37, Ng37, Hs37, Gf37⟩ := id G31
    have hin37 : ¬ ((0 : Int32) < 0 ∨ cl37.slots.size ≤ ((0 : Int32)).toNatClampNeg) := inb_of Sz37 ⟨by decide, by decide⟩
    obtain ⟨T37, h37, X37, e37, W37, st37⟩ := stD X36 hx hZ e36 Ar37 (j := (0 : Int32)) hin37 (g := (mkF m 173 #[.val (.ref ad0), .val (.ref ad0), .val (.ref ad2), .val (.double z3), .second, .val (.double (FP.i2d xb)), .second, .val (.double (FP.i2d xr)), .second, .val (.double woffset_ad0), .second, .val (.double x7), .second, .val (.double w23), .second, .val (.int (0 : Int32)), .val (.double x11), .second, .val (.double x22), .second] [(.double x11), (.int (0 : Int32)), (.ref wrates_ad0)])) rfl rfl (hb hby own_d18_173)
    have N37 := Fr.snoc X37 N25 g_wrates_ad0
    have K37 : Keep h0 h37 [wjumps_ad0, wrates_ad0, ad0] := K25.wr W37 (Or.inl (List.mem_of_getElem? (i := 1) rfl))
    have Z37 : n0 ≤ h37.size := Nat.le_trans Z25 (Keep.of_wr W37).1
    have G38 := (G26.wr W37)
    have G39 := (G27.other W37 (Or.inl ne_ad0_wrates_ad0))
    have G40 := (G28.other W37 (Or.inl ne_ad0_wrates_ad0))
    have G41 := (G29.other W37 (Or.inl ne_ad0_wrates_ad0))
    have G42 := (G30.other W37 (Or.inl ne_ad0_wrates_ad0))
    have G43 := (G32.wr W37)
    have G44 := (G33.other W37 (Or.inl ne_ad2_wrates_ad0))
    have G45 := (G34.other W37 (Or.inl ne_ad2_wrates_ad0))
    have G46 := (G35.other W37 ne_wjumps_ad0_wrates_ad0)
    have G47 : Arv Z h37 wrates_ad0 k_wrates_ad0 .double (4 : Int32) [(.double x11), (.double (FP.i2d ra1))] (.double (0 : UInt64)) := Arv.set Ar37 q37 Sz37 Ng37 Hs37 Gf37 rfl W37 0 rfl (Nat.le_of_ble_eq_true rfl)
    refine own_step st37 ?_
    show own_Fin p e below s _ _ _ (T37.setTop (mkF m 174 #[.val (.ref ad0), .val (.ref ad0), .val (.ref ad2), .val (.double z3), .second, .val (.double (FP.i2d xb)), .second, .val (.double (FP.i2d xr)), .second, .val (.double woffset_ad0), .second, .val (.double x7), .second, .val (.double w23), .second, .val (.int (0 : Int32)), .val (.double x11), .second, .val (.double x22), .second] []))
    refine own_step (fun _ k => XS.iinc X37.here hx rfl (hb hby own_d18_174) rfl (l' := #[.val (.ref ad0), .val (.ref ad0), .val (.ref ad2), .val (.double z3), .second, .val (.double (FP.i2d xb)), .second, .val (.double (FP.i2d xr)), .second, .val (.double woffset_ad0), .second, .val (.double x7), .second, .val (.double w23), .second, .val (.int ((0 : Int32) + (1 : Int32))), .val (.double x11), .second, .val (.double x22), .second]) rfl k) ?_
    show own_Fin p e below s _ _ _ (T37.setTop (mkF m 177 #[.val (.ref ad0), .val (.ref ad0), .val (.ref ad2), .val (.double z3), .second, .val (.double (FP.i2d xb)), .second, .val (.double (FP.i2d xr)), .second, .val (.double woffset_ad0), .second, .val (.double x7), .second, .val (.double w23), .second, .val (.int ((0 : Int32) + (1 : Int32))), .val (.double x11), .second, .val (.double x22), .second] []))
    rw [show ((0 : Int32) + (1 : Int32)) = (1 : Int32) from by decide]
    show own_Fin p e below s _ _ _ (T37.setTop (mkF m 177 #[.val (.ref ad0), .val (.ref ad0), .val (.ref ad2), .val (.double z3), .second, .val (.double (FP.i2d xb)), .second, .val (.double (FP.i2d xr)), .second, .val (.double woffset_ad0), .second, .val (.double x7), .second, .val (.double w23), .second, .val (.int (1 : Int32)), .val (.double x11), .second, .val (.double x22), .second] []))
    refine own_step (fun _ k => XS.goto X37.here hx rfl (pc0 := 177) (pc' := 55) rfl (hb hby own_d18_177) (by decide) (by decide) k) ?_
    refine own_step (fun _ k => XS.iload X37.here hx rfl (hb hby own_d18_55) rfl k) ?_
    refine own_step (fun _ k => XS.aloadN X37.here hx rfl (hb hby own_d18_57) rfl rfl k) ?_
    obtain ⟨T48, X48, e48, st48⟩ := getF X37 hx hZ hown (host := "") (Or.inl (own_w hw 37 rfl)) Via.refl e37 G42 (g := (mkF m 58 #[.val (.ref ad0), .val (.ref ad0), .val (.ref ad2), .val (.double z3), .second, .val (.double (FP.i2d xb)), .second, .val (.double (FP.i2d xr)), .second, .val (.double woffset_ad0), .second, .val (.double x7), .second, .val (.double w23), .second, .val (.int (1 : Int32)), .val (.double x11), .second, .val (.double x22), .second] [(.ref ad0), (.int (1 : Int32))])) rfl rfl (hb hby own_d18_58)
    refine own_step st48 ?_
    show own_Fin p e below s _ _ _ (T48.setTop (mkF m 61 #[.val (.ref ad0), .val (.ref ad0), .val (.ref ad2), .val (.double z3), .second, .val (.double (FP.i2d xb)), .second, .val (.double (FP.i2d xr)), .second, .val (.double woffset_ad0), .second, .val (.double x7), .second, .val (.double w23), .second, .val (.int (1 : Int32)), .val (.double x11), .second, .val (.double x22), .second] [(.int (2 : Int32)), (.int (1 : Int32))]))
    refine own_step (fun _ k => XS.icmpNo X48.here hx rfl (hb hby own_d18_61) rfl (tlt (by decide : (1 : Int32) < (2 : Int32))).2.1 k) ?_
    refine own_step (fun _ k => XS.aloadN X48.here hx rfl (hb hby own_d18_64) rfl rfl k) ?_
    obtain ⟨T49, X49, e49, st49⟩ := getF X48 hx hZ hown (host := "") (Or.inl (own_w hw 12 rfl)) Via.refl e48 G40 (g := (mkF m 65 #[.val (.ref ad0), .val (.ref ad0), .val (.ref ad2), .val (.double z3), .second, .val (.double (FP.i2d xb)), .second, .val (.double (FP.i2d xr)), .second, .val (.double woffset_ad0), .second, .val (.double x7), .second, .val (.double w23), .second, .val (.int (1 : Int32)), .val (.double x11), .second, .val (.double x22), .second] [(.ref ad0)])) rfl rfl (hb hby own_d18_65)
    refine own_step st49 ?_
    show own_Fin p e below s _ _ _ (T49.setTop (mkF m 68 #[.val (.ref ad0), .val (.ref ad0), .val (.ref ad2), .val (.double z3), .second, .val (.double (FP.i2d xb)), .second, .val (.double (FP.i2d xr)), .second, .val (.double woffset_ad0), .second, .val (.double x7), .second, .val (.double w23), .second, .val (.int (1 : Int32)), .val (.double x11), .second, .val (.double x22), .second] [(.ref wrates_ad0)]))
    refine own_step (fun _ k => XS.iload X49.here hx rfl (hb hby own_d18_68) rfl k) ?_
    obtain ⟨cl50, Ar50, q50, Sz50, Ng50, Hs50, Gf50⟩ := id G47
    have hin50 : ¬ ((1 : Int32) < 0 ∨ cl50.slots.size ≤ ((1 : Int32)).toNatClampNeg) := inb_of Sz50 ⟨by decide, by decide⟩
    refine own_step (fun _ k => X49.daload hx (j := (1 : Int32)) (v := (.double (FP.i2d ra1))) (by rw [e49]; exact Ar50.1) (State.isArrayOf_alike hZ.alike Ar50.2.1) Ar50.2.2 hin50 (Has.at Hs50 hin50 rfl) (g := (mkF m 70 #[.val (.ref ad0), .val (.ref ad0), .val (.ref ad2), .val (.double z3), .second, .val (.double (FP.i2d xb)), .second, .val (.double (FP.i2d xr)), .second, .val (.double woffset_ad0), .second, .val (.double x7), .second, .val (.double w23), .second, .val (.int (1 : Int32)), .val (.double x11), .second, .val (.double x22), .second] [(.int (1 : Int32)), (.ref wrates_ad0)])) rfl rfl (hb hby own_d18_70) _ k) ?_
    refine own_step (fun _ k => XS.dload X49.here hx rfl (hb hby own_d18_71) rfl k) ?_
    refine own_step (fun _ k => XS.dsubS X49.here hx rfl (hb hby own_d18_73) rfl (show Jvm.Free.Fl.NoNaN64 (FP.dsub (FP.i2d ra1) (FP.i2d xr)) from (Jvm.Free.Fl.Mag64.fin (Jvm.Free.Fl.dsub_mag (K := 1056) ((Jvm.Free.Fl.i2d_mag (ra1)).mono (by decide)) ((Jvm.Free.Fl.i2d_mag (xr)).mono (by decide)) (by decide)) (by decide)).noNaN) rfl k) ?_
    show own_Fin p e below s _ _ _ (T49.setTop (mkF m 74 #[.val (.ref ad0), .val (.ref ad0), .val (.ref ad2), .val (.double z3), .second, .val (.double (FP.i2d xb)), .second, .val (.double (FP.i2d xr)), .second, .val (.double woffset_ad0), .second, .val (.double x7), .second, .val (.double w23), .second, .val (.int (1 : Int32)), .val (.double x11), .second, .val (.double x22), .second] [(.double (FP.dsub (FP.i2d ra1) (FP.i2d xr)))]))
    show own_Fin p e below s _ _ _ (T49.setTop (mkF m 74 #[.val (.ref ad0), .val (.ref ad0), .val (.ref ad2), .val (.double z3), .second, .val (.double (FP.i2d xb)), .second, .val (.double (FP.i2d xr)), .second, .val (.double woffset_ad0), .second, .val (.double x7), .second, .val (.double w23), .second, .val (.int (1 : Int32)), .val (.double x11), .second, .val (.double x22), .second] [(.double (FP.dsub (FP.i2d ra1) (FP.i2d xr)))]))
    refine own_abs1 (F := fun x51 => own_Fin p e below s ({ frames := 1, cells := 0, slots := 0, locals := 17 } : Room).cells ({ frames := 1, cells := 0, slots := 0, locals := 17 } : Room).slots (own_Q18 Z ad0 ad2 z3 ra0 ra1 xb xr wjumps_ad0 wrates_ad0 woffset_ad0 k_wjumps_ad0 k_wrates_ad0 h0 n0) (T49.setTop (mkF m 74 #[.val (.ref ad0), .val (.ref ad0), .val (.ref ad2), .val (.double z3), .second, .val (.double (FP.i2d xb)), .second, .val (.double (FP.i2d xr)), .second, .val (.double woffset_ad0), .second, .val (.double x7), .second, .val (.double w23), .second, .val (.int (1 : Int32)), .val (.double x11), .second, .val (.double x22), .second] [(.double x51)]))) (e := (FP.dsub (FP.i2d ra1) (FP.i2d xr))) fun x51 gx51 => ?_
    have hm51 : Jvm.Free.Fl.Mag64 1058 x51 := by rw [gx51]; have q := (Jvm.Free.Fl.dsub_mag (K := 1056) ((Jvm.Free.Fl.i2d_mag (ra1)).mono (by decide)) ((Jvm.Free.Fl.i2d_mag (xr)).mono (by decide)) (by decide)); exact q
    show own_Fin p e below s _ _ _ (T49.setTop (mkF m 74 #[.val (.ref ad0), .val (.ref ad0), .val (.ref ad2), .val (.double z3), .second, .val (.double (FP.i2d xb)), .second, .val (.double (FP.i2d xr)), .second, .val (.double woffset_ad0), .second, .val (.double x7), .second, .val (.double w23), .second, .val (.int (1 : Int32)), .val (.double x11), .second, .val (.double x22), .second] [(.double x51)]))
    refine own_step (fun _ k => XS.dstore X49.here hx rfl (hb hby own_d18_74) rfl (l' := #[.val (.ref ad0), .val (.ref ad0), .val (.ref ad2), .val (.double z3), .second, .val (.double (FP.i2d xb)), .second, .val (.double (FP.i2d xr)), .second, .val (.double woffset_ad0), .second, .val (.double x7), .second, .val (.double w23), .second, .val (.int (1 : Int32)), .val (.double x51), .second, .val (.double x22), .second]) rfl k) ?_
    refine own_step (fun _ k => XS.aloadN X49.here hx rfl (hb hby own_d18_76) rfl rfl k) ?_
    obtain ⟨T52, X52, e52, st52⟩ := getF X49 hx hZ hown (host := "") (Or.inl (own_w hw 10 rfl)) Via.refl e49 G39 (g := (mkF m 77 #[.val (.ref ad0), .val (.ref ad0), .val (.ref ad2), .val (.double z3), .second, .val (.double (FP.i2d xb)), .second, .val (.double (FP.i2d xr)), .second, .val (.double woffset_ad0), .second, .val (.double x7), .second, .val (.double w23), .second, .val (.int (1 : Int32)), .val (.double x51), .second, .val (.double x22), .second] [(.ref ad0)])) rfl rfl (hb hby own_d18_77)
    refine own_step st52 ?_
    show own_Fin p e below s _ _ _ (T52.setTop (mkF m 80 #[.val (.ref ad0), .val (.ref ad0), .val (.ref ad2), .val (.double z3), .second, .val (.double (FP.i2d xb)), .second, .val (.double (FP.i2d xr)), .second, .val (.double woffset_ad0), .second, .val (.double x7), .second, .val (.double w23), .second, .val (.int (1 : Int32)), .val (.double x51), .second, .val (.double x22), .second] [(.ref wjumps_ad0)]))
    refine own_step (fun _ k => XS.iload X52.here hx rfl (hb hby own_d18_80) rfl k) ?_
    obtain ⟨cl53, Ar53, q53, Sz53, Ng53, Hs53, Gf53⟩ := id G46
    have hin53 : ¬ ((1 : Int32) < 0 ∨ cl53.slots.size ≤ ((1 : Int32)).toNatClampNeg) := inb_of Sz53 ⟨by decide, by decide⟩
    refine own_step (fun _ k => X52.daload hx (j := (1 : Int32)) (v := (.double FP.dconst0)) (by rw [e52]; exact Ar53.1) (State.isArrayOf_alike hZ.alike Ar53.2.1) Ar53.2.2 hin53 (Has.at Hs53 hin53 rfl) (g := (mkF m 82 #[.val (.ref ad0), .val (.ref ad0), .val (.ref ad2), .val (.double z3), .second, .val (.double (FP.i2d xb)), .second, .val (.double (FP.i2d xr)), .second, .val (.double woffset_ad0), .second, .val (.double x7), .second, .val (.double w23), .second, .val (.int (1 : Int32)), .val (.double x51), .second, .val (.double x22), .second] [(.int (1 : Int32)), (.ref wjumps_ad0)])) rfl rfl (hb hby own_d18_82) _ k) ?_
    refine own_step (fun _ k => XS.aloadN X52.here hx rfl (hb hby own_d18_83) rfl rfl k) ?_
    obtain ⟨T54, X54, e54, st54⟩ := getF X52 hx hZ hown (host := "") (Or.inl (own_w hw 12 rfl)) Via.refl e52 G40 (g := (mkF m 84 #[.val (.ref ad0), .val (.ref ad0), .val (.ref ad2), .val (.double z3), .second, .val (.double (FP.i2d xb)), .second, .val (.double (FP.i2d xr)), .second, .val (.double woffset_ad0), .second, .val (.double x7), .second, .val (.double w23), .second, .val (.int (1 : Int32)), .val (.double x51), .second, .val (.double x22), .second] [(.ref ad0), (.double FP.dconst0)])) rfl rfl (hb hby own_d18_84)
    refine own_step st54 ?_
    show own_Fin p e below s _ _ _ (T54.setTop (mkF m 87 #[.val (.ref ad0), .val (.ref ad0), .val (.ref ad2), .val (.double z3), .second, .val (.double (FP.i2d xb)), .second, .val (.double (FP.i2d xr)), .second, .val (.double woffset_ad0), .second, .val (.double x7), .second, .val (.double w23), .second, .val (.int (1 : Int32)), .val (.double x51), .second, .val (.double x22), .second] [(.ref wrates_ad0), (.double FP.dconst0)]))
    refine own_step (fun _ k => XS.iload X54.here hx rfl (hb hby own_d18_87) rfl k) ?_
    obtain ⟨cl55, Ar55, q55, Sz55, Ng55, Hs55, Gf55⟩ := id G47
    have hin55 : ¬ ((1 : Int32) < 0 ∨ cl55.slots.size ≤ ((1 : Int32)).toNatClampNeg) := inb_of Sz55 ⟨by decide, by decide⟩
    refine own_step (fun _ k => X54.daload hx (j := (1 : Int32)) (v := (.double (FP.i2d ra1))) (by rw [e54]; exact Ar55.1) (State.isArrayOf_alike hZ.alike Ar55.2.1) Ar55.2.2 hin55 (Has.at Hs55 hin55 rfl) (g := (mkF m 89 #[.val (.ref ad0), .val (.ref ad0), .val (.ref ad2), .val (.double z3), .second, .val (.double (FP.i2d xb)), .second, .val (.double (FP.i2d xr)), .second, .val (.double woffset_ad0), .second, .val (.double x7), .second, .val (.double w23), .second, .val (.int (1 : Int32)), .val (.double x51), .second, .val (.double x22), .second] [(.int (1 : Int32)), (.ref wrates_ad0), (.double FP.dconst0)])) rfl rfl (hb hby own_d18_89) _ k) ?_
    refine own_step (fun _ k => XS.dload X54.here hx rfl (hb hby own_d18_90) rfl k) ?_
    refine own_step (fun _ k => XS.dload X54.here hx rfl (hb hby own_d18_92) rfl k) ?_
    show own_Fin p e below s _ _ _ (T54.setTop (mkF m 94 #[.val (.ref ad0), .val (.ref ad0), .val (.ref ad2), .val (.double z3), .second, .val (.double (FP.i2d xb)), .second, .val (.double (FP.i2d xr)), .second, .val (.double woffset_ad0), .second, .val (.double x7), .second, .val (.double w23), .second, .val (.int (1 : Int32)), .val (.double x51), .second, .val (.double x22), .second] [(.double woffset_ad0), (.double x7), (.double (FP.i2d ra1)), (.double FP.dconst0)]))
    refine own_step (fun _ k => XS.dsubS X54.here hx rfl (hb hby own_d18_94) rfl (show Jvm.Free.Fl.NoNaN64 (FP.dsub x7 woffset_ad0) from (Jvm.Free.Fl.Mag64.fin (Jvm.Free.Fl.dsub_mag (K := 1100) (hm7.mono (by decide)) (hm_woffset_ad0.mono (by decide)) (by decide)) (by decide)).noNaN) rfl k) ?_
    show own_Fin p e below s _ _ _ (T54.setTop (mkF m 95 #[.val (.ref ad0), .val (.ref ad0), .val (.ref ad2), .val (.double z3), .second, .val (.double (FP.i2d xb)), .second, .val (.double (FP.i2d xr)), .second, .val (.double woffset_ad0), .second, .val (.double x7), .second, .val (.double w23), .second, .val (.int (1 : Int32)), .val (.double x51), .second, .val (.double x22), .second] [(.double (FP.dsub x7 woffset_ad0)), (.double (FP.i2d ra1)), (.double FP.dconst0)]))
    refine own_abs1 (F := fun x56 => own_Fin p e below s ({ frames := 1, cells := 0, slots := 0, locals := 17 } : Room).cells ({ frames := 1, cells := 0, slots := 0, locals := 17 } : Room).slots (own_Q18 Z ad0 ad2 z3 ra0 ra1 xb xr wjumps_ad0 wrates_ad0 woffset_ad0 k_wjumps_ad0 k_wrates_ad0 h0 n0) (T54.setTop (mkF m 95 #[.val (.ref ad0), .val (.ref ad0), .val (.ref ad2), .val (.double z3), .second, .val (.double (FP.i2d xb)), .second, .val (.double (FP.i2d xr)), .second, .val (.double woffset_ad0), .second, .val (.double x7), .second, .val (.double w23), .second, .val (.int (1 : Int32)), .val (.double x51), .second, .val (.double x22), .second] [(.double x56), (.double (FP.i2d ra1)), (.double FP.dconst0)]))) (e := (FP.dsub x7 woffset_ad0)) fun x56 gx56 => ?_
    have hm56 : Jvm.Free.Fl.Mag64 1102 x56 := by rw [gx56]; have q := (Jvm.Free.Fl.dsub_mag (K := 1100) (hm7.mono (by decide)) (hm_woffset_ad0.mono (by decide)) (by decide)); exact q
    show own_Fin p e below s _ _ _ (T54.setTop (mkF m 95 #[.val (.ref ad0), .val (.ref ad0), .val (.ref ad2), .val (.double z3), .second, .val (.double (FP.i2d xb)), .second, .val (.double (FP.i2d xr)), .second, .val (.double woffset_ad0), .second, .val (.double x7), .second, .val (.double w23), .second, .val (.int (1 : Int32)), .val (.double x51), .second, .val (.double x22), .second] [(.double x56), (.double (FP.i2d ra1)), (.double FP.dconst0)]))
    refine own_step (fun _ k => XS.dmulS X54.here hx rfl (hb hby own_d18_95) rfl (show Jvm.Free.Fl.NoNaN64 (FP.dmul (FP.i2d ra1) x56) from (Jvm.Free.Fl.Mag64.fin (Jvm.Free.Fl.dmul_mag (Jvm.Free.Fl.i2d_mag (ra1)) hm56 (by decide) (by decide)) (by decide)).noNaN) rfl k) ?_
    show own_Fin p e below s _ _ _ (T54.setTop (mkF m 96 #[.val (.ref ad0), .val (.ref ad0), .val (.ref ad2), .val (.double z3), .second, .val (.double (FP.i2d xb)), .second, .val (.double (FP.i2d xr)), .second, .val (.double woffset_ad0), .second, .val (.double x7), .second, .val (.double w23), .second, .val (.int (1 : Int32)), .val (.double x51), .second, .val (.double x22), .second] [(.double (FP.dmul (FP.i2d ra1) x56)), (.double FP.dconst0)]))
    refine own_abs1 (F := fun x57 => own_Fin p e below s ({ frames := 1, cells := 0, slots := 0, locals := 17 } : Room).cells ({ frames := 1, cells := 0, slots := 0, locals := 17 } : Room).slots (own_Q18 Z ad0 ad2 z3 ra0 ra1 xb xr wjumps_ad0 wrates_ad0 woffset_ad0 k_wjumps_ad0 k_wrates_ad0 h0 n0) (T54.setTop (mkF m 96 #[.val (.ref ad0), .val (.ref ad0), .val (.ref ad2), .val (.double z3), .second, .val (.double (FP.i2d xb)), .second, .val (.double (FP.i2d xr)), .second, .val (.double woffset_ad0), .second, .val (.double x7), .second, .val (.double w23), .second, .val (.int (1 : Int32)), .val (.double x51), .second, .val (.double x22), .second] [(.double x57), (.double FP.dconst0)]))) (e := (FP.dmul (FP.i2d ra1) x56)) fun x57 gx57 => ?_
    have hm57 : Jvm.Free.Fl.Mag64 1136 x57 := by rw [gx57]; have q := (Jvm.Free.Fl.dmul_mag (Jvm.Free.Fl.i2d_mag (ra1)) hm56 (by decide) (by decide)); exact q
    show own_Fin p e below s _ _ _ (T54.setTop (mkF m 96 #[.val (.ref ad0), .val (.ref ad0), .val (.ref ad2), .val (.double z3), .second, .val (.double (FP.i2d xb)), .second, .val (.double (FP.i2d xr)), .second, .val (.double woffset_ad0), .second, .val (.double x7), .second, .val (.double w23), .second, .val (.int (1 : Int32)), .val (.double x51), .second, .val (.double x22), .second] [(.double x57), (.double FP.dconst0)]))
    refine own_step (fun _ k => XS.daddS X54.here hx rfl (hb hby own_d18_96) rfl (show Jvm.Free.Fl.NoNaN64 (FP.dadd FP.dconst0 x57) from (Jvm.Free.Fl.Mag64.fin (Jvm.Free.Fl.dadd_mag (K := 1136) ((own_m0).mono (by decide)) (hm57.mono (by decide)) (by decide)) (by decide)).noNaN) rfl k) ?_
    show own_Fin p e below s _ _ _ (T54.setTop (mkF m 97 #[.val (.ref ad0), .val (.ref ad0), .val (.ref ad2), .val (.double z3), .second, .val (.double (FP.i2d xb)), .second, .val (.double (FP.i2d xr)), .second, .val (.double woffset_ad0), .second, .val (.double x7), .second, .val (.double w23), .second, .val (.int (1 : Int32)), .val (.double x51), .second, .val (.double x22), .second] [(.double (FP.dadd FP.dconst0 x57))]))
    refine own_abs1 (F := fun x58 => own_Fin p e below s ({ frames := 1, cells := 0, slots := 0, locals := 17 } : Room).cells ({ frames := 1, cells := 0, slots := 0, locals := 17 } : Room).slots (own_Q18 Z ad0 ad2 z3 ra0 ra1 xb xr wjumps_ad0 wrates_ad0 woffset_ad0 k_wjumps_ad0 k_wrates_ad0 h0 n0) (T54.setTop (mkF m 97 #[.val (.ref ad0), .val (.ref ad0), .val (.ref ad2), .val (.double z3), .second, .val (.double (FP.i2d xb)), .second, .val (.double (FP.i2d xr)), .second, .val (.double woffset_ad0), .second, .val (.double x7), .second, .val (.double w23), .second, .val (.int (1 : Int32)), .val (.double x51), .second, .val (.double x22), .second] [(.double x58)]))) (e := (FP.dadd FP.dconst0 x57)) fun x58 gx58 => ?_
    have hm58 : Jvm.Free.Fl.Mag64 1138 x58 := by rw [gx58]; have q := (Jvm.Free.Fl.dadd_mag (K := 1136) ((own_m0).mono (by decide)) (hm57.mono (by decide)) (by decide)); exact q
    show own_Fin p e below s _ _ _ (T54.setTop (mkF m 97 #[.val (.ref ad0), .val (.ref ad0), .val (.ref ad2), .val (.double z3), .second, .val (.double (FP.i2d xb)), .second, .val (.double (FP.i2d xr)), .second, .val (.double woffset_ad0), .second, .val (.double x7), .second, .val (.double w23), .second, .val (.int (1 : Int32)), .val (.double x51), .second, .val (.double x22), .second] [(.double x58)]))
    refine own_step (fun _ k => XS.dload X54.here hx rfl (hb hby own_d18_97) rfl k) ?_
    refine own_step (fun _ k => XS.dsubS X54.here hx rfl (hb hby own_d18_99) rfl (show Jvm.Free.Fl.NoNaN64 (FP.dsub x58 (FP.i2d xb)) from (Jvm.Free.Fl.Mag64.fin (Jvm.Free.Fl.dsub_mag (K := 1138) (hm58.mono (by decide)) ((Jvm.Free.Fl.i2d_mag (xb)).mono (by decide)) (by decide)) (by decide)).noNaN) rfl k) ?_
    show own_Fin p e below s _ _ _ (T54.setTop (mkF m 100 #[.val (.ref ad0), .val (.ref ad0), .val (.ref ad2), .val (.double z3), .second, .val (.double (FP.i2d xb)), .second, .val (.double (FP.i2d xr)), .second, .val (.double woffset_ad0), .second, .val (.double x7), .second, .val (.double w23), .second, .val (.int (1 : Int32)), .val (.double x51), .second, .val (.double x22), .second] [(.double (FP.dsub x58 (FP.i2d xb)))]))
    refine own_abs1 (F := fun x59 => own_Fin p e below s ({ frames := 1, cells := 0, slots := 0, locals := 17 } : Room).cells ({ frames := 1, cells := 0, slots := 0, locals := 17 } : Room).slots (own_Q18 Z ad0 ad2 z3 ra0 ra1 xb xr wjumps_ad0 wrates_ad0 woffset_ad0 k_wjumps_ad0 k_wrates_ad0 h0 n0) (T54.setTop (mkF m 100 #[.val (.ref ad0), .val (.ref ad0), .val (.ref ad2), .val (.double z3), .second, .val (.double (FP.i2d xb)), .second, .val (.double (FP.i2d xr)), .second, .val (.double woffset_ad0), .second, .val (.double x7), .second, .val (.double w23), .second, .val (.int (1 : Int32)), .val (.double x51), .second, .val (.double x22), .second] [(.double x59)]))) (e := (FP.dsub x58 (FP.i2d xb))) fun x59 gx59 => ?_
    have hm59 : Jvm.Free.Fl.Mag64 1140 x59 := by rw [gx59]; have q := (Jvm.Free.Fl.dsub_mag (K := 1138) (hm58.mono (by decide)) ((Jvm.Free.Fl.i2d_mag (xb)).mono (by decide)) (by decide)); exact q
    show own_Fin p e below s _ _ _ (T54.setTop (mkF m 100 #[.val (.ref ad0), .val (.ref ad0), .val (.ref ad2), .val (.double z3), .second, .val (.double (FP.i2d xb)), .second, .val (.double (FP.i2d xr)), .second, .val (.double woffset_ad0), .second, .val (.double x7), .second, .val (.double w23), .second, .val (.int (1 : Int32)), .val (.double x51), .second, .val (.double x22), .second] [(.double x59)]))
    refine own_step (fun _ k => XS.dload X54.here hx rfl (hb hby own_d18_100) rfl k) ?_
    refine own_step (fun _ k => XS.dload X54.here hx rfl (hb hby own_d18_102) rfl k) ?_
    refine own_step (fun _ k => XS.dloadN X54.here hx rfl (hb hby own_d18_104) rfl k) ?_
    refine own_step (fun _ k => XS.dsubS X54.here hx rfl (hb hby own_d18_105) rfl (show Jvm.Free.Fl.NoNaN64 (FP.dsub x7 z3) from (Jvm.Free.Fl.Mag64.fin (Jvm.Free.Fl.dsub_mag (K := 1100) (hm7.mono (by decide)) (hm_z3.mono (by decide)) (by decide)) (by decide)).noNaN) rfl k) ?_
    show own_Fin p e below s _ _ _ (T54.setTop (mkF m 106 #[.val (.ref ad0), .val (.ref ad0), .val (.ref ad2), .val (.double z3), .second, .val (.double (FP.i2d xb)), .second, .val (.double (FP.i2d xr)), .second, .val (.double woffset_ad0), .second, .val (.double x7), .second, .val (.double w23), .second, .val (.int (1 : Int32)), .val (.double x51), .second, .val (.double x22), .second] [(.double (FP.dsub x7 z3)), (.double (FP.i2d xr)), (.double x59)]))
    show own_Fin p e below s _ _ _ (T54.setTop (mkF m 106 #[.val (.ref ad0), .val (.ref ad0), .val (.ref ad2), .val (.double z3), .second, .val (.double (FP.i2d xb)), .second, .val (.double (FP.i2d xr)), .second, .val (.double woffset_ad0), .second, .val (.double x7), .second, .val (.double w23), .second, .val (.int (1 : Int32)), .val (.double x51), .second, .val (.double x22), .second] [(.double (FP.dsub x7 z3)), (.double (FP.i2d xr)), (.double x59)]))
    refine own_abs1 (F := fun x60 => own_Fin p e below s ({ frames := 1, cells := 0, slots := 0, locals := 17 } : Room).cells ({ frames := 1, cells := 0, slots := 0, locals := 17 } : Room).slots (own_Q18 Z ad0 ad2 z3 ra0 ra1 xb xr wjumps_ad0 wrates_ad0 woffset_ad0 k_wjumps_ad0 k_wrates_ad0 h0 n0) (T54.setTop (mkF m 106 #[.val (.ref ad0), .val (.ref ad0), .val (.ref ad2), .val (.double z3), .second, .val (.double (FP.i2d xb)), .second, .val (.double (FP.i2d xr)), .second, .val (.double woffset_ad0), .second, .val (.double x7), .second, .val (.double w23), .second, .val (.int (1 : Int32)), .val (.double x51), .second, .val (.double x22), .second] [(.double x60), (.double (FP.i2d xr)), (.double x59)]))) (e := (FP.dsub x7 z3)) fun x60 gx60 => ?_
    have hm60 : Jvm.Free.Fl.Mag64 1102 x60 := by rw [gx60]; have q := (Jvm.Free.Fl.dsub_mag (K := 1100) (hm7.mono (by decide)) (hm_z3.mono (by decide)) (by decide)); exact q
    show own_Fin p e below s _ _ _ (T54.setTop (mkF m 106 #[.val (.ref ad0), .val (.ref ad0), .val (.ref ad2), .val (.double z3), .second, .val (.double (FP.i2d xb)), .second, .val (.double (FP.i2d xr)), .second, .val (.double woffset_ad0), .second, .val (.double x7), .second, .val (.double w23), .second, .val (.int (1 : Int32)), .val (.double x51), .second, .val (.double x22), .second] [(.double x60), (.double (FP.i2d xr)), (.double x59)]))
    refine own_step (fun _ k => XS.dmulS X54.here hx rfl (hb hby own_d18_106) rfl (show Jvm.Free.Fl.NoNaN64 (FP.dmul (FP.i2d xr) x60) from (Jvm.Free.Fl.Mag64.fin (Jvm.Free.Fl.dmul_mag (Jvm.Free.Fl.i2d_mag (xr)) hm60 (by decide) (by decide)) (by decide)).noNaN) rfl k) ?_
    show own_Fin p e below s _ _ _ (T54.setTop (mkF m 107 #[.val (.ref ad0), .val (.ref ad0), .val (.ref ad2), .val (.double z3), .second, .val (.double (FP.i2d xb)), .second, .val (.double (FP.i2d xr)), .second, .val (.double woffset_ad0), .second, .val (.double x7), .second, .val (.double w23), .second, .val (.int (1 : Int32)), .val (.double x51), .second, .val (.double x22), .second] [(.double (FP.dmul (FP.i2d xr) x60)), (.double x59)]))
    refine own_abs1 (F := fun x61 => own_Fin p e below s ({ frames := 1, cells := 0, slots := 0, locals := 17 } : Room).cells ({ frames := 1, cells := 0, slots := 0, locals := 17 } : Room).slots (own_Q18 Z ad0 ad2 z3 ra0 ra1 xb xr wjumps_ad0 wrates_ad0 woffset_ad0 k_wjumps_ad0 k_wrates_ad0 h0 n0) (T54.setTop (mkF m 107 #[.val (.ref ad0), .val (.ref ad0), .val (.ref ad2), .val (.double z3), .second, .val (.double (FP.i2d xb)), .second, .val (.double (FP.i2d xr)), .second, .val (.double woffset_ad0), .second, .val (.double x7), .second, .val (.double w23), .second, .val (.int (1 : Int32)), .val (.double x51), .second, .val (.double x22), .second] [(.double x61), (.double x59)]))) (e := (FP.dmul (FP.i2d xr) x60)) fun x61 gx61 => ?_
    have hm61 : Jvm.Free.Fl.Mag64 1136 x61 := by rw [gx61]; have q := (Jvm.Free.Fl.dmul_mag (Jvm.Free.Fl.i2d_mag (xr)) hm60 (by decide) (by decide)); exact q
    show own_Fin p e below s _ _ _ (T54.setTop (mkF m 107 #[.val (.ref ad0), .val (.ref ad0), .val (.ref ad2), .val (.double z3), .second, .val (.double (FP.i2d xb)), .second, .val (.double (FP.i2d xr)), .second, .val (.double woffset_ad0), .second, .val (.double x7), .second, .val (.double w23), .second, .val (.int (1 : Int32)), .val (.double x51), .second, .val (.double x22), .second] [(.double x61), (.double x59)]))
    refine own_step (fun _ k => XS.dsubS X54.here hx rfl (hb hby own_d18_107) rfl (show Jvm.Free.Fl.NoNaN64 (FP.dsub x59 x61) from (Jvm.Free.Fl.Mag64.fin (Jvm.Free.Fl.dsub_mag (K := 1140) (hm59.mono (by decide)) (hm61.mono (by decide)) (by decide)) (by decide)).noNaN) rfl k) ?_
    show own_Fin p e below s _ _ _ (T54.setTop (mkF m 108 #[.val (.ref ad0), .val (.ref ad0), .val (.ref ad2), .val (.double z3), .second, .val (.double (FP.i2d xb)), .second, .val (.double (FP.i2d xr)), .second, .val (.double woffset_ad0), .second, .val (.double x7), .second, .val (.double w23), .second, .val (.int (1 : Int32)), .val (.double x51), .second, .val (.double x22), .second] [(.double (FP.dsub x59 x61))]))
    refine own_abs1 (F := fun x62 => own_Fin p e below s ({ frames := 1, cells := 0, slots := 0, locals := 17 } : Room).cells ({ frames := 1, cells := 0, slots := 0, locals := 17 } : Room).slots (own_Q18 Z ad0 ad2 z3 ra0 ra1 xb xr wjumps_ad0 wrates_ad0 woffset_ad0 k_wjumps_ad0 k_wrates_ad0 h0 n0) (T54.setTop (mkF m 108 #[.val (.ref ad0), .val (.ref ad0), .val (.ref ad2), .val (.double z3), .second, .val (.double (FP.i2d xb)), .second, .val (.double (FP.i2d xr)), .second, .val (.double woffset_ad0), .second, .val (.double x7), .second, .val (.double w23), .second, .val (.int (1 : Int32)), .val (.double x51), .second, .val (.double x22), .second] [(.double x62)]))) (e := (FP.dsub x59 x61)) fun x62 gx62 => ?_
    have hm62 : Jvm.Free.Fl.Mag64 1142 x62 := by rw [gx62]; have q := (Jvm.Free.Fl.dsub_mag (K := 1140) (hm59.mono (by decide)) (hm61.mono (by decide)) (by decide)); exact q
    show own_Fin p e below s _ _ _ (T54.setTop (mkF m 108 #[.val (.ref ad0), .val (.ref ad0), .val (.ref ad2), .val (.double z3), .second, .val (.double (FP.i2d xb)), .second, .val (.double (FP.i2d xr)), .second, .val (.double woffset_ad0), .second, .val (.double x7), .second, .val (.double w23), .second, .val (.int (1 : Int32)), .val (.double x51), .second, .val (.double x22), .second] [(.double x62)]))
    refine own_step (fun _ k => XS.dstore X54.here hx rfl (hb hby own_d18_108) rfl (l' := #[.val (.ref ad0), .val (.ref ad0), .val (.ref ad2), .val (.double z3), .second, .val (.double (FP.i2d xb)), .second, .val (.double (FP.i2d xr)), .second, .val (.double woffset_ad0), .second, .val (.double x7), .second, .val (.double w23), .second, .val (.int (1 : Int32)), .val (.double x51), .second, .val (.double x62), .second]) rfl k) ?_
    refine own_join (F := own_Fin p e below s ({ frames := 1, cells := 0, slots := 0, locals := 17 } : Room).cells ({ frames := 1, cells := 0, slots := 0, locals := 17 } : Room).slots (own_Q18 Z ad0 ad2 z3 ra0 ra1 xb xr wjumps_ad0 wrates_ad0 woffset_ad0 k_wjumps_ad0 k_wrates_ad0 h0 n0)) X54 e54 (β := UInt64) (fun w63 => (mkF m 156 #[.val (.ref ad0), .val (.ref ad0), .val (.ref ad2), .val (.double z3), .second, .val (.double (FP.i2d xb)), .second, .val (.double (FP.i2d xr)), .second, .val (.double woffset_ad0), .second, .val (.double x7), .second, .val (.double w63), .second, .val (.int (1 : Int32)), .val (.double x51), .second, .val (.double x62), .second] [])) (fun w63 => Jvm.Free.Fl.Mag64 1200 w63) ?_ ?_
    · intro Tj63 Xj63 ej63 w63 hj63
      show own_Fin p e below s _ _ _ (Tj63.setTop (mkF m 156 #[.val (.ref ad0), .val (.ref ad0), .val (.ref ad2), .val (.double z3), .second, .val (.double (FP.i2d xb)), .second, .val (.double (FP.i2d xr)), .second, .val (.double woffset_ad0), .second, .val (.double x7), .second, .val (.double w63), .second, .val (.int (1 : Int32)), .val (.double x51), .second, .val (.double x62), .second] []))
      refine own_step (fun _ k => XS.aloadN Xj63.here hx rfl (hb hby own_d18_156) rfl rfl k) ?_
      obtain ⟨T64, X64, e64, st64⟩ := getF Xj63 hx hZ hown (host := "") (Or.inl (own_w hw 10 rfl)) Via.refl ej63 G39 (g := (mkF m 157 #[.val (.ref ad0), .val (.ref ad0), .val (.ref ad2), .val (.double z3), .second, .val (.double (FP.i2d xb)), .second, .val (.double (FP.i2d xr)), .second, .val (.double woffset_ad0), .second, .val (.double x7), .second, .val (.double w63), .second, .val (.int (1 : Int32)), .val (.double x51), .second, .val (.double x62), .second] [(.ref ad0)])) rfl rfl (hb hby own_d18_157)
      refine own_step st64 ?_
      show own_Fin p e below s _ _ _ (T64.setTop (mkF m 160 #[.val (.ref ad0), .val (.ref ad0), .val (.ref ad2), .val (.double z3), .second, .val (.double (FP.i2d xb)), .second, .val (.double (FP.i2d xr)), .second, .val (.double woffset_ad0), .second, .val (.double x7), .second, .val (.double w63), .second, .val (.int (1 : Int32)), .val (.double x51), .second, .val (.double x62), .second] [(.ref wjumps_ad0)]))
      refine own_step (fun _ k => XS.iload X64.here hx rfl (hb hby own_d18_160) rfl k) ?_
      refine own_step (fun _ k => XS.dload X64.here hx rfl (hb hby own_d18_162) rfl k) ?_
      obtain ⟨cl65, Ar65, q65, Sz65, Ng65, Hs65, Gf65⟩ := id G46
      have hin65 : ¬ ((1 : Int32) < 0 ∨ cl65.slots.size ≤ ((1 : Int32)).toNatClampNeg) := inb_of Sz65 ⟨by decide, by decide⟩
      obtain ⟨T65, h65, X65, e65, W65, st65⟩ := stD X64 hx hZ e64 Ar65 (j := (1 : Int32)) hin65 (g := (mkF m 164 #[.val (.ref ad0), .val (.ref ad0), .val (.ref ad2), .val (.double z3), .second, .val (.double (FP.i2d xb)), .second, .val (.double (FP.i2d xr)), .second, .val (.double woffset_ad0), .second, .val (.double x7), .second, .val (.double w63), .second, .val (.int (1 : Int32)), .val (.double x51), .second, .val (.double x62), .second] [(.double x62), (.int (1 : Int32)), (.ref wjumps_ad0)])) rfl rfl (hb hby own_d18_164)
      have N65 := Fr.snoc X65 N37 g_wjumps_ad0
      have K65 : Keep h0 h65 [wjumps_ad0, wrates_ad0, ad0] := K37.wr W65 (Or.inl (List.mem_of_getElem? (i := 0) rfl))
      have Z65 : n0 ≤ h65.size := Nat.le_trans Z37 (Keep.of_wr W65).1
      have G66 := (G38.wr W65)
      have G67 := (G39.other W65 (Or.inl ne_ad0_wjumps_ad0))
      have G68 := (G40.other W65 (Or.inl ne_ad0_wjumps_ad0))
      have G69 := (G41.other W65 (Or.inl ne_ad0_wjumps_ad0))
      have G70 := (G42.other W65 (Or.inl ne_ad0_wjumps_ad0))
      have G71 := (G43.wr W65)
      have G72 := (G44.other W65 (Or.inl ne_ad2_wjumps_ad0))
      have G73 := (G45.other W65 (Or.inl ne_ad2_wjumps_ad0))
      have G74 := (G47.other W65 ne_wrates_ad0_wjumps_ad0)
      have G75 : Arv Z h65 wjumps_ad0 k_wjumps_ad0 .double (4 : Int32) [(.double x22), (.double x62)] (.double (0 : UInt64)) := Arv.set Ar65 q65 Sz65 Ng65 Hs65 Gf65 rfl W65 1 rfl (Nat.le_of_ble_eq_true rfl)
      refine own_step st65 ?_
      show own_Fin p e below s _ _ _ (T65.setTop (mkF m 165 #[.val (.ref ad0), .val (.ref ad0), .val (.ref ad2), .val (.double z3), .second, .val (.double (FP.i2d xb)), .second, .val (.double (FP.i2d xr)), .second, .val (.double woffset_ad0), .second, .val (.double x7), .second, .val (.double w63), .second, .val (.int (1 : Int32)), .val (.double x51), .second, .val (.double x62), .second] []))
      refine own_step (fun _ k => XS.aloadN X65.here hx rfl (hb hby own_d18_165) rfl rfl k) ?_
      obtain ⟨T76, X76, e76, st76⟩ := getF X65 hx hZ hown (host := "") (Or.inl (own_w hw 12 rfl)) Via.refl e65 G68 (g := (mkF m 166 #[.val (.ref ad0), .val (.ref ad0), .val (.ref ad2), .val (.double z3), .second, .val (.double (FP.i2d xb)), .second, .val (.double (FP.i2d xr)), .second, .val (.double woffset_ad0), .second, .val (.double x7), .second, .val (.double w63), .second, .val (.int (1 : Int32)), .val (.double x51), .second, .val (.double x62), .second] [(.ref ad0)])) rfl rfl (hb hby own_d18_166)
      refine own_step st76 ?_
      show own_Fin p e below s _ _ _ (T76.setTop (mkF m 169 #[.val (.ref ad0), .val (.ref ad0), .val (.ref ad2), .val (.double z3), .second, .val (.double (FP.i2d xb)), .second, .val (.double (FP.i2d xr)), .second, .val (.double woffset_ad0), .second, .val (.double x7), .second, .val (.double w63), .second, .val (.int (1 : Int32)), .val (.double x51), .second, .val (.double x62), .second] [(.ref wrates_ad0)]))
      refine own_step (fun _ k => XS.iload X76.here hx rfl (hb hby own_d18_169) rfl k) ?_
      refine own_step (fun _ k => XS.dload X76.here hx rfl (hb hby own_d18_171) rfl k) ?_
      obtain ⟨cl77, Ar77, q77, Sz77, Ng77, Hs77, Gf77⟩ := id G74
      have hin77 : ¬ ((1 : Int32) < 0 ∨ cl77.slots.size ≤ ((1 : Int32)).toNatClampNeg) := inb_of Sz77 ⟨by decide, by decide⟩
      obtain ⟨T77, h77, X77, e77, W77, st77⟩ := stD X76 hx hZ e76 Ar77 (j := (1 : Int32)) hin77 (g := (mkF m 173 #[.val (.ref ad0), .val (.ref ad0), .val (.ref ad2), .val (.double z3), .second, .val (.double (FP.i2d xb)), .second, .val (.double (FP.i2d xr)), .second, .val (.double woffset_ad0), .second, .val (.double x7), .second, .val (.double w63), .second, .val (.int (1 : Int32)), .val (.double x51), .second, .val (.double x62), .second] [(.double x51), (.int (1 : Int32)), (.ref wrates_ad0)])) rfl rfl (hb hby own_d18_173)
      have N77 := Fr.snoc X77 N65 g_wrates_ad0
      have K77 : Keep h0 h77 [wjumps_ad0, wrates_ad0, ad0] := K65.wr W77 (Or.inl (List.mem_of_getElem? (i := 1) rfl))
      have Z77 : n0 ≤ h77.size := Nat.le_trans Z65 (Keep.of_wr W77).1
      have G78 := (G66.wr W77)
      have G79 := (G67.other W77 (Or.inl ne_ad0_wrates_ad0))
      have G80 := (G68.other W77 (Or.inl ne_ad0_wrates_ad0))
      have G81 := (G69.other W77 (Or.inl ne_ad0_wrates_ad0))
      have G82 := (G70.other W77 (Or.inl ne_ad0_wrates_ad0))
      have G83 := (G71.wr W77)
      have G84 := (G72.other W77 (Or.inl ne_ad2_wrates_ad0))
      have G85 := (G73.other W77 (Or.inl ne_ad2_wrates_ad0))
      have G86 := (G75.other W77 ne_wjumps_ad0_wrates_ad0)
      have G87 : Arv Z h77 wrates_ad0 k_wrates_ad0 .double (4 : Int32) [(.double x11), (.double x51)] (.double (0 : UInt64)) := Arv.set Ar77 q77 Sz77 Ng77 Hs77 Gf77 rfl W77 1 rfl (Nat.le_of_ble_eq_true rfl)
      refine own_step st77 ?_
      show own_Fin p e below s _ _ _ (T77.setTop (mkF m 174 #[.val (.ref ad0), .val (.ref ad0), .val (.ref ad2), .val (.double z3), .second, .val (.double (FP.i2d xb)), .second, .val (.double (FP.i2d xr)), .second, .val (.double woffset_ad0), .second, .val (.double x7), .second, .val (.double w63), .second, .val (.int (1 : Int32)), .val (.double x51), .second, .val (.double x62), .second] []))
      refine own_step (fun _ k => XS.iinc X77.here hx rfl (hb hby own_d18_174) rfl (l' := #[.val (.ref ad0), .val (.ref ad0), .val (.ref ad2), .val (.double z3), .second, .val (.double (FP.i2d xb)), .second, .val (.double (FP.i2d xr)), .second, .val (.double woffset_ad0), .second, .val (.double x7), .second, .val (.double w63), .second, .val (.int ((1 : Int32) + (1 : Int32))), .val (.double x51), .second, .val (.double x62), .second]) rfl k) ?_
      show own_Fin p e below s _ _ _ (T77.setTop (mkF m 177 #[.val (.ref ad0), .val (.ref ad0), .val (.ref ad2), .val (.double z3), .second, .val (.double (FP.i2d xb)), .second, .val (.double (FP.i2d xr)), .second, .val (.double woffset_ad0), .second, .val (.double x7), .second, .val (.double w63), .second, .val (.int ((1 : Int32) + (1 : Int32))), .val (.double x51), .second, .val (.double x62), .second] []))
      rw [show ((1 : Int32) + (1 : Int32)) = (2 : Int32) from by decide]
      show own_Fin p e below s _ _ _ (T77.setTop (mkF m 177 #[.val (.ref ad0), .val (.ref ad0), .val (.ref ad2), .val (.double z3), .second, .val (.double (FP.i2d xb)), .second, .val (.double (FP.i2d xr)), .second, .val (.double woffset_ad0), .second, .val (.double x7), .second, .val (.double w63), .second, .val (.int (2 : Int32)), .val (.double x51), .second, .val (.double x62), .second] []))
      refine own_step (fun _ k => XS.goto X77.here hx rfl (pc0 := 177) (pc' := 55) rfl (hb hby own_d18_177) (by decide) (by decide) k) ?_
      refine own_step (fun _ k => XS.iload X77.here hx rfl (hb hby own_d18_55) rfl k) ?_
      refine own_step (fun _ k => XS.aloadN X77.here hx rfl (hb hby own_d18_57) rfl rfl k) ?_
      obtain ⟨T88, X88, e88, st88⟩ := getF X77 hx hZ hown (host := "") (Or.inl (own_w hw 37 rfl)) Via.refl e77 G82 (g := (mkF m 58 #[.val (.ref ad0), .val (.ref ad0), .val (.ref ad2), .val (.double z3), .second, .val (.double (FP.i2d xb)), .second, .val (.double (FP.i2d xr)), .second, .val (.double woffset_ad0), .second, .val (.double x7), .second, .val (.double w63), .second, .val (.int (2 : Int32)), .val (.double x51), .second, .val (.double x62), .second] [(.ref ad0), (.int (2 : Int32))])) rfl rfl (hb hby own_d18_58)
      refine own_step st88 ?_
      show own_Fin p e below s _ _ _ (T88.setTop (mkF m 61 #[.val (.ref ad0), .val (.ref ad0), .val (.ref ad2), .val (.double z3), .second, .val (.double (FP.i2d xb)), .second, .val (.double (FP.i2d xr)), .second, .val (.double woffset_ad0), .second, .val (.double x7), .second, .val (.double w63), .second, .val (.int (2 : Int32)), .val (.double x51), .second, .val (.double x62), .second] [(.int (2 : Int32)), (.int (2 : Int32))]))
      refine own_step (fun _ k => XS.icmpYes X88.here hx rfl (pc0 := 61) (pc' := 180) rfl (hb hby own_d18_61) rfl (flt (by decide : ¬ ((2 : Int32) < (2 : Int32)))).2.1 (by decide) (by decide) k) ?_
      refine own_step (fun _ k => XS.aloadN X88.here hx rfl (hb hby own_d18_180) rfl rfl k) ?_
      refine own_step (fun _ k => XS.aloadN X88.here hx rfl (hb hby own_d18_181) rfl rfl k) ?_
      obtain ⟨T89, X89, e89, st89⟩ := getF X88 hx hZ hown (host := "") (Or.inl (own_w hw 37 rfl)) Via.refl e88 G82 (g := (mkF m 182 #[.val (.ref ad0), .val (.ref ad0), .val (.ref ad2), .val (.double z3), .second, .val (.double (FP.i2d xb)), .second, .val (.double (FP.i2d xr)), .second, .val (.double woffset_ad0), .second, .val (.double x7), .second, .val (.double w63), .second, .val (.int (2 : Int32)), .val (.double x51), .second, .val (.double x62), .second] [(.ref ad0), (.ref ad0)])) rfl rfl (hb hby own_d18_182)
      refine own_step st89 ?_
      show own_Fin p e below s _ _ _ (T89.setTop (mkF m 185 #[.val (.ref ad0), .val (.ref ad0), .val (.ref ad2), .val (.double z3), .second, .val (.double (FP.i2d xb)), .second, .val (.double (FP.i2d xr)), .second, .val (.double woffset_ad0), .second, .val (.double x7), .second, .val (.double w63), .second, .val (.int (2 : Int32)), .val (.double x51), .second, .val (.double x62), .second] [(.int (2 : Int32)), (.ref ad0)]))
      obtain ⟨T90, h90, X90, e90, W90, st90⟩ := putF X89 hx hZ hown (host := "") (Or.inl (own_w hw 37 rfl)) Via.refl e89 G82 G78 (Or.inl (own_w hw 38 rfl)) (own_w hw 1 rfl) (ty := .int) (by decide) rfl rfl (g := (mkF m 185 #[.val (.ref ad0), .val (.ref ad0), .val (.ref ad2), .val (.double z3), .second, .val (.double (FP.i2d xb)), .second, .val (.double (FP.i2d xr)), .second, .val (.double woffset_ad0), .second, .val (.double x7), .second, .val (.double w63), .second, .val (.int (2 : Int32)), .val (.double x51), .second, .val (.double x62), .second] [(.int (2 : Int32)), (.ref ad0)])) rfl rfl (hb hby own_d18_185)
      have N90 := Fr.snoc X90 N77 g_ad0
      have K90 : Keep h0 h90 [wjumps_ad0, wrates_ad0, ad0] := K77.wr W90 (Or.inl (List.mem_of_getElem? (i := 2) rfl))
      have Z90 : n0 ≤ h90.size := Nat.le_trans Z77 (Keep.of_wr W90).1
      have G91 := (G78.wr W90)
      have G92 := (G79.other W90 (Or.inr (slot_ne (Or.inr (own_w hw 11 rfl)) (Or.inl (own_w hw 38 rfl)) (by decide) (t := (.array .double)) (t' := .int) (by decide) (by decide))))
      have G93 := (G80.other W90 (Or.inr (slot_ne (Or.inr (own_w hw 13 rfl)) (Or.inl (own_w hw 38 rfl)) (by decide) (t := (.array .double)) (t' := .int) (by decide) (by decide))))
      have G94 := (G81.other W90 (Or.inr (slot_ne (Or.inl (own_w hw 36 rfl)) (Or.inl (own_w hw 38 rfl)) (by decide) (t := .double) (t' := .int) (by decide) (by decide))))
      have G95 := (G83.wr W90)
      have G96 := (G84.other W90 (Or.inl ne_ad2_ad0))
      have G97 := (G85.other W90 (Or.inl ne_ad2_ad0))
      have G98 := (G86.other W90 ne_wjumps_ad0_ad0)
      have G99 := (G87.other W90 ne_wrates_ad0_ad0)
      have G100 := G82.same W90
      refine own_step st90 ?_
      show own_Fin p e below s _ _ _ (T90.setTop (mkF m 188 #[.val (.ref ad0), .val (.ref ad0), .val (.ref ad2), .val (.double z3), .second, .val (.double (FP.i2d xb)), .second, .val (.double (FP.i2d xr)), .second, .val (.double woffset_ad0), .second, .val (.double x7), .second, .val (.double w63), .second, .val (.int (2 : Int32)), .val (.double x51), .second, .val (.double x62), .second] []))
      refine own_step (fun _ k => XS.iconst X90.here hx rfl (hb hby own_d18_188) k) ?_
      refine own_step (fun _ k => XS.istore X90.here hx rfl (hb hby own_d18_189) rfl (l' := #[.val (.ref ad0), .val (.ref ad0), .val (.ref ad2), .val (.double z3), .second, .val (.double (FP.i2d xb)), .second, .val (.double (FP.i2d xr)), .second, .val (.double woffset_ad0), .second, .val (.double x7), .second, .val (.double w63), .second, .val (.int (0 : Int32)), .val (.double x51), .second, .val (.double x62), .second]) rfl k) ?_
      refine own_step (fun _ k => XS.iload X90.here hx rfl (hb hby own_d18_191) rfl k) ?_
      refine own_step (fun _ k => XS.aloadN X90.here hx rfl (hb hby own_d18_193) rfl rfl k) ?_
      show own_Fin p e below s _ _ _ (T90.setTop (mkF m 194 #[.val (.ref ad0), .val (.ref ad0), .val (.ref ad2), .val (.double z3), .second, .val (.double (FP.i2d xb)), .second, .val (.double (FP.i2d xr)), .second, .val (.double woffset_ad0), .second, .val (.double x7), .second, .val (.double w63), .second, .val (.int (0 : Int32)), .val (.double x51), .second, .val (.double x62), .second] [(.ref ad0), (.int (0 : Int32))]))
      obtain ⟨T101, X101, e101, st101⟩ := getF X90 hx hZ hown (host := "") (Or.inl (own_w hw 37 rfl)) Via.refl e90 G100 (g := (mkF m 194 #[.val (.ref ad0), .val (.ref ad0), .val (.ref ad2), .val (.double z3), .second, .val (.double (FP.i2d xb)), .second, .val (.double (FP.i2d xr)), .second, .val (.double woffset_ad0), .second, .val (.double x7), .second, .val (.double w63), .second, .val (.int (0 : Int32)), .val (.double x51), .second, .val (.double x62), .second] [(.ref ad0), (.int (0 : Int32))])) rfl rfl (hb hby own_d18_194)
      refine own_step st101 ?_
      show own_Fin p e below s _ _ _ (T101.setTop (mkF m 197 #[.val (.ref ad0), .val (.ref ad0), .val (.ref ad2), .val (.double z3), .second, .val (.double (FP.i2d xb)), .second, .val (.double (FP.i2d xr)), .second, .val (.double woffset_ad0), .second, .val (.double x7), .second, .val (.double w63), .second, .val (.int (0 : Int32)), .val (.double x51), .second, .val (.double x62), .second] [(.int (2 : Int32)), (.int (0 : Int32))]))
      refine own_step (fun _ k => XS.icmpNo X101.here hx rfl (hb hby own_d18_197) rfl (tlt (by decide : (0 : Int32) < (2 : Int32))).2.1 k) ?_
      refine own_step (fun _ k => XS.aloadN X101.here hx rfl (hb hby own_d18_200) rfl rfl k) ?_
      obtain ⟨T102, X102, e102, st102⟩ := getF X101 hx hZ hown (host := "") (Or.inl (own_w hw 10 rfl)) Via.refl e101 G92 (g := (mkF m 201 #[.val (.ref ad0), .val (.ref ad0), .val (.ref ad2), .val (.double z3), .second, .val (.double (FP.i2d xb)), .second, .val (.double (FP.i2d xr)), .second, .val (.double woffset_ad0), .second, .val (.double x7), .second, .val (.double w63), .second, .val (.int (0 : Int32)), .val (.double x51), .second, .val (.double x62), .second] [(.ref ad0)])) rfl rfl (hb hby own_d18_201)
      refine own_step st102 ?_
      show own_Fin p e below s _ _ _ (T102.setTop (mkF m 204 #[.val (.ref ad0), .val (.ref ad0), .val (.ref ad2), .val (.double z3), .second, .val (.double (FP.i2d xb)), .second, .val (.double (FP.i2d xr)), .second, .val (.double woffset_ad0), .second, .val (.double x7), .second, .val (.double w63), .second, .val (.int (0 : Int32)), .val (.double x51), .second, .val (.double x62), .second] [(.ref wjumps_ad0)]))
      refine own_step (fun _ k => XS.iload X102.here hx rfl (hb hby own_d18_204) rfl k) ?_
      refine own_step (fun _ k => XS.dconst0 X102.here hx rfl (hb hby own_d18_206) rfl k) ?_
      refine own_step (fun _ k => XS.aloadN X102.here hx rfl (hb hby own_d18_207) rfl rfl k) ?_
      obtain ⟨T103, X103, e103, st103⟩ := getF X102 hx hZ hown (host := "") (Or.inl (own_w hw 10 rfl)) Via.refl e102 G92 (g := (mkF m 208 #[.val (.ref ad0), .val (.ref ad0), .val (.ref ad2), .val (.double z3), .second, .val (.double (FP.i2d xb)), .second, .val (.double (FP.i2d xr)), .second, .val (.double woffset_ad0), .second, .val (.double x7), .second, .val (.double w63), .second, .val (.int (0 : Int32)), .val (.double x51), .second, .val (.double x62), .second] [(.ref ad0), (.double FP.dconst0), (.int (0 : Int32)), (.ref wjumps_ad0)])) rfl rfl (hb hby own_d18_208)
      refine own_step st103 ?_
      show own_Fin p e below s _ _ _ (T103.setTop (mkF m 211 #[.val (.ref ad0), .val (.ref ad0), .val (.ref ad2), .val (.double z3), .second, .val (.double (FP.i2d xb)), .second, .val (.double (FP.i2d xr)), .second, .val (.double woffset_ad0), .second, .val (.double x7), .second, .val (.double w63), .second, .val (.int (0 : Int32)), .val (.double x51), .second, .val (.double x62), .second] [(.ref wjumps_ad0), (.double FP.dconst0), (.int (0 : Int32)), (.ref wjumps_ad0)]))
      refine own_step (fun _ k => XS.iload X103.here hx rfl (hb hby own_d18_211) rfl k) ?_
      obtain ⟨cl104, Ar104, q104, Sz104, Ng104, Hs104, Gf104⟩ := id G98
      have hin104 : ¬ ((0 : Int32) < 0 ∨ cl104.slots.size ≤ ((0 : Int32)).toNatClampNeg) := inb_of Sz104 ⟨by decide, by decide⟩
      refine own_step (fun _ k => X103.daload hx (j := (0 : Int32)) (v := (.double x22)) (by rw [e103]; exact Ar104.1) (State.isArrayOf_alike hZ.alike Ar104.2.1) Ar104.2.2 hin104 (Has.at Hs104 hin104 rfl) (g := (mkF m 213 #[.val (.ref ad0), .val (.ref ad0), .val (.ref ad2), .val (.double z3), .second, .val (.double (FP.i2d xb)), .second, .val (.double (FP.i2d xr)), .second, .val (.double woffset_ad0), .second, .val (.double x7), .second, .val (.double w63), .second, .val (.int (0 : Int32)), .val (.double x51), .second, .val (.double x62), .second] [(.int (0 : Int32)), (.ref wjumps_ad0), (.double FP.dconst0), (.int (0 : Int32)), (.ref wjumps_ad0)])) rfl rfl (hb hby own_d18_213) _ k) ?_
      refine own_step (fun _ k => XS.aloadN X103.here hx rfl (hb hby own_d18_214) rfl rfl k) ?_
      obtain ⟨T105, X105, e105, st105⟩ := getF X103 hx hZ hown (host := "") (Or.inl (own_w hw 12 rfl)) Via.refl e103 G93 (g := (mkF m 215 #[.val (.ref ad0), .val (.ref ad0), .val (.ref ad2), .val (.double z3), .second, .val (.double (FP.i2d xb)), .second, .val (.double (FP.i2d xr)), .second, .val (.double woffset_ad0), .second, .val (.double x7), .second, .val (.double w63), .second, .val (.int (0 : Int32)), .val (.double x51), .second, .val (.double x62), .second] [(.ref ad0), (.double x22), (.double FP.dconst0), (.int (0 : Int32)), (.ref wjumps_ad0)])) rfl rfl (hb hby own_d18_215)
      refine own_step st105 ?_
      show own_Fin p e below s _ _ _ (T105.setTop (mkF m 218 #[.val (.ref ad0), .val (.ref ad0), .val (.ref ad2), .val (.double z3), .second, .val (.double (FP.i2d xb)), .second, .val (.double (FP.i2d xr)), .second, .val (.double woffset_ad0), .second, .val (.double x7), .second, .val (.double w63), .second, .val (.int (0 : Int32)), .val (.double x51), .second, .val (.double x62), .second] [(.ref wrates_ad0), (.double x22), (.double FP.dconst0), (.int (0 : Int32)), (.ref wjumps_ad0)]))
      refine own_step (fun _ k => XS.iload X105.here hx rfl (hb hby own_d18_218) rfl k) ?_
      obtain ⟨cl106, Ar106, q106, Sz106, Ng106, Hs106, Gf106⟩ := id G99
      have hin106 : ¬ ((0 : Int32) < 0 ∨ cl106.slots.size ≤ ((0 : Int32)).toNatClampNeg) := inb_of Sz106 ⟨by decide, by decide⟩
      refine own_step (fun _ k => X105.daload hx (j := (0 : Int32)) (v := (.double x11)) (by rw [e105]; exact Ar106.1) (State.isArrayOf_alike hZ.alike Ar106.2.1) Ar106.2.2 hin106 (Has.at Hs106 hin106 rfl) (g := (mkF m 220 #[.val (.ref ad0), .val (.ref ad0), .val (.ref ad2), .val (.double z3), .second, .val (.double (FP.i2d xb)), .second, .val (.double (FP.i2d xr)), .second, .val (.double woffset_ad0), .second, .val (.double x7), .second, .val (.double w63), .second, .val (.int (0 : Int32)), .val (.double x51), .second, .val (.double x62), .second] [(.int (0 : Int32)), (.ref wrates_ad0), (.double x22), (.double FP.dconst0), (.int (0 : Int32)), (.ref wjumps_ad0)])) rfl rfl (hb hby own_d18_220) _ k) ?_
      refine own_step (fun _ k => XS.dload X105.here hx rfl (hb hby own_d18_221) rfl k) ?_
      refine own_step (fun _ k => XS.dmulS X105.here hx rfl (hb hby own_d18_223) rfl (show Jvm.Free.Fl.NoNaN64 (FP.dmul x11 w63) from (Jvm.Free.Fl.Mag64.fin (Jvm.Free.Fl.dmul_mag hm11 hj63 (by decide) (by decide)) (by decide)).noNaN) rfl k) ?_
      show own_Fin p e below s _ _ _ (T105.setTop (mkF m 224 #[.val (.ref ad0), .val (.ref ad0), .val (.ref ad2), .val (.double z3), .second, .val (.double (FP.i2d xb)), .second, .val (.double (FP.i2d xr)), .second, .val (.double woffset_ad0), .second, .val (.double x7), .second, .val (.double w63), .second, .val (.int (0 : Int32)), .val (.double x51), .second, .val (.double x62), .second] [(.double (FP.dmul x11 w63)), (.double x22), (.double FP.dconst0), (.int (0 : Int32)), (.ref wjumps_ad0)]))
      show own_Fin p e below s _ _ _ (T105.setTop (mkF m 224 #[.val (.ref ad0), .val (.ref ad0), .val (.ref ad2), .val (.double z3), .second, .val (.double (FP.i2d xb)), .second, .val (.double (FP.i2d xr)), .second, .val (.double woffset_ad0), .second, .val (.double x7), .second, .val (.double w63), .second, .val (.int (0 : Int32)), .val (.double x51), .second, .val (.double x62), .second] [(.double (FP.dmul x11 w63)), (.double x22), (.double FP.dconst0), (.int (0 : Int32)), (.ref wjumps_ad0)]))
      refine own_abs1 (F := fun x107 => own_Fin p e below s ({ frames := 1, cells := 0, slots := 0, locals := 17 } : Room).cells ({ frames := 1, cells := 0, slots := 0, locals := 17 } : Room).slots (own_Q18 Z ad0 ad2 z3 ra0 ra1 xb xr wjumps_ad0 wrates_ad0 woffset_ad0 k_wjumps_ad0 k_wrates_ad0 h0 n0) (T105.setTop (mkF m 224 #[.val (.ref ad0), .val (.ref ad0), .val (.ref ad2), .val (.double z3), .second, .val (.double (FP.i2d xb)), .second, .val (.double (FP.i2d xr)), .second, .val (.double woffset_ad0), .second, .val (.double x7), .second, .val (.double w63), .second, .val (.int (0 : Int32)), .val (.double x51), .second, .val (.double x62), .second] [(.double x107), (.double x22), (.double FP.dconst0), (.int (0 : Int32)), (.ref wjumps_ad0)]))) (e := (FP.dmul x11 w63)) fun x107 gx107 => ?_
      have hm107 : Jvm.Free.Fl.Mag64 1236 x107 := by rw [gx107]; have q := (Jvm.Free.Fl.dmul_mag hm11 hj63 (by decide) (by decide)); exact q
      show own_Fin p e below s _ _ _ (T105.setTop (mkF m 224 #[.val (.ref ad0), .val (.ref ad0), .val (.ref ad2), .val (.double z3), .second, .val (.double (FP.i2d xb)), .second, .val (.double (FP.i2d xr)), .second, .val (.double woffset_ad0), .second, .val (.double x7), .second, .val (.double w63), .second, .val (.int (0 : Int32)), .val (.double x51), .second, .val (.double x62), .second] [(.double x107), (.double x22), (.double FP.dconst0), (.int (0 : Int32)), (.ref wjumps_ad0)]))
      refine own_step (fun _ k => XS.daddS X105.here hx rfl (hb hby own_d18_224) rfl (show Jvm.Free.Fl.NoNaN64 (FP.dadd x22 x107) from (Jvm.Free.Fl.Mag64.fin (Jvm.Free.Fl.dadd_mag (K := 1236) (hm22.mono (by decide)) (hm107.mono (by decide)) (by decide)) (by decide)).noNaN) rfl k) ?_
      show own_Fin p e below s _ _ _ (T105.setTop (mkF m 225 #[.val (.ref ad0), .val (.ref ad0), .val (.ref ad2), .val (.double z3), .second, .val (.double (FP.i2d xb)), .second, .val (.double (FP.i2d xr)), .second, .val (.double woffset_ad0), .second, .val (.double x7), .second, .val (.double w63), .second, .val (.int (0 : Int32)), .val (.double x51), .second, .val (.double x62), .second] [(.double (FP.dadd x22 x107)), (.double FP.dconst0), (.int (0 : Int32)), (.ref wjumps_ad0)]))
      refine own_abs1 (F := fun x108 => own_Fin p e below s ({ frames := 1, cells := 0, slots := 0, locals := 17 } : Room).cells ({ frames := 1, cells := 0, slots := 0, locals := 17 } : Room).slots (own_Q18 Z ad0 ad2 z3 ra0 ra1 xb xr wjumps_ad0 wrates_ad0 woffset_ad0 k_wjumps_ad0 k_wrates_ad0 h0 n0) (T105.setTop (mkF m 225 #[.val (.ref ad0), .val (.ref ad0), .val (.ref ad2), .val (.double z3), .second, .val (.double (FP.i2d xb)), .second, .val (.double (FP.i2d xr)), .second, .val (.double woffset_ad0), .second, .val (.double x7), .second, .val (.double w63), .second, .val (.int (0 : Int32)), .val (.double x51), .second, .val (.double x62), .second] [(.double x108), (.double FP.dconst0), (.int (0 : Int32)), (.ref wjumps_ad0)]))) (e := (FP.dadd x22 x107)) fun x108 gx108 => ?_
      have hm108 : Jvm.Free.Fl.Mag64 1238 x108 := by rw [gx108]; have q := (Jvm.Free.Fl.dadd_mag (K := 1236) (hm22.mono (by decide)) (hm107.mono (by decide)) (by decide)); exact q
      show own_Fin p e below s _ _ _ (T105.setTop (mkF m 225 #[.val (.ref ad0), .val (.ref ad0), .val (.ref ad2), .val (.double z3), .second, .val (.double (FP.i2d xb)), .second, .val (.double (FP.i2d xr)), .second, .val (.double woffset_ad0), .second, .val (.double x7), .second, .val (.double w63), .second, .val (.int (0 : Int32)), .val (.double x51), .second, .val (.double x62), .second] [(.double x108), (.double FP.dconst0), (.int (0 : Int32)), (.ref wjumps_ad0)]))
      obtain ⟨T109, X109, e109, st109⟩ := natS X105 hx hZ hown (own_w hw 116 rfl) (own_w hw 117 rfl) (own_w hw 118 rfl) (show (Jvm.Cond.code Jvm.Free.Fl.Abs.maxDN Jvm.Free.Fl.Abs.maxDCode 4 (some .double)).before a0 Z = true from (own_w hw 119 rfl)) (by decide) e105 (fun hcd => Jvm.Free.Fl.Abs.maxD_pays (W := 2) FP.dconst0 x108 hcd (by decide) (by decide)) (g := (mkF m 225 #[.val (.ref ad0), .val (.ref ad0), .val (.ref ad2), .val (.double z3), .second, .val (.double (FP.i2d xb)), .second, .val (.double (FP.i2d xr)), .second, .val (.double woffset_ad0), .second, .val (.double x7), .second, .val (.double w63), .second, .val (.int (0 : Int32)), .val (.double x51), .second, .val (.double x62), .second] [(.double x108), (.double FP.dconst0), (.int (0 : Int32)), (.ref wjumps_ad0)])) rfl (by rw [hml]; rfl) (argsL := [(.double FP.dconst0), (.double x108)]) (rest := [(.int (0 : Int32)), (.ref wjumps_ad0)]) (lenOf own_pd2 rfl) rfl (by show 2 * 0 + _ ≤ _; exact Nat.le_of_eq rfl) (hb hby own_d18_225) (by decide) (by decide) ⟨rfl, (Jvm.Free.Fl.Mag64.fin (own_m0) (by decide)).noNaN, (Jvm.Free.Fl.Mag64.fin hm108 (by decide)).noNaN⟩ (val' := (.double (Jvm.Native.java_lang_Math.nans.pick64 true FP.dconst0 x108))) rfl
      refine own_step st109 ?_
      show own_Fin p e below s _ _ _ (T109.setTop (mkF m 228 #[.val (.ref ad0), .val (.ref ad0), .val (.ref ad2), .val (.double z3), .second, .val (.double (FP.i2d xb)), .second, .val (.double (FP.i2d xr)), .second, .val (.double woffset_ad0), .second, .val (.double x7), .second, .val (.double w63), .second, .val (.int (0 : Int32)), .val (.double x51), .second, .val (.double x62), .second] [(.double (Jvm.Native.java_lang_Math.nans.pick64 true FP.dconst0 x108)), (.int (0 : Int32)), (.ref wjumps_ad0)]))
      show own_Fin p e below s _ _ _ (T109.setTop (mkF m 228 #[.val (.ref ad0), .val (.ref ad0), .val (.ref ad2), .val (.double z3), .second, .val (.double (FP.i2d xb)), .second, .val (.double (FP.i2d xr)), .second, .val (.double woffset_ad0), .second, .val (.double x7), .second, .val (.double w63), .second, .val (.int (0 : Int32)), .val (.double x51), .second, .val (.double x62), .second] [(.double (Jvm.Native.java_lang_Math.nans.pick64 true FP.dconst0 x108)), (.int (0 : Int32)), (.ref wjumps_ad0)]))
      refine own_abs1 (F := fun x110 => own_Fin p e below s ({ frames := 1, cells := 0, slots := 0, locals := 17 } : Room).cells ({ frames := 1, cells := 0, slots := 0, locals := 17 } : Room).slots (own_Q18 Z ad0 ad2 z3 ra0 ra1 xb xr wjumps_ad0 wrates_ad0 woffset_ad0 k_wjumps_ad0 k_wrates_ad0 h0 n0) (T109.setTop (mkF m 228 #[.val (.ref ad0), .val (.ref ad0), .val (.ref ad2), .val (.double z3), .second, .val (.double (FP.i2d xb)), .second, .val (.double (FP.i2d xr)), .second, .val (.double woffset_ad0), .second, .val (.double x7), .second, .val (.double w63), .second, .val (.int (0 : Int32)), .val (.double x51), .second, .val (.double x62), .second] [(.double x110), (.int (0 : Int32)), (.ref wjumps_ad0)]))) (e := (Jvm.Native.java_lang_Math.nans.pick64 true FP.dconst0 x108)) fun x110 gx110 => ?_
      have hm110 : Jvm.Free.Fl.Mag64 1238 x110 := by rw [gx110]; exact (Jvm.Free.Fl.pick64_mag ((own_m0).mono (by decide)) (hm108.mono (by decide)) : Jvm.Free.Fl.Mag64 1238 _)
      show own_Fin p e below s _ _ _ (T109.setTop (mkF m 228 #[.val (.ref ad0), .val (.ref ad0), .val (.ref ad2), .val (.double z3), .second, .val (.double (FP.i2d xb)), .second, .val (.double (FP.i2d xr)), .second, .val (.double woffset_ad0), .second, .val (.double x7), .second, .val (.double w63), .second, .val (.int (0 : Int32)), .val (.double x51), .second, .val (.double x62), .second] [(.double x110), (.int (0 : Int32)), (.ref wjumps_ad0)]))
      obtain ⟨cl111, Ar111, q111, Sz111, Ng111, Hs111, Gf111⟩ := id G98
      have hin111 : ¬ ((0 : Int32) < 0 ∨ cl111.slots.size ≤ ((0 : Int32)).toNatClampNeg) := inb_of Sz111 ⟨by decide, by decide⟩
      obtain ⟨T111, h111, X111, e111, W111, st111⟩ := stD X109 hx hZ e109 Ar111 (j := (0 : Int32)) hin111 (g := (mkF m 228 #[.val (.ref ad0), .val (.ref ad0), .val (.ref ad2), .val (.double z3), .second, .val (.double (FP.i2d xb)), .second, .val (.double (FP.i2d xr)), .second, .val (.double woffset_ad0), .second, .val (.double x7), .second, .val (.double w63), .second, .val (.int (0 : Int32)), .val (.double x51), .second, .val (.double x62), .second] [(.double x110), (.int (0 : Int32)), (.ref wjumps_ad0)])) rfl rfl (hb hby own_d18_228)
      have N111 := Fr.snoc X111 N90 g_wjumps_ad0
      have K111 : Keep h0 h111 [wjumps_ad0, wrates_ad0, ad0] := K90.wr W111 (Or.inl (List.mem_of_getElem? (i := 0) rfl))
      have Z111 : n0 ≤ h111.size := Nat.le_trans Z90 (Keep.of_wr W111).1
      have G112 := (G91.wr W111)
      have G113 := (G92.other W111 (Or.inl ne_ad0_wjumps_ad0))
      have G114 := (G93.other W111 (Or.inl ne_ad0_wjumps_ad0))
      have G115 := (G94.other W111 (Or.inl ne_ad0_wjumps_ad0))
      have G116 := (G95.wr W111)
      have G117 := (G96.other W111 (Or.inl ne_ad2_wjumps_ad0))
      have G118 := (G97.other W111 (Or.inl ne_ad2_wjumps_ad0))
      have G119 := (G99.other W111 ne_wrates_ad0_wjumps_ad0)
      have G120 := (G100.other W111 (Or.inl ne_ad0_wjumps_ad0))
      have G121 : Arv Z h111 wjumps_ad0 k_wjumps_ad0 .double (4 : Int32) [(.double x110), (.double x62)] (.double (0 : UInt64)) := Arv.set Ar111 q111 Sz111 Ng111 Hs111 Gf111 rfl W111 0 rfl (Nat.le_of_ble_eq_true rfl)
      refine own_step st111 ?_
      show own_Fin p e below s _ _ _ (T111.setTop (mkF m 229 #[.val (.ref ad0), .val (.ref ad0), .val (.ref ad2), .val (.double z3), .second, .val (.double (FP.i2d xb)), .second, .val (.double (FP.i2d xr)), .second, .val (.double woffset_ad0), .second, .val (.double x7), .second, .val (.double w63), .second, .val (.int (0 : Int32)), .val (.double x51), .second, .val (.double x62), .second] []))
      refine own_step (fun _ k => XS.iinc X111.here hx rfl (hb hby own_d18_229) rfl (l' := #[.val (.ref ad0), .val (.ref ad0), .val (.ref ad2), .val (.double z3), .second, .val (.double (FP.i2d xb)), .second, .val (.double (FP.i2d xr)), .second, .val (.double woffset_ad0), .second, .val (.double x7), .second, .val (.double w63), .second, .val (.int ((0 : Int32) + (1 : Int32))), .val (.double x51), .second, .val (.double x62), .second]) rfl k) ?_
      show own_Fin p e below s _ _ _ (T111.setTop (mkF m 232 #[.val (.ref ad0), .val (.ref ad0), .val (.ref ad2), .val (.double z3), .second, .val (.double (FP.i2d xb)), .second, .val (.double (FP.i2d xr)), .second, .val (.double woffset_ad0), .second, .val (.double x7), .second, .val (.double w63), .second, .val (.int ((0 : Int32) + (1 : Int32))), .val (.double x51), .second, .val (.double x62), .second] []))
      rw [show ((0 : Int32) + (1 : Int32)) = (1 : Int32) from by decide]
      show own_Fin p e below s _ _ _ (T111.setTop (mkF m 232 #[.val (.ref ad0), .val (.ref ad0), .val (.ref ad2), .val (.double z3), .second, .val (.double (FP.i2d xb)), .second, .val (.double (FP.i2d xr)), .second, .val (.double woffset_ad0), .second, .val (.double x7), .second, .val (.double w63), .second, .val (.int (1 : Int32)), .val (.double x51), .second, .val (.double x62), .second] []))
      refine own_step (fun _ k => XS.goto X111.here hx rfl (pc0 := 232) (pc' := 191) rfl (hb hby own_d18_232) (by decide) (by decide) k) ?_
      refine own_step (fun _ k => XS.iload X111.here hx rfl (hb hby own_d18_191) rfl k) ?_
      refine own_step (fun _ k => XS.aloadN X111.here hx rfl (hb hby own_d18_193) rfl rfl k) ?_
      obtain ⟨T122, X122, e122, st122⟩ := getF X111 hx hZ hown (host := "") (Or.inl (own_w hw 37 rfl)) Via.refl e111 G120 (g := (mkF m 194 #[.val (.ref ad0), .val (.ref ad0), .val (.ref ad2), .val (.double z3), .second, .val (.double (FP.i2d xb)), .second, .val (.double (FP.i2d xr)), .second, .val (.double woffset_ad0), .second, .val (.double x7), .second, .val (.double w63), .second, .val (.int (1 : Int32)), .val (.double x51), .second, .val (.double x62), .second] [(.ref ad0), (.int (1 : Int32))])) rfl rfl (hb hby own_d18_194)
      refine own_step st122 ?_
      show own_Fin p e below s _ _ _ (T122.setTop (mkF m 197 #[.val (.ref ad0), .val (.ref ad0), .val (.ref ad2), .val (.double z3), .second, .val (.double (FP.i2d xb)), .second, .val (.double (FP.i2d xr)), .second, .val (.double woffset_ad0), .second, .val (.double x7), .second, .val (.double w63), .second, .val (.int (1 : Int32)), .val (.double x51), .second, .val (.double x62), .second] [(.int (2 : Int32)), (.int (1 : Int32))]))
      refine own_step (fun _ k => XS.icmpNo X122.here hx rfl (hb hby own_d18_197) rfl (tlt (by decide : (1 : Int32) < (2 : Int32))).2.1 k) ?_
      refine own_step (fun _ k => XS.aloadN X122.here hx rfl (hb hby own_d18_200) rfl rfl k) ?_
      obtain ⟨T123, X123, e123, st123⟩ := getF X122 hx hZ hown (host := "") (Or.inl (own_w hw 10 rfl)) Via.refl e122 G113 (g := (mkF m 201 #[.val (.ref ad0), .val (.ref ad0), .val (.ref ad2), .val (.double z3), .second, .val (.double (FP.i2d xb)), .second, .val (.double (FP.i2d xr)), .second, .val (.double woffset_ad0), .second, .val (.double x7), .second, .val (.double w63), .second, .val (.int (1 : Int32)), .val (.double x51), .second, .val (.double x62), .second] [(.ref ad0)])) rfl rfl (hb hby own_d18_201)
      refine own_step st123 ?_
      show own_Fin p e below s _ _ _ (T123.setTop (mkF m 204 #[.val (.ref ad0), .val (.ref ad0), .val (.ref ad2), .val (.double z3), .second, .val (.double (FP.i2d xb)), .second, .val (.double (FP.i2d xr)), .second, .val (.double woffset_ad0), .second, .val (.double x7), .second, .val (.double w63), .second, .val (.int (1 : Int32)), .val (.double x51), .second, .val (.double x62), .second] [(.ref wjumps_ad0)]))
      refine own_step (fun _ k => XS.iload X123.here hx rfl (hb hby own_d18_204) rfl k) ?_
      refine own_step (fun _ k => XS.dconst0 X123.here hx rfl (hb hby own_d18_206) rfl k) ?_
      refine own_step (fun _ k => XS.aloadN X123.here hx rfl (hb hby own_d18_207) rfl rfl k) ?_
      obtain ⟨T124, X124, e124, st124⟩ := getF X123 hx hZ hown (host := "") (Or.inl (own_w hw 10 rfl)) Via.refl e123 G113 (g := (mkF m 208 #[.val (.ref ad0), .val (.ref ad0), .val (.ref ad2), .val (.double z3), .second, .val (.double (FP.i2d xb)), .second, .val (.double (FP.i2d xr)), .second, .val (.double woffset_ad0), .second, .val (.double x7), .second, .val (.double w63), .second, .val (.int (1 : Int32)), .val (.double x51), .second, .val (.double x62), .second] [(.ref ad0), (.double FP.dconst0), (.int (1 : Int32)), (.ref wjumps_ad0)])) rfl rfl (hb hby own_d18_208)
      refine own_step st124 ?_
      show own_Fin p e below s _ _ _ (T124.setTop (mkF m 211 #[.val (.ref ad0), .val (.ref ad0), .val (.ref ad2), .val (.double z3), .second, .val (.double (FP.i2d xb)), .second, .val (.double (FP.i2d xr)), .second, .val (.double woffset_ad0), .second, .val (.double x7), .second, .val (.double w63), .second, .val (.int (1 : Int32)), .val (.double x51), .second, .val (.double x62), .second] [(.ref wjumps_ad0), (.double FP.dconst0), (.int (1 : Int32)), (.ref wjumps_ad0)]))
      refine own_step (fun _ k => XS.iload X124.here hx rfl (hb hby own_d18_211) rfl k) ?_
      obtain ⟨cl125, Ar125, q125, Sz125, Ng125, Hs125, Gf125⟩ := id G121
      have hin125 : ¬ ((1 : Int32) < 0 ∨ cl125.slots.size ≤ ((1 : Int32)).toNatClampNeg) := inb_of Sz125 ⟨by decide, by decide⟩
      refine own_step (fun _ k => X124.daload hx (j := (1 : Int32)) (v := (.double x62)) (by rw [e124]; exact Ar125.1) (State.isArrayOf_alike hZ.alike Ar125.2.1) Ar125.2.2 hin125 (Has.at Hs125 hin125 rfl) (g := (mkF m 213 #[.val (.ref ad0), .val (.ref ad0), .val (.ref ad2), .val (.double z3), .second, .val (.double (FP.i2d xb)), .second, .val (.double (FP.i2d xr)), .second, .val (.double woffset_ad0), .second, .val (.double x7), .second, .val (.double w63), .second, .val (.int (1 : Int32)), .val (.double x51), .second, .val (.double x62), .second] [(.int (1 : Int32)), (.ref wjumps_ad0), (.double FP.dconst0), (.int (1 : Int32)), (.ref wjumps_ad0)])) rfl rfl (hb hby own_d18_213) _ k) ?_
      refine own_step (fun _ k => XS.aloadN X124.here hx rfl (hb hby own_d18_214) rfl rfl k) ?_
      obtain ⟨T126, X126, e126, st126⟩ := getF X124 hx hZ hown (host := "") (Or.inl (own_w hw 12 rfl)) Via.refl e124 G114 (g := (mkF m 215 #[.val (.ref ad0), .val (.ref ad0), .val (.ref ad2), .val (.double z3), .second, .val (.double (FP.i2d xb)), .second, .val (.double (FP.i2d xr)), .second, .val (.double woffset_ad0), .second, .val (.double x7), .second, .val (.double w63), .second, .val (.int (1 : Int32)), .val (.double x51), .second, .val (.double x62), .second] [(.ref ad0), (.double x62), (.double FP.dconst0), (.int (1 : Int32)), (.ref wjumps_ad0)])) rfl rfl (hb hby own_d18_215)
      refine own_step st126 ?_
      show own_Fin p e below s _ _ _ (T126.setTop (mkF m 218 #[.val (.ref ad0), .val (.ref ad0), .val (.ref ad2), .val (.double z3), .second, .val (.double (FP.i2d xb)), .second, .val (.double (FP.i2d xr)), .second, .val (.double woffset_ad0), .second, .val (.double x7), .second, .val (.double w63), .second, .val (.int (1 : Int32)), .val (.double x51), .second, .val (.double x62), .second] [(.ref wrates_ad0), (.double x62), (.double FP.dconst0), (.int (1 : Int32)), (.ref wjumps_ad0)]))
      refine own_step (fun _ k => XS.iload X126.here hx rfl (hb hby own_d18_218) rfl k) ?_
      obtain ⟨cl127, Ar127, q127, Sz127, Ng127, Hs127, Gf127⟩ := id G119
      have hin127 : ¬ ((1 : Int32) < 0 ∨ cl127.slots.size ≤ ((1 : Int32)).toNatClampNeg) := inb_of Sz127 ⟨by decide, by decide⟩
      refine own_step (fun _ k => X126.daload hx (j := (1 : Int32)) (v := (.double x51)) (by rw [e126]; exact Ar127.1) (State.isArrayOf_alike hZ.alike Ar127.2.1) Ar127.2.2 hin127 (Has.at Hs127 hin127 rfl) (g := (mkF m 220 #[.val (.ref ad0), .val (.ref ad0), .val (.ref ad2), .val (.double z3), .second, .val (.double (FP.i2d xb)), .second, .val (.double (FP.i2d xr)), .second, .val (.double woffset_ad0), .second, .val (.double x7), .second, .val (.double w63), .second, .val (.int (1 : Int32)), .val (.double x51), .second, .val (.double x62), .second] [(.int (1 : Int32)), (.ref wrates_ad0), (.double x62), (.double FP.dconst0), (.int (1 : Int32)), (.ref wjumps_ad0)])) rfl rfl (hb hby own_d18_220) _ k) ?_
      refine own_step (fun _ k => XS.dload X126.here hx rfl (hb hby own_d18_221) rfl k) ?_
      refine own_step (fun _ k => XS.dmulS X126.here hx rfl (hb hby own_d18_223) rfl (show Jvm.Free.Fl.NoNaN64 (FP.dmul x51 w63) from (Jvm.Free.Fl.Mag64.fin (Jvm.Free.Fl.dmul_mag hm51 hj63 (by decide) (by decide)) (by decide)).noNaN) rfl k) ?_
      show own_Fin p e below s _ _ _ (T126.setTop (mkF m 224 #[.val (.ref ad0), .val (.ref ad0), .val (.ref ad2), .val (.double z3), .second, .val (.double (FP.i2d xb)), .second, .val (.double (FP.i2d xr)), .second, .val (.double woffset_ad0), .second, .val (.double x7), .second, .val (.double w63), .second, .val (.int (1 : Int32)), .val (.double x51), .second, .val (.double x62), .second] [(.double (FP.dmul x51 w63)), (.double x62), (.double FP.dconst0), (.int (1 : Int32)), (.ref wjumps_ad0)]))
      show own_Fin p e below s _ _ _ (T126.setTop (mkF m 224 #[.val (.ref ad0), .val (.ref ad0), .val (.ref ad2), .val (.double z3), .second, .val (.double (FP.i2d xb)), .second, .val (.double (FP.i2d xr)), .second, .val (.double woffset_ad0), .second, .val (.double x7), .second, .val (.double w63), .second, .val (.int (1 : Int32)), .val (.double x51), .second, .val (.double x62), .second] [(.double (FP.dmul x51 w63)), (.double x62), (.double FP.dconst0), (.int (1 : Int32)), (.ref wjumps_ad0)]))
      refine own_abs1 (F := fun x128 => own_Fin p e below s ({ frames := 1, cells := 0, slots := 0, locals := 17 } : Room).cells ({ frames := 1, cells := 0, slots := 0, locals := 17 } : Room).slots (own_Q18 Z ad0 ad2 z3 ra0 ra1 xb xr wjumps_ad0 wrates_ad0 woffset_ad0 k_wjumps_ad0 k_wrates_ad0 h0 n0) (T126.setTop (mkF m 224 #[.val (.ref ad0), .val (.ref ad0), .val (.ref ad2), .val (.double z3), .second, .val (.double (FP.i2d xb)), .second, .val (.double (FP.i2d xr)), .second, .val (.double woffset_ad0), .second, .val (.double x7), .second, .val (.double w63), .second, .val (.int (1 : Int32)), .val (.double x51), .second, .val (.double x62), .second] [(.double x128), (.double x62), (.double FP.dconst0), (.int (1 : Int32)), (.ref wjumps_ad0)]))) (e := (FP.dmul x51 w63)) fun x128 gx128 => ?_
      have hm128 : Jvm.Free.Fl.Mag64 1236 x128 := by rw [gx128]; have q := (Jvm.Free.Fl.dmul_mag hm51 hj63 (by decide) (by decide)); exact q
      show own_Fin p e below s _ _ _ (T126.setTop (mkF m 224 #[.val (.ref ad0), .val (.ref ad0), .val (.ref ad2), .val (.double z3), .second, .val (.double (FP.i2d xb)), .second, .val (.double (FP.i2d xr)), .second, .val (.double woffset_ad0), .second, .val (.double x7), .second, .val (.double w63), .second, .val (.int (1 : Int32)), .val (.double x51), .second, .val (.double x62), .second] [(.double x128), (.double x62), (.double FP.dconst0), (.int (1 : Int32)), (.ref wjumps_ad0)]))
      refine own_step (fun _ k => XS.daddS X126.here hx rfl (hb hby own_d18_224) rfl (show Jvm.Free.Fl.NoNaN64 (FP.dadd x62 x128) from (Jvm.Free.Fl.Mag64.fin (Jvm.Free.Fl.dadd_mag (K := 1236) (hm62.mono (by decide)) (hm128.mono (by decide)) (by decide)) (by decide)).noNaN) rfl k) ?_
      show own_Fin p e below s _ _ _ (T126.setTop (mkF m 225 #[.val (.ref ad0), .val (.ref ad0), .val (.ref ad2), .val (.double z3), .second, .val (.double (FP.i2d xb)), .second, .val (.double (FP.i2d xr)), .second, .val (.double woffset_ad0), .second, .val (.double x7), .second, .val (.double w63), .second, .val (.int (1 : Int32)), .val (.double x51), .second, .val (.double x62), .second] [(.double (FP.dadd x62 x128)), (.double FP.dconst0), (.int (1 : Int32)), (.ref wjumps_ad0)]))
      refine own_abs1 (F := fun x129 => own_Fin p e below s ({ frames := 1, cells := 0, slots := 0, locals := 17 } : Room).cells ({ frames := 1, cells := 0, slots := 0, locals := 17 } : Room).slots (own_Q18 Z ad0 ad2 z3 ra0 ra1 xb xr wjumps_ad0 wrates_ad0 woffset_ad0 k_wjumps_ad0 k_wrates_ad0 h0 n0) (T126.setTop (mkF m 225 #[.val (.ref ad0), .val (.ref ad0), .val (.ref ad2), .val (.double z3), .second, .val (.double (FP.i2d xb)), .second, .val (.double (FP.i2d xr)), .second, .val (.double woffset_ad0), .second, .val (.double x7), .second, .val (.double w63), .second, .val (.int (1 : Int32)), .val (.double x51), .second, .val (.double x62), .second] [(.double x129), (.double FP.dconst0), (.int (1 : Int32)), (.ref wjumps_ad0)]))) (e := (FP.dadd x62 x128)) fun x129 gx129 => ?_
      have hm129 : Jvm.Free.Fl.Mag64 1238 x129 := by rw [gx129]; have q := (Jvm.Free.Fl.dadd_mag (K := 1236) (hm62.mono (by decide)) (hm128.mono (by decide)) (by decide)); exact q
      show own_Fin p e below s _ _ _ (T126.setTop (mkF m 225 #[.val (.ref ad0), .val (.ref ad0), .val (.ref ad2), .val (.double z3), .second, .val (.double (FP.i2d xb)), .second, .val (.double (FP.i2d xr)), .second, .val (.double woffset_ad0), .second, .val (.double x7), .second, .val (.double w63), .second, .val (.int (1 : Int32)), .val (.double x51), .second, .val (.double x62), .second] [(.double x129), (.double FP.dconst0), (.int (1 : Int32)), (.ref wjumps_ad0)]))
      obtain ⟨T130, X130, e130, st130⟩ := natS X126 hx hZ hown (own_w hw 116 rfl) (own_w hw 117 rfl) (own_w hw 118 rfl) (show (Jvm.Cond.code Jvm.Free.Fl.Abs.maxDN Jvm.Free.Fl.Abs.maxDCode 4 (some .double)).before a0 Z = true from (own_w hw 119 rfl)) (by decide) e126 (fun hcd => Jvm.Free.Fl.Abs.maxD_pays (W := 2) FP.dconst0 x129 hcd (by decide) (by decide)) (g := (mkF m 225 #[.val (.ref ad0), .val (.ref ad0), .val (.ref ad2), .val (.double z3), .second, .val (.double (FP.i2d xb)), .second, .val (.double (FP.i2d xr)), .second, .val (.double woffset_ad0), .second, .val (.double x7), .second, .val (.double w63), .second, .val (.int (1 : Int32)), .val (.double x51), .second, .val (.double x62), .second] [(.double x129), (.double FP.dconst0), (.int (1 : Int32)), (.ref wjumps_ad0)])) rfl (by rw [hml]; rfl) (argsL := [(.double FP.dconst0), (.double x129)]) (rest := [(.int (1 : Int32)), (.ref wjumps_ad0)]) (lenOf own_pd2 rfl) rfl (by show 2 * 0 + _ ≤ _; exact Nat.le_of_eq rfl) (hb hby own_d18_225) (by decide) (by decide) ⟨rfl, (Jvm.Free.Fl.Mag64.fin (own_m0) (by decide)).noNaN, (Jvm.Free.Fl.Mag64.fin hm129 (by decide)).noNaN⟩ (val' := (.double (Jvm.Native.java_lang_Math.nans.pick64 true FP.dconst0 x129))) rfl
      refine own_step st130 ?_
      show own_Fin p e below s _ _ _ (T130.setTop (mkF m 228 #[.val (.ref ad0), .val (.ref ad0), .val (.ref ad2), .val (.double z3), .second, .val (.double (FP.i2d xb)), .second, .val (.double (FP.i2d xr)), .second, .val (.double woffset_ad0), .second, .val (.double x7), .second, .val (.double w63), .second, .val (.int (1 : Int32)), .val (.double x51), .second, .val (.double x62), .second] [(.double (Jvm.Native.java_lang_Math.nans.pick64 true FP.dconst0 x129)), (.int (1 : Int32)), (.ref wjumps_ad0)]))
      show own_Fin p e below s _ _ _ (T130.setTop (mkF m 228 #[.val (.ref ad0), .val (.ref ad0), .val (.ref ad2), .val (.double z3), .second, .val (.double (FP.i2d xb)), .second, .val (.double (FP.i2d xr)), .second, .val (.double woffset_ad0), .second, .val (.double x7), .second, .val (.double w63), .second, .val (.int (1 : Int32)), .val (.double x51), .second, .val (.double x62), .second] [(.double (Jvm.Native.java_lang_Math.nans.pick64 true FP.dconst0 x129)), (.int (1 : Int32)), (.ref wjumps_ad0)]))
      refine own_abs1 (F := fun x131 => own_Fin p e below s ({ frames := 1, cells := 0, slots := 0, locals := 17 } : Room).cells ({ frames := 1, cells := 0, slots := 0, locals := 17 } : Room).slots (own_Q18 Z ad0 ad2 z3 ra0 ra1 xb xr wjumps_ad0 wrates_ad0 woffset_ad0 k_wjumps_ad0 k_wrates_ad0 h0 n0) (T130.setTop (mkF m 228 #[.val (.ref ad0), .val (.ref ad0), .val (.ref ad2), .val (.double z3), .second, .val (.double (FP.i2d xb)), .second, .val (.double (FP.i2d xr)), .second, .val (.double woffset_ad0), .second, .val (.double x7), .second, .val (.double w63), .second, .val (.int (1 : Int32)), .val (.double x51), .second, .val (.double x62), .second] [(.double x131), (.int (1 : Int32)), (.ref wjumps_ad0)]))) (e := (Jvm.Native.java_lang_Math.nans.pick64 true FP.dconst0 x129)) fun x131 gx131 => ?_
      have hm131 : Jvm.Free.Fl.Mag64 1238 x131 := by rw [gx131]; exact (Jvm.Free.Fl.pick64_mag ((own_m0).mono (by decide)) (hm129.mono (by decide)) : Jvm.Free.Fl.Mag64 1238 _)
      show own_Fin p e below s _ _ _ (T130.setTop (mkF m 228 #[.val (.ref ad0), .val (.ref ad0), .val (.ref ad2), .val (.double z3), .second, .val (.double (FP.i2d xb)), .second, .val (.double (FP.i2d xr)), .second, .val (.double woffset_ad0), .second, .val (.double x7), .second, .val (.double w63), .second, .val (.int (1 : Int32)), .val (.double x51), .second, .val (.double x62), .second] [(.double x131), (.int (1 : Int32)), (.ref wjumps_ad0)]))
      obtain ⟨cl132, Ar132, q132, Sz132, Ng132, Hs132, Gf132⟩ := id G121
      have hin132 : ¬ ((1 : Int32) < 0 ∨ cl132.slots.size ≤ ((1 : Int32)).toNatClampNeg) := inb_of Sz132 ⟨by decide, by decide⟩
      obtain ⟨T132, h132, X132, e132, W132, st132⟩ := stD X130 hx hZ e130 Ar132 (j := (1 : Int32)) hin132 (g := (mkF m 228 #[.val (.ref ad0), .val (.ref ad0), .val (.ref ad2), .val (.double z3), .second, .val (.double (FP.i2d xb)), .second, .val (.double (FP.i2d xr)), .second, .val (.double woffset_ad0), .second, .val (.double x7), .second, .val (.double w63), .second, .val (.int (1 : Int32)), .val (.double x51), .second, .val (.double x62), .second] [(.double x131), (.int (1 : Int32)), (.ref wjumps_ad0)])) rfl rfl (hb hby own_d18_228)
      have N132 := Fr.snoc X132 N111 g_wjumps_ad0
      have K132 : Keep h0 h132 [wjumps_ad0, wrates_ad0, ad0] := K111.wr W132 (Or.inl (List.mem_of_getElem? (i := 0) rfl))
      have Z132 : n0 ≤ h132.size := Nat.le_trans Z111 (Keep.of_wr W132).1
      have G133 := (G112.wr W132)
      have G134 := (G113.other W132 (Or.inl ne_ad0_wjumps_ad0))
      have G135 := (G114.other W132 (Or.inl ne_ad0_wjumps_ad0))
      have G136 := (G115.other W132 (Or.inl ne_ad0_wjumps_ad0))
      have G137 := (G116.wr W132)
      have G138 := (G117.other W132 (Or.inl ne_ad2_wjumps_ad0))
      have G139 := (G118.other W132 (Or.inl ne_ad2_wjumps_ad0))
      have G140 := (G119.other W132 ne_wrates_ad0_wjumps_ad0)
      have G141 := (G120.other W132 (Or.inl ne_ad0_wjumps_ad0))
      have G142 : Arv Z h132 wjumps_ad0 k_wjumps_ad0 .double (4 : Int32) [(.double x110), (.double x131)] (.double (0 : UInt64)) := Arv.set Ar132 q132 Sz132 Ng132 Hs132 Gf132 rfl W132 1 rfl (Nat.le_of_ble_eq_true rfl)
      refine own_step st132 ?_
      show own_Fin p e below s _ _ _ (T132.setTop (mkF m 229 #[.val (.ref ad0), .val (.ref ad0), .val (.ref ad2), .val (.double z3), .second, .val (.double (FP.i2d xb)), .second, .val (.double (FP.i2d xr)), .second, .val (.double woffset_ad0), .second, .val (.double x7), .second, .val (.double w63), .second, .val (.int (1 : Int32)), .val (.double x51), .second, .val (.double x62), .second] []))
      refine own_step (fun _ k => XS.iinc X132.here hx rfl (hb hby own_d18_229) rfl (l' := #[.val (.ref ad0), .val (.ref ad0), .val (.ref ad2), .val (.double z3), .second, .val (.double (FP.i2d xb)), .second, .val (.double (FP.i2d xr)), .second, .val (.double woffset_ad0), .second, .val (.double x7), .second, .val (.double w63), .second, .val (.int ((1 : Int32) + (1 : Int32))), .val (.double x51), .second, .val (.double x62), .second]) rfl k) ?_
      show own_Fin p e below s _ _ _ (T132.setTop (mkF m 232 #[.val (.ref ad0), .val (.ref ad0), .val (.ref ad2), .val (.double z3), .second, .val (.double (FP.i2d xb)), .second, .val (.double (FP.i2d xr)), .second, .val (.double woffset_ad0), .second, .val (.double x7), .second, .val (.double w63), .second, .val (.int ((1 : Int32) + (1 : Int32))), .val (.double x51), .second, .val (.double x62), .second] []))
      rw [show ((1 : Int32) + (1 : Int32)) = (2 : Int32) from by decide]
      show own_Fin p e below s _ _ _ (T132.setTop (mkF m 232 #[.val (.ref ad0), .val (.ref ad0), .val (.ref ad2), .val (.double z3), .second, .val (.double (FP.i2d xb)), .second, .val (.double (FP.i2d xr)), .second, .val (.double woffset_ad0), .second, .val (.double x7), .second, .val (.double w63), .second, .val (.int (2 : Int32)), .val (.double x51), .second, .val (.double x62), .second] []))
      refine own_step (fun _ k => XS.goto X132.here hx rfl (pc0 := 232) (pc' := 191) rfl (hb hby own_d18_232) (by decide) (by decide) k) ?_
      refine own_step (fun _ k => XS.iload X132.here hx rfl (hb hby own_d18_191) rfl k) ?_
      refine own_step (fun _ k => XS.aloadN X132.here hx rfl (hb hby own_d18_193) rfl rfl k) ?_
      obtain ⟨T143, X143, e143, st143⟩ := getF X132 hx hZ hown (host := "") (Or.inl (own_w hw 37 rfl)) Via.refl e132 G141 (g := (mkF m 194 #[.val (.ref ad0), .val (.ref ad0), .val (.ref ad2), .val (.double z3), .second, .val (.double (FP.i2d xb)), .second, .val (.double (FP.i2d xr)), .second, .val (.double woffset_ad0), .second, .val (.double x7), .second, .val (.double w63), .second, .val (.int (2 : Int32)), .val (.double x51), .second, .val (.double x62), .second] [(.ref ad0), (.int (2 : Int32))])) rfl rfl (hb hby own_d18_194)
      refine own_step st143 ?_
      show own_Fin p e below s _ _ _ (T143.setTop (mkF m 197 #[.val (.ref ad0), .val (.ref ad0), .val (.ref ad2), .val (.double z3), .second, .val (.double (FP.i2d xb)), .second, .val (.double (FP.i2d xr)), .second, .val (.double woffset_ad0), .second, .val (.double x7), .second, .val (.double w63), .second, .val (.int (2 : Int32)), .val (.double x51), .second, .val (.double x62), .second] [(.int (2 : Int32)), (.int (2 : Int32))]))
      refine own_step (fun _ k => XS.icmpYes X143.here hx rfl (pc0 := 197) (pc' := 235) rfl (hb hby own_d18_197) rfl (flt (by decide : ¬ ((2 : Int32) < (2 : Int32)))).2.1 (by decide) (by decide) k) ?_
      refine own_step (fun _ k => XS.aloadN X143.here hx rfl (hb hby own_d18_235) rfl rfl k) ?_
      refine own_step (fun _ k => XS.dload X143.here hx rfl (hb hby own_d18_236) rfl k) ?_
      refine own_step (fun _ k => XS.dload X143.here hx rfl (hb hby own_d18_238) rfl k) ?_
      show own_Fin p e below s _ _ _ (T143.setTop (mkF m 240 #[.val (.ref ad0), .val (.ref ad0), .val (.ref ad2), .val (.double z3), .second, .val (.double (FP.i2d xb)), .second, .val (.double (FP.i2d xr)), .second, .val (.double woffset_ad0), .second, .val (.double x7), .second, .val (.double w63), .second, .val (.int (2 : Int32)), .val (.double x51), .second, .val (.double x62), .second] [(.double w63), (.double x7), (.ref ad0)]))
      refine own_step (fun _ k => XS.daddS X143.here hx rfl (hb hby own_d18_240) rfl (show Jvm.Free.Fl.NoNaN64 (FP.dadd x7 w63) from (Jvm.Free.Fl.Mag64.fin (Jvm.Free.Fl.dadd_mag (K := 1200) (hm7.mono (by decide)) (hj63.mono (by decide)) (by decide)) (by decide)).noNaN) rfl k) ?_
      show own_Fin p e below s _ _ _ (T143.setTop (mkF m 241 #[.val (.ref ad0), .val (.ref ad0), .val (.ref ad2), .val (.double z3), .second, .val (.double (FP.i2d xb)), .second, .val (.double (FP.i2d xr)), .second, .val (.double woffset_ad0), .second, .val (.double x7), .second, .val (.double w63), .second, .val (.int (2 : Int32)), .val (.double x51), .second, .val (.double x62), .second] [(.double (FP.dadd x7 w63)), (.ref ad0)]))
      refine own_abs1 (F := fun x144 => own_Fin p e below s ({ frames := 1, cells := 0, slots := 0, locals := 17 } : Room).cells ({ frames := 1, cells := 0, slots := 0, locals := 17 } : Room).slots (own_Q18 Z ad0 ad2 z3 ra0 ra1 xb xr wjumps_ad0 wrates_ad0 woffset_ad0 k_wjumps_ad0 k_wrates_ad0 h0 n0) (T143.setTop (mkF m 241 #[.val (.ref ad0), .val (.ref ad0), .val (.ref ad2), .val (.double z3), .second, .val (.double (FP.i2d xb)), .second, .val (.double (FP.i2d xr)), .second, .val (.double woffset_ad0), .second, .val (.double x7), .second, .val (.double w63), .second, .val (.int (2 : Int32)), .val (.double x51), .second, .val (.double x62), .second] [(.double x144), (.ref ad0)]))) (e := (FP.dadd x7 w63)) fun x144 gx144 => ?_
      have hm144 : Jvm.Free.Fl.Mag64 1202 x144 := by rw [gx144]; have q := (Jvm.Free.Fl.dadd_mag (K := 1200) (hm7.mono (by decide)) (hj63.mono (by decide)) (by decide)); exact q
      show own_Fin p e below s _ _ _ (T143.setTop (mkF m 241 #[.val (.ref ad0), .val (.ref ad0), .val (.ref ad2), .val (.double z3), .second, .val (.double (FP.i2d xb)), .second, .val (.double (FP.i2d xr)), .second, .val (.double woffset_ad0), .second, .val (.double x7), .second, .val (.double w63), .second, .val (.int (2 : Int32)), .val (.double x51), .second, .val (.double x62), .second] [(.double x144), (.ref ad0)]))
      obtain ⟨T145, h145, X145, e145, W145, st145⟩ := putF X143 hx hZ hown (host := "") (Or.inl (own_w hw 35 rfl)) Via.refl e143 G136 G133 (Or.inl (own_w hw 36 rfl)) (own_w hw 1 rfl) (ty := .double) (by decide) rfl rfl (g := (mkF m 241 #[.val (.ref ad0), .val (.ref ad0), .val (.ref ad2), .val (.double z3), .second, .val (.double (FP.i2d xb)), .second, .val (.double (FP.i2d xr)), .second, .val (.double woffset_ad0), .second, .val (.double x7), .second, .val (.double w63), .second, .val (.int (2 : Int32)), .val (.double x51), .second, .val (.double x62), .second] [(.double x144), (.ref ad0)])) rfl rfl (hb hby own_d18_241)
      have N145 := Fr.snoc X145 N132 g_ad0
      have K145 : Keep h0 h145 [wjumps_ad0, wrates_ad0, ad0] := K132.wr W145 (Or.inl (List.mem_of_getElem? (i := 2) rfl))
      have Z145 : n0 ≤ h145.size := Nat.le_trans Z132 (Keep.of_wr W145).1
      have G146 := (G133.wr W145)
      have G147 := (G134.other W145 (Or.inr (slot_ne (Or.inr (own_w hw 11 rfl)) (Or.inl (own_w hw 36 rfl)) (by decide) (t := (.array .double)) (t' := .double) (by decide) (by decide))))
      have G148 := (G135.other W145 (Or.inr (slot_ne (Or.inr (own_w hw 13 rfl)) (Or.inl (own_w hw 36 rfl)) (by decide) (t := (.array .double)) (t' := .double) (by decide) (by decide))))
      have G149 := (G137.wr W145)
      have G150 := (G138.other W145 (Or.inl ne_ad2_ad0))
      have G151 := (G139.other W145 (Or.inl ne_ad2_ad0))
      have G152 := (G140.other W145 ne_wrates_ad0_ad0)
      have G153 := (G141.other W145 (Or.inr (slot_ne (Or.inl (own_w hw 38 rfl)) (Or.inl (own_w hw 36 rfl)) (by decide) (t := .int) (t' := .double) (by decide) (by decide))))
      have G154 := (G142.other W145 ne_wjumps_ad0_ad0)
      have G155 := G136.same W145
      refine own_step st145 ?_
      show own_Fin p e below s _ _ _ (T145.setTop (mkF m 244 #[.val (.ref ad0), .val (.ref ad0), .val (.ref ad2), .val (.double z3), .second, .val (.double (FP.i2d xb)), .second, .val (.double (FP.i2d xr)), .second, .val (.double woffset_ad0), .second, .val (.double x7), .second, .val (.double w63), .second, .val (.int (2 : Int32)), .val (.double x51), .second, .val (.double x62), .second] []))
      refine own_step (fun _ k => XS.aloadN X145.here hx rfl (hb hby own_d18_244) rfl rfl k) ?_
      exact own_ret X145 hlk (v := some (.ref ad0)) (fun h => by rw [Bd.returns] at h; cases h) (by decide) (by decide) (by show own_Q18 Z ad0 ad2 z3 ra0 ra1 xb xr wjumps_ad0 wrates_ad0 woffset_ad0 k_wjumps_ad0 k_wrates_ad0 h0 n0 _ T145.heap _; rw [e145]; exact ⟨N145, K145, (.int (2 : Int32)), (.double x144), rfl, G146, G147, G148, G153, G155⟩) (fun fs hr => retOut X145 hx Bd.returns rfl (Or.inr (Or.inr (Or.inr (Or.inr ⟨rfl, rfl, rfl⟩)))) (hb hby own_d18_245) hr)
    · intro J63
      show own_Fin p e below s _ _ _ (T54.setTop (mkF m 110 #[.val (.ref ad0), .val (.ref ad0), .val (.ref ad2), .val (.double z3), .second, .val (.double (FP.i2d xb)), .second, .val (.double (FP.i2d xr)), .second, .val (.double woffset_ad0), .second, .val (.double x7), .second, .val (.double w23), .second, .val (.int (1 : Int32)), .val (.double x51), .second, .val (.double x62), .second] []))
      refine own_step (fun _ k => XS.dload X54.here hx rfl (hb hby own_d18_110) rfl k) ?_
      refine own_step (fun _ k => XS.dconst0 X54.here hx rfl (hb hby own_d18_112) rfl k) ?_
      refine own_step (fun _ k => XS.dcmpS X54.here hx rfl (hb hby own_d18_113) rfl rfl k) ?_
      by_cases hc156 : (cmpValue (FP.dcmp x51 FP.dconst0) .g) < (0 : Int32)
      · refine own_step (fun _ k => XS.ifYes X54.here hx rfl (pc0 := 114) (pc' := 131) rfl (hb hby own_d18_114) rfl ((if0 _ _).trans (tlt hc156).1) (by decide) (by decide) k) ?_
        show own_Fin p e below s _ _ _ (T54.setTop (mkF m 131 #[.val (.ref ad0), .val (.ref ad0), .val (.ref ad2), .val (.double z3), .second, .val (.double (FP.i2d xb)), .second, .val (.double (FP.i2d xr)), .second, .val (.double woffset_ad0), .second, .val (.double x7), .second, .val (.double w23), .second, .val (.int (1 : Int32)), .val (.double x51), .second, .val (.double x62), .second] []))
        refine own_step (fun _ k => XS.aloadN X54.here hx rfl (hb hby own_d18_131) rfl rfl k) ?_
        obtain ⟨cq157, q157, q157'⟩ := G38.cell
        obtain ⟨_, _, ⟨T157, L157, k157, n157⟩, -, X157, ⟨Lc157, hQ157, l157, y157, z157⟩, st157⟩ := X54.privateBack hx (y := own_y6) hown (mvT hZ (own_w hw 120 rfl)) (mvT hZ (own_w hw 121 rfl)) (Jvm.Kit.selects_private (by decide) (mvT hZ (own_w hw 1 rfl)) (mvP hZ (own_w hw 122 rfl)) (mvT hZ (own_w hw 121 rfl))) (Cond.privateMethod_at (mvP hZ (own_w hw 122 rfl) (args := #[]))) (mvT hZ (own_w hw 123 rfl)) (by decide) (backOf (W := 0) (own_rm11 l Z a0 hw [] ad0 wjumps_ad0 wrates_ad0 ((.double woffset_ad0)) ((.int (2 : Int32))) h37 n0 Z37 G38 G39 G40 G41 G42 g_ad0) hZ (own_w hw 123 rfl) (own_w hw 2 rfl) (by decide) (by decide)) (g := (mkF m 132 #[.val (.ref ad0), .val (.ref ad0), .val (.ref ad2), .val (.double z3), .second, .val (.double (FP.i2d xb)), .second, .val (.double (FP.i2d xr)), .second, .val (.double woffset_ad0), .second, .val (.double x7), .second, .val (.double w23), .second, .val (.int (1 : Int32)), .val (.double x51), .second, .val (.double x62), .second] [(.ref ad0)])) rfl (by rw [hml]; rfl) (Steps.refl _) (a := ad0) (by rw [e54]; exact q157) q157' (argsL := []) (rest := []) (lenOf own_pd4 rfl) rfl (by show 2 * 0 + _ ≤ _; exact Nat.le_of_eq rfl) (hb hby own_d18_132) (fun _ _ => ⟨rfl, e54, (by decide : 0 + 0 ≤ _), (by decide : 0 + 0 ≤ _)⟩)
        dsimp only [Pt.U, Pt.locs, Pt.cells, Pt.slots] at X157 l157 y157 z157 st157 hQ157
        subst l157 y157 z157
        obtain ⟨N157q, K157q, rfl, G158, G159, G160, G161, G162⟩ := hQ157
        have N157 := Fr.app N37 N157q
        have K157 : Keep h0 T157.heap [wjumps_ad0, wrates_ad0, ad0] := K37.trans K157q (allS (P := fun x => x ∈ [wjumps_ad0, wrates_ad0, ad0] ∨ h0.size ≤ x) (Or.inl (List.mem_of_getElem? (i := 2) rfl)) all0)
        have Z157 : n0 ≤ T157.heap.size := Nat.le_trans Z37 K157q.1
        have G163 := (G38.keep K157q)
        have G164 := (G43.keep K157q)
        have G165 := (G44.keep K157q (ninS ne_ad2_ad0 nin0))
        have G166 := (G45.keep K157q (ninS ne_ad2_ad0 nin0))
        have G167 := (G46.keep K157q (ninS ne_wjumps_ad0_ad0 nin0))
        have G168 := (G47.keep K157q (ninS ne_wrates_ad0_ad0 nin0))
        refine own_step (fun _ k => st157.trans k) ?_
        show own_Fin p e below s _ _ _ (T157.setTop (mkF m 135 #[.val (.ref ad0), .val (.ref ad0), .val (.ref ad2), .val (.double z3), .second, .val (.double (FP.i2d xb)), .second, .val (.double (FP.i2d xr)), .second, .val (.double woffset_ad0), .second, .val (.double x7), .second, .val (.double w23), .second, .val (.int (1 : Int32)), .val (.double x51), .second, .val (.double x62), .second] [(.ref ad0)]))
        exact own_ret X157 hlk (v := some (.ref ad0)) (fun h => by rw [Bd.returns] at h; cases h) (by decide) (by decide) (by show own_Q18 Z ad0 ad2 z3 ra0 ra1 xb xr wjumps_ad0 wrates_ad0 woffset_ad0 k_wjumps_ad0 k_wrates_ad0 h0 n0 _ T157.heap _; exact ⟨N157, K157, (.int (0 : Int32)), (.double (9218868437227405312 : UInt64)), rfl, G158, G159, G160, G162, G161⟩) (fun fs hr => retOut X157 hx Bd.returns rfl (Or.inr (Or.inr (Or.inr (Or.inr ⟨rfl, rfl, rfl⟩)))) (hb hby own_d18_135) hr)
      · refine own_step (fun _ k => XS.ifNo X54.here hx rfl (hb hby own_d18_114) rfl ((if0 _ _).trans (flt hc156).1) k) ?_
        show own_Fin p e below s _ _ _ (T54.setTop (mkF m 117 #[.val (.ref ad0), .val (.ref ad0), .val (.ref ad2), .val (.double z3), .second, .val (.double (FP.i2d xb)), .second, .val (.double (FP.i2d xr)), .second, .val (.double woffset_ad0), .second, .val (.double x7), .second, .val (.double w23), .second, .val (.int (1 : Int32)), .val (.double x51), .second, .val (.double x62), .second] []))
        refine own_step (fun _ k => XS.dload X54.here hx rfl (hb hby own_d18_117) rfl k) ?_
        refine own_step (fun _ k => XS.dconst0 X54.here hx rfl (hb hby own_d18_119) rfl k) ?_
        refine own_step (fun _ k => XS.dcmpS X54.here hx rfl (hb hby own_d18_120) rfl rfl k) ?_
        by_cases hc169 : (cmpValue (FP.dcmp x51 FP.dconst0) .l) = (0 : Int32)
        · refine own_step (fun _ k => XS.ifNo X54.here hx rfl (hb hby own_d18_121) rfl ((if0 _ _).trans (teq hc169).2) k) ?_
          show own_Fin p e below s _ _ _ (T54.setTop (mkF m 124 #[.val (.ref ad0), .val (.ref ad0), .val (.ref ad2), .val (.double z3), .second, .val (.double (FP.i2d xb)), .second, .val (.double (FP.i2d xr)), .second, .val (.double woffset_ad0), .second, .val (.double x7), .second, .val (.double w23), .second, .val (.int (1 : Int32)), .val (.double x51), .second, .val (.double x62), .second] []))
          refine own_step (fun _ k => XS.dload X54.here hx rfl (hb hby own_d18_124) rfl k) ?_
          refine own_step (fun _ k => XS.dconst0 X54.here hx rfl (hb hby own_d18_126) rfl k) ?_
          refine own_step (fun _ k => XS.dcmpS X54.here hx rfl (hb hby own_d18_127) rfl rfl k) ?_
          by_cases hc170 : (cmpValue (FP.dcmp x62 FP.dconst0) .g) < (0 : Int32)
          · refine own_step (fun _ k => XS.ifNo X54.here hx rfl (hb hby own_d18_128) rfl ((if0 _ _).trans (tlt hc170).2.1) k) ?_
            show own_Fin p e below s _ _ _ (T54.setTop (mkF m 131 #[.val (.ref ad0), .val (.ref ad0), .val (.ref ad2), .val (.double z3), .second, .val (.double (FP.i2d xb)), .second, .val (.double (FP.i2d xr)), .second, .val (.double woffset_ad0), .second, .val (.double x7), .second, .val (.double w23), .second, .val (.int (1 : Int32)), .val (.double x51), .second, .val (.double x62), .second] []))
            refine own_step (fun _ k => XS.aloadN X54.here hx rfl (hb hby own_d18_131) rfl rfl k) ?_
            obtain ⟨cq171, q171, q171'⟩ := G38.cell
            obtain ⟨_, _, ⟨T171, L171, k171, n171⟩, -, X171, ⟨Lc171, hQ171, l171, y171, z171⟩, st171⟩ := X54.privateBack hx (y := own_y6) hown (mvT hZ (own_w hw 120 rfl)) (mvT hZ (own_w hw 121 rfl)) (Jvm.Kit.selects_private (by decide) (mvT hZ (own_w hw 1 rfl)) (mvP hZ (own_w hw 122 rfl)) (mvT hZ (own_w hw 121 rfl))) (Cond.privateMethod_at (mvP hZ (own_w hw 122 rfl) (args := #[]))) (mvT hZ (own_w hw 123 rfl)) (by decide) (backOf (W := 0) (own_rm11 l Z a0 hw [] ad0 wjumps_ad0 wrates_ad0 ((.double woffset_ad0)) ((.int (2 : Int32))) h37 n0 Z37 G38 G39 G40 G41 G42 g_ad0) hZ (own_w hw 123 rfl) (own_w hw 2 rfl) (by decide) (by decide)) (g := (mkF m 132 #[.val (.ref ad0), .val (.ref ad0), .val (.ref ad2), .val (.double z3), .second, .val (.double (FP.i2d xb)), .second, .val (.double (FP.i2d xr)), .second, .val (.double woffset_ad0), .second, .val (.double x7), .second, .val (.double w23), .second, .val (.int (1 : Int32)), .val (.double x51), .second, .val (.double x62), .second] [(.ref ad0)])) rfl (by rw [hml]; rfl) (Steps.refl _) (a := ad0) (by rw [e54]; exact q171) q171' (argsL := []) (rest := []) (lenOf own_pd4 rfl) rfl (by show 2 * 0 + _ ≤ _; exact Nat.le_of_eq rfl) (hb hby own_d18_132) (fun _ _ => ⟨rfl, e54, (by decide : 0 + 0 ≤ _), (by decide : 0 + 0 ≤ _)⟩)
            dsimp only [Pt.U, Pt.locs, Pt.cells, Pt.slots] at X171 l171 y171 z171 st171 hQ171
            subst l171 y171 z171
            obtain ⟨N171q, K171q, rfl, G172, G173, G174, G175, G176⟩ := hQ171
            have N171 := Fr.app N37 N171q
            have K171 : Keep h0 T171.heap [wjumps_ad0, wrates_ad0, ad0] := K37.trans K171q (allS (P := fun x => x ∈ [wjumps_ad0, wrates_ad0, ad0] ∨ h0.size ≤ x) (Or.inl (List.mem_of_getElem? (i := 2) rfl)) all0)
            have Z171 : n0 ≤ T171.heap.size := Nat.le_trans Z37 K171q.1
            have G177 := (G38.keep K171q)
            have G178 := (G43.keep K171q)
            have G179 := (G44.keep K171q (ninS ne_ad2_ad0 nin0))
            have G180 := (G45.keep K171q (ninS ne_ad2_ad0 nin0))
            have G181 := (G46.keep K171q (ninS ne_wjumps_ad0_ad0 nin0))
            have G182 := (G47.keep K171q (ninS ne_wrates_ad0_ad0 nin0))
            refine own_step (fun _ k => st171.trans k) ?_
            show own_Fin p e below s _ _ _ (T171.setTop (mkF m 135 #[.val (.ref ad0), .val (.ref ad0), .val (.ref ad2), .val (.double z3), .second, .val (.double (FP.i2d xb)), .second, .val (.double (FP.i2d xr)), .second, .val (.double woffset_ad0), .second, .val (.double x7), .second, .val (.double w23), .second, .val (.int (1 : Int32)), .val (.double x51), .second, .val (.double x62), .second] [(.ref ad0)]))
            exact own_ret X171 hlk (v := some (.ref ad0)) (fun h => by rw [Bd.returns] at h; cases h) (by decide) (by decide) (by show own_Q18 Z ad0 ad2 z3 ra0 ra1 xb xr wjumps_ad0 wrates_ad0 woffset_ad0 k_wjumps_ad0 k_wrates_ad0 h0 n0 _ T171.heap _; exact ⟨N171, K171, (.int (0 : Int32)), (.double (9218868437227405312 : UInt64)), rfl, G172, G173, G174, G176, G175⟩) (fun fs hr => retOut X171 hx Bd.returns rfl (Or.inr (Or.inr (Or.inr (Or.inr ⟨rfl, rfl, rfl⟩)))) (hb hby own_d18_135) hr)
          · refine own_step (fun _ k => XS.ifYes X54.here hx rfl (pc0 := 128) (pc' := 136) rfl (hb hby own_d18_128) rfl ((if0 _ _).trans (flt hc170).2.1) (by decide) (by decide) k) ?_
            show own_Fin p e below s _ _ _ (T54.setTop (mkF m 136 #[.val (.ref ad0), .val (.ref ad0), .val (.ref ad2), .val (.double z3), .second, .val (.double (FP.i2d xb)), .second, .val (.double (FP.i2d xr)), .second, .val (.double woffset_ad0), .second, .val (.double x7), .second, .val (.double w23), .second, .val (.int (1 : Int32)), .val (.double x51), .second, .val (.double x62), .second] []))
            refine own_step (fun _ k => XS.dload X54.here hx rfl (hb hby own_d18_136) rfl k) ?_
            refine own_step (fun _ k => XS.dconst0 X54.here hx rfl (hb hby own_d18_138) rfl k) ?_
            refine own_step (fun _ k => XS.dcmpS X54.here hx rfl (hb hby own_d18_139) rfl rfl k) ?_
            refine own_step (fun _ k => XS.ifYes X54.here hx rfl (pc0 := 140) (pc' := 156) rfl (hb hby own_d18_140) rfl ((if0 _ _).trans (flt hc170).2.1) (by decide) (by decide) k) ?_
            show own_Fin p e below s _ _ _ (T54.setTop (mkF m 156 #[.val (.ref ad0), .val (.ref ad0), .val (.ref ad2), .val (.double z3), .second, .val (.double (FP.i2d xb)), .second, .val (.double (FP.i2d xr)), .second, .val (.double woffset_ad0), .second, .val (.double x7), .second, .val (.double w23), .second, .val (.int (1 : Int32)), .val (.double x51), .second, .val (.double x62), .second] []))
            exact J63 _ X54 e54 w23 (hj23.mono (by decide))
        · refine own_step (fun _ k => XS.ifYes X54.here hx rfl (pc0 := 121) (pc' := 136) rfl (hb hby own_d18_121) rfl ((if0 _ _).trans (feq hc169).2) (by decide) (by decide) k) ?_
          show own_Fin p e below s _ _ _ (T54.setTop (mkF m 136 #[.val (.ref ad0), .val (.ref ad0), .val (.ref ad2), .val (.double z3), .second, .val (.double (FP.i2d xb)), .second, .val (.double (FP.i2d xr)), .second, .val (.double woffset_ad0), .second, .val (.double x7), .second, .val (.double w23), .second, .val (.int (1 : Int32)), .val (.double x51), .second, .val (.double x62), .second] []))
          refine own_step (fun _ k => XS.dload X54.here hx rfl (hb hby own_d18_136) rfl k) ?_
          refine own_step (fun _ k => XS.dconst0 X54.here hx rfl (hb hby own_d18_138) rfl k) ?_
          refine own_step (fun _ k => XS.dcmpS X54.here hx rfl (hb hby own_d18_139) rfl rfl k) ?_
          by_cases hc183 : (cmpValue (FP.dcmp x62 FP.dconst0) .g) < (0 : Int32)
          · refine own_step (fun _ k => XS.ifNo X54.here hx rfl (hb hby own_d18_140) rfl ((if0 _ _).trans (tlt hc183).2.1) k) ?_
            show own_Fin p e below s _ _ _ (T54.setTop (mkF m 143 #[.val (.ref ad0), .val (.ref ad0), .val (.ref ad2), .val (.double z3), .second, .val (.double (FP.i2d xb)), .second, .val (.double (FP.i2d xr)), .second, .val (.double woffset_ad0), .second, .val (.double x7), .second, .val (.double w23), .second, .val (.int (1 : Int32)), .val (.double x51), .second, .val (.double x62), .second] []))
            refine own_step (fun _ k => XS.dload X54.here hx rfl (hb hby own_d18_143) rfl k) ?_
            refine own_step (fun _ k => XS.dload X54.here hx rfl (hb hby own_d18_145) rfl k) ?_
            refine own_step (fun _ k => XS.dnegS X54.here hx rfl (hb hby own_d18_147) rfl rfl k) ?_
            refine own_step (fun _ k => XS.dload X54.here hx rfl (hb hby own_d18_148) rfl k) ?_
            show own_Fin p e below s _ _ _ (T54.setTop (mkF m 150 #[.val (.ref ad0), .val (.ref ad0), .val (.ref ad2), .val (.double z3), .second, .val (.double (FP.i2d xb)), .second, .val (.double (FP.i2d xr)), .second, .val (.double woffset_ad0), .second, .val (.double x7), .second, .val (.double w23), .second, .val (.int (1 : Int32)), .val (.double x51), .second, .val (.double x62), .second] [(.double x51), (.double (FP.dneg x62)), (.double w23)]))
            refine own_step (fun _ k => XS.ddivS X54.here hx rfl (hb hby own_d18_150) rfl (show Jvm.Free.Fl.NoNaN64 (FP.ddiv (FP.dneg x62) x51) from (Jvm.Free.Fl.Mag64.fin (ddiv_mag (dneg_mag hm62) (own_big gx51 hc169) (by decide) (by decide)) (by decide)).noNaN) rfl k) ?_
            show own_Fin p e below s _ _ _ (T54.setTop (mkF m 151 #[.val (.ref ad0), .val (.ref ad0), .val (.ref ad2), .val (.double z3), .second, .val (.double (FP.i2d xb)), .second, .val (.double (FP.i2d xr)), .second, .val (.double woffset_ad0), .second, .val (.double x7), .second, .val (.double w23), .second, .val (.int (1 : Int32)), .val (.double x51), .second, .val (.double x62), .second] [(.double (FP.ddiv (FP.dneg x62) x51)), (.double w23)]))
            refine own_abs1 (F := fun x184 => own_Fin p e below s ({ frames := 1, cells := 0, slots := 0, locals := 17 } : Room).cells ({ frames := 1, cells := 0, slots := 0, locals := 17 } : Room).slots (own_Q18 Z ad0 ad2 z3 ra0 ra1 xb xr wjumps_ad0 wrates_ad0 woffset_ad0 k_wjumps_ad0 k_wrates_ad0 h0 n0) (T54.setTop (mkF m 151 #[.val (.ref ad0), .val (.ref ad0), .val (.ref ad2), .val (.double z3), .second, .val (.double (FP.i2d xb)), .second, .val (.double (FP.i2d xr)), .second, .val (.double woffset_ad0), .second, .val (.double x7), .second, .val (.double w23), .second, .val (.int (1 : Int32)), .val (.double x51), .second, .val (.double x62), .second] [(.double x184), (.double w23)]))) (e := (FP.ddiv (FP.dneg x62) x51)) fun x184 gx184 => ?_
            have hm184 : Jvm.Free.Fl.Mag64 1143 x184 := by rw [gx184]; have q := (ddiv_mag (dneg_mag hm62) (own_big gx51 hc169) (by decide) (by decide)); exact q
            show own_Fin p e below s _ _ _ (T54.setTop (mkF m 151 #[.val (.ref ad0), .val (.ref ad0), .val (.ref ad2), .val (.double z3), .second, .val (.double (FP.i2d xb)), .second, .val (.double (FP.i2d xr)), .second, .val (.double woffset_ad0), .second, .val (.double x7), .second, .val (.double w23), .second, .val (.int (1 : Int32)), .val (.double x51), .second, .val (.double x62), .second] [(.double x184), (.double w23)]))
            obtain ⟨T185, X185, e185, st185⟩ := natS X54 hx hZ hown (own_w hw 116 rfl) (own_w hw 117 rfl) (own_w hw 118 rfl) (show (Jvm.Cond.code Jvm.Free.Fl.Abs.maxDN Jvm.Free.Fl.Abs.maxDCode 4 (some .double)).before a0 Z = true from (own_w hw 119 rfl)) (by decide) e54 (fun hcd => Jvm.Free.Fl.Abs.maxD_pays (W := 0) w23 x184 hcd (by decide) (by decide)) (g := (mkF m 151 #[.val (.ref ad0), .val (.ref ad0), .val (.ref ad2), .val (.double z3), .second, .val (.double (FP.i2d xb)), .second, .val (.double (FP.i2d xr)), .second, .val (.double woffset_ad0), .second, .val (.double x7), .second, .val (.double w23), .second, .val (.int (1 : Int32)), .val (.double x51), .second, .val (.double x62), .second] [(.double x184), (.double w23)])) rfl (by rw [hml]; rfl) (argsL := [(.double w23), (.double x184)]) (rest := []) (lenOf own_pd2 rfl) rfl (by show 2 * 0 + _ ≤ _; exact Nat.le_of_eq rfl) (hb hby own_d18_151) (by decide) (by decide) ⟨rfl, (Jvm.Free.Fl.Mag64.fin hj23 (by decide)).noNaN, (Jvm.Free.Fl.Mag64.fin hm184 (by decide)).noNaN⟩ (val' := (.double (Jvm.Native.java_lang_Math.nans.pick64 true w23 x184))) rfl
            refine own_step st185 ?_
            show own_Fin p e below s _ _ _ (T185.setTop (mkF m 154 #[.val (.ref ad0), .val (.ref ad0), .val (.ref ad2), .val (.double z3), .second, .val (.double (FP.i2d xb)), .second, .val (.double (FP.i2d xr)), .second, .val (.double woffset_ad0), .second, .val (.double x7), .second, .val (.double w23), .second, .val (.int (1 : Int32)), .val (.double x51), .second, .val (.double x62), .second] [(.double (Jvm.Native.java_lang_Math.nans.pick64 true w23 x184))]))
            show own_Fin p e below s _ _ _ (T185.setTop (mkF m 154 #[.val (.ref ad0), .val (.ref ad0), .val (.ref ad2), .val (.double z3), .second, .val (.double (FP.i2d xb)), .second, .val (.double (FP.i2d xr)), .second, .val (.double woffset_ad0), .second, .val (.double x7), .second, .val (.double w23), .second, .val (.int (1 : Int32)), .val (.double x51), .second, .val (.double x62), .second] [(.double (Jvm.Native.java_lang_Math.nans.pick64 true w23 x184))]))
            refine own_abs1 (F := fun x186 => own_Fin p e below s ({ frames := 1, cells := 0, slots := 0, locals := 17 } : Room).cells ({ frames := 1, cells := 0, slots := 0, locals := 17 } : Room).slots (own_Q18 Z ad0 ad2 z3 ra0 ra1 xb xr wjumps_ad0 wrates_ad0 woffset_ad0 k_wjumps_ad0 k_wrates_ad0 h0 n0) (T185.setTop (mkF m 154 #[.val (.ref ad0), .val (.ref ad0), .val (.ref ad2), .val (.double z3), .second, .val (.double (FP.i2d xb)), .second, .val (.double (FP.i2d xr)), .second, .val (.double woffset_ad0), .second, .val (.double x7), .second, .val (.double w23), .second, .val (.int (1 : Int32)), .val (.double x51), .second, .val (.double x62), .second] [(.double x186)]))) (e := (Jvm.Native.java_lang_Math.nans.pick64 true w23 x184)) fun x186 gx186 => ?_
            have hm186 : Jvm.Free.Fl.Mag64 1200 x186 := by rw [gx186]; exact (Jvm.Free.Fl.pick64_mag (hj23.mono (by decide)) (hm184.mono (by decide)) : Jvm.Free.Fl.Mag64 1200 _)
            show own_Fin p e below s _ _ _ (T185.setTop (mkF m 154 #[.val (.ref ad0), .val (.ref ad0), .val (.ref ad2), .val (.double z3), .second, .val (.double (FP.i2d xb)), .second, .val (.double (FP.i2d xr)), .second, .val (.double woffset_ad0), .second, .val (.double x7), .second, .val (.double w23), .second, .val (.int (1 : Int32)), .val (.double x51), .second, .val (.double x62), .second] [(.double x186)]))
            refine own_step (fun _ k => XS.dstore X185.here hx rfl (hb hby own_d18_154) rfl (l' := #[.val (.ref ad0), .val (.ref ad0), .val (.ref ad2), .val (.double z3), .second, .val (.double (FP.i2d xb)), .second, .val (.double (FP.i2d xr)), .second, .val (.double woffset_ad0), .second, .val (.double x7), .second, .val (.double x186), .second, .val (.int (1 : Int32)), .val (.double x51), .second, .val (.double x62), .second]) rfl k) ?_
            exact J63 _ X185 e185 x186 (hm186.mono (by decide))
          · refine own_step (fun _ k => XS.ifYes X54.here hx rfl (pc0 := 140) (pc' := 156) rfl (hb hby own_d18_140) rfl ((if0 _ _).trans (flt hc183).2.1) (by decide) (by decide) k) ?_
            show own_Fin p e below s _ _ _ (T54.setTop (mkF m 156 #[.val (.ref ad0), .val (.ref ad0), .val (.ref ad2), .val (.double z3), .second, .val (.double (FP.i2d xb)), .second, .val (.double (FP.i2d xr)), .second, .val (.double woffset_ad0), .second, .val (.double x7), .second, .val (.double w23), .second, .val (.int (1 : Int32)), .val (.double x51), .second, .val (.double x62), .second] []))
            exact J63 _ X54 e54 w23 (hj23.mono (by decide))
  · intro J23
    show own_Fin p e below s _ _ _ (T14.setTop (mkF m 110 #[.val (.ref ad0), .val (.ref ad0), .val (.ref ad2), .val (.double z3), .second, .val (.double (FP.i2d xb)), .second, .val (.double (FP.i2d xr)), .second, .val (.double woffset_ad0), .second, .val (.double x7), .second, .val (.double FP.dconst0), .second, .val (.int (0 : Int32)), .val (.double x11), .second, .val (.double x22), .second] []))
    refine own_step (fun _ k => XS.dload X14.here hx rfl (hb hby own_d18_110) rfl k) ?_
    refine own_step (fun _ k => XS.dconst0 X14.here hx rfl (hb hby own_d18_112) rfl k) ?_
    refine own_step (fun _ k => XS.dcmpS X14.here hx rfl (hb hby own_d18_113) rfl rfl k) ?_
    by_cases hc187 : (cmpValue (FP.dcmp x11 FP.dconst0) .g) < (0 : Int32)
    · refine own_step (fun _ k => XS.ifYes X14.here hx rfl (pc0 := 114) (pc' := 131) rfl (hb hby own_d18_114) rfl ((if0 _ _).trans (tlt hc187).1) (by decide) (by decide) k) ?_
      show own_Fin p e below s _ _ _ (T14.setTop (mkF m 131 #[.val (.ref ad0), .val (.ref ad0), .val (.ref ad2), .val (.double z3), .second, .val (.double (FP.i2d xb)), .second, .val (.double (FP.i2d xr)), .second, .val (.double woffset_ad0), .second, .val (.double x7), .second, .val (.double FP.dconst0), .second, .val (.int (0 : Int32)), .val (.double x11), .second, .val (.double x22), .second] []))
      refine own_step (fun _ k => XS.aloadN X14.here hx rfl (hb hby own_d18_131) rfl rfl k) ?_
      obtain ⟨cq188, q188, q188'⟩ := E_ad0.cell
      obtain ⟨_, _, ⟨T188, L188, k188, n188⟩, -, X188, ⟨Lc188, hQ188, l188, y188, z188⟩, st188⟩ := X14.privateBack hx (y := own_y6) hown (mvT hZ (own_w hw 120 rfl)) (mvT hZ (own_w hw 121 rfl)) (Jvm.Kit.selects_private (by decide) (mvT hZ (own_w hw 1 rfl)) (mvP hZ (own_w hw 122 rfl)) (mvT hZ (own_w hw 121 rfl))) (Cond.privateMethod_at (mvP hZ (own_w hw 122 rfl) (args := #[]))) (mvT hZ (own_w hw 123 rfl)) (by decide) (backOf (W := 0) (own_rm11 l Z a0 hw [] ad0 wjumps_ad0 wrates_ad0 ((.double woffset_ad0)) ((.int (2 : Int32))) h0 n0 Z0 E_ad0 F_jumps_ad0 F_rates_ad0 F_offset_ad0 F_pieces_ad0 g_ad0) hZ (own_w hw 123 rfl) (own_w hw 2 rfl) (by decide) (by decide)) (g := (mkF m 132 #[.val (.ref ad0), .val (.ref ad0), .val (.ref ad2), .val (.double z3), .second, .val (.double (FP.i2d xb)), .second, .val (.double (FP.i2d xr)), .second, .val (.double woffset_ad0), .second, .val (.double x7), .second, .val (.double FP.dconst0), .second, .val (.int (0 : Int32)), .val (.double x11), .second, .val (.double x22), .second] [(.ref ad0)])) rfl (by rw [hml]; rfl) (Steps.refl _) (a := ad0) (by rw [e14]; exact q188) q188' (argsL := []) (rest := []) (lenOf own_pd4 rfl) rfl (by show 2 * 0 + _ ≤ _; exact Nat.le_of_eq rfl) (hb hby own_d18_132) (fun _ _ => ⟨rfl, e14, (by decide : 0 + 0 ≤ _), (by decide : 0 + 0 ≤ _)⟩)
      dsimp only [Pt.U, Pt.locs, Pt.cells, Pt.slots] at X188 l188 y188 z188 st188 hQ188
      subst l188 y188 z188
      obtain ⟨N188q, K188q, rfl, G189, G190, G191, G192, G193⟩ := hQ188
      have N188 := Fr.app N2 N188q
      have K188 : Keep h0 T188.heap [wjumps_ad0, wrates_ad0, ad0] := KR.trans K188q (allS (P := fun x => x ∈ [wjumps_ad0, wrates_ad0, ad0] ∨ h0.size ≤ x) (Or.inl (List.mem_of_getElem? (i := 2) rfl)) all0)
      have Z188 : n0 ≤ T188.heap.size := Nat.le_trans Z0 K188q.1
      have G194 := (E_ad0.keep K188q)
      have G195 := (A_wjumps_ad0.keep K188q (ninS ne_wjumps_ad0_ad0 nin0))
      have G196 := (A_wrates_ad0.keep K188q (ninS ne_wrates_ad0_ad0 nin0))
      have G197 := (E_ad2.keep K188q)
      have G198 := (F_burst_ad2.keep K188q (ninS ne_ad2_ad0 nin0))
      have G199 := (F_rate_ad2.keep K188q (ninS ne_ad2_ad0 nin0))
      refine own_step (fun _ k => st188.trans k) ?_
      show own_Fin p e below s _ _ _ (T188.setTop (mkF m 135 #[.val (.ref ad0), .val (.ref ad0), .val (.ref ad2), .val (.double z3), .second, .val (.double (FP.i2d xb)), .second, .val (.double (FP.i2d xr)), .second, .val (.double woffset_ad0), .second, .val (.double x7), .second, .val (.double FP.dconst0), .second, .val (.int (0 : Int32)), .val (.double x11), .second, .val (.double x22), .second] [(.ref ad0)]))
      exact own_ret X188 hlk (v := some (.ref ad0)) (fun h => by rw [Bd.returns] at h; cases h) (by decide) (by decide) (by show own_Q18 Z ad0 ad2 z3 ra0 ra1 xb xr wjumps_ad0 wrates_ad0 woffset_ad0 k_wjumps_ad0 k_wrates_ad0 h0 n0 _ T188.heap _; exact ⟨N188, K188, (.int (0 : Int32)), (.double (9218868437227405312 : UInt64)), rfl, G189, G190, G191, G193, G192⟩) (fun fs hr => retOut X188 hx Bd.returns rfl (Or.inr (Or.inr (Or.inr (Or.inr ⟨rfl, rfl, rfl⟩)))) (hb hby own_d18_135) hr)
    · refine own_step (fun _ k => XS.ifNo X14.here hx rfl (hb hby own_d18_114) rfl ((if0 _ _).trans (flt hc187).1) k) ?_
      show own_Fin p e below s _ _ _ (T14.setTop (mkF m 117 #[.val (.ref ad0), .val (.ref ad0), .val (.ref ad2), .val (.double z3), .second, .val (.double (FP.i2d xb)), .second, .val (.double (FP.i2d xr)), .second, .val (.double woffset_ad0), .second, .val (.double x7), .second, .val (.double FP.dconst0), .second, .val (.int (0 : Int32)), .val (.double x11), .second, .val (.double x22), .second] []))
      refine own_step (fun _ k => XS.dload X14.here hx rfl (hb hby own_d18_117) rfl k) ?_
      refine own_step (fun _ k => XS.dconst0 X14.here hx rfl (hb hby own_d18_119) rfl k) ?_
      refine own_step (fun _ k => XS.dcmpS X14.here hx rfl (hb hby own_d18_120) rfl rfl k) ?_
      by_cases hc200 : (cmpValue (FP.dcmp x11 FP.dconst0) .l) = (0 : Int32)
      · refine own_step (fun _ k => XS.ifNo X14.here hx rfl (hb hby own_d18_121) rfl ((if0 _ _).trans (teq hc200).2) k) ?_
        show own_Fin p e below s _ _ _ (T14.setTop (mkF m 124 #[.val (.ref ad0), .val (.ref ad0), .val (.ref ad2), .val (.double z3), .second, .val (.double (FP.i2d xb)), .second, .val (.double (FP.i2d xr)), .second, .val (.double woffset_ad0), .second, .val (.double x7), .second, .val (.double FP.dconst0), .second, .val (.int (0 : Int32)), .val (.double x11), .second, .val (.double x22), .second] []))
        refine own_step (fun _ k => XS.dload X14.here hx rfl (hb hby own_d18_124) rfl k) ?_
        refine own_step (fun _ k => XS.dconst0 X14.here hx rfl (hb hby own_d18_126) rfl k) ?_
        refine own_step (fun _ k => XS.dcmpS X14.here hx rfl (hb hby own_d18_127) rfl rfl k) ?_
        by_cases hc201 : (cmpValue (FP.dcmp x22 FP.dconst0) .g) < (0 : Int32)
        · refine own_step (fun _ k => XS.ifNo X14.here hx rfl (hb hby own_d18_128) rfl ((if0 _ _).trans (tlt hc201).2.1) k) ?_
          show own_Fin p e below s _ _ _ (T14.setTop (mkF m 131 #[.val (.ref ad0), .val (.ref ad0), .val (.ref ad2), .val (.double z3), .second, .val (.double (FP.i2d xb)), .second, .val (.double (FP.i2d xr)), .second, .val (.double woffset_ad0), .second, .val (.double x7), .second, .val (.double FP.dconst0), .second, .val (.int (0 : Int32)), .val (.double x11), .second, .val (.double x22), .second] []))
          refine own_step (fun _ k => XS.aloadN X14.here hx rfl (hb hby own_d18_131) rfl rfl k) ?_
          obtain ⟨cq202, q202, q202'⟩ := E_ad0.cell
          obtain ⟨_, _, ⟨T202, L202, k202, n202⟩, -, X202, ⟨Lc202, hQ202, l202, y202, z202⟩, st202⟩ := X14.privateBack hx (y := own_y6) hown (mvT hZ (own_w hw 120 rfl)) (mvT hZ (own_w hw 121 rfl)) (Jvm.Kit.selects_private (by decide) (mvT hZ (own_w hw 1 rfl)) (mvP hZ (own_w hw 122 rfl)) (mvT hZ (own_w hw 121 rfl))) (Cond.privateMethod_at (mvP hZ (own_w hw 122 rfl) (args := #[]))) (mvT hZ (own_w hw 123 rfl)) (by decide) (backOf (W := 0) (own_rm11 l Z a0 hw [] ad0 wjumps_ad0 wrates_ad0 ((.double woffset_ad0)) ((.int (2 : Int32))) h0 n0 Z0 E_ad0 F_jumps_ad0 F_rates_ad0 F_offset_ad0 F_pieces_ad0 g_ad0) hZ (own_w hw 123 rfl) (own_w hw 2 rfl) (by decide) (by decide)) (g := (mkF m 132 #[.val (.ref ad0), .val (.ref ad0), .val (.ref ad2), .val (.double z3), .second, .val (.double (FP.i2d xb)), .second, .val (.double (FP.i2d xr)), .second, .val (.double woffset_ad0), .second, .val (.double x7), .second, .val (.double FP.dconst0), .second, .val (.int (0 : Int32)), .val (.double x11), .second, .val (.double x22), .second] [(.ref ad0)])) rfl (by rw [hml]; rfl) (Steps.refl _) (a := ad0) (by rw [e14]; exact q202) q202' (argsL := []) (rest := []) (lenOf own_pd4 rfl) rfl (by show 2 * 0 + _ ≤ _; exact Nat.le_of_eq rfl) (hb hby own_d18_132) (fun _ _ => ⟨rfl, e14, (by decide : 0 + 0 ≤ _), (by decide : 0 + 0 ≤ _)⟩)
          dsimp only [Pt.U, Pt.locs, Pt.cells, Pt.slots] at X202 l202 y202 z202 st202 hQ202
          subst l202 y202 z202
          obtain ⟨N202q, K202q, rfl, G203, G204, G205, G206, G207⟩ := hQ202
          have N202 := Fr.app N2 N202q
          have K202 : Keep h0 T202.heap [wjumps_ad0, wrates_ad0, ad0] := KR.trans K202q (allS (P := fun x => x ∈ [wjumps_ad0, wrates_ad0, ad0] ∨ h0.size ≤ x) (Or.inl (List.mem_of_getElem? (i := 2) rfl)) all0)
          have Z202 : n0 ≤ T202.heap.size := Nat.le_trans Z0 K202q.1
          have G208 := (E_ad0.keep K202q)
          have G209 := (A_wjumps_ad0.keep K202q (ninS ne_wjumps_ad0_ad0 nin0))
          have G210 := (A_wrates_ad0.keep K202q (ninS ne_wrates_ad0_ad0 nin0))
          have G211 := (E_ad2.keep K202q)
          have G212 := (F_burst_ad2.keep K202q (ninS ne_ad2_ad0 nin0))
          have G213 := (F_rate_ad2.keep K202q (ninS ne_ad2_ad0 nin0))
          refine own_step (fun _ k => st202.trans k) ?_
          show own_Fin p e below s _ _ _ (T202.setTop (mkF m 135 #[.val (.ref ad0), .val (.ref ad0), .val (.ref ad2), .val (.double z3), .second, .val (.double (FP.i2d xb)), .second, .val (.double (FP.i2d xr)), .second, .val (.double woffset_ad0), .second, .val (.double x7), .second, .val (.double FP.dconst0), .second, .val (.int (0 : Int32)), .val (.double x11), .second, .val (.double x22), .second] [(.ref ad0)]))
          exact own_ret X202 hlk (v := some (.ref ad0)) (fun h => by rw [Bd.returns] at h; cases h) (by decide) (by decide) (by show own_Q18 Z ad0 ad2 z3 ra0 ra1 xb xr wjumps_ad0 wrates_ad0 woffset_ad0 k_wjumps_ad0 k_wrates_ad0 h0 n0 _ T202.heap _; exact ⟨N202, K202, (.int (0 : Int32)), (.double (9218868437227405312 : UInt64)), rfl, G203, G204, G205, G207, G206⟩) (fun fs hr => retOut X202 hx Bd.returns rfl (Or.inr (Or.inr (Or.inr (Or.inr ⟨rfl, rfl, rfl⟩)))) (hb hby own_d18_135) hr)
        · refine own_step (fun _ k => XS.ifYes X14.here hx rfl (pc0 := 128) (pc' := 136) rfl (hb hby own_d18_128) rfl ((if0 _ _).trans (flt hc201).2.1) (by decide) (by decide) k) ?_
          show own_Fin p e below s _ _ _ (T14.setTop (mkF m 136 #[.val (.ref ad0), .val (.ref ad0), .val (.ref ad2), .val (.double z3), .second, .val (.double (FP.i2d xb)), .second, .val (.double (FP.i2d xr)), .second, .val (.double woffset_ad0), .second, .val (.double x7), .second, .val (.double FP.dconst0), .second, .val (.int (0 : Int32)), .val (.double x11), .second, .val (.double x22), .second] []))
          refine own_step (fun _ k => XS.dload X14.here hx rfl (hb hby own_d18_136) rfl k) ?_
          refine own_step (fun _ k => XS.dconst0 X14.here hx rfl (hb hby own_d18_138) rfl k) ?_
          refine own_step (fun _ k => XS.dcmpS X14.here hx rfl (hb hby own_d18_139) rfl rfl k) ?_
          refine own_step (fun _ k => XS.ifYes X14.here hx rfl (pc0 := 140) (pc' := 156) rfl (hb hby own_d18_140) rfl ((if0 _ _).trans (flt hc201).2.1) (by decide) (by decide) k) ?_
          show own_Fin p e below s _ _ _ (T14.setTop (mkF m 156 #[.val (.ref ad0), .val (.ref ad0), .val (.ref ad2), .val (.double z3), .second, .val (.double (FP.i2d xb)), .second, .val (.double (FP.i2d xr)), .second, .val (.double woffset_ad0), .second, .val (.double x7), .second, .val (.double FP.dconst0), .second, .val (.int (0 : Int32)), .val (.double x11), .second, .val (.double x22), .second] []))
          exact J23 _ X14 e14 FP.dconst0 ((own_m0).mono (by decide))
      · refine own_step (fun _ k => XS.ifYes X14.here hx rfl (pc0 := 121) (pc' := 136) rfl (hb hby own_d18_121) rfl ((if0 _ _).trans (feq hc200).2) (by decide) (by decide) k) ?_
        show own_Fin p e below s _ _ _ (T14.setTop (mkF m 136 #[.val (.ref ad0), .val (.ref ad0), .val (.ref ad2), .val (.double z3), .second, .val (.double (FP.i2d xb)), .second, .val (.double (FP.i2d xr)), .second, .val (.double woffset_ad0), .second, .val (.double x7), .second, .val (.double FP.dconst0), .second, .val (.int (0 : Int32)), .val (.double x11), .second, .val (.double x22), .second] []))
        refine own_step (fun _ k => XS.dload X14.here hx rfl (hb hby own_d18_136) rfl k) ?_
        refine own_step (fun _ k => XS.dconst0 X14.here hx rfl (hb hby own_d18_138) rfl k) ?_
        refine own_step (fun _ k => XS.dcmpS X14.here hx rfl (hb hby own_d18_139) rfl rfl k) ?_
        by_cases hc214 : (cmpValue (FP.dcmp x22 FP.dconst0) .g) < (0 : Int32)
        · refine own_step (fun _ k => XS.ifNo X14.here hx rfl (hb hby own_d18_140) rfl ((if0 _ _).trans (tlt hc214).2.1) k) ?_
          show own_Fin p e below s _ _ _ (T14.setTop (mkF m 143 #[.val (.ref ad0), .val (.ref ad0), .val (.ref ad2), .val (.double z3), .second, .val (.double (FP.i2d xb)), .second, .val (.double (FP.i2d xr)), .second, .val (.double woffset_ad0), .second, .val (.double x7), .second, .val (.double FP.dconst0), .second, .val (.int (0 : Int32)), .val (.double x11), .second, .val (.double x22), .second] []))
          refine own_step (fun _ k => XS.dload X14.here hx rfl (hb hby own_d18_143) rfl k) ?_
          refine own_step (fun _ k => XS.dload X14.here hx rfl (hb hby own_d18_145) rfl k) ?_
          refine own_step (fun _ k => XS.dnegS X14.here hx rfl (hb hby own_d18_147) rfl rfl k) ?_
          refine own_step (fun _ k => XS.dload X14.here hx rfl (hb hby own_d18_148) rfl k) ?_
          show own_Fin p e below s _ _ _ (T14.setTop (mkF m 150 #[.val (.ref ad0), .val (.ref ad0), .val (.ref ad2), .val (.double z3), .second, .val (.double (FP.i2d xb)), .second, .val (.double (FP.i2d xr)), .second, .val (.double woffset_ad0), .second, .val (.double x7), .second, .val (.double FP.dconst0), .second, .val (.int (0 : Int32)), .val (.double x11), .second, .val (.double x22), .second] [(.double x11), (.double (FP.dneg x22)), (.double FP.dconst0)]))
          refine own_step (fun _ k => XS.ddivS X14.here hx rfl (hb hby own_d18_150) rfl (show Jvm.Free.Fl.NoNaN64 (FP.ddiv (FP.dneg x22) x11) from (Jvm.Free.Fl.Mag64.fin (ddiv_mag (dneg_mag hm22) (own_big gx11 hc200) (by decide) (by decide)) (by decide)).noNaN) rfl k) ?_
          show own_Fin p e below s _ _ _ (T14.setTop (mkF m 151 #[.val (.ref ad0), .val (.ref ad0), .val (.ref ad2), .val (.double z3), .second, .val (.double (FP.i2d xb)), .second, .val (.double (FP.i2d xr)), .second, .val (.double woffset_ad0), .second, .val (.double x7), .second, .val (.double FP.dconst0), .second, .val (.int (0 : Int32)), .val (.double x11), .second, .val (.double x22), .second] [(.double (FP.ddiv (FP.dneg x22) x11)), (.double FP.dconst0)]))
          refine own_abs1 (F := fun x215 => own_Fin p e below s ({ frames := 1, cells := 0, slots := 0, locals := 17 } : Room).cells ({ frames := 1, cells := 0, slots := 0, locals := 17 } : Room).slots (own_Q18 Z ad0 ad2 z3 ra0 ra1 xb xr wjumps_ad0 wrates_ad0 woffset_ad0 k_wjumps_ad0 k_wrates_ad0 h0 n0) (T14.setTop (mkF m 151 #[.val (.ref ad0), .val (.ref ad0), .val (.ref ad2), .val (.double z3), .second, .val (.double (FP.i2d xb)), .second, .val (.double (FP.i2d xr)), .second, .val (.double woffset_ad0), .second, .val (.double x7), .second, .val (.double FP.dconst0), .second, .val (.int (0 : Int32)), .val (.double x11), .second, .val (.double x22), .second] [(.double x215), (.double FP.dconst0)]))) (e := (FP.ddiv (FP.dneg x22) x11)) fun x215 gx215 => ?_
          have hm215 : Jvm.Free.Fl.Mag64 1143 x215 := by rw [gx215]; have q := (ddiv_mag (dneg_mag hm22) (own_big gx11 hc200) (by decide) (by decide)); exact q
          show own_Fin p e below s _ _ _ (T14.setTop (mkF m 151 #[.val (.ref ad0), .val (.ref ad0), .val (.ref ad2), .val (.double z3), .second, .val (.double (FP.i2d xb)), .second, .val (.double (FP.i2d xr)), .second, .val (.double woffset_ad0), .second, .val (.double x7), .second, .val (.double FP.dconst0), .second, .val (.int (0 : Int32)), .val (.double x11), .second, .val (.double x22), .second] [(.double x215), (.double FP.dconst0)]))
          obtain ⟨T216, X216, e216, st216⟩ := natS X14 hx hZ hown (own_w hw 116 rfl) (own_w hw 117 rfl) (own_w hw 118 rfl) (show (Jvm.Cond.code Jvm.Free.Fl.Abs.maxDN Jvm.Free.Fl.Abs.maxDCode 4 (some .double)).before a0 Z = true from (own_w hw 119 rfl)) (by decide) e14 (fun hcd => Jvm.Free.Fl.Abs.maxD_pays (W := 0) FP.dconst0 x215 hcd (by decide) (by decide)) (g := (mkF m 151 #[.val (.ref ad0), .val (.ref ad0), .val (.ref ad2), .val (.double z3), .second, .val (.double (FP.i2d xb)), .second, .val (.double (FP.i2d xr)), .second, .val (.double woffset_ad0), .second, .val (.double x7), .second, .val (.double FP.dconst0), .second, .val (.int (0 : Int32)), .val (.double x11), .second, .val (.double x22), .second] [(.double x215), (.double FP.dconst0)])) rfl (by rw [hml]; rfl) (argsL := [(.double FP.dconst0), (.double x215)]) (rest := []) (lenOf own_pd2 rfl) rfl (by show 2 * 0 + _ ≤ _; exact Nat.le_of_eq rfl) (hb hby own_d18_151) (by decide) (by decide) ⟨rfl, (Jvm.Free.Fl.Mag64.fin (own_m0) (by decide)).noNaN, (Jvm.Free.Fl.Mag64.fin hm215 (by decide)).noNaN⟩ (val' := (.double (Jvm.Native.java_lang_Math.nans.pick64 true FP.dconst0 x215))) rfl
          refine own_step st216 ?_
          show own_Fin p e below s _ _ _ (T216.setTop (mkF m 154 #[.val (.ref ad0), .val (.ref ad0), .val (.ref ad2), .val (.double z3), .second, .val (.double (FP.i2d xb)), .second, .val (.double (FP.i2d xr)), .second, .val (.double woffset_ad0), .second, .val (.double x7), .second, .val (.double FP.dconst0), .second, .val (.int (0 : Int32)), .val (.double x11), .second, .val (.double x22), .second] [(.double (Jvm.Native.java_lang_Math.nans.pick64 true FP.dconst0 x215))]))
          show own_Fin p e below s _ _ _ (T216.setTop (mkF m 154 #[.val (.ref ad0), .val (.ref ad0), .val (.ref ad2), .val (.double z3), .second, .val (.double (FP.i2d xb)), .second, .val (.double (FP.i2d xr)), .second, .val (.double woffset_ad0), .second, .val (.double x7), .second, .val (.double FP.dconst0), .second, .val (.int (0 : Int32)), .val (.double x11), .second, .val (.double x22), .second] [(.double (Jvm.Native.java_lang_Math.nans.pick64 true FP.dconst0 x215))]))
          refine own_abs1 (F := fun x217 => own_Fin p e below s ({ frames := 1, cells := 0, slots := 0, locals := 17 } : Room).cells ({ frames := 1, cells := 0, slots := 0, locals := 17 } : Room).slots (own_Q18 Z ad0 ad2 z3 ra0 ra1 xb xr wjumps_ad0 wrates_ad0 woffset_ad0 k_wjumps_ad0 k_wrates_ad0 h0 n0) (T216.setTop (mkF m 154 #[.val (.ref ad0), .val (.ref ad0), .val (.ref ad2), .val (.double z3), .second, .val (.double (FP.i2d xb)), .second, .val (.double (FP.i2d xr)), .second, .val (.double woffset_ad0), .second, .val (.double x7), .second, .val (.double FP.dconst0), .second, .val (.int (0 : Int32)), .val (.double x11), .second, .val (.double x22), .second] [(.double x217)]))) (e := (Jvm.Native.java_lang_Math.nans.pick64 true FP.dconst0 x215)) fun x217 gx217 => ?_
          have hm217 : Jvm.Free.Fl.Mag64 1143 x217 := by rw [gx217]; exact (Jvm.Free.Fl.pick64_mag ((own_m0).mono (by decide)) (hm215.mono (by decide)) : Jvm.Free.Fl.Mag64 1143 _)
          show own_Fin p e below s _ _ _ (T216.setTop (mkF m 154 #[.val (.ref ad0), .val (.ref ad0), .val (.ref ad2), .val (.double z3), .second, .val (.double (FP.i2d xb)), .second, .val (.double (FP.i2d xr)), .second, .val (.double woffset_ad0), .second, .val (.double x7), .second, .val (.double FP.dconst0), .second, .val (.int (0 : Int32)), .val (.double x11), .second, .val (.double x22), .second] [(.double x217)]))
          refine own_step (fun _ k => XS.dstore X216.here hx rfl (hb hby own_d18_154) rfl (l' := #[.val (.ref ad0), .val (.ref ad0), .val (.ref ad2), .val (.double z3), .second, .val (.double (FP.i2d xb)), .second, .val (.double (FP.i2d xr)), .second, .val (.double woffset_ad0), .second, .val (.double x7), .second, .val (.double x217), .second, .val (.int (0 : Int32)), .val (.double x11), .second, .val (.double x22), .second]) rfl k) ?_
          exact J23 _ X216 e216 x217 (hm217.mono (by decide))
        · refine own_step (fun _ k => XS.ifYes X14.here hx rfl (pc0 := 140) (pc' := 156) rfl (hb hby own_d18_140) rfl ((if0 _ _).trans (flt hc214).2.1) (by decide) (by decide) k) ?_
          show own_Fin p e below s _ _ _ (T14.setTop (mkF m 156 #[.val (.ref ad0), .val (.ref ad0), .val (.ref ad2), .val (.double z3), .second, .val (.double (FP.i2d xb)), .second, .val (.double (FP.i2d xr)), .second, .val (.double woffset_ad0), .second, .val (.double x7), .second, .val (.double FP.dconst0), .second, .val (.int (0 : Int32)), .val (.double x11), .second, .val (.double x22), .second] []))
          exact J23 _ X14 e14 FP.dconst0 ((own_m0).mono (by decide))

theorem own_d19_0 : decode prog_42_method_5_code 0 = .ok (.aload_n 0, 1) := by decide +kernel
theorem own_d19_1 : decode prog_42_method_5_code 1 = .ok (.aload_n 0, 1) := by decide +kernel
theorem own_d19_2 : decode prog_42_method_5_code 2 = .ok (.aload_n 1, 1) := by decide +kernel
theorem own_d19_3 : decode prog_42_method_5_code 3 = .ok (.dload_n 2, 1) := by decide +kernel
theorem own_d19_4 : decode prog_42_method_5_code 4 = .ok (.invokevirtual 39, 3) := by decide +kernel
theorem own_d19_7 : decode prog_42_method_5_code 7 = .ok (.areturn, 1) := by decide +kernel
theorem own_ef19 (m : MethodId) (ad0 : Addr) (ad1 : Addr) (z2 : UInt64) : entryFrame m #[(.ref ad0), (.ref ad1), (.double z2)] 4 = mkF m 0 #[.val (.ref ad0), .val (.ref ad1), .val (.double z2), .second] [] := by first | (simp [entryFrame, mkF, argsToLocals, Value.category]; done) | rfl
def own_Q19 (Z : State) (ad0 : Addr) (ad1 : Addr) (z2 : UInt64) (ra0 : Int32) (ra1 : Int32) (xb : Int32) (xr : Int32) (wjumps_ad0 : Addr) (wrates_ad0 : Addr) (woffset_ad0 : UInt64) (k_wjumps_ad0 : ClassId) (k_wrates_ad0 : ClassId) (h0 : Heap) (n0 : Nat) (v : Option Value) (h : Heap) (L : List Loc) : Prop := Fr n0 L ∧ Keep h0 h [ad0, wrates_ad0, wjumps_ad0] ∧ ∃ (uo0 : Value) (uo1 : Value), v = some (.ref ad0) ∧ Exa Z h ad0 "com/example/tandem/tandem/analysis/PseudoAffine" ∧ Fld Z h ad0 "com/example/tandem/tandem/analysis/PseudoAffine" "jumps" "[D" (.ref wjumps_ad0) ∧ Fld Z h ad0 "com/example/tandem/tandem/analysis/PseudoAffine" "rates" "[D" (.ref wrates_ad0) ∧ Fld Z h ad0 "com/example/tandem/tandem/analysis/PseudoAffine" "pieces" "I" uo0 ∧ Fld Z h ad0 "com/example/tandem/tandem/analysis/PseudoAffine" "offset" "D" uo1
set_option maxRecDepth 65536 in
set_option maxHeartbeats 40000000 in
theorem own_rm19 (l : Launch) (Z : State) (a0 : Array Value) (hw : ∀ d ∈ tables_1, d.before a0 Z = true) (ws : List Jvm.Cond) (ad0 : Addr) (ad1 : Addr) (z2 : UInt64) (ra0 : Int32) (ra1 : Int32) (xb : Int32) (xr : Int32) (wjumps_ad0 : Addr) (wrates_ad0 : Addr) (woffset_ad0 : UInt64) (k_wjumps_ad0 : ClassId) (k_wrates_ad0 : ClassId) (h0 : Heap) (n0 : Nat) (Z0 : n0 ≤ h0.size) (hm_z2 : Jvm.Free.Fl.Mag64 1056 z2) (E_ad0 : Exa Z h0 ad0 "com/example/tandem/tandem/analysis/PseudoAffine") (F_jumps_ad0 : Fld Z h0 ad0 "com/example/tandem/tandem/analysis/PseudoAffine" "jumps" "[D" (.ref wjumps_ad0)) (F_rates_ad0 : Fld Z h0 ad0 "com/example/tandem/tandem/analysis/PseudoAffine" "rates" "[D" (.ref wrates_ad0)) (hm_woffset_ad0 : Jvm.Free.Fl.Mag64 1100 woffset_ad0) (F_offset_ad0 : Fld Z h0 ad0 "com/example/tandem/tandem/analysis/PseudoAffine" "offset" "D" (.double woffset_ad0)) (F_pieces_ad0 : Fld Z h0 ad0 "com/example/tandem/tandem/analysis/PseudoAffine" "pieces" "I" (.int (2 : Int32))) (A_wjumps_ad0 : Arv Z h0 wjumps_ad0 k_wjumps_ad0 .double (4 : Int32) [(.double FP.dconst0), (.double FP.dconst0)] (.double (0 : UInt64))) (A_wrates_ad0 : Arv Z h0 wrates_ad0 k_wrates_ad0 .double (4 : Int32) [(.double (FP.i2d ra0)), (.double (FP.i2d ra1))] (.double (0 : UInt64))) (E_ad1 : Exa Z h0 ad1 "com/example/tandem/tandem/model/TokenBucket") (F_burst_ad1 : Fld Z h0 ad1 "com/example/tandem/tandem/model/TokenBucket" "burst" "D" (.double (FP.i2d xb))) (F_rate_ad1 : Fld Z h0 ad1 "com/example/tandem/tandem/model/TokenBucket" "rate" "D" (.double (FP.i2d xr))) (g_wjumps_ad0 : n0 ≤ wjumps_ad0) (ne_ad0_wjumps_ad0 : ad0 ≠ wjumps_ad0) (ne_wrates_ad0_wjumps_ad0 : wrates_ad0 ≠ wjumps_ad0) (ne_ad1_wjumps_ad0 : ad1 ≠ wjumps_ad0) (g_wrates_ad0 : n0 ≤ wrates_ad0) (ne_ad0_wrates_ad0 : ad0 ≠ wrates_ad0) (ne_ad1_wrates_ad0 : ad1 ≠ wrates_ad0) (ne_wjumps_ad0_wrates_ad0 : wjumps_ad0 ≠ wrates_ad0) (g_ad0 : n0 ≤ ad0) (ne_ad1_ad0 : ad1 ≠ ad0) (ne_wjumps_ad0_ad0 : wjumps_ad0 ≠ ad0) (ne_wrates_ad0_ad0 : wrates_ad0 ≠ ad0) :
    MetFree l (⟨"com/example/tandem/tandem/analysis/PseudoAffine", "leaveOver", "(Lcom/example/tandem/tandem/model/TokenBucket;D)Lcom/example/tandem/tandem/analysis/PseudoAffine;"⟩ : MethodName) (head1 (Jvm.Cond.code (⟨"com/example/tandem/tandem/analysis/PseudoAffine", "leaveOver", "(Lcom/example/tandem/tandem/model/TokenBucket;D)Lcom/example/tandem/tandem/analysis/PseudoAffine;"⟩ : MethodName) prog_42_method_5_code 4 (some (.object "com/example/tandem/tandem/analysis/PseudoAffine")) :: ws) ({ frames := 2, cells := 0, slots := 0, locals := 48 } : Room)) (fun a U => a = #[(.ref ad0), (.ref ad1), (.double z2)] ∧ Z.Warmed39 U.vm ∧ U.heap = h0) (fun _ _ _ _ _ => True) (fun _ U o U' => ∃ v L, o = .returned v ∧ own_Q19 Z ad0 ad1 z2 ra0 ra1 xb xr wjumps_ad0 wrates_ad0 woffset_ad0 k_wjumps_ad0 k_wrates_ad0 h0 n0 v U'.heap L ∧ FrameEnd U o U' L ({ frames := 2, cells := 0, slots := 0, locals := 48 } : Room).cells ({ frames := 2, cells := 0, slots := 0, locals := 48 } : Room).slots) := by
  refine MetFree.of_bodySF (plainFor_of_name own_pn0) hisR ?_
  intro p e s m args below meth c s₁ Bd hml0 hP hK
  obtain ⟨rfl, hZ, hh⟩ := hP
  have hx := Bd.exec
  have hby := Bd.bytes
  have hlk := Bd.notSynchronized
  have hml : c.maxLocals = 4 := hml0
  have hown : s.vm.findClass "com/example/tandem/tandem/analysis/PseudoAffine" = some m.cls := findClass_of_methodNamed Bd.named
  have hnm := (name_of_methodNamed Bd.named Bd.method).1
  have X0 : Stand p l e ({ frames := 2, cells := 0, slots := 0, locals := 48 } : Room) s m #[(.ref ad0), (.ref ad1), (.double z2)] below meth c s₁ [] 0 0 := Stand.of_body Bd
  have e0 : s₁.heap = h0 := by rw [← hh, Bd.state]; rfl
  have N0 := Fr.nil n0
  have KR : Keep h0 h0 [ad0, wrates_ad0, wjumps_ad0] := Keep.refl _ _
  show own_Fin p e below s ({ frames := 2, cells := 0, slots := 0, locals := 48 } : Room).cells ({ frames := 2, cells := 0, slots := 0, locals := 48 } : Room).slots (own_Q19 Z ad0 ad1 z2 ra0 ra1 xb xr wjumps_ad0 wrates_ad0 woffset_ad0 k_wjumps_ad0 k_wrates_ad0 h0 n0) (s₁.setTop (entryFrame m #[(.ref ad0), (.ref ad1), (.double z2)] 4))
  refine own_cast (own_ef19 m ad0 ad1 z2) ?_
  refine own_step (fun _ k => XS.aloadN X0.here hx rfl (hb hby own_d19_0) rfl rfl k) ?_
  refine own_step (fun _ k => XS.aloadN X0.here hx rfl (hb hby own_d19_1) rfl rfl k) ?_
  refine own_step (fun _ k => XS.aloadN X0.here hx rfl (hb hby own_d19_2) rfl rfl k) ?_
  refine own_step (fun _ k => XS.dloadN X0.here hx rfl (hb hby own_d19_3) rfl k) ?_
  show own_Fin p e below s _ _ _ (s₁.setTop (mkF m 4 #[.val (.ref ad0), .val (.ref ad1), .val (.double z2), .second] [(.double z2), (.ref ad1), (.ref ad0), (.ref ad0)]))
  obtain ⟨cq1, kq1, q1a, q1b, q1c⟩ := isOf hZ e0 E_ad0
  obtain ⟨_, _, ⟨T1, L1, k1, n1⟩, -, X1, ⟨Lc1, hQ1, l1, y1, z1⟩, st1⟩ := X0.virtualBack hx (y := own_y5) (z := own_y5) hown (mvT hZ (own_w hw 110 rfl)) (mvT hZ (own_w hw 111 rfl)) (notFace_of_selects (args := #[]) (mvT hZ (own_w hw 113 rfl))) (mvT hZ (own_w hw 113 rfl)) (mvT hZ (own_w hw 112 rfl)) (by decide) (backOf (W := 0) (own_rm18 l Z a0 hw [] ad0 ad1 z2 ra0 ra1 xb xr wjumps_ad0 wrates_ad0 woffset_ad0 k_wjumps_ad0 k_wrates_ad0 h0 n0 Z0 (show Jvm.Free.Fl.Mag64 1056 z2 from (hm_z2.mono (by decide))) E_ad0 F_jumps_ad0 F_rates_ad0 (show Jvm.Free.Fl.Mag64 1100 woffset_ad0 from (hm_woffset_ad0.mono (by decide))) F_offset_ad0 F_pieces_ad0 A_wjumps_ad0 A_wrates_ad0 E_ad1 F_burst_ad1 F_rate_ad1 g_wjumps_ad0 ne_ad0_wjumps_ad0 ne_wrates_ad0_wjumps_ad0 ne_ad1_wjumps_ad0 g_wrates_ad0 ne_ad0_wrates_ad0 ne_ad1_wrates_ad0 ne_wjumps_ad0_wrates_ad0 g_ad0 ne_ad1_ad0 ne_wjumps_ad0_ad0 ne_wrates_ad0_ad0) hZ (own_w hw 114 rfl) (own_w hw 2 rfl) (by decide) (by decide)) q1a q1c (g := (mkF m 4 #[.val (.ref ad0), .val (.ref ad1), .val (.double z2), .second] [(.double z2), (.ref ad1), (.ref ad0), (.ref ad0)])) rfl (by rw [hml]; rfl) (Steps.refl _) (argsL := [(.ref ad0), (.ref ad1), (.double z2)]) (rest := []) (lenOf own_pd3 rfl) rfl (by show 2 * 0 + _ ≤ _; exact Nat.le_of_eq rfl) (hb hby own_d19_4) (fun _ _ => ⟨rfl, e0, (by decide : 0 + 0 ≤ _), (by decide : 0 + 0 ≤ _)⟩)
  dsimp only [Pt.U, Pt.locs, Pt.cells, Pt.slots] at X1 l1 y1 z1 st1 hQ1
  subst l1 y1 z1
  obtain ⟨N1q, K1q, uo0_1, uo1_1, rfl, G2, G3, G4, G5, G6⟩ := hQ1
  have N1 := Fr.app N0 N1q
  have K1 : Keep h0 T1.heap [ad0, wrates_ad0, wjumps_ad0] := KR.trans K1q (allS (P := fun x => x ∈ [ad0, wrates_ad0, wjumps_ad0] ∨ h0.size ≤ x) (Or.inl (List.mem_of_getElem? (i := 2) rfl)) (allS (P := fun x => x ∈ [ad0, wrates_ad0, wjumps_ad0] ∨ h0.size ≤ x) (Or.inl (List.mem_of_getElem? (i := 1) rfl)) (allS (P := fun x => x ∈ [ad0, wrates_ad0, wjumps_ad0] ∨ h0.size ≤ x) (Or.inl (List.mem_of_getElem? (i := 0) rfl)) all0)))
  have Z1 : n0 ≤ T1.heap.size := Nat.le_trans Z0 K1q.1
  have G7 := (E_ad0.keep K1q)
  have G8 := (E_ad1.keep K1q)
  have G9 := (F_burst_ad1.keep K1q (ninS ne_ad1_wjumps_ad0 (ninS ne_ad1_wrates_ad0 (ninS ne_ad1_ad0 nin0))))
  have G10 := (F_rate_ad1.keep K1q (ninS ne_ad1_wjumps_ad0 (ninS ne_ad1_wrates_ad0 (ninS ne_ad1_ad0 nin0))))
  refine own_step (fun _ k => st1.trans k) ?_
  show own_Fin p e below s _ _ _ (T1.setTop (mkF m 7 #[.val (.ref ad0), .val (.ref ad1), .val (.double z2), .second] [(.ref ad0)]))
  exact own_ret X1 hlk (v := some (.ref ad0)) (fun h => by rw [Bd.returns] at h; cases h) (by decide) (by decide) (by show own_Q19 Z ad0 ad1 z2 ra0 ra1 xb xr wjumps_ad0 wrates_ad0 woffset_ad0 k_wjumps_ad0 k_wrates_ad0 h0 n0 _ T1.heap _; exact ⟨N1, K1, uo0_1, uo1_1, rfl, G2, G3, G4, G5, G6⟩) (fun fs hr => retOut X1 hx Bd.returns rfl (Or.inr (Or.inr (Or.inr (Or.inr ⟨rfl, rfl, rfl⟩)))) (hb hby own_d19_7) hr)

theorem own_d20_0 : decode jdk_117_method_6_code 0 = .ok (.dload_n 0, 1) := by decide +kernel
theorem own_d20_1 : decode jdk_117_method_6_code 1 = .ok (.dload_n 0, 1) := by decide +kernel
theorem own_d20_2 : decode jdk_117_method_6_code 2 = .ok (.dcmp .l, 1) := by decide +kernel
theorem own_d20_3 : decode jdk_117_method_6_code 3 = .ok (.ifCond .eq 7, 3) := by decide +kernel
theorem own_d20_10 : decode jdk_117_method_6_code 10 = .ok (.iconst 0, 1) := by decide +kernel
theorem own_d20_11 : decode jdk_117_method_6_code 11 = .ok (.ireturn, 1) := by decide +kernel
theorem own_pn4 : plainName "java/lang/Double" = true := by first | (simp [plainName, overriddenIn]; done) | decide +kernel
theorem own_ef20 (m : MethodId)  : entryFrame m #[(.double FP.dconst0)] 2 = mkF m 0 #[.val (.double FP.dconst0), .second] [] := by first | (simp [entryFrame, mkF, argsToLocals, Value.category]; done) | rfl
def own_Q20 (Z : State)  (h0 : Heap) (n0 : Nat) (v : Option Value) (h : Heap) (L : List Loc) : Prop := v = some (.int (0 : Int32)) ∧ Fr n0 L ∧ h = h0
set_option maxRecDepth 65536 in
set_option maxHeartbeats 40000000 in
theorem own_rm20 (l : Launch) (Z : State) (a0 : Array Value) (hw : ∀ d ∈ tables_1, d.before a0 Z = true) (ws : List Jvm.Cond)  (h0 : Heap) (n0 : Nat) (Z0 : n0 ≤ h0.size) :
    MetFree l (⟨"java/lang/Double", "isNaN", "(D)Z"⟩ : MethodName) (head1 (Jvm.Cond.code (⟨"java/lang/Double", "isNaN", "(D)Z"⟩ : MethodName) jdk_117_method_6_code 2 (some .boolean) :: ws) ({ frames := 0, cells := 0, slots := 0, locals := 0 } : Room)) (fun a U => a = #[(.double FP.dconst0)] ∧ Z.Warmed39 U.vm ∧ U.heap = h0) (fun _ _ _ _ _ => True) (fun _ U o U' => ∃ v L, o = .returned v ∧ own_Q20 Z  h0 n0 v U'.heap L ∧ FrameEnd U o U' L ({ frames := 0, cells := 0, slots := 0, locals := 0 } : Room).cells ({ frames := 0, cells := 0, slots := 0, locals := 0 } : Room).slots) := by
  refine MetFree.of_bodySF (plainFor_of_name own_pn4) hisR ?_
  intro p e s m args below meth c s₁ Bd hml0 hP hK
  obtain ⟨rfl, hZ, hh⟩ := hP
  have hx := Bd.exec
  have hby := Bd.bytes
  have hlk := Bd.notSynchronized
  have hml : c.maxLocals = 2 := hml0
  have hown : s.vm.findClass "java/lang/Double" = some m.cls := findClass_of_methodNamed Bd.named
  have hnm := (name_of_methodNamed Bd.named Bd.method).1
  have X0 : Stand p l e ({ frames := 0, cells := 0, slots := 0, locals := 0 } : Room) s m #[(.double FP.dconst0)] below meth c s₁ [] 0 0 := Stand.of_body Bd
  have e0 : s₁.heap = h0 := by rw [← hh, Bd.state]; rfl
  have N0 := Fr.nil n0
  have KR : Keep h0 h0 [] := Keep.refl _ _
  show own_Fin p e below s ({ frames := 0, cells := 0, slots := 0, locals := 0 } : Room).cells ({ frames := 0, cells := 0, slots := 0, locals := 0 } : Room).slots (own_Q20 Z  h0 n0) (s₁.setTop (entryFrame m #[(.double FP.dconst0)] 2))
  refine own_cast (own_ef20 m ) ?_
  refine own_step (fun _ k => XS.dloadN X0.here hx rfl (hb hby own_d20_0) rfl k) ?_
  refine own_step (fun _ k => XS.dloadN X0.here hx rfl (hb hby own_d20_1) rfl k) ?_
  refine own_step (fun _ k => XS.dcmpS X0.here hx rfl (hb hby own_d20_2) rfl rfl k) ?_
  have hf1 : (cmpValue (FP.dcmp FP.dconst0 FP.dconst0) .l) = (0 : Int32) := by decide +kernel
  refine own_step (fun _ k => XS.ifYes X0.here hx rfl (pc0 := 3) (pc' := 10) rfl (hb hby own_d20_3) rfl ((if0 _ _).trans (teq hf1).1) (by decide) (by decide) k) ?_
  show own_Fin p e below s _ _ _ (s₁.setTop (mkF m 10 #[.val (.double FP.dconst0), .second] []))
  refine own_step (fun _ k => XS.iconst X0.here hx rfl (hb hby own_d20_10) k) ?_
  exact own_ret X0 hlk (v := some (.int (0 : Int32))) (fun h => by rw [Bd.returns] at h; cases h) (by decide) (by decide) (by show own_Q20 Z  h0 n0 _ s₁.heap _; rw [e0]; exact ⟨rfl, N0, rfl⟩) (fun fs hr => retN X0 hx (t := .boolean) Bd.returns (by simp) (hb hby own_d20_11) hr)

theorem own_d21_0 : decode jdk_117_method_6_code 0 = .ok (.dload_n 0, 1) := by decide +kernel
theorem own_d21_1 : decode jdk_117_method_6_code 1 = .ok (.dload_n 0, 1) := by decide +kernel
theorem own_d21_2 : decode jdk_117_method_6_code 2 = .ok (.dcmp .l, 1) := by decide +kernel
theorem own_d21_3 : decode jdk_117_method_6_code 3 = .ok (.ifCond .eq 7, 3) := by decide +kernel
theorem own_d21_10 : decode jdk_117_method_6_code 10 = .ok (.iconst 0, 1) := by decide +kernel
theorem own_d21_11 : decode jdk_117_method_6_code 11 = .ok (.ireturn, 1) := by decide +kernel
theorem own_ef21 (m : MethodId)  : entryFrame m #[(.double (0 : UInt64))] 2 = mkF m 0 #[.val (.double (0 : UInt64)), .second] [] := by first | (simp [entryFrame, mkF, argsToLocals, Value.category]; done) | rfl
def own_Q21 (Z : State)  (h0 : Heap) (n0 : Nat) (v : Option Value) (h : Heap) (L : List Loc) : Prop := v = some (.int (0 : Int32)) ∧ Fr n0 L ∧ h = h0
set_option maxRecDepth 65536 in
set_option maxHeartbeats 40000000 in
theorem own_rm21 (l : Launch) (Z : State) (a0 : Array Value) (hw : ∀ d ∈ tables_1, d.before a0 Z = true) (ws : List Jvm.Cond)  (h0 : Heap) (n0 : Nat) (Z0 : n0 ≤ h0.size) :
    MetFree l (⟨"java/lang/Double", "isNaN", "(D)Z"⟩ : MethodName) (head1 (Jvm.Cond.code (⟨"java/lang/Double", "isNaN", "(D)Z"⟩ : MethodName) jdk_117_method_6_code 2 (some .boolean) :: ws) ({ frames := 0, cells := 0, slots := 0, locals := 0 } : Room)) (fun a U => a = #[(.double (0 : UInt64))] ∧ Z.Warmed39 U.vm ∧ U.heap = h0) (fun _ _ _ _ _ => True) (fun _ U o U' => ∃ v L, o = .returned v ∧ own_Q21 Z  h0 n0 v U'.heap L ∧ FrameEnd U o U' L ({ frames := 0, cells := 0, slots := 0, locals := 0 } : Room).cells ({ frames := 0, cells := 0, slots := 0, locals := 0 } : Room).slots) := by
  refine MetFree.of_bodySF (plainFor_of_name own_pn4) hisR ?_
  intro p e s m args below meth c s₁ Bd hml0 hP hK
  obtain ⟨rfl, hZ, hh⟩ := hP
  have hx := Bd.exec
  have hby := Bd.bytes
  have hlk := Bd.notSynchronized
  have hml : c.maxLocals = 2 := hml0
  have hown : s.vm.findClass "java/lang/Double" = some m.cls := findClass_of_methodNamed Bd.named
  have hnm := (name_of_methodNamed Bd.named Bd.method).1
  have X0 : Stand p l e ({ frames := 0, cells := 0, slots := 0, locals := 0 } : Room) s m #[(.double (0 : UInt64))] below meth c s₁ [] 0 0 := Stand.of_body Bd
  have e0 : s₁.heap = h0 := by rw [← hh, Bd.state]; rfl
  have N0 := Fr.nil n0
  have KR : Keep h0 h0 [] := Keep.refl _ _
  show own_Fin p e below s ({ frames := 0, cells := 0, slots := 0, locals := 0 } : Room).cells ({ frames := 0, cells := 0, slots := 0, locals := 0 } : Room).slots (own_Q21 Z  h0 n0) (s₁.setTop (entryFrame m #[(.double (0 : UInt64))] 2))
  refine own_cast (own_ef21 m ) ?_
  refine own_step (fun _ k => XS.dloadN X0.here hx rfl (hb hby own_d21_0) rfl k) ?_
  refine own_step (fun _ k => XS.dloadN X0.here hx rfl (hb hby own_d21_1) rfl k) ?_
  refine own_step (fun _ k => XS.dcmpS X0.here hx rfl (hb hby own_d21_2) rfl rfl k) ?_
  have hf1 : (cmpValue (FP.dcmp (0 : UInt64) (0 : UInt64)) .l) = (0 : Int32) := by decide +kernel
  refine own_step (fun _ k => XS.ifYes X0.here hx rfl (pc0 := 3) (pc' := 10) rfl (hb hby own_d21_3) rfl ((if0 _ _).trans (teq hf1).1) (by decide) (by decide) k) ?_
  show own_Fin p e below s _ _ _ (s₁.setTop (mkF m 10 #[.val (.double (0 : UInt64)), .second] []))
  refine own_step (fun _ k => XS.iconst X0.here hx rfl (hb hby own_d21_10) k) ?_
  exact own_ret X0 hlk (v := some (.int (0 : Int32))) (fun h => by rw [Bd.returns] at h; cases h) (by decide) (by decide) (by show own_Q21 Z  h0 n0 _ s₁.heap _; rw [e0]; exact ⟨rfl, N0, rfl⟩) (fun fs hr => retN X0 hx (t := .boolean) Bd.returns (by simp) (hb hby own_d21_11) hr)

theorem own_pd5 : parseMethodDescriptor "(D)Z" = some ⟨[.double], some .boolean⟩ := by decide +kernel
abbrev own_y7 : MethodName := (⟨"java/lang/Double", "isNaN", "(D)Z"⟩ : MethodName)
theorem own_d22_0 : decode jdk_117_method_23_code 0 = .ok (.dload_n 0, 1) := by decide +kernel
theorem own_d22_1 : decode jdk_117_method_23_code 1 = .ok (.invokestatic 122, 3) := by decide +kernel
theorem own_d22_4 : decode jdk_117_method_23_code 4 = .ok (.ifCond .ne 8, 3) := by decide +kernel
theorem own_d22_7 : decode jdk_117_method_23_code 7 = .ok (.dload_n 0, 1) := by decide +kernel
theorem own_d22_8 : decode jdk_117_method_23_code 8 = .ok (.invokestatic 134, 3) := by decide +kernel
theorem own_d22_11 : decode jdk_117_method_23_code 11 = .ok (.lreturn, 1) := by decide +kernel
theorem own_ef22 (m : MethodId)  : entryFrame m #[(.double FP.dconst0)] 2 = mkF m 0 #[.val (.double FP.dconst0), .second] [] := by first | (simp [entryFrame, mkF, argsToLocals, Value.category]; done) | rfl
def own_Q22 (Z : State)  (h0 : Heap) (n0 : Nat) (v : Option Value) (h : Heap) (L : List Loc) : Prop := v = some (.long (UInt64.toInt64 FP.dconst0)) ∧ Fr n0 L ∧ h = h0
set_option maxRecDepth 65536 in
set_option maxHeartbeats 40000000 in
theorem own_rm22 (l : Launch) (Z : State) (a0 : Array Value) (hw : ∀ d ∈ tables_1, d.before a0 Z = true) (ws : List Jvm.Cond)  (h0 : Heap) (n0 : Nat) (Z0 : n0 ≤ h0.size) :
    MetFree l (⟨"java/lang/Double", "doubleToLongBits", "(D)J"⟩ : MethodName) (head1 (Jvm.Cond.code (⟨"java/lang/Double", "doubleToLongBits", "(D)J"⟩ : MethodName) jdk_117_method_23_code 2 (some .long) :: ws) ({ frames := 1, cells := 0, slots := 0, locals := 40 } : Room)) (fun a U => a = #[(.double FP.dconst0)] ∧ Z.Warmed39 U.vm ∧ U.heap = h0) (fun _ _ _ _ _ => True) (fun _ U o U' => ∃ v L, o = .returned v ∧ own_Q22 Z  h0 n0 v U'.heap L ∧ FrameEnd U o U' L ({ frames := 1, cells := 0, slots := 0, locals := 40 } : Room).cells ({ frames := 1, cells := 0, slots := 0, locals := 40 } : Room).slots) := by
  refine MetFree.of_bodySF (plainFor_of_name own_pn4) hisR ?_
  intro p e s m args below meth c s₁ Bd hml0 hP hK
  obtain ⟨rfl, hZ, hh⟩ := hP
  have hx := Bd.exec
  have hby := Bd.bytes
  have hlk := Bd.notSynchronized
  have hml : c.maxLocals = 2 := hml0
  have hown : s.vm.findClass "java/lang/Double" = some m.cls := findClass_of_methodNamed Bd.named
  have hnm := (name_of_methodNamed Bd.named Bd.method).1
  have X0 : Stand p l e ({ frames := 1, cells := 0, slots := 0, locals := 40 } : Room) s m #[(.double FP.dconst0)] below meth c s₁ [] 0 0 := Stand.of_body Bd
  have e0 : s₁.heap = h0 := by rw [← hh, Bd.state]; rfl
  have N0 := Fr.nil n0
  have KR : Keep h0 h0 [] := Keep.refl _ _
  show own_Fin p e below s ({ frames := 1, cells := 0, slots := 0, locals := 40 } : Room).cells ({ frames := 1, cells := 0, slots := 0, locals := 40 } : Room).slots (own_Q22 Z  h0 n0) (s₁.setTop (entryFrame m #[(.double FP.dconst0)] 2))
  refine own_cast (own_ef22 m ) ?_
  refine own_step (fun _ k => XS.dloadN X0.here hx rfl (hb hby own_d22_0) rfl k) ?_
  obtain ⟨_, _, ⟨T1, L1, k1, n1⟩, -, X1, ⟨Lc1, hQ1, l1, y1, z1⟩, st1⟩ := Jvm.LawKit.callS X0 hx (y := own_y7) hown (mvT hZ (own_w hw 69 rfl)) (mvT hZ (own_w hw 70 rfl)) (mvT hZ (own_w hw 64 rfl)) (mvT hZ (own_w hw 71 rfl)) (by decide) (backOf (W := 0) (own_rm20 l Z a0 hw []  h0 n0 Z0 ) hZ (own_w hw 71 rfl) (own_w hw 64 rfl) (by decide) (by decide)) (g := (mkF m 1 #[.val (.double FP.dconst0), .second] [(.double FP.dconst0)])) rfl (by rw [hml]; rfl) (argsL := [(.double FP.dconst0)]) (rest := []) (lenOf own_pd5 rfl) rfl (by show 2 * 0 + _ ≤ _; exact Nat.le_of_eq rfl) (hb hby own_d22_1) (fun _ _ => ⟨rfl, e0, (by decide : 0 + 0 ≤ _), (by decide : 0 + 0 ≤ _)⟩)
  dsimp only [Pt.U, Pt.locs, Pt.cells, Pt.slots] at X1 l1 y1 z1 st1 hQ1
  subst l1 y1 z1
  obtain ⟨rfl, N1q, e1⟩ := hQ1
  have N1 := Fr.app N0 N1q
  refine own_step (fun _ k => st1 _ k) ?_
  show own_Fin p e below s _ _ _ (T1.setTop (mkF m 4 #[.val (.double FP.dconst0), .second] [(.int (0 : Int32))]))
  refine own_step (fun _ k => XS.ifNo X1.here hx rfl (hb hby own_d22_4) rfl ((if0 _ _).trans (teq (by decide : (0 : Int32) = (0 : Int32))).2) k) ?_
  refine own_step (fun _ k => XS.dloadN X1.here hx rfl (hb hby own_d22_7) rfl k) ?_
  obtain ⟨vm2, X2, st2⟩ := X1.doubleToRawLongBits hx hown (mvT hZ (own_w hw 72 rfl)) (mvT hZ (own_w hw 74 rfl)) (mvT hZ (own_w hw 73 rfl)) (mvT hZ (own_w hw 64 rfl)) (g := (mkF m 8 #[.val (.double FP.dconst0), .second] [(.double FP.dconst0)])) rfl (by rw [hml]; rfl) rfl (hb hby own_d22_8) (by decide) (by show 2 * 0 + 0 + (nativeFrameWords "java/lang/Double" "doubleToRawLongBits" 2 + 11) ≤ _; decide)
  have e2 : (T1.setVm vm2).heap = h0 := e1
  refine own_step st2 ?_
  show own_Fin p e below s _ _ _ ((T1.setVm vm2).setTop (mkF m 11 #[.val (.double FP.dconst0), .second] [(.long (UInt64.toInt64 FP.dconst0))]))
  exact own_ret X2 hlk (v := some (.long (UInt64.toInt64 FP.dconst0))) (fun h => by rw [Bd.returns] at h; cases h) (by decide) (by decide) (by show own_Q22 Z  h0 n0 _ (T1.setVm vm2).heap _; rw [e2]; exact ⟨rfl, N1, rfl⟩) (fun fs hr => retOut X2 hx Bd.returns rfl (Or.inr (Or.inl ⟨rfl, rfl, _, rfl⟩)) (hb hby own_d22_11) hr)

theorem own_d23_0 : decode jdk_117_method_23_code 0 = .ok (.dload_n 0, 1) := by decide +kernel
theorem own_d23_1 : decode jdk_117_method_23_code 1 = .ok (.invokestatic 122, 3) := by decide +kernel
theorem own_d23_4 : decode jdk_117_method_23_code 4 = .ok (.ifCond .ne 8, 3) := by decide +kernel
theorem own_d23_7 : decode jdk_117_method_23_code 7 = .ok (.dload_n 0, 1) := by decide +kernel
theorem own_d23_8 : decode jdk_117_method_23_code 8 = .ok (.invokestatic 134, 3) := by decide +kernel
theorem own_d23_11 : decode jdk_117_method_23_code 11 = .ok (.lreturn, 1) := by decide +kernel
theorem own_ef23 (m : MethodId)  : entryFrame m #[(.double (0 : UInt64))] 2 = mkF m 0 #[.val (.double (0 : UInt64)), .second] [] := by first | (simp [entryFrame, mkF, argsToLocals, Value.category]; done) | rfl
def own_Q23 (Z : State)  (h0 : Heap) (n0 : Nat) (v : Option Value) (h : Heap) (L : List Loc) : Prop := v = some (.long (UInt64.toInt64 (0 : UInt64))) ∧ Fr n0 L ∧ h = h0
set_option maxRecDepth 65536 in
set_option maxHeartbeats 40000000 in
theorem own_rm23 (l : Launch) (Z : State) (a0 : Array Value) (hw : ∀ d ∈ tables_1, d.before a0 Z = true) (ws : List Jvm.Cond)  (h0 : Heap) (n0 : Nat) (Z0 : n0 ≤ h0.size) :
    MetFree l (⟨"java/lang/Double", "doubleToLongBits", "(D)J"⟩ : MethodName) (head1 (Jvm.Cond.code (⟨"java/lang/Double", "doubleToLongBits", "(D)J"⟩ : MethodName) jdk_117_method_23_code 2 (some .long) :: ws) ({ frames := 1, cells := 0, slots := 0, locals := 40 } : Room)) (fun a U => a = #[(.double (0 : UInt64))] ∧ Z.Warmed39 U.vm ∧ U.heap = h0) (fun _ _ _ _ _ => True) (fun _ U o U' => ∃ v L, o = .returned v ∧ own_Q23 Z  h0 n0 v U'.heap L ∧ FrameEnd U o U' L ({ frames := 1, cells := 0, slots := 0, locals := 40 } : Room).cells ({ frames := 1, cells := 0, slots := 0, locals := 40 } : Room).slots) := by
  refine MetFree.of_bodySF (plainFor_of_name own_pn4) hisR ?_
  intro p e s m args below meth c s₁ Bd hml0 hP hK
  obtain ⟨rfl, hZ, hh⟩ := hP
  have hx := Bd.exec
  have hby := Bd.bytes
  have hlk := Bd.notSynchronized
  have hml : c.maxLocals = 2 := hml0
  have hown : s.vm.findClass "java/lang/Double" = some m.cls := findClass_of_methodNamed Bd.named
  have hnm := (name_of_methodNamed Bd.named Bd.method).1
  have X0 : Stand p l e ({ frames := 1, cells := 0, slots := 0, locals := 40 } : Room) s m #[(.double (0 : UInt64))] below meth c s₁ [] 0 0 := Stand.of_body Bd
  have e0 : s₁.heap = h0 := by rw [← hh, Bd.state]; rfl
  have N0 := Fr.nil n0
  have KR : Keep h0 h0 [] := Keep.refl _ _
  show own_Fin p e below s ({ frames := 1, cells := 0, slots := 0, locals := 40 } : Room).cells ({ frames := 1, cells := 0, slots := 0, locals := 40 } : Room).slots (own_Q23 Z  h0 n0) (s₁.setTop (entryFrame m #[(.double (0 : UInt64))] 2))
  refine own_cast (own_ef23 m ) ?_
  refine own_step (fun _ k => XS.dloadN X0.here hx rfl (hb hby own_d23_0) rfl k) ?_
  obtain ⟨_, _, ⟨T1, L1, k1, n1⟩, -, X1, ⟨Lc1, hQ1, l1, y1, z1⟩, st1⟩ := Jvm.LawKit.callS X0 hx (y := own_y7) hown (mvT hZ (own_w hw 69 rfl)) (mvT hZ (own_w hw 70 rfl)) (mvT hZ (own_w hw 64 rfl)) (mvT hZ (own_w hw 71 rfl)) (by decide) (backOf (W := 0) (own_rm21 l Z a0 hw []  h0 n0 Z0 ) hZ (own_w hw 71 rfl) (own_w hw 64 rfl) (by decide) (by decide)) (g := (mkF m 1 #[.val (.double (0 : UInt64)), .second] [(.double (0 : UInt64))])) rfl (by rw [hml]; rfl) (argsL := [(.double (0 : UInt64))]) (rest := []) (lenOf own_pd5 rfl) rfl (by show 2 * 0 + _ ≤ _; exact Nat.le_of_eq rfl) (hb hby own_d23_1) (fun _ _ => ⟨rfl, e0, (by decide : 0 + 0 ≤ _), (by decide : 0 + 0 ≤ _)⟩)
  dsimp only [Pt.U, Pt.locs, Pt.cells, Pt.slots] at X1 l1 y1 z1 st1 hQ1
  subst l1 y1 z1
  obtain ⟨rfl, N1q, e1⟩ := hQ1
  have N1 := Fr.app N0 N1q
  refine own_step (fun _ k => st1 _ k) ?_
  show own_Fin p e below s _ _ _ (T1.setTop (mkF m 4 #[.val (.double (0 : UInt64)), .second] [(.int (0 : Int32))]))
  refine own_step (fun _ k => XS.ifNo X1.here hx rfl (hb hby own_d23_4) rfl ((if0 _ _).trans (teq (by decide : (0 : Int32) = (0 : Int32))).2) k) ?_
  refine own_step (fun _ k => XS.dloadN X1.here hx rfl (hb hby own_d23_7) rfl k) ?_
  obtain ⟨vm2, X2, st2⟩ := X1.doubleToRawLongBits hx hown (mvT hZ (own_w hw 72 rfl)) (mvT hZ (own_w hw 74 rfl)) (mvT hZ (own_w hw 73 rfl)) (mvT hZ (own_w hw 64 rfl)) (g := (mkF m 8 #[.val (.double (0 : UInt64)), .second] [(.double (0 : UInt64))])) rfl (by rw [hml]; rfl) rfl (hb hby own_d23_8) (by decide) (by show 2 * 0 + 0 + (nativeFrameWords "java/lang/Double" "doubleToRawLongBits" 2 + 11) ≤ _; decide)
  have e2 : (T1.setVm vm2).heap = h0 := e1
  refine own_step st2 ?_
  show own_Fin p e below s _ _ _ ((T1.setVm vm2).setTop (mkF m 11 #[.val (.double (0 : UInt64)), .second] [(.long (UInt64.toInt64 (0 : UInt64)))]))
  exact own_ret X2 hlk (v := some (.long (UInt64.toInt64 (0 : UInt64)))) (fun h => by rw [Bd.returns] at h; cases h) (by decide) (by decide) (by show own_Q23 Z  h0 n0 _ (T1.setVm vm2).heap _; rw [e2]; exact ⟨rfl, N1, rfl⟩) (fun fs hr => retOut X2 hx Bd.returns rfl (Or.inr (Or.inl ⟨rfl, rfl, _, rfl⟩)) (hb hby own_d23_11) hr)

theorem own_pd6 : parseMethodDescriptor "(D)J" = some ⟨[.double], some .long⟩ := by decide +kernel
abbrev own_y8 : MethodName := (⟨"java/lang/Double", "doubleToLongBits", "(D)J"⟩ : MethodName)
theorem own_d24_0 : decode jdk_117_method_27_code 0 = .ok (.dload_n 0, 1) := by decide +kernel
theorem own_d24_1 : decode jdk_117_method_27_code 1 = .ok (.dload_n 2, 1) := by decide +kernel
theorem own_d24_2 : decode jdk_117_method_27_code 2 = .ok (.dcmp .g, 1) := by decide +kernel
theorem own_d24_3 : decode jdk_117_method_27_code 3 = .ok (.ifCond .ge 5, 3) := by decide +kernel
theorem own_d24_8 : decode jdk_117_method_27_code 8 = .ok (.dload_n 0, 1) := by decide +kernel
theorem own_d24_9 : decode jdk_117_method_27_code 9 = .ok (.dload_n 2, 1) := by decide +kernel
theorem own_d24_10 : decode jdk_117_method_27_code 10 = .ok (.dcmp .l, 1) := by decide +kernel
theorem own_d24_11 : decode jdk_117_method_27_code 11 = .ok (.ifCond .le 5, 3) := by decide +kernel
theorem own_d24_16 : decode jdk_117_method_27_code 16 = .ok (.dload_n 0, 1) := by decide +kernel
theorem own_d24_17 : decode jdk_117_method_27_code 17 = .ok (.invokestatic 46, 3) := by decide +kernel
theorem own_d24_20 : decode jdk_117_method_27_code 20 = .ok (.lstore 4, 2) := by decide +kernel
theorem own_d24_22 : decode jdk_117_method_27_code 22 = .ok (.dload_n 2, 1) := by decide +kernel
theorem own_d24_23 : decode jdk_117_method_27_code 23 = .ok (.invokestatic 46, 3) := by decide +kernel
theorem own_d24_26 : decode jdk_117_method_27_code 26 = .ok (.lstore 6, 2) := by decide +kernel
theorem own_d24_28 : decode jdk_117_method_27_code 28 = .ok (.lload 4, 2) := by decide +kernel
theorem own_d24_30 : decode jdk_117_method_27_code 30 = .ok (.lload 6, 2) := by decide +kernel
theorem own_d24_32 : decode jdk_117_method_27_code 32 = .ok (.lcmp, 1) := by decide +kernel
theorem own_d24_33 : decode jdk_117_method_27_code 33 = .ok (.ifCond .ne 7, 3) := by decide +kernel
theorem own_d24_36 : decode jdk_117_method_27_code 36 = .ok (.iconst 0, 1) := by decide +kernel
theorem own_d24_37 : decode jdk_117_method_27_code 37 = .ok (.goto 16, 3) := by decide +kernel
theorem own_d24_53 : decode jdk_117_method_27_code 53 = .ok (.ireturn, 1) := by decide +kernel
theorem own_ef24 (m : MethodId)  : entryFrame m #[(.double FP.dconst0), (.double (0 : UInt64))] 8 = mkF m 0 #[.val (.double FP.dconst0), .second, .val (.double (0 : UInt64)), .second, .unset, .unset, .unset, .unset] [] := by first | (simp [entryFrame, mkF, argsToLocals, Value.category]; done) | rfl
def own_Q24 (Z : State)  (h0 : Heap) (n0 : Nat) (v : Option Value) (h : Heap) (L : List Loc) : Prop := v = some (.int (0 : Int32)) ∧ Fr n0 L ∧ h = h0
set_option maxRecDepth 65536 in
set_option maxHeartbeats 40000000 in
theorem own_rm24 (l : Launch) (Z : State) (a0 : Array Value) (hw : ∀ d ∈ tables_1, d.before a0 Z = true) (ws : List Jvm.Cond)  (h0 : Heap) (n0 : Nat) (Z0 : n0 ≤ h0.size) :
    MetFree l (⟨"java/lang/Double", "compare", "(DD)I"⟩ : MethodName) (head1 (Jvm.Cond.code (⟨"java/lang/Double", "compare", "(DD)I"⟩ : MethodName) jdk_117_method_27_code 8 (some .int) :: ws) ({ frames := 2, cells := 0, slots := 0, locals := 53 } : Room)) (fun a U => a = #[(.double FP.dconst0), (.double (0 : UInt64))] ∧ Z.Warmed39 U.vm ∧ U.heap = h0) (fun _ _ _ _ _ => True) (fun _ U o U' => ∃ v L, o = .returned v ∧ own_Q24 Z  h0 n0 v U'.heap L ∧ FrameEnd U o U' L ({ frames := 2, cells := 0, slots := 0, locals := 53 } : Room).cells ({ frames := 2, cells := 0, slots := 0, locals := 53 } : Room).slots) := by
  refine MetFree.of_bodySF (plainFor_of_name own_pn4) hisR ?_
  intro p e s m args below meth c s₁ Bd hml0 hP hK
  obtain ⟨rfl, hZ, hh⟩ := hP
  have hx := Bd.exec
  have hby := Bd.bytes
  have hlk := Bd.notSynchronized
  have hml : c.maxLocals = 8 := hml0
  have hown : s.vm.findClass "java/lang/Double" = some m.cls := findClass_of_methodNamed Bd.named
  have hnm := (name_of_methodNamed Bd.named Bd.method).1
  have X0 : Stand p l e ({ frames := 2, cells := 0, slots := 0, locals := 53 } : Room) s m #[(.double FP.dconst0), (.double (0 : UInt64))] below meth c s₁ [] 0 0 := Stand.of_body Bd
  have e0 : s₁.heap = h0 := by rw [← hh, Bd.state]; rfl
  have N0 := Fr.nil n0
  have KR : Keep h0 h0 [] := Keep.refl _ _
  show own_Fin p e below s ({ frames := 2, cells := 0, slots := 0, locals := 53 } : Room).cells ({ frames := 2, cells := 0, slots := 0, locals := 53 } : Room).slots (own_Q24 Z  h0 n0) (s₁.setTop (entryFrame m #[(.double FP.dconst0), (.double (0 : UInt64))] 8))
  refine own_cast (own_ef24 m ) ?_
  refine own_step (fun _ k => XS.dloadN X0.here hx rfl (hb hby own_d24_0) rfl k) ?_
  refine own_step (fun _ k => XS.dloadN X0.here hx rfl (hb hby own_d24_1) rfl k) ?_
  refine own_step (fun _ k => XS.dcmpS X0.here hx rfl (hb hby own_d24_2) rfl rfl k) ?_
  have hf1 : ¬ ((cmpValue (FP.dcmp FP.dconst0 (0 : UInt64)) .g) < (0 : Int32)) := by decide +kernel
  refine own_step (fun _ k => XS.ifYes X0.here hx rfl (pc0 := 3) (pc' := 8) rfl (hb hby own_d24_3) rfl ((if0 _ _).trans (flt hf1).2.1) (by decide) (by decide) k) ?_
  show own_Fin p e below s _ _ _ (s₁.setTop (mkF m 8 #[.val (.double FP.dconst0), .second, .val (.double (0 : UInt64)), .second, .unset, .unset, .unset, .unset] []))
  refine own_step (fun _ k => XS.dloadN X0.here hx rfl (hb hby own_d24_8) rfl k) ?_
  refine own_step (fun _ k => XS.dloadN X0.here hx rfl (hb hby own_d24_9) rfl k) ?_
  refine own_step (fun _ k => XS.dcmpS X0.here hx rfl (hb hby own_d24_10) rfl rfl k) ?_
  have hf2 : ¬ ((0 : Int32) < (cmpValue (FP.dcmp FP.dconst0 (0 : UInt64)) .l)) := by decide +kernel
  refine own_step (fun _ k => XS.ifYes X0.here hx rfl (pc0 := 11) (pc' := 16) rfl (hb hby own_d24_11) rfl ((if0 _ _).trans (flt hf2).2.2.2) (by decide) (by decide) k) ?_
  show own_Fin p e below s _ _ _ (s₁.setTop (mkF m 16 #[.val (.double FP.dconst0), .second, .val (.double (0 : UInt64)), .second, .unset, .unset, .unset, .unset] []))
  refine own_step (fun _ k => XS.dloadN X0.here hx rfl (hb hby own_d24_16) rfl k) ?_
  obtain ⟨_, _, ⟨T3, L3, k3, n3⟩, -, X3, ⟨Lc3, hQ3, l3, y3, z3⟩, st3⟩ := Jvm.LawKit.callS X0 hx (y := own_y8) hown (mvT hZ (own_w hw 66 rfl)) (mvT hZ (own_w hw 67 rfl)) (mvT hZ (own_w hw 64 rfl)) (mvT hZ (own_w hw 68 rfl)) (by decide) (backOf (W := 0) (own_rm22 l Z a0 hw []  h0 n0 Z0 ) hZ (own_w hw 68 rfl) (own_w hw 64 rfl) (by decide) (by decide)) (g := (mkF m 17 #[.val (.double FP.dconst0), .second, .val (.double (0 : UInt64)), .second, .unset, .unset, .unset, .unset] [(.double FP.dconst0)])) rfl (by rw [hml]; rfl) (argsL := [(.double FP.dconst0)]) (rest := []) (lenOf own_pd6 rfl) rfl (by show 2 * 0 + _ ≤ _; exact Nat.le_of_eq rfl) (hb hby own_d24_17) (fun _ _ => ⟨rfl, e0, (by decide : 0 + 0 ≤ _), (by decide : 0 + 0 ≤ _)⟩)
  dsimp only [Pt.U, Pt.locs, Pt.cells, Pt.slots] at X3 l3 y3 z3 st3 hQ3
  subst l3 y3 z3
  obtain ⟨rfl, N3q, e3⟩ := hQ3
  have N3 := Fr.app N0 N3q
  refine own_step (fun _ k => st3 _ k) ?_
  show own_Fin p e below s _ _ _ (T3.setTop (mkF m 20 #[.val (.double FP.dconst0), .second, .val (.double (0 : UInt64)), .second, .unset, .unset, .unset, .unset] [(.long (UInt64.toInt64 FP.dconst0))]))
  refine own_step (fun _ k => XS.lstore X3.here hx rfl (hb hby own_d24_20) rfl (l' := #[.val (.double FP.dconst0), .second, .val (.double (0 : UInt64)), .second, .val (.long (UInt64.toInt64 FP.dconst0)), .second, .unset, .unset]) rfl k) ?_
  refine own_step (fun _ k => XS.dloadN X3.here hx rfl (hb hby own_d24_22) rfl k) ?_
  obtain ⟨_, _, ⟨T4, L4, k4, n4⟩, -, X4, ⟨Lc4, hQ4, l4, y4, z4⟩, st4⟩ := Jvm.LawKit.callS X3 hx (y := own_y8) hown (mvT hZ (own_w hw 66 rfl)) (mvT hZ (own_w hw 67 rfl)) (mvT hZ (own_w hw 64 rfl)) (mvT hZ (own_w hw 68 rfl)) (by decide) (backOf (W := 0) (own_rm23 l Z a0 hw []  h0 n0 Z0 ) hZ (own_w hw 68 rfl) (own_w hw 64 rfl) (by decide) (by decide)) (g := (mkF m 23 #[.val (.double FP.dconst0), .second, .val (.double (0 : UInt64)), .second, .val (.long (UInt64.toInt64 FP.dconst0)), .second, .unset, .unset] [(.double (0 : UInt64))])) rfl (by rw [hml]; rfl) (argsL := [(.double (0 : UInt64))]) (rest := []) (lenOf own_pd6 rfl) rfl (by show 2 * 0 + _ ≤ _; exact Nat.le_of_eq rfl) (hb hby own_d24_23) (fun _ _ => ⟨rfl, e3, (by decide : 0 + 0 ≤ _), (by decide : 0 + 0 ≤ _)⟩)
  dsimp only [Pt.U, Pt.locs, Pt.cells, Pt.slots] at X4 l4 y4 z4 st4 hQ4
  subst l4 y4 z4
  obtain ⟨rfl, N4q, e4⟩ := hQ4
  have N4 := Fr.app N3 N4q
  refine own_step (fun _ k => st4 _ k) ?_
  show own_Fin p e below s _ _ _ (T4.setTop (mkF m 26 #[.val (.double FP.dconst0), .second, .val (.double (0 : UInt64)), .second, .val (.long (UInt64.toInt64 FP.dconst0)), .second, .unset, .unset] [(.long (UInt64.toInt64 (0 : UInt64)))]))
  refine own_step (fun _ k => XS.lstore X4.here hx rfl (hb hby own_d24_26) rfl (l' := #[.val (.double FP.dconst0), .second, .val (.double (0 : UInt64)), .second, .val (.long (UInt64.toInt64 FP.dconst0)), .second, .val (.long (UInt64.toInt64 (0 : UInt64))), .second]) rfl k) ?_
  refine own_step (fun _ k => XS.lload X4.here hx rfl (hb hby own_d24_28) rfl k) ?_
  refine own_step (fun _ k => XS.lload X4.here hx rfl (hb hby own_d24_30) rfl k) ?_
  refine own_step (fun _ k => XS.lcmp X4.here hx rfl (hb hby own_d24_32) rfl k) ?_
  show own_Fin p e below s _ _ _ (T4.setTop (mkF m 33 #[.val (.double FP.dconst0), .second, .val (.double (0 : UInt64)), .second, .val (.long (UInt64.toInt64 FP.dconst0)), .second, .val (.long (UInt64.toInt64 (0 : UInt64))), .second] [(.int (lcmpW (UInt64.toInt64 FP.dconst0) (UInt64.toInt64 (0 : UInt64))))]))
  have hf5 : (lcmpW (UInt64.toInt64 FP.dconst0) (UInt64.toInt64 (0 : UInt64))) = (0 : Int32) := by decide +kernel
  refine own_step (fun _ k => XS.ifNo X4.here hx rfl (hb hby own_d24_33) rfl ((if0 _ _).trans (teq hf5).2) k) ?_
  refine own_step (fun _ k => XS.iconst X4.here hx rfl (hb hby own_d24_36) k) ?_
  refine own_step (fun _ k => XS.goto X4.here hx rfl (pc0 := 37) (pc' := 53) rfl (hb hby own_d24_37) (by decide) (by decide) k) ?_
  exact own_ret X4 hlk (v := some (.int (0 : Int32))) (fun h => by rw [Bd.returns] at h; cases h) (by decide) (by decide) (by show own_Q24 Z  h0 n0 _ T4.heap _; rw [e4]; exact ⟨rfl, N4, rfl⟩) (fun fs hr => retOut X4 hx Bd.returns rfl (Or.inl ⟨rfl, Or.inl rfl, _, rfl⟩) (hb hby own_d24_53) hr)

theorem own_d25_0 : decode jdk_117_method_27_code 0 = .ok (.dload_n 0, 1) := by decide +kernel
theorem own_d25_1 : decode jdk_117_method_27_code 1 = .ok (.dload_n 2, 1) := by decide +kernel
theorem own_d25_2 : decode jdk_117_method_27_code 2 = .ok (.dcmp .g, 1) := by decide +kernel
theorem own_d25_3 : decode jdk_117_method_27_code 3 = .ok (.ifCond .ge 5, 3) := by decide +kernel
theorem own_d25_8 : decode jdk_117_method_27_code 8 = .ok (.dload_n 0, 1) := by decide +kernel
theorem own_d25_9 : decode jdk_117_method_27_code 9 = .ok (.dload_n 2, 1) := by decide +kernel
theorem own_d25_10 : decode jdk_117_method_27_code 10 = .ok (.dcmp .l, 1) := by decide +kernel
theorem own_d25_11 : decode jdk_117_method_27_code 11 = .ok (.ifCond .le 5, 3) := by decide +kernel
theorem own_d25_16 : decode jdk_117_method_27_code 16 = .ok (.dload_n 0, 1) := by decide +kernel
theorem own_d25_17 : decode jdk_117_method_27_code 17 = .ok (.invokestatic 46, 3) := by decide +kernel
theorem own_d25_20 : decode jdk_117_method_27_code 20 = .ok (.lstore 4, 2) := by decide +kernel
theorem own_d25_22 : decode jdk_117_method_27_code 22 = .ok (.dload_n 2, 1) := by decide +kernel
theorem own_d25_23 : decode jdk_117_method_27_code 23 = .ok (.invokestatic 46, 3) := by decide +kernel
theorem own_d25_26 : decode jdk_117_method_27_code 26 = .ok (.lstore 6, 2) := by decide +kernel
theorem own_d25_28 : decode jdk_117_method_27_code 28 = .ok (.lload 4, 2) := by decide +kernel
theorem own_d25_30 : decode jdk_117_method_27_code 30 = .ok (.lload 6, 2) := by decide +kernel
theorem own_d25_32 : decode jdk_117_method_27_code 32 = .ok (.lcmp, 1) := by decide +kernel
theorem own_d25_33 : decode jdk_117_method_27_code 33 = .ok (.ifCond .ne 7, 3) := by decide +kernel
theorem own_d25_36 : decode jdk_117_method_27_code 36 = .ok (.iconst 0, 1) := by decide +kernel
theorem own_d25_37 : decode jdk_117_method_27_code 37 = .ok (.goto 16, 3) := by decide +kernel
theorem own_d25_53 : decode jdk_117_method_27_code 53 = .ok (.ireturn, 1) := by decide +kernel
theorem own_ef25 (m : MethodId)  : entryFrame m #[(.double (0 : UInt64)), (.double FP.dconst0)] 8 = mkF m 0 #[.val (.double (0 : UInt64)), .second, .val (.double FP.dconst0), .second, .unset, .unset, .unset, .unset] [] := by first | (simp [entryFrame, mkF, argsToLocals, Value.category]; done) | rfl
def own_Q25 (Z : State)  (h0 : Heap) (n0 : Nat) (v : Option Value) (h : Heap) (L : List Loc) : Prop := v = some (.int (0 : Int32)) ∧ Fr n0 L ∧ h = h0
set_option maxRecDepth 65536 in
set_option maxHeartbeats 40000000 in
theorem own_rm25 (l : Launch) (Z : State) (a0 : Array Value) (hw : ∀ d ∈ tables_1, d.before a0 Z = true) (ws : List Jvm.Cond)  (h0 : Heap) (n0 : Nat) (Z0 : n0 ≤ h0.size) :
    MetFree l (⟨"java/lang/Double", "compare", "(DD)I"⟩ : MethodName) (head1 (Jvm.Cond.code (⟨"java/lang/Double", "compare", "(DD)I"⟩ : MethodName) jdk_117_method_27_code 8 (some .int) :: ws) ({ frames := 2, cells := 0, slots := 0, locals := 53 } : Room)) (fun a U => a = #[(.double (0 : UInt64)), (.double FP.dconst0)] ∧ Z.Warmed39 U.vm ∧ U.heap = h0) (fun _ _ _ _ _ => True) (fun _ U o U' => ∃ v L, o = .returned v ∧ own_Q25 Z  h0 n0 v U'.heap L ∧ FrameEnd U o U' L ({ frames := 2, cells := 0, slots := 0, locals := 53 } : Room).cells ({ frames := 2, cells := 0, slots := 0, locals := 53 } : Room).slots) := by
  refine MetFree.of_bodySF (plainFor_of_name own_pn4) hisR ?_
  intro p e s m args below meth c s₁ Bd hml0 hP hK
  obtain ⟨rfl, hZ, hh⟩ := hP
  have hx := Bd.exec
  have hby := Bd.bytes
  have hlk := Bd.notSynchronized
  have hml : c.maxLocals = 8 := hml0
  have hown : s.vm.findClass "java/lang/Double" = some m.cls := findClass_of_methodNamed Bd.named
  have hnm := (name_of_methodNamed Bd.named Bd.method).1
  have X0 : Stand p l e ({ frames := 2, cells := 0, slots := 0, locals := 53 } : Room) s m #[(.double (0 : UInt64)), (.double FP.dconst0)] below meth c s₁ [] 0 0 := Stand.of_body Bd
  have e0 : s₁.heap = h0 := by rw [← hh, Bd.state]; rfl
  have N0 := Fr.nil n0
  have KR : Keep h0 h0 [] := Keep.refl _ _
  show own_Fin p e below s ({ frames := 2, cells := 0, slots := 0, locals := 53 } : Room).cells ({ frames := 2, cells := 0, slots := 0, locals := 53 } : Room).slots (own_Q25 Z  h0 n0) (s₁.setTop (entryFrame m #[(.double (0 : UInt64)), (.double FP.dconst0)] 8))
  refine own_cast (own_ef25 m ) ?_
  refine own_step (fun _ k => XS.dloadN X0.here hx rfl (hb hby own_d25_0) rfl k) ?_
  refine own_step (fun _ k => XS.dloadN X0.here hx rfl (hb hby own_d25_1) rfl k) ?_
  refine own_step (fun _ k => XS.dcmpS X0.here hx rfl (hb hby own_d25_2) rfl rfl k) ?_
  have hf1 : ¬ ((cmpValue (FP.dcmp (0 : UInt64) FP.dconst0) .g) < (0 : Int32)) := by decide +kernel
  refine own_step (fun _ k => XS.ifYes X0.here hx rfl (pc0 := 3) (pc' := 8) rfl (hb hby own_d25_3) rfl ((if0 _ _).trans (flt hf1).2.1) (by decide) (by decide) k) ?_
  show own_Fin p e below s _ _ _ (s₁.setTop (mkF m 8 #[.val (.double (0 : UInt64)), .second, .val (.double FP.dconst0), .second, .unset, .unset, .unset, .unset] []))
  refine own_step (fun _ k => XS.dloadN X0.here hx rfl (hb hby own_d25_8) rfl k) ?_
  refine own_step (fun _ k => XS.dloadN X0.here hx rfl (hb hby own_d25_9) rfl k) ?_
  refine own_step (fun _ k => XS.dcmpS X0.here hx rfl (hb hby own_d25_10) rfl rfl k) ?_
  have hf2 : ¬ ((0 : Int32) < (cmpValue (FP.dcmp (0 : UInt64) FP.dconst0) .l)) := by decide +kernel
  refine own_step (fun _ k => XS.ifYes X0.here hx rfl (pc0 := 11) (pc' := 16) rfl (hb hby own_d25_11) rfl ((if0 _ _).trans (flt hf2).2.2.2) (by decide) (by decide) k) ?_
  show own_Fin p e below s _ _ _ (s₁.setTop (mkF m 16 #[.val (.double (0 : UInt64)), .second, .val (.double FP.dconst0), .second, .unset, .unset, .unset, .unset] []))
  refine own_step (fun _ k => XS.dloadN X0.here hx rfl (hb hby own_d25_16) rfl k) ?_
  obtain ⟨_, _, ⟨T3, L3, k3, n3⟩, -, X3, ⟨Lc3, hQ3, l3, y3, z3⟩, st3⟩ := Jvm.LawKit.callS X0 hx (y := own_y8) hown (mvT hZ (own_w hw 66 rfl)) (mvT hZ (own_w hw 67 rfl)) (mvT hZ (own_w hw 64 rfl)) (mvT hZ (own_w hw 68 rfl)) (by decide) (backOf (W := 0) (own_rm23 l Z a0 hw []  h0 n0 Z0 ) hZ (own_w hw 68 rfl) (own_w hw 64 rfl) (by decide) (by decide)) (g := (mkF m 17 #[.val (.double (0 : UInt64)), .second, .val (.double FP.dconst0), .second, .unset, .unset, .unset, .unset] [(.double (0 : UInt64))])) rfl (by rw [hml]; rfl) (argsL := [(.double (0 : UInt64))]) (rest := []) (lenOf own_pd6 rfl) rfl (by show 2 * 0 + _ ≤ _; exact Nat.le_of_eq rfl) (hb hby own_d25_17) (fun _ _ => ⟨rfl, e0, (by decide : 0 + 0 ≤ _), (by decide : 0 + 0 ≤ _)⟩)
  dsimp only [Pt.U, Pt.locs, Pt.cells, Pt.slots] at X3 l3 y3 z3 st3 hQ3
  subst l3 y3 z3
  obtain ⟨rfl, N3q, e3⟩ := hQ3
  have N3 := Fr.app N0 N3q
  refine own_step (fun _ k => st3 _ k) ?_
  show own_Fin p e below s _ _ _ (T3.setTop (mkF m 20 #[.val (.double (0 : UInt64)), .second, .val (.double FP.dconst0), .second, .unset, .unset, .unset, .unset] [(.long (UInt64.toInt64 (0 : UInt64)))]))
  refine own_step (fun _ k => XS.lstore X3.here hx rfl (hb hby own_d25_20) rfl (l' := #[.val (.double (0 : UInt64)), .second, .val (.double FP.dconst0), .second, .val (.long (UInt64.toInt64 (0 : UInt64))), .second, .unset, .unset]) rfl k) ?_
  refine own_step (fun _ k => XS.dloadN X3.here hx rfl (hb hby own_d25_22) rfl k) ?_
  obtain ⟨_, _, ⟨T4, L4, k4, n4⟩, -, X4, ⟨Lc4, hQ4, l4, y4, z4⟩, st4⟩ := Jvm.LawKit.callS X3 hx (y := own_y8) hown (mvT hZ (own_w hw 66 rfl)) (mvT hZ (own_w hw 67 rfl)) (mvT hZ (own_w hw 64 rfl)) (mvT hZ (own_w hw 68 rfl)) (by decide) (backOf (W := 0) (own_rm22 l Z a0 hw []  h0 n0 Z0 ) hZ (own_w hw 68 rfl) (own_w hw 64 rfl) (by decide) (by decide)) (g := (mkF m 23 #[.val (.double (0 : UInt64)), .second, .val (.double FP.dconst0), .second, .val (.long (UInt64.toInt64 (0 : UInt64))), .second, .unset, .unset] [(.double FP.dconst0)])) rfl (by rw [hml]; rfl) (argsL := [(.double FP.dconst0)]) (rest := []) (lenOf own_pd6 rfl) rfl (by show 2 * 0 + _ ≤ _; exact Nat.le_of_eq rfl) (hb hby own_d25_23) (fun _ _ => ⟨rfl, e3, (by decide : 0 + 0 ≤ _), (by decide : 0 + 0 ≤ _)⟩)
  dsimp only [Pt.U, Pt.locs, Pt.cells, Pt.slots] at X4 l4 y4 z4 st4 hQ4
  subst l4 y4 z4
  obtain ⟨rfl, N4q, e4⟩ := hQ4
  have N4 := Fr.app N3 N4q
  refine own_step (fun _ k => st4 _ k) ?_
  show own_Fin p e below s _ _ _ (T4.setTop (mkF m 26 #[.val (.double (0 : UInt64)), .second, .val (.double FP.dconst0), .second, .val (.long (UInt64.toInt64 (0 : UInt64))), .second, .unset, .unset] [(.long (UInt64.toInt64 FP.dconst0))]))
  refine own_step (fun _ k => XS.lstore X4.here hx rfl (hb hby own_d25_26) rfl (l' := #[.val (.double (0 : UInt64)), .second, .val (.double FP.dconst0), .second, .val (.long (UInt64.toInt64 (0 : UInt64))), .second, .val (.long (UInt64.toInt64 FP.dconst0)), .second]) rfl k) ?_
  refine own_step (fun _ k => XS.lload X4.here hx rfl (hb hby own_d25_28) rfl k) ?_
  refine own_step (fun _ k => XS.lload X4.here hx rfl (hb hby own_d25_30) rfl k) ?_
  refine own_step (fun _ k => XS.lcmp X4.here hx rfl (hb hby own_d25_32) rfl k) ?_
  show own_Fin p e below s _ _ _ (T4.setTop (mkF m 33 #[.val (.double (0 : UInt64)), .second, .val (.double FP.dconst0), .second, .val (.long (UInt64.toInt64 (0 : UInt64))), .second, .val (.long (UInt64.toInt64 FP.dconst0)), .second] [(.int (lcmpW (UInt64.toInt64 (0 : UInt64)) (UInt64.toInt64 FP.dconst0)))]))
  have hf5 : (lcmpW (UInt64.toInt64 (0 : UInt64)) (UInt64.toInt64 FP.dconst0)) = (0 : Int32) := by decide +kernel
  refine own_step (fun _ k => XS.ifNo X4.here hx rfl (hb hby own_d25_33) rfl ((if0 _ _).trans (teq hf5).2) k) ?_
  refine own_step (fun _ k => XS.iconst X4.here hx rfl (hb hby own_d25_36) k) ?_
  refine own_step (fun _ k => XS.goto X4.here hx rfl (pc0 := 37) (pc' := 53) rfl (hb hby own_d25_37) (by decide) (by decide) k) ?_
  exact own_ret X4 hlk (v := some (.int (0 : Int32))) (fun h => by rw [Bd.returns] at h; cases h) (by decide) (by decide) (by show own_Q25 Z  h0 n0 _ T4.heap _; rw [e4]; exact ⟨rfl, N4, rfl⟩) (fun fs hr => retOut X4 hx Bd.returns rfl (Or.inl ⟨rfl, Or.inl rfl, _, rfl⟩) (hb hby own_d25_53) hr)

theorem own_pd7 : parseMethodDescriptor "(DD)I" = some ⟨[.double, .double], some .int⟩ := by decide +kernel
abbrev own_y9 : MethodName := (⟨"java/lang/Double", "compare", "(DD)I"⟩ : MethodName)
theorem own_d26_0 : decode prog_42_method_12_code 0 = .ok (.aload_n 1, 1) := by decide +kernel
theorem own_d26_1 : decode prog_42_method_12_code 1 = .ok (.instanceof 8, 3) := by decide +kernel
theorem own_d26_4 : decode prog_42_method_12_code 4 = .ok (.ifCond .eq 33, 3) := by decide +kernel
theorem own_d26_7 : decode prog_42_method_12_code 7 = .ok (.aload_n 1, 1) := by decide +kernel
theorem own_d26_8 : decode prog_42_method_12_code 8 = .ok (.checkcast 8, 3) := by decide +kernel
theorem own_d26_11 : decode prog_42_method_12_code 11 = .ok (.astore_n 2, 1) := by decide +kernel
theorem own_d26_12 : decode prog_42_method_12_code 12 = .ok (.aload_n 2, 1) := by decide +kernel
theorem own_d26_13 : decode prog_42_method_12_code 13 = .ok (.getfield 20, 3) := by decide +kernel
theorem own_d26_16 : decode prog_42_method_12_code 16 = .ok (.aload_n 0, 1) := by decide +kernel
theorem own_d26_17 : decode prog_42_method_12_code 17 = .ok (.getfield 20, 3) := by decide +kernel
theorem own_d26_20 : decode prog_42_method_12_code 20 = .ok (.if_icmp .ne 17, 3) := by decide +kernel
theorem own_d26_23 : decode prog_42_method_12_code 23 = .ok (.aload_n 2, 1) := by decide +kernel
theorem own_d26_24 : decode prog_42_method_12_code 24 = .ok (.getfield 16, 3) := by decide +kernel
theorem own_d26_27 : decode prog_42_method_12_code 27 = .ok (.aload_n 0, 1) := by decide +kernel
theorem own_d26_28 : decode prog_42_method_12_code 28 = .ok (.getfield 16, 3) := by decide +kernel
theorem own_d26_31 : decode prog_42_method_12_code 31 = .ok (.invokestatic 67, 3) := by decide +kernel
theorem own_d26_34 : decode prog_42_method_12_code 34 = .ok (.ifCond .eq 5, 3) := by decide +kernel
theorem own_d26_39 : decode prog_42_method_12_code 39 = .ok (.iconst 0, 1) := by decide +kernel
theorem own_d26_40 : decode prog_42_method_12_code 40 = .ok (.istore_n 3, 1) := by decide +kernel
theorem own_d26_41 : decode prog_42_method_12_code 41 = .ok (.iload_n 3, 1) := by decide +kernel
theorem own_d26_42 : decode prog_42_method_12_code 42 = .ok (.aload_n 0, 1) := by decide +kernel
theorem own_d26_43 : decode prog_42_method_12_code 43 = .ok (.getfield 20, 3) := by decide +kernel
theorem own_d26_46 : decode prog_42_method_12_code 46 = .ok (.if_icmp .ge 47, 3) := by decide +kernel
theorem own_d26_93 : decode prog_42_method_12_code 93 = .ok (.iconst 1, 1) := by decide +kernel
theorem own_d26_94 : decode prog_42_method_12_code 94 = .ok (.ireturn, 1) := by decide +kernel
theorem own_ef26 (m : MethodId) (ad0 : Addr) (ad1 : Addr) : entryFrame m #[(.ref ad0), (.ref ad1)] 4 = mkF m 0 #[.val (.ref ad0), .val (.ref ad1), .unset, .unset] [] := by first | (simp [entryFrame, mkF, argsToLocals, Value.category]; done) | rfl
def own_Q26 (Z : State) (ad0 : Addr) (ad1 : Addr) (h0 : Heap) (n0 : Nat) (v : Option Value) (h : Heap) (L : List Loc) : Prop := v = some (.int (1 : Int32)) ∧ Fr n0 L ∧ h = h0
set_option maxRecDepth 65536 in
set_option maxHeartbeats 40000000 in
theorem own_rm26 (l : Launch) (Z : State) (a0 : Array Value) (hw : ∀ d ∈ tables_1, d.before a0 Z = true) (ws : List Jvm.Cond) (ad0 : Addr) (ad1 : Addr) (h0 : Heap) (n0 : Nat) (Z0 : n0 ≤ h0.size) (E_ad1 : Exa Z h0 ad1 "com/example/tandem/tandem/analysis/PseudoAffine") (F_pieces_ad1 : Fld Z h0 ad1 "com/example/tandem/tandem/analysis/PseudoAffine" "pieces" "I" (.int (0 : Int32))) (F_pieces_ad0 : Fld Z h0 ad0 "com/example/tandem/tandem/analysis/PseudoAffine" "pieces" "I" (.int (0 : Int32))) (F_offset_ad1 : Fld Z h0 ad1 "com/example/tandem/tandem/analysis/PseudoAffine" "offset" "D" (.double FP.dconst0)) (F_offset_ad0 : Fld Z h0 ad0 "com/example/tandem/tandem/analysis/PseudoAffine" "offset" "D" (.double (0 : UInt64))) :
    MetFree l (⟨"com/example/tandem/tandem/analysis/PseudoAffine", "equals", "(Ljava/lang/Object;)Z"⟩ : MethodName) (head1 (Jvm.Cond.code (⟨"com/example/tandem/tandem/analysis/PseudoAffine", "equals", "(Ljava/lang/Object;)Z"⟩ : MethodName) prog_42_method_12_code 4 (some .boolean) :: ws) ({ frames := 3, cells := 0, slots := 0, locals := 72 } : Room)) (fun a U => a = #[(.ref ad0), (.ref ad1)] ∧ Z.Warmed39 U.vm ∧ U.heap = h0) (fun _ _ _ _ _ => True) (fun _ U o U' => ∃ v L, o = .returned v ∧ own_Q26 Z ad0 ad1 h0 n0 v U'.heap L ∧ FrameEnd U o U' L ({ frames := 3, cells := 0, slots := 0, locals := 72 } : Room).cells ({ frames := 3, cells := 0, slots := 0, locals := 72 } : Room).slots) := by
  refine MetFree.of_bodySF (plainFor_of_name own_pn0) hisR ?_
  intro p e s m args below meth c s₁ Bd hml0 hP hK
  obtain ⟨rfl, hZ, hh⟩ := hP
  have hx := Bd.exec
  have hby := Bd.bytes
  have hlk := Bd.notSynchronized
  have hml : c.maxLocals = 4 := hml0
  have hown : s.vm.findClass "com/example/tandem/tandem/analysis/PseudoAffine" = some m.cls := findClass_of_methodNamed Bd.named
  have hnm := (name_of_methodNamed Bd.named Bd.method).1
  have X0 : Stand p l e ({ frames := 3, cells := 0, slots := 0, locals := 72 } : Room) s m #[(.ref ad0), (.ref ad1)] below meth c s₁ [] 0 0 := Stand.of_body Bd
  have e0 : s₁.heap = h0 := by rw [← hh, Bd.state]; rfl
  have N0 := Fr.nil n0
  have KR : Keep h0 h0 [] := Keep.refl _ _
  show own_Fin p e below s ({ frames := 3, cells := 0, slots := 0, locals := 72 } : Room).cells ({ frames := 3, cells := 0, slots := 0, locals := 72 } : Room).slots (own_Q26 Z ad0 ad1 h0 n0) (s₁.setTop (entryFrame m #[(.ref ad0), (.ref ad1)] 4))
  refine own_cast (own_ef26 m ad0 ad1) ?_
  refine own_step (fun _ k => XS.aloadN X0.here hx rfl (hb hby own_d26_0) rfl rfl k) ?_
  obtain ⟨T1, X1, e1, st1⟩ := instY X0 hx hZ hown (own_w hw 60 rfl) e0 (Ins.self E_ad1) (g := (mkF m 1 #[.val (.ref ad0), .val (.ref ad1), .unset, .unset] [(.ref ad1)])) rfl rfl (hb hby own_d26_1)
  refine own_step st1 ?_
  show own_Fin p e below s _ _ _ (T1.setTop (mkF m 4 #[.val (.ref ad0), .val (.ref ad1), .unset, .unset] [(.int (1 : Int32))]))
  refine own_step (fun _ k => XS.ifNo X1.here hx rfl (hb hby own_d26_4) rfl ((if0 _ _).trans (feq (by decide : ¬ ((1 : Int32) = (0 : Int32)))).1) k) ?_
  refine own_step (fun _ k => XS.aloadN X1.here hx rfl (hb hby own_d26_7) rfl rfl k) ?_
  obtain ⟨T2, X2, e2, st2⟩ := castY X1 hx hZ hown (own_w hw 60 rfl) e1 (Ins.self E_ad1) (g := (mkF m 8 #[.val (.ref ad0), .val (.ref ad1), .unset, .unset] [(.ref ad1)])) rfl rfl (hb hby own_d26_8)
  refine own_step st2 ?_
  show own_Fin p e below s _ _ _ (T2.setTop (mkF m 11 #[.val (.ref ad0), .val (.ref ad1), .unset, .unset] [(.ref ad1)]))
  refine own_step (fun _ k => XS.astoreN X2.here hx rfl (hb hby own_d26_11) rfl rfl (l' := #[.val (.ref ad0), .val (.ref ad1), .val (.ref ad1), .unset]) rfl k) ?_
  refine own_step (fun _ k => XS.aloadN X2.here hx rfl (hb hby own_d26_12) rfl rfl k) ?_
  obtain ⟨T3, X3, e3, st3⟩ := getF X2 hx hZ hown (host := "") (Or.inl (own_w hw 37 rfl)) Via.refl e2 F_pieces_ad1 (g := (mkF m 13 #[.val (.ref ad0), .val (.ref ad1), .val (.ref ad1), .unset] [(.ref ad1)])) rfl rfl (hb hby own_d26_13)
  refine own_step st3 ?_
  show own_Fin p e below s _ _ _ (T3.setTop (mkF m 16 #[.val (.ref ad0), .val (.ref ad1), .val (.ref ad1), .unset] [(.int (0 : Int32))]))
  refine own_step (fun _ k => XS.aloadN X3.here hx rfl (hb hby own_d26_16) rfl rfl k) ?_
  obtain ⟨T4, X4, e4, st4⟩ := getF X3 hx hZ hown (host := "") (Or.inl (own_w hw 37 rfl)) Via.refl e3 F_pieces_ad0 (g := (mkF m 17 #[.val (.ref ad0), .val (.ref ad1), .val (.ref ad1), .unset] [(.ref ad0), (.int (0 : Int32))])) rfl rfl (hb hby own_d26_17)
  refine own_step st4 ?_
  show own_Fin p e below s _ _ _ (T4.setTop (mkF m 20 #[.val (.ref ad0), .val (.ref ad1), .val (.ref ad1), .unset] [(.int (0 : Int32)), (.int (0 : Int32))]))
  refine own_step (fun _ k => XS.icmpNo X4.here hx rfl (hb hby own_d26_20) rfl (teq (by decide : (0 : Int32) = (0 : Int32))).2 k) ?_
  refine own_step (fun _ k => XS.aloadN X4.here hx rfl (hb hby own_d26_23) rfl rfl k) ?_
  obtain ⟨T5, X5, e5, st5⟩ := getF X4 hx hZ hown (host := "") (Or.inl (own_w hw 35 rfl)) Via.refl e4 F_offset_ad1 (g := (mkF m 24 #[.val (.ref ad0), .val (.ref ad1), .val (.ref ad1), .unset] [(.ref ad1)])) rfl rfl (hb hby own_d26_24)
  refine own_step st5 ?_
  show own_Fin p e below s _ _ _ (T5.setTop (mkF m 27 #[.val (.ref ad0), .val (.ref ad1), .val (.ref ad1), .unset] [(.double FP.dconst0)]))
  refine own_step (fun _ k => XS.aloadN X5.here hx rfl (hb hby own_d26_27) rfl rfl k) ?_
  obtain ⟨T6, X6, e6, st6⟩ := getF X5 hx hZ hown (host := "") (Or.inl (own_w hw 35 rfl)) Via.refl e5 F_offset_ad0 (g := (mkF m 28 #[.val (.ref ad0), .val (.ref ad1), .val (.ref ad1), .unset] [(.ref ad0), (.double FP.dconst0)])) rfl rfl (hb hby own_d26_28)
  refine own_step st6 ?_
  show own_Fin p e below s _ _ _ (T6.setTop (mkF m 31 #[.val (.ref ad0), .val (.ref ad1), .val (.ref ad1), .unset] [(.double (0 : UInt64)), (.double FP.dconst0)]))
  obtain ⟨_, _, ⟨T7, L7, k7, n7⟩, -, X7, ⟨Lc7, hQ7, l7, y7, z7⟩, st7⟩ := Jvm.LawKit.callS X6 hx (y := own_y9) hown (mvT hZ (own_w hw 62 rfl)) (mvT hZ (own_w hw 63 rfl)) (mvT hZ (own_w hw 64 rfl)) (mvT hZ (own_w hw 65 rfl)) (by decide) (backOf (W := 0) (own_rm24 l Z a0 hw []  h0 n0 Z0 ) hZ (own_w hw 65 rfl) (own_w hw 64 rfl) (by decide) (by decide)) (g := (mkF m 31 #[.val (.ref ad0), .val (.ref ad1), .val (.ref ad1), .unset] [(.double (0 : UInt64)), (.double FP.dconst0)])) rfl (by rw [hml]; rfl) (argsL := [(.double FP.dconst0), (.double (0 : UInt64))]) (rest := []) (lenOf own_pd7 rfl) rfl (by show 2 * 0 + _ ≤ _; exact Nat.le_of_eq rfl) (hb hby own_d26_31) (fun _ _ => ⟨rfl, e6, (by decide : 0 + 0 ≤ _), (by decide : 0 + 0 ≤ _)⟩)
  dsimp only [Pt.U, Pt.locs, Pt.cells, Pt.slots] at X7 l7 y7 z7 st7 hQ7
  subst l7 y7 z7
  obtain ⟨rfl, N7q, e7⟩ := hQ7
  have N7 := Fr.app N0 N7q
  refine own_step (fun _ k => st7 _ k) ?_
  show own_Fin p e below s _ _ _ (T7.setTop (mkF m 34 #[.val (.ref ad0), .val (.ref ad1), .val (.ref ad1), .unset] [(.int (0 : Int32))]))
  refine own_step (fun _ k => XS.ifYes X7.here hx rfl (pc0 := 34) (pc' := 39) rfl (hb hby own_d26_34) rfl ((if0 _ _).trans (teq (by decide : (0 : Int32) = (0 : Int32))).1) (by decide) (by decide) k) ?_
  refine own_step (fun _ k => XS.iconst X7.here hx rfl (hb hby own_d26_39) k) ?_
  refine own_step (fun _ k => XS.istoreN X7.here hx rfl (hb hby own_d26_40) rfl (l' := #[.val (.ref ad0), .val (.ref ad1), .val (.ref ad1), .val (.int (0 : Int32))]) rfl k) ?_
  refine own_step (fun _ k => XS.iloadN X7.here hx rfl (hb hby own_d26_41) rfl k) ?_
  show own_Fin p e below s _ _ _ (T7.setTop (mkF m 42 #[.val (.ref ad0), .val (.ref ad1), .val (.ref ad1), .val (.int (0 : Int32))] [(.int (0 : Int32))]))
  refine own_step (fun _ k => XS.aloadN X7.here hx rfl (hb hby own_d26_42) rfl rfl k) ?_
  obtain ⟨T8, X8, e8, st8⟩ := getF X7 hx hZ hown (host := "") (Or.inl (own_w hw 37 rfl)) Via.refl e7 F_pieces_ad0 (g := (mkF m 43 #[.val (.ref ad0), .val (.ref ad1), .val (.ref ad1), .val (.int (0 : Int32))] [(.ref ad0), (.int (0 : Int32))])) rfl rfl (hb hby own_d26_43)
  refine own_step st8 ?_
  show own_Fin p e below s _ _ _ (T8.setTop (mkF m 46 #[.val (.ref ad0), .val (.ref ad1), .val (.ref ad1), .val (.int (0 : Int32))] [(.int (0 : Int32)), (.int (0 : Int32))]))
  refine own_step (fun _ k => XS.icmpYes X8.here hx rfl (pc0 := 46) (pc' := 93) rfl (hb hby own_d26_46) rfl (flt (by decide : ¬ ((0 : Int32) < (0 : Int32)))).2.1 (by decide) (by decide) k) ?_
  refine own_step (fun _ k => XS.iconst X8.here hx rfl (hb hby own_d26_93) k) ?_
  exact own_ret X8 hlk (v := some (.int (1 : Int32))) (fun h => by rw [Bd.returns] at h; cases h) (by decide) (by decide) (by show own_Q26 Z ad0 ad1 h0 n0 _ T8.heap _; rw [e8]; exact ⟨rfl, N7, rfl⟩) (fun fs hr => retN X8 hx (t := .boolean) Bd.returns (by simp) (hb hby own_d26_94) hr)

theorem own_d27_0 : decode prog_42_method_12_code 0 = .ok (.aload_n 1, 1) := by decide +kernel
theorem own_d27_1 : decode prog_42_method_12_code 1 = .ok (.instanceof 8, 3) := by decide +kernel
theorem own_d27_4 : decode prog_42_method_12_code 4 = .ok (.ifCond .eq 33, 3) := by decide +kernel
theorem own_d27_7 : decode prog_42_method_12_code 7 = .ok (.aload_n 1, 1) := by decide +kernel
theorem own_d27_8 : decode prog_42_method_12_code 8 = .ok (.checkcast 8, 3) := by decide +kernel
theorem own_d27_11 : decode prog_42_method_12_code 11 = .ok (.astore_n 2, 1) := by decide +kernel
theorem own_d27_12 : decode prog_42_method_12_code 12 = .ok (.aload_n 2, 1) := by decide +kernel
theorem own_d27_13 : decode prog_42_method_12_code 13 = .ok (.getfield 20, 3) := by decide +kernel
theorem own_d27_16 : decode prog_42_method_12_code 16 = .ok (.aload_n 0, 1) := by decide +kernel
theorem own_d27_17 : decode prog_42_method_12_code 17 = .ok (.getfield 20, 3) := by decide +kernel
theorem own_d27_20 : decode prog_42_method_12_code 20 = .ok (.if_icmp .ne 17, 3) := by decide +kernel
theorem own_d27_23 : decode prog_42_method_12_code 23 = .ok (.aload_n 2, 1) := by decide +kernel
theorem own_d27_24 : decode prog_42_method_12_code 24 = .ok (.getfield 16, 3) := by decide +kernel
theorem own_d27_27 : decode prog_42_method_12_code 27 = .ok (.aload_n 0, 1) := by decide +kernel
theorem own_d27_28 : decode prog_42_method_12_code 28 = .ok (.getfield 16, 3) := by decide +kernel
theorem own_d27_31 : decode prog_42_method_12_code 31 = .ok (.invokestatic 67, 3) := by decide +kernel
theorem own_d27_34 : decode prog_42_method_12_code 34 = .ok (.ifCond .eq 5, 3) := by decide +kernel
theorem own_d27_39 : decode prog_42_method_12_code 39 = .ok (.iconst 0, 1) := by decide +kernel
theorem own_d27_40 : decode prog_42_method_12_code 40 = .ok (.istore_n 3, 1) := by decide +kernel
theorem own_d27_41 : decode prog_42_method_12_code 41 = .ok (.iload_n 3, 1) := by decide +kernel
theorem own_d27_42 : decode prog_42_method_12_code 42 = .ok (.aload_n 0, 1) := by decide +kernel
theorem own_d27_43 : decode prog_42_method_12_code 43 = .ok (.getfield 20, 3) := by decide +kernel
theorem own_d27_46 : decode prog_42_method_12_code 46 = .ok (.if_icmp .ge 47, 3) := by decide +kernel
theorem own_d27_93 : decode prog_42_method_12_code 93 = .ok (.iconst 1, 1) := by decide +kernel
theorem own_d27_94 : decode prog_42_method_12_code 94 = .ok (.ireturn, 1) := by decide +kernel
theorem own_ef27 (m : MethodId) (ad0 : Addr) (ad1 : Addr) : entryFrame m #[(.ref ad0), (.ref ad1)] 4 = mkF m 0 #[.val (.ref ad0), .val (.ref ad1), .unset, .unset] [] := by first | (simp [entryFrame, mkF, argsToLocals, Value.category]; done) | rfl
def own_Q27 (Z : State) (ad0 : Addr) (ad1 : Addr) (h0 : Heap) (n0 : Nat) (v : Option Value) (h : Heap) (L : List Loc) : Prop := v = some (.int (1 : Int32)) ∧ Fr n0 L ∧ h = h0
set_option maxRecDepth 65536 in
set_option maxHeartbeats 40000000 in
theorem own_rm27 (l : Launch) (Z : State) (a0 : Array Value) (hw : ∀ d ∈ tables_1, d.before a0 Z = true) (ws : List Jvm.Cond) (ad0 : Addr) (ad1 : Addr) (h0 : Heap) (n0 : Nat) (Z0 : n0 ≤ h0.size) (E_ad1 : Exa Z h0 ad1 "com/example/tandem/tandem/analysis/PseudoAffine") (F_pieces_ad1 : Fld Z h0 ad1 "com/example/tandem/tandem/analysis/PseudoAffine" "pieces" "I" (.int (0 : Int32))) (F_pieces_ad0 : Fld Z h0 ad0 "com/example/tandem/tandem/analysis/PseudoAffine" "pieces" "I" (.int (0 : Int32))) (F_offset_ad1 : Fld Z h0 ad1 "com/example/tandem/tandem/analysis/PseudoAffine" "offset" "D" (.double (0 : UInt64))) (F_offset_ad0 : Fld Z h0 ad0 "com/example/tandem/tandem/analysis/PseudoAffine" "offset" "D" (.double FP.dconst0)) :
    MetFree l (⟨"com/example/tandem/tandem/analysis/PseudoAffine", "equals", "(Ljava/lang/Object;)Z"⟩ : MethodName) (head1 (Jvm.Cond.code (⟨"com/example/tandem/tandem/analysis/PseudoAffine", "equals", "(Ljava/lang/Object;)Z"⟩ : MethodName) prog_42_method_12_code 4 (some .boolean) :: ws) ({ frames := 3, cells := 0, slots := 0, locals := 72 } : Room)) (fun a U => a = #[(.ref ad0), (.ref ad1)] ∧ Z.Warmed39 U.vm ∧ U.heap = h0) (fun _ _ _ _ _ => True) (fun _ U o U' => ∃ v L, o = .returned v ∧ own_Q27 Z ad0 ad1 h0 n0 v U'.heap L ∧ FrameEnd U o U' L ({ frames := 3, cells := 0, slots := 0, locals := 72 } : Room).cells ({ frames := 3, cells := 0, slots := 0, locals := 72 } : Room).slots) := by
  refine MetFree.of_bodySF (plainFor_of_name own_pn0) hisR ?_
  intro p e s m args below meth c s₁ Bd hml0 hP hK
  obtain ⟨rfl, hZ, hh⟩ := hP
  have hx := Bd.exec
  have hby := Bd.bytes
  have hlk := Bd.notSynchronized
  have hml : c.maxLocals = 4 := hml0
  have hown : s.vm.findClass "com/example/tandem/tandem/analysis/PseudoAffine" = some m.cls := findClass_of_methodNamed Bd.named
  have hnm := (name_of_methodNamed Bd.named Bd.method).1
  have X0 : Stand p l e ({ frames := 3, cells := 0, slots := 0, locals := 72 } : Room) s m #[(.ref ad0), (.ref ad1)] below meth c s₁ [] 0 0 := Stand.of_body Bd
  have e0 : s₁.heap = h0 := by rw [← hh, Bd.state]; rfl
  have N0 := Fr.nil n0
  have KR : Keep h0 h0 [] := Keep.refl _ _
  show own_Fin p e below s ({ frames := 3, cells := 0, slots := 0, locals := 72 } : Room).cells ({ frames := 3, cells := 0, slots := 0, locals := 72 } : Room).slots (own_Q27 Z ad0 ad1 h0 n0) (s₁.setTop (entryFrame m #[(.ref ad0), (.ref ad1)] 4))
  refine own_cast (own_ef27 m ad0 ad1) ?_
  refine own_step (fun _ k => XS.aloadN X0.here hx rfl (hb hby own_d27_0) rfl rfl k) ?_
  obtain ⟨T1, X1, e1, st1⟩ := instY X0 hx hZ hown (own_w hw 60 rfl) e0 (Ins.self E_ad1) (g := (mkF m 1 #[.val (.ref ad0), .val (.ref ad1), .unset, .unset] [(.ref ad1)])) rfl rfl (hb hby own_d27_1)
  refine own_step st1 ?_
  show own_Fin p e below s _ _ _ (T1.setTop (mkF m 4 #[.val (.ref ad0), .val (.ref ad1), .unset, .unset] [(.int (1 : Int32))]))
  refine own_step (fun _ k => XS.ifNo X1.here hx rfl (hb hby own_d27_4) rfl ((if0 _ _).trans (feq (by decide : ¬ ((1 : Int32) = (0 : Int32)))).1) k) ?_
  refine own_step (fun _ k => XS.aloadN X1.here hx rfl (hb hby own_d27_7) rfl rfl k) ?_
  obtain ⟨T2, X2, e2, st2⟩ := castY X1 hx hZ hown (own_w hw 60 rfl) e1 (Ins.self E_ad1) (g := (mkF m 8 #[.val (.ref ad0), .val (.ref ad1), .unset, .unset] [(.ref ad1)])) rfl rfl (hb hby own_d27_8)
  refine own_step st2 ?_
  show own_Fin p e below s _ _ _ (T2.setTop (mkF m 11 #[.val (.ref ad0), .val (.ref ad1), .unset, .unset] [(.ref ad1)]))
  refine own_step (fun _ k => XS.astoreN X2.here hx rfl (hb hby own_d27_11) rfl rfl (l' := #[.val (.ref ad0), .val (.ref ad1), .val (.ref ad1), .unset]) rfl k) ?_
  refine own_step (fun _ k => XS.aloadN X2.here hx rfl (hb hby own_d27_12) rfl rfl k) ?_
  obtain ⟨T3, X3, e3, st3⟩ := getF X2 hx hZ hown (host := "") (Or.inl (own_w hw 37 rfl)) Via.refl e2 F_pieces_ad1 (g := (mkF m 13 #[.val (.ref ad0), .val (.ref ad1), .val (.ref ad1), .unset] [(.ref ad1)])) rfl rfl (hb hby own_d27_13)
  refine own_step st3 ?_
  show own_Fin p e below s _ _ _ (T3.setTop (mkF m 16 #[.val (.ref ad0), .val (.ref ad1), .val (.ref ad1), .unset] [(.int (0 : Int32))]))
  refine own_step (fun _ k => XS.aloadN X3.here hx rfl (hb hby own_d27_16) rfl rfl k) ?_
  obtain ⟨T4, X4, e4, st4⟩ := getF X3 hx hZ hown (host := "") (Or.inl (own_w hw 37 rfl)) Via.refl e3 F_pieces_ad0 (g := (mkF m 17 #[.val (.ref ad0), .val (.ref ad1), .val (.ref ad1), .unset] [(.ref ad0), (.int (0 : Int32))])) rfl rfl (hb hby own_d27_17)
  refine own_step st4 ?_
  show own_Fin p e below s _ _ _ (T4.setTop (mkF m 20 #[.val (.ref ad0), .val (.ref ad1), .val (.ref ad1), .unset] [(.int (0 : Int32)), (.int (0 : Int32))]))
  refine own_step (fun _ k => XS.icmpNo X4.here hx rfl (hb hby own_d27_20) rfl (teq (by decide : (0 : Int32) = (0 : Int32))).2 k) ?_
  refine own_step (fun _ k => XS.aloadN X4.here hx rfl (hb hby own_d27_23) rfl rfl k) ?_
  obtain ⟨T5, X5, e5, st5⟩ := getF X4 hx hZ hown (host := "") (Or.inl (own_w hw 35 rfl)) Via.refl e4 F_offset_ad1 (g := (mkF m 24 #[.val (.ref ad0), .val (.ref ad1), .val (.ref ad1), .unset] [(.ref ad1)])) rfl rfl (hb hby own_d27_24)
  refine own_step st5 ?_
  show own_Fin p e below s _ _ _ (T5.setTop (mkF m 27 #[.val (.ref ad0), .val (.ref ad1), .val (.ref ad1), .unset] [(.double (0 : UInt64))]))
  refine own_step (fun _ k => XS.aloadN X5.here hx rfl (hb hby own_d27_27) rfl rfl k) ?_
  obtain ⟨T6, X6, e6, st6⟩ := getF X5 hx hZ hown (host := "") (Or.inl (own_w hw 35 rfl)) Via.refl e5 F_offset_ad0 (g := (mkF m 28 #[.val (.ref ad0), .val (.ref ad1), .val (.ref ad1), .unset] [(.ref ad0), (.double (0 : UInt64))])) rfl rfl (hb hby own_d27_28)
  refine own_step st6 ?_
  show own_Fin p e below s _ _ _ (T6.setTop (mkF m 31 #[.val (.ref ad0), .val (.ref ad1), .val (.ref ad1), .unset] [(.double FP.dconst0), (.double (0 : UInt64))]))
  obtain ⟨_, _, ⟨T7, L7, k7, n7⟩, -, X7, ⟨Lc7, hQ7, l7, y7, z7⟩, st7⟩ := Jvm.LawKit.callS X6 hx (y := own_y9) hown (mvT hZ (own_w hw 62 rfl)) (mvT hZ (own_w hw 63 rfl)) (mvT hZ (own_w hw 64 rfl)) (mvT hZ (own_w hw 65 rfl)) (by decide) (backOf (W := 0) (own_rm25 l Z a0 hw []  h0 n0 Z0 ) hZ (own_w hw 65 rfl) (own_w hw 64 rfl) (by decide) (by decide)) (g := (mkF m 31 #[.val (.ref ad0), .val (.ref ad1), .val (.ref ad1), .unset] [(.double FP.dconst0), (.double (0 : UInt64))])) rfl (by rw [hml]; rfl) (argsL := [(.double (0 : UInt64)), (.double FP.dconst0)]) (rest := []) (lenOf own_pd7 rfl) rfl (by show 2 * 0 + _ ≤ _; exact Nat.le_of_eq rfl) (hb hby own_d27_31) (fun _ _ => ⟨rfl, e6, (by decide : 0 + 0 ≤ _), (by decide : 0 + 0 ≤ _)⟩)
  dsimp only [Pt.U, Pt.locs, Pt.cells, Pt.slots] at X7 l7 y7 z7 st7 hQ7
  subst l7 y7 z7
  obtain ⟨rfl, N7q, e7⟩ := hQ7
  have N7 := Fr.app N0 N7q
  refine own_step (fun _ k => st7 _ k) ?_
  show own_Fin p e below s _ _ _ (T7.setTop (mkF m 34 #[.val (.ref ad0), .val (.ref ad1), .val (.ref ad1), .unset] [(.int (0 : Int32))]))
  refine own_step (fun _ k => XS.ifYes X7.here hx rfl (pc0 := 34) (pc' := 39) rfl (hb hby own_d27_34) rfl ((if0 _ _).trans (teq (by decide : (0 : Int32) = (0 : Int32))).1) (by decide) (by decide) k) ?_
  refine own_step (fun _ k => XS.iconst X7.here hx rfl (hb hby own_d27_39) k) ?_
  refine own_step (fun _ k => XS.istoreN X7.here hx rfl (hb hby own_d27_40) rfl (l' := #[.val (.ref ad0), .val (.ref ad1), .val (.ref ad1), .val (.int (0 : Int32))]) rfl k) ?_
  refine own_step (fun _ k => XS.iloadN X7.here hx rfl (hb hby own_d27_41) rfl k) ?_
  show own_Fin p e below s _ _ _ (T7.setTop (mkF m 42 #[.val (.ref ad0), .val (.ref ad1), .val (.ref ad1), .val (.int (0 : Int32))] [(.int (0 : Int32))]))
  refine own_step (fun _ k => XS.aloadN X7.here hx rfl (hb hby own_d27_42) rfl rfl k) ?_
  obtain ⟨T8, X8, e8, st8⟩ := getF X7 hx hZ hown (host := "") (Or.inl (own_w hw 37 rfl)) Via.refl e7 F_pieces_ad0 (g := (mkF m 43 #[.val (.ref ad0), .val (.ref ad1), .val (.ref ad1), .val (.int (0 : Int32))] [(.ref ad0), (.int (0 : Int32))])) rfl rfl (hb hby own_d27_43)
  refine own_step st8 ?_
  show own_Fin p e below s _ _ _ (T8.setTop (mkF m 46 #[.val (.ref ad0), .val (.ref ad1), .val (.ref ad1), .val (.int (0 : Int32))] [(.int (0 : Int32)), (.int (0 : Int32))]))
  refine own_step (fun _ k => XS.icmpYes X8.here hx rfl (pc0 := 46) (pc' := 93) rfl (hb hby own_d27_46) rfl (flt (by decide : ¬ ((0 : Int32) < (0 : Int32)))).2.1 (by decide) (by decide) k) ?_
  refine own_step (fun _ k => XS.iconst X8.here hx rfl (hb hby own_d27_93) k) ?_
  exact own_ret X8 hlk (v := some (.int (1 : Int32))) (fun h => by rw [Bd.returns] at h; cases h) (by decide) (by decide) (by show own_Q27 Z ad0 ad1 h0 n0 _ T8.heap _; rw [e8]; exact ⟨rfl, N7, rfl⟩) (fun fs hr => retN X8 hx (t := .boolean) Bd.returns (by simp) (hb hby own_d27_94) hr)

theorem own_d28_0 : decode prog_42_method_10_code 0 = .ok (.aload_n 1, 1) := by decide +kernel
theorem own_d28_1 : decode prog_42_method_10_code 1 = .ok (.invokevirtual 48, 3) := by decide +kernel
theorem own_d28_4 : decode prog_42_method_10_code 4 = .ok (.dstore_n 2, 1) := by decide +kernel
theorem own_d28_5 : decode prog_42_method_10_code 5 = .ok (.aload_n 1, 1) := by decide +kernel
theorem own_d28_6 : decode prog_42_method_10_code 6 = .ok (.invokevirtual 43, 3) := by decide +kernel
theorem own_d28_9 : decode prog_42_method_10_code 9 = .ok (.dstore 4, 2) := by decide +kernel
theorem own_d28_11 : decode prog_42_method_10_code 11 = .ok (.dconst 0, 1) := by decide +kernel
theorem own_d28_12 : decode prog_42_method_10_code 12 = .ok (.dstore 6, 2) := by decide +kernel
theorem own_d28_14 : decode prog_42_method_10_code 14 = .ok (.iconst 0, 1) := by decide +kernel
theorem own_d28_15 : decode prog_42_method_10_code 15 = .ok (.istore 8, 2) := by decide +kernel
theorem own_d28_17 : decode prog_42_method_10_code 17 = .ok (.iload 8, 2) := by decide +kernel
theorem own_d28_19 : decode prog_42_method_10_code 19 = .ok (.aload_n 0, 1) := by decide +kernel
theorem own_d28_20 : decode prog_42_method_10_code 20 = .ok (.getfield 20, 3) := by decide +kernel
theorem own_d28_23 : decode prog_42_method_10_code 23 = .ok (.if_icmp .ge 62, 3) := by decide +kernel
theorem own_d28_85 : decode prog_42_method_10_code 85 = .ok (.dload 6, 2) := by decide +kernel
theorem own_d28_87 : decode prog_42_method_10_code 87 = .ok (.dreturn, 1) := by decide +kernel
theorem own_ef28 (m : MethodId) (ad0 : Addr) (ad1 : Addr) : entryFrame m #[(.ref ad0), (.ref ad1)] 9 = mkF m 0 #[.val (.ref ad0), .val (.ref ad1), .unset, .unset, .unset, .unset, .unset, .unset, .unset] [] := by first | (simp [entryFrame, mkF, argsToLocals, Value.category]; done) | rfl
def own_Q28 (Z : State) (ad0 : Addr) (ad1 : Addr) (wrate_ad1 : UInt64) (wburst_ad1 : UInt64) (h0 : Heap) (n0 : Nat) (v : Option Value) (h : Heap) (L : List Loc) : Prop := v = some (.double FP.dconst0) ∧ Fr n0 L ∧ h = h0
set_option maxRecDepth 65536 in
set_option maxHeartbeats 40000000 in
theorem own_rm28 (l : Launch) (Z : State) (a0 : Array Value) (hw : ∀ d ∈ tables_1, d.before a0 Z = true) (ws : List Jvm.Cond) (ad0 : Addr) (ad1 : Addr) (wrate_ad1 : UInt64) (wburst_ad1 : UInt64) (h0 : Heap) (n0 : Nat) (Z0 : n0 ≤ h0.size) (E_ad1 : Exa Z h0 ad1 "com/example/tandem/tandem/model/TokenBucket") (F_rate_ad1 : Fld Z h0 ad1 "com/example/tandem/tandem/model/TokenBucket" "rate" "D" (.double wrate_ad1)) (F_burst_ad1 : Fld Z h0 ad1 "com/example/tandem/tandem/model/TokenBucket" "burst" "D" (.double wburst_ad1)) (F_pieces_ad0 : Fld Z h0 ad0 "com/example/tandem/tandem/analysis/PseudoAffine" "pieces" "I" (.int (0 : Int32))) :
    MetFree l (⟨"com/example/tandem/tandem/analysis/PseudoAffine", "wait", "(Lcom/example/tandem/tandem/model/TokenBucket;)D"⟩ : MethodName) (head1 (Jvm.Cond.code (⟨"com/example/tandem/tandem/analysis/PseudoAffine", "wait", "(Lcom/example/tandem/tandem/model/TokenBucket;)D"⟩ : MethodName) prog_42_method_10_code 9 (some .double) :: ws) ({ frames := 1, cells := 0, slots := 0, locals := 12 } : Room)) (fun a U => a = #[(.ref ad0), (.ref ad1)] ∧ Z.Warmed39 U.vm ∧ U.heap = h0) (fun _ _ _ _ _ => True) (fun _ U o U' => ∃ v L, o = .returned v ∧ own_Q28 Z ad0 ad1 wrate_ad1 wburst_ad1 h0 n0 v U'.heap L ∧ FrameEnd U o U' L ({ frames := 1, cells := 0, slots := 0, locals := 12 } : Room).cells ({ frames := 1, cells := 0, slots := 0, locals := 12 } : Room).slots) := by
  refine MetFree.of_bodySF (plainFor_of_name own_pn0) hisR ?_
  intro p e s m args below meth c s₁ Bd hml0 hP hK
  obtain ⟨rfl, hZ, hh⟩ := hP
  have hx := Bd.exec
  have hby := Bd.bytes
  have hlk := Bd.notSynchronized
  have hml : c.maxLocals = 9 := hml0
  have hown : s.vm.findClass "com/example/tandem/tandem/analysis/PseudoAffine" = some m.cls := findClass_of_methodNamed Bd.named
  have hnm := (name_of_methodNamed Bd.named Bd.method).1
  have X0 : Stand p l e ({ frames := 1, cells := 0, slots := 0, locals := 12 } : Room) s m #[(.ref ad0), (.ref ad1)] below meth c s₁ [] 0 0 := Stand.of_body Bd
  have e0 : s₁.heap = h0 := by rw [← hh, Bd.state]; rfl
  have N0 := Fr.nil n0
  have KR : Keep h0 h0 [] := Keep.refl _ _
  show own_Fin p e below s ({ frames := 1, cells := 0, slots := 0, locals := 12 } : Room).cells ({ frames := 1, cells := 0, slots := 0, locals := 12 } : Room).slots (own_Q28 Z ad0 ad1 wrate_ad1 wburst_ad1 h0 n0) (s₁.setTop (entryFrame m #[(.ref ad0), (.ref ad1)] 9))
  refine own_cast (own_ef28 m ad0 ad1) ?_
  refine own_step (fun _ k => XS.aloadN X0.here hx rfl (hb hby own_d28_0) rfl rfl k) ?_
  obtain ⟨cq1, kq1, q1a, q1b, q1c⟩ := isOf hZ e0 E_ad1
  obtain ⟨_, _, ⟨T1, L1, k1, n1⟩, -, X1, ⟨Lc1, hQ1, l1, y1, z1⟩, st1⟩ := X0.virtualBack hx (y := own_y4) (z := own_y4) hown (mvT hZ (own_w hw 80 rfl)) (mvT hZ (own_w hw 81 rfl)) (notFace_of_selects (args := #[]) (mvT hZ (own_w hw 83 rfl))) (mvT hZ (own_w hw 83 rfl)) (mvT hZ (own_w hw 82 rfl)) (by decide) (backOf (W := 0) (own_rm9 l Z a0 hw [] ad1 wrate_ad1 h0 n0 Z0 F_rate_ad1) hZ (own_w hw 84 rfl) (own_w hw 41 rfl) (by decide) (by decide)) q1a q1c (g := (mkF m 1 #[.val (.ref ad0), .val (.ref ad1), .unset, .unset, .unset, .unset, .unset, .unset, .unset] [(.ref ad1)])) rfl (by rw [hml]; rfl) (Steps.refl _) (argsL := []) (rest := []) (lenOf own_pd1 rfl) rfl (by show 2 * 0 + _ ≤ _; exact Nat.le_of_eq rfl) (hb hby own_d28_1) (fun _ _ => ⟨rfl, e0, (by decide : 0 + 0 ≤ _), (by decide : 0 + 0 ≤ _)⟩)
  dsimp only [Pt.U, Pt.locs, Pt.cells, Pt.slots] at X1 l1 y1 z1 st1 hQ1
  subst l1 y1 z1
  obtain ⟨rfl, N1q, e1⟩ := hQ1
  have N1 := Fr.app N0 N1q
  refine own_step (fun _ k => st1.trans k) ?_
  show own_Fin p e below s _ _ _ (T1.setTop (mkF m 4 #[.val (.ref ad0), .val (.ref ad1), .unset, .unset, .unset, .unset, .unset, .unset, .unset] [(.double wrate_ad1)]))
  refine own_step (fun _ k => XS.dstoreN X1.here hx rfl (hb hby own_d28_4) rfl (l' := #[.val (.ref ad0), .val (.ref ad1), .val (.double wrate_ad1), .second, .unset, .unset, .unset, .unset, .unset]) rfl k) ?_
  refine own_step (fun _ k => XS.aloadN X1.here hx rfl (hb hby own_d28_5) rfl rfl k) ?_
  obtain ⟨cq2, kq2, q2a, q2b, q2c⟩ := isOf hZ e1 E_ad1
  obtain ⟨_, _, ⟨T2, L2, k2, n2⟩, -, X2, ⟨Lc2, hQ2, l2, y2, z2⟩, st2⟩ := X1.virtualBack hx (y := own_y3) (z := own_y3) hown (mvT hZ (own_w hw 85 rfl)) (mvT hZ (own_w hw 86 rfl)) (notFace_of_selects (args := #[]) (mvT hZ (own_w hw 88 rfl))) (mvT hZ (own_w hw 88 rfl)) (mvT hZ (own_w hw 87 rfl)) (by decide) (backOf (W := 0) (own_rm10 l Z a0 hw [] ad1 wburst_ad1 h0 n0 Z0 F_burst_ad1) hZ (own_w hw 89 rfl) (own_w hw 41 rfl) (by decide) (by decide)) q2a q2c (g := (mkF m 6 #[.val (.ref ad0), .val (.ref ad1), .val (.double wrate_ad1), .second, .unset, .unset, .unset, .unset, .unset] [(.ref ad1)])) rfl (by rw [hml]; rfl) (Steps.refl _) (argsL := []) (rest := []) (lenOf own_pd1 rfl) rfl (by show 2 * 0 + _ ≤ _; exact Nat.le_of_eq rfl) (hb hby own_d28_6) (fun _ _ => ⟨rfl, e1, (by decide : 0 + 0 ≤ _), (by decide : 0 + 0 ≤ _)⟩)
  dsimp only [Pt.U, Pt.locs, Pt.cells, Pt.slots] at X2 l2 y2 z2 st2 hQ2
  subst l2 y2 z2
  obtain ⟨rfl, N2q, e2⟩ := hQ2
  have N2 := Fr.app N1 N2q
  refine own_step (fun _ k => st2.trans k) ?_
  show own_Fin p e below s _ _ _ (T2.setTop (mkF m 9 #[.val (.ref ad0), .val (.ref ad1), .val (.double wrate_ad1), .second, .unset, .unset, .unset, .unset, .unset] [(.double wburst_ad1)]))
  refine own_step (fun _ k => XS.dstore X2.here hx rfl (hb hby own_d28_9) rfl (l' := #[.val (.ref ad0), .val (.ref ad1), .val (.double wrate_ad1), .second, .val (.double wburst_ad1), .second, .unset, .unset, .unset]) rfl k) ?_
  refine own_step (fun _ k => XS.dconst0 X2.here hx rfl (hb hby own_d28_11) rfl k) ?_
  refine own_step (fun _ k => XS.dstore X2.here hx rfl (hb hby own_d28_12) rfl (l' := #[.val (.ref ad0), .val (.ref ad1), .val (.double wrate_ad1), .second, .val (.double wburst_ad1), .second, .val (.double FP.dconst0), .second, .unset]) rfl k) ?_
  refine own_step (fun _ k => XS.iconst X2.here hx rfl (hb hby own_d28_14) k) ?_
  show own_Fin p e below s _ _ _ (T2.setTop (mkF m 15 #[.val (.ref ad0), .val (.ref ad1), .val (.double wrate_ad1), .second, .val (.double wburst_ad1), .second, .val (.double FP.dconst0), .second, .unset] [(.int (0 : Int32))]))
  refine own_step (fun _ k => XS.istore X2.here hx rfl (hb hby own_d28_15) rfl (l' := #[.val (.ref ad0), .val (.ref ad1), .val (.double wrate_ad1), .second, .val (.double wburst_ad1), .second, .val (.double FP.dconst0), .second, .val (.int (0 : Int32))]) rfl k) ?_
  refine own_step (fun _ k => XS.iload X2.here hx rfl (hb hby own_d28_17) rfl k) ?_
  refine own_step (fun _ k => XS.aloadN X2.here hx rfl (hb hby own_d28_19) rfl rfl k) ?_
  obtain ⟨T3, X3, e3, st3⟩ := getF X2 hx hZ hown (host := "") (Or.inl (own_w hw 37 rfl)) Via.refl e2 F_pieces_ad0 (g := (mkF m 20 #[.val (.ref ad0), .val (.ref ad1), .val (.double wrate_ad1), .second, .val (.double wburst_ad1), .second, .val (.double FP.dconst0), .second, .val (.int (0 : Int32))] [(.ref ad0), (.int (0 : Int32))])) rfl rfl (hb hby own_d28_20)
  refine own_step st3 ?_
  show own_Fin p e below s _ _ _ (T3.setTop (mkF m 23 #[.val (.ref ad0), .val (.ref ad1), .val (.double wrate_ad1), .second, .val (.double wburst_ad1), .second, .val (.double FP.dconst0), .second, .val (.int (0 : Int32))] [(.int (0 : Int32)), (.int (0 : Int32))]))
  refine own_step (fun _ k => XS.icmpYes X3.here hx rfl (pc0 := 23) (pc' := 85) rfl (hb hby own_d28_23) rfl (flt (by decide : ¬ ((0 : Int32) < (0 : Int32)))).2.1 (by decide) (by decide) k) ?_
  refine own_step (fun _ k => XS.dload X3.here hx rfl (hb hby own_d28_85) rfl k) ?_
  exact own_ret X3 hlk (v := some (.double FP.dconst0)) (fun h => by rw [Bd.returns] at h; cases h) (by decide) (by decide) (by show own_Q28 Z ad0 ad1 wrate_ad1 wburst_ad1 h0 n0 _ T3.heap _; rw [e3]; exact ⟨rfl, N2, rfl⟩) (fun fs hr => retOut X3 hx Bd.returns rfl (Or.inr (Or.inr (Or.inl ⟨rfl, rfl, _, rfl⟩))) (hb hby own_d28_87) hr)

abbrev own_y10 : MethodName := (⟨"com/example/tandem/tandem/analysis/PseudoAffine", "clear", "()Lcom/example/tandem/tandem/analysis/PseudoAffine;"⟩ : MethodName)
theorem own_pd8 : parseMethodDescriptor "(I)V" = some ⟨[.int], none⟩ := by decide +kernel
abbrev own_y11 : MethodName := (⟨"com/example/tandem/tandem/analysis/PseudoAffine", "<init>", "(I)V"⟩ : MethodName)
theorem own_pd9 : parseMethodDescriptor "(DD)V" = some ⟨[.double, .double], none⟩ := by decide +kernel
abbrev own_y12 : MethodName := (⟨"com/example/tandem/tandem/model/TokenBucket", "<init>", "(DD)V"⟩ : MethodName)
abbrev own_y13 : MethodName := (⟨"com/example/tandem/tandem/analysis/PseudoAffine", "offset", "()D"⟩ : MethodName)
theorem own_pd10 : parseMethodDescriptor "(Ljava/lang/Object;)Z" = some ⟨[(.object "java/lang/Object")], some .boolean⟩ := by decide +kernel
abbrev own_y14 : MethodName := (⟨"com/example/tandem/tandem/analysis/PseudoAffine", "equals", "(Ljava/lang/Object;)Z"⟩ : MethodName)
theorem own_pd11 : parseMethodDescriptor "(Lcom/example/tandem/tandem/model/TokenBucket;)D" = some ⟨[(.object "com/example/tandem/tandem/model/TokenBucket")], some .double⟩ := by decide +kernel
abbrev own_y15 : MethodName := (⟨"com/example/tandem/tandem/analysis/PseudoAffine", "wait", "(Lcom/example/tandem/tandem/model/TokenBucket;)D"⟩ : MethodName)
def own_Q29 (Z : State) (p0 : Int32) (p1 : Int32) (p2 : Int32) (p3 : Int32) (p4 : Int32) (p5 : Int32) (cv : Addr) (r1 : Addr) (r2 : Addr) (wjumps_cv : Addr) (wrates_cv : Addr) (uoffset_cv : Value) (upieces_cv : Value) (h0 : Heap) (n0 : Nat) (v : Option Value) (h : Heap) (L : List Loc) : Prop := v = some (.int 1) ∧ Fr n0 L
set_option maxRecDepth 65536 in
set_option maxHeartbeats 40000000 in
theorem own_rm29 (l : Launch) (Z : State) (a0 : Array Value) (hw : ∀ d ∈ tables_1, d.before a0 Z = true) {p : Program} {e : Env} {s : State} {m : MethodId} {args : Array Value} {below : List Frame} {meth : Method} {c : Code} (hx : p.tables.exec = Jvm.exec) (hby : c.code = code) (hlk : meth.locks = false) (hml : c.maxLocals = 17) (hret : meth.sig.returnType = ret) (p0 : Int32) (p1 : Int32) (p2 : Int32) (p3 : Int32) (p4 : Int32) (p5 : Int32) (cv : Addr) (r1 : Addr) (r2 : Addr) (wjumps_cv : Addr) (wrates_cv : Addr) (uoffset_cv : Value) (upieces_cv : Value) (h0 : Heap) (n0 : Nat) (Z0 : n0 ≤ h0.size) {s₁ : State} {locs : List Loc} (X0 : Stand p l e room_1 s m args below meth c s₁ locs 9 40) (e0 : s₁.heap = h0) (N0 : Fr n0 locs) (hZ : Z.Warmed39 s.vm) (hown : s.vm.findClass "com/example/tandem/tandem/analysis/PseudoAffineClearPinLaw" = some m.cls) (E_cv : Exa Z h0 cv "com/example/tandem/tandem/analysis/PseudoAffine") (F_jumps_cv : Fld Z h0 cv "com/example/tandem/tandem/analysis/PseudoAffine" "jumps" "[D" (.ref wjumps_cv)) (F_rates_cv : Fld Z h0 cv "com/example/tandem/tandem/analysis/PseudoAffine" "rates" "[D" (.ref wrates_cv)) (F_offset_cv : Fld Z h0 cv "com/example/tandem/tandem/analysis/PseudoAffine" "offset" "D" uoffset_cv) (F_pieces_cv : Fld Z h0 cv "com/example/tandem/tandem/analysis/PseudoAffine" "pieces" "I" upieces_cv) (g_cv : n0 ≤ cv) :
    own_Fin p e below s room_1.cells room_1.slots (own_Q29 Z p0 p1 p2 p3 p4 p5 cv r1 r2 wjumps_cv wrates_cv uoffset_cv upieces_cv h0 n0) (s₁.setTop (mkF m 132 #[.val (.int p0), .val (.int p1), .val (.int p2), .val (.int p3), .val (.int p4), .val (.int p5), .val (.ref cv), .val (.ref r1), .val (.ref r2), .unset, .unset, .unset, .unset, .unset, .unset, .unset, .unset] [])) := by
  have KR : Keep h0 h0 [cv] := Keep.refl _ _
  refine own_step (fun _ k => XS.aload X0.here hx rfl (hb hby at_132) rfl rfl k) ?_
  obtain ⟨cq1, kq1, q1a, q1b, q1c⟩ := isOf hZ e0 E_cv
  obtain ⟨_, _, ⟨T1, L1, k1, n1⟩, -, X1, ⟨Lc1, hQ1, l1, y1, z1⟩, st1⟩ := X0.virtualBack hx (y := own_y10) (z := own_y10) hown (mvT hZ (own_w hw 30 rfl)) (mvT hZ (own_w hw 31 rfl)) (notFace_of_selects (args := #[]) (mvT hZ (own_w hw 33 rfl))) (mvT hZ (own_w hw 33 rfl)) (mvT hZ (own_w hw 32 rfl)) (by decide) (backOf (W := 0) (own_rm5 l Z a0 hw [] cv wjumps_cv wrates_cv uoffset_cv upieces_cv h0 n0 Z0 E_cv F_jumps_cv F_rates_cv F_offset_cv F_pieces_cv g_cv) hZ (own_w hw 34 rfl) (own_w hw 2 rfl) (by decide) (by decide)) q1a q1c (g := (mkF m 134 #[.val (.int p0), .val (.int p1), .val (.int p2), .val (.int p3), .val (.int p4), .val (.int p5), .val (.ref cv), .val (.ref r1), .val (.ref r2), .unset, .unset, .unset, .unset, .unset, .unset, .unset, .unset] [(.ref cv)])) rfl (by rw [hml]; rfl) (Steps.refl _) (argsL := []) (rest := []) (lenOf own_pd4 rfl) rfl (by show 2 * 0 + _ ≤ _; exact Nat.le_of_eq rfl) (hb hby at_134) (fun _ _ => ⟨rfl, e0, (by decide : 9 + 0 ≤ _), (by decide : 40 + 0 ≤ _)⟩)
  dsimp only [Pt.U, Pt.locs, Pt.cells, Pt.slots] at X1 l1 y1 z1 st1 hQ1
  subst l1 y1 z1
  obtain ⟨N1q, K1q, rfl, G2, G3, G4, G5, G6⟩ := hQ1
  have N1 := Fr.app N0 N1q
  have K1 : Keep h0 T1.heap [cv] := KR.trans K1q (allS (P := fun x => x ∈ [cv] ∨ h0.size ≤ x) (Or.inl (List.mem_of_getElem? (i := 0) rfl)) all0)
  have Z1 : n0 ≤ T1.heap.size := Nat.le_trans Z0 K1q.1
  have G7 := (E_cv.keep K1q)
  refine own_step (fun _ k => st1.trans k) ?_
  show own_Fin p e below s _ _ _ (T1.setTop (mkF m 137 #[.val (.int p0), .val (.int p1), .val (.int p2), .val (.int p3), .val (.int p4), .val (.int p5), .val (.ref cv), .val (.ref r1), .val (.ref r2), .unset, .unset, .unset, .unset, .unset, .unset, .unset, .unset] [(.ref cv)]))
  refine own_step (fun _ k => XS.astore X1.here hx rfl (hb hby at_137) rfl rfl (l' := #[.val (.int p0), .val (.int p1), .val (.int p2), .val (.int p3), .val (.int p4), .val (.int p5), .val (.ref cv), .val (.ref r1), .val (.ref r2), .val (.ref cv), .unset, .unset, .unset, .unset, .unset, .unset, .unset]) rfl k) ?_
  obtain ⟨T8, h8, X8, e8, E8, A8, D8, -, st8⟩ := newO X1 hx hZ hown (own_w hw 0 rfl) (own_w hw 1 rfl) (own_w hw 2 rfl) rfl (g := (mkF m 139 #[.val (.int p0), .val (.int p1), .val (.int p2), .val (.int p3), .val (.int p4), .val (.int p5), .val (.ref cv), .val (.ref r1), .val (.ref r2), .val (.ref cv), .unset, .unset, .unset, .unset, .unset, .unset, .unset] [])) rfl (hb hby at_139) (by decide) (by decide)
  obtain ⟨b8, g8⟩ : ∃ z, z = T1.heap.size := ⟨_, rfl⟩
  rw [← g8] at A8 D8 st8
  have ne8_cv : cv ≠ b8 := Nat.ne_of_lt (Nat.lt_of_lt_of_le G2.lt (Nat.le_of_eq g8.symm))
  have gg8 : n0 ≤ b8 := Nat.le_trans Z1 (Nat.le_of_eq g8.symm)
  have sz8 : h0.size ≤ b8 := Nat.le_trans K1.1 (Nat.le_of_eq g8.symm)
  have K8 : Keep h0 h8 [cv] := K1.ext E8
  have Z8 : n0 ≤ h8.size := Nat.le_trans Z1 E8.1
  have G9 := (G2.ext E8)
  have G10 := (G3.ext E8)
  have G11 := (G4.ext E8)
  have G12 := (G5.ext E8)
  have G13 := (G6.ext E8)
  have G14 : Fld Z h8 b8 "com/example/tandem/tandem/analysis/PseudoAffine" "jumps" "[D" .null := D8 (Or.inr (own_w hw 11 rfl)) (ty := (.array .double)) (by decide)
  have G15 : Fld Z h8 b8 "com/example/tandem/tandem/analysis/PseudoAffine" "rates" "[D" .null := D8 (Or.inr (own_w hw 13 rfl)) (ty := (.array .double)) (by decide)
  have G16 : Fld Z h8 b8 "com/example/tandem/tandem/analysis/PseudoAffine" "offset" "D" (.double (0 : UInt64)) := D8 (Or.inl (own_w hw 36 rfl)) (ty := .double) (by decide)
  have G17 : Fld Z h8 b8 "com/example/tandem/tandem/analysis/PseudoAffine" "pieces" "I" (.int (0 : Int32)) := D8 (Or.inl (own_w hw 38 rfl)) (ty := .int) (by decide)
  refine own_step st8 ?_
  show own_Fin p e below s _ _ _ (T8.setTop (mkF m 142 #[.val (.int p0), .val (.int p1), .val (.int p2), .val (.int p3), .val (.int p4), .val (.int p5), .val (.ref cv), .val (.ref r1), .val (.ref r2), .val (.ref cv), .unset, .unset, .unset, .unset, .unset, .unset, .unset] [(.ref b8)]))
  refine own_step (fun _ k => XS.dup X8.here hx rfl (hb hby at_142) rfl rfl k) ?_
  refine own_step (fun _ k => XS.iconst X8.here hx rfl (hb hby at_143) k) ?_
  refine own_step (fun _ k => XS.iload X8.here hx rfl (hb hby at_144) rfl k) ?_
  refine own_step (fun _ k => XS.bipush X8.here hx rfl (hb hby at_146) k) ?_
  show own_Fin p e below s _ _ _ (T8.setTop (mkF m 148 #[.val (.int p0), .val (.int p1), .val (.int p2), .val (.int p3), .val (.int p4), .val (.int p5), .val (.ref cv), .val (.ref r1), .val (.ref r2), .val (.ref cv), .unset, .unset, .unset, .unset, .unset, .unset, .unset] [(.int (13 : Int32)), (.int p4), (.int (1 : Int32)), (.ref b8), (.ref b8)]))
  refine own_step (fun _ k => XS.iushr X8.here hx rfl (hb hby at_148) rfl k) ?_
  refine own_step (fun _ k => XS.iconst X8.here hx rfl (hb hby at_149) k) ?_
  refine own_step (fun _ k => XS.iand X8.here hx rfl (hb hby at_150) rfl k) ?_
  refine own_step (fun _ k => XS.iadd X8.here hx rfl (hb hby at_151) rfl k) ?_
  show own_Fin p e below s _ _ _ (T8.setTop (mkF m 152 #[.val (.int p0), .val (.int p1), .val (.int p2), .val (.int p3), .val (.int p4), .val (.int p5), .val (.ref cv), .val (.ref r1), .val (.ref r2), .val (.ref cv), .unset, .unset, .unset, .unset, .unset, .unset, .unset] [(.int ((1 : Int32) + (((p4.toUInt32 >>> ((13 : Int32) &&& 31).toUInt32).toInt32) &&& (3 : Int32)))), (.ref b8), (.ref b8)]))
  obtain ⟨_, _, ⟨T18, L18, k18, n18⟩, -, X18, ⟨Lc18, hQ18, l18, y18, z18⟩, st18⟩ := X8.specialBack hx (y := own_y11) rfl hown (mvT hZ (own_w hw 3 rfl)) (mvT hZ (own_w hw 4 rfl)) (mvT hZ (own_w hw 5 rfl)) (by decide) (backOf (W := 1) (own_rm1 l Z a0 hw [] b8 (((1 : Int32) + (((p4.toUInt32 >>> ((13 : Int32) &&& 31).toUInt32).toInt32) &&& (3 : Int32)))) .null .null ((.double (0 : UInt64))) ((.int (0 : Int32))) h8 n0 Z8 A8 G14 G15 G16 G17 (show ¬ (((1 : Int32) + (((p4.toUInt32 >>> ((13 : Int32) &&& 31).toUInt32).toInt32) &&& (3 : Int32))) < (0 : Int32)) from own_one0 p4) (show ((1 : Int32) + (((p4.toUInt32 >>> ((13 : Int32) &&& 31).toUInt32).toInt32) &&& (3 : Int32))).toNatClampNeg ≤ 4 from own_one4 p4) gg8) hZ (own_w hw 5 rfl) (own_w hw 2 rfl) (by decide) (by decide)) (g := (mkF m 152 #[.val (.int p0), .val (.int p1), .val (.int p2), .val (.int p3), .val (.int p4), .val (.int p5), .val (.ref cv), .val (.ref r1), .val (.ref r2), .val (.ref cv), .unset, .unset, .unset, .unset, .unset, .unset, .unset] [(.int ((1 : Int32) + (((p4.toUInt32 >>> ((13 : Int32) &&& 31).toUInt32).toInt32) &&& (3 : Int32)))), (.ref b8), (.ref b8)])) rfl (by rw [hml]; rfl) (Steps.refl _) (a := b8) (argsL := [(.int ((1 : Int32) + (((p4.toUInt32 >>> ((13 : Int32) &&& 31).toUInt32).toInt32) &&& (3 : Int32))))]) (rest := [(.ref b8)]) (lenOf own_pd8 rfl) rfl (by show 2 * 0 + _ ≤ _; exact Nat.le_of_eq rfl) (hb hby at_152) (fun _ _ => ⟨rfl, e8, (by decide : 10 + 2 ≤ _), (by decide : 44 + 8 ≤ _)⟩)
  dsimp only [Pt.U, Pt.locs, Pt.cells, Pt.slots] at X18 l18 y18 z18 st18 hQ18
  subst l18 y18 z18
  obtain ⟨N18q, K18q, b18_o0, gg18_o0, sz18_o0, b18_o1, gg18_o1, sz18_o1, ko0_18, ko1_18, rfl, G19, G20, G21, G22, G23, G24, G25, G26⟩ := hQ18
  have N18 := Fr.app N1 N18q
  have ne18_o0_cv : cv ≠ b18_o0 := Nat.ne_of_lt (Nat.lt_of_lt_of_le G9.lt sz18_o0)
  have ne18_o0_b8 : b8 ≠ b18_o0 := Nat.ne_of_lt (Nat.lt_of_lt_of_le A8.lt sz18_o0)
  have ne18_o1_cv : cv ≠ b18_o1 := Nat.ne_of_lt (Nat.lt_of_lt_of_le G9.lt sz18_o1)
  have ne18_o1_b8 : b8 ≠ b18_o1 := Nat.ne_of_lt (Nat.lt_of_lt_of_le A8.lt sz18_o1)
  have K18 : Keep h0 T18.heap [cv] := K8.trans K18q (allS (P := fun x => x ∈ [cv] ∨ h0.size ≤ x) (Or.inr sz8) all0)
  have Z18 : n0 ≤ T18.heap.size := Nat.le_trans Z8 K18q.1
  have sy18_o0 : h0.size ≤ b18_o0 := Nat.le_trans K8.1 sz18_o0
  have sy18_o1 : h0.size ≤ b18_o1 := Nat.le_trans K8.1 sz18_o1
  have G27 := (G9.keep K18q)
  have G28 := (G10.keep K18q (ninS ne8_cv nin0))
  have G29 := (G11.keep K18q (ninS ne8_cv nin0))
  have G30 := (G12.keep K18q (ninS ne8_cv nin0))
  have G31 := (G13.keep K18q (ninS ne8_cv nin0))
  have G32 := (A8.keep K18q)
  refine own_step (fun _ k => st18.trans k) ?_
  show own_Fin p e below s _ _ _ (T18.setTop (mkF m 155 #[.val (.int p0), .val (.int p1), .val (.int p2), .val (.int p3), .val (.int p4), .val (.int p5), .val (.ref cv), .val (.ref r1), .val (.ref r2), .val (.ref cv), .unset, .unset, .unset, .unset, .unset, .unset, .unset] [(.ref b8)]))
  refine own_step (fun _ k => XS.astore X18.here hx rfl (hb hby at_155) rfl rfl (l' := #[.val (.int p0), .val (.int p1), .val (.int p2), .val (.int p3), .val (.int p4), .val (.int p5), .val (.ref cv), .val (.ref r1), .val (.ref r2), .val (.ref cv), .val (.ref b8), .unset, .unset, .unset, .unset, .unset, .unset]) rfl k) ?_
  obtain ⟨T33, h33, X33, e33, E33, A33, D33, -, st33⟩ := newO X18 hx hZ hown (own_w hw 39 rfl) (own_w hw 40 rfl) (own_w hw 41 rfl) rfl (g := (mkF m 157 #[.val (.int p0), .val (.int p1), .val (.int p2), .val (.int p3), .val (.int p4), .val (.int p5), .val (.ref cv), .val (.ref r1), .val (.ref r2), .val (.ref cv), .val (.ref b8), .unset, .unset, .unset, .unset, .unset, .unset] [])) rfl (hb hby at_157) (by decide) (by decide)
  obtain ⟨b33, g33⟩ : ∃ z, z = T18.heap.size := ⟨_, rfl⟩
  rw [← g33] at A33 D33 st33
  have ne33_cv : cv ≠ b33 := Nat.ne_of_lt (Nat.lt_of_lt_of_le G27.lt (Nat.le_of_eq g33.symm))
  have ne33_b8 : b8 ≠ b33 := Nat.ne_of_lt (Nat.lt_of_lt_of_le G19.lt (Nat.le_of_eq g33.symm))
  have ne33_b18_o0 : b18_o0 ≠ b33 := Nat.ne_of_lt (Nat.lt_of_lt_of_le G24.lt (Nat.le_of_eq g33.symm))
  have ne33_b18_o1 : b18_o1 ≠ b33 := Nat.ne_of_lt (Nat.lt_of_lt_of_le G25.lt (Nat.le_of_eq g33.symm))
  have gg33 : n0 ≤ b33 := Nat.le_trans Z18 (Nat.le_of_eq g33.symm)
  have sz33 : h0.size ≤ b33 := Nat.le_trans K18.1 (Nat.le_of_eq g33.symm)
  have K33 : Keep h0 h33 [cv] := K18.ext E33
  have Z33 : n0 ≤ h33.size := Nat.le_trans Z18 E33.1
  have G34 := (G27.ext E33)
  have G35 := (G28.ext E33)
  have G36 := (G29.ext E33)
  have G37 := (G30.ext E33)
  have G38 := (G31.ext E33)
  have G39 := (G19.ext E33)
  have G40 := (G20.ext E33)
  have G41 := (G21.ext E33)
  have G42 := (G22.ext E33)
  have G43 := (G23.ext E33)
  have G44 := (G24.ext E33)
  have G45 := (G25.ext E33)
  have G46 : Fld Z h33 b33 "com/example/tandem/tandem/model/TokenBucket" "rate" "D" (.double (0 : UInt64)) := D33 (Or.inr (own_w hw 47 rfl)) (ty := .double) (by decide)
  have G47 : Fld Z h33 b33 "com/example/tandem/tandem/model/TokenBucket" "burst" "D" (.double (0 : UInt64)) := D33 (Or.inr (own_w hw 49 rfl)) (ty := .double) (by decide)
  refine own_step st33 ?_
  show own_Fin p e below s _ _ _ (T33.setTop (mkF m 160 #[.val (.int p0), .val (.int p1), .val (.int p2), .val (.int p3), .val (.int p4), .val (.int p5), .val (.ref cv), .val (.ref r1), .val (.ref r2), .val (.ref cv), .val (.ref b8), .unset, .unset, .unset, .unset, .unset, .unset] [(.ref b33)]))
  refine own_step (fun _ k => XS.dup X33.here hx rfl (hb hby at_160) rfl rfl k) ?_
  refine own_step (fun _ k => XS.iloadN X33.here hx rfl (hb hby at_161) rfl k) ?_
  refine own_step (fun _ k => XS.bipush X33.here hx rfl (hb hby at_162) k) ?_
  refine own_step (fun _ k => XS.ishr X33.here hx rfl (hb hby at_164) rfl k) ?_
  show own_Fin p e below s _ _ _ (T33.setTop (mkF m 165 #[.val (.int p0), .val (.int p1), .val (.int p2), .val (.int p3), .val (.int p4), .val (.int p5), .val (.ref cv), .val (.ref r1), .val (.ref r2), .val (.ref cv), .val (.ref b8), .unset, .unset, .unset, .unset, .unset, .unset] [(.int (p0 >>> ((10 : Int32) &&& 31))), (.ref b33), (.ref b33)]))
  refine own_step (fun _ k => XS.sipush X33.here hx rfl (hb hby at_165) k) ?_
  refine own_step (fun _ k => iremM (g := (mkF m 168 #[.val (.int p0), .val (.int p1), .val (.int p2), .val (.int p3), .val (.int p4), .val (.int p5), .val (.ref cv), .val (.ref r1), .val (.ref r2), .val (.ref cv), .val (.ref b8), .unset, .unset, .unset, .unset, .unset, .unset] [(.int (1000 : Int32)), (.int (p0 >>> ((10 : Int32) &&& 31))), (.ref b33), (.ref b33)])) X33 hx rfl (hb hby at_168) rfl (by decide) k) ?_
  refine own_step (fun _ k => XS.i2dS X33.here hx rfl (hb hby at_169) rfl rfl k) ?_
  refine own_step (fun _ k => XS.iloadN X33.here hx rfl (hb hby at_170) rfl k) ?_
  show own_Fin p e below s _ _ _ (T33.setTop (mkF m 171 #[.val (.int p0), .val (.int p1), .val (.int p2), .val (.int p3), .val (.int p4), .val (.int p5), .val (.ref cv), .val (.ref r1), .val (.ref r2), .val (.ref cv), .val (.ref b8), .unset, .unset, .unset, .unset, .unset, .unset] [(.int p1), (.double (FP.i2d ((p0 >>> ((10 : Int32) &&& 31)) % (1000 : Int32)))), (.ref b33), (.ref b33)]))
  refine own_step (fun _ k => XS.bipush X33.here hx rfl (hb hby at_171) k) ?_
  refine own_step (fun _ k => XS.ishr X33.here hx rfl (hb hby at_173) rfl k) ?_
  refine own_step (fun _ k => XS.sipush X33.here hx rfl (hb hby at_174) k) ?_
  refine own_step (fun _ k => iremM (g := (mkF m 177 #[.val (.int p0), .val (.int p1), .val (.int p2), .val (.int p3), .val (.int p4), .val (.int p5), .val (.ref cv), .val (.ref r1), .val (.ref r2), .val (.ref cv), .val (.ref b8), .unset, .unset, .unset, .unset, .unset, .unset] [(.int (1000 : Int32)), (.int (p1 >>> ((10 : Int32) &&& 31))), (.double (FP.i2d ((p0 >>> ((10 : Int32) &&& 31)) % (1000 : Int32)))), (.ref b33), (.ref b33)])) X33 hx rfl (hb hby at_177) rfl (by decide) k) ?_
  show own_Fin p e below s _ _ _ (T33.setTop (mkF m 178 #[.val (.int p0), .val (.int p1), .val (.int p2), .val (.int p3), .val (.int p4), .val (.int p5), .val (.ref cv), .val (.ref r1), .val (.ref r2), .val (.ref cv), .val (.ref b8), .unset, .unset, .unset, .unset, .unset, .unset] [(.int ((p1 >>> ((10 : Int32) &&& 31)) % (1000 : Int32))), (.double (FP.i2d ((p0 >>> ((10 : Int32) &&& 31)) % (1000 : Int32)))), (.ref b33), (.ref b33)]))
  refine own_step (fun _ k => XS.i2dS X33.here hx rfl (hb hby at_178) rfl rfl k) ?_
  obtain ⟨_, _, ⟨T48, L48, k48, n48⟩, -, X48, ⟨Lc48, hQ48, l48, y48, z48⟩, st48⟩ := X33.specialBack hx (y := own_y12) rfl hown (mvT hZ (own_w hw 42 rfl)) (mvT hZ (own_w hw 43 rfl)) (mvT hZ (own_w hw 44 rfl)) (by decide) (backOf (W := 1) (own_rm4 l Z a0 hw [] b33 ((FP.i2d ((p0 >>> ((10 : Int32) &&& 31)) % (1000 : Int32)))) ((FP.i2d ((p1 >>> ((10 : Int32) &&& 31)) % (1000 : Int32)))) ((.double (0 : UInt64))) ((.double (0 : UInt64))) h33 n0 Z33 A33 G46 G47 gg33) hZ (own_w hw 44 rfl) (own_w hw 41 rfl) (by decide) (by decide)) (g := (mkF m 179 #[.val (.int p0), .val (.int p1), .val (.int p2), .val (.int p3), .val (.int p4), .val (.int p5), .val (.ref cv), .val (.ref r1), .val (.ref r2), .val (.ref cv), .val (.ref b8), .unset, .unset, .unset, .unset, .unset, .unset] [(.double (FP.i2d ((p1 >>> ((10 : Int32) &&& 31)) % (1000 : Int32)))), (.double (FP.i2d ((p0 >>> ((10 : Int32) &&& 31)) % (1000 : Int32)))), (.ref b33), (.ref b33)])) rfl (by rw [hml]; rfl) (Steps.refl _) (a := b33) (argsL := [(.double (FP.i2d ((p0 >>> ((10 : Int32) &&& 31)) % (1000 : Int32)))), (.double (FP.i2d ((p1 >>> ((10 : Int32) &&& 31)) % (1000 : Int32))))]) (rest := [(.ref b33)]) (lenOf own_pd9 rfl) rfl (by show 2 * 0 + _ ≤ _; exact Nat.le_of_eq rfl) (hb hby at_179) (fun _ _ => ⟨rfl, e33, (by decide : 13 + 0 ≤ _), (by decide : 54 + 0 ≤ _)⟩)
  dsimp only [Pt.U, Pt.locs, Pt.cells, Pt.slots] at X48 l48 y48 z48 st48 hQ48
  subst l48 y48 z48
  obtain ⟨N48q, K48q, rfl, G49, G50, G51⟩ := hQ48
  have N48 := Fr.app N18 N48q
  have K48 : Keep h0 T48.heap [cv] := K33.trans K48q (allS (P := fun x => x ∈ [cv] ∨ h0.size ≤ x) (Or.inr sz33) all0)
  have Z48 : n0 ≤ T48.heap.size := Nat.le_trans Z33 K48q.1
  have G52 := (G34.keep K48q)
  have G53 := (G35.keep K48q (ninS ne33_cv nin0))
  have G54 := (G36.keep K48q (ninS ne33_cv nin0))
  have G55 := (G37.keep K48q (ninS ne33_cv nin0))
  have G56 := (G38.keep K48q (ninS ne33_cv nin0))
  have G57 := (G39.keep K48q)
  have G58 := (G40.keep K48q (ninS ne33_b8 nin0))
  have G59 := (G41.keep K48q (ninS ne33_b8 nin0))
  have G60 := (G42.keep K48q (ninS ne33_b8 nin0))
  have G61 := (G43.keep K48q (ninS ne33_b8 nin0))
  have G62 := (G44.keep K48q (ninS ne33_b18_o0 nin0))
  have G63 := (G45.keep K48q (ninS ne33_b18_o1 nin0))
  have G64 := (A33.keep K48q)
  refine own_step (fun _ k => st48.trans k) ?_
  show own_Fin p e below s _ _ _ (T48.setTop (mkF m 182 #[.val (.int p0), .val (.int p1), .val (.int p2), .val (.int p3), .val (.int p4), .val (.int p5), .val (.ref cv), .val (.ref r1), .val (.ref r2), .val (.ref cv), .val (.ref b8), .unset, .unset, .unset, .unset, .unset, .unset] [(.ref b33)]))
  refine own_step (fun _ k => XS.astore X48.here hx rfl (hb hby at_182) rfl rfl (l' := #[.val (.int p0), .val (.int p1), .val (.int p2), .val (.int p3), .val (.int p4), .val (.int p5), .val (.ref cv), .val (.ref r1), .val (.ref r2), .val (.ref cv), .val (.ref b8), .val (.ref b33), .unset, .unset, .unset, .unset, .unset]) rfl k) ?_
  refine own_step (fun _ k => XS.aload X48.here hx rfl (hb hby at_184) rfl rfl k) ?_
  refine own_step (fun _ k => XS.aload X48.here hx rfl (hb hby at_186) rfl rfl k) ?_
  refine own_step (fun _ k => Jvm.RoadKit.acmp (g := (mkF m 188 #[.val (.int p0), .val (.int p1), .val (.int p2), .val (.int p3), .val (.int p4), .val (.int p5), .val (.ref cv), .val (.ref r1), .val (.ref r2), .val (.ref cv), .val (.ref b8), .val (.ref b33), .unset, .unset, .unset, .unset, .unset] [(.ref cv), (.ref cv)])) X48 hx rfl rfl rfl (pc0 := 188) (pc' := 191) (same := true) rfl (hb hby at_188) rfl (decide_eq_true rfl) (by decide) (by decide) k) ?_
  show own_Fin p e below s _ _ _ (T48.setTop (mkF m 191 #[.val (.int p0), .val (.int p1), .val (.int p2), .val (.int p3), .val (.int p4), .val (.int p5), .val (.ref cv), .val (.ref r1), .val (.ref r2), .val (.ref cv), .val (.ref b8), .val (.ref b33), .unset, .unset, .unset, .unset, .unset] []))
  refine own_step (fun _ k => XS.iconst X48.here hx rfl (hb hby at_191) k) ?_
  refine own_step (fun _ k => XS.goto X48.here hx rfl (pc0 := 192) (pc' := 196) rfl (hb hby at_192) (by decide) (by decide) k) ?_
  refine own_step (fun _ k => XS.istore X48.here hx rfl (hb hby at_196) rfl (l' := #[.val (.int p0), .val (.int p1), .val (.int p2), .val (.int p3), .val (.int p4), .val (.int p5), .val (.ref cv), .val (.ref r1), .val (.ref r2), .val (.ref cv), .val (.ref b8), .val (.ref b33), .val (.int (1 : Int32)), .unset, .unset, .unset, .unset]) rfl k) ?_
  refine own_step (fun _ k => XS.aload X48.here hx rfl (hb hby at_198) rfl rfl k) ?_
  show own_Fin p e below s _ _ _ (T48.setTop (mkF m 200 #[.val (.int p0), .val (.int p1), .val (.int p2), .val (.int p3), .val (.int p4), .val (.int p5), .val (.ref cv), .val (.ref r1), .val (.ref r2), .val (.ref cv), .val (.ref b8), .val (.ref b33), .val (.int (1 : Int32)), .unset, .unset, .unset, .unset] [(.ref cv)]))
  obtain ⟨cq65, kq65, q65a, q65b, q65c⟩ := isOf hZ rfl G52
  obtain ⟨_, _, ⟨T65, L65, k65, n65⟩, -, X65, ⟨Lc65, hQ65, l65, y65, z65⟩, st65⟩ := X48.virtualBack hx (y := own_y13) (z := own_y13) hown (mvT hZ (own_w hw 50 rfl)) (mvT hZ (own_w hw 51 rfl)) (notFace_of_selects (args := #[]) (mvT hZ (own_w hw 53 rfl))) (mvT hZ (own_w hw 53 rfl)) (mvT hZ (own_w hw 52 rfl)) (by decide) (backOf (W := 0) (own_rm6 l Z a0 hw [] cv FP.dconst0 T48.heap n0 Z48 G55) hZ (own_w hw 54 rfl) (own_w hw 2 rfl) (by decide) (by decide)) q65a q65c (g := (mkF m 200 #[.val (.int p0), .val (.int p1), .val (.int p2), .val (.int p3), .val (.int p4), .val (.int p5), .val (.ref cv), .val (.ref r1), .val (.ref r2), .val (.ref cv), .val (.ref b8), .val (.ref b33), .val (.int (1 : Int32)), .unset, .unset, .unset, .unset] [(.ref cv)])) rfl (by rw [hml]; rfl) (Steps.refl _) (argsL := []) (rest := []) (lenOf own_pd1 rfl) rfl (by show 2 * 0 + _ ≤ _; exact Nat.le_of_eq rfl) (hb hby at_200) (fun _ _ => ⟨rfl, rfl, (by decide : 13 + 0 ≤ _), (by decide : 54 + 0 ≤ _)⟩)
  dsimp only [Pt.U, Pt.locs, Pt.cells, Pt.slots] at X65 l65 y65 z65 st65 hQ65
  subst l65 y65 z65
  obtain ⟨rfl, N65q, e65⟩ := hQ65
  have N65 := Fr.app N48 N65q
  refine own_step (fun _ k => st65.trans k) ?_
  show own_Fin p e below s _ _ _ (T65.setTop (mkF m 203 #[.val (.int p0), .val (.int p1), .val (.int p2), .val (.int p3), .val (.int p4), .val (.int p5), .val (.ref cv), .val (.ref r1), .val (.ref r2), .val (.ref cv), .val (.ref b8), .val (.ref b33), .val (.int (1 : Int32)), .unset, .unset, .unset, .unset] [(.double FP.dconst0)]))
  refine own_step (fun _ k => XS.dconst0 X65.here hx rfl (hb hby at_203) rfl k) ?_
  refine own_step (fun _ k => XS.dcmpS X65.here hx rfl (hb hby at_204) rfl rfl k) ?_
  have hf66 : (cmpValue (FP.dcmp FP.dconst0 FP.dconst0) .l) = (0 : Int32) := by decide +kernel
  refine own_step (fun _ k => XS.ifNo X65.here hx rfl (hb hby at_205) rfl ((if0 _ _).trans (teq hf66).2) k) ?_
  refine own_step (fun _ k => XS.iconst X65.here hx rfl (hb hby at_208) k) ?_
  show own_Fin p e below s _ _ _ (T65.setTop (mkF m 209 #[.val (.int p0), .val (.int p1), .val (.int p2), .val (.int p3), .val (.int p4), .val (.int p5), .val (.ref cv), .val (.ref r1), .val (.ref r2), .val (.ref cv), .val (.ref b8), .val (.ref b33), .val (.int (1 : Int32)), .unset, .unset, .unset, .unset] [(.int (1 : Int32))]))
  refine own_step (fun _ k => XS.goto X65.here hx rfl (pc0 := 209) (pc' := 213) rfl (hb hby at_209) (by decide) (by decide) k) ?_
  refine own_step (fun _ k => XS.istore X65.here hx rfl (hb hby at_213) rfl (l' := #[.val (.int p0), .val (.int p1), .val (.int p2), .val (.int p3), .val (.int p4), .val (.int p5), .val (.ref cv), .val (.ref r1), .val (.ref r2), .val (.ref cv), .val (.ref b8), .val (.ref b33), .val (.int (1 : Int32)), .val (.int (1 : Int32)), .unset, .unset, .unset]) rfl k) ?_
  refine own_step (fun _ k => XS.aload X65.here hx rfl (hb hby at_215) rfl rfl k) ?_
  refine own_step (fun _ k => XS.aload X65.here hx rfl (hb hby at_217) rfl rfl k) ?_
  show own_Fin p e below s _ _ _ (T65.setTop (mkF m 219 #[.val (.int p0), .val (.int p1), .val (.int p2), .val (.int p3), .val (.int p4), .val (.int p5), .val (.ref cv), .val (.ref r1), .val (.ref r2), .val (.ref cv), .val (.ref b8), .val (.ref b33), .val (.int (1 : Int32)), .val (.int (1 : Int32)), .unset, .unset, .unset] [(.ref b8), (.ref cv)]))
  obtain ⟨cq67, kq67, q67a, q67b, q67c⟩ := isOf hZ e65 G52
  obtain ⟨_, _, ⟨T67, L67, k67, n67⟩, -, X67, ⟨Lc67, hQ67, l67, y67, z67⟩, st67⟩ := X65.virtualBack hx (y := own_y14) (z := own_y14) hown (mvT hZ (own_w hw 55 rfl)) (mvT hZ (own_w hw 56 rfl)) (notFace_of_selects (args := #[]) (mvT hZ (own_w hw 58 rfl))) (mvT hZ (own_w hw 58 rfl)) (mvT hZ (own_w hw 57 rfl)) (by decide) (backOf (W := 0) (own_rm27 l Z a0 hw [] cv b8 T48.heap n0 Z48 G57 G59 G56 G58 G55) hZ (own_w hw 59 rfl) (own_w hw 2 rfl) (by decide) (by decide)) q67a q67c (g := (mkF m 219 #[.val (.int p0), .val (.int p1), .val (.int p2), .val (.int p3), .val (.int p4), .val (.int p5), .val (.ref cv), .val (.ref r1), .val (.ref r2), .val (.ref cv), .val (.ref b8), .val (.ref b33), .val (.int (1 : Int32)), .val (.int (1 : Int32)), .unset, .unset, .unset] [(.ref b8), (.ref cv)])) rfl (by rw [hml]; rfl) (Steps.refl _) (argsL := [(.ref b8)]) (rest := []) (lenOf own_pd10 rfl) rfl (by show 2 * 0 + _ ≤ _; exact Nat.le_of_eq rfl) (hb hby at_219) (fun _ _ => ⟨rfl, e65, (by decide : 13 + 0 ≤ _), (by decide : 54 + 0 ≤ _)⟩)
  dsimp only [Pt.U, Pt.locs, Pt.cells, Pt.slots] at X67 l67 y67 z67 st67 hQ67
  subst l67 y67 z67
  obtain ⟨rfl, N67q, e67⟩ := hQ67
  have N67 := Fr.app N65 N67q
  refine own_step (fun _ k => st67.trans k) ?_
  show own_Fin p e below s _ _ _ (T67.setTop (mkF m 222 #[.val (.int p0), .val (.int p1), .val (.int p2), .val (.int p3), .val (.int p4), .val (.int p5), .val (.ref cv), .val (.ref r1), .val (.ref r2), .val (.ref cv), .val (.ref b8), .val (.ref b33), .val (.int (1 : Int32)), .val (.int (1 : Int32)), .unset, .unset, .unset] [(.int (1 : Int32))]))
  refine own_step (fun _ k => XS.istore X67.here hx rfl (hb hby at_222) rfl (l' := #[.val (.int p0), .val (.int p1), .val (.int p2), .val (.int p3), .val (.int p4), .val (.int p5), .val (.ref cv), .val (.ref r1), .val (.ref r2), .val (.ref cv), .val (.ref b8), .val (.ref b33), .val (.int (1 : Int32)), .val (.int (1 : Int32)), .val (.int (1 : Int32)), .unset, .unset]) rfl k) ?_
  refine own_step (fun _ k => XS.aload X67.here hx rfl (hb hby at_224) rfl rfl k) ?_
  refine own_step (fun _ k => XS.aload X67.here hx rfl (hb hby at_226) rfl rfl k) ?_
  obtain ⟨cq68, kq68, q68a, q68b, q68c⟩ := isOf hZ e67 G57
  obtain ⟨_, _, ⟨T68, L68, k68, n68⟩, -, X68, ⟨Lc68, hQ68, l68, y68, z68⟩, st68⟩ := X67.virtualBack hx (y := own_y14) (z := own_y14) hown (mvT hZ (own_w hw 55 rfl)) (mvT hZ (own_w hw 56 rfl)) (notFace_of_selects (args := #[]) (mvT hZ (own_w hw 58 rfl))) (mvT hZ (own_w hw 58 rfl)) (mvT hZ (own_w hw 57 rfl)) (by decide) (backOf (W := 0) (own_rm26 l Z a0 hw [] b8 cv T48.heap n0 Z48 G52 G56 G59 G55 G58) hZ (own_w hw 59 rfl) (own_w hw 2 rfl) (by decide) (by decide)) q68a q68c (g := (mkF m 228 #[.val (.int p0), .val (.int p1), .val (.int p2), .val (.int p3), .val (.int p4), .val (.int p5), .val (.ref cv), .val (.ref r1), .val (.ref r2), .val (.ref cv), .val (.ref b8), .val (.ref b33), .val (.int (1 : Int32)), .val (.int (1 : Int32)), .val (.int (1 : Int32)), .unset, .unset] [(.ref cv), (.ref b8)])) rfl (by rw [hml]; rfl) (Steps.refl _) (argsL := [(.ref cv)]) (rest := []) (lenOf own_pd10 rfl) rfl (by show 2 * 0 + _ ≤ _; exact Nat.le_of_eq rfl) (hb hby at_228) (fun _ _ => ⟨rfl, e67, (by decide : 13 + 0 ≤ _), (by decide : 54 + 0 ≤ _)⟩)
  dsimp only [Pt.U, Pt.locs, Pt.cells, Pt.slots] at X68 l68 y68 z68 st68 hQ68
  subst l68 y68 z68
  obtain ⟨rfl, N68q, e68⟩ := hQ68
  have N68 := Fr.app N67 N68q
  refine own_step (fun _ k => st68.trans k) ?_
  show own_Fin p e below s _ _ _ (T68.setTop (mkF m 231 #[.val (.int p0), .val (.int p1), .val (.int p2), .val (.int p3), .val (.int p4), .val (.int p5), .val (.ref cv), .val (.ref r1), .val (.ref r2), .val (.ref cv), .val (.ref b8), .val (.ref b33), .val (.int (1 : Int32)), .val (.int (1 : Int32)), .val (.int (1 : Int32)), .unset, .unset] [(.int (1 : Int32))]))
  refine own_step (fun _ k => XS.istore X68.here hx rfl (hb hby at_231) rfl (l' := #[.val (.int p0), .val (.int p1), .val (.int p2), .val (.int p3), .val (.int p4), .val (.int p5), .val (.ref cv), .val (.ref r1), .val (.ref r2), .val (.ref cv), .val (.ref b8), .val (.ref b33), .val (.int (1 : Int32)), .val (.int (1 : Int32)), .val (.int (1 : Int32)), .val (.int (1 : Int32)), .unset]) rfl k) ?_
  refine own_step (fun _ k => XS.aload X68.here hx rfl (hb hby at_233) rfl rfl k) ?_
  refine own_step (fun _ k => XS.aload X68.here hx rfl (hb hby at_235) rfl rfl k) ?_
  obtain ⟨cq69, kq69, q69a, q69b, q69c⟩ := isOf hZ e68 G52
  obtain ⟨_, _, ⟨T69, L69, k69, n69⟩, -, X69, ⟨Lc69, hQ69, l69, y69, z69⟩, st69⟩ := X68.virtualBack hx (y := own_y15) (z := own_y15) hown (mvT hZ (own_w hw 75 rfl)) (mvT hZ (own_w hw 76 rfl)) (notFace_of_selects (args := #[]) (mvT hZ (own_w hw 78 rfl))) (mvT hZ (own_w hw 78 rfl)) (mvT hZ (own_w hw 77 rfl)) (by decide) (backOf (W := 0) (own_rm28 l Z a0 hw [] cv b33 ((FP.i2d ((p0 >>> ((10 : Int32) &&& 31)) % (1000 : Int32)))) ((FP.i2d ((p1 >>> ((10 : Int32) &&& 31)) % (1000 : Int32)))) T48.heap n0 Z48 G49 G50 G51 G56) hZ (own_w hw 79 rfl) (own_w hw 2 rfl) (by decide) (by decide)) q69a q69c (g := (mkF m 237 #[.val (.int p0), .val (.int p1), .val (.int p2), .val (.int p3), .val (.int p4), .val (.int p5), .val (.ref cv), .val (.ref r1), .val (.ref r2), .val (.ref cv), .val (.ref b8), .val (.ref b33), .val (.int (1 : Int32)), .val (.int (1 : Int32)), .val (.int (1 : Int32)), .val (.int (1 : Int32)), .unset] [(.ref b33), (.ref cv)])) rfl (by rw [hml]; rfl) (Steps.refl _) (argsL := [(.ref b33)]) (rest := []) (lenOf own_pd11 rfl) rfl (by show 2 * 0 + _ ≤ _; exact Nat.le_of_eq rfl) (hb hby at_237) (fun _ _ => ⟨rfl, e68, (by decide : 13 + 0 ≤ _), (by decide : 54 + 0 ≤ _)⟩)
  dsimp only [Pt.U, Pt.locs, Pt.cells, Pt.slots] at X69 l69 y69 z69 st69 hQ69
  subst l69 y69 z69
  obtain ⟨rfl, N69q, e69⟩ := hQ69
  have N69 := Fr.app N68 N69q
  refine own_step (fun _ k => st69.trans k) ?_
  show own_Fin p e below s _ _ _ (T69.setTop (mkF m 240 #[.val (.int p0), .val (.int p1), .val (.int p2), .val (.int p3), .val (.int p4), .val (.int p5), .val (.ref cv), .val (.ref r1), .val (.ref r2), .val (.ref cv), .val (.ref b8), .val (.ref b33), .val (.int (1 : Int32)), .val (.int (1 : Int32)), .val (.int (1 : Int32)), .val (.int (1 : Int32)), .unset] [(.double FP.dconst0)]))
  refine own_step (fun _ k => XS.dconst0 X69.here hx rfl (hb hby at_240) rfl k) ?_
  refine own_step (fun _ k => XS.dcmpS X69.here hx rfl (hb hby at_241) rfl rfl k) ?_
  refine own_step (fun _ k => XS.ifNo X69.here hx rfl (hb hby at_242) rfl ((if0 _ _).trans (teq hf66).2) k) ?_
  refine own_step (fun _ k => XS.iconst X69.here hx rfl (hb hby at_245) k) ?_
  show own_Fin p e below s _ _ _ (T69.setTop (mkF m 246 #[.val (.int p0), .val (.int p1), .val (.int p2), .val (.int p3), .val (.int p4), .val (.int p5), .val (.ref cv), .val (.ref r1), .val (.ref r2), .val (.ref cv), .val (.ref b8), .val (.ref b33), .val (.int (1 : Int32)), .val (.int (1 : Int32)), .val (.int (1 : Int32)), .val (.int (1 : Int32)), .unset] [(.int (1 : Int32))]))
  refine own_step (fun _ k => XS.goto X69.here hx rfl (pc0 := 246) (pc' := 250) rfl (hb hby at_246) (by decide) (by decide) k) ?_
  refine own_step (fun _ k => XS.istore X69.here hx rfl (hb hby at_250) rfl (l' := #[.val (.int p0), .val (.int p1), .val (.int p2), .val (.int p3), .val (.int p4), .val (.int p5), .val (.ref cv), .val (.ref r1), .val (.ref r2), .val (.ref cv), .val (.ref b8), .val (.ref b33), .val (.int (1 : Int32)), .val (.int (1 : Int32)), .val (.int (1 : Int32)), .val (.int (1 : Int32)), .val (.int (1 : Int32))]) rfl k) ?_
  refine own_step (fun _ k => XS.iload X69.here hx rfl (hb hby at_252) rfl k) ?_
  refine own_step (fun _ k => XS.ifNo X69.here hx rfl (hb hby at_254) rfl ((if0 _ _).trans (feq (by decide : ¬ ((1 : Int32) = (0 : Int32)))).1) k) ?_
  show own_Fin p e below s _ _ _ (T69.setTop (mkF m 257 #[.val (.int p0), .val (.int p1), .val (.int p2), .val (.int p3), .val (.int p4), .val (.int p5), .val (.ref cv), .val (.ref r1), .val (.ref r2), .val (.ref cv), .val (.ref b8), .val (.ref b33), .val (.int (1 : Int32)), .val (.int (1 : Int32)), .val (.int (1 : Int32)), .val (.int (1 : Int32)), .val (.int (1 : Int32))] []))
  refine own_step (fun _ k => XS.iload X69.here hx rfl (hb hby at_257) rfl k) ?_
  refine own_step (fun _ k => XS.ifNo X69.here hx rfl (hb hby at_259) rfl ((if0 _ _).trans (feq (by decide : ¬ ((1 : Int32) = (0 : Int32)))).1) k) ?_
  refine own_step (fun _ k => XS.iload X69.here hx rfl (hb hby at_262) rfl k) ?_
  refine own_step (fun _ k => XS.ifNo X69.here hx rfl (hb hby at_264) rfl ((if0 _ _).trans (feq (by decide : ¬ ((1 : Int32) = (0 : Int32)))).1) k) ?_
  show own_Fin p e below s _ _ _ (T69.setTop (mkF m 267 #[.val (.int p0), .val (.int p1), .val (.int p2), .val (.int p3), .val (.int p4), .val (.int p5), .val (.ref cv), .val (.ref r1), .val (.ref r2), .val (.ref cv), .val (.ref b8), .val (.ref b33), .val (.int (1 : Int32)), .val (.int (1 : Int32)), .val (.int (1 : Int32)), .val (.int (1 : Int32)), .val (.int (1 : Int32))] []))
  refine own_step (fun _ k => XS.iload X69.here hx rfl (hb hby at_267) rfl k) ?_
  refine own_step (fun _ k => XS.ifNo X69.here hx rfl (hb hby at_269) rfl ((if0 _ _).trans (feq (by decide : ¬ ((1 : Int32) = (0 : Int32)))).1) k) ?_
  refine own_step (fun _ k => XS.iload X69.here hx rfl (hb hby at_272) rfl k) ?_
  refine own_step (fun _ k => XS.ifNo X69.here hx rfl (hb hby at_274) rfl ((if0 _ _).trans (feq (by decide : ¬ ((1 : Int32) = (0 : Int32)))).1) k) ?_
  show own_Fin p e below s _ _ _ (T69.setTop (mkF m 277 #[.val (.int p0), .val (.int p1), .val (.int p2), .val (.int p3), .val (.int p4), .val (.int p5), .val (.ref cv), .val (.ref r1), .val (.ref r2), .val (.ref cv), .val (.ref b8), .val (.ref b33), .val (.int (1 : Int32)), .val (.int (1 : Int32)), .val (.int (1 : Int32)), .val (.int (1 : Int32)), .val (.int (1 : Int32))] []))
  refine own_step (fun _ k => XS.iconst X69.here hx rfl (hb hby at_277) k) ?_
  refine own_step (fun _ k => XS.goto X69.here hx rfl (pc0 := 278) (pc' := 282) rfl (hb hby at_278) (by decide) (by decide) k) ?_
  exact own_ret X69 hlk (v := some (.int (1 : Int32))) (fun h => by rw [hret] at h; cases h) (by decide) (by decide) (by show own_Q29 Z p0 p1 p2 p3 p4 p5 cv r1 r2 wjumps_cv wrates_cv uoffset_cv upieces_cv h0 n0 _ T69.heap _; rw [e69]; exact ⟨rfl, N69⟩) (fun fs hr => retN X69 hx (t := .boolean) hret (by simp) (hb hby at_282) hr)

def own_Q30 (Z : State) (p0 : Int32) (p1 : Int32) (p2 : Int32) (p3 : Int32) (p4 : Int32) (p5 : Int32) (cv : Addr) (r1 : Addr) (r2 : Addr) (tb : Addr) (wjumps_cv : Addr) (wrates_cv : Addr) (uoffset_cv : Value) (upieces_cv : Value) (h0 : Heap) (n0 : Nat) (v : Option Value) (h : Heap) (L : List Loc) : Prop := v = some (.int 1) ∧ Fr n0 L
set_option maxRecDepth 65536 in
set_option maxHeartbeats 40000000 in
theorem own_rm30 (l : Launch) (Z : State) (a0 : Array Value) (hw : ∀ d ∈ tables_1, d.before a0 Z = true) {p : Program} {e : Env} {s : State} {m : MethodId} {args : Array Value} {below : List Frame} {meth : Method} {c : Code} (hx : p.tables.exec = Jvm.exec) (hby : c.code = code) (hlk : meth.locks = false) (hml : c.maxLocals = 17) (hret : meth.sig.returnType = ret) (p0 : Int32) (p1 : Int32) (p2 : Int32) (p3 : Int32) (p4 : Int32) (p5 : Int32) (cv : Addr) (r1 : Addr) (r2 : Addr) (tb : Addr) (wjumps_cv : Addr) (wrates_cv : Addr) (uoffset_cv : Value) (upieces_cv : Value) (h0 : Heap) (n0 : Nat) (Z0 : n0 ≤ h0.size) {s₁ : State} {locs : List Loc} (X0 : Stand p l e room_1 s m args below meth c s₁ locs 9 40) (e0 : s₁.heap = h0) (N0 : Fr n0 locs) (hZ : Z.Warmed39 s.vm) (hown : s.vm.findClass "com/example/tandem/tandem/analysis/PseudoAffineClearPinLaw" = some m.cls) (E_cv : Exa Z h0 cv "com/example/tandem/tandem/analysis/PseudoAffine") (F_jumps_cv : Fld Z h0 cv "com/example/tandem/tandem/analysis/PseudoAffine" "jumps" "[D" (.ref wjumps_cv)) (F_rates_cv : Fld Z h0 cv "com/example/tandem/tandem/analysis/PseudoAffine" "rates" "[D" (.ref wrates_cv)) (F_offset_cv : Fld Z h0 cv "com/example/tandem/tandem/analysis/PseudoAffine" "offset" "D" uoffset_cv) (F_pieces_cv : Fld Z h0 cv "com/example/tandem/tandem/analysis/PseudoAffine" "pieces" "I" upieces_cv) (g_cv : n0 ≤ cv) :
    own_Fin p e below s room_1.cells room_1.slots (own_Q30 Z p0 p1 p2 p3 p4 p5 cv r1 r2 tb wjumps_cv wrates_cv uoffset_cv upieces_cv h0 n0) (s₁.setTop (mkF m 132 #[.val (.int p0), .val (.int p1), .val (.int p2), .val (.int p3), .val (.int p4), .val (.int p5), .val (.ref cv), .val (.ref r1), .val (.ref r2), .val (.ref tb), .unset, .unset, .unset, .unset, .unset, .unset, .unset] [])) := by
  have KR : Keep h0 h0 [cv] := Keep.refl _ _
  refine own_step (fun _ k => XS.aload X0.here hx rfl (hb hby at_132) rfl rfl k) ?_
  obtain ⟨cq1, kq1, q1a, q1b, q1c⟩ := isOf hZ e0 E_cv
  obtain ⟨_, _, ⟨T1, L1, k1, n1⟩, -, X1, ⟨Lc1, hQ1, l1, y1, z1⟩, st1⟩ := X0.virtualBack hx (y := own_y10) (z := own_y10) hown (mvT hZ (own_w hw 30 rfl)) (mvT hZ (own_w hw 31 rfl)) (notFace_of_selects (args := #[]) (mvT hZ (own_w hw 33 rfl))) (mvT hZ (own_w hw 33 rfl)) (mvT hZ (own_w hw 32 rfl)) (by decide) (backOf (W := 0) (own_rm5 l Z a0 hw [] cv wjumps_cv wrates_cv uoffset_cv upieces_cv h0 n0 Z0 E_cv F_jumps_cv F_rates_cv F_offset_cv F_pieces_cv g_cv) hZ (own_w hw 34 rfl) (own_w hw 2 rfl) (by decide) (by decide)) q1a q1c (g := (mkF m 134 #[.val (.int p0), .val (.int p1), .val (.int p2), .val (.int p3), .val (.int p4), .val (.int p5), .val (.ref cv), .val (.ref r1), .val (.ref r2), .val (.ref tb), .unset, .unset, .unset, .unset, .unset, .unset, .unset] [(.ref cv)])) rfl (by rw [hml]; rfl) (Steps.refl _) (argsL := []) (rest := []) (lenOf own_pd4 rfl) rfl (by show 2 * 0 + _ ≤ _; exact Nat.le_of_eq rfl) (hb hby at_134) (fun _ _ => ⟨rfl, e0, (by decide : 9 + 0 ≤ _), (by decide : 40 + 0 ≤ _)⟩)
  dsimp only [Pt.U, Pt.locs, Pt.cells, Pt.slots] at X1 l1 y1 z1 st1 hQ1
  subst l1 y1 z1
  obtain ⟨N1q, K1q, rfl, G2, G3, G4, G5, G6⟩ := hQ1
  have N1 := Fr.app N0 N1q
  have K1 : Keep h0 T1.heap [cv] := KR.trans K1q (allS (P := fun x => x ∈ [cv] ∨ h0.size ≤ x) (Or.inl (List.mem_of_getElem? (i := 0) rfl)) all0)
  have Z1 : n0 ≤ T1.heap.size := Nat.le_trans Z0 K1q.1
  have G7 := (E_cv.keep K1q)
  refine own_step (fun _ k => st1.trans k) ?_
  show own_Fin p e below s _ _ _ (T1.setTop (mkF m 137 #[.val (.int p0), .val (.int p1), .val (.int p2), .val (.int p3), .val (.int p4), .val (.int p5), .val (.ref cv), .val (.ref r1), .val (.ref r2), .val (.ref tb), .unset, .unset, .unset, .unset, .unset, .unset, .unset] [(.ref cv)]))
  refine own_step (fun _ k => XS.astore X1.here hx rfl (hb hby at_137) rfl rfl (l' := #[.val (.int p0), .val (.int p1), .val (.int p2), .val (.int p3), .val (.int p4), .val (.int p5), .val (.ref cv), .val (.ref r1), .val (.ref r2), .val (.ref cv), .unset, .unset, .unset, .unset, .unset, .unset, .unset]) rfl k) ?_
  obtain ⟨T8, h8, X8, e8, E8, A8, D8, -, st8⟩ := newO X1 hx hZ hown (own_w hw 0 rfl) (own_w hw 1 rfl) (own_w hw 2 rfl) rfl (g := (mkF m 139 #[.val (.int p0), .val (.int p1), .val (.int p2), .val (.int p3), .val (.int p4), .val (.int p5), .val (.ref cv), .val (.ref r1), .val (.ref r2), .val (.ref cv), .unset, .unset, .unset, .unset, .unset, .unset, .unset] [])) rfl (hb hby at_139) (by decide) (by decide)
  obtain ⟨b8, g8⟩ : ∃ z, z = T1.heap.size := ⟨_, rfl⟩
  rw [← g8] at A8 D8 st8
  have ne8_cv : cv ≠ b8 := Nat.ne_of_lt (Nat.lt_of_lt_of_le G2.lt (Nat.le_of_eq g8.symm))
  have gg8 : n0 ≤ b8 := Nat.le_trans Z1 (Nat.le_of_eq g8.symm)
  have sz8 : h0.size ≤ b8 := Nat.le_trans K1.1 (Nat.le_of_eq g8.symm)
  have K8 : Keep h0 h8 [cv] := K1.ext E8
  have Z8 : n0 ≤ h8.size := Nat.le_trans Z1 E8.1
  have G9 := (G2.ext E8)
  have G10 := (G3.ext E8)
  have G11 := (G4.ext E8)
  have G12 := (G5.ext E8)
  have G13 := (G6.ext E8)
  have G14 : Fld Z h8 b8 "com/example/tandem/tandem/analysis/PseudoAffine" "jumps" "[D" .null := D8 (Or.inr (own_w hw 11 rfl)) (ty := (.array .double)) (by decide)
  have G15 : Fld Z h8 b8 "com/example/tandem/tandem/analysis/PseudoAffine" "rates" "[D" .null := D8 (Or.inr (own_w hw 13 rfl)) (ty := (.array .double)) (by decide)
  have G16 : Fld Z h8 b8 "com/example/tandem/tandem/analysis/PseudoAffine" "offset" "D" (.double (0 : UInt64)) := D8 (Or.inl (own_w hw 36 rfl)) (ty := .double) (by decide)
  have G17 : Fld Z h8 b8 "com/example/tandem/tandem/analysis/PseudoAffine" "pieces" "I" (.int (0 : Int32)) := D8 (Or.inl (own_w hw 38 rfl)) (ty := .int) (by decide)
  refine own_step st8 ?_
  show own_Fin p e below s _ _ _ (T8.setTop (mkF m 142 #[.val (.int p0), .val (.int p1), .val (.int p2), .val (.int p3), .val (.int p4), .val (.int p5), .val (.ref cv), .val (.ref r1), .val (.ref r2), .val (.ref cv), .unset, .unset, .unset, .unset, .unset, .unset, .unset] [(.ref b8)]))
  refine own_step (fun _ k => XS.dup X8.here hx rfl (hb hby at_142) rfl rfl k) ?_
  refine own_step (fun _ k => XS.iconst X8.here hx rfl (hb hby at_143) k) ?_
  refine own_step (fun _ k => XS.iload X8.here hx rfl (hb hby at_144) rfl k) ?_
  refine own_step (fun _ k => XS.bipush X8.here hx rfl (hb hby at_146) k) ?_
  show own_Fin p e below s _ _ _ (T8.setTop (mkF m 148 #[.val (.int p0), .val (.int p1), .val (.int p2), .val (.int p3), .val (.int p4), .val (.int p5), .val (.ref cv), .val (.ref r1), .val (.ref r2), .val (.ref cv), .unset, .unset, .unset, .unset, .unset, .unset, .unset] [(.int (13 : Int32)), (.int p4), (.int (1 : Int32)), (.ref b8), (.ref b8)]))
  refine own_step (fun _ k => XS.iushr X8.here hx rfl (hb hby at_148) rfl k) ?_
  refine own_step (fun _ k => XS.iconst X8.here hx rfl (hb hby at_149) k) ?_
  refine own_step (fun _ k => XS.iand X8.here hx rfl (hb hby at_150) rfl k) ?_
  refine own_step (fun _ k => XS.iadd X8.here hx rfl (hb hby at_151) rfl k) ?_
  show own_Fin p e below s _ _ _ (T8.setTop (mkF m 152 #[.val (.int p0), .val (.int p1), .val (.int p2), .val (.int p3), .val (.int p4), .val (.int p5), .val (.ref cv), .val (.ref r1), .val (.ref r2), .val (.ref cv), .unset, .unset, .unset, .unset, .unset, .unset, .unset] [(.int ((1 : Int32) + (((p4.toUInt32 >>> ((13 : Int32) &&& 31).toUInt32).toInt32) &&& (3 : Int32)))), (.ref b8), (.ref b8)]))
  obtain ⟨_, _, ⟨T18, L18, k18, n18⟩, -, X18, ⟨Lc18, hQ18, l18, y18, z18⟩, st18⟩ := X8.specialBack hx (y := own_y11) rfl hown (mvT hZ (own_w hw 3 rfl)) (mvT hZ (own_w hw 4 rfl)) (mvT hZ (own_w hw 5 rfl)) (by decide) (backOf (W := 1) (own_rm1 l Z a0 hw [] b8 (((1 : Int32) + (((p4.toUInt32 >>> ((13 : Int32) &&& 31).toUInt32).toInt32) &&& (3 : Int32)))) .null .null ((.double (0 : UInt64))) ((.int (0 : Int32))) h8 n0 Z8 A8 G14 G15 G16 G17 (show ¬ (((1 : Int32) + (((p4.toUInt32 >>> ((13 : Int32) &&& 31).toUInt32).toInt32) &&& (3 : Int32))) < (0 : Int32)) from own_one0 p4) (show ((1 : Int32) + (((p4.toUInt32 >>> ((13 : Int32) &&& 31).toUInt32).toInt32) &&& (3 : Int32))).toNatClampNeg ≤ 4 from own_one4 p4) gg8) hZ (own_w hw 5 rfl) (own_w hw 2 rfl) (by decide) (by decide)) (g := (mkF m 152 #[.val (.int p0), .val (.int p1), .val (.int p2), .val (.int p3), .val (.int p4), .val (.int p5), .val (.ref cv), .val (.ref r1), .val (.ref r2), .val (.ref cv), .unset, .unset, .unset, .unset, .unset, .unset, .unset] [(.int ((1 : Int32) + (((p4.toUInt32 >>> ((13 : Int32) &&& 31).toUInt32).toInt32) &&& (3 : Int32)))), (.ref b8), (.ref b8)])) rfl (by rw [hml]; rfl) (Steps.refl _) (a := b8) (argsL := [(.int ((1 : Int32) + (((p4.toUInt32 >>> ((13 : Int32) &&& 31).toUInt32).toInt32) &&& (3 : Int32))))]) (rest := [(.ref b8)]) (lenOf own_pd8 rfl) rfl (by show 2 * 0 + _ ≤ _; exact Nat.le_of_eq rfl) (hb hby at_152) (fun _ _ => ⟨rfl, e8, (by decide : 10 + 2 ≤ _), (by decide : 44 + 8 ≤ _)⟩)
  dsimp only [Pt.U, Pt.locs, Pt.cells, Pt.slots] at X18 l18 y18 z18 st18 hQ18
  subst l18 y18 z18
  obtain ⟨N18q, K18q, b18_o0, gg18_o0, sz18_o0, b18_o1, gg18_o1, sz18_o1, ko0_18, ko1_18, rfl, G19, G20, G21, G22, G23, G24, G25, G26⟩ := hQ18
  have N18 := Fr.app N1 N18q
  have ne18_o0_cv : cv ≠ b18_o0 := Nat.ne_of_lt (Nat.lt_of_lt_of_le G9.lt sz18_o0)
  have ne18_o0_b8 : b8 ≠ b18_o0 := Nat.ne_of_lt (Nat.lt_of_lt_of_le A8.lt sz18_o0)
  have ne18_o1_cv : cv ≠ b18_o1 := Nat.ne_of_lt (Nat.lt_of_lt_of_le G9.lt sz18_o1)
  have ne18_o1_b8 : b8 ≠ b18_o1 := Nat.ne_of_lt (Nat.lt_of_lt_of_le A8.lt sz18_o1)
  have K18 : Keep h0 T18.heap [cv] := K8.trans K18q (allS (P := fun x => x ∈ [cv] ∨ h0.size ≤ x) (Or.inr sz8) all0)
  have Z18 : n0 ≤ T18.heap.size := Nat.le_trans Z8 K18q.1
  have sy18_o0 : h0.size ≤ b18_o0 := Nat.le_trans K8.1 sz18_o0
  have sy18_o1 : h0.size ≤ b18_o1 := Nat.le_trans K8.1 sz18_o1
  have G27 := (G9.keep K18q)
  have G28 := (G10.keep K18q (ninS ne8_cv nin0))
  have G29 := (G11.keep K18q (ninS ne8_cv nin0))
  have G30 := (G12.keep K18q (ninS ne8_cv nin0))
  have G31 := (G13.keep K18q (ninS ne8_cv nin0))
  have G32 := (A8.keep K18q)
  refine own_step (fun _ k => st18.trans k) ?_
  show own_Fin p e below s _ _ _ (T18.setTop (mkF m 155 #[.val (.int p0), .val (.int p1), .val (.int p2), .val (.int p3), .val (.int p4), .val (.int p5), .val (.ref cv), .val (.ref r1), .val (.ref r2), .val (.ref cv), .unset, .unset, .unset, .unset, .unset, .unset, .unset] [(.ref b8)]))
  refine own_step (fun _ k => XS.astore X18.here hx rfl (hb hby at_155) rfl rfl (l' := #[.val (.int p0), .val (.int p1), .val (.int p2), .val (.int p3), .val (.int p4), .val (.int p5), .val (.ref cv), .val (.ref r1), .val (.ref r2), .val (.ref cv), .val (.ref b8), .unset, .unset, .unset, .unset, .unset, .unset]) rfl k) ?_
  obtain ⟨T33, h33, X33, e33, E33, A33, D33, -, st33⟩ := newO X18 hx hZ hown (own_w hw 39 rfl) (own_w hw 40 rfl) (own_w hw 41 rfl) rfl (g := (mkF m 157 #[.val (.int p0), .val (.int p1), .val (.int p2), .val (.int p3), .val (.int p4), .val (.int p5), .val (.ref cv), .val (.ref r1), .val (.ref r2), .val (.ref cv), .val (.ref b8), .unset, .unset, .unset, .unset, .unset, .unset] [])) rfl (hb hby at_157) (by decide) (by decide)
  obtain ⟨b33, g33⟩ : ∃ z, z = T18.heap.size := ⟨_, rfl⟩
  rw [← g33] at A33 D33 st33
  have ne33_cv : cv ≠ b33 := Nat.ne_of_lt (Nat.lt_of_lt_of_le G27.lt (Nat.le_of_eq g33.symm))
  have ne33_b8 : b8 ≠ b33 := Nat.ne_of_lt (Nat.lt_of_lt_of_le G19.lt (Nat.le_of_eq g33.symm))
  have ne33_b18_o0 : b18_o0 ≠ b33 := Nat.ne_of_lt (Nat.lt_of_lt_of_le G24.lt (Nat.le_of_eq g33.symm))
  have ne33_b18_o1 : b18_o1 ≠ b33 := Nat.ne_of_lt (Nat.lt_of_lt_of_le G25.lt (Nat.le_of_eq g33.symm))
  have gg33 : n0 ≤ b33 := Nat.le_trans Z18 (Nat.le_of_eq g33.symm)
  have sz33 : h0.size ≤ b33 := Nat.le_trans K18.1 (Nat.le_of_eq g33.symm)
  have K33 : Keep h0 h33 [cv] := K18.ext E33
  have Z33 : n0 ≤ h33.size := Nat.le_trans Z18 E33.1
  have G34 := (G27.ext E33)
  have G35 := (G28.ext E33)
  have G36 := (G29.ext E33)
  have G37 := (G30.ext E33)
  have G38 := (G31.ext E33)
  have G39 := (G19.ext E33)
  have G40 := (G20.ext E33)
  have G41 := (G21.ext E33)
  have G42 := (G22.ext E33)
  have G43 := (G23.ext E33)
  have G44 := (G24.ext E33)
  have G45 := (G25.ext E33)
  have G46 : Fld Z h33 b33 "com/example/tandem/tandem/model/TokenBucket" "rate" "D" (.double (0 : UInt64)) := D33 (Or.inr (own_w hw 47 rfl)) (ty := .double) (by decide)
  have G47 : Fld Z h33 b33 "com/example/tandem/tandem/model/TokenBucket" "burst" "D" (.double (0 : UInt64)) := D33 (Or.inr (own_w hw 49 rfl)) (ty := .double) (by decide)
  refine own_step st33 ?_
  show own_Fin p e below s _ _ _ (T33.setTop (mkF m 160 #[.val (.int p0), .val (.int p1), .val (.int p2), .val (.int p3), .val (.int p4), .val (.int p5), .val (.ref cv), .val (.ref r1), .val (.ref r2), .val (.ref cv), .val (.ref b8), .unset, .unset, .unset, .unset, .unset, .unset] [(.ref b33)]))
  refine own_step (fun _ k => XS.dup X33.here hx rfl (hb hby at_160) rfl rfl k) ?_
  refine own_step (fun _ k => XS.iloadN X33.here hx rfl (hb hby at_161) rfl k) ?_
  refine own_step (fun _ k => XS.bipush X33.here hx rfl (hb hby at_162) k) ?_
  refine own_step (fun _ k => XS.ishr X33.here hx rfl (hb hby at_164) rfl k) ?_
  show own_Fin p e below s _ _ _ (T33.setTop (mkF m 165 #[.val (.int p0), .val (.int p1), .val (.int p2), .val (.int p3), .val (.int p4), .val (.int p5), .val (.ref cv), .val (.ref r1), .val (.ref r2), .val (.ref cv), .val (.ref b8), .unset, .unset, .unset, .unset, .unset, .unset] [(.int (p0 >>> ((10 : Int32) &&& 31))), (.ref b33), (.ref b33)]))
  refine own_step (fun _ k => XS.sipush X33.here hx rfl (hb hby at_165) k) ?_
  refine own_step (fun _ k => iremM (g := (mkF m 168 #[.val (.int p0), .val (.int p1), .val (.int p2), .val (.int p3), .val (.int p4), .val (.int p5), .val (.ref cv), .val (.ref r1), .val (.ref r2), .val (.ref cv), .val (.ref b8), .unset, .unset, .unset, .unset, .unset, .unset] [(.int (1000 : Int32)), (.int (p0 >>> ((10 : Int32) &&& 31))), (.ref b33), (.ref b33)])) X33 hx rfl (hb hby at_168) rfl (by decide) k) ?_
  refine own_step (fun _ k => XS.i2dS X33.here hx rfl (hb hby at_169) rfl rfl k) ?_
  refine own_step (fun _ k => XS.iloadN X33.here hx rfl (hb hby at_170) rfl k) ?_
  show own_Fin p e below s _ _ _ (T33.setTop (mkF m 171 #[.val (.int p0), .val (.int p1), .val (.int p2), .val (.int p3), .val (.int p4), .val (.int p5), .val (.ref cv), .val (.ref r1), .val (.ref r2), .val (.ref cv), .val (.ref b8), .unset, .unset, .unset, .unset, .unset, .unset] [(.int p1), (.double (FP.i2d ((p0 >>> ((10 : Int32) &&& 31)) % (1000 : Int32)))), (.ref b33), (.ref b33)]))
  refine own_step (fun _ k => XS.bipush X33.here hx rfl (hb hby at_171) k) ?_
  refine own_step (fun _ k => XS.ishr X33.here hx rfl (hb hby at_173) rfl k) ?_
  refine own_step (fun _ k => XS.sipush X33.here hx rfl (hb hby at_174) k) ?_
  refine own_step (fun _ k => iremM (g := (mkF m 177 #[.val (.int p0), .val (.int p1), .val (.int p2), .val (.int p3), .val (.int p4), .val (.int p5), .val (.ref cv), .val (.ref r1), .val (.ref r2), .val (.ref cv), .val (.ref b8), .unset, .unset, .unset, .unset, .unset, .unset] [(.int (1000 : Int32)), (.int (p1 >>> ((10 : Int32) &&& 31))), (.double (FP.i2d ((p0 >>> ((10 : Int32) &&& 31)) % (1000 : Int32)))), (.ref b33), (.ref b33)])) X33 hx rfl (hb hby at_177) rfl (by decide) k) ?_
  show own_Fin p e below s _ _ _ (T33.setTop (mkF m 178 #[.val (.int p0), .val (.int p1), .val (.int p2), .val (.int p3), .val (.int p4), .val (.int p5), .val (.ref cv), .val (.ref r1), .val (.ref r2), .val (.ref cv), .val (.ref b8), .unset, .unset, .unset, .unset, .unset, .unset] [(.int ((p1 >>> ((10 : Int32) &&& 31)) % (1000 : Int32))), (.double (FP.i2d ((p0 >>> ((10 : Int32) &&& 31)) % (1000 : Int32)))), (.ref b33), (.ref b33)]))
  refine own_step (fun _ k => XS.i2dS X33.here hx rfl (hb hby at_178) rfl rfl k) ?_
  obtain ⟨_, _, ⟨T48, L48, k48, n48⟩, -, X48, ⟨Lc48, hQ48, l48, y48, z48⟩, st48⟩ := X33.specialBack hx (y := own_y12) rfl hown (mvT hZ (own_w hw 42 rfl)) (mvT hZ (own_w hw 43 rfl)) (mvT hZ (own_w hw 44 rfl)) (by decide) (backOf (W := 1) (own_rm4 l Z a0 hw [] b33 ((FP.i2d ((p0 >>> ((10 : Int32) &&& 31)) % (1000 : Int32)))) ((FP.i2d ((p1 >>> ((10 : Int32) &&& 31)) % (1000 : Int32)))) ((.double (0 : UInt64))) ((.double (0 : UInt64))) h33 n0 Z33 A33 G46 G47 gg33) hZ (own_w hw 44 rfl) (own_w hw 41 rfl) (by decide) (by decide)) (g := (mkF m 179 #[.val (.int p0), .val (.int p1), .val (.int p2), .val (.int p3), .val (.int p4), .val (.int p5), .val (.ref cv), .val (.ref r1), .val (.ref r2), .val (.ref cv), .val (.ref b8), .unset, .unset, .unset, .unset, .unset, .unset] [(.double (FP.i2d ((p1 >>> ((10 : Int32) &&& 31)) % (1000 : Int32)))), (.double (FP.i2d ((p0 >>> ((10 : Int32) &&& 31)) % (1000 : Int32)))), (.ref b33), (.ref b33)])) rfl (by rw [hml]; rfl) (Steps.refl _) (a := b33) (argsL := [(.double (FP.i2d ((p0 >>> ((10 : Int32) &&& 31)) % (1000 : Int32)))), (.double (FP.i2d ((p1 >>> ((10 : Int32) &&& 31)) % (1000 : Int32))))]) (rest := [(.ref b33)]) (lenOf own_pd9 rfl) rfl (by show 2 * 0 + _ ≤ _; exact Nat.le_of_eq rfl) (hb hby at_179) (fun _ _ => ⟨rfl, e33, (by decide : 13 + 0 ≤ _), (by decide : 54 + 0 ≤ _)⟩)
  dsimp only [Pt.U, Pt.locs, Pt.cells, Pt.slots] at X48 l48 y48 z48 st48 hQ48
  subst l48 y48 z48
  obtain ⟨N48q, K48q, rfl, G49, G50, G51⟩ := hQ48
  have N48 := Fr.app N18 N48q
  have K48 : Keep h0 T48.heap [cv] := K33.trans K48q (allS (P := fun x => x ∈ [cv] ∨ h0.size ≤ x) (Or.inr sz33) all0)
  have Z48 : n0 ≤ T48.heap.size := Nat.le_trans Z33 K48q.1
  have G52 := (G34.keep K48q)
  have G53 := (G35.keep K48q (ninS ne33_cv nin0))
  have G54 := (G36.keep K48q (ninS ne33_cv nin0))
  have G55 := (G37.keep K48q (ninS ne33_cv nin0))
  have G56 := (G38.keep K48q (ninS ne33_cv nin0))
  have G57 := (G39.keep K48q)
  have G58 := (G40.keep K48q (ninS ne33_b8 nin0))
  have G59 := (G41.keep K48q (ninS ne33_b8 nin0))
  have G60 := (G42.keep K48q (ninS ne33_b8 nin0))
  have G61 := (G43.keep K48q (ninS ne33_b8 nin0))
  have G62 := (G44.keep K48q (ninS ne33_b18_o0 nin0))
  have G63 := (G45.keep K48q (ninS ne33_b18_o1 nin0))
  have G64 := (A33.keep K48q)
  refine own_step (fun _ k => st48.trans k) ?_
  show own_Fin p e below s _ _ _ (T48.setTop (mkF m 182 #[.val (.int p0), .val (.int p1), .val (.int p2), .val (.int p3), .val (.int p4), .val (.int p5), .val (.ref cv), .val (.ref r1), .val (.ref r2), .val (.ref cv), .val (.ref b8), .unset, .unset, .unset, .unset, .unset, .unset] [(.ref b33)]))
  refine own_step (fun _ k => XS.astore X48.here hx rfl (hb hby at_182) rfl rfl (l' := #[.val (.int p0), .val (.int p1), .val (.int p2), .val (.int p3), .val (.int p4), .val (.int p5), .val (.ref cv), .val (.ref r1), .val (.ref r2), .val (.ref cv), .val (.ref b8), .val (.ref b33), .unset, .unset, .unset, .unset, .unset]) rfl k) ?_
  refine own_step (fun _ k => XS.aload X48.here hx rfl (hb hby at_184) rfl rfl k) ?_
  refine own_step (fun _ k => XS.aload X48.here hx rfl (hb hby at_186) rfl rfl k) ?_
  refine own_step (fun _ k => Jvm.RoadKit.acmp (g := (mkF m 188 #[.val (.int p0), .val (.int p1), .val (.int p2), .val (.int p3), .val (.int p4), .val (.int p5), .val (.ref cv), .val (.ref r1), .val (.ref r2), .val (.ref cv), .val (.ref b8), .val (.ref b33), .unset, .unset, .unset, .unset, .unset] [(.ref cv), (.ref cv)])) X48 hx rfl rfl rfl (pc0 := 188) (pc' := 191) (same := true) rfl (hb hby at_188) rfl (decide_eq_true rfl) (by decide) (by decide) k) ?_
  show own_Fin p e below s _ _ _ (T48.setTop (mkF m 191 #[.val (.int p0), .val (.int p1), .val (.int p2), .val (.int p3), .val (.int p4), .val (.int p5), .val (.ref cv), .val (.ref r1), .val (.ref r2), .val (.ref cv), .val (.ref b8), .val (.ref b33), .unset, .unset, .unset, .unset, .unset] []))
  refine own_step (fun _ k => XS.iconst X48.here hx rfl (hb hby at_191) k) ?_
  refine own_step (fun _ k => XS.goto X48.here hx rfl (pc0 := 192) (pc' := 196) rfl (hb hby at_192) (by decide) (by decide) k) ?_
  refine own_step (fun _ k => XS.istore X48.here hx rfl (hb hby at_196) rfl (l' := #[.val (.int p0), .val (.int p1), .val (.int p2), .val (.int p3), .val (.int p4), .val (.int p5), .val (.ref cv), .val (.ref r1), .val (.ref r2), .val (.ref cv), .val (.ref b8), .val (.ref b33), .val (.int (1 : Int32)), .unset, .unset, .unset, .unset]) rfl k) ?_
  refine own_step (fun _ k => XS.aload X48.here hx rfl (hb hby at_198) rfl rfl k) ?_
  show own_Fin p e below s _ _ _ (T48.setTop (mkF m 200 #[.val (.int p0), .val (.int p1), .val (.int p2), .val (.int p3), .val (.int p4), .val (.int p5), .val (.ref cv), .val (.ref r1), .val (.ref r2), .val (.ref cv), .val (.ref b8), .val (.ref b33), .val (.int (1 : Int32)), .unset, .unset, .unset, .unset] [(.ref cv)]))
  obtain ⟨cq65, kq65, q65a, q65b, q65c⟩ := isOf hZ rfl G52
  obtain ⟨_, _, ⟨T65, L65, k65, n65⟩, -, X65, ⟨Lc65, hQ65, l65, y65, z65⟩, st65⟩ := X48.virtualBack hx (y := own_y13) (z := own_y13) hown (mvT hZ (own_w hw 50 rfl)) (mvT hZ (own_w hw 51 rfl)) (notFace_of_selects (args := #[]) (mvT hZ (own_w hw 53 rfl))) (mvT hZ (own_w hw 53 rfl)) (mvT hZ (own_w hw 52 rfl)) (by decide) (backOf (W := 0) (own_rm6 l Z a0 hw [] cv FP.dconst0 T48.heap n0 Z48 G55) hZ (own_w hw 54 rfl) (own_w hw 2 rfl) (by decide) (by decide)) q65a q65c (g := (mkF m 200 #[.val (.int p0), .val (.int p1), .val (.int p2), .val (.int p3), .val (.int p4), .val (.int p5), .val (.ref cv), .val (.ref r1), .val (.ref r2), .val (.ref cv), .val (.ref b8), .val (.ref b33), .val (.int (1 : Int32)), .unset, .unset, .unset, .unset] [(.ref cv)])) rfl (by rw [hml]; rfl) (Steps.refl _) (argsL := []) (rest := []) (lenOf own_pd1 rfl) rfl (by show 2 * 0 + _ ≤ _; exact Nat.le_of_eq rfl) (hb hby at_200) (fun _ _ => ⟨rfl, rfl, (by decide : 13 + 0 ≤ _), (by decide : 54 + 0 ≤ _)⟩)
  dsimp only [Pt.U, Pt.locs, Pt.cells, Pt.slots] at X65 l65 y65 z65 st65 hQ65
  subst l65 y65 z65
  obtain ⟨rfl, N65q, e65⟩ := hQ65
  have N65 := Fr.app N48 N65q
  refine own_step (fun _ k => st65.trans k) ?_
  show own_Fin p e below s _ _ _ (T65.setTop (mkF m 203 #[.val (.int p0), .val (.int p1), .val (.int p2), .val (.int p3), .val (.int p4), .val (.int p5), .val (.ref cv), .val (.ref r1), .val (.ref r2), .val (.ref cv), .val (.ref b8), .val (.ref b33), .val (.int (1 : Int32)), .unset, .unset, .unset, .unset] [(.double FP.dconst0)]))
  refine own_step (fun _ k => XS.dconst0 X65.here hx rfl (hb hby at_203) rfl k) ?_
  refine own_step (fun _ k => XS.dcmpS X65.here hx rfl (hb hby at_204) rfl rfl k) ?_
  have hf66 : (cmpValue (FP.dcmp FP.dconst0 FP.dconst0) .l) = (0 : Int32) := by decide +kernel
  refine own_step (fun _ k => XS.ifNo X65.here hx rfl (hb hby at_205) rfl ((if0 _ _).trans (teq hf66).2) k) ?_
  refine own_step (fun _ k => XS.iconst X65.here hx rfl (hb hby at_208) k) ?_
  show own_Fin p e below s _ _ _ (T65.setTop (mkF m 209 #[.val (.int p0), .val (.int p1), .val (.int p2), .val (.int p3), .val (.int p4), .val (.int p5), .val (.ref cv), .val (.ref r1), .val (.ref r2), .val (.ref cv), .val (.ref b8), .val (.ref b33), .val (.int (1 : Int32)), .unset, .unset, .unset, .unset] [(.int (1 : Int32))]))
  refine own_step (fun _ k => XS.goto X65.here hx rfl (pc0 := 209) (pc' := 213) rfl (hb hby at_209) (by decide) (by decide) k) ?_
  refine own_step (fun _ k => XS.istore X65.here hx rfl (hb hby at_213) rfl (l' := #[.val (.int p0), .val (.int p1), .val (.int p2), .val (.int p3), .val (.int p4), .val (.int p5), .val (.ref cv), .val (.ref r1), .val (.ref r2), .val (.ref cv), .val (.ref b8), .val (.ref b33), .val (.int (1 : Int32)), .val (.int (1 : Int32)), .unset, .unset, .unset]) rfl k) ?_
  refine own_step (fun _ k => XS.aload X65.here hx rfl (hb hby at_215) rfl rfl k) ?_
  refine own_step (fun _ k => XS.aload X65.here hx rfl (hb hby at_217) rfl rfl k) ?_
  show own_Fin p e below s _ _ _ (T65.setTop (mkF m 219 #[.val (.int p0), .val (.int p1), .val (.int p2), .val (.int p3), .val (.int p4), .val (.int p5), .val (.ref cv), .val (.ref r1), .val (.ref r2), .val (.ref cv), .val (.ref b8), .val (.ref b33), .val (.int (1 : Int32)), .val (.int (1 : Int32)), .unset, .unset, .unset] [(.ref b8), (.ref cv)]))
  obtain ⟨cq67, kq67, q67a, q67b, q67c⟩ := isOf hZ e65 G52
  obtain ⟨_, _, ⟨T67, L67, k67, n67⟩, -, X67, ⟨Lc67, hQ67, l67, y67, z67⟩, st67⟩ := X65.virtualBack hx (y := own_y14) (z := own_y14) hown (mvT hZ (own_w hw 55 rfl)) (mvT hZ (own_w hw 56 rfl)) (notFace_of_selects (args := #[]) (mvT hZ (own_w hw 58 rfl))) (mvT hZ (own_w hw 58 rfl)) (mvT hZ (own_w hw 57 rfl)) (by decide) (backOf (W := 0) (own_rm27 l Z a0 hw [] cv b8 T48.heap n0 Z48 G57 G59 G56 G58 G55) hZ (own_w hw 59 rfl) (own_w hw 2 rfl) (by decide) (by decide)) q67a q67c (g := (mkF m 219 #[.val (.int p0), .val (.int p1), .val (.int p2), .val (.int p3), .val (.int p4), .val (.int p5), .val (.ref cv), .val (.ref r1), .val (.ref r2), .val (.ref cv), .val (.ref b8), .val (.ref b33), .val (.int (1 : Int32)), .val (.int (1 : Int32)), .unset, .unset, .unset] [(.ref b8), (.ref cv)])) rfl (by rw [hml]; rfl) (Steps.refl _) (argsL := [(.ref b8)]) (rest := []) (lenOf own_pd10 rfl) rfl (by show 2 * 0 + _ ≤ _; exact Nat.le_of_eq rfl) (hb hby at_219) (fun _ _ => ⟨rfl, e65, (by decide : 13 + 0 ≤ _), (by decide : 54 + 0 ≤ _)⟩)
  dsimp only [Pt.U, Pt.locs, Pt.cells, Pt.slots] at X67 l67 y67 z67 st67 hQ67
  subst l67 y67 z67
  obtain ⟨rfl, N67q, e67⟩ := hQ67
  have N67 := Fr.app N65 N67q
  refine own_step (fun _ k => st67.trans k) ?_
  show own_Fin p e below s _ _ _ (T67.setTop (mkF m 222 #[.val (.int p0), .val (.int p1), .val (.int p2), .val (.int p3), .val (.int p4), .val (.int p5), .val (.ref cv), .val (.ref r1), .val (.ref r2), .val (.ref cv), .val (.ref b8), .val (.ref b33), .val (.int (1 : Int32)), .val (.int (1 : Int32)), .unset, .unset, .unset] [(.int (1 : Int32))]))
  refine own_step (fun _ k => XS.istore X67.here hx rfl (hb hby at_222) rfl (l' := #[.val (.int p0), .val (.int p1), .val (.int p2), .val (.int p3), .val (.int p4), .val (.int p5), .val (.ref cv), .val (.ref r1), .val (.ref r2), .val (.ref cv), .val (.ref b8), .val (.ref b33), .val (.int (1 : Int32)), .val (.int (1 : Int32)), .val (.int (1 : Int32)), .unset, .unset]) rfl k) ?_
  refine own_step (fun _ k => XS.aload X67.here hx rfl (hb hby at_224) rfl rfl k) ?_
  refine own_step (fun _ k => XS.aload X67.here hx rfl (hb hby at_226) rfl rfl k) ?_
  obtain ⟨cq68, kq68, q68a, q68b, q68c⟩ := isOf hZ e67 G57
  obtain ⟨_, _, ⟨T68, L68, k68, n68⟩, -, X68, ⟨Lc68, hQ68, l68, y68, z68⟩, st68⟩ := X67.virtualBack hx (y := own_y14) (z := own_y14) hown (mvT hZ (own_w hw 55 rfl)) (mvT hZ (own_w hw 56 rfl)) (notFace_of_selects (args := #[]) (mvT hZ (own_w hw 58 rfl))) (mvT hZ (own_w hw 58 rfl)) (mvT hZ (own_w hw 57 rfl)) (by decide) (backOf (W := 0) (own_rm26 l Z a0 hw [] b8 cv T48.heap n0 Z48 G52 G56 G59 G55 G58) hZ (own_w hw 59 rfl) (own_w hw 2 rfl) (by decide) (by decide)) q68a q68c (g := (mkF m 228 #[.val (.int p0), .val (.int p1), .val (.int p2), .val (.int p3), .val (.int p4), .val (.int p5), .val (.ref cv), .val (.ref r1), .val (.ref r2), .val (.ref cv), .val (.ref b8), .val (.ref b33), .val (.int (1 : Int32)), .val (.int (1 : Int32)), .val (.int (1 : Int32)), .unset, .unset] [(.ref cv), (.ref b8)])) rfl (by rw [hml]; rfl) (Steps.refl _) (argsL := [(.ref cv)]) (rest := []) (lenOf own_pd10 rfl) rfl (by show 2 * 0 + _ ≤ _; exact Nat.le_of_eq rfl) (hb hby at_228) (fun _ _ => ⟨rfl, e67, (by decide : 13 + 0 ≤ _), (by decide : 54 + 0 ≤ _)⟩)
  dsimp only [Pt.U, Pt.locs, Pt.cells, Pt.slots] at X68 l68 y68 z68 st68 hQ68
  subst l68 y68 z68
  obtain ⟨rfl, N68q, e68⟩ := hQ68
  have N68 := Fr.app N67 N68q
  refine own_step (fun _ k => st68.trans k) ?_
  show own_Fin p e below s _ _ _ (T68.setTop (mkF m 231 #[.val (.int p0), .val (.int p1), .val (.int p2), .val (.int p3), .val (.int p4), .val (.int p5), .val (.ref cv), .val (.ref r1), .val (.ref r2), .val (.ref cv), .val (.ref b8), .val (.ref b33), .val (.int (1 : Int32)), .val (.int (1 : Int32)), .val (.int (1 : Int32)), .unset, .unset] [(.int (1 : Int32))]))
  refine own_step (fun _ k => XS.istore X68.here hx rfl (hb hby at_231) rfl (l' := #[.val (.int p0), .val (.int p1), .val (.int p2), .val (.int p3), .val (.int p4), .val (.int p5), .val (.ref cv), .val (.ref r1), .val (.ref r2), .val (.ref cv), .val (.ref b8), .val (.ref b33), .val (.int (1 : Int32)), .val (.int (1 : Int32)), .val (.int (1 : Int32)), .val (.int (1 : Int32)), .unset]) rfl k) ?_
  refine own_step (fun _ k => XS.aload X68.here hx rfl (hb hby at_233) rfl rfl k) ?_
  refine own_step (fun _ k => XS.aload X68.here hx rfl (hb hby at_235) rfl rfl k) ?_
  obtain ⟨cq69, kq69, q69a, q69b, q69c⟩ := isOf hZ e68 G52
  obtain ⟨_, _, ⟨T69, L69, k69, n69⟩, -, X69, ⟨Lc69, hQ69, l69, y69, z69⟩, st69⟩ := X68.virtualBack hx (y := own_y15) (z := own_y15) hown (mvT hZ (own_w hw 75 rfl)) (mvT hZ (own_w hw 76 rfl)) (notFace_of_selects (args := #[]) (mvT hZ (own_w hw 78 rfl))) (mvT hZ (own_w hw 78 rfl)) (mvT hZ (own_w hw 77 rfl)) (by decide) (backOf (W := 0) (own_rm28 l Z a0 hw [] cv b33 ((FP.i2d ((p0 >>> ((10 : Int32) &&& 31)) % (1000 : Int32)))) ((FP.i2d ((p1 >>> ((10 : Int32) &&& 31)) % (1000 : Int32)))) T48.heap n0 Z48 G49 G50 G51 G56) hZ (own_w hw 79 rfl) (own_w hw 2 rfl) (by decide) (by decide)) q69a q69c (g := (mkF m 237 #[.val (.int p0), .val (.int p1), .val (.int p2), .val (.int p3), .val (.int p4), .val (.int p5), .val (.ref cv), .val (.ref r1), .val (.ref r2), .val (.ref cv), .val (.ref b8), .val (.ref b33), .val (.int (1 : Int32)), .val (.int (1 : Int32)), .val (.int (1 : Int32)), .val (.int (1 : Int32)), .unset] [(.ref b33), (.ref cv)])) rfl (by rw [hml]; rfl) (Steps.refl _) (argsL := [(.ref b33)]) (rest := []) (lenOf own_pd11 rfl) rfl (by show 2 * 0 + _ ≤ _; exact Nat.le_of_eq rfl) (hb hby at_237) (fun _ _ => ⟨rfl, e68, (by decide : 13 + 0 ≤ _), (by decide : 54 + 0 ≤ _)⟩)
  dsimp only [Pt.U, Pt.locs, Pt.cells, Pt.slots] at X69 l69 y69 z69 st69 hQ69
  subst l69 y69 z69
  obtain ⟨rfl, N69q, e69⟩ := hQ69
  have N69 := Fr.app N68 N69q
  refine own_step (fun _ k => st69.trans k) ?_
  show own_Fin p e below s _ _ _ (T69.setTop (mkF m 240 #[.val (.int p0), .val (.int p1), .val (.int p2), .val (.int p3), .val (.int p4), .val (.int p5), .val (.ref cv), .val (.ref r1), .val (.ref r2), .val (.ref cv), .val (.ref b8), .val (.ref b33), .val (.int (1 : Int32)), .val (.int (1 : Int32)), .val (.int (1 : Int32)), .val (.int (1 : Int32)), .unset] [(.double FP.dconst0)]))
  refine own_step (fun _ k => XS.dconst0 X69.here hx rfl (hb hby at_240) rfl k) ?_
  refine own_step (fun _ k => XS.dcmpS X69.here hx rfl (hb hby at_241) rfl rfl k) ?_
  refine own_step (fun _ k => XS.ifNo X69.here hx rfl (hb hby at_242) rfl ((if0 _ _).trans (teq hf66).2) k) ?_
  refine own_step (fun _ k => XS.iconst X69.here hx rfl (hb hby at_245) k) ?_
  show own_Fin p e below s _ _ _ (T69.setTop (mkF m 246 #[.val (.int p0), .val (.int p1), .val (.int p2), .val (.int p3), .val (.int p4), .val (.int p5), .val (.ref cv), .val (.ref r1), .val (.ref r2), .val (.ref cv), .val (.ref b8), .val (.ref b33), .val (.int (1 : Int32)), .val (.int (1 : Int32)), .val (.int (1 : Int32)), .val (.int (1 : Int32)), .unset] [(.int (1 : Int32))]))
  refine own_step (fun _ k => XS.goto X69.here hx rfl (pc0 := 246) (pc' := 250) rfl (hb hby at_246) (by decide) (by decide) k) ?_
  refine own_step (fun _ k => XS.istore X69.here hx rfl (hb hby at_250) rfl (l' := #[.val (.int p0), .val (.int p1), .val (.int p2), .val (.int p3), .val (.int p4), .val (.int p5), .val (.ref cv), .val (.ref r1), .val (.ref r2), .val (.ref cv), .val (.ref b8), .val (.ref b33), .val (.int (1 : Int32)), .val (.int (1 : Int32)), .val (.int (1 : Int32)), .val (.int (1 : Int32)), .val (.int (1 : Int32))]) rfl k) ?_
  refine own_step (fun _ k => XS.iload X69.here hx rfl (hb hby at_252) rfl k) ?_
  refine own_step (fun _ k => XS.ifNo X69.here hx rfl (hb hby at_254) rfl ((if0 _ _).trans (feq (by decide : ¬ ((1 : Int32) = (0 : Int32)))).1) k) ?_
  show own_Fin p e below s _ _ _ (T69.setTop (mkF m 257 #[.val (.int p0), .val (.int p1), .val (.int p2), .val (.int p3), .val (.int p4), .val (.int p5), .val (.ref cv), .val (.ref r1), .val (.ref r2), .val (.ref cv), .val (.ref b8), .val (.ref b33), .val (.int (1 : Int32)), .val (.int (1 : Int32)), .val (.int (1 : Int32)), .val (.int (1 : Int32)), .val (.int (1 : Int32))] []))
  refine own_step (fun _ k => XS.iload X69.here hx rfl (hb hby at_257) rfl k) ?_
  refine own_step (fun _ k => XS.ifNo X69.here hx rfl (hb hby at_259) rfl ((if0 _ _).trans (feq (by decide : ¬ ((1 : Int32) = (0 : Int32)))).1) k) ?_
  refine own_step (fun _ k => XS.iload X69.here hx rfl (hb hby at_262) rfl k) ?_
  refine own_step (fun _ k => XS.ifNo X69.here hx rfl (hb hby at_264) rfl ((if0 _ _).trans (feq (by decide : ¬ ((1 : Int32) = (0 : Int32)))).1) k) ?_
  show own_Fin p e below s _ _ _ (T69.setTop (mkF m 267 #[.val (.int p0), .val (.int p1), .val (.int p2), .val (.int p3), .val (.int p4), .val (.int p5), .val (.ref cv), .val (.ref r1), .val (.ref r2), .val (.ref cv), .val (.ref b8), .val (.ref b33), .val (.int (1 : Int32)), .val (.int (1 : Int32)), .val (.int (1 : Int32)), .val (.int (1 : Int32)), .val (.int (1 : Int32))] []))
  refine own_step (fun _ k => XS.iload X69.here hx rfl (hb hby at_267) rfl k) ?_
  refine own_step (fun _ k => XS.ifNo X69.here hx rfl (hb hby at_269) rfl ((if0 _ _).trans (feq (by decide : ¬ ((1 : Int32) = (0 : Int32)))).1) k) ?_
  refine own_step (fun _ k => XS.iload X69.here hx rfl (hb hby at_272) rfl k) ?_
  refine own_step (fun _ k => XS.ifNo X69.here hx rfl (hb hby at_274) rfl ((if0 _ _).trans (feq (by decide : ¬ ((1 : Int32) = (0 : Int32)))).1) k) ?_
  show own_Fin p e below s _ _ _ (T69.setTop (mkF m 277 #[.val (.int p0), .val (.int p1), .val (.int p2), .val (.int p3), .val (.int p4), .val (.int p5), .val (.ref cv), .val (.ref r1), .val (.ref r2), .val (.ref cv), .val (.ref b8), .val (.ref b33), .val (.int (1 : Int32)), .val (.int (1 : Int32)), .val (.int (1 : Int32)), .val (.int (1 : Int32)), .val (.int (1 : Int32))] []))
  refine own_step (fun _ k => XS.iconst X69.here hx rfl (hb hby at_277) k) ?_
  refine own_step (fun _ k => XS.goto X69.here hx rfl (pc0 := 278) (pc' := 282) rfl (hb hby at_278) (by decide) (by decide) k) ?_
  exact own_ret X69 hlk (v := some (.int (1 : Int32))) (fun h => by rw [hret] at h; cases h) (by decide) (by decide) (by show own_Q30 Z p0 p1 p2 p3 p4 p5 cv r1 r2 tb wjumps_cv wrates_cv uoffset_cv upieces_cv h0 n0 _ T69.heap _; rw [e69]; exact ⟨rfl, N69⟩) (fun fs hr => retN X69 hx (t := .boolean) hret (by simp) (hb hby at_282) hr)

abbrev own_y16 : MethodName := (⟨"com/example/tandem/tandem/model/RateLatency", "<init>", "(DD)V"⟩ : MethodName)
theorem own_pd12 : parseMethodDescriptor "(Lcom/example/tandem/tandem/model/TokenBucket;D)Lcom/example/tandem/tandem/analysis/PseudoAffine;" = some ⟨[(.object "com/example/tandem/tandem/model/TokenBucket"), .double], some (.object "com/example/tandem/tandem/analysis/PseudoAffine")⟩ := by decide +kernel
abbrev own_y17 : MethodName := (⟨"com/example/tandem/tandem/analysis/PseudoAffine", "leaveOver", "(Lcom/example/tandem/tandem/model/TokenBucket;D)Lcom/example/tandem/tandem/analysis/PseudoAffine;"⟩ : MethodName)
theorem own_pd13 : parseMethodDescriptor "(Lcom/example/tandem/tandem/model/RateLatency;)Lcom/example/tandem/tandem/analysis/PseudoAffine;" = some ⟨[(.object "com/example/tandem/tandem/model/RateLatency")], some (.object "com/example/tandem/tandem/analysis/PseudoAffine")⟩ := by decide +kernel
abbrev own_y18 : MethodName := (⟨"com/example/tandem/tandem/analysis/PseudoAffine", "concatenate", "(Lcom/example/tandem/tandem/model/RateLatency;)Lcom/example/tandem/tandem/analysis/PseudoAffine;"⟩ : MethodName)
theorem own_pn5 : plainName "com/example/tandem/tandem/analysis/PseudoAffineClearPinLaw" = true := by first | (simp [plainName, overriddenIn]; done) | decide +kernel
theorem own_ef31 (m : MethodId) (p0 : Int32) (p1 : Int32) (p2 : Int32) (p3 : Int32) (p4 : Int32) (p5 : Int32) : entryFrame m #[(.int p0), (.int p1), (.int p2), (.int p3), (.int p4), (.int p5)] maxLocals = mkF m 0 #[.val (.int p0), .val (.int p1), .val (.int p2), .val (.int p3), .val (.int p4), .val (.int p5), .unset, .unset, .unset, .unset, .unset, .unset, .unset, .unset, .unset, .unset, .unset] [] := by first | (simp [entryFrame, mkF, argsToLocals, Value.category, maxLocals]; done) | rfl
def own_Q31 (Z : State) (p0 : Int32) (p1 : Int32) (p2 : Int32) (p3 : Int32) (p4 : Int32) (p5 : Int32) (h0 : Heap) (n0 : Nat) (v : Option Value) (h : Heap) (L : List Loc) : Prop := v = some (.int 1) ∧ Fr n0 L
set_option maxRecDepth 65536 in
set_option maxHeartbeats 40000000 in
theorem own_rm31 (l : Launch) (Z : State) (a0 : Array Value) (hw : ∀ d ∈ tables_1, d.before a0 Z = true) (ws : List Jvm.Cond) (p0 : Int32) (p1 : Int32) (p2 : Int32) (p3 : Int32) (p4 : Int32) (p5 : Int32) (h0 : Heap) (n0 : Nat) (Z0 : n0 ≤ h0.size) :
    MetFree l x (head1 (Jvm.Cond.code x code maxLocals ret :: ws) room_1) (fun a U => a = #[(.int p0), (.int p1), (.int p2), (.int p3), (.int p4), (.int p5)] ∧ Z.Warmed39 U.vm ∧ U.heap = h0) (fun _ _ _ _ _ => True) (fun _ U o U' => ∃ v L, o = .returned v ∧ own_Q31 Z p0 p1 p2 p3 p4 p5 h0 n0 v U'.heap L ∧ FrameEnd U o U' L room_1.cells room_1.slots) := by
  refine MetFree.of_bodySF (plainFor_of_name own_pn5) hisR ?_
  intro p e s m args below meth c s₁ Bd hml0 hP hK
  obtain ⟨rfl, hZ, hh⟩ := hP
  have hx := Bd.exec
  have hby := Bd.bytes
  have hlk := Bd.notSynchronized
  have hml : c.maxLocals = 17 := hml0
  have hown : s.vm.findClass "com/example/tandem/tandem/analysis/PseudoAffineClearPinLaw" = some m.cls := findClass_of_methodNamed Bd.named
  have hnm := (name_of_methodNamed Bd.named Bd.method).1
  have X0 : Stand p l e room_1 s m #[(.int p0), (.int p1), (.int p2), (.int p3), (.int p4), (.int p5)] below meth c s₁ [] 0 0 := Stand.of_body Bd
  have e0 : s₁.heap = h0 := by rw [← hh, Bd.state]; rfl
  have N0 := Fr.nil n0
  have KR : Keep h0 h0 [] := Keep.refl _ _
  show own_Fin p e below s room_1.cells room_1.slots (own_Q31 Z p0 p1 p2 p3 p4 p5 h0 n0) (s₁.setTop (entryFrame m #[(.int p0), (.int p1), (.int p2), (.int p3), (.int p4), (.int p5)] maxLocals))
  refine own_cast (own_ef31 m p0 p1 p2 p3 p4 p5) ?_
  obtain ⟨T1, h1, X1, e1, E1, A1, D1, -, st1⟩ := newO X0 hx hZ hown (own_w hw 0 rfl) (own_w hw 1 rfl) (own_w hw 2 rfl) e0 (g := (mkF m 0 #[.val (.int p0), .val (.int p1), .val (.int p2), .val (.int p3), .val (.int p4), .val (.int p5), .unset, .unset, .unset, .unset, .unset, .unset, .unset, .unset, .unset, .unset, .unset] [])) rfl (hb hby at_0) (by decide) (by decide)
  obtain ⟨b1, g1⟩ : ∃ z, z = h0.size := ⟨_, rfl⟩
  rw [← g1] at A1 D1 st1
  have gg1 : n0 ≤ b1 := Nat.le_trans Z0 (Nat.le_of_eq g1.symm)
  have sz1 : h0.size ≤ b1 := Nat.le_trans KR.1 (Nat.le_of_eq g1.symm)
  have K1 : Keep h0 h1 [] := KR.ext E1
  have Z1 : n0 ≤ h1.size := Nat.le_trans Z0 E1.1
  have G2 : Fld Z h1 b1 "com/example/tandem/tandem/analysis/PseudoAffine" "jumps" "[D" .null := D1 (Or.inr (own_w hw 11 rfl)) (ty := (.array .double)) (by decide)
  have G3 : Fld Z h1 b1 "com/example/tandem/tandem/analysis/PseudoAffine" "rates" "[D" .null := D1 (Or.inr (own_w hw 13 rfl)) (ty := (.array .double)) (by decide)
  have G4 : Fld Z h1 b1 "com/example/tandem/tandem/analysis/PseudoAffine" "offset" "D" (.double (0 : UInt64)) := D1 (Or.inl (own_w hw 36 rfl)) (ty := .double) (by decide)
  have G5 : Fld Z h1 b1 "com/example/tandem/tandem/analysis/PseudoAffine" "pieces" "I" (.int (0 : Int32)) := D1 (Or.inl (own_w hw 38 rfl)) (ty := .int) (by decide)
  refine own_step st1 ?_
  show own_Fin p e below s _ _ _ (T1.setTop (mkF m 3 #[.val (.int p0), .val (.int p1), .val (.int p2), .val (.int p3), .val (.int p4), .val (.int p5), .unset, .unset, .unset, .unset, .unset, .unset, .unset, .unset, .unset, .unset, .unset] [(.ref b1)]))
  refine own_step (fun _ k => XS.dup X1.here hx rfl (hb hby at_3) rfl rfl k) ?_
  refine own_step (fun _ k => XS.iconst X1.here hx rfl (hb hby at_4) k) ?_
  obtain ⟨_, _, ⟨T6, L6, k6, n6⟩, -, X6, ⟨Lc6, hQ6, l6, y6, z6⟩, st6⟩ := X1.specialBack hx (y := own_y11) rfl hown (mvT hZ (own_w hw 3 rfl)) (mvT hZ (own_w hw 4 rfl)) (mvT hZ (own_w hw 5 rfl)) (by decide) (backOf (W := 1) (own_rm1 l Z a0 hw [] b1 ((4 : Int32)) .null .null ((.double (0 : UInt64))) ((.int (0 : Int32))) h1 n0 Z1 A1 G2 G3 G4 G5 (show ¬ ((4 : Int32) < (0 : Int32)) from (by decide)) (show (4 : Int32).toNatClampNeg ≤ 4 from (by decide)) gg1) hZ (own_w hw 5 rfl) (own_w hw 2 rfl) (by decide) (by decide)) (g := (mkF m 5 #[.val (.int p0), .val (.int p1), .val (.int p2), .val (.int p3), .val (.int p4), .val (.int p5), .unset, .unset, .unset, .unset, .unset, .unset, .unset, .unset, .unset, .unset, .unset] [(.int (4 : Int32)), (.ref b1), (.ref b1)])) rfl (by rw [hml]; rfl) (Steps.refl _) (a := b1) (argsL := [(.int (4 : Int32))]) (rest := [(.ref b1)]) (lenOf own_pd8 rfl) rfl (by show 2 * 0 + _ ≤ _; exact Nat.le_of_eq rfl) (hb hby at_5) (fun _ _ => ⟨rfl, e1, (by decide : 1 + 2 ≤ _), (by decide : 4 + 8 ≤ _)⟩)
  dsimp only [Pt.U, Pt.locs, Pt.cells, Pt.slots] at X6 l6 y6 z6 st6 hQ6
  subst l6 y6 z6
  obtain ⟨N6q, K6q, b6_o0, gg6_o0, sz6_o0, b6_o1, gg6_o1, sz6_o1, ko0_6, ko1_6, rfl, G7, G8, G9, G10, G11, G12, G13, G14⟩ := hQ6
  have N6 := Fr.app N0 N6q
  have ne6_o0_b1 : b1 ≠ b6_o0 := Nat.ne_of_lt (Nat.lt_of_lt_of_le A1.lt sz6_o0)
  have ne6_o1_b1 : b1 ≠ b6_o1 := Nat.ne_of_lt (Nat.lt_of_lt_of_le A1.lt sz6_o1)
  have K6 : Keep h0 T6.heap [] := K1.trans K6q (allS (P := fun x => x ∈ [] ∨ h0.size ≤ x) (Or.inr sz1) all0)
  have Z6 : n0 ≤ T6.heap.size := Nat.le_trans Z1 K6q.1
  have sy6_o0 : h0.size ≤ b6_o0 := Nat.le_trans K1.1 sz6_o0
  have sy6_o1 : h0.size ≤ b6_o1 := Nat.le_trans K1.1 sz6_o1
  have G15 := (A1.keep K6q)
  refine own_step (fun _ k => st6.trans k) ?_
  show own_Fin p e below s _ _ _ (T6.setTop (mkF m 8 #[.val (.int p0), .val (.int p1), .val (.int p2), .val (.int p3), .val (.int p4), .val (.int p5), .unset, .unset, .unset, .unset, .unset, .unset, .unset, .unset, .unset, .unset, .unset] [(.ref b1)]))
  refine own_step (fun _ k => XS.astore X6.here hx rfl (hb hby at_8) rfl rfl (l' := #[.val (.int p0), .val (.int p1), .val (.int p2), .val (.int p3), .val (.int p4), .val (.int p5), .val (.ref b1), .unset, .unset, .unset, .unset, .unset, .unset, .unset, .unset, .unset, .unset]) rfl k) ?_
  obtain ⟨T16, h16, X16, e16, E16, A16, D16, -, st16⟩ := newO X6 hx hZ hown (own_w hw 14 rfl) (own_w hw 15 rfl) (own_w hw 16 rfl) rfl (g := (mkF m 10 #[.val (.int p0), .val (.int p1), .val (.int p2), .val (.int p3), .val (.int p4), .val (.int p5), .val (.ref b1), .unset, .unset, .unset, .unset, .unset, .unset, .unset, .unset, .unset, .unset] [])) rfl (hb hby at_10) (by decide) (by decide)
  obtain ⟨b16, g16⟩ : ∃ z, z = T6.heap.size := ⟨_, rfl⟩
  rw [← g16] at A16 D16 st16
  have ne16_b1 : b1 ≠ b16 := Nat.ne_of_lt (Nat.lt_of_lt_of_le G7.lt (Nat.le_of_eq g16.symm))
  have ne16_b6_o0 : b6_o0 ≠ b16 := Nat.ne_of_lt (Nat.lt_of_lt_of_le G12.lt (Nat.le_of_eq g16.symm))
  have ne16_b6_o1 : b6_o1 ≠ b16 := Nat.ne_of_lt (Nat.lt_of_lt_of_le G13.lt (Nat.le_of_eq g16.symm))
  have gg16 : n0 ≤ b16 := Nat.le_trans Z6 (Nat.le_of_eq g16.symm)
  have sz16 : h0.size ≤ b16 := Nat.le_trans K6.1 (Nat.le_of_eq g16.symm)
  have K16 : Keep h0 h16 [] := K6.ext E16
  have Z16 : n0 ≤ h16.size := Nat.le_trans Z6 E16.1
  have G17 := (G7.ext E16)
  have G18 := (G8.ext E16)
  have G19 := (G9.ext E16)
  have G20 := (G10.ext E16)
  have G21 := (G11.ext E16)
  have G22 := (G12.ext E16)
  have G23 := (G13.ext E16)
  have G24 : Fld Z h16 b16 "com/example/tandem/tandem/model/RateLatency" "rate" "D" (.double (0 : UInt64)) := D16 (Or.inr (own_w hw 27 rfl)) (ty := .double) (by decide)
  have G25 : Fld Z h16 b16 "com/example/tandem/tandem/model/RateLatency" "latency" "D" (.double (0 : UInt64)) := D16 (Or.inr (own_w hw 29 rfl)) (ty := .double) (by decide)
  refine own_step st16 ?_
  show own_Fin p e below s _ _ _ (T16.setTop (mkF m 13 #[.val (.int p0), .val (.int p1), .val (.int p2), .val (.int p3), .val (.int p4), .val (.int p5), .val (.ref b1), .unset, .unset, .unset, .unset, .unset, .unset, .unset, .unset, .unset, .unset] [(.ref b16)]))
  refine own_step (fun _ k => XS.dup X16.here hx rfl (hb hby at_13) rfl rfl k) ?_
  refine own_step (fun _ k => XS.iloadN X16.here hx rfl (hb hby at_14) rfl k) ?_
  refine own_step (fun _ k => XS.sipush X16.here hx rfl (hb hby at_15) k) ?_
  refine own_step (fun _ k => iremM (g := (mkF m 18 #[.val (.int p0), .val (.int p1), .val (.int p2), .val (.int p3), .val (.int p4), .val (.int p5), .val (.ref b1), .unset, .unset, .unset, .unset, .unset, .unset, .unset, .unset, .unset, .unset] [(.int (1000 : Int32)), (.int p0), (.ref b16), (.ref b16)])) X16 hx rfl (hb hby at_18) rfl (by decide) k) ?_
  show own_Fin p e below s _ _ _ (T16.setTop (mkF m 19 #[.val (.int p0), .val (.int p1), .val (.int p2), .val (.int p3), .val (.int p4), .val (.int p5), .val (.ref b1), .unset, .unset, .unset, .unset, .unset, .unset, .unset, .unset, .unset, .unset] [(.int (p0 % (1000 : Int32))), (.ref b16), (.ref b16)]))
  refine own_step (fun _ k => XS.i2dS X16.here hx rfl (hb hby at_19) rfl rfl k) ?_
  refine own_step (fun _ k => XS.iloadN X16.here hx rfl (hb hby at_20) rfl k) ?_
  refine own_step (fun _ k => XS.sipush X16.here hx rfl (hb hby at_21) k) ?_
  refine own_step (fun _ k => iremM (g := (mkF m 24 #[.val (.int p0), .val (.int p1), .val (.int p2), .val (.int p3), .val (.int p4), .val (.int p5), .val (.ref b1), .unset, .unset, .unset, .unset, .unset, .unset, .unset, .unset, .unset, .unset] [(.int (1000 : Int32)), (.int p1), (.double (FP.i2d (p0 % (1000 : Int32)))), (.ref b16), (.ref b16)])) X16 hx rfl (hb hby at_24) rfl (by decide) k) ?_
  show own_Fin p e below s _ _ _ (T16.setTop (mkF m 25 #[.val (.int p0), .val (.int p1), .val (.int p2), .val (.int p3), .val (.int p4), .val (.int p5), .val (.ref b1), .unset, .unset, .unset, .unset, .unset, .unset, .unset, .unset, .unset, .unset] [(.int (p1 % (1000 : Int32))), (.double (FP.i2d (p0 % (1000 : Int32)))), (.ref b16), (.ref b16)]))
  refine own_step (fun _ k => XS.i2dS X16.here hx rfl (hb hby at_25) rfl rfl k) ?_
  obtain ⟨_, _, ⟨T26, L26, k26, n26⟩, -, X26, ⟨Lc26, hQ26, l26, y26, z26⟩, st26⟩ := X16.specialBack hx (y := own_y16) rfl hown (mvT hZ (own_w hw 17 rfl)) (mvT hZ (own_w hw 18 rfl)) (mvT hZ (own_w hw 19 rfl)) (by decide) (backOf (W := 1) (own_rm3 l Z a0 hw [] b16 ((FP.i2d (p0 % (1000 : Int32)))) ((FP.i2d (p1 % (1000 : Int32)))) ((.double (0 : UInt64))) ((.double (0 : UInt64))) h16 n0 Z16 A16 G24 G25 gg16) hZ (own_w hw 19 rfl) (own_w hw 16 rfl) (by decide) (by decide)) (g := (mkF m 26 #[.val (.int p0), .val (.int p1), .val (.int p2), .val (.int p3), .val (.int p4), .val (.int p5), .val (.ref b1), .unset, .unset, .unset, .unset, .unset, .unset, .unset, .unset, .unset, .unset] [(.double (FP.i2d (p1 % (1000 : Int32)))), (.double (FP.i2d (p0 % (1000 : Int32)))), (.ref b16), (.ref b16)])) rfl (by rw [hml]; rfl) (Steps.refl _) (a := b16) (argsL := [(.double (FP.i2d (p0 % (1000 : Int32)))), (.double (FP.i2d (p1 % (1000 : Int32))))]) (rest := [(.ref b16)]) (lenOf own_pd9 rfl) rfl (by show 2 * 0 + _ ≤ _; exact Nat.le_of_eq rfl) (hb hby at_26) (fun _ _ => ⟨rfl, e16, (by decide : 4 + 0 ≤ _), (by decide : 14 + 0 ≤ _)⟩)
  dsimp only [Pt.U, Pt.locs, Pt.cells, Pt.slots] at X26 l26 y26 z26 st26 hQ26
  subst l26 y26 z26
  obtain ⟨N26q, K26q, rfl, G27, G28, G29⟩ := hQ26
  have N26 := Fr.app N6 N26q
  have K26 : Keep h0 T26.heap [] := K16.trans K26q (allS (P := fun x => x ∈ [] ∨ h0.size ≤ x) (Or.inr sz16) all0)
  have Z26 : n0 ≤ T26.heap.size := Nat.le_trans Z16 K26q.1
  have G30 := (G17.keep K26q)
  have G31 := (G18.keep K26q (ninS ne16_b1 nin0))
  have G32 := (G19.keep K26q (ninS ne16_b1 nin0))
  have G33 := (G20.keep K26q (ninS ne16_b1 nin0))
  have G34 := (G21.keep K26q (ninS ne16_b1 nin0))
  have G35 := (G22.keep K26q (ninS ne16_b6_o0 nin0))
  have G36 := (G23.keep K26q (ninS ne16_b6_o1 nin0))
  have G37 := (A16.keep K26q)
  refine own_step (fun _ k => st26.trans k) ?_
  show own_Fin p e below s _ _ _ (T26.setTop (mkF m 29 #[.val (.int p0), .val (.int p1), .val (.int p2), .val (.int p3), .val (.int p4), .val (.int p5), .val (.ref b1), .unset, .unset, .unset, .unset, .unset, .unset, .unset, .unset, .unset, .unset] [(.ref b16)]))
  refine own_step (fun _ k => XS.astore X26.here hx rfl (hb hby at_29) rfl rfl (l' := #[.val (.int p0), .val (.int p1), .val (.int p2), .val (.int p3), .val (.int p4), .val (.int p5), .val (.ref b1), .val (.ref b16), .unset, .unset, .unset, .unset, .unset, .unset, .unset, .unset, .unset]) rfl k) ?_
  obtain ⟨T38, h38, X38, e38, E38, A38, D38, -, st38⟩ := newO X26 hx hZ hown (own_w hw 14 rfl) (own_w hw 15 rfl) (own_w hw 16 rfl) rfl (g := (mkF m 31 #[.val (.int p0), .val (.int p1), .val (.int p2), .val (.int p3), .val (.int p4), .val (.int p5), .val (.ref b1), .val (.ref b16), .unset, .unset, .unset, .unset, .unset, .unset, .unset, .unset, .unset] [])) rfl (hb hby at_31) (by decide) (by decide)
  obtain ⟨b38, g38⟩ : ∃ z, z = T26.heap.size := ⟨_, rfl⟩
  rw [← g38] at A38 D38 st38
  have ne38_b1 : b1 ≠ b38 := Nat.ne_of_lt (Nat.lt_of_lt_of_le G30.lt (Nat.le_of_eq g38.symm))
  have ne38_b6_o0 : b6_o0 ≠ b38 := Nat.ne_of_lt (Nat.lt_of_lt_of_le G35.lt (Nat.le_of_eq g38.symm))
  have ne38_b6_o1 : b6_o1 ≠ b38 := Nat.ne_of_lt (Nat.lt_of_lt_of_le G36.lt (Nat.le_of_eq g38.symm))
  have ne38_b16 : b16 ≠ b38 := Nat.ne_of_lt (Nat.lt_of_lt_of_le G27.lt (Nat.le_of_eq g38.symm))
  have gg38 : n0 ≤ b38 := Nat.le_trans Z26 (Nat.le_of_eq g38.symm)
  have sz38 : h0.size ≤ b38 := Nat.le_trans K26.1 (Nat.le_of_eq g38.symm)
  have K38 : Keep h0 h38 [] := K26.ext E38
  have Z38 : n0 ≤ h38.size := Nat.le_trans Z26 E38.1
  have G39 := (G30.ext E38)
  have G40 := (G31.ext E38)
  have G41 := (G32.ext E38)
  have G42 := (G33.ext E38)
  have G43 := (G34.ext E38)
  have G44 := (G35.ext E38)
  have G45 := (G36.ext E38)
  have G46 := (G27.ext E38)
  have G47 := (G28.ext E38)
  have G48 := (G29.ext E38)
  have G49 : Fld Z h38 b38 "com/example/tandem/tandem/model/RateLatency" "rate" "D" (.double (0 : UInt64)) := D38 (Or.inr (own_w hw 27 rfl)) (ty := .double) (by decide)
  have G50 : Fld Z h38 b38 "com/example/tandem/tandem/model/RateLatency" "latency" "D" (.double (0 : UInt64)) := D38 (Or.inr (own_w hw 29 rfl)) (ty := .double) (by decide)
  refine own_step st38 ?_
  show own_Fin p e below s _ _ _ (T38.setTop (mkF m 34 #[.val (.int p0), .val (.int p1), .val (.int p2), .val (.int p3), .val (.int p4), .val (.int p5), .val (.ref b1), .val (.ref b16), .unset, .unset, .unset, .unset, .unset, .unset, .unset, .unset, .unset] [(.ref b38)]))
  refine own_step (fun _ k => XS.dup X38.here hx rfl (hb hby at_34) rfl rfl k) ?_
  refine own_step (fun _ k => XS.iloadN X38.here hx rfl (hb hby at_35) rfl k) ?_
  refine own_step (fun _ k => XS.sipush X38.here hx rfl (hb hby at_36) k) ?_
  refine own_step (fun _ k => iremM (g := (mkF m 39 #[.val (.int p0), .val (.int p1), .val (.int p2), .val (.int p3), .val (.int p4), .val (.int p5), .val (.ref b1), .val (.ref b16), .unset, .unset, .unset, .unset, .unset, .unset, .unset, .unset, .unset] [(.int (1000 : Int32)), (.int p2), (.ref b38), (.ref b38)])) X38 hx rfl (hb hby at_39) rfl (by decide) k) ?_
  show own_Fin p e below s _ _ _ (T38.setTop (mkF m 40 #[.val (.int p0), .val (.int p1), .val (.int p2), .val (.int p3), .val (.int p4), .val (.int p5), .val (.ref b1), .val (.ref b16), .unset, .unset, .unset, .unset, .unset, .unset, .unset, .unset, .unset] [(.int (p2 % (1000 : Int32))), (.ref b38), (.ref b38)]))
  refine own_step (fun _ k => XS.i2dS X38.here hx rfl (hb hby at_40) rfl rfl k) ?_
  refine own_step (fun _ k => XS.iloadN X38.here hx rfl (hb hby at_41) rfl k) ?_
  refine own_step (fun _ k => XS.sipush X38.here hx rfl (hb hby at_42) k) ?_
  refine own_step (fun _ k => iremM (g := (mkF m 45 #[.val (.int p0), .val (.int p1), .val (.int p2), .val (.int p3), .val (.int p4), .val (.int p5), .val (.ref b1), .val (.ref b16), .unset, .unset, .unset, .unset, .unset, .unset, .unset, .unset, .unset] [(.int (1000 : Int32)), (.int p3), (.double (FP.i2d (p2 % (1000 : Int32)))), (.ref b38), (.ref b38)])) X38 hx rfl (hb hby at_45) rfl (by decide) k) ?_
  show own_Fin p e below s _ _ _ (T38.setTop (mkF m 46 #[.val (.int p0), .val (.int p1), .val (.int p2), .val (.int p3), .val (.int p4), .val (.int p5), .val (.ref b1), .val (.ref b16), .unset, .unset, .unset, .unset, .unset, .unset, .unset, .unset, .unset] [(.int (p3 % (1000 : Int32))), (.double (FP.i2d (p2 % (1000 : Int32)))), (.ref b38), (.ref b38)]))
  refine own_step (fun _ k => XS.i2dS X38.here hx rfl (hb hby at_46) rfl rfl k) ?_
  obtain ⟨_, _, ⟨T51, L51, k51, n51⟩, -, X51, ⟨Lc51, hQ51, l51, y51, z51⟩, st51⟩ := X38.specialBack hx (y := own_y16) rfl hown (mvT hZ (own_w hw 17 rfl)) (mvT hZ (own_w hw 18 rfl)) (mvT hZ (own_w hw 19 rfl)) (by decide) (backOf (W := 1) (own_rm3 l Z a0 hw [] b38 ((FP.i2d (p2 % (1000 : Int32)))) ((FP.i2d (p3 % (1000 : Int32)))) ((.double (0 : UInt64))) ((.double (0 : UInt64))) h38 n0 Z38 A38 G49 G50 gg38) hZ (own_w hw 19 rfl) (own_w hw 16 rfl) (by decide) (by decide)) (g := (mkF m 47 #[.val (.int p0), .val (.int p1), .val (.int p2), .val (.int p3), .val (.int p4), .val (.int p5), .val (.ref b1), .val (.ref b16), .unset, .unset, .unset, .unset, .unset, .unset, .unset, .unset, .unset] [(.double (FP.i2d (p3 % (1000 : Int32)))), (.double (FP.i2d (p2 % (1000 : Int32)))), (.ref b38), (.ref b38)])) rfl (by rw [hml]; rfl) (Steps.refl _) (a := b38) (argsL := [(.double (FP.i2d (p2 % (1000 : Int32)))), (.double (FP.i2d (p3 % (1000 : Int32))))]) (rest := [(.ref b38)]) (lenOf own_pd9 rfl) rfl (by show 2 * 0 + _ ≤ _; exact Nat.le_of_eq rfl) (hb hby at_47) (fun _ _ => ⟨rfl, e38, (by decide : 5 + 0 ≤ _), (by decide : 16 + 0 ≤ _)⟩)
  dsimp only [Pt.U, Pt.locs, Pt.cells, Pt.slots] at X51 l51 y51 z51 st51 hQ51
  subst l51 y51 z51
  obtain ⟨N51q, K51q, rfl, G52, G53, G54⟩ := hQ51
  have N51 := Fr.app N26 N51q
  have K51 : Keep h0 T51.heap [] := K38.trans K51q (allS (P := fun x => x ∈ [] ∨ h0.size ≤ x) (Or.inr sz38) all0)
  have Z51 : n0 ≤ T51.heap.size := Nat.le_trans Z38 K51q.1
  have G55 := (G39.keep K51q)
  have G56 := (G40.keep K51q (ninS ne38_b1 nin0))
  have G57 := (G41.keep K51q (ninS ne38_b1 nin0))
  have G58 := (G42.keep K51q (ninS ne38_b1 nin0))
  have G59 := (G43.keep K51q (ninS ne38_b1 nin0))
  have G60 := (G44.keep K51q (ninS ne38_b6_o0 nin0))
  have G61 := (G45.keep K51q (ninS ne38_b6_o1 nin0))
  have G62 := (G46.keep K51q)
  have G63 := (G47.keep K51q (ninS ne38_b16 nin0))
  have G64 := (G48.keep K51q (ninS ne38_b16 nin0))
  have G65 := (A38.keep K51q)
  refine own_step (fun _ k => st51.trans k) ?_
  show own_Fin p e below s _ _ _ (T51.setTop (mkF m 50 #[.val (.int p0), .val (.int p1), .val (.int p2), .val (.int p3), .val (.int p4), .val (.int p5), .val (.ref b1), .val (.ref b16), .unset, .unset, .unset, .unset, .unset, .unset, .unset, .unset, .unset] [(.ref b38)]))
  refine own_step (fun _ k => XS.astore X51.here hx rfl (hb hby at_50) rfl rfl (l' := #[.val (.int p0), .val (.int p1), .val (.int p2), .val (.int p3), .val (.int p4), .val (.int p5), .val (.ref b1), .val (.ref b16), .val (.ref b38), .unset, .unset, .unset, .unset, .unset, .unset, .unset, .unset]) rfl k) ?_
  refine own_step (fun _ k => XS.iload X51.here hx rfl (hb hby at_52) rfl k) ?_
  refine own_step (fun _ k => XS.iconst X51.here hx rfl (hb hby at_54) k) ?_
  refine own_step (fun _ k => XS.iand X51.here hx rfl (hb hby at_55) rfl k) ?_
  show own_Fin p e below s _ _ _ (T51.setTop (mkF m 56 #[.val (.int p0), .val (.int p1), .val (.int p2), .val (.int p3), .val (.int p4), .val (.int p5), .val (.ref b1), .val (.ref b16), .val (.ref b38), .unset, .unset, .unset, .unset, .unset, .unset, .unset, .unset] [(.int (p4 &&& (1 : Int32)))]))
  by_cases hc66 : (p4 &&& (1 : Int32)) = (0 : Int32)
  · refine own_step (fun _ k => XS.ifYes X51.here hx rfl (pc0 := 56) (pc' := 67) rfl (hb hby at_56) rfl ((if0 _ _).trans (teq hc66).1) (by decide) (by decide) k) ?_
    refine own_step (fun _ k => XS.iload X51.here hx rfl (hb hby at_67) rfl k) ?_
    refine own_step (fun _ k => XS.iconst X51.here hx rfl (hb hby at_69) k) ?_
    refine own_step (fun _ k => XS.iand X51.here hx rfl (hb hby at_70) rfl k) ?_
    show own_Fin p e below s _ _ _ (T51.setTop (mkF m 71 #[.val (.int p0), .val (.int p1), .val (.int p2), .val (.int p3), .val (.int p4), .val (.int p5), .val (.ref b1), .val (.ref b16), .val (.ref b38), .unset, .unset, .unset, .unset, .unset, .unset, .unset, .unset] [(.int (p4 &&& (2 : Int32)))]))
    by_cases hc67 : (p4 &&& (2 : Int32)) = (0 : Int32)
    · refine own_step (fun _ k => XS.ifYes X51.here hx rfl (pc0 := 71) (pc' := 82) rfl (hb hby at_71) rfl ((if0 _ _).trans (teq hc67).1) (by decide) (by decide) k) ?_
      refine own_step (fun _ k => XS.iload X51.here hx rfl (hb hby at_82) rfl k) ?_
      refine own_step (fun _ k => XS.iconst X51.here hx rfl (hb hby at_84) k) ?_
      refine own_step (fun _ k => XS.iand X51.here hx rfl (hb hby at_85) rfl k) ?_
      show own_Fin p e below s _ _ _ (T51.setTop (mkF m 86 #[.val (.int p0), .val (.int p1), .val (.int p2), .val (.int p3), .val (.int p4), .val (.int p5), .val (.ref b1), .val (.ref b16), .val (.ref b38), .unset, .unset, .unset, .unset, .unset, .unset, .unset, .unset] [(.int (p4 &&& (4 : Int32)))]))
      by_cases hc68 : (p4 &&& (4 : Int32)) = (0 : Int32)
      · refine own_step (fun _ k => XS.ifYes X51.here hx rfl (pc0 := 86) (pc' := 132) rfl (hb hby at_86) rfl ((if0 _ _).trans (teq hc68).1) (by decide) (by decide) k) ?_
        exact own_rm29 l Z a0 hw hx hby hlk hml Bd.returns p0 p1 p2 p3 p4 p5 b1 b16 b38 b6_o0 b6_o1 ((.double (0 : UInt64))) ((.int (0 : Int32))) T51.heap n0 Z51 (X51.more (by decide : 5 ≤ _) (by decide : 16 ≤ _)) rfl N51 hZ hown G55 G58 G59 G56 G57 gg1
      · refine own_step (fun _ k => XS.ifNo X51.here hx rfl (hb hby at_86) rfl ((if0 _ _).trans (feq hc68).1) k) ?_
        obtain ⟨T69, h69, X69, e69, E69, A69, D69, -, st69⟩ := newO X51 hx hZ hown (own_w hw 39 rfl) (own_w hw 40 rfl) (own_w hw 41 rfl) rfl (g := (mkF m 89 #[.val (.int p0), .val (.int p1), .val (.int p2), .val (.int p3), .val (.int p4), .val (.int p5), .val (.ref b1), .val (.ref b16), .val (.ref b38), .unset, .unset, .unset, .unset, .unset, .unset, .unset, .unset] [])) rfl (hb hby at_89) (by decide) (by decide)
        obtain ⟨b69, g69⟩ : ∃ z, z = T51.heap.size := ⟨_, rfl⟩
        rw [← g69] at A69 D69 st69
        have ne69_b1 : b1 ≠ b69 := Nat.ne_of_lt (Nat.lt_of_lt_of_le G55.lt (Nat.le_of_eq g69.symm))
        have ne69_b6_o0 : b6_o0 ≠ b69 := Nat.ne_of_lt (Nat.lt_of_lt_of_le G60.lt (Nat.le_of_eq g69.symm))
        have ne69_b6_o1 : b6_o1 ≠ b69 := Nat.ne_of_lt (Nat.lt_of_lt_of_le G61.lt (Nat.le_of_eq g69.symm))
        have ne69_b16 : b16 ≠ b69 := Nat.ne_of_lt (Nat.lt_of_lt_of_le G62.lt (Nat.le_of_eq g69.symm))
        have ne69_b38 : b38 ≠ b69 := Nat.ne_of_lt (Nat.lt_of_lt_of_le G52.lt (Nat.le_of_eq g69.symm))
        have gg69 : n0 ≤ b69 := Nat.le_trans Z51 (Nat.le_of_eq g69.symm)
        have sz69 : h0.size ≤ b69 := Nat.le_trans K51.1 (Nat.le_of_eq g69.symm)
        have K69 : Keep h0 h69 [] := K51.ext E69
        have Z69 : n0 ≤ h69.size := Nat.le_trans Z51 E69.1
        have G70 := (G55.ext E69)
        have G71 := (G56.ext E69)
        have G72 := (G57.ext E69)
        have G73 := (G58.ext E69)
        have G74 := (G59.ext E69)
        have G75 := (G60.ext E69)
        have G76 := (G61.ext E69)
        have G77 := (G62.ext E69)
        have G78 := (G63.ext E69)
        have G79 := (G64.ext E69)
        have G80 := (G52.ext E69)
        have G81 := (G53.ext E69)
        have G82 := (G54.ext E69)
        have G83 : Fld Z h69 b69 "com/example/tandem/tandem/model/TokenBucket" "rate" "D" (.double (0 : UInt64)) := D69 (Or.inr (own_w hw 47 rfl)) (ty := .double) (by decide)
        have G84 : Fld Z h69 b69 "com/example/tandem/tandem/model/TokenBucket" "burst" "D" (.double (0 : UInt64)) := D69 (Or.inr (own_w hw 49 rfl)) (ty := .double) (by decide)
        refine own_step st69 ?_
        show own_Fin p e below s _ _ _ (T69.setTop (mkF m 92 #[.val (.int p0), .val (.int p1), .val (.int p2), .val (.int p3), .val (.int p4), .val (.int p5), .val (.ref b1), .val (.ref b16), .val (.ref b38), .unset, .unset, .unset, .unset, .unset, .unset, .unset, .unset] [(.ref b69)]))
        refine own_step (fun _ k => XS.dup X69.here hx rfl (hb hby at_92) rfl rfl k) ?_
        refine own_step (fun _ k => XS.iload X69.here hx rfl (hb hby at_93) rfl k) ?_
        refine own_step (fun _ k => XS.sipush X69.here hx rfl (hb hby at_95) k) ?_
        refine own_step (fun _ k => iremM (g := (mkF m 98 #[.val (.int p0), .val (.int p1), .val (.int p2), .val (.int p3), .val (.int p4), .val (.int p5), .val (.ref b1), .val (.ref b16), .val (.ref b38), .unset, .unset, .unset, .unset, .unset, .unset, .unset, .unset] [(.int (1000 : Int32)), (.int p5), (.ref b69), (.ref b69)])) X69 hx rfl (hb hby at_98) rfl (by decide) k) ?_
        show own_Fin p e below s _ _ _ (T69.setTop (mkF m 99 #[.val (.int p0), .val (.int p1), .val (.int p2), .val (.int p3), .val (.int p4), .val (.int p5), .val (.ref b1), .val (.ref b16), .val (.ref b38), .unset, .unset, .unset, .unset, .unset, .unset, .unset, .unset] [(.int (p5 % (1000 : Int32))), (.ref b69), (.ref b69)]))
        refine own_step (fun _ k => XS.i2dS X69.here hx rfl (hb hby at_99) rfl rfl k) ?_
        refine own_step (fun _ k => XS.iload X69.here hx rfl (hb hby at_100) rfl k) ?_
        refine own_step (fun _ k => XS.bipush X69.here hx rfl (hb hby at_102) k) ?_
        refine own_step (fun _ k => XS.ishr X69.here hx rfl (hb hby at_104) rfl k) ?_
        show own_Fin p e below s _ _ _ (T69.setTop (mkF m 105 #[.val (.int p0), .val (.int p1), .val (.int p2), .val (.int p3), .val (.int p4), .val (.int p5), .val (.ref b1), .val (.ref b16), .val (.ref b38), .unset, .unset, .unset, .unset, .unset, .unset, .unset, .unset] [(.int (p5 >>> ((10 : Int32) &&& 31))), (.double (FP.i2d (p5 % (1000 : Int32)))), (.ref b69), (.ref b69)]))
        refine own_step (fun _ k => XS.sipush X69.here hx rfl (hb hby at_105) k) ?_
        refine own_step (fun _ k => iremM (g := (mkF m 108 #[.val (.int p0), .val (.int p1), .val (.int p2), .val (.int p3), .val (.int p4), .val (.int p5), .val (.ref b1), .val (.ref b16), .val (.ref b38), .unset, .unset, .unset, .unset, .unset, .unset, .unset, .unset] [(.int (1000 : Int32)), (.int (p5 >>> ((10 : Int32) &&& 31))), (.double (FP.i2d (p5 % (1000 : Int32)))), (.ref b69), (.ref b69)])) X69 hx rfl (hb hby at_108) rfl (by decide) k) ?_
        refine own_step (fun _ k => XS.i2dS X69.here hx rfl (hb hby at_109) rfl rfl k) ?_
        obtain ⟨_, _, ⟨T85, L85, k85, n85⟩, -, X85, ⟨Lc85, hQ85, l85, y85, z85⟩, st85⟩ := X69.specialBack hx (y := own_y12) rfl hown (mvT hZ (own_w hw 42 rfl)) (mvT hZ (own_w hw 43 rfl)) (mvT hZ (own_w hw 44 rfl)) (by decide) (backOf (W := 1) (own_rm4 l Z a0 hw [] b69 ((FP.i2d (p5 % (1000 : Int32)))) ((FP.i2d ((p5 >>> ((10 : Int32) &&& 31)) % (1000 : Int32)))) ((.double (0 : UInt64))) ((.double (0 : UInt64))) h69 n0 Z69 A69 G83 G84 gg69) hZ (own_w hw 44 rfl) (own_w hw 41 rfl) (by decide) (by decide)) (g := (mkF m 110 #[.val (.int p0), .val (.int p1), .val (.int p2), .val (.int p3), .val (.int p4), .val (.int p5), .val (.ref b1), .val (.ref b16), .val (.ref b38), .unset, .unset, .unset, .unset, .unset, .unset, .unset, .unset] [(.double (FP.i2d ((p5 >>> ((10 : Int32) &&& 31)) % (1000 : Int32)))), (.double (FP.i2d (p5 % (1000 : Int32)))), (.ref b69), (.ref b69)])) rfl (by rw [hml]; rfl) (Steps.refl _) (a := b69) (argsL := [(.double (FP.i2d (p5 % (1000 : Int32)))), (.double (FP.i2d ((p5 >>> ((10 : Int32) &&& 31)) % (1000 : Int32))))]) (rest := [(.ref b69)]) (lenOf own_pd9 rfl) rfl (by show 2 * 0 + _ ≤ _; exact Nat.le_of_eq rfl) (hb hby at_110) (fun _ _ => ⟨rfl, e69, (by decide : 6 + 0 ≤ _), (by decide : 18 + 0 ≤ _)⟩)
        dsimp only [Pt.U, Pt.locs, Pt.cells, Pt.slots] at X85 l85 y85 z85 st85 hQ85
        subst l85 y85 z85
        obtain ⟨N85q, K85q, rfl, G86, G87, G88⟩ := hQ85
        have N85 := Fr.app N51 N85q
        have K85 : Keep h0 T85.heap [] := K69.trans K85q (allS (P := fun x => x ∈ [] ∨ h0.size ≤ x) (Or.inr sz69) all0)
        have Z85 : n0 ≤ T85.heap.size := Nat.le_trans Z69 K85q.1
        have G89 := (G70.keep K85q)
        have G90 := (G71.keep K85q (ninS ne69_b1 nin0))
        have G91 := (G72.keep K85q (ninS ne69_b1 nin0))
        have G92 := (G73.keep K85q (ninS ne69_b1 nin0))
        have G93 := (G74.keep K85q (ninS ne69_b1 nin0))
        have G94 := (G75.keep K85q (ninS ne69_b6_o0 nin0))
        have G95 := (G76.keep K85q (ninS ne69_b6_o1 nin0))
        have G96 := (G77.keep K85q)
        have G97 := (G78.keep K85q (ninS ne69_b16 nin0))
        have G98 := (G79.keep K85q (ninS ne69_b16 nin0))
        have G99 := (G80.keep K85q)
        have G100 := (G81.keep K85q (ninS ne69_b38 nin0))
        have G101 := (G82.keep K85q (ninS ne69_b38 nin0))
        have G102 := (A69.keep K85q)
        refine own_step (fun _ k => st85.trans k) ?_
        show own_Fin p e below s _ _ _ (T85.setTop (mkF m 113 #[.val (.int p0), .val (.int p1), .val (.int p2), .val (.int p3), .val (.int p4), .val (.int p5), .val (.ref b1), .val (.ref b16), .val (.ref b38), .unset, .unset, .unset, .unset, .unset, .unset, .unset, .unset] [(.ref b69)]))
        refine own_step (fun _ k => XS.astore X85.here hx rfl (hb hby at_113) rfl rfl (l' := #[.val (.int p0), .val (.int p1), .val (.int p2), .val (.int p3), .val (.int p4), .val (.int p5), .val (.ref b1), .val (.ref b16), .val (.ref b38), .val (.ref b69), .unset, .unset, .unset, .unset, .unset, .unset, .unset]) rfl k) ?_
        refine own_step (fun _ k => XS.aload X85.here hx rfl (hb hby at_115) rfl rfl k) ?_
        refine own_step (fun _ k => XS.aload X85.here hx rfl (hb hby at_117) rfl rfl k) ?_
        refine own_step (fun _ k => XS.iload X85.here hx rfl (hb hby at_119) rfl k) ?_
        show own_Fin p e below s _ _ _ (T85.setTop (mkF m 121 #[.val (.int p0), .val (.int p1), .val (.int p2), .val (.int p3), .val (.int p4), .val (.int p5), .val (.ref b1), .val (.ref b16), .val (.ref b38), .val (.ref b69), .unset, .unset, .unset, .unset, .unset, .unset, .unset] [(.int p4), (.ref b69), (.ref b1)]))
        refine own_step (fun _ k => XS.iconst X85.here hx rfl (hb hby at_121) k) ?_
        refine own_step (fun _ k => XS.iushr X85.here hx rfl (hb hby at_122) rfl k) ?_
        refine own_step (fun _ k => XS.sipush X85.here hx rfl (hb hby at_123) k) ?_
        refine own_step (fun _ k => XS.iand X85.here hx rfl (hb hby at_126) rfl k) ?_
        show own_Fin p e below s _ _ _ (T85.setTop (mkF m 127 #[.val (.int p0), .val (.int p1), .val (.int p2), .val (.int p3), .val (.int p4), .val (.int p5), .val (.ref b1), .val (.ref b16), .val (.ref b38), .val (.ref b69), .unset, .unset, .unset, .unset, .unset, .unset, .unset] [(.int (((p4.toUInt32 >>> ((3 : Int32) &&& 31).toUInt32).toInt32) &&& (1023 : Int32))), (.ref b69), (.ref b1)]))
        refine own_step (fun _ k => XS.i2dS X85.here hx rfl (hb hby at_127) rfl rfl k) ?_
        obtain ⟨cq103, kq103, q103a, q103b, q103c⟩ := isOf hZ rfl G89
        obtain ⟨_, _, ⟨T103, L103, k103, n103⟩, -, X103, ⟨Lc103, hQ103, l103, y103, z103⟩, st103⟩ := X85.virtualBack hx (y := own_y17) (z := own_y17) hown (mvT hZ (own_w hw 105 rfl)) (mvT hZ (own_w hw 106 rfl)) (notFace_of_selects (args := #[]) (mvT hZ (own_w hw 108 rfl))) (mvT hZ (own_w hw 108 rfl)) (mvT hZ (own_w hw 107 rfl)) (by decide) (backOf (W := 0) (own_rm15 l Z a0 hw [] b1 b69 ((FP.i2d (((p4.toUInt32 >>> ((3 : Int32) &&& 31).toUInt32).toInt32) &&& (1023 : Int32)))) (((p5 >>> ((10 : Int32) &&& 31)) % (1000 : Int32))) ((p5 % (1000 : Int32))) b6_o0 b6_o1 ((0 : UInt64)) ko0_6 ko1_6 T85.heap n0 Z85 (show Jvm.Free.Fl.Mag64 1056 (FP.i2d (((p4.toUInt32 >>> ((3 : Int32) &&& 31).toUInt32).toInt32) &&& (1023 : Int32))) from ((Jvm.Free.Fl.i2d_mag ((((p4.toUInt32 >>> ((3 : Int32) &&& 31).toUInt32).toInt32) &&& (1023 : Int32)))).mono (by decide))) G89 G92 G93 (show Jvm.Free.Fl.Mag64 1100 (0 : UInt64) from ((own_mz).mono (by decide))) G90 G91 G94 G95 G86 G88 G87 gg1 (Ne.symm ne6_o0_b1) (Ne.symm ne6_o1_b1) (Ne.symm ne69_b1)) hZ (own_w hw 109 rfl) (own_w hw 2 rfl) (by decide) (by decide)) q103a q103c (g := (mkF m 128 #[.val (.int p0), .val (.int p1), .val (.int p2), .val (.int p3), .val (.int p4), .val (.int p5), .val (.ref b1), .val (.ref b16), .val (.ref b38), .val (.ref b69), .unset, .unset, .unset, .unset, .unset, .unset, .unset] [(.double (FP.i2d (((p4.toUInt32 >>> ((3 : Int32) &&& 31).toUInt32).toInt32) &&& (1023 : Int32)))), (.ref b69), (.ref b1)])) rfl (by rw [hml]; rfl) (Steps.refl _) (argsL := [(.ref b69), (.double (FP.i2d (((p4.toUInt32 >>> ((3 : Int32) &&& 31).toUInt32).toInt32) &&& (1023 : Int32))))]) (rest := []) (lenOf own_pd12 rfl) rfl (by show 2 * 0 + _ ≤ _; exact Nat.le_of_eq rfl) (hb hby at_128) (fun _ _ => ⟨rfl, rfl, (by decide : 6 + 0 ≤ _), (by decide : 18 + 0 ≤ _)⟩)
        dsimp only [Pt.U, Pt.locs, Pt.cells, Pt.slots] at X103 l103 y103 z103 st103 hQ103
        subst l103 y103 z103
        obtain ⟨N103q, K103q, uo0_103, rfl, G104, G105, G106, G107, G108⟩ := hQ103
        have N103 := Fr.app N85 N103q
        have K103 : Keep h0 T103.heap [] := K85.trans K103q (allS (P := fun x => x ∈ [] ∨ h0.size ≤ x) (Or.inr sz1) all0)
        have Z103 : n0 ≤ T103.heap.size := Nat.le_trans Z85 K103q.1
        have G109 := (G89.keep K103q)
        have G110 := (G94.keep K103q (ninS (Ne.symm ne6_o0_b1) nin0))
        have G111 := (G95.keep K103q (ninS (Ne.symm ne6_o1_b1) nin0))
        have G112 := (G96.keep K103q)
        have G113 := (G97.keep K103q (ninS (Ne.symm ne16_b1) nin0))
        have G114 := (G98.keep K103q (ninS (Ne.symm ne16_b1) nin0))
        have G115 := (G99.keep K103q)
        have G116 := (G100.keep K103q (ninS (Ne.symm ne38_b1) nin0))
        have G117 := (G101.keep K103q (ninS (Ne.symm ne38_b1) nin0))
        have G118 := (G86.keep K103q)
        have G119 := (G87.keep K103q (ninS (Ne.symm ne69_b1) nin0))
        have G120 := (G88.keep K103q (ninS (Ne.symm ne69_b1) nin0))
        refine own_step (fun _ k => st103.trans k) ?_
        show own_Fin p e below s _ _ _ (T103.setTop (mkF m 131 #[.val (.int p0), .val (.int p1), .val (.int p2), .val (.int p3), .val (.int p4), .val (.int p5), .val (.ref b1), .val (.ref b16), .val (.ref b38), .val (.ref b69), .unset, .unset, .unset, .unset, .unset, .unset, .unset] [(.ref b1)]))
        refine own_step (fun _ k => XS.pop X103.here hx rfl (hb hby at_131) rfl rfl k) ?_
        exact own_rm30 l Z a0 hw hx hby hlk hml Bd.returns p0 p1 p2 p3 p4 p5 b1 b16 b38 b69 b6_o0 b6_o1 uo0_103 ((.int (0 : Int32))) T103.heap n0 Z103 (X103.more (by decide : 6 ≤ _) (by decide : 18 ≤ _)) rfl N103 hZ hown G104 G105 G106 G108 G107 gg1
    · refine own_step (fun _ k => XS.ifNo X51.here hx rfl (hb hby at_71) rfl ((if0 _ _).trans (feq hc67).1) k) ?_
      refine own_step (fun _ k => XS.aload X51.here hx rfl (hb hby at_74) rfl rfl k) ?_
      refine own_step (fun _ k => XS.aload X51.here hx rfl (hb hby at_76) rfl rfl k) ?_
      obtain ⟨cq121, kq121, q121a, q121b, q121c⟩ := isOf hZ rfl G55
      obtain ⟨_, _, ⟨T121, L121, k121, n121⟩, -, X121, ⟨Lc121, hQ121, l121, y121, z121⟩, st121⟩ := X51.virtualBack hx (y := own_y18) (z := own_y18) hown (mvT hZ (own_w hw 90 rfl)) (mvT hZ (own_w hw 91 rfl)) (notFace_of_selects (args := #[]) (mvT hZ (own_w hw 93 rfl))) (mvT hZ (own_w hw 93 rfl)) (mvT hZ (own_w hw 92 rfl)) (by decide) (backOf (W := 0) (own_rm12 l Z a0 hw [] b1 b38 b6_o0 b6_o1 ((0 : UInt64)) ko0_6 ((0 : UInt64)) ((0 : UInt64)) ko1_6 ((0 : UInt64)) ((0 : UInt64)) ((FP.i2d (p3 % (1000 : Int32)))) ((FP.i2d (p2 % (1000 : Int32)))) T51.heap n0 Z51 G55 G58 G59 (show Jvm.Free.Fl.Mag64 1100 (0 : UInt64) from ((own_mz).mono (by decide))) G56 G57 G60 G61 G52 (show Jvm.Free.Fl.Mag64 1056 (FP.i2d (p3 % (1000 : Int32))) from ((Jvm.Free.Fl.i2d_mag ((p3 % (1000 : Int32)))).mono (by decide))) G54 G53 gg1 (Ne.symm ne6_o0_b1) (Ne.symm ne6_o1_b1) (Ne.symm ne38_b1) gg6_o0 ne6_o0_b1 (Ne.symm G14) (Ne.symm ne38_b6_o0) gg6_o1 ne6_o1_b1 (Ne.symm ne38_b6_o1) G14) hZ (own_w hw 94 rfl) (own_w hw 2 rfl) (by decide) (by decide)) q121a q121c (g := (mkF m 78 #[.val (.int p0), .val (.int p1), .val (.int p2), .val (.int p3), .val (.int p4), .val (.int p5), .val (.ref b1), .val (.ref b16), .val (.ref b38), .unset, .unset, .unset, .unset, .unset, .unset, .unset, .unset] [(.ref b38), (.ref b1)])) rfl (by rw [hml]; rfl) (Steps.refl _) (argsL := [(.ref b38)]) (rest := []) (lenOf own_pd13 rfl) rfl (by show 2 * 0 + _ ≤ _; exact Nat.le_of_eq rfl) (hb hby at_78) (fun _ _ => ⟨rfl, rfl, (by decide : 5 + 0 ≤ _), (by decide : 16 + 0 ≤ _)⟩)
      dsimp only [Pt.U, Pt.locs, Pt.cells, Pt.slots] at X121 l121 y121 z121 st121 hQ121
      subst l121 y121 z121
      obtain ⟨N121q, K121q, rfl, G122, G123, G124, G125, G126, G127, G128⟩ := hQ121
      have N121 := Fr.app N51 N121q
      have K121 : Keep h0 T121.heap [] := K51.trans K121q (allS (P := fun x => x ∈ [] ∨ h0.size ≤ x) (Or.inr sz1) (allS (P := fun x => x ∈ [] ∨ h0.size ≤ x) (Or.inr sy6_o0) (allS (P := fun x => x ∈ [] ∨ h0.size ≤ x) (Or.inr sy6_o1) all0)))
      have Z121 : n0 ≤ T121.heap.size := Nat.le_trans Z51 K121q.1
      have G129 := (G55.keep K121q)
      have G130 := (G62.keep K121q)
      have G131 := (G63.keep K121q (ninS (Ne.symm ne16_b1) (ninS (Ne.symm ne16_b6_o0) (ninS (Ne.symm ne16_b6_o1) nin0))))
      have G132 := (G64.keep K121q (ninS (Ne.symm ne16_b1) (ninS (Ne.symm ne16_b6_o0) (ninS (Ne.symm ne16_b6_o1) nin0))))
      have G133 := (G52.keep K121q)
      have G134 := (G53.keep K121q (ninS (Ne.symm ne38_b1) (ninS (Ne.symm ne38_b6_o0) (ninS (Ne.symm ne38_b6_o1) nin0))))
      have G135 := (G54.keep K121q (ninS (Ne.symm ne38_b1) (ninS (Ne.symm ne38_b6_o0) (ninS (Ne.symm ne38_b6_o1) nin0))))
      refine own_step (fun _ k => st121.trans k) ?_
      show own_Fin p e below s _ _ _ (T121.setTop (mkF m 81 #[.val (.int p0), .val (.int p1), .val (.int p2), .val (.int p3), .val (.int p4), .val (.int p5), .val (.ref b1), .val (.ref b16), .val (.ref b38), .unset, .unset, .unset, .unset, .unset, .unset, .unset, .unset] [(.ref b1)]))
      refine own_step (fun _ k => XS.pop X121.here hx rfl (hb hby at_81) rfl rfl k) ?_
      refine own_step (fun _ k => XS.iload X121.here hx rfl (hb hby at_82) rfl k) ?_
      refine own_step (fun _ k => XS.iconst X121.here hx rfl (hb hby at_84) k) ?_
      refine own_step (fun _ k => XS.iand X121.here hx rfl (hb hby at_85) rfl k) ?_
      show own_Fin p e below s _ _ _ (T121.setTop (mkF m 86 #[.val (.int p0), .val (.int p1), .val (.int p2), .val (.int p3), .val (.int p4), .val (.int p5), .val (.ref b1), .val (.ref b16), .val (.ref b38), .unset, .unset, .unset, .unset, .unset, .unset, .unset, .unset] [(.int (p4 &&& (4 : Int32)))]))
      by_cases hc136 : (p4 &&& (4 : Int32)) = (0 : Int32)
      · refine own_step (fun _ k => XS.ifYes X121.here hx rfl (pc0 := 86) (pc' := 132) rfl (hb hby at_86) rfl ((if0 _ _).trans (teq hc136).1) (by decide) (by decide) k) ?_
        exact own_rm29 l Z a0 hw hx hby hlk hml Bd.returns p0 p1 p2 p3 p4 p5 b1 b16 b38 b6_o0 b6_o1 ((.double (FP.dadd (0 : UInt64) (FP.i2d (p3 % (1000 : Int32)))))) ((.int (1 : Int32))) T121.heap n0 Z121 (X121.more (by decide : 5 ≤ _) (by decide : 16 ≤ _)) rfl N121 hZ hown G122 G123 G124 G125 G126 gg1
      · refine own_step (fun _ k => XS.ifNo X121.here hx rfl (hb hby at_86) rfl ((if0 _ _).trans (feq hc136).1) k) ?_
        obtain ⟨T137, h137, X137, e137, E137, A137, D137, -, st137⟩ := newO X121 hx hZ hown (own_w hw 39 rfl) (own_w hw 40 rfl) (own_w hw 41 rfl) rfl (g := (mkF m 89 #[.val (.int p0), .val (.int p1), .val (.int p2), .val (.int p3), .val (.int p4), .val (.int p5), .val (.ref b1), .val (.ref b16), .val (.ref b38), .unset, .unset, .unset, .unset, .unset, .unset, .unset, .unset] [])) rfl (hb hby at_89) (by decide) (by decide)
        obtain ⟨b137, g137⟩ : ∃ z, z = T121.heap.size := ⟨_, rfl⟩
        rw [← g137] at A137 D137 st137
        have ne137_b1 : b1 ≠ b137 := Nat.ne_of_lt (Nat.lt_of_lt_of_le G122.lt (Nat.le_of_eq g137.symm))
        have ne137_b16 : b16 ≠ b137 := Nat.ne_of_lt (Nat.lt_of_lt_of_le G130.lt (Nat.le_of_eq g137.symm))
        have ne137_b38 : b38 ≠ b137 := Nat.ne_of_lt (Nat.lt_of_lt_of_le G133.lt (Nat.le_of_eq g137.symm))
        have ne137_b6_o0 : b6_o0 ≠ b137 := Nat.ne_of_lt (Nat.lt_of_lt_of_le G127.lt (Nat.le_of_eq g137.symm))
        have ne137_b6_o1 : b6_o1 ≠ b137 := Nat.ne_of_lt (Nat.lt_of_lt_of_le G128.lt (Nat.le_of_eq g137.symm))
        have gg137 : n0 ≤ b137 := Nat.le_trans Z121 (Nat.le_of_eq g137.symm)
        have sz137 : h0.size ≤ b137 := Nat.le_trans K121.1 (Nat.le_of_eq g137.symm)
        have K137 : Keep h0 h137 [] := K121.ext E137
        have Z137 : n0 ≤ h137.size := Nat.le_trans Z121 E137.1
        have G138 := (G122.ext E137)
        have G139 := (G130.ext E137)
        have G140 := (G131.ext E137)
        have G141 := (G132.ext E137)
        have G142 := (G133.ext E137)
        have G143 := (G134.ext E137)
        have G144 := (G135.ext E137)
        have G145 := (G123.ext E137)
        have G146 := (G124.ext E137)
        have G147 := (G125.ext E137)
        have G148 := (G126.ext E137)
        have G149 := (G127.ext E137)
        have G150 := (G128.ext E137)
        have G151 : Fld Z h137 b137 "com/example/tandem/tandem/model/TokenBucket" "rate" "D" (.double (0 : UInt64)) := D137 (Or.inr (own_w hw 47 rfl)) (ty := .double) (by decide)
        have G152 : Fld Z h137 b137 "com/example/tandem/tandem/model/TokenBucket" "burst" "D" (.double (0 : UInt64)) := D137 (Or.inr (own_w hw 49 rfl)) (ty := .double) (by decide)
        refine own_step st137 ?_
        show own_Fin p e below s _ _ _ (T137.setTop (mkF m 92 #[.val (.int p0), .val (.int p1), .val (.int p2), .val (.int p3), .val (.int p4), .val (.int p5), .val (.ref b1), .val (.ref b16), .val (.ref b38), .unset, .unset, .unset, .unset, .unset, .unset, .unset, .unset] [(.ref b137)]))
        refine own_step (fun _ k => XS.dup X137.here hx rfl (hb hby at_92) rfl rfl k) ?_
        refine own_step (fun _ k => XS.iload X137.here hx rfl (hb hby at_93) rfl k) ?_
        refine own_step (fun _ k => XS.sipush X137.here hx rfl (hb hby at_95) k) ?_
        refine own_step (fun _ k => iremM (g := (mkF m 98 #[.val (.int p0), .val (.int p1), .val (.int p2), .val (.int p3), .val (.int p4), .val (.int p5), .val (.ref b1), .val (.ref b16), .val (.ref b38), .unset, .unset, .unset, .unset, .unset, .unset, .unset, .unset] [(.int (1000 : Int32)), (.int p5), (.ref b137), (.ref b137)])) X137 hx rfl (hb hby at_98) rfl (by decide) k) ?_
        show own_Fin p e below s _ _ _ (T137.setTop (mkF m 99 #[.val (.int p0), .val (.int p1), .val (.int p2), .val (.int p3), .val (.int p4), .val (.int p5), .val (.ref b1), .val (.ref b16), .val (.ref b38), .unset, .unset, .unset, .unset, .unset, .unset, .unset, .unset] [(.int (p5 % (1000 : Int32))), (.ref b137), (.ref b137)]))
        refine own_step (fun _ k => XS.i2dS X137.here hx rfl (hb hby at_99) rfl rfl k) ?_
        refine own_step (fun _ k => XS.iload X137.here hx rfl (hb hby at_100) rfl k) ?_
        refine own_step (fun _ k => XS.bipush X137.here hx rfl (hb hby at_102) k) ?_
        refine own_step (fun _ k => XS.ishr X137.here hx rfl (hb hby at_104) rfl k) ?_
        show own_Fin p e below s _ _ _ (T137.setTop (mkF m 105 #[.val (.int p0), .val (.int p1), .val (.int p2), .val (.int p3), .val (.int p4), .val (.int p5), .val (.ref b1), .val (.ref b16), .val (.ref b38), .unset, .unset, .unset, .unset, .unset, .unset, .unset, .unset] [(.int (p5 >>> ((10 : Int32) &&& 31))), (.double (FP.i2d (p5 % (1000 : Int32)))), (.ref b137), (.ref b137)]))
        refine own_step (fun _ k => XS.sipush X137.here hx rfl (hb hby at_105) k) ?_
        refine own_step (fun _ k => iremM (g := (mkF m 108 #[.val (.int p0), .val (.int p1), .val (.int p2), .val (.int p3), .val (.int p4), .val (.int p5), .val (.ref b1), .val (.ref b16), .val (.ref b38), .unset, .unset, .unset, .unset, .unset, .unset, .unset, .unset] [(.int (1000 : Int32)), (.int (p5 >>> ((10 : Int32) &&& 31))), (.double (FP.i2d (p5 % (1000 : Int32)))), (.ref b137), (.ref b137)])) X137 hx rfl (hb hby at_108) rfl (by decide) k) ?_
        refine own_step (fun _ k => XS.i2dS X137.here hx rfl (hb hby at_109) rfl rfl k) ?_
        obtain ⟨_, _, ⟨T153, L153, k153, n153⟩, -, X153, ⟨Lc153, hQ153, l153, y153, z153⟩, st153⟩ := X137.specialBack hx (y := own_y12) rfl hown (mvT hZ (own_w hw 42 rfl)) (mvT hZ (own_w hw 43 rfl)) (mvT hZ (own_w hw 44 rfl)) (by decide) (backOf (W := 1) (own_rm4 l Z a0 hw [] b137 ((FP.i2d (p5 % (1000 : Int32)))) ((FP.i2d ((p5 >>> ((10 : Int32) &&& 31)) % (1000 : Int32)))) ((.double (0 : UInt64))) ((.double (0 : UInt64))) h137 n0 Z137 A137 G151 G152 gg137) hZ (own_w hw 44 rfl) (own_w hw 41 rfl) (by decide) (by decide)) (g := (mkF m 110 #[.val (.int p0), .val (.int p1), .val (.int p2), .val (.int p3), .val (.int p4), .val (.int p5), .val (.ref b1), .val (.ref b16), .val (.ref b38), .unset, .unset, .unset, .unset, .unset, .unset, .unset, .unset] [(.double (FP.i2d ((p5 >>> ((10 : Int32) &&& 31)) % (1000 : Int32)))), (.double (FP.i2d (p5 % (1000 : Int32)))), (.ref b137), (.ref b137)])) rfl (by rw [hml]; rfl) (Steps.refl _) (a := b137) (argsL := [(.double (FP.i2d (p5 % (1000 : Int32)))), (.double (FP.i2d ((p5 >>> ((10 : Int32) &&& 31)) % (1000 : Int32))))]) (rest := [(.ref b137)]) (lenOf own_pd9 rfl) rfl (by show 2 * 0 + _ ≤ _; exact Nat.le_of_eq rfl) (hb hby at_110) (fun _ _ => ⟨rfl, e137, (by decide : 6 + 0 ≤ _), (by decide : 18 + 0 ≤ _)⟩)
        dsimp only [Pt.U, Pt.locs, Pt.cells, Pt.slots] at X153 l153 y153 z153 st153 hQ153
        subst l153 y153 z153
        obtain ⟨N153q, K153q, rfl, G154, G155, G156⟩ := hQ153
        have N153 := Fr.app N121 N153q
        have K153 : Keep h0 T153.heap [] := K137.trans K153q (allS (P := fun x => x ∈ [] ∨ h0.size ≤ x) (Or.inr sz137) all0)
        have Z153 : n0 ≤ T153.heap.size := Nat.le_trans Z137 K153q.1
        have G157 := (G138.keep K153q)
        have G158 := (G139.keep K153q)
        have G159 := (G140.keep K153q (ninS ne137_b16 nin0))
        have G160 := (G141.keep K153q (ninS ne137_b16 nin0))
        have G161 := (G142.keep K153q)
        have G162 := (G143.keep K153q (ninS ne137_b38 nin0))
        have G163 := (G144.keep K153q (ninS ne137_b38 nin0))
        have G164 := (G145.keep K153q (ninS ne137_b1 nin0))
        have G165 := (G146.keep K153q (ninS ne137_b1 nin0))
        have G166 := (G147.keep K153q (ninS ne137_b1 nin0))
        have G167 := (G148.keep K153q (ninS ne137_b1 nin0))
        have G168 := (G149.keep K153q (ninS ne137_b6_o0 nin0))
        have G169 := (G150.keep K153q (ninS ne137_b6_o1 nin0))
        have G170 := (A137.keep K153q)
        refine own_step (fun _ k => st153.trans k) ?_
        show own_Fin p e below s _ _ _ (T153.setTop (mkF m 113 #[.val (.int p0), .val (.int p1), .val (.int p2), .val (.int p3), .val (.int p4), .val (.int p5), .val (.ref b1), .val (.ref b16), .val (.ref b38), .unset, .unset, .unset, .unset, .unset, .unset, .unset, .unset] [(.ref b137)]))
        refine own_step (fun _ k => XS.astore X153.here hx rfl (hb hby at_113) rfl rfl (l' := #[.val (.int p0), .val (.int p1), .val (.int p2), .val (.int p3), .val (.int p4), .val (.int p5), .val (.ref b1), .val (.ref b16), .val (.ref b38), .val (.ref b137), .unset, .unset, .unset, .unset, .unset, .unset, .unset]) rfl k) ?_
        refine own_step (fun _ k => XS.aload X153.here hx rfl (hb hby at_115) rfl rfl k) ?_
        refine own_step (fun _ k => XS.aload X153.here hx rfl (hb hby at_117) rfl rfl k) ?_
        refine own_step (fun _ k => XS.iload X153.here hx rfl (hb hby at_119) rfl k) ?_
        show own_Fin p e below s _ _ _ (T153.setTop (mkF m 121 #[.val (.int p0), .val (.int p1), .val (.int p2), .val (.int p3), .val (.int p4), .val (.int p5), .val (.ref b1), .val (.ref b16), .val (.ref b38), .val (.ref b137), .unset, .unset, .unset, .unset, .unset, .unset, .unset] [(.int p4), (.ref b137), (.ref b1)]))
        refine own_step (fun _ k => XS.iconst X153.here hx rfl (hb hby at_121) k) ?_
        refine own_step (fun _ k => XS.iushr X153.here hx rfl (hb hby at_122) rfl k) ?_
        refine own_step (fun _ k => XS.sipush X153.here hx rfl (hb hby at_123) k) ?_
        refine own_step (fun _ k => XS.iand X153.here hx rfl (hb hby at_126) rfl k) ?_
        show own_Fin p e below s _ _ _ (T153.setTop (mkF m 127 #[.val (.int p0), .val (.int p1), .val (.int p2), .val (.int p3), .val (.int p4), .val (.int p5), .val (.ref b1), .val (.ref b16), .val (.ref b38), .val (.ref b137), .unset, .unset, .unset, .unset, .unset, .unset, .unset] [(.int (((p4.toUInt32 >>> ((3 : Int32) &&& 31).toUInt32).toInt32) &&& (1023 : Int32))), (.ref b137), (.ref b1)]))
        refine own_step (fun _ k => XS.i2dS X153.here hx rfl (hb hby at_127) rfl rfl k) ?_
        obtain ⟨cq171, kq171, q171a, q171b, q171c⟩ := isOf hZ rfl G157
        obtain ⟨_, _, ⟨T171, L171, k171, n171⟩, -, X171, ⟨Lc171, hQ171, l171, y171, z171⟩, st171⟩ := X153.virtualBack hx (y := own_y17) (z := own_y17) hown (mvT hZ (own_w hw 105 rfl)) (mvT hZ (own_w hw 106 rfl)) (notFace_of_selects (args := #[]) (mvT hZ (own_w hw 108 rfl))) (mvT hZ (own_w hw 108 rfl)) (mvT hZ (own_w hw 107 rfl)) (by decide) (backOf (W := 0) (own_rm17 l Z a0 hw [] b1 b137 ((FP.i2d (((p4.toUInt32 >>> ((3 : Int32) &&& 31).toUInt32).toInt32) &&& (1023 : Int32)))) ((p2 % (1000 : Int32))) (((p5 >>> ((10 : Int32) &&& 31)) % (1000 : Int32))) ((p5 % (1000 : Int32))) b6_o0 b6_o1 ((FP.dadd (0 : UInt64) (FP.i2d (p3 % (1000 : Int32))))) ko0_6 ko1_6 T153.heap n0 Z153 (show Jvm.Free.Fl.Mag64 1056 (FP.i2d (((p4.toUInt32 >>> ((3 : Int32) &&& 31).toUInt32).toInt32) &&& (1023 : Int32))) from ((Jvm.Free.Fl.i2d_mag ((((p4.toUInt32 >>> ((3 : Int32) &&& 31).toUInt32).toInt32) &&& (1023 : Int32)))).mono (by decide))) G157 G164 G165 (show Jvm.Free.Fl.Mag64 1100 (FP.dadd (0 : UInt64) (FP.i2d (p3 % (1000 : Int32)))) from ((Jvm.Free.Fl.dadd_mag (K := 1056) ((own_mz).mono (by decide)) ((Jvm.Free.Fl.i2d_mag ((p3 % (1000 : Int32)))).mono (by decide)) (by decide)).mono (by decide))) G166 G167 G168 G169 G154 G156 G155 gg6_o0 ne6_o0_b1 (Ne.symm G14) (Ne.symm ne137_b6_o0) gg6_o1 ne6_o1_b1 (Ne.symm ne137_b6_o1) G14 gg1 (Ne.symm ne137_b1) (Ne.symm ne6_o0_b1) (Ne.symm ne6_o1_b1)) hZ (own_w hw 109 rfl) (own_w hw 2 rfl) (by decide) (by decide)) q171a q171c (g := (mkF m 128 #[.val (.int p0), .val (.int p1), .val (.int p2), .val (.int p3), .val (.int p4), .val (.int p5), .val (.ref b1), .val (.ref b16), .val (.ref b38), .val (.ref b137), .unset, .unset, .unset, .unset, .unset, .unset, .unset] [(.double (FP.i2d (((p4.toUInt32 >>> ((3 : Int32) &&& 31).toUInt32).toInt32) &&& (1023 : Int32)))), (.ref b137), (.ref b1)])) rfl (by rw [hml]; rfl) (Steps.refl _) (argsL := [(.ref b137), (.double (FP.i2d (((p4.toUInt32 >>> ((3 : Int32) &&& 31).toUInt32).toInt32) &&& (1023 : Int32))))]) (rest := []) (lenOf own_pd12 rfl) rfl (by show 2 * 0 + _ ≤ _; exact Nat.le_of_eq rfl) (hb hby at_128) (fun _ _ => ⟨rfl, rfl, (by decide : 6 + 0 ≤ _), (by decide : 18 + 0 ≤ _)⟩)
        dsimp only [Pt.U, Pt.locs, Pt.cells, Pt.slots] at X171 l171 y171 z171 st171 hQ171
        subst l171 y171 z171
        obtain ⟨N171q, K171q, uo0_171, uo1_171, rfl, G172, G173, G174, G175, G176⟩ := hQ171
        have N171 := Fr.app N153 N171q
        have K171 : Keep h0 T171.heap [] := K153.trans K171q (allS (P := fun x => x ∈ [] ∨ h0.size ≤ x) (Or.inr sz1) (allS (P := fun x => x ∈ [] ∨ h0.size ≤ x) (Or.inr sy6_o1) (allS (P := fun x => x ∈ [] ∨ h0.size ≤ x) (Or.inr sy6_o0) all0)))
        have Z171 : n0 ≤ T171.heap.size := Nat.le_trans Z153 K171q.1
        have G177 := (G157.keep K171q)
        have G178 := (G158.keep K171q)
        have G179 := (G159.keep K171q (ninS (Ne.symm ne16_b1) (ninS (Ne.symm ne16_b6_o1) (ninS (Ne.symm ne16_b6_o0) nin0))))
        have G180 := (G160.keep K171q (ninS (Ne.symm ne16_b1) (ninS (Ne.symm ne16_b6_o1) (ninS (Ne.symm ne16_b6_o0) nin0))))
        have G181 := (G161.keep K171q)
        have G182 := (G162.keep K171q (ninS (Ne.symm ne38_b1) (ninS (Ne.symm ne38_b6_o1) (ninS (Ne.symm ne38_b6_o0) nin0))))
        have G183 := (G163.keep K171q (ninS (Ne.symm ne38_b1) (ninS (Ne.symm ne38_b6_o1) (ninS (Ne.symm ne38_b6_o0) nin0))))
        have G184 := (G154.keep K171q)
        have G185 := (G155.keep K171q (ninS (Ne.symm ne137_b1) (ninS (Ne.symm ne137_b6_o1) (ninS (Ne.symm ne137_b6_o0) nin0))))
        have G186 := (G156.keep K171q (ninS (Ne.symm ne137_b1) (ninS (Ne.symm ne137_b6_o1) (ninS (Ne.symm ne137_b6_o0) nin0))))
        refine own_step (fun _ k => st171.trans k) ?_
        show own_Fin p e below s _ _ _ (T171.setTop (mkF m 131 #[.val (.int p0), .val (.int p1), .val (.int p2), .val (.int p3), .val (.int p4), .val (.int p5), .val (.ref b1), .val (.ref b16), .val (.ref b38), .val (.ref b137), .unset, .unset, .unset, .unset, .unset, .unset, .unset] [(.ref b1)]))
        refine own_step (fun _ k => XS.pop X171.here hx rfl (hb hby at_131) rfl rfl k) ?_
        exact own_rm30 l Z a0 hw hx hby hlk hml Bd.returns p0 p1 p2 p3 p4 p5 b1 b16 b38 b137 b6_o0 b6_o1 uo1_171 uo0_171 T171.heap n0 Z171 (X171.more (by decide : 6 ≤ _) (by decide : 18 ≤ _)) rfl N171 hZ hown G172 G173 G174 G176 G175 gg1
  · refine own_step (fun _ k => XS.ifNo X51.here hx rfl (hb hby at_56) rfl ((if0 _ _).trans (feq hc66).1) k) ?_
    refine own_step (fun _ k => XS.aload X51.here hx rfl (hb hby at_59) rfl rfl k) ?_
    refine own_step (fun _ k => XS.aload X51.here hx rfl (hb hby at_61) rfl rfl k) ?_
    obtain ⟨cq187, kq187, q187a, q187b, q187c⟩ := isOf hZ rfl G55
    obtain ⟨_, _, ⟨T187, L187, k187, n187⟩, -, X187, ⟨Lc187, hQ187, l187, y187, z187⟩, st187⟩ := X51.virtualBack hx (y := own_y18) (z := own_y18) hown (mvT hZ (own_w hw 90 rfl)) (mvT hZ (own_w hw 91 rfl)) (notFace_of_selects (args := #[]) (mvT hZ (own_w hw 93 rfl))) (mvT hZ (own_w hw 93 rfl)) (mvT hZ (own_w hw 92 rfl)) (by decide) (backOf (W := 0) (own_rm12 l Z a0 hw [] b1 b16 b6_o0 b6_o1 ((0 : UInt64)) ko0_6 ((0 : UInt64)) ((0 : UInt64)) ko1_6 ((0 : UInt64)) ((0 : UInt64)) ((FP.i2d (p1 % (1000 : Int32)))) ((FP.i2d (p0 % (1000 : Int32)))) T51.heap n0 Z51 G55 G58 G59 (show Jvm.Free.Fl.Mag64 1100 (0 : UInt64) from ((own_mz).mono (by decide))) G56 G57 G60 G61 G62 (show Jvm.Free.Fl.Mag64 1056 (FP.i2d (p1 % (1000 : Int32))) from ((Jvm.Free.Fl.i2d_mag ((p1 % (1000 : Int32)))).mono (by decide))) G64 G63 gg1 (Ne.symm ne6_o0_b1) (Ne.symm ne6_o1_b1) (Ne.symm ne16_b1) gg6_o0 ne6_o0_b1 (Ne.symm G14) (Ne.symm ne16_b6_o0) gg6_o1 ne6_o1_b1 (Ne.symm ne16_b6_o1) G14) hZ (own_w hw 94 rfl) (own_w hw 2 rfl) (by decide) (by decide)) q187a q187c (g := (mkF m 63 #[.val (.int p0), .val (.int p1), .val (.int p2), .val (.int p3), .val (.int p4), .val (.int p5), .val (.ref b1), .val (.ref b16), .val (.ref b38), .unset, .unset, .unset, .unset, .unset, .unset, .unset, .unset] [(.ref b16), (.ref b1)])) rfl (by rw [hml]; rfl) (Steps.refl _) (argsL := [(.ref b16)]) (rest := []) (lenOf own_pd13 rfl) rfl (by show 2 * 0 + _ ≤ _; exact Nat.le_of_eq rfl) (hb hby at_63) (fun _ _ => ⟨rfl, rfl, (by decide : 5 + 0 ≤ _), (by decide : 16 + 0 ≤ _)⟩)
    dsimp only [Pt.U, Pt.locs, Pt.cells, Pt.slots] at X187 l187 y187 z187 st187 hQ187
    subst l187 y187 z187
    obtain ⟨N187q, K187q, rfl, G188, G189, G190, G191, G192, G193, G194⟩ := hQ187
    have N187 := Fr.app N51 N187q
    have K187 : Keep h0 T187.heap [] := K51.trans K187q (allS (P := fun x => x ∈ [] ∨ h0.size ≤ x) (Or.inr sz1) (allS (P := fun x => x ∈ [] ∨ h0.size ≤ x) (Or.inr sy6_o0) (allS (P := fun x => x ∈ [] ∨ h0.size ≤ x) (Or.inr sy6_o1) all0)))
    have Z187 : n0 ≤ T187.heap.size := Nat.le_trans Z51 K187q.1
    have G195 := (G55.keep K187q)
    have G196 := (G62.keep K187q)
    have G197 := (G63.keep K187q (ninS (Ne.symm ne16_b1) (ninS (Ne.symm ne16_b6_o0) (ninS (Ne.symm ne16_b6_o1) nin0))))
    have G198 := (G64.keep K187q (ninS (Ne.symm ne16_b1) (ninS (Ne.symm ne16_b6_o0) (ninS (Ne.symm ne16_b6_o1) nin0))))
    have G199 := (G52.keep K187q)
    have G200 := (G53.keep K187q (ninS (Ne.symm ne38_b1) (ninS (Ne.symm ne38_b6_o0) (ninS (Ne.symm ne38_b6_o1) nin0))))
    have G201 := (G54.keep K187q (ninS (Ne.symm ne38_b1) (ninS (Ne.symm ne38_b6_o0) (ninS (Ne.symm ne38_b6_o1) nin0))))
    refine own_step (fun _ k => st187.trans k) ?_
    show own_Fin p e below s _ _ _ (T187.setTop (mkF m 66 #[.val (.int p0), .val (.int p1), .val (.int p2), .val (.int p3), .val (.int p4), .val (.int p5), .val (.ref b1), .val (.ref b16), .val (.ref b38), .unset, .unset, .unset, .unset, .unset, .unset, .unset, .unset] [(.ref b1)]))
    refine own_step (fun _ k => XS.pop X187.here hx rfl (hb hby at_66) rfl rfl k) ?_
    refine own_step (fun _ k => XS.iload X187.here hx rfl (hb hby at_67) rfl k) ?_
    refine own_step (fun _ k => XS.iconst X187.here hx rfl (hb hby at_69) k) ?_
    refine own_step (fun _ k => XS.iand X187.here hx rfl (hb hby at_70) rfl k) ?_
    show own_Fin p e below s _ _ _ (T187.setTop (mkF m 71 #[.val (.int p0), .val (.int p1), .val (.int p2), .val (.int p3), .val (.int p4), .val (.int p5), .val (.ref b1), .val (.ref b16), .val (.ref b38), .unset, .unset, .unset, .unset, .unset, .unset, .unset, .unset] [(.int (p4 &&& (2 : Int32)))]))
    by_cases hc202 : (p4 &&& (2 : Int32)) = (0 : Int32)
    · refine own_step (fun _ k => XS.ifYes X187.here hx rfl (pc0 := 71) (pc' := 82) rfl (hb hby at_71) rfl ((if0 _ _).trans (teq hc202).1) (by decide) (by decide) k) ?_
      refine own_step (fun _ k => XS.iload X187.here hx rfl (hb hby at_82) rfl k) ?_
      refine own_step (fun _ k => XS.iconst X187.here hx rfl (hb hby at_84) k) ?_
      refine own_step (fun _ k => XS.iand X187.here hx rfl (hb hby at_85) rfl k) ?_
      show own_Fin p e below s _ _ _ (T187.setTop (mkF m 86 #[.val (.int p0), .val (.int p1), .val (.int p2), .val (.int p3), .val (.int p4), .val (.int p5), .val (.ref b1), .val (.ref b16), .val (.ref b38), .unset, .unset, .unset, .unset, .unset, .unset, .unset, .unset] [(.int (p4 &&& (4 : Int32)))]))
      by_cases hc203 : (p4 &&& (4 : Int32)) = (0 : Int32)
      · refine own_step (fun _ k => XS.ifYes X187.here hx rfl (pc0 := 86) (pc' := 132) rfl (hb hby at_86) rfl ((if0 _ _).trans (teq hc203).1) (by decide) (by decide) k) ?_
        exact own_rm29 l Z a0 hw hx hby hlk hml Bd.returns p0 p1 p2 p3 p4 p5 b1 b16 b38 b6_o0 b6_o1 ((.double (FP.dadd (0 : UInt64) (FP.i2d (p1 % (1000 : Int32)))))) ((.int (1 : Int32))) T187.heap n0 Z187 (X187.more (by decide : 5 ≤ _) (by decide : 16 ≤ _)) rfl N187 hZ hown G188 G189 G190 G191 G192 gg1
      · refine own_step (fun _ k => XS.ifNo X187.here hx rfl (hb hby at_86) rfl ((if0 _ _).trans (feq hc203).1) k) ?_
        obtain ⟨T204, h204, X204, e204, E204, A204, D204, -, st204⟩ := newO X187 hx hZ hown (own_w hw 39 rfl) (own_w hw 40 rfl) (own_w hw 41 rfl) rfl (g := (mkF m 89 #[.val (.int p0), .val (.int p1), .val (.int p2), .val (.int p3), .val (.int p4), .val (.int p5), .val (.ref b1), .val (.ref b16), .val (.ref b38), .unset, .unset, .unset, .unset, .unset, .unset, .unset, .unset] [])) rfl (hb hby at_89) (by decide) (by decide)
        obtain ⟨b204, g204⟩ : ∃ z, z = T187.heap.size := ⟨_, rfl⟩
        rw [← g204] at A204 D204 st204
        have ne204_b1 : b1 ≠ b204 := Nat.ne_of_lt (Nat.lt_of_lt_of_le G188.lt (Nat.le_of_eq g204.symm))
        have ne204_b16 : b16 ≠ b204 := Nat.ne_of_lt (Nat.lt_of_lt_of_le G196.lt (Nat.le_of_eq g204.symm))
        have ne204_b38 : b38 ≠ b204 := Nat.ne_of_lt (Nat.lt_of_lt_of_le G199.lt (Nat.le_of_eq g204.symm))
        have ne204_b6_o0 : b6_o0 ≠ b204 := Nat.ne_of_lt (Nat.lt_of_lt_of_le G193.lt (Nat.le_of_eq g204.symm))
        have ne204_b6_o1 : b6_o1 ≠ b204 := Nat.ne_of_lt (Nat.lt_of_lt_of_le G194.lt (Nat.le_of_eq g204.symm))
        have gg204 : n0 ≤ b204 := Nat.le_trans Z187 (Nat.le_of_eq g204.symm)
        have sz204 : h0.size ≤ b204 := Nat.le_trans K187.1 (Nat.le_of_eq g204.symm)
        have K204 : Keep h0 h204 [] := K187.ext E204
        have Z204 : n0 ≤ h204.size := Nat.le_trans Z187 E204.1
        have G205 := (G188.ext E204)
        have G206 := (G196.ext E204)
        have G207 := (G197.ext E204)
        have G208 := (G198.ext E204)
        have G209 := (G199.ext E204)
        have G210 := (G200.ext E204)
        have G211 := (G201.ext E204)
        have G212 := (G189.ext E204)
        have G213 := (G190.ext E204)
        have G214 := (G191.ext E204)
        have G215 := (G192.ext E204)
        have G216 := (G193.ext E204)
        have G217 := (G194.ext E204)
        have G218 : Fld Z h204 b204 "com/example/tandem/tandem/model/TokenBucket" "rate" "D" (.double (0 : UInt64)) := D204 (Or.inr (own_w hw 47 rfl)) (ty := .double) (by decide)
        have G219 : Fld Z h204 b204 "com/example/tandem/tandem/model/TokenBucket" "burst" "D" (.double (0 : UInt64)) := D204 (Or.inr (own_w hw 49 rfl)) (ty := .double) (by decide)
        refine own_step st204 ?_
        show own_Fin p e below s _ _ _ (T204.setTop (mkF m 92 #[.val (.int p0), .val (.int p1), .val (.int p2), .val (.int p3), .val (.int p4), .val (.int p5), .val (.ref b1), .val (.ref b16), .val (.ref b38), .unset, .unset, .unset, .unset, .unset, .unset, .unset, .unset] [(.ref b204)]))
        refine own_step (fun _ k => XS.dup X204.here hx rfl (hb hby at_92) rfl rfl k) ?_
        refine own_step (fun _ k => XS.iload X204.here hx rfl (hb hby at_93) rfl k) ?_
        refine own_step (fun _ k => XS.sipush X204.here hx rfl (hb hby at_95) k) ?_
        refine own_step (fun _ k => iremM (g := (mkF m 98 #[.val (.int p0), .val (.int p1), .val (.int p2), .val (.int p3), .val (.int p4), .val (.int p5), .val (.ref b1), .val (.ref b16), .val (.ref b38), .unset, .unset, .unset, .unset, .unset, .unset, .unset, .unset] [(.int (1000 : Int32)), (.int p5), (.ref b204), (.ref b204)])) X204 hx rfl (hb hby at_98) rfl (by decide) k) ?_
        show own_Fin p e below s _ _ _ (T204.setTop (mkF m 99 #[.val (.int p0), .val (.int p1), .val (.int p2), .val (.int p3), .val (.int p4), .val (.int p5), .val (.ref b1), .val (.ref b16), .val (.ref b38), .unset, .unset, .unset, .unset, .unset, .unset, .unset, .unset] [(.int (p5 % (1000 : Int32))), (.ref b204), (.ref b204)]))
        refine own_step (fun _ k => XS.i2dS X204.here hx rfl (hb hby at_99) rfl rfl k) ?_
        refine own_step (fun _ k => XS.iload X204.here hx rfl (hb hby at_100) rfl k) ?_
        refine own_step (fun _ k => XS.bipush X204.here hx rfl (hb hby at_102) k) ?_
        refine own_step (fun _ k => XS.ishr X204.here hx rfl (hb hby at_104) rfl k) ?_
        show own_Fin p e below s _ _ _ (T204.setTop (mkF m 105 #[.val (.int p0), .val (.int p1), .val (.int p2), .val (.int p3), .val (.int p4), .val (.int p5), .val (.ref b1), .val (.ref b16), .val (.ref b38), .unset, .unset, .unset, .unset, .unset, .unset, .unset, .unset] [(.int (p5 >>> ((10 : Int32) &&& 31))), (.double (FP.i2d (p5 % (1000 : Int32)))), (.ref b204), (.ref b204)]))
        refine own_step (fun _ k => XS.sipush X204.here hx rfl (hb hby at_105) k) ?_
        refine own_step (fun _ k => iremM (g := (mkF m 108 #[.val (.int p0), .val (.int p1), .val (.int p2), .val (.int p3), .val (.int p4), .val (.int p5), .val (.ref b1), .val (.ref b16), .val (.ref b38), .unset, .unset, .unset, .unset, .unset, .unset, .unset, .unset] [(.int (1000 : Int32)), (.int (p5 >>> ((10 : Int32) &&& 31))), (.double (FP.i2d (p5 % (1000 : Int32)))), (.ref b204), (.ref b204)])) X204 hx rfl (hb hby at_108) rfl (by decide) k) ?_
        refine own_step (fun _ k => XS.i2dS X204.here hx rfl (hb hby at_109) rfl rfl k) ?_
        obtain ⟨_, _, ⟨T220, L220, k220, n220⟩, -, X220, ⟨Lc220, hQ220, l220, y220, z220⟩, st220⟩ := X204.specialBack hx (y := own_y12) rfl hown (mvT hZ (own_w hw 42 rfl)) (mvT hZ (own_w hw 43 rfl)) (mvT hZ (own_w hw 44 rfl)) (by decide) (backOf (W := 1) (own_rm4 l Z a0 hw [] b204 ((FP.i2d (p5 % (1000 : Int32)))) ((FP.i2d ((p5 >>> ((10 : Int32) &&& 31)) % (1000 : Int32)))) ((.double (0 : UInt64))) ((.double (0 : UInt64))) h204 n0 Z204 A204 G218 G219 gg204) hZ (own_w hw 44 rfl) (own_w hw 41 rfl) (by decide) (by decide)) (g := (mkF m 110 #[.val (.int p0), .val (.int p1), .val (.int p2), .val (.int p3), .val (.int p4), .val (.int p5), .val (.ref b1), .val (.ref b16), .val (.ref b38), .unset, .unset, .unset, .unset, .unset, .unset, .unset, .unset] [(.double (FP.i2d ((p5 >>> ((10 : Int32) &&& 31)) % (1000 : Int32)))), (.double (FP.i2d (p5 % (1000 : Int32)))), (.ref b204), (.ref b204)])) rfl (by rw [hml]; rfl) (Steps.refl _) (a := b204) (argsL := [(.double (FP.i2d (p5 % (1000 : Int32)))), (.double (FP.i2d ((p5 >>> ((10 : Int32) &&& 31)) % (1000 : Int32))))]) (rest := [(.ref b204)]) (lenOf own_pd9 rfl) rfl (by show 2 * 0 + _ ≤ _; exact Nat.le_of_eq rfl) (hb hby at_110) (fun _ _ => ⟨rfl, e204, (by decide : 6 + 0 ≤ _), (by decide : 18 + 0 ≤ _)⟩)
        dsimp only [Pt.U, Pt.locs, Pt.cells, Pt.slots] at X220 l220 y220 z220 st220 hQ220
        subst l220 y220 z220
        obtain ⟨N220q, K220q, rfl, G221, G222, G223⟩ := hQ220
        have N220 := Fr.app N187 N220q
        have K220 : Keep h0 T220.heap [] := K204.trans K220q (allS (P := fun x => x ∈ [] ∨ h0.size ≤ x) (Or.inr sz204) all0)
        have Z220 : n0 ≤ T220.heap.size := Nat.le_trans Z204 K220q.1
        have G224 := (G205.keep K220q)
        have G225 := (G206.keep K220q)
        have G226 := (G207.keep K220q (ninS ne204_b16 nin0))
        have G227 := (G208.keep K220q (ninS ne204_b16 nin0))
        have G228 := (G209.keep K220q)
        have G229 := (G210.keep K220q (ninS ne204_b38 nin0))
        have G230 := (G211.keep K220q (ninS ne204_b38 nin0))
        have G231 := (G212.keep K220q (ninS ne204_b1 nin0))
        have G232 := (G213.keep K220q (ninS ne204_b1 nin0))
        have G233 := (G214.keep K220q (ninS ne204_b1 nin0))
        have G234 := (G215.keep K220q (ninS ne204_b1 nin0))
        have G235 := (G216.keep K220q (ninS ne204_b6_o0 nin0))
        have G236 := (G217.keep K220q (ninS ne204_b6_o1 nin0))
        have G237 := (A204.keep K220q)
        refine own_step (fun _ k => st220.trans k) ?_
        show own_Fin p e below s _ _ _ (T220.setTop (mkF m 113 #[.val (.int p0), .val (.int p1), .val (.int p2), .val (.int p3), .val (.int p4), .val (.int p5), .val (.ref b1), .val (.ref b16), .val (.ref b38), .unset, .unset, .unset, .unset, .unset, .unset, .unset, .unset] [(.ref b204)]))
        refine own_step (fun _ k => XS.astore X220.here hx rfl (hb hby at_113) rfl rfl (l' := #[.val (.int p0), .val (.int p1), .val (.int p2), .val (.int p3), .val (.int p4), .val (.int p5), .val (.ref b1), .val (.ref b16), .val (.ref b38), .val (.ref b204), .unset, .unset, .unset, .unset, .unset, .unset, .unset]) rfl k) ?_
        refine own_step (fun _ k => XS.aload X220.here hx rfl (hb hby at_115) rfl rfl k) ?_
        refine own_step (fun _ k => XS.aload X220.here hx rfl (hb hby at_117) rfl rfl k) ?_
        refine own_step (fun _ k => XS.iload X220.here hx rfl (hb hby at_119) rfl k) ?_
        show own_Fin p e below s _ _ _ (T220.setTop (mkF m 121 #[.val (.int p0), .val (.int p1), .val (.int p2), .val (.int p3), .val (.int p4), .val (.int p5), .val (.ref b1), .val (.ref b16), .val (.ref b38), .val (.ref b204), .unset, .unset, .unset, .unset, .unset, .unset, .unset] [(.int p4), (.ref b204), (.ref b1)]))
        refine own_step (fun _ k => XS.iconst X220.here hx rfl (hb hby at_121) k) ?_
        refine own_step (fun _ k => XS.iushr X220.here hx rfl (hb hby at_122) rfl k) ?_
        refine own_step (fun _ k => XS.sipush X220.here hx rfl (hb hby at_123) k) ?_
        refine own_step (fun _ k => XS.iand X220.here hx rfl (hb hby at_126) rfl k) ?_
        show own_Fin p e below s _ _ _ (T220.setTop (mkF m 127 #[.val (.int p0), .val (.int p1), .val (.int p2), .val (.int p3), .val (.int p4), .val (.int p5), .val (.ref b1), .val (.ref b16), .val (.ref b38), .val (.ref b204), .unset, .unset, .unset, .unset, .unset, .unset, .unset] [(.int (((p4.toUInt32 >>> ((3 : Int32) &&& 31).toUInt32).toInt32) &&& (1023 : Int32))), (.ref b204), (.ref b1)]))
        refine own_step (fun _ k => XS.i2dS X220.here hx rfl (hb hby at_127) rfl rfl k) ?_
        obtain ⟨cq238, kq238, q238a, q238b, q238c⟩ := isOf hZ rfl G224
        obtain ⟨_, _, ⟨T238, L238, k238, n238⟩, -, X238, ⟨Lc238, hQ238, l238, y238, z238⟩, st238⟩ := X220.virtualBack hx (y := own_y17) (z := own_y17) hown (mvT hZ (own_w hw 105 rfl)) (mvT hZ (own_w hw 106 rfl)) (notFace_of_selects (args := #[]) (mvT hZ (own_w hw 108 rfl))) (mvT hZ (own_w hw 108 rfl)) (mvT hZ (own_w hw 107 rfl)) (by decide) (backOf (W := 0) (own_rm17 l Z a0 hw [] b1 b204 ((FP.i2d (((p4.toUInt32 >>> ((3 : Int32) &&& 31).toUInt32).toInt32) &&& (1023 : Int32)))) ((p0 % (1000 : Int32))) (((p5 >>> ((10 : Int32) &&& 31)) % (1000 : Int32))) ((p5 % (1000 : Int32))) b6_o0 b6_o1 ((FP.dadd (0 : UInt64) (FP.i2d (p1 % (1000 : Int32))))) ko0_6 ko1_6 T220.heap n0 Z220 (show Jvm.Free.Fl.Mag64 1056 (FP.i2d (((p4.toUInt32 >>> ((3 : Int32) &&& 31).toUInt32).toInt32) &&& (1023 : Int32))) from ((Jvm.Free.Fl.i2d_mag ((((p4.toUInt32 >>> ((3 : Int32) &&& 31).toUInt32).toInt32) &&& (1023 : Int32)))).mono (by decide))) G224 G231 G232 (show Jvm.Free.Fl.Mag64 1100 (FP.dadd (0 : UInt64) (FP.i2d (p1 % (1000 : Int32)))) from ((Jvm.Free.Fl.dadd_mag (K := 1056) ((own_mz).mono (by decide)) ((Jvm.Free.Fl.i2d_mag ((p1 % (1000 : Int32)))).mono (by decide)) (by decide)).mono (by decide))) G233 G234 G235 G236 G221 G223 G222 gg6_o0 ne6_o0_b1 (Ne.symm G14) (Ne.symm ne204_b6_o0) gg6_o1 ne6_o1_b1 (Ne.symm ne204_b6_o1) G14 gg1 (Ne.symm ne204_b1) (Ne.symm ne6_o0_b1) (Ne.symm ne6_o1_b1)) hZ (own_w hw 109 rfl) (own_w hw 2 rfl) (by decide) (by decide)) q238a q238c (g := (mkF m 128 #[.val (.int p0), .val (.int p1), .val (.int p2), .val (.int p3), .val (.int p4), .val (.int p5), .val (.ref b1), .val (.ref b16), .val (.ref b38), .val (.ref b204), .unset, .unset, .unset, .unset, .unset, .unset, .unset] [(.double (FP.i2d (((p4.toUInt32 >>> ((3 : Int32) &&& 31).toUInt32).toInt32) &&& (1023 : Int32)))), (.ref b204), (.ref b1)])) rfl (by rw [hml]; rfl) (Steps.refl _) (argsL := [(.ref b204), (.double (FP.i2d (((p4.toUInt32 >>> ((3 : Int32) &&& 31).toUInt32).toInt32) &&& (1023 : Int32))))]) (rest := []) (lenOf own_pd12 rfl) rfl (by show 2 * 0 + _ ≤ _; exact Nat.le_of_eq rfl) (hb hby at_128) (fun _ _ => ⟨rfl, rfl, (by decide : 6 + 0 ≤ _), (by decide : 18 + 0 ≤ _)⟩)
        dsimp only [Pt.U, Pt.locs, Pt.cells, Pt.slots] at X238 l238 y238 z238 st238 hQ238
        subst l238 y238 z238
        obtain ⟨N238q, K238q, uo0_238, uo1_238, rfl, G239, G240, G241, G242, G243⟩ := hQ238
        have N238 := Fr.app N220 N238q
        have K238 : Keep h0 T238.heap [] := K220.trans K238q (allS (P := fun x => x ∈ [] ∨ h0.size ≤ x) (Or.inr sz1) (allS (P := fun x => x ∈ [] ∨ h0.size ≤ x) (Or.inr sy6_o1) (allS (P := fun x => x ∈ [] ∨ h0.size ≤ x) (Or.inr sy6_o0) all0)))
        have Z238 : n0 ≤ T238.heap.size := Nat.le_trans Z220 K238q.1
        have G244 := (G224.keep K238q)
        have G245 := (G225.keep K238q)
        have G246 := (G226.keep K238q (ninS (Ne.symm ne16_b1) (ninS (Ne.symm ne16_b6_o1) (ninS (Ne.symm ne16_b6_o0) nin0))))
        have G247 := (G227.keep K238q (ninS (Ne.symm ne16_b1) (ninS (Ne.symm ne16_b6_o1) (ninS (Ne.symm ne16_b6_o0) nin0))))
        have G248 := (G228.keep K238q)
        have G249 := (G229.keep K238q (ninS (Ne.symm ne38_b1) (ninS (Ne.symm ne38_b6_o1) (ninS (Ne.symm ne38_b6_o0) nin0))))
        have G250 := (G230.keep K238q (ninS (Ne.symm ne38_b1) (ninS (Ne.symm ne38_b6_o1) (ninS (Ne.symm ne38_b6_o0) nin0))))
        have G251 := (G221.keep K238q)
        have G252 := (G222.keep K238q (ninS (Ne.symm ne204_b1) (ninS (Ne.symm ne204_b6_o1) (ninS (Ne.symm ne204_b6_o0) nin0))))
        have G253 := (G223.keep K238q (ninS (Ne.symm ne204_b1) (ninS (Ne.symm ne204_b6_o1) (ninS (Ne.symm ne204_b6_o0) nin0))))
        refine own_step (fun _ k => st238.trans k) ?_
        show own_Fin p e below s _ _ _ (T238.setTop (mkF m 131 #[.val (.int p0), .val (.int p1), .val (.int p2), .val (.int p3), .val (.int p4), .val (.int p5), .val (.ref b1), .val (.ref b16), .val (.ref b38), .val (.ref b204), .unset, .unset, .unset, .unset, .unset, .unset, .unset] [(.ref b1)]))
        refine own_step (fun _ k => XS.pop X238.here hx rfl (hb hby at_131) rfl rfl k) ?_
        exact own_rm30 l Z a0 hw hx hby hlk hml Bd.returns p0 p1 p2 p3 p4 p5 b1 b16 b38 b204 b6_o0 b6_o1 uo1_238 uo0_238 T238.heap n0 Z238 (X238.more (by decide : 6 ≤ _) (by decide : 18 ≤ _)) rfl N238 hZ hown G239 G240 G241 G243 G242 gg1
    · refine own_step (fun _ k => XS.ifNo X187.here hx rfl (hb hby at_71) rfl ((if0 _ _).trans (feq hc202).1) k) ?_
      refine own_step (fun _ k => XS.aload X187.here hx rfl (hb hby at_74) rfl rfl k) ?_
      refine own_step (fun _ k => XS.aload X187.here hx rfl (hb hby at_76) rfl rfl k) ?_
      obtain ⟨cq254, kq254, q254a, q254b, q254c⟩ := isOf hZ rfl G188
      obtain ⟨_, _, ⟨T254, L254, k254, n254⟩, -, X254, ⟨Lc254, hQ254, l254, y254, z254⟩, st254⟩ := X187.virtualBack hx (y := own_y18) (z := own_y18) hown (mvT hZ (own_w hw 90 rfl)) (mvT hZ (own_w hw 91 rfl)) (notFace_of_selects (args := #[]) (mvT hZ (own_w hw 93 rfl))) (mvT hZ (own_w hw 93 rfl)) (mvT hZ (own_w hw 92 rfl)) (by decide) (backOf (W := 0) (own_rm13 l Z a0 hw [] b1 b38 b6_o0 b6_o1 ((FP.dadd (0 : UInt64) (FP.i2d (p1 % (1000 : Int32))))) ko0_6 FP.dconst0 ((0 : UInt64)) ko1_6 ((FP.i2d (p0 % (1000 : Int32)))) ((0 : UInt64)) ((FP.i2d (p3 % (1000 : Int32)))) ((FP.i2d (p2 % (1000 : Int32)))) T187.heap n0 Z187 G188 G189 G190 (show Jvm.Free.Fl.Mag64 1100 (FP.dadd (0 : UInt64) (FP.i2d (p1 % (1000 : Int32)))) from ((Jvm.Free.Fl.dadd_mag (K := 1056) ((own_mz).mono (by decide)) ((Jvm.Free.Fl.i2d_mag ((p1 % (1000 : Int32)))).mono (by decide)) (by decide)).mono (by decide))) G191 G192 G193 G194 G199 (show Jvm.Free.Fl.Mag64 1056 (FP.i2d (p3 % (1000 : Int32))) from ((Jvm.Free.Fl.i2d_mag ((p3 % (1000 : Int32)))).mono (by decide))) G201 G200 gg1 (Ne.symm ne6_o0_b1) (Ne.symm ne6_o1_b1) (Ne.symm ne38_b1) gg6_o0 ne6_o0_b1 (Ne.symm G14) (Ne.symm ne38_b6_o0) gg6_o1 ne6_o1_b1 (Ne.symm ne38_b6_o1) G14) hZ (own_w hw 94 rfl) (own_w hw 2 rfl) (by decide) (by decide)) q254a q254c (g := (mkF m 78 #[.val (.int p0), .val (.int p1), .val (.int p2), .val (.int p3), .val (.int p4), .val (.int p5), .val (.ref b1), .val (.ref b16), .val (.ref b38), .unset, .unset, .unset, .unset, .unset, .unset, .unset, .unset] [(.ref b38), (.ref b1)])) rfl (by rw [hml]; rfl) (Steps.refl _) (argsL := [(.ref b38)]) (rest := []) (lenOf own_pd13 rfl) rfl (by show 2 * 0 + _ ≤ _; exact Nat.le_of_eq rfl) (hb hby at_78) (fun _ _ => ⟨rfl, rfl, (by decide : 5 + 0 ≤ _), (by decide : 16 + 0 ≤ _)⟩)
      dsimp only [Pt.U, Pt.locs, Pt.cells, Pt.slots] at X254 l254 y254 z254 st254 hQ254
      subst l254 y254 z254
      obtain ⟨N254q, K254q, rfl, G255, G256, G257, G258, G259, G260, G261⟩ := hQ254
      have N254 := Fr.app N187 N254q
      have K254 : Keep h0 T254.heap [] := K187.trans K254q (allS (P := fun x => x ∈ [] ∨ h0.size ≤ x) (Or.inr sz1) (allS (P := fun x => x ∈ [] ∨ h0.size ≤ x) (Or.inr sy6_o0) (allS (P := fun x => x ∈ [] ∨ h0.size ≤ x) (Or.inr sy6_o1) all0)))
      have Z254 : n0 ≤ T254.heap.size := Nat.le_trans Z187 K254q.1
      have G262 := (G188.keep K254q)
      have G263 := (G196.keep K254q)
      have G264 := (G197.keep K254q (ninS (Ne.symm ne16_b1) (ninS (Ne.symm ne16_b6_o0) (ninS (Ne.symm ne16_b6_o1) nin0))))
      have G265 := (G198.keep K254q (ninS (Ne.symm ne16_b1) (ninS (Ne.symm ne16_b6_o0) (ninS (Ne.symm ne16_b6_o1) nin0))))
      have G266 := (G199.keep K254q)
      have G267 := (G200.keep K254q (ninS (Ne.symm ne38_b1) (ninS (Ne.symm ne38_b6_o0) (ninS (Ne.symm ne38_b6_o1) nin0))))
      have G268 := (G201.keep K254q (ninS (Ne.symm ne38_b1) (ninS (Ne.symm ne38_b6_o0) (ninS (Ne.symm ne38_b6_o1) nin0))))
      refine own_step (fun _ k => st254.trans k) ?_
      show own_Fin p e below s _ _ _ (T254.setTop (mkF m 81 #[.val (.int p0), .val (.int p1), .val (.int p2), .val (.int p3), .val (.int p4), .val (.int p5), .val (.ref b1), .val (.ref b16), .val (.ref b38), .unset, .unset, .unset, .unset, .unset, .unset, .unset, .unset] [(.ref b1)]))
      refine own_step (fun _ k => XS.pop X254.here hx rfl (hb hby at_81) rfl rfl k) ?_
      refine own_step (fun _ k => XS.iload X254.here hx rfl (hb hby at_82) rfl k) ?_
      refine own_step (fun _ k => XS.iconst X254.here hx rfl (hb hby at_84) k) ?_
      refine own_step (fun _ k => XS.iand X254.here hx rfl (hb hby at_85) rfl k) ?_
      show own_Fin p e below s _ _ _ (T254.setTop (mkF m 86 #[.val (.int p0), .val (.int p1), .val (.int p2), .val (.int p3), .val (.int p4), .val (.int p5), .val (.ref b1), .val (.ref b16), .val (.ref b38), .unset, .unset, .unset, .unset, .unset, .unset, .unset, .unset] [(.int (p4 &&& (4 : Int32)))]))
      by_cases hc269 : (p4 &&& (4 : Int32)) = (0 : Int32)
      · refine own_step (fun _ k => XS.ifYes X254.here hx rfl (pc0 := 86) (pc' := 132) rfl (hb hby at_86) rfl ((if0 _ _).trans (teq hc269).1) (by decide) (by decide) k) ?_
        exact own_rm29 l Z a0 hw hx hby hlk hml Bd.returns p0 p1 p2 p3 p4 p5 b1 b16 b38 b6_o0 b6_o1 ((.double (FP.dadd (FP.dadd (0 : UInt64) (FP.i2d (p1 % (1000 : Int32)))) (FP.i2d (p3 % (1000 : Int32)))))) ((.int (2 : Int32))) T254.heap n0 Z254 (X254.more (by decide : 5 ≤ _) (by decide : 16 ≤ _)) rfl N254 hZ hown G255 G256 G257 G258 G259 gg1
      · refine own_step (fun _ k => XS.ifNo X254.here hx rfl (hb hby at_86) rfl ((if0 _ _).trans (feq hc269).1) k) ?_
        obtain ⟨T270, h270, X270, e270, E270, A270, D270, -, st270⟩ := newO X254 hx hZ hown (own_w hw 39 rfl) (own_w hw 40 rfl) (own_w hw 41 rfl) rfl (g := (mkF m 89 #[.val (.int p0), .val (.int p1), .val (.int p2), .val (.int p3), .val (.int p4), .val (.int p5), .val (.ref b1), .val (.ref b16), .val (.ref b38), .unset, .unset, .unset, .unset, .unset, .unset, .unset, .unset] [])) rfl (hb hby at_89) (by decide) (by decide)
        obtain ⟨b270, g270⟩ : ∃ z, z = T254.heap.size := ⟨_, rfl⟩
        rw [← g270] at A270 D270 st270
        have ne270_b1 : b1 ≠ b270 := Nat.ne_of_lt (Nat.lt_of_lt_of_le G255.lt (Nat.le_of_eq g270.symm))
        have ne270_b16 : b16 ≠ b270 := Nat.ne_of_lt (Nat.lt_of_lt_of_le G263.lt (Nat.le_of_eq g270.symm))
        have ne270_b38 : b38 ≠ b270 := Nat.ne_of_lt (Nat.lt_of_lt_of_le G266.lt (Nat.le_of_eq g270.symm))
        have ne270_b6_o0 : b6_o0 ≠ b270 := Nat.ne_of_lt (Nat.lt_of_lt_of_le G260.lt (Nat.le_of_eq g270.symm))
        have ne270_b6_o1 : b6_o1 ≠ b270 := Nat.ne_of_lt (Nat.lt_of_lt_of_le G261.lt (Nat.le_of_eq g270.symm))
        have gg270 : n0 ≤ b270 := Nat.le_trans Z254 (Nat.le_of_eq g270.symm)
        have sz270 : h0.size ≤ b270 := Nat.le_trans K254.1 (Nat.le_of_eq g270.symm)
        have K270 : Keep h0 h270 [] := K254.ext E270
        have Z270 : n0 ≤ h270.size := Nat.le_trans Z254 E270.1
        have G271 := (G255.ext E270)
        have G272 := (G263.ext E270)
        have G273 := (G264.ext E270)
        have G274 := (G265.ext E270)
        have G275 := (G266.ext E270)
        have G276 := (G267.ext E270)
        have G277 := (G268.ext E270)
        have G278 := (G256.ext E270)
        have G279 := (G257.ext E270)
        have G280 := (G258.ext E270)
        have G281 := (G259.ext E270)
        have G282 := (G260.ext E270)
        have G283 := (G261.ext E270)
        have G284 : Fld Z h270 b270 "com/example/tandem/tandem/model/TokenBucket" "rate" "D" (.double (0 : UInt64)) := D270 (Or.inr (own_w hw 47 rfl)) (ty := .double) (by decide)
        have G285 : Fld Z h270 b270 "com/example/tandem/tandem/model/TokenBucket" "burst" "D" (.double (0 : UInt64)) := D270 (Or.inr (own_w hw 49 rfl)) (ty := .double) (by decide)
        refine own_step st270 ?_
        show own_Fin p e below s _ _ _ (T270.setTop (mkF m 92 #[.val (.int p0), .val (.int p1), .val (.int p2), .val (.int p3), .val (.int p4), .val (.int p5), .val (.ref b1), .val (.ref b16), .val (.ref b38), .unset, .unset, .unset, .unset, .unset, .unset, .unset, .unset] [(.ref b270)]))
        refine own_step (fun _ k => XS.dup X270.here hx rfl (hb hby at_92) rfl rfl k) ?_
        refine own_step (fun _ k => XS.iload X270.here hx rfl (hb hby at_93) rfl k) ?_
        refine own_step (fun _ k => XS.sipush X270.here hx rfl (hb hby at_95) k) ?_
        refine own_step (fun _ k => iremM (g := (mkF m 98 #[.val (.int p0), .val (.int p1), .val (.int p2), .val (.int p3), .val (.int p4), .val (.int p5), .val (.ref b1), .val (.ref b16), .val (.ref b38), .unset, .unset, .unset, .unset, .unset, .unset, .unset, .unset] [(.int (1000 : Int32)), (.int p5), (.ref b270), (.ref b270)])) X270 hx rfl (hb hby at_98) rfl (by decide) k) ?_
        show own_Fin p e below s _ _ _ (T270.setTop (mkF m 99 #[.val (.int p0), .val (.int p1), .val (.int p2), .val (.int p3), .val (.int p4), .val (.int p5), .val (.ref b1), .val (.ref b16), .val (.ref b38), .unset, .unset, .unset, .unset, .unset, .unset, .unset, .unset] [(.int (p5 % (1000 : Int32))), (.ref b270), (.ref b270)]))
        refine own_step (fun _ k => XS.i2dS X270.here hx rfl (hb hby at_99) rfl rfl k) ?_
        refine own_step (fun _ k => XS.iload X270.here hx rfl (hb hby at_100) rfl k) ?_
        refine own_step (fun _ k => XS.bipush X270.here hx rfl (hb hby at_102) k) ?_
        refine own_step (fun _ k => XS.ishr X270.here hx rfl (hb hby at_104) rfl k) ?_
        show own_Fin p e below s _ _ _ (T270.setTop (mkF m 105 #[.val (.int p0), .val (.int p1), .val (.int p2), .val (.int p3), .val (.int p4), .val (.int p5), .val (.ref b1), .val (.ref b16), .val (.ref b38), .unset, .unset, .unset, .unset, .unset, .unset, .unset, .unset] [(.int (p5 >>> ((10 : Int32) &&& 31))), (.double (FP.i2d (p5 % (1000 : Int32)))), (.ref b270), (.ref b270)]))
        refine own_step (fun _ k => XS.sipush X270.here hx rfl (hb hby at_105) k) ?_
        refine own_step (fun _ k => iremM (g := (mkF m 108 #[.val (.int p0), .val (.int p1), .val (.int p2), .val (.int p3), .val (.int p4), .val (.int p5), .val (.ref b1), .val (.ref b16), .val (.ref b38), .unset, .unset, .unset, .unset, .unset, .unset, .unset, .unset] [(.int (1000 : Int32)), (.int (p5 >>> ((10 : Int32) &&& 31))), (.double (FP.i2d (p5 % (1000 : Int32)))), (.ref b270), (.ref b270)])) X270 hx rfl (hb hby at_108) rfl (by decide) k) ?_
        refine own_step (fun _ k => XS.i2dS X270.here hx rfl (hb hby at_109) rfl rfl k) ?_
        obtain ⟨_, _, ⟨T286, L286, k286, n286⟩, -, X286, ⟨Lc286, hQ286, l286, y286, z286⟩, st286⟩ := X270.specialBack hx (y := own_y12) rfl hown (mvT hZ (own_w hw 42 rfl)) (mvT hZ (own_w hw 43 rfl)) (mvT hZ (own_w hw 44 rfl)) (by decide) (backOf (W := 1) (own_rm4 l Z a0 hw [] b270 ((FP.i2d (p5 % (1000 : Int32)))) ((FP.i2d ((p5 >>> ((10 : Int32) &&& 31)) % (1000 : Int32)))) ((.double (0 : UInt64))) ((.double (0 : UInt64))) h270 n0 Z270 A270 G284 G285 gg270) hZ (own_w hw 44 rfl) (own_w hw 41 rfl) (by decide) (by decide)) (g := (mkF m 110 #[.val (.int p0), .val (.int p1), .val (.int p2), .val (.int p3), .val (.int p4), .val (.int p5), .val (.ref b1), .val (.ref b16), .val (.ref b38), .unset, .unset, .unset, .unset, .unset, .unset, .unset, .unset] [(.double (FP.i2d ((p5 >>> ((10 : Int32) &&& 31)) % (1000 : Int32)))), (.double (FP.i2d (p5 % (1000 : Int32)))), (.ref b270), (.ref b270)])) rfl (by rw [hml]; rfl) (Steps.refl _) (a := b270) (argsL := [(.double (FP.i2d (p5 % (1000 : Int32)))), (.double (FP.i2d ((p5 >>> ((10 : Int32) &&& 31)) % (1000 : Int32))))]) (rest := [(.ref b270)]) (lenOf own_pd9 rfl) rfl (by show 2 * 0 + _ ≤ _; exact Nat.le_of_eq rfl) (hb hby at_110) (fun _ _ => ⟨rfl, e270, (by decide : 6 + 0 ≤ _), (by decide : 18 + 0 ≤ _)⟩)
        dsimp only [Pt.U, Pt.locs, Pt.cells, Pt.slots] at X286 l286 y286 z286 st286 hQ286
        subst l286 y286 z286
        obtain ⟨N286q, K286q, rfl, G287, G288, G289⟩ := hQ286
        have N286 := Fr.app N254 N286q
        have K286 : Keep h0 T286.heap [] := K270.trans K286q (allS (P := fun x => x ∈ [] ∨ h0.size ≤ x) (Or.inr sz270) all0)
        have Z286 : n0 ≤ T286.heap.size := Nat.le_trans Z270 K286q.1
        have G290 := (G271.keep K286q)
        have G291 := (G272.keep K286q)
        have G292 := (G273.keep K286q (ninS ne270_b16 nin0))
        have G293 := (G274.keep K286q (ninS ne270_b16 nin0))
        have G294 := (G275.keep K286q)
        have G295 := (G276.keep K286q (ninS ne270_b38 nin0))
        have G296 := (G277.keep K286q (ninS ne270_b38 nin0))
        have G297 := (G278.keep K286q (ninS ne270_b1 nin0))
        have G298 := (G279.keep K286q (ninS ne270_b1 nin0))
        have G299 := (G280.keep K286q (ninS ne270_b1 nin0))
        have G300 := (G281.keep K286q (ninS ne270_b1 nin0))
        have G301 := (G282.keep K286q (ninS ne270_b6_o0 nin0))
        have G302 := (G283.keep K286q (ninS ne270_b6_o1 nin0))
        have G303 := (A270.keep K286q)
        refine own_step (fun _ k => st286.trans k) ?_
        show own_Fin p e below s _ _ _ (T286.setTop (mkF m 113 #[.val (.int p0), .val (.int p1), .val (.int p2), .val (.int p3), .val (.int p4), .val (.int p5), .val (.ref b1), .val (.ref b16), .val (.ref b38), .unset, .unset, .unset, .unset, .unset, .unset, .unset, .unset] [(.ref b270)]))
        refine own_step (fun _ k => XS.astore X286.here hx rfl (hb hby at_113) rfl rfl (l' := #[.val (.int p0), .val (.int p1), .val (.int p2), .val (.int p3), .val (.int p4), .val (.int p5), .val (.ref b1), .val (.ref b16), .val (.ref b38), .val (.ref b270), .unset, .unset, .unset, .unset, .unset, .unset, .unset]) rfl k) ?_
        refine own_step (fun _ k => XS.aload X286.here hx rfl (hb hby at_115) rfl rfl k) ?_
        refine own_step (fun _ k => XS.aload X286.here hx rfl (hb hby at_117) rfl rfl k) ?_
        refine own_step (fun _ k => XS.iload X286.here hx rfl (hb hby at_119) rfl k) ?_
        show own_Fin p e below s _ _ _ (T286.setTop (mkF m 121 #[.val (.int p0), .val (.int p1), .val (.int p2), .val (.int p3), .val (.int p4), .val (.int p5), .val (.ref b1), .val (.ref b16), .val (.ref b38), .val (.ref b270), .unset, .unset, .unset, .unset, .unset, .unset, .unset] [(.int p4), (.ref b270), (.ref b1)]))
        refine own_step (fun _ k => XS.iconst X286.here hx rfl (hb hby at_121) k) ?_
        refine own_step (fun _ k => XS.iushr X286.here hx rfl (hb hby at_122) rfl k) ?_
        refine own_step (fun _ k => XS.sipush X286.here hx rfl (hb hby at_123) k) ?_
        refine own_step (fun _ k => XS.iand X286.here hx rfl (hb hby at_126) rfl k) ?_
        show own_Fin p e below s _ _ _ (T286.setTop (mkF m 127 #[.val (.int p0), .val (.int p1), .val (.int p2), .val (.int p3), .val (.int p4), .val (.int p5), .val (.ref b1), .val (.ref b16), .val (.ref b38), .val (.ref b270), .unset, .unset, .unset, .unset, .unset, .unset, .unset] [(.int (((p4.toUInt32 >>> ((3 : Int32) &&& 31).toUInt32).toInt32) &&& (1023 : Int32))), (.ref b270), (.ref b1)]))
        refine own_step (fun _ k => XS.i2dS X286.here hx rfl (hb hby at_127) rfl rfl k) ?_
        obtain ⟨cq304, kq304, q304a, q304b, q304c⟩ := isOf hZ rfl G290
        obtain ⟨_, _, ⟨T304, L304, k304, n304⟩, -, X304, ⟨Lc304, hQ304, l304, y304, z304⟩, st304⟩ := X286.virtualBack hx (y := own_y17) (z := own_y17) hown (mvT hZ (own_w hw 105 rfl)) (mvT hZ (own_w hw 106 rfl)) (notFace_of_selects (args := #[]) (mvT hZ (own_w hw 108 rfl))) (mvT hZ (own_w hw 108 rfl)) (mvT hZ (own_w hw 107 rfl)) (by decide) (backOf (W := 0) (own_rm19 l Z a0 hw [] b1 b270 ((FP.i2d (((p4.toUInt32 >>> ((3 : Int32) &&& 31).toUInt32).toInt32) &&& (1023 : Int32)))) ((p0 % (1000 : Int32))) ((p2 % (1000 : Int32))) (((p5 >>> ((10 : Int32) &&& 31)) % (1000 : Int32))) ((p5 % (1000 : Int32))) b6_o0 b6_o1 ((FP.dadd (FP.dadd (0 : UInt64) (FP.i2d (p1 % (1000 : Int32)))) (FP.i2d (p3 % (1000 : Int32))))) ko0_6 ko1_6 T286.heap n0 Z286 (show Jvm.Free.Fl.Mag64 1056 (FP.i2d (((p4.toUInt32 >>> ((3 : Int32) &&& 31).toUInt32).toInt32) &&& (1023 : Int32))) from ((Jvm.Free.Fl.i2d_mag ((((p4.toUInt32 >>> ((3 : Int32) &&& 31).toUInt32).toInt32) &&& (1023 : Int32)))).mono (by decide))) G290 G297 G298 (show Jvm.Free.Fl.Mag64 1100 (FP.dadd (FP.dadd (0 : UInt64) (FP.i2d (p1 % (1000 : Int32)))) (FP.i2d (p3 % (1000 : Int32)))) from ((Jvm.Free.Fl.dadd_mag (K := 1058) ((Jvm.Free.Fl.dadd_mag (K := 1056) ((own_mz).mono (by decide)) ((Jvm.Free.Fl.i2d_mag ((p1 % (1000 : Int32)))).mono (by decide)) (by decide)).mono (by decide)) ((Jvm.Free.Fl.i2d_mag ((p3 % (1000 : Int32)))).mono (by decide)) (by decide)).mono (by decide))) G299 G300 G301 G302 G287 G289 G288 gg6_o0 ne6_o0_b1 (Ne.symm G14) (Ne.symm ne270_b6_o0) gg6_o1 ne6_o1_b1 (Ne.symm ne270_b6_o1) G14 gg1 (Ne.symm ne270_b1) (Ne.symm ne6_o0_b1) (Ne.symm ne6_o1_b1)) hZ (own_w hw 109 rfl) (own_w hw 2 rfl) (by decide) (by decide)) q304a q304c (g := (mkF m 128 #[.val (.int p0), .val (.int p1), .val (.int p2), .val (.int p3), .val (.int p4), .val (.int p5), .val (.ref b1), .val (.ref b16), .val (.ref b38), .val (.ref b270), .unset, .unset, .unset, .unset, .unset, .unset, .unset] [(.double (FP.i2d (((p4.toUInt32 >>> ((3 : Int32) &&& 31).toUInt32).toInt32) &&& (1023 : Int32)))), (.ref b270), (.ref b1)])) rfl (by rw [hml]; rfl) (Steps.refl _) (argsL := [(.ref b270), (.double (FP.i2d (((p4.toUInt32 >>> ((3 : Int32) &&& 31).toUInt32).toInt32) &&& (1023 : Int32))))]) (rest := []) (lenOf own_pd12 rfl) rfl (by show 2 * 0 + _ ≤ _; exact Nat.le_of_eq rfl) (hb hby at_128) (fun _ _ => ⟨rfl, rfl, (by decide : 6 + 0 ≤ _), (by decide : 18 + 0 ≤ _)⟩)
        dsimp only [Pt.U, Pt.locs, Pt.cells, Pt.slots] at X304 l304 y304 z304 st304 hQ304
        subst l304 y304 z304
        obtain ⟨N304q, K304q, uo0_304, uo1_304, rfl, G305, G306, G307, G308, G309⟩ := hQ304
        have N304 := Fr.app N286 N304q
        have K304 : Keep h0 T304.heap [] := K286.trans K304q (allS (P := fun x => x ∈ [] ∨ h0.size ≤ x) (Or.inr sz1) (allS (P := fun x => x ∈ [] ∨ h0.size ≤ x) (Or.inr sy6_o1) (allS (P := fun x => x ∈ [] ∨ h0.size ≤ x) (Or.inr sy6_o0) all0)))
        have Z304 : n0 ≤ T304.heap.size := Nat.le_trans Z286 K304q.1
        have G310 := (G290.keep K304q)
        have G311 := (G291.keep K304q)
        have G312 := (G292.keep K304q (ninS (Ne.symm ne16_b1) (ninS (Ne.symm ne16_b6_o1) (ninS (Ne.symm ne16_b6_o0) nin0))))
        have G313 := (G293.keep K304q (ninS (Ne.symm ne16_b1) (ninS (Ne.symm ne16_b6_o1) (ninS (Ne.symm ne16_b6_o0) nin0))))
        have G314 := (G294.keep K304q)
        have G315 := (G295.keep K304q (ninS (Ne.symm ne38_b1) (ninS (Ne.symm ne38_b6_o1) (ninS (Ne.symm ne38_b6_o0) nin0))))
        have G316 := (G296.keep K304q (ninS (Ne.symm ne38_b1) (ninS (Ne.symm ne38_b6_o1) (ninS (Ne.symm ne38_b6_o0) nin0))))
        have G317 := (G287.keep K304q)
        have G318 := (G288.keep K304q (ninS (Ne.symm ne270_b1) (ninS (Ne.symm ne270_b6_o1) (ninS (Ne.symm ne270_b6_o0) nin0))))
        have G319 := (G289.keep K304q (ninS (Ne.symm ne270_b1) (ninS (Ne.symm ne270_b6_o1) (ninS (Ne.symm ne270_b6_o0) nin0))))
        refine own_step (fun _ k => st304.trans k) ?_
        show own_Fin p e below s _ _ _ (T304.setTop (mkF m 131 #[.val (.int p0), .val (.int p1), .val (.int p2), .val (.int p3), .val (.int p4), .val (.int p5), .val (.ref b1), .val (.ref b16), .val (.ref b38), .val (.ref b270), .unset, .unset, .unset, .unset, .unset, .unset, .unset] [(.ref b1)]))
        refine own_step (fun _ k => XS.pop X304.here hx rfl (hb hby at_131) rfl rfl k) ?_
        exact own_rm30 l Z a0 hw hx hby hlk hml Bd.returns p0 p1 p2 p3 p4 p5 b1 b16 b38 b270 b6_o0 b6_o1 uo1_304 uo0_304 T304.heap n0 Z304 (X304.more (by decide : 6 ≤ _) (by decide : 18 ≤ _)) rfl N304 hZ hown G305 G306 G307 G309 G308 gg1

set_option maxRecDepth 65536 in
set_option maxHeartbeats 40000000 in
theorem comes_1 {Post : Tables → Env → Array Value → State → Outcome → State → Prop} (hpost : ∀ tb e args s v u, (limb_1_1.after args s (.returned v) u = true ∧ limb_1_2.after args s (.returned v) u = true ∧ True) → FrameEnd s (.returned v) u (Jvm.fieldLocs frame_1_writes args s ++ Jvm.arrayLocs frame_1_arrays args s ++ Jvm.staticLocs frame_1_statics s) 32 128 → Post tb e args s (.returned v) u) :
    ArmFor flags0 classFile x code maxLocals ret World_1 tables_1 room_1 Calls_1 rest_1 Pre_1 Post := by
  intro l hfl _ _ p e ha hc hk s m args below hf hA hF happ hP
  obtain ⟨hcalls, hrest, hpre⟩ := hP
  obtain ⟨-, -, -, hnamed, -, -, -, hat⟩ := (Spec.applies_iff hf).mp happ
  obtain ⟨hg, hn⟩ := and_e (Cond.before_iff.mp (show (Jvm.Cond.and given_1 narrow_1).before args s = true from hpre))
  obtain ⟨cj1a, cj1b⟩ := and_e hg
  obtain ⟨cj2a, cj2b⟩ := and_e cj1b
  obtain ⟨cj3a, cj3b⟩ := and_e cj2b
  obtain ⟨cj4a, cj4b⟩ := and_e cj3b
  obtain ⟨cj5a, cj5b⟩ := and_e cj4b
  obtain ⟨cj6a, cj6b⟩ := and_e cj5b
  obtain ⟨w0, w1, w2, w3, w4, w5, rfl⟩ : ∃ w0 w1 w2 w3 w4 w5 : Value, args = #[w0, w1, w2, w3, w4, w5] := by
    have hs : args.size = 6 := by simpa [Cond.value, given_1] using cj1a
    obtain ⟨L⟩ := args
    match L, hs with
    | [w0, w1, w2, w3, w4, w5], _ => exact ⟨w0, w1, w2, w3, w4, w5, rfl⟩
  have hw := fun d (hd : d ∈ tables_1) => atoms_spec (ws := Jvm.Cond.code x code maxLocals ret :: tables_1) hat d (List.mem_cons_of_mem _ hd)
  have hfit : Fit s := fun {y c} hc i hi => by
    obtain ⟨ha, rfl⟩ := Array.getElem?_eq_some_iff.mp hc
    have q := List.all_eq_true.mp ((Array.all_eq_true_iff_forall_mem.mp hF) _ (Array.getElem_mem ha)) i (List.mem_range.mpr hi)
    simpa [Array.getElem?_eq_getElem hi] using q
  obtain ⟨i0, ei0⟩ := is_v cj2a
  obtain rfl : w0 = (.int i0) := Option.some.inj ei0
  obtain ⟨i1, ei1⟩ := is_v cj3a
  obtain rfl : w1 = (.int i1) := Option.some.inj ei1
  obtain ⟨i2, ei2⟩ := is_v cj4a
  obtain rfl : w2 = (.int i2) := Option.some.inj ei2
  obtain ⟨i3, ei3⟩ := is_v cj5a
  obtain rfl : w3 = (.int i3) := Option.some.inj ei3
  obtain ⟨i4, ei4⟩ := is_v cj6a
  obtain rfl : w4 = (.int i4) := Option.some.inj ei4
  obtain ⟨i5, ei5⟩ := is_v cj6b
  obtain rfl : w5 = (.int i5) := Option.some.inj ei5
  obtain ⟨n, o, h1, h2, h3, _, L, rfl, ⟨rfl, N⟩, hq⟩ := own_rm31 l s _ hw tables_1 i0 i1 i2 i3 i4 i5 s.heap s.heap.size (Nat.le_refl _)  p e ha hc hk s m _ below hf ((Spec.applies_iff_loose hf).mp happ).1 ⟨rfl, State.Warmed39.refl s, rfl⟩ trivial
  refine ⟨n, _, h1, h2, h3, hpost _ _ _ _ _ _ ⟨Cond.after_iff.mpr rfl, Cond.after_iff.mpr (eq_i res_at (Term.int_eval (1)) rfl), trivial⟩ ⟨hq.1, hq.2.1, (hq.2.2.sift fun y hy => Or.inr (N y hy)).mono (by decide) (by decide)⟩⟩
theorem main_1_1 : Claimed_1_1 := comes_1 fun _ _ _ _ _ _ h hF => ⟨h.1, hF⟩
theorem main_1_2 : Claimed_1_2 := comes_1 fun _ _ _ _ _ _ h hF => ⟨h.2.1, hF⟩
end Jvm.Pilot.@@N@@
namespace Jvm.Pilot.@@N@@
open Jvm Jvm.ClassFile Sem Op Lib Jvm.Free Jvm.Stand Jvm.Pilot.@@N@@.Jvm.D
/-! MADE BY PROGRAM (witnessworld.py) out of the Statement's table words and the real class files: 20 classes; the members and pool entries that the words name. The judged class is class 1, her method 1. -/
namespace start1
open Jvm.ClassFile
def u (s : String) : CpInfo := .utf8 (stringToUtf16 s)
/-- a pool by its gaps: so many unusable entries, then the entry; so many at the end -/
def gap : Nat → List CpInfo → List CpInfo
  | 0, r => r
  | n + 1, r => .unusable :: gap n r
def poolList (es : List (Nat × CpInfo)) (last : Nat) : List CpInfo := es.foldr (fun e r => gap e.1 (e.2 :: r)) (gap last [])
def pool (es : List (Nat × CpInfo)) (last : Nat) : Array CpInfo := ⟨poolList es last⟩
def fileOf (pool : Array CpInfo) (this : Nat) (attrs : Array Attribute := #[]) (ms : Array MethodInfo := #[]) (fl : Nat := 33) (sup : Nat := 0) (ifs : Array Nat := #[]) (fds : Array FieldInfo := #[]) : ClassFile where
  minorVersion := 0
  majorVersion := 65
  constantPool := pool
  accessFlags := fl
  thisClass := this
  superClass := sup
  interfaces := ifs
  fields := fds
  methods := ms
  attributes := attrs
def plain (name : String) (sup : Option ClassId) : Class where
  name := name
  kind := .ordinary
  loader := none
  accessFlags := 33
  super := sup
  interfaces := #[]
  cf := none
  fields := #[]
  methods := #[]
  instanceTypes := #[]
  staticTypes := #[]
  resolved := #[]
  callSites := []
  init := .initialized
  statics := none
  mirror := none

def pool0 : Array CpInfo := pool [(5, u "<init>"), (0, u "()V"), (1, .class_ 10), (1, u "java/lang/Object")] 113

def k0c0 : Code := { maxStack := 0, maxLocals := 1, code := object_method_1_code, exceptionTable := #[], attributes := #[] }
def k0m0 : Method := { name := "<init>", desc := "()V", sig := { parameters := [], returnType := none }, accessFlags := 1, code := some k0c0 }
/-- java/lang/Object -/
def k0 : Class := { plain "java/lang/Object" none with
  accessFlags := 33
  interfaces := #[]
  cf := some (fileOf pool0 8 #[] #[{ accessFlags := 1, nameIndex := 5, descriptorIndex := 6, attributes := #[] }] 33 0 #[] #[])
  fields := #[]
  methods := #[k0m0]
  instanceTypes := #[]
  staticTypes := #[]
  resolved := Array.replicate 124 none
  statics := none }

def pool1 : Array CpInfo := pool [(2, .class_ 4), (1, u "java/lang/Object"), (0, u "<init>"), (0, u "()V"), (0, .class_ 8), (0, u "com/example/tandem/tandem/analysis/PseudoAffine"), (0, .methodref 7 10), (0, .nameAndType 5 11), (0, u "(I)V"), (0, .class_ 13), (0, u "com/example/tandem/tandem/model/RateLatency"), (0, .methodref 12 15), (0, .nameAndType 5 16), (0, u "(DD)V"), (0, .methodref 7 18), (0, .nameAndType 19 20), (0, u "concatenate"), (0, u "(Lcom/example/tandem/tandem/model/RateLatency;)Lcom/example/tandem/tandem/analysis/PseudoAffine;"), (0, .class_ 22), (0, u "com/example/tandem/tandem/model/TokenBucket"), (0, .methodref 21 15), (0, .methodref 7 25), (0, .nameAndType 26 27), (0, u "leaveOver"), (0, u "(Lcom/example/tandem/tandem/model/TokenBucket;D)Lcom/example/tandem/tandem/analysis/PseudoAffine;"), (0, .methodref 7 29), (0, .nameAndType 30 31), (0, u "clear"), (0, u "()Lcom/example/tandem/tandem/analysis/PseudoAffine;"), (0, .methodref 7 33), (0, .nameAndType 34 35), (0, u "offset"), (0, u "()D"), (0, .methodref 7 37), (0, .nameAndType 38 39), (0, u "equals"), (0, u "(Ljava/lang/Object;)Z"), (0, .methodref 7 41), (0, .nameAndType 42 43), (0, u "wait"), (0, u "(Lcom/example/tandem/tandem/model/TokenBucket;)D"), (0, .class_ 45), (0, u "com/example/tandem/tandem/analysis/PseudoAffineClearPinLaw"), (2, u "law"), (0, u "(IIIIII)Z")] 3

def k1m0 : Method := { name := "<init>", desc := "()V", sig := { parameters := [], returnType := none }, accessFlags := 1, code := none }
def k1c1 : Code := { maxStack := 6, maxLocals := 17, code := code, exceptionTable := #[], attributes := #[] }
def k1m1 : Method := { name := "law", desc := "(IIIIII)Z", sig := { parameters := [.int, .int, .int, .int, .int, .int], returnType := some .boolean }, accessFlags := 9, code := some k1c1 }
/-- com/example/tandem/tandem/analysis/PseudoAffineClearPinLaw -/
def k1 : Class := { plain "com/example/tandem/tandem/analysis/PseudoAffineClearPinLaw" (some 0) with
  accessFlags := 49
  interfaces := #[]
  cf := some (fileOf pool1 44 #[] #[{ accessFlags := 1, nameIndex := 5, descriptorIndex := 6, attributes := #[] }, { accessFlags := 9, nameIndex := 48, descriptorIndex := 49, attributes := #[] }] 49 2 #[] #[])
  fields := #[]
  methods := #[k1m0, k1m1]
  instanceTypes := #[]
  staticTypes := #[]
  resolved := Array.replicate 53 none
  statics := none }

def pool2 : Array CpInfo := pool [(1, .methodref 2 3), (0, .class_ 4), (0, .nameAndType 5 6), (0, u "java/lang/Object"), (0, u "<init>"), (0, u "()V"), (0, .fieldref 8 9), (0, .class_ 10), (0, .nameAndType 11 12), (0, u "com/example/tandem/tandem/analysis/PseudoAffine"), (0, u "jumps"), (0, u "[D"), (0, .fieldref 8 14), (0, .nameAndType 15 12), (0, u "rates"), (0, .fieldref 8 17), (0, .nameAndType 18 19), (0, u "offset"), (0, u "D"), (0, .fieldref 8 21), (0, .nameAndType 22 23), (0, u "pieces"), (0, u "I"), (0, .methodref 25 26), (0, .class_ 27), (0, .nameAndType 28 29), (0, u "com/example/tandem/tandem/model/RateLatency"), (0, u "latency"), (0, u "()D"), (0, .methodref 25 31), (0, .nameAndType 32 29), (0, u "rate"), (6, .methodref 8 40), (0, .nameAndType 41 42), (0, u "leaveOver"), (0, u "(Lcom/example/tandem/tandem/analysis/PseudoAffine;Lcom/example/tandem/tandem/model/TokenBucket;D)Lcom/example/tandem/tandem/analysis/PseudoAffine;"), (0, .methodref 44 45), (0, .class_ 46), (0, .nameAndType 47 29), (0, u "com/example/tandem/tandem/model/TokenBucket"), (0, u "burst"), (0, .methodref 44 31), (0, .class_ 50), (0, u "java/lang/Double"), (0, .double 9218868437227405312), (1, .methodref 8 54), (0, .nameAndType 55 56), (0, u "guaranteeNothing"), (0, u "()Lcom/example/tandem/tandem/analysis/PseudoAffine;"), (0, .methodref 58 59), (0, .class_ 60), (0, .nameAndType 61 62), (0, u "java/lang/Math"), (0, u "max"), (0, u "(DD)D"), (2, u "wait"), (0, u "(Lcom/example/tandem/tandem/model/TokenBucket;)D"), (0, .methodref 49 68), (0, .nameAndType 69 70), (0, u "compare"), (0, u "(DD)I"), (33, u "(I)V"), (2, u "clear"), (0, u "concatenate"), (0, u "(Lcom/example/tandem/tandem/model/RateLatency;)Lcom/example/tandem/tandem/analysis/PseudoAffine;"), (1, u "(Lcom/example/tandem/tandem/model/TokenBucket;D)Lcom/example/tandem/tandem/analysis/PseudoAffine;"), (4, u "equals"), (0, u "(Ljava/lang/Object;)Z")] 5

def k2c0 : Code := { maxStack := 2, maxLocals := 2, code := prog_42_method_1_code, exceptionTable := #[], attributes := #[] }
def k2m0 : Method := { name := "<init>", desc := "(I)V", sig := { parameters := [.int], returnType := none }, accessFlags := 0, code := some k2c0 }
def k2c1 : Code := { maxStack := 3, maxLocals := 1, code := prog_42_method_2_code, exceptionTable := #[], attributes := #[] }
def k2m1 : Method := { name := "clear", desc := "()Lcom/example/tandem/tandem/analysis/PseudoAffine;", sig := { parameters := [], returnType := some (.object "com/example/tandem/tandem/analysis/PseudoAffine") }, accessFlags := 0, code := some k2c1 }
def k2c2 : Code := { maxStack := 5, maxLocals := 2, code := prog_42_method_3_code, exceptionTable := #[], attributes := #[] }
def k2m2 : Method := { name := "concatenate", desc := "(Lcom/example/tandem/tandem/model/RateLatency;)Lcom/example/tandem/tandem/analysis/PseudoAffine;", sig := { parameters := [(.object "com/example/tandem/tandem/model/RateLatency")], returnType := some (.object "com/example/tandem/tandem/analysis/PseudoAffine") }, accessFlags := 0, code := some k2c2 }
def k2c3 : Code := { maxStack := 5, maxLocals := 4, code := prog_42_method_5_code, exceptionTable := #[], attributes := #[] }
def k2m3 : Method := { name := "leaveOver", desc := "(Lcom/example/tandem/tandem/model/TokenBucket;D)Lcom/example/tandem/tandem/analysis/PseudoAffine;", sig := { parameters := [(.object "com/example/tandem/tandem/model/TokenBucket"), .double], returnType := some (.object "com/example/tandem/tandem/analysis/PseudoAffine") }, accessFlags := 0, code := some k2c3 }
def k2c4 : Code := { maxStack := 10, maxLocals := 20, code := prog_42_method_6_code, exceptionTable := #[], attributes := #[] }
def k2m4 : Method := { name := "leaveOver", desc := "(Lcom/example/tandem/tandem/analysis/PseudoAffine;Lcom/example/tandem/tandem/model/TokenBucket;D)Lcom/example/tandem/tandem/analysis/PseudoAffine;", sig := { parameters := [(.object "com/example/tandem/tandem/analysis/PseudoAffine"), (.object "com/example/tandem/tandem/model/TokenBucket"), .double], returnType := some (.object "com/example/tandem/tandem/analysis/PseudoAffine") }, accessFlags := 0, code := some k2c4 }
def k2c5 : Code := { maxStack := 3, maxLocals := 1, code := prog_42_method_7_code, exceptionTable := #[], attributes := #[] }
def k2m5 : Method := { name := "guaranteeNothing", desc := "()Lcom/example/tandem/tandem/analysis/PseudoAffine;", sig := { parameters := [], returnType := some (.object "com/example/tandem/tandem/analysis/PseudoAffine") }, accessFlags := 2, code := some k2c5 }
def k2c6 : Code := { maxStack := 2, maxLocals := 1, code := prog_42_method_8_code, exceptionTable := #[], attributes := #[] }
def k2m6 : Method := { name := "offset", desc := "()D", sig := { parameters := [], returnType := some .double }, accessFlags := 0, code := some k2c6 }
def k2c7 : Code := { maxStack := 6, maxLocals := 9, code := prog_42_method_10_code, exceptionTable := #[], attributes := #[] }
def k2m7 : Method := { name := "wait", desc := "(Lcom/example/tandem/tandem/model/TokenBucket;)D", sig := { parameters := [(.object "com/example/tandem/tandem/model/TokenBucket")], returnType := some .double }, accessFlags := 0, code := some k2c7 }
def k2c8 : Code := { maxStack := 4, maxLocals := 4, code := prog_42_method_12_code, exceptionTable := #[], attributes := #[] }
def k2m8 : Method := { name := "equals", desc := "(Ljava/lang/Object;)Z", sig := { parameters := [(.object "java/lang/Object")], returnType := some .boolean }, accessFlags := 1, code := some k2c8 }
/-- com/example/tandem/tandem/analysis/PseudoAffine -/
def k2 : Class := { plain "com/example/tandem/tandem/analysis/PseudoAffine" (some 0) with
  accessFlags := 48
  interfaces := #[]
  cf := some (fileOf pool2 8 #[] #[{ accessFlags := 0, nameIndex := 5, descriptorIndex := 104, attributes := #[] }, { accessFlags := 0, nameIndex := 107, descriptorIndex := 56, attributes := #[] }, { accessFlags := 0, nameIndex := 108, descriptorIndex := 109, attributes := #[] }, { accessFlags := 0, nameIndex := 41, descriptorIndex := 111, attributes := #[] }, { accessFlags := 0, nameIndex := 41, descriptorIndex := 42, attributes := #[] }, { accessFlags := 2, nameIndex := 55, descriptorIndex := 56, attributes := #[] }, { accessFlags := 0, nameIndex := 18, descriptorIndex := 29, attributes := #[] }, { accessFlags := 0, nameIndex := 65, descriptorIndex := 66, attributes := #[] }, { accessFlags := 1, nameIndex := 116, descriptorIndex := 117, attributes := #[] }] 48 2 #[] #[{ accessFlags := 18, nameIndex := 11, descriptorIndex := 12, attributes := #[] }, { accessFlags := 18, nameIndex := 15, descriptorIndex := 12, attributes := #[] }, { accessFlags := 2, nameIndex := 22, descriptorIndex := 23, attributes := #[] }, { accessFlags := 2, nameIndex := 18, descriptorIndex := 19, attributes := #[] }])
  fields := #[{ name := "jumps", type := (.array .double), accessFlags := 18, slot := 0, constantValue := 0 }, { name := "rates", type := (.array .double), accessFlags := 18, slot := 1, constantValue := 0 }, { name := "pieces", type := .int, accessFlags := 2, slot := 2, constantValue := 0 }, { name := "offset", type := .double, accessFlags := 2, slot := 3, constantValue := 0 }]
  methods := #[k2m0, k2m1, k2m2, k2m3, k2m4, k2m5, k2m6, k2m7, k2m8]
  instanceTypes := #[(.array .double), (.array .double), .int, .double]
  staticTypes := #[]
  resolved := Array.replicate 123 none
  statics := none }

def pool3 : Array CpInfo := pool [(1, .methodref 2 3), (0, .class_ 4), (0, .nameAndType 5 6), (0, u "java/lang/Object"), (0, u "<init>"), (0, u "()V"), (0, .class_ 8), (0, u "java/lang/Record")] 13

def k3c0 : Code := { maxStack := 1, maxLocals := 1, code := jdk_30_method_1_code, exceptionTable := #[], attributes := #[] }
def k3m0 : Method := { name := "<init>", desc := "()V", sig := { parameters := [], returnType := none }, accessFlags := 4, code := some k3c0 }
/-- java/lang/Record -/
def k3 : Class := { plain "java/lang/Record" (some 0) with
  accessFlags := 1057
  interfaces := #[]
  cf := some (fileOf pool3 7 #[] #[{ accessFlags := 4, nameIndex := 5, descriptorIndex := 6, attributes := #[] }] 1057 2 #[] #[])
  fields := #[]
  methods := #[k3m0]
  instanceTypes := #[]
  staticTypes := #[]
  resolved := Array.replicate 22 none
  statics := none }

def pool4 : Array CpInfo := pool [(1, .methodref 2 3), (0, .class_ 4), (0, .nameAndType 5 6), (0, u "java/lang/Record"), (0, u "<init>"), (0, u "()V"), (0, .fieldref 8 9), (0, .class_ 10), (0, .nameAndType 11 12), (0, u "com/example/tandem/tandem/model/RateLatency"), (0, u "rate"), (0, u "D"), (0, .fieldref 8 14), (0, .nameAndType 15 12), (0, u "latency"), (12, u "(DD)V"), (6, u "()D")] 21

def k4c0 : Code := { maxStack := 3, maxLocals := 5, code := prog_54_method_1_code, exceptionTable := #[], attributes := #[] }
def k4m0 : Method := { name := "<init>", desc := "(DD)V", sig := { parameters := [.double, .double], returnType := none }, accessFlags := 1, code := some k4c0 }
def k4c1 : Code := { maxStack := 2, maxLocals := 1, code := prog_54_method_5_code, exceptionTable := #[], attributes := #[] }
def k4m1 : Method := { name := "rate", desc := "()D", sig := { parameters := [], returnType := some .double }, accessFlags := 1, code := some k4c1 }
def k4c2 : Code := { maxStack := 2, maxLocals := 1, code := prog_54_method_6_code, exceptionTable := #[], attributes := #[] }
def k4m2 : Method := { name := "latency", desc := "()D", sig := { parameters := [], returnType := some .double }, accessFlags := 1, code := some k4c2 }
/-- com/example/tandem/tandem/model/RateLatency -/
def k4 : Class := { plain "com/example/tandem/tandem/model/RateLatency" (some 3) with
  accessFlags := 49
  interfaces := #[]
  cf := some (fileOf pool4 8 #[] #[{ accessFlags := 1, nameIndex := 5, descriptorIndex := 28, attributes := #[] }, { accessFlags := 1, nameIndex := 11, descriptorIndex := 35, attributes := #[] }, { accessFlags := 1, nameIndex := 15, descriptorIndex := 35, attributes := #[] }] 49 2 #[] #[{ accessFlags := 18, nameIndex := 11, descriptorIndex := 12, attributes := #[] }, { accessFlags := 18, nameIndex := 15, descriptorIndex := 12, attributes := #[] }])
  fields := #[{ name := "rate", type := .double, accessFlags := 18, slot := 0, constantValue := 0 }, { name := "latency", type := .double, accessFlags := 18, slot := 1, constantValue := 0 }]
  methods := #[k4m0, k4m1, k4m2]
  instanceTypes := #[.double, .double]
  staticTypes := #[]
  resolved := Array.replicate 57 none
  statics := none }

def pool5 : Array CpInfo := pool [(1, .methodref 2 3), (0, .class_ 4), (0, .nameAndType 5 6), (0, u "java/lang/Record"), (0, u "<init>"), (0, u "()V"), (0, .fieldref 8 9), (0, .class_ 10), (0, .nameAndType 11 12), (0, u "com/example/tandem/tandem/model/TokenBucket"), (0, u "rate"), (0, u "D"), (0, .fieldref 8 14), (0, .nameAndType 15 12), (0, u "burst"), (12, u "(DD)V"), (6, u "()D")] 21

def k5c0 : Code := { maxStack := 3, maxLocals := 5, code := prog_56_method_1_code, exceptionTable := #[], attributes := #[] }
def k5m0 : Method := { name := "<init>", desc := "(DD)V", sig := { parameters := [.double, .double], returnType := none }, accessFlags := 1, code := some k5c0 }
def k5c1 : Code := { maxStack := 2, maxLocals := 1, code := prog_56_method_5_code, exceptionTable := #[], attributes := #[] }
def k5m1 : Method := { name := "rate", desc := "()D", sig := { parameters := [], returnType := some .double }, accessFlags := 1, code := some k5c1 }
def k5c2 : Code := { maxStack := 2, maxLocals := 1, code := prog_56_method_6_code, exceptionTable := #[], attributes := #[] }
def k5m2 : Method := { name := "burst", desc := "()D", sig := { parameters := [], returnType := some .double }, accessFlags := 1, code := some k5c2 }
/-- com/example/tandem/tandem/model/TokenBucket -/
def k5 : Class := { plain "com/example/tandem/tandem/model/TokenBucket" (some 3) with
  accessFlags := 49
  interfaces := #[]
  cf := some (fileOf pool5 8 #[] #[{ accessFlags := 1, nameIndex := 5, descriptorIndex := 28, attributes := #[] }, { accessFlags := 1, nameIndex := 11, descriptorIndex := 35, attributes := #[] }, { accessFlags := 1, nameIndex := 15, descriptorIndex := 35, attributes := #[] }] 49 2 #[] #[{ accessFlags := 18, nameIndex := 11, descriptorIndex := 12, attributes := #[] }, { accessFlags := 18, nameIndex := 15, descriptorIndex := 12, attributes := #[] }])
  fields := #[{ name := "rate", type := .double, accessFlags := 18, slot := 0, constantValue := 0 }, { name := "burst", type := .double, accessFlags := 18, slot := 1, constantValue := 0 }]
  methods := #[k5m0, k5m1, k5m2]
  instanceTypes := #[.double, .double]
  staticTypes := #[]
  resolved := Array.replicate 57 none
  statics := none }

def pool6 : Array CpInfo := pool [(1, .class_ 2), (0, u "java/io/Serializable"), (0, .class_ 4), (0, u "java/lang/Object")] 2

/-- java/io/Serializable -/
def k6 : Class := { plain "java/io/Serializable" (some 0) with
  accessFlags := 1537
  interfaces := #[]
  cf := some (fileOf pool6 1 #[] #[] 1537 3 #[] #[])
  fields := #[]
  methods := #[]
  instanceTypes := #[]
  staticTypes := #[]
  resolved := Array.replicate 7 none
  statics := none }

def pool7 : Array CpInfo := pool [(2, .class_ 4), (1, u "java/lang/Object"), (0, u "<init>"), (0, u "()V"), (1, .class_ 10), (1, u "java/lang/Number"), (2, .class_ 14), (0, u "java/io/Serializable"), (0, u "serialVersionUID"), (0, u "J")] 20

def k7m0 : Method := { name := "<init>", desc := "()V", sig := { parameters := [], returnType := none }, accessFlags := 1, code := none }
/-- java/lang/Number -/
def k7 : Class := { plain "java/lang/Number" (some 0) with
  accessFlags := 1057
  interfaces := #[6]
  cf := some (fileOf pool7 8 #[] #[{ accessFlags := 1, nameIndex := 5, descriptorIndex := 6, attributes := #[] }] 1057 2 #[13] #[{ accessFlags := 26, nameIndex := 15, descriptorIndex := 16, attributes := #[] }])
  fields := #[{ name := "serialVersionUID", type := .long, accessFlags := 26, slot := 0, constantValue := 0 }]
  methods := #[k7m0]
  instanceTypes := #[]
  staticTypes := #[.long]
  resolved := Array.replicate 37 none
  statics := none }

def pool8 : Array CpInfo := pool [(1, .class_ 2), (0, u "java/lang/Comparable"), (0, .class_ 4), (0, u "java/lang/Object")] 7

/-- java/lang/Comparable -/
def k8 : Class := { plain "java/lang/Comparable" (some 0) with
  accessFlags := 1537
  interfaces := #[]
  cf := some (fileOf pool8 1 #[] #[] 1537 3 #[] #[])
  fields := #[]
  methods := #[]
  instanceTypes := #[]
  staticTypes := #[]
  resolved := Array.replicate 12 none
  statics := none }

def pool9 : Array CpInfo := pool [(1, .class_ 2), (0, u "java/lang/constant/Constable"), (0, .class_ 4), (0, u "java/lang/Object")] 6

/-- java/lang/constant/Constable -/
def k9 : Class := { plain "java/lang/constant/Constable" (some 0) with
  accessFlags := 1537
  interfaces := #[]
  cf := some (fileOf pool9 1 #[] #[] 1537 3 #[] #[])
  fields := #[]
  methods := #[]
  instanceTypes := #[]
  staticTypes := #[]
  resolved := Array.replicate 11 none
  statics := none }

def pool10 : Array CpInfo := pool [(1, .class_ 2), (0, u "java/lang/constant/ConstantDesc"), (0, .class_ 4), (0, u "java/lang/Object")] 32

/-- java/lang/constant/ConstantDesc -/
def k10 : Class := { plain "java/lang/constant/ConstantDesc" (some 0) with
  accessFlags := 1537
  interfaces := #[]
  cf := some (fileOf pool10 1 #[] #[] 1537 3 #[] #[])
  fields := #[]
  methods := #[]
  instanceTypes := #[]
  staticTypes := #[]
  resolved := Array.replicate 37 none
  statics := none }

def pool11 : Array CpInfo := pool [(1, .class_ 2), (0, u "java/lang/Double"), (11, u "(D)Z"), (31, .methodref 1 47), (0, .nameAndType 48 49), (0, u "doubleToLongBits"), (0, u "(D)J"), (64, .class_ 116), (1, u "java/lang/Number"), (3, u "value"), (0, u "D"), (0, .methodref 1 123), (0, .nameAndType 124 14), (0, u "isNaN"), (9, .methodref 1 135), (0, .nameAndType 136 49), (0, u "doubleToRawLongBits"), (4, u "compare"), (0, u "(DD)I"), (30, u "TYPE"), (0, u "Ljava/lang/Class;"), (0, .class_ 176), (0, u "java/lang/Comparable"), (0, .class_ 178), (0, u "java/lang/constant/Constable"), (0, .class_ 180), (0, u "java/lang/constant/ConstantDesc"), (0, u "POSITIVE_INFINITY"), (3, u "NEGATIVE_INFINITY"), (2, u "NaN"), (2, u "MAX_VALUE"), (0, u "MIN_NORMAL"), (0, u "MIN_VALUE"), (2, u "SIZE"), (0, u "I"), (1, u "PRECISION"), (1, u "MAX_EXPONENT"), (1, u "MIN_EXPONENT"), (1, u "BYTES"), (3, u "serialVersionUID"), (0, u "J")] 79

def k11c0 : Code := { maxStack := 4, maxLocals := 2, code := jdk_117_method_6_code, exceptionTable := #[], attributes := #[] }
def k11m0 : Method := { name := "isNaN", desc := "(D)Z", sig := { parameters := [.double], returnType := some .boolean }, accessFlags := 9, code := some k11c0 }
def k11c1 : Code := { maxStack := 2, maxLocals := 2, code := jdk_117_method_23_code, exceptionTable := #[], attributes := #[] }
def k11m1 : Method := { name := "doubleToLongBits", desc := "(D)J", sig := { parameters := [.double], returnType := some .long }, accessFlags := 9, code := some k11c1 }
def k11m2 : Method := { name := "doubleToRawLongBits", desc := "(D)J", sig := { parameters := [.double], returnType := some .long }, accessFlags := 265, code := none }
def k11c3 : Code := { maxStack := 4, maxLocals := 8, code := jdk_117_method_27_code, exceptionTable := #[], attributes := #[] }
def k11m3 : Method := { name := "compare", desc := "(DD)I", sig := { parameters := [.double, .double], returnType := some .int }, accessFlags := 9, code := some k11c3 }
/-- java/lang/Double -/
def k11 : Class := { plain "java/lang/Double" (some 7) with
  accessFlags := 49
  interfaces := #[8, 9, 10]
  cf := some (fileOf pool11 1 #[] #[{ accessFlags := 9, nameIndex := 124, descriptorIndex := 14, attributes := #[] }, { accessFlags := 9, nameIndex := 48, descriptorIndex := 49, attributes := #[] }, { accessFlags := 265, nameIndex := 136, descriptorIndex := 49, attributes := #[] }, { accessFlags := 9, nameIndex := 141, descriptorIndex := 142, attributes := #[] }] 49 114 #[175, 177, 179] #[{ accessFlags := 25, nameIndex := 181, descriptorIndex := 121, attributes := #[] }, { accessFlags := 25, nameIndex := 185, descriptorIndex := 121, attributes := #[] }, { accessFlags := 25, nameIndex := 188, descriptorIndex := 121, attributes := #[] }, { accessFlags := 25, nameIndex := 191, descriptorIndex := 121, attributes := #[] }, { accessFlags := 25, nameIndex := 192, descriptorIndex := 121, attributes := #[] }, { accessFlags := 25, nameIndex := 193, descriptorIndex := 121, attributes := #[] }, { accessFlags := 25, nameIndex := 196, descriptorIndex := 197, attributes := #[] }, { accessFlags := 25, nameIndex := 199, descriptorIndex := 197, attributes := #[] }, { accessFlags := 25, nameIndex := 201, descriptorIndex := 197, attributes := #[] }, { accessFlags := 25, nameIndex := 203, descriptorIndex := 197, attributes := #[] }, { accessFlags := 25, nameIndex := 205, descriptorIndex := 197, attributes := #[] }, { accessFlags := 25, nameIndex := 173, descriptorIndex := 174, attributes := #[] }, { accessFlags := 18, nameIndex := 120, descriptorIndex := 121, attributes := #[] }, { accessFlags := 26, nameIndex := 209, descriptorIndex := 210, attributes := #[] }])
  fields := #[{ name := "POSITIVE_INFINITY", type := .double, accessFlags := 25, slot := 0, constantValue := 0 }, { name := "NEGATIVE_INFINITY", type := .double, accessFlags := 25, slot := 1, constantValue := 0 }, { name := "NaN", type := .double, accessFlags := 25, slot := 2, constantValue := 0 }, { name := "MAX_VALUE", type := .double, accessFlags := 25, slot := 3, constantValue := 0 }, { name := "MIN_NORMAL", type := .double, accessFlags := 25, slot := 4, constantValue := 0 }, { name := "MIN_VALUE", type := .double, accessFlags := 25, slot := 5, constantValue := 0 }, { name := "SIZE", type := .int, accessFlags := 25, slot := 6, constantValue := 0 }, { name := "PRECISION", type := .int, accessFlags := 25, slot := 7, constantValue := 0 }, { name := "MAX_EXPONENT", type := .int, accessFlags := 25, slot := 8, constantValue := 0 }, { name := "MIN_EXPONENT", type := .int, accessFlags := 25, slot := 9, constantValue := 0 }, { name := "BYTES", type := .int, accessFlags := 25, slot := 10, constantValue := 0 }, { name := "TYPE", type := (.object "java/lang/Class"), accessFlags := 25, slot := 11, constantValue := 0 }, { name := "value", type := .double, accessFlags := 18, slot := 0, constantValue := 0 }, { name := "serialVersionUID", type := .long, accessFlags := 26, slot := 12, constantValue := 0 }]
  methods := #[k11m0, k11m1, k11m2, k11m3]
  instanceTypes := #[.double]
  staticTypes := #[.double, .double, .double, .double, .double, .double, .int, .int, .int, .int, .int, (.object "java/lang/Class"), .long]
  resolved := Array.replicate 290 none
  statics := none }

def pool12 : Array CpInfo := pool [(1, .class_ 2), (0, u "java/lang/Math"), (1, .class_ 6), (1, u "java/lang/Object"), (0, u "<init>"), (0, u "()V"), (43, u "(DD)D"), (45, .class_ 100), (1, u "java/lang/Math$RandomNumberGeneratorHolder"), (71, u "negativeZeroFloatBits"), (0, u "J"), (2, u "negativeZeroDoubleBits"), (21, u "max"), (46, u "$assertionsDisabled"), (0, u "Z"), (91, u "twoToTheDoubleScaleDown"), (0, u "D"), (4, u "twoToTheDoubleScaleUp"), (9, u "E"), (3, u "PI"), (2, u "TAU"), (2, u "DEGREES_TO_RADIANS"), (0, u "RADIANS_TO_DEGREES")] 94

def k12m0 : Method := { name := "<init>", desc := "()V", sig := { parameters := [], returnType := none }, accessFlags := 2, code := none }
def k12c1 : Code := { maxStack := 4, maxLocals := 4, code := jdk_29_method_68_code, exceptionTable := #[], attributes := #[] }
def k12m1 : Method := { name := "max", desc := "(DD)D", sig := { parameters := [.double, .double], returnType := some .double }, accessFlags := 9, code := some k12c1 }
/-- java/lang/Math -/
def k12 : Class := { plain "java/lang/Math" (some 0) with
  accessFlags := 49
  interfaces := #[]
  cf := some (fileOf pool12 1 #[.nestMembers #[98]] #[{ accessFlags := 2, nameIndex := 7, descriptorIndex := 8, attributes := #[] }, { accessFlags := 9, nameIndex := 198, descriptorIndex := 52, attributes := #[] }] 49 4 #[] #[{ accessFlags := 25, nameIndex := 354, descriptorIndex := 339, attributes := #[] }, { accessFlags := 25, nameIndex := 358, descriptorIndex := 339, attributes := #[] }, { accessFlags := 25, nameIndex := 361, descriptorIndex := 339, attributes := #[] }, { accessFlags := 26, nameIndex := 364, descriptorIndex := 339, attributes := #[] }, { accessFlags := 26, nameIndex := 365, descriptorIndex := 339, attributes := #[] }, { accessFlags := 26, nameIndex := 172, descriptorIndex := 173, attributes := #[] }, { accessFlags := 26, nameIndex := 176, descriptorIndex := 173, attributes := #[] }, { accessFlags := 8, nameIndex := 344, descriptorIndex := 339, attributes := #[] }, { accessFlags := 8, nameIndex := 338, descriptorIndex := 339, attributes := #[] }, { accessFlags := 4120, nameIndex := 245, descriptorIndex := 246, attributes := #[] }])
  fields := #[{ name := "E", type := .double, accessFlags := 25, slot := 0, constantValue := 0 }, { name := "PI", type := .double, accessFlags := 25, slot := 1, constantValue := 0 }, { name := "TAU", type := .double, accessFlags := 25, slot := 2, constantValue := 0 }, { name := "DEGREES_TO_RADIANS", type := .double, accessFlags := 26, slot := 3, constantValue := 0 }, { name := "RADIANS_TO_DEGREES", type := .double, accessFlags := 26, slot := 4, constantValue := 0 }, { name := "negativeZeroFloatBits", type := .long, accessFlags := 26, slot := 5, constantValue := 0 }, { name := "negativeZeroDoubleBits", type := .long, accessFlags := 26, slot := 6, constantValue := 0 }, { name := "twoToTheDoubleScaleUp", type := .double, accessFlags := 8, slot := 7, constantValue := 0 }, { name := "twoToTheDoubleScaleDown", type := .double, accessFlags := 8, slot := 8, constantValue := 0 }, { name := "$assertionsDisabled", type := .boolean, accessFlags := 4120, slot := 9, constantValue := 0 }]
  methods := #[k12m0, k12m1]
  instanceTypes := #[]
  staticTypes := #[.double, .double, .double, .double, .double, .long, .long, .double, .double, .boolean]
  resolved := Array.replicate 460 none
  statics := none }

def pool13 : Array CpInfo := pool [(1, u "java/lang/Cloneable"), (0, .class_ 1), (0, u "java/lang/Object"), (0, .class_ 3)] 3

/-- java/lang/Cloneable -/
def k13 : Class := { plain "java/lang/Cloneable" (some 0) with
  accessFlags := 1537
  interfaces := #[]
  cf := some (fileOf pool13 2 #[] #[] 1537 4 #[] #[])
  fields := #[]
  methods := #[]
  instanceTypes := #[]
  staticTypes := #[]
  resolved := Array.replicate 8 none
  statics := none }

/-- the primitive byte -/
def k14 : Class := { plain "byte" none with kind := .primitive 'B', accessFlags := 0x411 }
/-- [B -/
def k15 : Class := { plain "[B" (some 0) with kind := .array 14 .byte, interfaces := #[13, 6], accessFlags := 1041 }

/-- the primitive double -/
def k16 : Class := { plain "double" none with kind := .primitive 'D', accessFlags := 0x411 }
/-- [D -/
def k17 : Class := { plain "[D" (some 0) with kind := .array 16 .double, interfaces := #[13, 6], accessFlags := 1041 }

/-- the primitive int -/
def k18 : Class := { plain "int" none with kind := .primitive 'I', accessFlags := 0x411 }
/-- [I -/
def k19 : Class := { plain "[I" (some 0) with kind := .array 18 .int, interfaces := #[13, 6], accessFlags := 1041 }

def heap : Heap := #[]
def classes : Array Class := #[k0, k1, k2, k3, k4, k5, k6, k7, k8, k9, k10, k11, k12, k13, k14, k15, k16, k17, k18, k19]
def interned : List (Array UInt16 × Addr) := []
def slotsUsed : Nat := 0
def theMethod : MethodId := ⟨1, 1⟩
def args0 : Array Value := #[.int 5, .int 3, .int 7, .int 1, .int 4, .int 9]
def aboutOver (below : List Frame) : State where
  vm := { classes := classes, interned := interned.toArray }
  heap := heap
  slotsUsed := slotsUsed
  threads := #[{ frames := .invoking theMethod args0 :: below }]
def below0 : List Frame := [.native { method := ⟨0, 0⟩, args := #[] }]
def about1 : State := aboutOver below0
def p0 : Program := .bare "" "" ""
def e0 : Env := launch0.env 0 0 0
theorem w_frames : about1.frames = Frame.invoking theMethod args0 :: below0 := rfl
set_option maxRecDepth 65536 in
theorem w_args : argsFit about1.vm theMethod args0 = true := by decide +kernel
set_option maxRecDepth 65536 in
theorem w_heap : heapFits about1 = true := by decide +kernel
set_option maxRecDepth 65536 in
theorem w_runnable : about1.curStatus? = some .runnable := by decide +kernel
set_option maxRecDepth 65536 in
theorem w_alone : about1.alone = true := by decide +kernel
set_option maxRecDepth 65536 in
theorem w_named : about1.methodNamed? x = some theMethod := by decide +kernel
set_option maxRecDepth 65536 in
theorem w_hears : about1.hears theMethod below0 = true := by decide +kernel
set_option maxRecDepth 65536 in
theorem w_ripe : about1.ripe theMethod args0 below0 = true := by decide +kernel
theorem w_running : about1.status = .running := rfl
set_option maxRecDepth 65536 in
theorem w_room : about1.hasRoom e0.platform room_1 = true :=
  launch0.hasRoom_least _ room_1 (by decide +kernel) (by decide +kernel) (by decide +kernel) (by decide +kernel) (by decide +kernel) (by decide +kernel)
theorem allAtoms_all (ts : List Jvm.Cond) (a : Array Jvm.Value) (st : Jvm.State) : (allAtoms ts).before a st = ts.all (fun c => c.before a st) := by
  induction ts with
  | nil => rfl
  | cons c t ih =>
    show (Jvm.Cond.and c (allAtoms t)).before a st = _
    rw [Jvm.Cond.before_and, ih, List.all_cons]
def words1 : List Jvm.Cond := Jvm.Cond.code x code maxLocals ret :: tables_1
/-- a 'code' word, met by the world's own term for the bytes: nothing is compared byte by byte -/
theorem code_word {y : MethodName} {bytes : ByteArray} {mx : Nat} {rt : Option FieldType} {a : Array Value} {s : State} {m : MethodId} {meth : Method} {c : Code} (h1 : s.methodNamed? y = some m) (h2 : s.vm.method? m = some meth) (h3 : meth.code = some c) (h4 : c.code = bytes)
    (h5 : (c.maxLocals == mx && c.exceptionTable.isEmpty && decide (c.maxStack ≤ mostOperands) && decide (meth.sig.returnType = rt) && !meth.locks && decide (parseMethodDescriptor y.desc = some meth.sig)) = true) : (Jvm.Cond.code y bytes mx rt).before a s = true := by
  simp only [Bool.and_eq_true, beq_iff_eq, Bool.not_eq_true', decide_eq_true_eq] at h5
  obtain ⟨⟨⟨⟨⟨g1, g2⟩, g3⟩, g4⟩, g5⟩, g6⟩ := h5
  simp [Cond.before, Cond.holds, Cond.value, h1, h2, h3, h4, g1, g2, g3, g4, g5, g6]
def isCode : Jvm.Cond → Bool
  | .code _ _ _ _ => true
  | _ => false
theorem all_split {L : List Jvm.Cond} {P : Jvm.Cond → Bool} (h1 : L.all (fun c => isCode c || P c) = true) (h2 : ∀ c ∈ L.filter isCode, P c = true) : L.all P = true := by
  refine List.all_eq_true.mpr fun c hc => ?_
  have h := List.all_eq_true.mp h1 c hc
  rcases Bool.eq_false_or_eq_true (isCode c) with hi | hi
  · exact h2 c (List.mem_filter.mpr ⟨hc, hi⟩)
  · simpa [hi] using h
set_option maxRecDepth 65536 in
theorem w_c0 : (Jvm.Cond.code x code maxLocals ret).before args0 about1 = true := code_word (m := ⟨1, 1⟩) (meth := k1m1) (c := k1c1) (by decide +kernel) rfl rfl rfl (by decide +kernel)
set_option maxRecDepth 65536 in
theorem w_c1 : (Jvm.Cond.code ({ cls := "com/example/tandem/tandem/analysis/PseudoAffine", name := "<init>", desc := "(I)V" } : Jvm.MethodName) prog_42_method_1_code (2 : Nat) (Option.none : Option Jvm.ClassFile.FieldType)).before args0 about1 = true := code_word (m := ⟨2, 0⟩) (meth := k2m0) (c := k2c0) (by decide +kernel) rfl rfl rfl (by decide +kernel)
set_option maxRecDepth 65536 in
theorem w_c2 : (Jvm.Cond.code ({ cls := "java/lang/Object", name := "<init>", desc := "()V" } : Jvm.MethodName) object_method_1_code (1 : Nat) (Option.none : Option Jvm.ClassFile.FieldType)).before args0 about1 = true := code_word (m := ⟨0, 0⟩) (meth := k0m0) (c := k0c0) (by decide +kernel) rfl rfl rfl (by decide +kernel)
set_option maxRecDepth 65536 in
theorem w_c3 : (Jvm.Cond.code ({ cls := "com/example/tandem/tandem/model/RateLatency", name := "<init>", desc := "(DD)V" } : Jvm.MethodName) prog_54_method_1_code (5 : Nat) (Option.none : Option Jvm.ClassFile.FieldType)).before args0 about1 = true := code_word (m := ⟨4, 0⟩) (meth := k4m0) (c := k4c0) (by decide +kernel) rfl rfl rfl (by decide +kernel)
set_option maxRecDepth 65536 in
theorem w_c4 : (Jvm.Cond.code ({ cls := "java/lang/Record", name := "<init>", desc := "()V" } : Jvm.MethodName) jdk_30_method_1_code (1 : Nat) (Option.none : Option Jvm.ClassFile.FieldType)).before args0 about1 = true := code_word (m := ⟨3, 0⟩) (meth := k3m0) (c := k3c0) (by decide +kernel) rfl rfl rfl (by decide +kernel)
set_option maxRecDepth 65536 in
theorem w_c5 : (Jvm.Cond.code ({ cls := "com/example/tandem/tandem/analysis/PseudoAffine", name := "clear", desc := "()Lcom/example/tandem/tandem/analysis/PseudoAffine;" } : Jvm.MethodName) prog_42_method_2_code (1 : Nat) (Option.some (Jvm.ClassFile.FieldType.object "com/example/tandem/tandem/analysis/PseudoAffine"))).before args0 about1 = true := code_word (m := ⟨2, 1⟩) (meth := k2m1) (c := k2c1) (by decide +kernel) rfl rfl rfl (by decide +kernel)
set_option maxRecDepth 65536 in
theorem w_c6 : (Jvm.Cond.code ({ cls := "com/example/tandem/tandem/model/TokenBucket", name := "<init>", desc := "(DD)V" } : Jvm.MethodName) prog_56_method_1_code (5 : Nat) (Option.none : Option Jvm.ClassFile.FieldType)).before args0 about1 = true := code_word (m := ⟨5, 0⟩) (meth := k5m0) (c := k5c0) (by decide +kernel) rfl rfl rfl (by decide +kernel)
set_option maxRecDepth 65536 in
theorem w_c7 : (Jvm.Cond.code ({ cls := "com/example/tandem/tandem/analysis/PseudoAffine", name := "offset", desc := "()D" } : Jvm.MethodName) prog_42_method_8_code (1 : Nat) (Option.some Jvm.ClassFile.FieldType.double)).before args0 about1 = true := code_word (m := ⟨2, 6⟩) (meth := k2m6) (c := k2c6) (by decide +kernel) rfl rfl rfl (by decide +kernel)
set_option maxRecDepth 65536 in
theorem w_c8 : (Jvm.Cond.code ({ cls := "com/example/tandem/tandem/analysis/PseudoAffine", name := "equals", desc := "(Ljava/lang/Object;)Z" } : Jvm.MethodName) prog_42_method_12_code (4 : Nat) (Option.some Jvm.ClassFile.FieldType.boolean)).before args0 about1 = true := code_word (m := ⟨2, 8⟩) (meth := k2m8) (c := k2c8) (by decide +kernel) rfl rfl rfl (by decide +kernel)
set_option maxRecDepth 65536 in
theorem w_c9 : (Jvm.Cond.code ({ cls := "java/lang/Double", name := "compare", desc := "(DD)I" } : Jvm.MethodName) jdk_117_method_27_code (8 : Nat) (Option.some Jvm.ClassFile.FieldType.int)).before args0 about1 = true := code_word (m := ⟨11, 3⟩) (meth := k11m3) (c := k11c3) (by decide +kernel) rfl rfl rfl (by decide +kernel)
set_option maxRecDepth 65536 in
theorem w_c10 : (Jvm.Cond.code ({ cls := "java/lang/Double", name := "doubleToLongBits", desc := "(D)J" } : Jvm.MethodName) jdk_117_method_23_code (2 : Nat) (Option.some Jvm.ClassFile.FieldType.long)).before args0 about1 = true := code_word (m := ⟨11, 1⟩) (meth := k11m1) (c := k11c1) (by decide +kernel) rfl rfl rfl (by decide +kernel)
set_option maxRecDepth 65536 in
theorem w_c11 : (Jvm.Cond.code ({ cls := "java/lang/Double", name := "isNaN", desc := "(D)Z" } : Jvm.MethodName) jdk_117_method_6_code (2 : Nat) (Option.some Jvm.ClassFile.FieldType.boolean)).before args0 about1 = true := code_word (m := ⟨11, 0⟩) (meth := k11m0) (c := k11c0) (by decide +kernel) rfl rfl rfl (by decide +kernel)
set_option maxRecDepth 65536 in
theorem w_c12 : (Jvm.Cond.code ({ cls := "com/example/tandem/tandem/analysis/PseudoAffine", name := "wait", desc := "(Lcom/example/tandem/tandem/model/TokenBucket;)D" } : Jvm.MethodName) prog_42_method_10_code (9 : Nat) (Option.some Jvm.ClassFile.FieldType.double)).before args0 about1 = true := code_word (m := ⟨2, 7⟩) (meth := k2m7) (c := k2c7) (by decide +kernel) rfl rfl rfl (by decide +kernel)
set_option maxRecDepth 65536 in
theorem w_c13 : (Jvm.Cond.code ({ cls := "com/example/tandem/tandem/model/TokenBucket", name := "rate", desc := "()D" } : Jvm.MethodName) prog_56_method_5_code (1 : Nat) (Option.some Jvm.ClassFile.FieldType.double)).before args0 about1 = true := code_word (m := ⟨5, 1⟩) (meth := k5m1) (c := k5c1) (by decide +kernel) rfl rfl rfl (by decide +kernel)
set_option maxRecDepth 65536 in
theorem w_c14 : (Jvm.Cond.code ({ cls := "com/example/tandem/tandem/model/TokenBucket", name := "burst", desc := "()D" } : Jvm.MethodName) prog_56_method_6_code (1 : Nat) (Option.some Jvm.ClassFile.FieldType.double)).before args0 about1 = true := code_word (m := ⟨5, 2⟩) (meth := k5m2) (c := k5c2) (by decide +kernel) rfl rfl rfl (by decide +kernel)
set_option maxRecDepth 65536 in
theorem w_c15 : (Jvm.Cond.code ({ cls := "com/example/tandem/tandem/analysis/PseudoAffine", name := "concatenate", desc := "(Lcom/example/tandem/tandem/model/RateLatency;)Lcom/example/tandem/tandem/analysis/PseudoAffine;" } : Jvm.MethodName) prog_42_method_3_code (2 : Nat) (Option.some (Jvm.ClassFile.FieldType.object "com/example/tandem/tandem/analysis/PseudoAffine"))).before args0 about1 = true := code_word (m := ⟨2, 2⟩) (meth := k2m2) (c := k2c2) (by decide +kernel) rfl rfl rfl (by decide +kernel)
set_option maxRecDepth 65536 in
theorem w_c16 : (Jvm.Cond.code ({ cls := "com/example/tandem/tandem/model/RateLatency", name := "latency", desc := "()D" } : Jvm.MethodName) prog_54_method_6_code (1 : Nat) (Option.some Jvm.ClassFile.FieldType.double)).before args0 about1 = true := code_word (m := ⟨4, 2⟩) (meth := k4m2) (c := k4c2) (by decide +kernel) rfl rfl rfl (by decide +kernel)
set_option maxRecDepth 65536 in
theorem w_c17 : (Jvm.Cond.code ({ cls := "com/example/tandem/tandem/model/RateLatency", name := "rate", desc := "()D" } : Jvm.MethodName) prog_54_method_5_code (1 : Nat) (Option.some Jvm.ClassFile.FieldType.double)).before args0 about1 = true := code_word (m := ⟨4, 1⟩) (meth := k4m1) (c := k4c1) (by decide +kernel) rfl rfl rfl (by decide +kernel)
set_option maxRecDepth 65536 in
theorem w_c18 : (Jvm.Cond.code ({ cls := "com/example/tandem/tandem/analysis/PseudoAffine", name := "leaveOver", desc := "(Lcom/example/tandem/tandem/model/TokenBucket;D)Lcom/example/tandem/tandem/analysis/PseudoAffine;" } : Jvm.MethodName) prog_42_method_5_code (4 : Nat) (Option.some (Jvm.ClassFile.FieldType.object "com/example/tandem/tandem/analysis/PseudoAffine"))).before args0 about1 = true := code_word (m := ⟨2, 3⟩) (meth := k2m3) (c := k2c3) (by decide +kernel) rfl rfl rfl (by decide +kernel)
set_option maxRecDepth 65536 in
theorem w_c19 : (Jvm.Cond.code ({ cls := "com/example/tandem/tandem/analysis/PseudoAffine", name := "leaveOver", desc := "(Lcom/example/tandem/tandem/analysis/PseudoAffine;Lcom/example/tandem/tandem/model/TokenBucket;D)Lcom/example/tandem/tandem/analysis/PseudoAffine;" } : Jvm.MethodName) prog_42_method_6_code (20 : Nat) (Option.some (Jvm.ClassFile.FieldType.object "com/example/tandem/tandem/analysis/PseudoAffine"))).before args0 about1 = true := code_word (m := ⟨2, 4⟩) (meth := k2m4) (c := k2c4) (by decide +kernel) rfl rfl rfl (by decide +kernel)
set_option maxRecDepth 65536 in
theorem w_c20 : (Jvm.Cond.code ({ cls := "java/lang/Math", name := "max", desc := "(DD)D" } : Jvm.MethodName) jdk_29_method_68_code (4 : Nat) (Option.some Jvm.ClassFile.FieldType.double)).before args0 about1 = true := code_word (m := ⟨12, 1⟩) (meth := k12m1) (c := k12c1) (by decide +kernel) rfl rfl rfl (by decide +kernel)
set_option maxRecDepth 65536 in
theorem w_c21 : (Jvm.Cond.code ({ cls := "com/example/tandem/tandem/analysis/PseudoAffine", name := "guaranteeNothing", desc := "()Lcom/example/tandem/tandem/analysis/PseudoAffine;" } : Jvm.MethodName) prog_42_method_7_code (1 : Nat) (Option.some (Jvm.ClassFile.FieldType.object "com/example/tandem/tandem/analysis/PseudoAffine"))).before args0 about1 = true := code_word (m := ⟨2, 5⟩) (meth := k2m5) (c := k2c5) (by decide +kernel) rfl rfl rfl (by decide +kernel)
def codes1 : List Jvm.Cond := [Jvm.Cond.code x code maxLocals ret, Jvm.Cond.code ({ cls := "com/example/tandem/tandem/analysis/PseudoAffine", name := "<init>", desc := "(I)V" } : Jvm.MethodName) prog_42_method_1_code (2 : Nat) (Option.none : Option Jvm.ClassFile.FieldType), Jvm.Cond.code ({ cls := "java/lang/Object", name := "<init>", desc := "()V" } : Jvm.MethodName) object_method_1_code (1 : Nat) (Option.none : Option Jvm.ClassFile.FieldType), Jvm.Cond.code ({ cls := "com/example/tandem/tandem/model/RateLatency", name := "<init>", desc := "(DD)V" } : Jvm.MethodName) prog_54_method_1_code (5 : Nat) (Option.none : Option Jvm.ClassFile.FieldType), Jvm.Cond.code ({ cls := "java/lang/Record", name := "<init>", desc := "()V" } : Jvm.MethodName) jdk_30_method_1_code (1 : Nat) (Option.none : Option Jvm.ClassFile.FieldType), Jvm.Cond.code ({ cls := "com/example/tandem/tandem/analysis/PseudoAffine", name := "clear", desc := "()Lcom/example/tandem/tandem/analysis/PseudoAffine;" } : Jvm.MethodName) prog_42_method_2_code (1 : Nat) (Option.some (Jvm.ClassFile.FieldType.object "com/example/tandem/tandem/analysis/PseudoAffine")), Jvm.Cond.code ({ cls := "com/example/tandem/tandem/model/TokenBucket", name := "<init>", desc := "(DD)V" } : Jvm.MethodName) prog_56_method_1_code (5 : Nat) (Option.none : Option Jvm.ClassFile.FieldType), Jvm.Cond.code ({ cls := "com/example/tandem/tandem/analysis/PseudoAffine", name := "offset", desc := "()D" } : Jvm.MethodName) prog_42_method_8_code (1 : Nat) (Option.some Jvm.ClassFile.FieldType.double), Jvm.Cond.code ({ cls := "com/example/tandem/tandem/analysis/PseudoAffine", name := "equals", desc := "(Ljava/lang/Object;)Z" } : Jvm.MethodName) prog_42_method_12_code (4 : Nat) (Option.some Jvm.ClassFile.FieldType.boolean), Jvm.Cond.code ({ cls := "java/lang/Double", name := "compare", desc := "(DD)I" } : Jvm.MethodName) jdk_117_method_27_code (8 : Nat) (Option.some Jvm.ClassFile.FieldType.int), Jvm.Cond.code ({ cls := "java/lang/Double", name := "doubleToLongBits", desc := "(D)J" } : Jvm.MethodName) jdk_117_method_23_code (2 : Nat) (Option.some Jvm.ClassFile.FieldType.long), Jvm.Cond.code ({ cls := "java/lang/Double", name := "isNaN", desc := "(D)Z" } : Jvm.MethodName) jdk_117_method_6_code (2 : Nat) (Option.some Jvm.ClassFile.FieldType.boolean), Jvm.Cond.code ({ cls := "com/example/tandem/tandem/analysis/PseudoAffine", name := "wait", desc := "(Lcom/example/tandem/tandem/model/TokenBucket;)D" } : Jvm.MethodName) prog_42_method_10_code (9 : Nat) (Option.some Jvm.ClassFile.FieldType.double), Jvm.Cond.code ({ cls := "com/example/tandem/tandem/model/TokenBucket", name := "rate", desc := "()D" } : Jvm.MethodName) prog_56_method_5_code (1 : Nat) (Option.some Jvm.ClassFile.FieldType.double), Jvm.Cond.code ({ cls := "com/example/tandem/tandem/model/TokenBucket", name := "burst", desc := "()D" } : Jvm.MethodName) prog_56_method_6_code (1 : Nat) (Option.some Jvm.ClassFile.FieldType.double), Jvm.Cond.code ({ cls := "com/example/tandem/tandem/analysis/PseudoAffine", name := "concatenate", desc := "(Lcom/example/tandem/tandem/model/RateLatency;)Lcom/example/tandem/tandem/analysis/PseudoAffine;" } : Jvm.MethodName) prog_42_method_3_code (2 : Nat) (Option.some (Jvm.ClassFile.FieldType.object "com/example/tandem/tandem/analysis/PseudoAffine")), Jvm.Cond.code ({ cls := "com/example/tandem/tandem/model/RateLatency", name := "latency", desc := "()D" } : Jvm.MethodName) prog_54_method_6_code (1 : Nat) (Option.some Jvm.ClassFile.FieldType.double), Jvm.Cond.code ({ cls := "com/example/tandem/tandem/model/RateLatency", name := "rate", desc := "()D" } : Jvm.MethodName) prog_54_method_5_code (1 : Nat) (Option.some Jvm.ClassFile.FieldType.double), Jvm.Cond.code ({ cls := "com/example/tandem/tandem/analysis/PseudoAffine", name := "leaveOver", desc := "(Lcom/example/tandem/tandem/model/TokenBucket;D)Lcom/example/tandem/tandem/analysis/PseudoAffine;" } : Jvm.MethodName) prog_42_method_5_code (4 : Nat) (Option.some (Jvm.ClassFile.FieldType.object "com/example/tandem/tandem/analysis/PseudoAffine")), Jvm.Cond.code ({ cls := "com/example/tandem/tandem/analysis/PseudoAffine", name := "leaveOver", desc := "(Lcom/example/tandem/tandem/analysis/PseudoAffine;Lcom/example/tandem/tandem/model/TokenBucket;D)Lcom/example/tandem/tandem/analysis/PseudoAffine;" } : Jvm.MethodName) prog_42_method_6_code (20 : Nat) (Option.some (Jvm.ClassFile.FieldType.object "com/example/tandem/tandem/analysis/PseudoAffine")), Jvm.Cond.code ({ cls := "java/lang/Math", name := "max", desc := "(DD)D" } : Jvm.MethodName) jdk_29_method_68_code (4 : Nat) (Option.some Jvm.ClassFile.FieldType.double), Jvm.Cond.code ({ cls := "com/example/tandem/tandem/analysis/PseudoAffine", name := "guaranteeNothing", desc := "()Lcom/example/tandem/tandem/analysis/PseudoAffine;" } : Jvm.MethodName) prog_42_method_7_code (1 : Nat) (Option.some (Jvm.ClassFile.FieldType.object "com/example/tandem/tandem/analysis/PseudoAffine"))]
set_option maxRecDepth 65536 in
theorem codes_eq : words1.filter isCode = codes1 := rfl
theorem w_codes : ∀ c ∈ words1.filter isCode, c.before args0 about1 = true := by
  rw [codes_eq]
  intro c hc
  simp only [codes1, List.mem_cons, List.not_mem_nil, or_false] at hc
  rcases hc with rfl | rfl | rfl | rfl | rfl | rfl | rfl | rfl | rfl | rfl | rfl | rfl | rfl | rfl | rfl | rfl | rfl | rfl | rfl | rfl | rfl | rfl
  · exact w_c0
  · exact w_c1
  · exact w_c2
  · exact w_c3
  · exact w_c4
  · exact w_c5
  · exact w_c6
  · exact w_c7
  · exact w_c8
  · exact w_c9
  · exact w_c10
  · exact w_c11
  · exact w_c12
  · exact w_c13
  · exact w_c14
  · exact w_c15
  · exact w_c16
  · exact w_c17
  · exact w_c18
  · exact w_c19
  · exact w_c20
  · exact w_c21
set_option maxRecDepth 65536 in
theorem w_t1 : (words1.take 24).all (fun c => isCode c || c.before args0 about1) = true := by decide +kernel
set_option maxRecDepth 65536 in
theorem w_t2 : ((words1.drop 24).take 24).all (fun c => isCode c || c.before args0 about1) = true := by decide +kernel
set_option maxRecDepth 65536 in
theorem w_t3 : (((words1.drop 24).drop 24).take 24).all (fun c => isCode c || c.before args0 about1) = true := by decide +kernel
set_option maxRecDepth 65536 in
theorem w_t4 : ((((words1.drop 24).drop 24).drop 24).take 24).all (fun c => isCode c || c.before args0 about1) = true := by decide +kernel
set_option maxRecDepth 65536 in
theorem w_t5 : (((((words1.drop 24).drop 24).drop 24).drop 24).take 24).all (fun c => isCode c || c.before args0 about1) = true := by decide +kernel
set_option maxRecDepth 65536 in
theorem w_t6 : (((((words1.drop 24).drop 24).drop 24).drop 24).drop 24).all (fun c => isCode c || c.before args0 about1) = true := by decide +kernel
theorem w_tables : (allAtoms (Jvm.Cond.code x code maxLocals ret :: tables_1)).before args0 about1 = true := by
  rw [allAtoms_all]
  show words1.all (fun c => c.before args0 about1) = true
  refine all_split ?_ w_codes
  rw [← List.take_append_drop 24 words1, List.all_append, w_t1, ← List.take_append_drop 24 (words1.drop 24), List.all_append, w_t2, ← List.take_append_drop 24 ((words1.drop 24).drop 24), List.all_append, w_t3, ← List.take_append_drop 24 (((words1.drop 24).drop 24).drop 24), List.all_append, w_t4, ← List.take_append_drop 24 ((((words1.drop 24).drop 24).drop 24).drop 24), List.all_append, w_t5, w_t6]
  rfl
set_option maxRecDepth 65536 in
theorem w_case : (Jvm.Cond.and given_1 narrow_1).before args0 about1 = true := by decide +kernel
theorem w_applies : (headSpec (Jvm.Cond.code x code maxLocals ret :: tables_1) room_1).applies x e0.platform about1 = true :=
  (Spec.applies_iff w_frames).mpr ⟨w_running, w_runnable, w_alone, w_named, w_hears, w_ripe, w_room, w_tables⟩
theorem atStart : AtStart classFile x code maxLocals ret World_1 tables_1 room_1 Calls_1 rest_1 Pre_1 launch0 p0 e0 about1 theMethod args0 below0 :=
  ⟨lists_1, trivial, launch0.admits_env _ _ _, launch0.least_env, fairChoices_fair.cas, fairChoices_fair.clock, w_frames, w_args, w_heap, w_applies, trivial, trivial, w_case⟩
end start1
theorem witness_1 : WitnessClaimed_1 := ⟨start1.p0, start1.e0, start1.about1, start1.theMethod, start1.args0, start1.below0, start1.atStart⟩
end Jvm.Pilot.@@N@@
