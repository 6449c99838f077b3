import JvmDerived
import JvmDerived.Pilot.@@N@@Statement
import JvmDerived.Pilot.@@N@@Code
set_option linter.unusedVariables false
set_option linter.unusedSimpArgs false
namespace Jvm.RoadKit
open Sem ClassFile Op Lib Jvm.Stand Jvm.Free Jvm.LawKit
section Own
variable {p : Program} {l : Launch} {e : Env} {R : Room} {s : State} {m : MethodId} {args : Array Value} {below : List Frame} {meth : Method} {c : Code} {T : State} {locs : List Loc} {cells slots : Nat} {Q : Option Value → Heap → List Loc → Prop} {kc ks : Nat}
/-- the run from S comes to its end and leaves what Q says -/
def own_Fin (p : Program) (e : Env) (below : List Frame) (s : State) (kc ks : Nat) (Q : Option Value → Heap → List Loc → Prop) (S : State) : Prop :=
  ∃ U o, Steps p.tables e below S U ∧ U.status = .running ∧ Ended U below o ∧ ∃ v L, o = .returned v ∧ Q v U.heap L ∧ FrameEnd s o U L kc ks
theorem own_step {S S' : State} (h : ∀ t, Steps p.tables e below S' t → Steps p.tables e below S t) (k : own_Fin p e below s kc ks Q S') : own_Fin p e below s kc ks Q S := by
  obtain ⟨U, o, h1, r⟩ := k
  exact ⟨U, o, h _ h1, r⟩
theorem own_ret (X : Stand p l e R s m args below meth c T locs cells slots) (hlk : meth.locks = false) {v : Option Value} (hv : meth.sig.returnType = none → v = none) (hc : cells ≤ kc) (hs : slots ≤ ks) (hQ : Q v T.heap locs) {S : State}
    (hst : ∀ fs, (∀ (f : JFrame) (acts : List Action), f.method = m → f.locked = none → f.entered = [] → (doReturn e (T.setTop f) acts v).1 = T.setFrames fs) → Steps p.tables e below S (T.setFrames fs)) : own_Fin p e below s kc ks Q S := by
  obtain ⟨fs, hr, hrun, hended, hW, hsame⟩ := X.leave (v := v) hv hlk
  exact ⟨_, _, hst fs hr, hrun, hended, _, _, rfl, hQ, ⟨_, rfl⟩, hW, hsame.mono hc hs⟩
def own_FinW (p : Program) (e : Env) (below : List Frame) (s : State) (kc ks : Nat) (Q : Option Value → Heap → List Loc → Prop) (S : State) : Prop :=
  ∃ U o, Steps p.tables e below S U ∧ U.status = .running ∧ Ended U below o ∧ ∃ v L, o = .returned v ∧ Q v U.heap L ∧ ReturnedEndW s o U L kc ks
theorem own_stepW {S S' : State} (h : ∀ t, Steps p.tables e below S' t → Steps p.tables e below S t) (k : own_FinW p e below s kc ks Q S') : own_FinW p e below s kc ks Q S := by
  obtain ⟨U, o, h1, r⟩ := k
  exact ⟨U, o, h _ h1, r⟩
theorem own_retW {vm1 : Vm} (X : Stand p l e R (s.setVm vm1) m args below meth c T locs cells slots) (hlk : meth.locks = false) {n : Nat} (hS : s.Since vm1 n) {h : Heap} (eT : T.heap = h) (hn : n ≤ h.size) {v : Option Value} (hv : meth.sig.returnType = none → v = none) (hc : cells ≤ kc) (hs : slots ≤ ks) (hQ : Q v T.heap locs) {S : State}
    (hst : ∀ fs, (∀ (f : JFrame) (acts : List Action), f.method = m → f.locked = none → f.entered = [] → (doReturn e (T.setTop f) acts v).1 = T.setFrames fs) → Steps p.tables e below S (T.setFrames fs)) : own_FinW p e below s kc ks Q S := by
  obtain ⟨fs, hr, hrun, hended, hE⟩ := X.leaveW hS (by rw [eT]; exact hn) (v := v) hv hlk
  exact ⟨_, _, hst fs hr, hrun, hended, _, _, rfl, hQ, hE.1, hE.2.1, hE.2.2.1, hE.2.2.2.mono hc hs⟩
theorem own_castW {g g' : JFrame} (q : g = g') (k : own_FinW p e below s kc ks Q (T.setTop g')) : own_FinW p e below s kc ks Q (T.setTop g) := q ▸ k
theorem own_m0 : Jvm.Free.Fl.Mag64 1 FP.dconst0 := by unfold Jvm.Free.Fl.Mag64; decide
theorem own_mz : Jvm.Free.Fl.Mag64 1 (0 : UInt64) := by unfold Jvm.Free.Fl.Mag64; decide
theorem own_m1 : Jvm.Free.Fl.Mag64 1024 FP.dconst1 := by unfold Jvm.Free.Fl.Mag64; decide
/-- roads that meet again: what lies behind the meeting is walked once -/
theorem own_join {G : Prop} {F : State → Prop} (X : Stand p l e R s m args below meth c T locs cells slots) {h : Heap} (eT : T.heap = h) {β : Type} (g : β → JFrame) (hyp : β → Prop)
    (body : ∀ Tj : State, Stand p l e R s m args below meth c Tj locs cells slots → Tj.heap = h → ∀ b, hyp b → F (Tj.setTop (g b)))
    (cont : (∀ Tj : State, Stand p l e R s m args below meth c Tj locs cells slots → Tj.heap = h → ∀ b, hyp b → F (Tj.setTop (g b))) → G) : G := cont body
theorem own_ltn {n k j : Int32} (h : ¬ n < k) (q : j < k) : j < n := by
  rw [Int32.lt_iff_toInt_lt] at *
  omega
theorem own_cast {g g' : JFrame} (q : g = g') (k : own_Fin p e below s kc ks Q (T.setTop g')) : own_Fin p e below s kc ks Q (T.setTop g) := q ▸ k
theorem own_getJ {cl : Cell} {vs : List Int64} {j : Int32} (H : Has cl (vs.map Value.long) (.long 0)) (q : ¬ (j < 0 ∨ cl.slots.size ≤ j.toNatClampNeg)) : cl.slots[j.toNatClampNeg]? = some (.long (vs.getD j.toNatClampNeg 0)) := by
  refine Has.at H q ?_
  simp only [List.getD_eq_getElem?_getD, List.getElem?_map]
  cases vs[j.toNatClampNeg]? <;> rfl
def own_Nst (h : Heap) (x : Addr) : Prop := ∃ c : Cell, h[x]? = some c ∧ c.vm.isStatics = false
theorem own_nst_exa {Z : State} {h : Heap} {a : Addr} {C : String} (F : Exa Z h a C) : own_Nst h a := by
  obtain ⟨c, _, h1, _, _, h4, _⟩ := F
  exact ⟨c, h1, h4⟩
theorem own_nst_arv {Z : State} {h : Heap} {a : Addr} {k : ClassId} {ty : FieldType} {n : Int32} {vs : List Value} {d : Value} (F : Arv Z h a k ty n vs d) : own_Nst h a := by
  obtain ⟨c, A, _⟩ := F
  exact ⟨c, A.1, A.plain⟩
theorem own_sta_keep {Z : State} {h h' : Heap} {C n d : String} {v : Value} {ws : List Addr} (F : Sta Z h C n d v) (K : Keep h h' ws) (q : ∀ x ∈ ws, own_Nst h x) : Sta Z h' C n d v := by
  obtain ⟨cf, i, k, f, st, cell, h1, h2, h3, h4, h5, h6, h7⟩ := F
  refine ⟨cf, i, k, f, st, cell, h1, h2, h3, h4, K.2.1 _ _ h5 (fun z => ?_), h6, h7⟩
  obtain ⟨c, e1, e2⟩ := q _ z
  cases h5.symm.trans e1
  rw [h6] at e2
  cases e2
theorem own_sta_keep0 {Z : State} {h h' : Heap} {C n d : String} {v : Value} (F : Sta Z h C n d v) (K : Keep h h' []) : Sta Z h' C n d v := own_sta_keep F K (fun _ z => nomatch z)
end Own
section OwnStart
variable {args : Array Value} {Z : State} {t : Term} {a : Addr} {O n d : String}
theorem own_fldV {v : Value} (ev : t.eval args Z none [] Z = some (.ref a)) (h : (Term.field t O n d).eval args Z none [] Z = some v) : Fld Z Z.heap a O n d v := Fld.start ((fld_at ev).symm.trans h)
theorem own_len {cl : Cell} {ty : FieldType} {k : Int32} (ev : t.eval args Z none [] Z = some (.ref a)) (A : Arr Z Z.heap a cl ty) (h : (Cond.eq (.length t) (.int k)).value args Z none Z [] = some true) : cl.slots.size < 2 ^ 31 ∧ cl.slots.size.toInt32 = k := by
  have e := eqv_i (y := k) rfl h
  have ha := A.fin (Vm.Alike.refl _)
  by_cases q : cl.slots.size < 2 ^ 31
  · exact ⟨q, Value.int.inj (Option.some.inj ((len_f ev ha q).symm.trans e))⟩
  · simp [Term.eval, ev, ha, q] at e
theorem own_elI {cl : Cell} {ty : FieldType} {i k : Int32} (ev : t.eval args Z none [] Z = some (.ref a)) (A : Arr Z Z.heap a cl ty) (hi : ¬ i < 0) (h : (Cond.eq (.elem t (.int i)) (.int k)).value args Z none Z [] = some true) : cl.slots[i.toNatClampNeg]? = some (.int k) :=
  (elem_f ev rfl (A.fin (Vm.Alike.refl _)) hi).symm.trans (eqv_i (y := k) rfl h)
theorem own_elJ {cl : Cell} {ty : FieldType} {i : Int32} {k : Int64} (ev : t.eval args Z none [] Z = some (.ref a)) (A : Arr Z Z.heap a cl ty) (hi : ¬ i < 0) (h : (Cond.eq (.elem t (.int i)) (.long k)).value args Z none Z [] = some true) : cl.slots[i.toNatClampNeg]? = some (.long k) :=
  (elem_f ev rfl (A.fin (Vm.Alike.refl _)) hi).symm.trans (eqv_l (y := k) rfl h)
end OwnStart
end Jvm.RoadKit
namespace Jvm.Pilot.@@N@@
open Jvm Jvm.ClassFile Sem Op Lib Jvm.Free Jvm.Stand Jvm.LawKit Jvm.RoadKit Bundle Jvm.Pilot.@@N@@.Jvm.D
theorem own_w {ts : List Jvm.Cond} {Z : State} {a0 : Array Value} (hw : ∀ d ∈ ts, d.before a0 Z = true) (i : Nat) {d : Jvm.Cond} (h : ts[i]? = some d) : d.before a0 Z = true := hw d (List.mem_of_getElem? h)
theorem own_cap (x : Int32) : 3 ≤ ((3 : Int32) + (x &&& (3 : Int32))).toInt ∧ ((3 : Int32) + (x &&& (3 : Int32))).toInt ≤ 6 := by
  have h1 : (x &&& (3 : Int32)).toInt = x.toInt % 4 := c_mask x _ 2 (by decide) (by decide)
  have h2 := c_iadd 3 (x &&& (3 : Int32))
  have h3 : (3 : Int32).toInt = 3 := by decide
  have h4 := rng32 ((3 : Int32) + (x &&& (3 : Int32)))
  omega
theorem own_cap3 (x : Int32) : ¬ (((3 : Int32) + (x &&& (3 : Int32))) < (3 : Int32)) := by
  have := own_cap x
  rw [Int32.lt_iff_toInt_lt, show (3 : Int32).toInt = 3 from by decide]
  omega
theorem own_cap0 (x : Int32) : ¬ (((3 : Int32) + (x &&& (3 : Int32))) < (0 : Int32)) := by
  have := own_cap x
  rw [Int32.lt_iff_toInt_lt, show (0 : Int32).toInt = 0 from by decide]
  omega
theorem own_cap6 (x : Int32) : ((3 : Int32) + (x &&& (3 : Int32))).toNatClampNeg ≤ 6 := by
  have := own_cap x
  show ((3 : Int32) + (x &&& (3 : Int32))).toInt.toNat ≤ 6
  omega
theorem own_d1_0 : decode prog_46_method_1_code 0 = .ok (.aload_n 0, 1) := by decide +kernel
theorem own_d1_1 : decode prog_46_method_1_code 1 = .ok (.invokespecial 1, 3) := by decide +kernel
theorem own_d1_4 : decode prog_46_method_1_code 4 = .ok (.aload_n 0, 1) := by decide +kernel
theorem own_d1_5 : decode prog_46_method_1_code 5 = .ok (.iload_n 1, 1) := by decide +kernel
theorem own_d1_6 : decode prog_46_method_1_code 6 = .ok (.newarray .int, 2) := by decide +kernel
theorem own_d1_8 : decode prog_46_method_1_code 8 = .ok (.putfield 7, 3) := by decide +kernel
theorem own_d1_11 : decode prog_46_method_1_code 11 = .ok (.return_, 1) := by decide +kernel
theorem own_pn0 : plainName "com/example/libmdp/libmdp/StateStack" = true := by first | (simp [plainName, overriddenIn]; done) | decide +kernel
theorem own_ef1 (m : MethodId) (ad0 : Addr) (p1 : Int32) : entryFrame m #[(.ref ad0), (.int p1)] 2 = mkF m 0 #[.val (.ref ad0), .val (.int p1)] [] := by first | (simp [entryFrame, mkF, argsToLocals, Value.category]; done) | rfl
def own_Q1 (Z : State) (ad0 : Addr) (p1 : Int32) (ustates_ad0 : Value) (usize_ad0 : Value) (h0 : Heap) (n0 : Nat) (v : Option Value) (h : Heap) (L : List Loc) : Prop := Fr n0 L ∧ Keep h0 h [ad0] ∧ ∃ o0 : Addr, n0 ≤ o0 ∧ h0.size ≤ o0 ∧ ∃ (ko0 : ClassId), v = none ∧ Exa Z h ad0 "com/example/libmdp/libmdp/StateStack" ∧ Fld Z h ad0 "com/example/libmdp/libmdp/StateStack" "size" "I" usize_ad0 ∧ Fld Z h ad0 "com/example/libmdp/libmdp/StateStack" "states" "[I" (.ref o0) ∧ Arv Z h o0 ko0 .int p1 [(.int (0 : Int32)), (.int (0 : Int32)), (.int (0 : Int32))] (.int (0 : Int32))
set_option maxRecDepth 65536 in
set_option maxHeartbeats 40000000 in
theorem own_rm1 (l : Launch) (Z : State) (a0 : Array Value) (hw : ∀ d ∈ tables_1, d.before a0 Z = true) (ws : List Jvm.Cond) (ad0 : Addr) (p1 : Int32) (ustates_ad0 : Value) (usize_ad0 : Value) (h0 : Heap) (n0 : Nat) (Z0 : n0 ≤ h0.size) (E_ad0 : Exa Z h0 ad0 "com/example/libmdp/libmdp/StateStack") (F_states_ad0 : Fld Z h0 ad0 "com/example/libmdp/libmdp/StateStack" "states" "[I" ustates_ad0) (F_size_ad0 : Fld Z h0 ad0 "com/example/libmdp/libmdp/StateStack" "size" "I" usize_ad0) (hneg : ¬ (p1 < (0 : Int32))) (hcap : p1.toNatClampNeg ≤ 6) (g_ad0 : n0 ≤ ad0) :
    MetFree l (⟨"com/example/libmdp/libmdp/StateStack", "<init>", "(I)V"⟩ : MethodName) (head1 (Jvm.Cond.code (⟨"com/example/libmdp/libmdp/StateStack", "<init>", "(I)V"⟩ : MethodName) prog_46_method_1_code 2 none :: ws) ({ frames := 1, cells := 1, slots := 6, locals := 12 } : Room)) (fun a U => a = #[(.ref ad0), (.int p1)] ∧ Z.Warmed39 U.vm ∧ U.heap = h0) (fun _ _ _ _ _ => True) (fun _ U o U' => ∃ v L, o = .returned v ∧ own_Q1 Z ad0 p1 ustates_ad0 usize_ad0 h0 n0 v U'.heap L ∧ FrameEnd U o U' L ({ frames := 1, cells := 1, slots := 6, locals := 12 } : Room).cells ({ frames := 1, cells := 1, slots := 6, locals := 12 } : Room).slots) := by
  refine MetFree.of_bodySF (plainFor_of_name own_pn0) hisR ?_
  intro p e s m args below meth c s₁ Bd hml0 hP hK
  obtain ⟨rfl, hZ, hh⟩ := hP
  have hx := Bd.exec
  have hby := Bd.bytes
  have hlk := Bd.notSynchronized
  have hml : c.maxLocals = 2 := hml0
  have hown : s.vm.findClass "com/example/libmdp/libmdp/StateStack" = some m.cls := findClass_of_methodNamed Bd.named
  have hnm := (name_of_methodNamed Bd.named Bd.method).1
  have X0 : Stand p l e ({ frames := 1, cells := 1, slots := 6, locals := 12 } : Room) s m #[(.ref ad0), (.int p1)] below meth c s₁ [] 0 0 := Stand.of_body Bd
  have e0 : s₁.heap = h0 := by rw [← hh, Bd.state]; rfl
  have N0 := Fr.nil n0
  have KR : Keep h0 h0 [ad0] := Keep.refl _ _
  show own_Fin p e below s ({ frames := 1, cells := 1, slots := 6, locals := 12 } : Room).cells ({ frames := 1, cells := 1, slots := 6, locals := 12 } : Room).slots (own_Q1 Z ad0 p1 ustates_ad0 usize_ad0 h0 n0) (s₁.setTop (entryFrame m #[(.ref ad0), (.int p1)] 2))
  refine own_cast (own_ef1 m ad0 p1) ?_
  refine own_step (fun _ k => XS.aloadN X0.here hx rfl (hb hby own_d1_0) rfl rfl k) ?_
  show own_Fin p e below s _ _ _ (s₁.setTop (mkF m 1 #[.val (.ref ad0), .val (.int p1)] [(.ref ad0)]))
  obtain ⟨T1, X1, e1, st1⟩ := initO X0 hx hZ hown (own_w hw 6 rfl) (own_w hw 7 rfl) (own_w hw 8 rfl) e0 (g := (mkF m 1 #[.val (.ref ad0), .val (.int p1)] [(.ref ad0)])) rfl (by rw [hml]; rfl) rfl (hb hby own_d1_1) (by decide) (W := 0) (by show 2 * 0 + _ ≤ _; exact Nat.le_of_eq rfl) (by decide)
  refine own_step st1 ?_
  show own_Fin p e below s _ _ _ (T1.setTop (mkF m 4 #[.val (.ref ad0), .val (.int p1)] []))
  refine own_step (fun _ k => XS.aloadN X1.here hx rfl (hb hby own_d1_4) rfl rfl k) ?_
  show own_Fin p e below s _ _ _ (T1.setTop (mkF m 5 #[.val (.ref ad0), .val (.int p1)] [(.ref ad0)]))
  refine own_step (fun _ k => XS.iloadN X1.here hx rfl (hb hby own_d1_5) rfl k) ?_
  show own_Fin p e below s _ _ _ (T1.setTop (mkF m 6 #[.val (.ref ad0), .val (.int p1)] [(.int p1), (.ref ad0)]))
  obtain ⟨T2, h2, k2, X2, e2, E2, A2, st2⟩ := newP X1 hx hZ (own_w hw 9 rfl) e1 (g := (mkF m 6 #[.val (.ref ad0), .val (.int p1)] [(.int p1), (.ref ad0)])) rfl (hb hby own_d1_6) rfl hneg (cap := 6) hcap (by decide) (by decide) (by decide)
  obtain ⟨b2, g2⟩ : ∃ z, z = h0.size := ⟨_, rfl⟩
  rw [← g2] at A2 st2
  have ne2_ad0 : ad0 ≠ b2 := Nat.ne_of_lt (Nat.lt_of_lt_of_le E_ad0.lt (Nat.le_of_eq g2.symm))
  have gg2 : n0 ≤ b2 := Nat.le_trans Z0 (Nat.le_of_eq g2.symm)
  have sz2 : h0.size ≤ b2 := Nat.le_trans KR.1 (Nat.le_of_eq g2.symm)
  have K2 : Keep h0 h2 [ad0] := KR.ext E2
  have Z2 : n0 ≤ h2.size := Nat.le_trans Z0 E2.1
  have G3 := (E_ad0.ext E2)
  have G4 := (F_states_ad0.ext E2)
  have G5 := (F_size_ad0.ext E2)
  have G6 : Arv Z h2 b2 k2 .int p1 [(.int (0 : Int32)), (.int (0 : Int32)), (.int (0 : Int32))] (.int (0 : Int32)) := (Arv.new A2 hneg).pad (pad_rep [] (.int (0 : Int32)) 3)
  refine own_step st2 ?_
  show own_Fin p e below s _ _ _ (T2.setTop (mkF m 8 #[.val (.ref ad0), .val (.int p1)] [(.ref b2), (.ref ad0)]))
  obtain ⟨T7, h7, X7, e7, W7, st7⟩ := putF X2 hx hZ hown (host := "") (Or.inl (own_w hw 10 rfl)) Via.refl e2 G4 G3 (Or.inr ⟨(own_w hw 11 rfl), rfl, hnm⟩) (own_w hw 1 rfl) (ty := (.array .int)) (by decide) rfl rfl (g := (mkF m 8 #[.val (.ref ad0), .val (.int p1)] [(.ref b2), (.ref ad0)])) rfl rfl (hb hby own_d1_8)
  have N7 := Fr.snoc X7 N0 g_ad0
  have K7 : Keep h0 h7 [ad0] := K2.wr W7 (Or.inl (List.mem_of_getElem? (i := 0) rfl))
  have Z7 : n0 ≤ h7.size := Nat.le_trans Z2 (Keep.of_wr W7).1
  have G8 := (G3.wr W7)
  have G9 := (G5.other W7 (Or.inr (slot_ne (Or.inl (own_w hw 18 rfl)) (Or.inr (own_w hw 11 rfl)) (by decide) (t := .int) (t' := (.array .int)) (by decide) (by decide))))
  have G10 := (G6.other W7 (Ne.symm ne2_ad0))
  have G11 := G4.same W7
  refine own_step st7 ?_
  show own_Fin p e below s _ _ _ (T7.setTop (mkF m 11 #[.val (.ref ad0), .val (.int p1)] []))
  exact own_ret X7 hlk (v := none) (fun _ => rfl) (by decide) (by decide) (by show own_Q1 Z ad0 p1 ustates_ad0 usize_ad0 h0 n0 _ T7.heap _; rw [e7]; exact ⟨N7, K7, b2, gg2, sz2, k2, rfl, G8, G9, G11, G10⟩) (fun fs hr => X7.returnOut hx Bd.returns (hb hby own_d1_11) hr)

theorem own_d2_0 : decode prog_46_method_5_code 0 = .ok (.aload_n 0, 1) := by decide +kernel
theorem own_d2_1 : decode prog_46_method_5_code 1 = .ok (.getfield 25, 3) := by decide +kernel
theorem own_d2_4 : decode prog_46_method_5_code 4 = .ok (.ifCond .ne 7, 3) := by decide +kernel
theorem own_d2_7 : decode prog_46_method_5_code 7 = .ok (.iconst 1, 1) := by decide +kernel
theorem own_d2_8 : decode prog_46_method_5_code 8 = .ok (.goto 4, 3) := by decide +kernel
theorem own_d2_12 : decode prog_46_method_5_code 12 = .ok (.ireturn, 1) := by decide +kernel
theorem own_ef2 (m : MethodId) (ad0 : Addr) : entryFrame m #[(.ref ad0)] 1 = mkF m 0 #[.val (.ref ad0)] [] := by first | (simp [entryFrame, mkF, argsToLocals, Value.category]; done) | rfl
def own_Q2 (Z : State) (ad0 : Addr) (h0 : Heap) (n0 : Nat) (v : Option Value) (h : Heap) (L : List Loc) : Prop := v = some (.int (1 : Int32)) ∧ Fr n0 L ∧ h = h0
set_option maxRecDepth 65536 in
set_option maxHeartbeats 40000000 in
theorem own_rm2 (l : Launch) (Z : State) (a0 : Array Value) (hw : ∀ d ∈ tables_1, d.before a0 Z = true) (ws : List Jvm.Cond) (ad0 : Addr) (h0 : Heap) (n0 : Nat) (Z0 : n0 ≤ h0.size) (F_size_ad0 : Fld Z h0 ad0 "com/example/libmdp/libmdp/StateStack" "size" "I" (.int (0 : Int32))) :
    MetFree l (⟨"com/example/libmdp/libmdp/StateStack", "isEmpty", "()Z"⟩ : MethodName) (head1 (Jvm.Cond.code (⟨"com/example/libmdp/libmdp/StateStack", "isEmpty", "()Z"⟩ : MethodName) prog_46_method_5_code 1 (some .boolean) :: ws) ({ frames := 0, cells := 0, slots := 0, locals := 0 } : Room)) (fun a U => a = #[(.ref ad0)] ∧ Z.Warmed39 U.vm ∧ U.heap = h0) (fun _ _ _ _ _ => True) (fun _ U o U' => ∃ v L, o = .returned v ∧ own_Q2 Z ad0 h0 n0 v U'.heap L ∧ FrameEnd U o U' L ({ frames := 0, cells := 0, slots := 0, locals := 0 } : Room).cells ({ frames := 0, cells := 0, slots := 0, locals := 0 } : Room).slots) := by
  refine MetFree.of_bodySF (plainFor_of_name own_pn0) hisR ?_
  intro p e s m args below meth c s₁ Bd hml0 hP hK
  obtain ⟨rfl, hZ, hh⟩ := hP
  have hx := Bd.exec
  have hby := Bd.bytes
  have hlk := Bd.notSynchronized
  have hml : c.maxLocals = 1 := hml0
  have hown : s.vm.findClass "com/example/libmdp/libmdp/StateStack" = some m.cls := findClass_of_methodNamed Bd.named
  have hnm := (name_of_methodNamed Bd.named Bd.method).1
  have X0 : Stand p l e ({ frames := 0, cells := 0, slots := 0, locals := 0 } : Room) s m #[(.ref ad0)] below meth c s₁ [] 0 0 := Stand.of_body Bd
  have e0 : s₁.heap = h0 := by rw [← hh, Bd.state]; rfl
  have N0 := Fr.nil n0
  have KR : Keep h0 h0 [] := Keep.refl _ _
  show own_Fin p e below s ({ frames := 0, cells := 0, slots := 0, locals := 0 } : Room).cells ({ frames := 0, cells := 0, slots := 0, locals := 0 } : Room).slots (own_Q2 Z ad0 h0 n0) (s₁.setTop (entryFrame m #[(.ref ad0)] 1))
  refine own_cast (own_ef2 m ad0) ?_
  refine own_step (fun _ k => XS.aloadN X0.here hx rfl (hb hby own_d2_0) rfl rfl k) ?_
  show own_Fin p e below s _ _ _ (s₁.setTop (mkF m 1 #[.val (.ref ad0)] [(.ref ad0)]))
  obtain ⟨T1, X1, e1, st1⟩ := getF X0 hx hZ hown (host := "") (Or.inl (own_w hw 17 rfl)) Via.refl e0 F_size_ad0 (g := (mkF m 1 #[.val (.ref ad0)] [(.ref ad0)])) rfl rfl (hb hby own_d2_1)
  refine own_step st1 ?_
  show own_Fin p e below s _ _ _ (T1.setTop (mkF m 4 #[.val (.ref ad0)] [(.int (0 : Int32))]))
  refine own_step (fun _ k => XS.ifNo X1.here hx rfl (hb hby own_d2_4) rfl ((if0 _ _).trans (teq (by decide : (0 : Int32) = (0 : Int32))).2) k) ?_
  show own_Fin p e below s _ _ _ (T1.setTop (mkF m 7 #[.val (.ref ad0)] []))
  refine own_step (fun _ k => XS.iconst X1.here hx rfl (hb hby own_d2_7) k) ?_
  show own_Fin p e below s _ _ _ (T1.setTop (mkF m 8 #[.val (.ref ad0)] [(.int (1 : Int32))]))
  refine own_step (fun _ k => XS.goto X1.here hx rfl (pc0 := 8) (pc' := 12) rfl (hb hby own_d2_8) (by decide) (by decide) k) ?_
  show own_Fin p e below s _ _ _ (T1.setTop (mkF m 12 #[.val (.ref ad0)] [(.int (1 : Int32))]))
  exact own_ret X1 hlk (v := some (.int (1 : Int32))) (fun h => by rw [Bd.returns] at h; cases h) (by decide) (by decide) (by show own_Q2 Z ad0 h0 n0 _ T1.heap _; rw [e1]; exact ⟨rfl, N0, rfl⟩) (fun fs hr => retN X1 hx (t := .boolean) Bd.returns (by simp) (hb hby own_d2_12) hr)

theorem own_d3_0 : decode prog_46_method_5_code 0 = .ok (.aload_n 0, 1) := by decide +kernel
theorem own_d3_1 : decode prog_46_method_5_code 1 = .ok (.getfield 25, 3) := by decide +kernel
theorem own_d3_4 : decode prog_46_method_5_code 4 = .ok (.ifCond .ne 7, 3) := by decide +kernel
theorem own_d3_11 : decode prog_46_method_5_code 11 = .ok (.iconst 0, 1) := by decide +kernel
theorem own_d3_12 : decode prog_46_method_5_code 12 = .ok (.ireturn, 1) := by decide +kernel
theorem own_ef3 (m : MethodId) (ad0 : Addr) : entryFrame m #[(.ref ad0)] 1 = mkF m 0 #[.val (.ref ad0)] [] := by first | (simp [entryFrame, mkF, argsToLocals, Value.category]; done) | rfl
def own_Q3 (Z : State) (ad0 : Addr) (h0 : Heap) (n0 : Nat) (v : Option Value) (h : Heap) (L : List Loc) : Prop := v = some (.int (0 : Int32)) ∧ Fr n0 L ∧ h = h0
set_option maxRecDepth 65536 in
set_option maxHeartbeats 40000000 in
theorem own_rm3 (l : Launch) (Z : State) (a0 : Array Value) (hw : ∀ d ∈ tables_1, d.before a0 Z = true) (ws : List Jvm.Cond) (ad0 : Addr) (h0 : Heap) (n0 : Nat) (Z0 : n0 ≤ h0.size) (F_size_ad0 : Fld Z h0 ad0 "com/example/libmdp/libmdp/StateStack" "size" "I" (.int (1 : Int32))) :
    MetFree l (⟨"com/example/libmdp/libmdp/StateStack", "isEmpty", "()Z"⟩ : MethodName) (head1 (Jvm.Cond.code (⟨"com/example/libmdp/libmdp/StateStack", "isEmpty", "()Z"⟩ : MethodName) prog_46_method_5_code 1 (some .boolean) :: ws) ({ frames := 0, cells := 0, slots := 0, locals := 0 } : Room)) (fun a U => a = #[(.ref ad0)] ∧ Z.Warmed39 U.vm ∧ U.heap = h0) (fun _ _ _ _ _ => True) (fun _ U o U' => ∃ v L, o = .returned v ∧ own_Q3 Z ad0 h0 n0 v U'.heap L ∧ FrameEnd U o U' L ({ frames := 0, cells := 0, slots := 0, locals := 0 } : Room).cells ({ frames := 0, cells := 0, slots := 0, locals := 0 } : Room).slots) := by
  refine MetFree.of_bodySF (plainFor_of_name own_pn0) hisR ?_
  intro p e s m args below meth c s₁ Bd hml0 hP hK
  obtain ⟨rfl, hZ, hh⟩ := hP
  have hx := Bd.exec
  have hby := Bd.bytes
  have hlk := Bd.notSynchronized
  have hml : c.maxLocals = 1 := hml0
  have hown : s.vm.findClass "com/example/libmdp/libmdp/StateStack" = some m.cls := findClass_of_methodNamed Bd.named
  have hnm := (name_of_methodNamed Bd.named Bd.method).1
  have X0 : Stand p l e ({ frames := 0, cells := 0, slots := 0, locals := 0 } : Room) s m #[(.ref ad0)] below meth c s₁ [] 0 0 := Stand.of_body Bd
  have e0 : s₁.heap = h0 := by rw [← hh, Bd.state]; rfl
  have N0 := Fr.nil n0
  have KR : Keep h0 h0 [] := Keep.refl _ _
  show own_Fin p e below s ({ frames := 0, cells := 0, slots := 0, locals := 0 } : Room).cells ({ frames := 0, cells := 0, slots := 0, locals := 0 } : Room).slots (own_Q3 Z ad0 h0 n0) (s₁.setTop (entryFrame m #[(.ref ad0)] 1))
  refine own_cast (own_ef3 m ad0) ?_
  refine own_step (fun _ k => XS.aloadN X0.here hx rfl (hb hby own_d3_0) rfl rfl k) ?_
  show own_Fin p e below s _ _ _ (s₁.setTop (mkF m 1 #[.val (.ref ad0)] [(.ref ad0)]))
  obtain ⟨T1, X1, e1, st1⟩ := getF X0 hx hZ hown (host := "") (Or.inl (own_w hw 17 rfl)) Via.refl e0 F_size_ad0 (g := (mkF m 1 #[.val (.ref ad0)] [(.ref ad0)])) rfl rfl (hb hby own_d3_1)
  refine own_step st1 ?_
  show own_Fin p e below s _ _ _ (T1.setTop (mkF m 4 #[.val (.ref ad0)] [(.int (1 : Int32))]))
  refine own_step (fun _ k => XS.ifYes X1.here hx rfl (pc0 := 4) (pc' := 11) rfl (hb hby own_d3_4) rfl ((if0 _ _).trans (feq (by decide : ¬ ((1 : Int32) = (0 : Int32)))).2) (by decide) (by decide) k) ?_
  show own_Fin p e below s _ _ _ (T1.setTop (mkF m 11 #[.val (.ref ad0)] []))
  refine own_step (fun _ k => XS.iconst X1.here hx rfl (hb hby own_d3_11) k) ?_
  show own_Fin p e below s _ _ _ (T1.setTop (mkF m 12 #[.val (.ref ad0)] [(.int (0 : Int32))]))
  exact own_ret X1 hlk (v := some (.int (0 : Int32))) (fun h => by rw [Bd.returns] at h; cases h) (by decide) (by decide) (by show own_Q3 Z ad0 h0 n0 _ T1.heap _; rw [e1]; exact ⟨rfl, N0, rfl⟩) (fun fs hr => retN X1 hx (t := .boolean) Bd.returns (by simp) (hb hby own_d3_12) hr)

theorem own_d4_0 : decode prog_46_method_5_code 0 = .ok (.aload_n 0, 1) := by decide +kernel
theorem own_d4_1 : decode prog_46_method_5_code 1 = .ok (.getfield 25, 3) := by decide +kernel
theorem own_d4_4 : decode prog_46_method_5_code 4 = .ok (.ifCond .ne 7, 3) := by decide +kernel
theorem own_d4_11 : decode prog_46_method_5_code 11 = .ok (.iconst 0, 1) := by decide +kernel
theorem own_d4_12 : decode prog_46_method_5_code 12 = .ok (.ireturn, 1) := by decide +kernel
theorem own_ef4 (m : MethodId) (ad0 : Addr) : entryFrame m #[(.ref ad0)] 1 = mkF m 0 #[.val (.ref ad0)] [] := by first | (simp [entryFrame, mkF, argsToLocals, Value.category]; done) | rfl
def own_Q4 (Z : State) (ad0 : Addr) (h0 : Heap) (n0 : Nat) (v : Option Value) (h : Heap) (L : List Loc) : Prop := v = some (.int (0 : Int32)) ∧ Fr n0 L ∧ h = h0
set_option maxRecDepth 65536 in
set_option maxHeartbeats 40000000 in
theorem own_rm4 (l : Launch) (Z : State) (a0 : Array Value) (hw : ∀ d ∈ tables_1, d.before a0 Z = true) (ws : List Jvm.Cond) (ad0 : Addr) (h0 : Heap) (n0 : Nat) (Z0 : n0 ≤ h0.size) (F_size_ad0 : Fld Z h0 ad0 "com/example/libmdp/libmdp/StateStack" "size" "I" (.int (2 : Int32))) :
    MetFree l (⟨"com/example/libmdp/libmdp/StateStack", "isEmpty", "()Z"⟩ : MethodName) (head1 (Jvm.Cond.code (⟨"com/example/libmdp/libmdp/StateStack", "isEmpty", "()Z"⟩ : MethodName) prog_46_method_5_code 1 (some .boolean) :: ws) ({ frames := 0, cells := 0, slots := 0, locals := 0 } : Room)) (fun a U => a = #[(.ref ad0)] ∧ Z.Warmed39 U.vm ∧ U.heap = h0) (fun _ _ _ _ _ => True) (fun _ U o U' => ∃ v L, o = .returned v ∧ own_Q4 Z ad0 h0 n0 v U'.heap L ∧ FrameEnd U o U' L ({ frames := 0, cells := 0, slots := 0, locals := 0 } : Room).cells ({ frames := 0, cells := 0, slots := 0, locals := 0 } : Room).slots) := by
  refine MetFree.of_bodySF (plainFor_of_name own_pn0) hisR ?_
  intro p e s m args below meth c s₁ Bd hml0 hP hK
  obtain ⟨rfl, hZ, hh⟩ := hP
  have hx := Bd.exec
  have hby := Bd.bytes
  have hlk := Bd.notSynchronized
  have hml : c.maxLocals = 1 := hml0
  have hown : s.vm.findClass "com/example/libmdp/libmdp/StateStack" = some m.cls := findClass_of_methodNamed Bd.named
  have hnm := (name_of_methodNamed Bd.named Bd.method).1
  have X0 : Stand p l e ({ frames := 0, cells := 0, slots := 0, locals := 0 } : Room) s m #[(.ref ad0)] below meth c s₁ [] 0 0 := Stand.of_body Bd
  have e0 : s₁.heap = h0 := by rw [← hh, Bd.state]; rfl
  have N0 := Fr.nil n0
  have KR : Keep h0 h0 [] := Keep.refl _ _
  show own_Fin p e below s ({ frames := 0, cells := 0, slots := 0, locals := 0 } : Room).cells ({ frames := 0, cells := 0, slots := 0, locals := 0 } : Room).slots (own_Q4 Z ad0 h0 n0) (s₁.setTop (entryFrame m #[(.ref ad0)] 1))
  refine own_cast (own_ef4 m ad0) ?_
  refine own_step (fun _ k => XS.aloadN X0.here hx rfl (hb hby own_d4_0) rfl rfl k) ?_
  show own_Fin p e below s _ _ _ (s₁.setTop (mkF m 1 #[.val (.ref ad0)] [(.ref ad0)]))
  obtain ⟨T1, X1, e1, st1⟩ := getF X0 hx hZ hown (host := "") (Or.inl (own_w hw 17 rfl)) Via.refl e0 F_size_ad0 (g := (mkF m 1 #[.val (.ref ad0)] [(.ref ad0)])) rfl rfl (hb hby own_d4_1)
  refine own_step st1 ?_
  show own_Fin p e below s _ _ _ (T1.setTop (mkF m 4 #[.val (.ref ad0)] [(.int (2 : Int32))]))
  refine own_step (fun _ k => XS.ifYes X1.here hx rfl (pc0 := 4) (pc' := 11) rfl (hb hby own_d4_4) rfl ((if0 _ _).trans (feq (by decide : ¬ ((2 : Int32) = (0 : Int32)))).2) (by decide) (by decide) k) ?_
  show own_Fin p e below s _ _ _ (T1.setTop (mkF m 11 #[.val (.ref ad0)] []))
  refine own_step (fun _ k => XS.iconst X1.here hx rfl (hb hby own_d4_11) k) ?_
  show own_Fin p e below s _ _ _ (T1.setTop (mkF m 12 #[.val (.ref ad0)] [(.int (0 : Int32))]))
  exact own_ret X1 hlk (v := some (.int (0 : Int32))) (fun h => by rw [Bd.returns] at h; cases h) (by decide) (by decide) (by show own_Q4 Z ad0 h0 n0 _ T1.heap _; rw [e1]; exact ⟨rfl, N0, rfl⟩) (fun fs hr => retN X1 hx (t := .boolean) Bd.returns (by simp) (hb hby own_d4_12) hr)

theorem own_d5_0 : decode prog_46_method_5_code 0 = .ok (.aload_n 0, 1) := by decide +kernel
theorem own_d5_1 : decode prog_46_method_5_code 1 = .ok (.getfield 25, 3) := by decide +kernel
theorem own_d5_4 : decode prog_46_method_5_code 4 = .ok (.ifCond .ne 7, 3) := by decide +kernel
theorem own_d5_11 : decode prog_46_method_5_code 11 = .ok (.iconst 0, 1) := by decide +kernel
theorem own_d5_12 : decode prog_46_method_5_code 12 = .ok (.ireturn, 1) := by decide +kernel
theorem own_ef5 (m : MethodId) (ad0 : Addr) : entryFrame m #[(.ref ad0)] 1 = mkF m 0 #[.val (.ref ad0)] [] := by first | (simp [entryFrame, mkF, argsToLocals, Value.category]; done) | rfl
def own_Q5 (Z : State) (ad0 : Addr) (h0 : Heap) (n0 : Nat) (v : Option Value) (h : Heap) (L : List Loc) : Prop := v = some (.int (0 : Int32)) ∧ Fr n0 L ∧ h = h0
set_option maxRecDepth 65536 in
set_option maxHeartbeats 40000000 in
theorem own_rm5 (l : Launch) (Z : State) (a0 : Array Value) (hw : ∀ d ∈ tables_1, d.before a0 Z = true) (ws : List Jvm.Cond) (ad0 : Addr) (h0 : Heap) (n0 : Nat) (Z0 : n0 ≤ h0.size) (F_size_ad0 : Fld Z h0 ad0 "com/example/libmdp/libmdp/StateStack" "size" "I" (.int (3 : Int32))) :
    MetFree l (⟨"com/example/libmdp/libmdp/StateStack", "isEmpty", "()Z"⟩ : MethodName) (head1 (Jvm.Cond.code (⟨"com/example/libmdp/libmdp/StateStack", "isEmpty", "()Z"⟩ : MethodName) prog_46_method_5_code 1 (some .boolean) :: ws) ({ frames := 0, cells := 0, slots := 0, locals := 0 } : Room)) (fun a U => a = #[(.ref ad0)] ∧ Z.Warmed39 U.vm ∧ U.heap = h0) (fun _ _ _ _ _ => True) (fun _ U o U' => ∃ v L, o = .returned v ∧ own_Q5 Z ad0 h0 n0 v U'.heap L ∧ FrameEnd U o U' L ({ frames := 0, cells := 0, slots := 0, locals := 0 } : Room).cells ({ frames := 0, cells := 0, slots := 0, locals := 0 } : Room).slots) := by
  refine MetFree.of_bodySF (plainFor_of_name own_pn0) hisR ?_
  intro p e s m args below meth c s₁ Bd hml0 hP hK
  obtain ⟨rfl, hZ, hh⟩ := hP
  have hx := Bd.exec
  have hby := Bd.bytes
  have hlk := Bd.notSynchronized
  have hml : c.maxLocals = 1 := hml0
  have hown : s.vm.findClass "com/example/libmdp/libmdp/StateStack" = some m.cls := findClass_of_methodNamed Bd.named
  have hnm := (name_of_methodNamed Bd.named Bd.method).1
  have X0 : Stand p l e ({ frames := 0, cells := 0, slots := 0, locals := 0 } : Room) s m #[(.ref ad0)] below meth c s₁ [] 0 0 := Stand.of_body Bd
  have e0 : s₁.heap = h0 := by rw [← hh, Bd.state]; rfl
  have N0 := Fr.nil n0
  have KR : Keep h0 h0 [] := Keep.refl _ _
  show own_Fin p e below s ({ frames := 0, cells := 0, slots := 0, locals := 0 } : Room).cells ({ frames := 0, cells := 0, slots := 0, locals := 0 } : Room).slots (own_Q5 Z ad0 h0 n0) (s₁.setTop (entryFrame m #[(.ref ad0)] 1))
  refine own_cast (own_ef5 m ad0) ?_
  refine own_step (fun _ k => XS.aloadN X0.here hx rfl (hb hby own_d5_0) rfl rfl k) ?_
  show own_Fin p e below s _ _ _ (s₁.setTop (mkF m 1 #[.val (.ref ad0)] [(.ref ad0)]))
  obtain ⟨T1, X1, e1, st1⟩ := getF X0 hx hZ hown (host := "") (Or.inl (own_w hw 17 rfl)) Via.refl e0 F_size_ad0 (g := (mkF m 1 #[.val (.ref ad0)] [(.ref ad0)])) rfl rfl (hb hby own_d5_1)
  refine own_step st1 ?_
  show own_Fin p e below s _ _ _ (T1.setTop (mkF m 4 #[.val (.ref ad0)] [(.int (3 : Int32))]))
  refine own_step (fun _ k => XS.ifYes X1.here hx rfl (pc0 := 4) (pc' := 11) rfl (hb hby own_d5_4) rfl ((if0 _ _).trans (feq (by decide : ¬ ((3 : Int32) = (0 : Int32)))).2) (by decide) (by decide) k) ?_
  show own_Fin p e below s _ _ _ (T1.setTop (mkF m 11 #[.val (.ref ad0)] []))
  refine own_step (fun _ k => XS.iconst X1.here hx rfl (hb hby own_d5_11) k) ?_
  show own_Fin p e below s _ _ _ (T1.setTop (mkF m 12 #[.val (.ref ad0)] [(.int (0 : Int32))]))
  exact own_ret X1 hlk (v := some (.int (0 : Int32))) (fun h => by rw [Bd.returns] at h; cases h) (by decide) (by decide) (by show own_Q5 Z ad0 h0 n0 _ T1.heap _; rw [e1]; exact ⟨rfl, N0, rfl⟩) (fun fs hr => retN X1 hx (t := .boolean) Bd.returns (by simp) (hb hby own_d5_12) hr)

theorem own_d6_0 : decode prog_46_method_3_code 0 = .ok (.aload_n 0, 1) := by decide +kernel
theorem own_d6_1 : decode prog_46_method_3_code 1 = .ok (.getfield 7, 3) := by decide +kernel
theorem own_d6_4 : decode prog_46_method_3_code 4 = .ok (.aload_n 0, 1) := by decide +kernel
theorem own_d6_5 : decode prog_46_method_3_code 5 = .ok (.getfield 25, 3) := by decide +kernel
theorem own_d6_8 : decode prog_46_method_3_code 8 = .ok (.iload_n 1, 1) := by decide +kernel
theorem own_d6_9 : decode prog_46_method_3_code 9 = .ok (.iastore, 1) := by decide +kernel
theorem own_d6_10 : decode prog_46_method_3_code 10 = .ok (.aload_n 0, 1) := by decide +kernel
theorem own_d6_11 : decode prog_46_method_3_code 11 = .ok (.dup, 1) := by decide +kernel
theorem own_d6_12 : decode prog_46_method_3_code 12 = .ok (.getfield 25, 3) := by decide +kernel
theorem own_d6_15 : decode prog_46_method_3_code 15 = .ok (.iconst 1, 1) := by decide +kernel
theorem own_d6_16 : decode prog_46_method_3_code 16 = .ok (.iadd, 1) := by decide +kernel
theorem own_d6_17 : decode prog_46_method_3_code 17 = .ok (.putfield 25, 3) := by decide +kernel
theorem own_d6_20 : decode prog_46_method_3_code 20 = .ok (.return_, 1) := by decide +kernel
theorem own_ef6 (m : MethodId) (ad0 : Addr) (p1 : Int32) : entryFrame m #[(.ref ad0), (.int p1)] 2 = mkF m 0 #[.val (.ref ad0), .val (.int p1)] [] := by first | (simp [entryFrame, mkF, argsToLocals, Value.category]; done) | rfl
def own_Q6 (Z : State) (ad0 : Addr) (p1 : Int32) (wstates_ad0 : Addr) (k_wstates_ad0 : ClassId) (wstates_ad0_0 : Int32) (wstates_ad0_1 : Int32) (wstates_ad0_2 : Int32) (n_wstates_ad0 : Int32) (h0 : Heap) (n0 : Nat) (v : Option Value) (h : Heap) (L : List Loc) : Prop := Fr n0 L ∧ Keep h0 h [wstates_ad0, ad0] ∧ v = none ∧ Arv Z h wstates_ad0 k_wstates_ad0 .int n_wstates_ad0 [(.int p1), (.int wstates_ad0_1), (.int wstates_ad0_2)] (.int (0 : Int32)) ∧ Exa Z h ad0 "com/example/libmdp/libmdp/StateStack" ∧ Fld Z h ad0 "com/example/libmdp/libmdp/StateStack" "states" "[I" (.ref wstates_ad0) ∧ Fld Z h ad0 "com/example/libmdp/libmdp/StateStack" "size" "I" (.int (1 : Int32))
set_option maxRecDepth 65536 in
set_option maxHeartbeats 40000000 in
theorem own_rm6 (l : Launch) (Z : State) (a0 : Array Value) (hw : ∀ d ∈ tables_1, d.before a0 Z = true) (ws : List Jvm.Cond) (ad0 : Addr) (p1 : Int32) (wstates_ad0 : Addr) (k_wstates_ad0 : ClassId) (wstates_ad0_0 : Int32) (wstates_ad0_1 : Int32) (wstates_ad0_2 : Int32) (n_wstates_ad0 : Int32) (h0 : Heap) (n0 : Nat) (Z0 : n0 ≤ h0.size) (E_ad0 : Exa Z h0 ad0 "com/example/libmdp/libmdp/StateStack") (F_states_ad0 : Fld Z h0 ad0 "com/example/libmdp/libmdp/StateStack" "states" "[I" (.ref wstates_ad0)) (F_size_ad0 : Fld Z h0 ad0 "com/example/libmdp/libmdp/StateStack" "size" "I" (.int (0 : Int32))) (A_wstates_ad0 : Arv Z h0 wstates_ad0 k_wstates_ad0 .int n_wstates_ad0 [(.int wstates_ad0_0), (.int wstates_ad0_1), (.int wstates_ad0_2)] (.int (0 : Int32))) (hn_wstates_ad0 : ¬ (n_wstates_ad0 < (3 : Int32))) (g_wstates_ad0 : n0 ≤ wstates_ad0) (ne_ad0_wstates_ad0 : ad0 ≠ wstates_ad0) (g_ad0 : n0 ≤ ad0) (ne_wstates_ad0_ad0 : wstates_ad0 ≠ ad0) :
    MetFree l (⟨"com/example/libmdp/libmdp/StateStack", "push", "(I)V"⟩ : MethodName) (head1 (Jvm.Cond.code (⟨"com/example/libmdp/libmdp/StateStack", "push", "(I)V"⟩ : MethodName) prog_46_method_3_code 2 none :: ws) ({ frames := 0, cells := 0, slots := 0, locals := 0 } : Room)) (fun a U => a = #[(.ref ad0), (.int p1)] ∧ Z.Warmed39 U.vm ∧ U.heap = h0) (fun _ _ _ _ _ => True) (fun _ U o U' => ∃ v L, o = .returned v ∧ own_Q6 Z ad0 p1 wstates_ad0 k_wstates_ad0 wstates_ad0_0 wstates_ad0_1 wstates_ad0_2 n_wstates_ad0 h0 n0 v U'.heap L ∧ FrameEnd U o U' L ({ frames := 0, cells := 0, slots := 0, locals := 0 } : Room).cells ({ frames := 0, cells := 0, slots := 0, locals := 0 } : Room).slots) := by
  refine MetFree.of_bodySF (plainFor_of_name own_pn0) hisR ?_
  intro p e s m args below meth c s₁ Bd hml0 hP hK
  obtain ⟨rfl, hZ, hh⟩ := hP
  have hx := Bd.exec
  have hby := Bd.bytes
  have hlk := Bd.notSynchronized
  have hml : c.maxLocals = 2 := hml0
  have hown : s.vm.findClass "com/example/libmdp/libmdp/StateStack" = some m.cls := findClass_of_methodNamed Bd.named
  have hnm := (name_of_methodNamed Bd.named Bd.method).1
  have X0 : Stand p l e ({ frames := 0, cells := 0, slots := 0, locals := 0 } : Room) s m #[(.ref ad0), (.int p1)] below meth c s₁ [] 0 0 := Stand.of_body Bd
  have e0 : s₁.heap = h0 := by rw [← hh, Bd.state]; rfl
  have N0 := Fr.nil n0
  have KR : Keep h0 h0 [wstates_ad0, ad0] := Keep.refl _ _
  show own_Fin p e below s ({ frames := 0, cells := 0, slots := 0, locals := 0 } : Room).cells ({ frames := 0, cells := 0, slots := 0, locals := 0 } : Room).slots (own_Q6 Z ad0 p1 wstates_ad0 k_wstates_ad0 wstates_ad0_0 wstates_ad0_1 wstates_ad0_2 n_wstates_ad0 h0 n0) (s₁.setTop (entryFrame m #[(.ref ad0), (.int p1)] 2))
  refine own_cast (own_ef6 m ad0 p1) ?_
  refine own_step (fun _ k => XS.aloadN X0.here hx rfl (hb hby own_d6_0) rfl rfl k) ?_
  show own_Fin p e below s _ _ _ (s₁.setTop (mkF m 1 #[.val (.ref ad0), .val (.int p1)] [(.ref ad0)]))
  obtain ⟨T1, X1, e1, st1⟩ := getF X0 hx hZ hown (host := "") (Or.inl (own_w hw 10 rfl)) Via.refl e0 F_states_ad0 (g := (mkF m 1 #[.val (.ref ad0), .val (.int p1)] [(.ref ad0)])) rfl rfl (hb hby own_d6_1)
  refine own_step st1 ?_
  show own_Fin p e below s _ _ _ (T1.setTop (mkF m 4 #[.val (.ref ad0), .val (.int p1)] [(.ref wstates_ad0)]))
  refine own_step (fun _ k => XS.aloadN X1.here hx rfl (hb hby own_d6_4) rfl rfl k) ?_
  show own_Fin p e below s _ _ _ (T1.setTop (mkF m 5 #[.val (.ref ad0), .val (.int p1)] [(.ref ad0), (.ref wstates_ad0)]))
  obtain ⟨T2, X2, e2, st2⟩ := getF X1 hx hZ hown (host := "") (Or.inl (own_w hw 17 rfl)) Via.refl e1 F_size_ad0 (g := (mkF m 5 #[.val (.ref ad0), .val (.int p1)] [(.ref ad0), (.ref wstates_ad0)])) rfl rfl (hb hby own_d6_5)
  refine own_step st2 ?_
  show own_Fin p e below s _ _ _ (T2.setTop (mkF m 8 #[.val (.ref ad0), .val (.int p1)] [(.int (0 : Int32)), (.ref wstates_ad0)]))
  refine own_step (fun _ k => XS.iloadN X2.here hx rfl (hb hby own_d6_8) rfl k) ?_
  show own_Fin p e below s _ _ _ (T2.setTop (mkF m 9 #[.val (.ref ad0), .val (.int p1)] [(.int p1), (.int (0 : Int32)), (.ref wstates_ad0)]))
  obtain ⟨cl3, Ar3, q3, Sz3, Ng3, Hs3, Gf3⟩ := A_wstates_ad0
  have hin3 : ¬ ((0 : Int32) < 0 ∨ cl3.slots.size ≤ ((0 : Int32)).toNatClampNeg) := inb_of Sz3 ⟨by decide, own_ltn hn_wstates_ad0 (by decide)⟩
  obtain ⟨T3, h3, X3, e3, W3, st3⟩ := stI X2 hx hZ e2 Ar3 (j := (0 : Int32)) hin3 (g := (mkF m 9 #[.val (.ref ad0), .val (.int p1)] [(.int p1), (.int (0 : Int32)), (.ref wstates_ad0)])) rfl rfl (hb hby own_d6_9)
  have N3 := Fr.snoc X3 N0 g_wstates_ad0
  have K3 : Keep h0 h3 [wstates_ad0, ad0] := KR.wr W3 (Or.inl (List.mem_of_getElem? (i := 0) rfl))
  have Z3 : n0 ≤ h3.size := Nat.le_trans Z0 (Keep.of_wr W3).1
  have G4 := (E_ad0.wr W3)
  have G5 := (F_states_ad0.other W3 (Or.inl ne_ad0_wstates_ad0))
  have G6 := (F_size_ad0.other W3 (Or.inl ne_ad0_wstates_ad0))
  have G7 : Arv Z h3 wstates_ad0 k_wstates_ad0 .int n_wstates_ad0 [(.int p1), (.int wstates_ad0_1), (.int wstates_ad0_2)] (.int (0 : Int32)) := Arv.set Ar3 q3 Sz3 Ng3 Hs3 Gf3 rfl W3 0 rfl (Nat.le_of_ble_eq_true rfl)
  refine own_step st3 ?_
  show own_Fin p e below s _ _ _ (T3.setTop (mkF m 10 #[.val (.ref ad0), .val (.int p1)] []))
  refine own_step (fun _ k => XS.aloadN X3.here hx rfl (hb hby own_d6_10) rfl rfl k) ?_
  show own_Fin p e below s _ _ _ (T3.setTop (mkF m 11 #[.val (.ref ad0), .val (.int p1)] [(.ref ad0)]))
  refine own_step (fun _ k => XS.dup X3.here hx rfl (hb hby own_d6_11) rfl rfl k) ?_
  show own_Fin p e below s _ _ _ (T3.setTop (mkF m 12 #[.val (.ref ad0), .val (.int p1)] [(.ref ad0), (.ref ad0)]))
  obtain ⟨T8, X8, e8, st8⟩ := getF X3 hx hZ hown (host := "") (Or.inl (own_w hw 17 rfl)) Via.refl e3 G6 (g := (mkF m 12 #[.val (.ref ad0), .val (.int p1)] [(.ref ad0), (.ref ad0)])) rfl rfl (hb hby own_d6_12)
  refine own_step st8 ?_
  show own_Fin p e below s _ _ _ (T8.setTop (mkF m 15 #[.val (.ref ad0), .val (.int p1)] [(.int (0 : Int32)), (.ref ad0)]))
  refine own_step (fun _ k => XS.iconst X8.here hx rfl (hb hby own_d6_15) k) ?_
  show own_Fin p e below s _ _ _ (T8.setTop (mkF m 16 #[.val (.ref ad0), .val (.int p1)] [(.int (1 : Int32)), (.int (0 : Int32)), (.ref ad0)]))
  refine own_step (fun _ k => XS.iadd X8.here hx rfl (hb hby own_d6_16) rfl k) ?_
  show own_Fin p e below s _ _ _ (T8.setTop (mkF m 17 #[.val (.ref ad0), .val (.int p1)] [(.int ((0 : Int32) + (1 : Int32))), (.ref ad0)]))
  rw [show ((0 : Int32) + (1 : Int32)) = (1 : Int32) from by decide]
  show own_Fin p e below s _ _ _ (T8.setTop (mkF m 17 #[.val (.ref ad0), .val (.int p1)] [(.int (1 : Int32)), (.ref ad0)]))
  obtain ⟨T9, h9, X9, e9, W9, st9⟩ := putF X8 hx hZ hown (host := "") (Or.inl (own_w hw 17 rfl)) Via.refl e8 G6 G4 (Or.inl (own_w hw 18 rfl)) (own_w hw 1 rfl) (ty := .int) (by decide) rfl rfl (g := (mkF m 17 #[.val (.ref ad0), .val (.int p1)] [(.int (1 : Int32)), (.ref ad0)])) rfl rfl (hb hby own_d6_17)
  have N9 := Fr.snoc X9 N3 g_ad0
  have K9 : Keep h0 h9 [wstates_ad0, ad0] := K3.wr W9 (Or.inl (List.mem_of_getElem? (i := 1) rfl))
  have Z9 : n0 ≤ h9.size := Nat.le_trans Z3 (Keep.of_wr W9).1
  have G10 := (G4.wr W9)
  have G11 := (G5.other W9 (Or.inr (slot_ne (Or.inr (own_w hw 11 rfl)) (Or.inl (own_w hw 18 rfl)) (by decide) (t := (.array .int)) (t' := .int) (by decide) (by decide))))
  have G12 := (G7.other W9 ne_wstates_ad0_ad0)
  have G13 := G6.same W9
  refine own_step st9 ?_
  show own_Fin p e below s _ _ _ (T9.setTop (mkF m 20 #[.val (.ref ad0), .val (.int p1)] []))
  exact own_ret X9 hlk (v := none) (fun _ => rfl) (by decide) (by decide) (by show own_Q6 Z ad0 p1 wstates_ad0 k_wstates_ad0 wstates_ad0_0 wstates_ad0_1 wstates_ad0_2 n_wstates_ad0 h0 n0 _ T9.heap _; rw [e9]; exact ⟨N9, K9, rfl, G12, G10, G11, G13⟩) (fun fs hr => X9.returnOut hx Bd.returns (hb hby own_d6_20) hr)

theorem own_d7_0 : decode prog_46_method_3_code 0 = .ok (.aload_n 0, 1) := by decide +kernel
theorem own_d7_1 : decode prog_46_method_3_code 1 = .ok (.getfield 7, 3) := by decide +kernel
theorem own_d7_4 : decode prog_46_method_3_code 4 = .ok (.aload_n 0, 1) := by decide +kernel
theorem own_d7_5 : decode prog_46_method_3_code 5 = .ok (.getfield 25, 3) := by decide +kernel
theorem own_d7_8 : decode prog_46_method_3_code 8 = .ok (.iload_n 1, 1) := by decide +kernel
theorem own_d7_9 : decode prog_46_method_3_code 9 = .ok (.iastore, 1) := by decide +kernel
theorem own_d7_10 : decode prog_46_method_3_code 10 = .ok (.aload_n 0, 1) := by decide +kernel
theorem own_d7_11 : decode prog_46_method_3_code 11 = .ok (.dup, 1) := by decide +kernel
theorem own_d7_12 : decode prog_46_method_3_code 12 = .ok (.getfield 25, 3) := by decide +kernel
theorem own_d7_15 : decode prog_46_method_3_code 15 = .ok (.iconst 1, 1) := by decide +kernel
theorem own_d7_16 : decode prog_46_method_3_code 16 = .ok (.iadd, 1) := by decide +kernel
theorem own_d7_17 : decode prog_46_method_3_code 17 = .ok (.putfield 25, 3) := by decide +kernel
theorem own_d7_20 : decode prog_46_method_3_code 20 = .ok (.return_, 1) := by decide +kernel
theorem own_ef7 (m : MethodId) (ad0 : Addr) (p1 : Int32) : entryFrame m #[(.ref ad0), (.int p1)] 2 = mkF m 0 #[.val (.ref ad0), .val (.int p1)] [] := by first | (simp [entryFrame, mkF, argsToLocals, Value.category]; done) | rfl
def own_Q7 (Z : State) (ad0 : Addr) (p1 : Int32) (wstates_ad0 : Addr) (k_wstates_ad0 : ClassId) (wstates_ad0_0 : Int32) (wstates_ad0_1 : Int32) (wstates_ad0_2 : Int32) (n_wstates_ad0 : Int32) (h0 : Heap) (n0 : Nat) (v : Option Value) (h : Heap) (L : List Loc) : Prop := Fr n0 L ∧ Keep h0 h [wstates_ad0, ad0] ∧ v = none ∧ Arv Z h wstates_ad0 k_wstates_ad0 .int n_wstates_ad0 [(.int wstates_ad0_0), (.int p1), (.int wstates_ad0_2)] (.int (0 : Int32)) ∧ Exa Z h ad0 "com/example/libmdp/libmdp/StateStack" ∧ Fld Z h ad0 "com/example/libmdp/libmdp/StateStack" "states" "[I" (.ref wstates_ad0) ∧ Fld Z h ad0 "com/example/libmdp/libmdp/StateStack" "size" "I" (.int (2 : Int32))
set_option maxRecDepth 65536 in
set_option maxHeartbeats 40000000 in
theorem own_rm7 (l : Launch) (Z : State) (a0 : Array Value) (hw : ∀ d ∈ tables_1, d.before a0 Z = true) (ws : List Jvm.Cond) (ad0 : Addr) (p1 : Int32) (wstates_ad0 : Addr) (k_wstates_ad0 : ClassId) (wstates_ad0_0 : Int32) (wstates_ad0_1 : Int32) (wstates_ad0_2 : Int32) (n_wstates_ad0 : Int32) (h0 : Heap) (n0 : Nat) (Z0 : n0 ≤ h0.size) (E_ad0 : Exa Z h0 ad0 "com/example/libmdp/libmdp/StateStack") (F_states_ad0 : Fld Z h0 ad0 "com/example/libmdp/libmdp/StateStack" "states" "[I" (.ref wstates_ad0)) (F_size_ad0 : Fld Z h0 ad0 "com/example/libmdp/libmdp/StateStack" "size" "I" (.int (1 : Int32))) (A_wstates_ad0 : Arv Z h0 wstates_ad0 k_wstates_ad0 .int n_wstates_ad0 [(.int wstates_ad0_0), (.int wstates_ad0_1), (.int wstates_ad0_2)] (.int (0 : Int32))) (hn_wstates_ad0 : ¬ (n_wstates_ad0 < (3 : Int32))) (g_wstates_ad0 : n0 ≤ wstates_ad0) (ne_ad0_wstates_ad0 : ad0 ≠ wstates_ad0) (g_ad0 : n0 ≤ ad0) (ne_wstates_ad0_ad0 : wstates_ad0 ≠ ad0) :
    MetFree l (⟨"com/example/libmdp/libmdp/StateStack", "push", "(I)V"⟩ : MethodName) (head1 (Jvm.Cond.code (⟨"com/example/libmdp/libmdp/StateStack", "push", "(I)V"⟩ : MethodName) prog_46_method_3_code 2 none :: ws) ({ frames := 0, cells := 0, slots := 0, locals := 0 } : Room)) (fun a U => a = #[(.ref ad0), (.int p1)] ∧ Z.Warmed39 U.vm ∧ U.heap = h0) (fun _ _ _ _ _ => True) (fun _ U o U' => ∃ v L, o = .returned v ∧ own_Q7 Z ad0 p1 wstates_ad0 k_wstates_ad0 wstates_ad0_0 wstates_ad0_1 wstates_ad0_2 n_wstates_ad0 h0 n0 v U'.heap L ∧ FrameEnd U o U' L ({ frames := 0, cells := 0, slots := 0, locals := 0 } : Room).cells ({ frames := 0, cells := 0, slots := 0, locals := 0 } : Room).slots) := by
  refine MetFree.of_bodySF (plainFor_of_name own_pn0) hisR ?_
  intro p e s m args below meth c s₁ Bd hml0 hP hK
  obtain ⟨rfl, hZ, hh⟩ := hP
  have hx := Bd.exec
  have hby := Bd.bytes
  have hlk := Bd.notSynchronized
  have hml : c.maxLocals = 2 := hml0
  have hown : s.vm.findClass "com/example/libmdp/libmdp/StateStack" = some m.cls := findClass_of_methodNamed Bd.named
  have hnm := (name_of_methodNamed Bd.named Bd.method).1
  have X0 : Stand p l e ({ frames := 0, cells := 0, slots := 0, locals := 0 } : Room) s m #[(.ref ad0), (.int p1)] below meth c s₁ [] 0 0 := Stand.of_body Bd
  have e0 : s₁.heap = h0 := by rw [← hh, Bd.state]; rfl
  have N0 := Fr.nil n0
  have KR : Keep h0 h0 [wstates_ad0, ad0] := Keep.refl _ _
  show own_Fin p e below s ({ frames := 0, cells := 0, slots := 0, locals := 0 } : Room).cells ({ frames := 0, cells := 0, slots := 0, locals := 0 } : Room).slots (own_Q7 Z ad0 p1 wstates_ad0 k_wstates_ad0 wstates_ad0_0 wstates_ad0_1 wstates_ad0_2 n_wstates_ad0 h0 n0) (s₁.setTop (entryFrame m #[(.ref ad0), (.int p1)] 2))
  refine own_cast (own_ef7 m ad0 p1) ?_
  refine own_step (fun _ k => XS.aloadN X0.here hx rfl (hb hby own_d7_0) rfl rfl k) ?_
  show own_Fin p e below s _ _ _ (s₁.setTop (mkF m 1 #[.val (.ref ad0), .val (.int p1)] [(.ref ad0)]))
  obtain ⟨T1, X1, e1, st1⟩ := getF X0 hx hZ hown (host := "") (Or.inl (own_w hw 10 rfl)) Via.refl e0 F_states_ad0 (g := (mkF m 1 #[.val (.ref ad0), .val (.int p1)] [(.ref ad0)])) rfl rfl (hb hby own_d7_1)
  refine own_step st1 ?_
  show own_Fin p e below s _ _ _ (T1.setTop (mkF m 4 #[.val (.ref ad0), .val (.int p1)] [(.ref wstates_ad0)]))
  refine own_step (fun _ k => XS.aloadN X1.here hx rfl (hb hby own_d7_4) rfl rfl k) ?_
  show own_Fin p e below s _ _ _ (T1.setTop (mkF m 5 #[.val (.ref ad0), .val (.int p1)] [(.ref ad0), (.ref wstates_ad0)]))
  obtain ⟨T2, X2, e2, st2⟩ := getF X1 hx hZ hown (host := "") (Or.inl (own_w hw 17 rfl)) Via.refl e1 F_size_ad0 (g := (mkF m 5 #[.val (.ref ad0), .val (.int p1)] [(.ref ad0), (.ref wstates_ad0)])) rfl rfl (hb hby own_d7_5)
  refine own_step st2 ?_
  show own_Fin p e below s _ _ _ (T2.setTop (mkF m 8 #[.val (.ref ad0), .val (.int p1)] [(.int (1 : Int32)), (.ref wstates_ad0)]))
  refine own_step (fun _ k => XS.iloadN X2.here hx rfl (hb hby own_d7_8) rfl k) ?_
  show own_Fin p e below s _ _ _ (T2.setTop (mkF m 9 #[.val (.ref ad0), .val (.int p1)] [(.int p1), (.int (1 : Int32)), (.ref wstates_ad0)]))
  obtain ⟨cl3, Ar3, q3, Sz3, Ng3, Hs3, Gf3⟩ := A_wstates_ad0
  have hin3 : ¬ ((1 : Int32) < 0 ∨ cl3.slots.size ≤ ((1 : Int32)).toNatClampNeg) := inb_of Sz3 ⟨by decide, own_ltn hn_wstates_ad0 (by decide)⟩
  obtain ⟨T3, h3, X3, e3, W3, st3⟩ := stI X2 hx hZ e2 Ar3 (j := (1 : Int32)) hin3 (g := (mkF m 9 #[.val (.ref ad0), .val (.int p1)] [(.int p1), (.int (1 : Int32)), (.ref wstates_ad0)])) rfl rfl (hb hby own_d7_9)
  have N3 := Fr.snoc X3 N0 g_wstates_ad0
  have K3 : Keep h0 h3 [wstates_ad0, ad0] := KR.wr W3 (Or.inl (List.mem_of_getElem? (i := 0) rfl))
  have Z3 : n0 ≤ h3.size := Nat.le_trans Z0 (Keep.of_wr W3).1
  have G4 := (E_ad0.wr W3)
  have G5 := (F_states_ad0.other W3 (Or.inl ne_ad0_wstates_ad0))
  have G6 := (F_size_ad0.other W3 (Or.inl ne_ad0_wstates_ad0))
  have G7 : Arv Z h3 wstates_ad0 k_wstates_ad0 .int n_wstates_ad0 [(.int wstates_ad0_0), (.int p1), (.int wstates_ad0_2)] (.int (0 : Int32)) := Arv.set Ar3 q3 Sz3 Ng3 Hs3 Gf3 rfl W3 1 rfl (Nat.le_of_ble_eq_true rfl)
  refine own_step st3 ?_
  show own_Fin p e below s _ _ _ (T3.setTop (mkF m 10 #[.val (.ref ad0), .val (.int p1)] []))
  refine own_step (fun _ k => XS.aloadN X3.here hx rfl (hb hby own_d7_10) rfl rfl k) ?_
  show own_Fin p e below s _ _ _ (T3.setTop (mkF m 11 #[.val (.ref ad0), .val (.int p1)] [(.ref ad0)]))
  refine own_step (fun _ k => XS.dup X3.here hx rfl (hb hby own_d7_11) rfl rfl k) ?_
  show own_Fin p e below s _ _ _ (T3.setTop (mkF m 12 #[.val (.ref ad0), .val (.int p1)] [(.ref ad0), (.ref ad0)]))
  obtain ⟨T8, X8, e8, st8⟩ := getF X3 hx hZ hown (host := "") (Or.inl (own_w hw 17 rfl)) Via.refl e3 G6 (g := (mkF m 12 #[.val (.ref ad0), .val (.int p1)] [(.ref ad0), (.ref ad0)])) rfl rfl (hb hby own_d7_12)
  refine own_step st8 ?_
  show own_Fin p e below s _ _ _ (T8.setTop (mkF m 15 #[.val (.ref ad0), .val (.int p1)] [(.int (1 : Int32)), (.ref ad0)]))
  refine own_step (fun _ k => XS.iconst X8.here hx rfl (hb hby own_d7_15) k) ?_
  show own_Fin p e below s _ _ _ (T8.setTop (mkF m 16 #[.val (.ref ad0), .val (.int p1)] [(.int (1 : Int32)), (.int (1 : Int32)), (.ref ad0)]))
  refine own_step (fun _ k => XS.iadd X8.here hx rfl (hb hby own_d7_16) rfl k) ?_
  show own_Fin p e below s _ _ _ (T8.setTop (mkF m 17 #[.val (.ref ad0), .val (.int p1)] [(.int ((1 : Int32) + (1 : Int32))), (.ref ad0)]))
  rw [show ((1 : Int32) + (1 : Int32)) = (2 : Int32) from by decide]
  show own_Fin p e below s _ _ _ (T8.setTop (mkF m 17 #[.val (.ref ad0), .val (.int p1)] [(.int (2 : Int32)), (.ref ad0)]))
  obtain ⟨T9, h9, X9, e9, W9, st9⟩ := putF X8 hx hZ hown (host := "") (Or.inl (own_w hw 17 rfl)) Via.refl e8 G6 G4 (Or.inl (own_w hw 18 rfl)) (own_w hw 1 rfl) (ty := .int) (by decide) rfl rfl (g := (mkF m 17 #[.val (.ref ad0), .val (.int p1)] [(.int (2 : Int32)), (.ref ad0)])) rfl rfl (hb hby own_d7_17)
  have N9 := Fr.snoc X9 N3 g_ad0
  have K9 : Keep h0 h9 [wstates_ad0, ad0] := K3.wr W9 (Or.inl (List.mem_of_getElem? (i := 1) rfl))
  have Z9 : n0 ≤ h9.size := Nat.le_trans Z3 (Keep.of_wr W9).1
  have G10 := (G4.wr W9)
  have G11 := (G5.other W9 (Or.inr (slot_ne (Or.inr (own_w hw 11 rfl)) (Or.inl (own_w hw 18 rfl)) (by decide) (t := (.array .int)) (t' := .int) (by decide) (by decide))))
  have G12 := (G7.other W9 ne_wstates_ad0_ad0)
  have G13 := G6.same W9
  refine own_step st9 ?_
  show own_Fin p e below s _ _ _ (T9.setTop (mkF m 20 #[.val (.ref ad0), .val (.int p1)] []))
  exact own_ret X9 hlk (v := none) (fun _ => rfl) (by decide) (by decide) (by show own_Q7 Z ad0 p1 wstates_ad0 k_wstates_ad0 wstates_ad0_0 wstates_ad0_1 wstates_ad0_2 n_wstates_ad0 h0 n0 _ T9.heap _; rw [e9]; exact ⟨N9, K9, rfl, G12, G10, G11, G13⟩) (fun fs hr => X9.returnOut hx Bd.returns (hb hby own_d7_20) hr)

theorem own_d8_0 : decode prog_46_method_3_code 0 = .ok (.aload_n 0, 1) := by decide +kernel
theorem own_d8_1 : decode prog_46_method_3_code 1 = .ok (.getfield 7, 3) := by decide +kernel
theorem own_d8_4 : decode prog_46_method_3_code 4 = .ok (.aload_n 0, 1) := by decide +kernel
theorem own_d8_5 : decode prog_46_method_3_code 5 = .ok (.getfield 25, 3) := by decide +kernel
theorem own_d8_8 : decode prog_46_method_3_code 8 = .ok (.iload_n 1, 1) := by decide +kernel
theorem own_d8_9 : decode prog_46_method_3_code 9 = .ok (.iastore, 1) := by decide +kernel
theorem own_d8_10 : decode prog_46_method_3_code 10 = .ok (.aload_n 0, 1) := by decide +kernel
theorem own_d8_11 : decode prog_46_method_3_code 11 = .ok (.dup, 1) := by decide +kernel
theorem own_d8_12 : decode prog_46_method_3_code 12 = .ok (.getfield 25, 3) := by decide +kernel
theorem own_d8_15 : decode prog_46_method_3_code 15 = .ok (.iconst 1, 1) := by decide +kernel
theorem own_d8_16 : decode prog_46_method_3_code 16 = .ok (.iadd, 1) := by decide +kernel
theorem own_d8_17 : decode prog_46_method_3_code 17 = .ok (.putfield 25, 3) := by decide +kernel
theorem own_d8_20 : decode prog_46_method_3_code 20 = .ok (.return_, 1) := by decide +kernel
theorem own_ef8 (m : MethodId) (ad0 : Addr) (p1 : Int32) : entryFrame m #[(.ref ad0), (.int p1)] 2 = mkF m 0 #[.val (.ref ad0), .val (.int p1)] [] := by first | (simp [entryFrame, mkF, argsToLocals, Value.category]; done) | rfl
def own_Q8 (Z : State) (ad0 : Addr) (p1 : Int32) (wstates_ad0 : Addr) (k_wstates_ad0 : ClassId) (wstates_ad0_0 : Int32) (wstates_ad0_1 : Int32) (wstates_ad0_2 : Int32) (n_wstates_ad0 : Int32) (h0 : Heap) (n0 : Nat) (v : Option Value) (h : Heap) (L : List Loc) : Prop := Fr n0 L ∧ Keep h0 h [wstates_ad0, ad0] ∧ v = none ∧ Arv Z h wstates_ad0 k_wstates_ad0 .int n_wstates_ad0 [(.int wstates_ad0_0), (.int wstates_ad0_1), (.int p1)] (.int (0 : Int32)) ∧ Exa Z h ad0 "com/example/libmdp/libmdp/StateStack" ∧ Fld Z h ad0 "com/example/libmdp/libmdp/StateStack" "states" "[I" (.ref wstates_ad0) ∧ Fld Z h ad0 "com/example/libmdp/libmdp/StateStack" "size" "I" (.int (3 : Int32))
set_option maxRecDepth 65536 in
set_option maxHeartbeats 40000000 in
theorem own_rm8 (l : Launch) (Z : State) (a0 : Array Value) (hw : ∀ d ∈ tables_1, d.before a0 Z = true) (ws : List Jvm.Cond) (ad0 : Addr) (p1 : Int32) (wstates_ad0 : Addr) (k_wstates_ad0 : ClassId) (wstates_ad0_0 : Int32) (wstates_ad0_1 : Int32) (wstates_ad0_2 : Int32) (n_wstates_ad0 : Int32) (h0 : Heap) (n0 : Nat) (Z0 : n0 ≤ h0.size) (E_ad0 : Exa Z h0 ad0 "com/example/libmdp/libmdp/StateStack") (F_states_ad0 : Fld Z h0 ad0 "com/example/libmdp/libmdp/StateStack" "states" "[I" (.ref wstates_ad0)) (F_size_ad0 : Fld Z h0 ad0 "com/example/libmdp/libmdp/StateStack" "size" "I" (.int (2 : Int32))) (A_wstates_ad0 : Arv Z h0 wstates_ad0 k_wstates_ad0 .int n_wstates_ad0 [(.int wstates_ad0_0), (.int wstates_ad0_1), (.int wstates_ad0_2)] (.int (0 : Int32))) (hn_wstates_ad0 : ¬ (n_wstates_ad0 < (3 : Int32))) (g_wstates_ad0 : n0 ≤ wstates_ad0) (ne_ad0_wstates_ad0 : ad0 ≠ wstates_ad0) (g_ad0 : n0 ≤ ad0) (ne_wstates_ad0_ad0 : wstates_ad0 ≠ ad0) :
    MetFree l (⟨"com/example/libmdp/libmdp/StateStack", "push", "(I)V"⟩ : MethodName) (head1 (Jvm.Cond.code (⟨"com/example/libmdp/libmdp/StateStack", "push", "(I)V"⟩ : MethodName) prog_46_method_3_code 2 none :: ws) ({ frames := 0, cells := 0, slots := 0, locals := 0 } : Room)) (fun a U => a = #[(.ref ad0), (.int p1)] ∧ Z.Warmed39 U.vm ∧ U.heap = h0) (fun _ _ _ _ _ => True) (fun _ U o U' => ∃ v L, o = .returned v ∧ own_Q8 Z ad0 p1 wstates_ad0 k_wstates_ad0 wstates_ad0_0 wstates_ad0_1 wstates_ad0_2 n_wstates_ad0 h0 n0 v U'.heap L ∧ FrameEnd U o U' L ({ frames := 0, cells := 0, slots := 0, locals := 0 } : Room).cells ({ frames := 0, cells := 0, slots := 0, locals := 0 } : Room).slots) := by
  refine MetFree.of_bodySF (plainFor_of_name own_pn0) hisR ?_
  intro p e s m args below meth c s₁ Bd hml0 hP hK
  obtain ⟨rfl, hZ, hh⟩ := hP
  have hx := Bd.exec
  have hby := Bd.bytes
  have hlk := Bd.notSynchronized
  have hml : c.maxLocals = 2 := hml0
  have hown : s.vm.findClass "com/example/libmdp/libmdp/StateStack" = some m.cls := findClass_of_methodNamed Bd.named
  have hnm := (name_of_methodNamed Bd.named Bd.method).1
  have X0 : Stand p l e ({ frames := 0, cells := 0, slots := 0, locals := 0 } : Room) s m #[(.ref ad0), (.int p1)] below meth c s₁ [] 0 0 := Stand.of_body Bd
  have e0 : s₁.heap = h0 := by rw [← hh, Bd.state]; rfl
  have N0 := Fr.nil n0
  have KR : Keep h0 h0 [wstates_ad0, ad0] := Keep.refl _ _
  show own_Fin p e below s ({ frames := 0, cells := 0, slots := 0, locals := 0 } : Room).cells ({ frames := 0, cells := 0, slots := 0, locals := 0 } : Room).slots (own_Q8 Z ad0 p1 wstates_ad0 k_wstates_ad0 wstates_ad0_0 wstates_ad0_1 wstates_ad0_2 n_wstates_ad0 h0 n0) (s₁.setTop (entryFrame m #[(.ref ad0), (.int p1)] 2))
  refine own_cast (own_ef8 m ad0 p1) ?_
  refine own_step (fun _ k => XS.aloadN X0.here hx rfl (hb hby own_d8_0) rfl rfl k) ?_
  show own_Fin p e below s _ _ _ (s₁.setTop (mkF m 1 #[.val (.ref ad0), .val (.int p1)] [(.ref ad0)]))
  obtain ⟨T1, X1, e1, st1⟩ := getF X0 hx hZ hown (host := "") (Or.inl (own_w hw 10 rfl)) Via.refl e0 F_states_ad0 (g := (mkF m 1 #[.val (.ref ad0), .val (.int p1)] [(.ref ad0)])) rfl rfl (hb hby own_d8_1)
  refine own_step st1 ?_
  show own_Fin p e below s _ _ _ (T1.setTop (mkF m 4 #[.val (.ref ad0), .val (.int p1)] [(.ref wstates_ad0)]))
  refine own_step (fun _ k => XS.aloadN X1.here hx rfl (hb hby own_d8_4) rfl rfl k) ?_
  show own_Fin p e below s _ _ _ (T1.setTop (mkF m 5 #[.val (.ref ad0), .val (.int p1)] [(.ref ad0), (.ref wstates_ad0)]))
  obtain ⟨T2, X2, e2, st2⟩ := getF X1 hx hZ hown (host := "") (Or.inl (own_w hw 17 rfl)) Via.refl e1 F_size_ad0 (g := (mkF m 5 #[.val (.ref ad0), .val (.int p1)] [(.ref ad0), (.ref wstates_ad0)])) rfl rfl (hb hby own_d8_5)
  refine own_step st2 ?_
  show own_Fin p e below s _ _ _ (T2.setTop (mkF m 8 #[.val (.ref ad0), .val (.int p1)] [(.int (2 : Int32)), (.ref wstates_ad0)]))
  refine own_step (fun _ k => XS.iloadN X2.here hx rfl (hb hby own_d8_8) rfl k) ?_
  show own_Fin p e below s _ _ _ (T2.setTop (mkF m 9 #[.val (.ref ad0), .val (.int p1)] [(.int p1), (.int (2 : Int32)), (.ref wstates_ad0)]))
  obtain ⟨cl3, Ar3, q3, Sz3, Ng3, Hs3, Gf3⟩ := A_wstates_ad0
  have hin3 : ¬ ((2 : Int32) < 0 ∨ cl3.slots.size ≤ ((2 : Int32)).toNatClampNeg) := inb_of Sz3 ⟨by decide, own_ltn hn_wstates_ad0 (by decide)⟩
  obtain ⟨T3, h3, X3, e3, W3, st3⟩ := stI X2 hx hZ e2 Ar3 (j := (2 : Int32)) hin3 (g := (mkF m 9 #[.val (.ref ad0), .val (.int p1)] [(.int p1), (.int (2 : Int32)), (.ref wstates_ad0)])) rfl rfl (hb hby own_d8_9)
  have N3 := Fr.snoc X3 N0 g_wstates_ad0
  have K3 : Keep h0 h3 [wstates_ad0, ad0] := KR.wr W3 (Or.inl (List.mem_of_getElem? (i := 0) rfl))
  have Z3 : n0 ≤ h3.size := Nat.le_trans Z0 (Keep.of_wr W3).1
  have G4 := (E_ad0.wr W3)
  have G5 := (F_states_ad0.other W3 (Or.inl ne_ad0_wstates_ad0))
  have G6 := (F_size_ad0.other W3 (Or.inl ne_ad0_wstates_ad0))
  have G7 : Arv Z h3 wstates_ad0 k_wstates_ad0 .int n_wstates_ad0 [(.int wstates_ad0_0), (.int wstates_ad0_1), (.int p1)] (.int (0 : Int32)) := Arv.set Ar3 q3 Sz3 Ng3 Hs3 Gf3 rfl W3 2 rfl (Nat.le_of_ble_eq_true rfl)
  refine own_step st3 ?_
  show own_Fin p e below s _ _ _ (T3.setTop (mkF m 10 #[.val (.ref ad0), .val (.int p1)] []))
  refine own_step (fun _ k => XS.aloadN X3.here hx rfl (hb hby own_d8_10) rfl rfl k) ?_
  show own_Fin p e below s _ _ _ (T3.setTop (mkF m 11 #[.val (.ref ad0), .val (.int p1)] [(.ref ad0)]))
  refine own_step (fun _ k => XS.dup X3.here hx rfl (hb hby own_d8_11) rfl rfl k) ?_
  show own_Fin p e below s _ _ _ (T3.setTop (mkF m 12 #[.val (.ref ad0), .val (.int p1)] [(.ref ad0), (.ref ad0)]))
  obtain ⟨T8, X8, e8, st8⟩ := getF X3 hx hZ hown (host := "") (Or.inl (own_w hw 17 rfl)) Via.refl e3 G6 (g := (mkF m 12 #[.val (.ref ad0), .val (.int p1)] [(.ref ad0), (.ref ad0)])) rfl rfl (hb hby own_d8_12)
  refine own_step st8 ?_
  show own_Fin p e below s _ _ _ (T8.setTop (mkF m 15 #[.val (.ref ad0), .val (.int p1)] [(.int (2 : Int32)), (.ref ad0)]))
  refine own_step (fun _ k => XS.iconst X8.here hx rfl (hb hby own_d8_15) k) ?_
  show own_Fin p e below s _ _ _ (T8.setTop (mkF m 16 #[.val (.ref ad0), .val (.int p1)] [(.int (1 : Int32)), (.int (2 : Int32)), (.ref ad0)]))
  refine own_step (fun _ k => XS.iadd X8.here hx rfl (hb hby own_d8_16) rfl k) ?_
  show own_Fin p e below s _ _ _ (T8.setTop (mkF m 17 #[.val (.ref ad0), .val (.int p1)] [(.int ((2 : Int32) + (1 : Int32))), (.ref ad0)]))
  rw [show ((2 : Int32) + (1 : Int32)) = (3 : Int32) from by decide]
  show own_Fin p e below s _ _ _ (T8.setTop (mkF m 17 #[.val (.ref ad0), .val (.int p1)] [(.int (3 : Int32)), (.ref ad0)]))
  obtain ⟨T9, h9, X9, e9, W9, st9⟩ := putF X8 hx hZ hown (host := "") (Or.inl (own_w hw 17 rfl)) Via.refl e8 G6 G4 (Or.inl (own_w hw 18 rfl)) (own_w hw 1 rfl) (ty := .int) (by decide) rfl rfl (g := (mkF m 17 #[.val (.ref ad0), .val (.int p1)] [(.int (3 : Int32)), (.ref ad0)])) rfl rfl (hb hby own_d8_17)
  have N9 := Fr.snoc X9 N3 g_ad0
  have K9 : Keep h0 h9 [wstates_ad0, ad0] := K3.wr W9 (Or.inl (List.mem_of_getElem? (i := 1) rfl))
  have Z9 : n0 ≤ h9.size := Nat.le_trans Z3 (Keep.of_wr W9).1
  have G10 := (G4.wr W9)
  have G11 := (G5.other W9 (Or.inr (slot_ne (Or.inr (own_w hw 11 rfl)) (Or.inl (own_w hw 18 rfl)) (by decide) (t := (.array .int)) (t' := .int) (by decide) (by decide))))
  have G12 := (G7.other W9 ne_wstates_ad0_ad0)
  have G13 := G6.same W9
  refine own_step st9 ?_
  show own_Fin p e below s _ _ _ (T9.setTop (mkF m 20 #[.val (.ref ad0), .val (.int p1)] []))
  exact own_ret X9 hlk (v := none) (fun _ => rfl) (by decide) (by decide) (by show own_Q8 Z ad0 p1 wstates_ad0 k_wstates_ad0 wstates_ad0_0 wstates_ad0_1 wstates_ad0_2 n_wstates_ad0 h0 n0 _ T9.heap _; rw [e9]; exact ⟨N9, K9, rfl, G12, G10, G11, G13⟩) (fun fs hr => X9.returnOut hx Bd.returns (hb hby own_d8_20) hr)

theorem own_d9_0 : decode prog_46_method_4_code 0 = .ok (.aload_n 0, 1) := by decide +kernel
theorem own_d9_1 : decode prog_46_method_4_code 1 = .ok (.dup, 1) := by decide +kernel
theorem own_d9_2 : decode prog_46_method_4_code 2 = .ok (.getfield 25, 3) := by decide +kernel
theorem own_d9_5 : decode prog_46_method_4_code 5 = .ok (.iconst 1, 1) := by decide +kernel
theorem own_d9_6 : decode prog_46_method_4_code 6 = .ok (.isub, 1) := by decide +kernel
theorem own_d9_7 : decode prog_46_method_4_code 7 = .ok (.putfield 25, 3) := by decide +kernel
theorem own_d9_10 : decode prog_46_method_4_code 10 = .ok (.aload_n 0, 1) := by decide +kernel
theorem own_d9_11 : decode prog_46_method_4_code 11 = .ok (.getfield 7, 3) := by decide +kernel
theorem own_d9_14 : decode prog_46_method_4_code 14 = .ok (.aload_n 0, 1) := by decide +kernel
theorem own_d9_15 : decode prog_46_method_4_code 15 = .ok (.getfield 25, 3) := by decide +kernel
theorem own_d9_18 : decode prog_46_method_4_code 18 = .ok (.iaload, 1) := by decide +kernel
theorem own_d9_19 : decode prog_46_method_4_code 19 = .ok (.ireturn, 1) := by decide +kernel
theorem own_ef9 (m : MethodId) (ad0 : Addr) : entryFrame m #[(.ref ad0)] 1 = mkF m 0 #[.val (.ref ad0)] [] := by first | (simp [entryFrame, mkF, argsToLocals, Value.category]; done) | rfl
def own_Q9 (Z : State) (ad0 : Addr) (wstates_ad0 : Addr) (k_wstates_ad0 : ClassId) (wstates_ad0_0 : Int32) (wstates_ad0_1 : Int32) (wstates_ad0_2 : Int32) (n_wstates_ad0 : Int32) (h0 : Heap) (n0 : Nat) (v : Option Value) (h : Heap) (L : List Loc) : Prop := Fr n0 L ∧ Keep h0 h [ad0] ∧ v = some (.int wstates_ad0_0) ∧ Exa Z h ad0 "com/example/libmdp/libmdp/StateStack" ∧ Fld Z h ad0 "com/example/libmdp/libmdp/StateStack" "states" "[I" (.ref wstates_ad0) ∧ Fld Z h ad0 "com/example/libmdp/libmdp/StateStack" "size" "I" (.int (0 : Int32))
set_option maxRecDepth 65536 in
set_option maxHeartbeats 40000000 in
theorem own_rm9 (l : Launch) (Z : State) (a0 : Array Value) (hw : ∀ d ∈ tables_1, d.before a0 Z = true) (ws : List Jvm.Cond) (ad0 : Addr) (wstates_ad0 : Addr) (k_wstates_ad0 : ClassId) (wstates_ad0_0 : Int32) (wstates_ad0_1 : Int32) (wstates_ad0_2 : Int32) (n_wstates_ad0 : Int32) (h0 : Heap) (n0 : Nat) (Z0 : n0 ≤ h0.size) (E_ad0 : Exa Z h0 ad0 "com/example/libmdp/libmdp/StateStack") (F_states_ad0 : Fld Z h0 ad0 "com/example/libmdp/libmdp/StateStack" "states" "[I" (.ref wstates_ad0)) (F_size_ad0 : Fld Z h0 ad0 "com/example/libmdp/libmdp/StateStack" "size" "I" (.int (1 : Int32))) (A_wstates_ad0 : Arv Z h0 wstates_ad0 k_wstates_ad0 .int n_wstates_ad0 [(.int wstates_ad0_0), (.int wstates_ad0_1), (.int wstates_ad0_2)] (.int (0 : Int32))) (hn_wstates_ad0 : ¬ (n_wstates_ad0 < (3 : Int32))) (g_ad0 : n0 ≤ ad0) (ne_wstates_ad0_ad0 : wstates_ad0 ≠ ad0) :
    MetFree l (⟨"com/example/libmdp/libmdp/StateStack", "pop", "()I"⟩ : MethodName) (head1 (Jvm.Cond.code (⟨"com/example/libmdp/libmdp/StateStack", "pop", "()I"⟩ : MethodName) prog_46_method_4_code 1 (some .int) :: ws) ({ frames := 0, cells := 0, slots := 0, locals := 0 } : Room)) (fun a U => a = #[(.ref ad0)] ∧ Z.Warmed39 U.vm ∧ U.heap = h0) (fun _ _ _ _ _ => True) (fun _ U o U' => ∃ v L, o = .returned v ∧ own_Q9 Z ad0 wstates_ad0 k_wstates_ad0 wstates_ad0_0 wstates_ad0_1 wstates_ad0_2 n_wstates_ad0 h0 n0 v U'.heap L ∧ FrameEnd U o U' L ({ frames := 0, cells := 0, slots := 0, locals := 0 } : Room).cells ({ frames := 0, cells := 0, slots := 0, locals := 0 } : Room).slots) := by
  refine MetFree.of_bodySF (plainFor_of_name own_pn0) hisR ?_
  intro p e s m args below meth c s₁ Bd hml0 hP hK
  obtain ⟨rfl, hZ, hh⟩ := hP
  have hx := Bd.exec
  have hby := Bd.bytes
  have hlk := Bd.notSynchronized
  have hml : c.maxLocals = 1 := hml0
  have hown : s.vm.findClass "com/example/libmdp/libmdp/StateStack" = some m.cls := findClass_of_methodNamed Bd.named
  have hnm := (name_of_methodNamed Bd.named Bd.method).1
  have X0 : Stand p l e ({ frames := 0, cells := 0, slots := 0, locals := 0 } : Room) s m #[(.ref ad0)] below meth c s₁ [] 0 0 := Stand.of_body Bd
  have e0 : s₁.heap = h0 := by rw [← hh, Bd.state]; rfl
  have N0 := Fr.nil n0
  have KR : Keep h0 h0 [ad0] := Keep.refl _ _
  show own_Fin p e below s ({ frames := 0, cells := 0, slots := 0, locals := 0 } : Room).cells ({ frames := 0, cells := 0, slots := 0, locals := 0 } : Room).slots (own_Q9 Z ad0 wstates_ad0 k_wstates_ad0 wstates_ad0_0 wstates_ad0_1 wstates_ad0_2 n_wstates_ad0 h0 n0) (s₁.setTop (entryFrame m #[(.ref ad0)] 1))
  refine own_cast (own_ef9 m ad0) ?_
  refine own_step (fun _ k => XS.aloadN X0.here hx rfl (hb hby own_d9_0) rfl rfl k) ?_
  show own_Fin p e below s _ _ _ (s₁.setTop (mkF m 1 #[.val (.ref ad0)] [(.ref ad0)]))
  refine own_step (fun _ k => XS.dup X0.here hx rfl (hb hby own_d9_1) rfl rfl k) ?_
  show own_Fin p e below s _ _ _ (s₁.setTop (mkF m 2 #[.val (.ref ad0)] [(.ref ad0), (.ref ad0)]))
  obtain ⟨T1, X1, e1, st1⟩ := getF X0 hx hZ hown (host := "") (Or.inl (own_w hw 17 rfl)) Via.refl e0 F_size_ad0 (g := (mkF m 2 #[.val (.ref ad0)] [(.ref ad0), (.ref ad0)])) rfl rfl (hb hby own_d9_2)
  refine own_step st1 ?_
  show own_Fin p e below s _ _ _ (T1.setTop (mkF m 5 #[.val (.ref ad0)] [(.int (1 : Int32)), (.ref ad0)]))
  refine own_step (fun _ k => XS.iconst X1.here hx rfl (hb hby own_d9_5) k) ?_
  show own_Fin p e below s _ _ _ (T1.setTop (mkF m 6 #[.val (.ref ad0)] [(.int (1 : Int32)), (.int (1 : Int32)), (.ref ad0)]))
  refine own_step (fun _ k => XS.isub X1.here hx rfl (hb hby own_d9_6) rfl k) ?_
  show own_Fin p e below s _ _ _ (T1.setTop (mkF m 7 #[.val (.ref ad0)] [(.int ((1 : Int32) - (1 : Int32))), (.ref ad0)]))
  rw [show ((1 : Int32) - (1 : Int32)) = (0 : Int32) from by decide]
  show own_Fin p e below s _ _ _ (T1.setTop (mkF m 7 #[.val (.ref ad0)] [(.int (0 : Int32)), (.ref ad0)]))
  obtain ⟨T2, h2, X2, e2, W2, st2⟩ := putF X1 hx hZ hown (host := "") (Or.inl (own_w hw 17 rfl)) Via.refl e1 F_size_ad0 E_ad0 (Or.inl (own_w hw 18 rfl)) (own_w hw 1 rfl) (ty := .int) (by decide) rfl rfl (g := (mkF m 7 #[.val (.ref ad0)] [(.int (0 : Int32)), (.ref ad0)])) rfl rfl (hb hby own_d9_7)
  have N2 := Fr.snoc X2 N0 g_ad0
  have K2 : Keep h0 h2 [ad0] := KR.wr W2 (Or.inl (List.mem_of_getElem? (i := 0) rfl))
  have Z2 : n0 ≤ h2.size := Nat.le_trans Z0 (Keep.of_wr W2).1
  have G3 := (E_ad0.wr W2)
  have G4 := (F_states_ad0.other W2 (Or.inr (slot_ne (Or.inr (own_w hw 11 rfl)) (Or.inl (own_w hw 18 rfl)) (by decide) (t := (.array .int)) (t' := .int) (by decide) (by decide))))
  have G5 := (A_wstates_ad0.other W2 ne_wstates_ad0_ad0)
  have G6 := F_size_ad0.same W2
  refine own_step st2 ?_
  show own_Fin p e below s _ _ _ (T2.setTop (mkF m 10 #[.val (.ref ad0)] []))
  refine own_step (fun _ k => XS.aloadN X2.here hx rfl (hb hby own_d9_10) rfl rfl k) ?_
  show own_Fin p e below s _ _ _ (T2.setTop (mkF m 11 #[.val (.ref ad0)] [(.ref ad0)]))
  obtain ⟨T7, X7, e7, st7⟩ := getF X2 hx hZ hown (host := "") (Or.inl (own_w hw 10 rfl)) Via.refl e2 G4 (g := (mkF m 11 #[.val (.ref ad0)] [(.ref ad0)])) rfl rfl (hb hby own_d9_11)
  refine own_step st7 ?_
  show own_Fin p e below s _ _ _ (T7.setTop (mkF m 14 #[.val (.ref ad0)] [(.ref wstates_ad0)]))
  refine own_step (fun _ k => XS.aloadN X7.here hx rfl (hb hby own_d9_14) rfl rfl k) ?_
  show own_Fin p e below s _ _ _ (T7.setTop (mkF m 15 #[.val (.ref ad0)] [(.ref ad0), (.ref wstates_ad0)]))
  obtain ⟨T8, X8, e8, st8⟩ := getF X7 hx hZ hown (host := "") (Or.inl (own_w hw 17 rfl)) Via.refl e7 G6 (g := (mkF m 15 #[.val (.ref ad0)] [(.ref ad0), (.ref wstates_ad0)])) rfl rfl (hb hby own_d9_15)
  refine own_step st8 ?_
  show own_Fin p e below s _ _ _ (T8.setTop (mkF m 18 #[.val (.ref ad0)] [(.int (0 : Int32)), (.ref wstates_ad0)]))
  obtain ⟨cl9, Ar9, q9, Sz9, Ng9, Hs9, Gf9⟩ := G5
  have hin9 : ¬ ((0 : Int32) < 0 ∨ cl9.slots.size ≤ ((0 : Int32)).toNatClampNeg) := inb_of Sz9 ⟨by decide, own_ltn hn_wstates_ad0 (by decide)⟩
  refine own_step (fun _ k => X8.iaload hx (j := (0 : Int32)) (v := (.int wstates_ad0_0)) (by rw [e8]; exact Ar9.1) (State.isArrayOf_alike hZ.alike Ar9.2.1) Ar9.2.2 hin9 (Has.at Hs9 hin9 rfl) (g := (mkF m 18 #[.val (.ref ad0)] [(.int (0 : Int32)), (.ref wstates_ad0)])) rfl rfl (hb hby own_d9_18) _ k) ?_
  show own_Fin p e below s _ _ _ (T8.setTop (mkF m 19 #[.val (.ref ad0)] [(.int wstates_ad0_0)]))
  exact own_ret X8 hlk (v := some (.int wstates_ad0_0)) (fun h => by rw [Bd.returns] at h; cases h) (by decide) (by decide) (by show own_Q9 Z ad0 wstates_ad0 k_wstates_ad0 wstates_ad0_0 wstates_ad0_1 wstates_ad0_2 n_wstates_ad0 h0 n0 _ T8.heap _; rw [e8]; exact ⟨N2, K2, rfl, G3, G4, G6⟩) (fun fs hr => retOut X8 hx Bd.returns rfl (Or.inl ⟨rfl, Or.inl rfl, _, rfl⟩) (hb hby own_d9_19) hr)

theorem own_d10_0 : decode prog_46_method_4_code 0 = .ok (.aload_n 0, 1) := by decide +kernel
theorem own_d10_1 : decode prog_46_method_4_code 1 = .ok (.dup, 1) := by decide +kernel
theorem own_d10_2 : decode prog_46_method_4_code 2 = .ok (.getfield 25, 3) := by decide +kernel
theorem own_d10_5 : decode prog_46_method_4_code 5 = .ok (.iconst 1, 1) := by decide +kernel
theorem own_d10_6 : decode prog_46_method_4_code 6 = .ok (.isub, 1) := by decide +kernel
theorem own_d10_7 : decode prog_46_method_4_code 7 = .ok (.putfield 25, 3) := by decide +kernel
theorem own_d10_10 : decode prog_46_method_4_code 10 = .ok (.aload_n 0, 1) := by decide +kernel
theorem own_d10_11 : decode prog_46_method_4_code 11 = .ok (.getfield 7, 3) := by decide +kernel
theorem own_d10_14 : decode prog_46_method_4_code 14 = .ok (.aload_n 0, 1) := by decide +kernel
theorem own_d10_15 : decode prog_46_method_4_code 15 = .ok (.getfield 25, 3) := by decide +kernel
theorem own_d10_18 : decode prog_46_method_4_code 18 = .ok (.iaload, 1) := by decide +kernel
theorem own_d10_19 : decode prog_46_method_4_code 19 = .ok (.ireturn, 1) := by decide +kernel
theorem own_ef10 (m : MethodId) (ad0 : Addr) : entryFrame m #[(.ref ad0)] 1 = mkF m 0 #[.val (.ref ad0)] [] := by first | (simp [entryFrame, mkF, argsToLocals, Value.category]; done) | rfl
def own_Q10 (Z : State) (ad0 : Addr) (wstates_ad0 : Addr) (k_wstates_ad0 : ClassId) (wstates_ad0_0 : Int32) (wstates_ad0_1 : Int32) (wstates_ad0_2 : Int32) (n_wstates_ad0 : Int32) (h0 : Heap) (n0 : Nat) (v : Option Value) (h : Heap) (L : List Loc) : Prop := Fr n0 L ∧ Keep h0 h [ad0] ∧ v = some (.int wstates_ad0_1) ∧ Exa Z h ad0 "com/example/libmdp/libmdp/StateStack" ∧ Fld Z h ad0 "com/example/libmdp/libmdp/StateStack" "states" "[I" (.ref wstates_ad0) ∧ Fld Z h ad0 "com/example/libmdp/libmdp/StateStack" "size" "I" (.int (1 : Int32))
set_option maxRecDepth 65536 in
set_option maxHeartbeats 40000000 in
theorem own_rm10 (l : Launch) (Z : State) (a0 : Array Value) (hw : ∀ d ∈ tables_1, d.before a0 Z = true) (ws : List Jvm.Cond) (ad0 : Addr) (wstates_ad0 : Addr) (k_wstates_ad0 : ClassId) (wstates_ad0_0 : Int32) (wstates_ad0_1 : Int32) (wstates_ad0_2 : Int32) (n_wstates_ad0 : Int32) (h0 : Heap) (n0 : Nat) (Z0 : n0 ≤ h0.size) (E_ad0 : Exa Z h0 ad0 "com/example/libmdp/libmdp/StateStack") (F_states_ad0 : Fld Z h0 ad0 "com/example/libmdp/libmdp/StateStack" "states" "[I" (.ref wstates_ad0)) (F_size_ad0 : Fld Z h0 ad0 "com/example/libmdp/libmdp/StateStack" "size" "I" (.int (2 : Int32))) (A_wstates_ad0 : Arv Z h0 wstates_ad0 k_wstates_ad0 .int n_wstates_ad0 [(.int wstates_ad0_0), (.int wstates_ad0_1), (.int wstates_ad0_2)] (.int (0 : Int32))) (hn_wstates_ad0 : ¬ (n_wstates_ad0 < (3 : Int32))) (g_ad0 : n0 ≤ ad0) (ne_wstates_ad0_ad0 : wstates_ad0 ≠ ad0) :
    MetFree l (⟨"com/example/libmdp/libmdp/StateStack", "pop", "()I"⟩ : MethodName) (head1 (Jvm.Cond.code (⟨"com/example/libmdp/libmdp/StateStack", "pop", "()I"⟩ : MethodName) prog_46_method_4_code 1 (some .int) :: ws) ({ frames := 0, cells := 0, slots := 0, locals := 0 } : Room)) (fun a U => a = #[(.ref ad0)] ∧ Z.Warmed39 U.vm ∧ U.heap = h0) (fun _ _ _ _ _ => True) (fun _ U o U' => ∃ v L, o = .returned v ∧ own_Q10 Z ad0 wstates_ad0 k_wstates_ad0 wstates_ad0_0 wstates_ad0_1 wstates_ad0_2 n_wstates_ad0 h0 n0 v U'.heap L ∧ FrameEnd U o U' L ({ frames := 0, cells := 0, slots := 0, locals := 0 } : Room).cells ({ frames := 0, cells := 0, slots := 0, locals := 0 } : Room).slots) := by
  refine MetFree.of_bodySF (plainFor_of_name own_pn0) hisR ?_
  intro p e s m args below meth c s₁ Bd hml0 hP hK
  obtain ⟨rfl, hZ, hh⟩ := hP
  have hx := Bd.exec
  have hby := Bd.bytes
  have hlk := Bd.notSynchronized
  have hml : c.maxLocals = 1 := hml0
  have hown : s.vm.findClass "com/example/libmdp/libmdp/StateStack" = some m.cls := findClass_of_methodNamed Bd.named
  have hnm := (name_of_methodNamed Bd.named Bd.method).1
  have X0 : Stand p l e ({ frames := 0, cells := 0, slots := 0, locals := 0 } : Room) s m #[(.ref ad0)] below meth c s₁ [] 0 0 := Stand.of_body Bd
  have e0 : s₁.heap = h0 := by rw [← hh, Bd.state]; rfl
  have N0 := Fr.nil n0
  have KR : Keep h0 h0 [ad0] := Keep.refl _ _
  show own_Fin p e below s ({ frames := 0, cells := 0, slots := 0, locals := 0 } : Room).cells ({ frames := 0, cells := 0, slots := 0, locals := 0 } : Room).slots (own_Q10 Z ad0 wstates_ad0 k_wstates_ad0 wstates_ad0_0 wstates_ad0_1 wstates_ad0_2 n_wstates_ad0 h0 n0) (s₁.setTop (entryFrame m #[(.ref ad0)] 1))
  refine own_cast (own_ef10 m ad0) ?_
  refine own_step (fun _ k => XS.aloadN X0.here hx rfl (hb hby own_d10_0) rfl rfl k) ?_
  show own_Fin p e below s _ _ _ (s₁.setTop (mkF m 1 #[.val (.ref ad0)] [(.ref ad0)]))
  refine own_step (fun _ k => XS.dup X0.here hx rfl (hb hby own_d10_1) rfl rfl k) ?_
  show own_Fin p e below s _ _ _ (s₁.setTop (mkF m 2 #[.val (.ref ad0)] [(.ref ad0), (.ref ad0)]))
  obtain ⟨T1, X1, e1, st1⟩ := getF X0 hx hZ hown (host := "") (Or.inl (own_w hw 17 rfl)) Via.refl e0 F_size_ad0 (g := (mkF m 2 #[.val (.ref ad0)] [(.ref ad0), (.ref ad0)])) rfl rfl (hb hby own_d10_2)
  refine own_step st1 ?_
  show own_Fin p e below s _ _ _ (T1.setTop (mkF m 5 #[.val (.ref ad0)] [(.int (2 : Int32)), (.ref ad0)]))
  refine own_step (fun _ k => XS.iconst X1.here hx rfl (hb hby own_d10_5) k) ?_
  show own_Fin p e below s _ _ _ (T1.setTop (mkF m 6 #[.val (.ref ad0)] [(.int (1 : Int32)), (.int (2 : Int32)), (.ref ad0)]))
  refine own_step (fun _ k => XS.isub X1.here hx rfl (hb hby own_d10_6) rfl k) ?_
  show own_Fin p e below s _ _ _ (T1.setTop (mkF m 7 #[.val (.ref ad0)] [(.int ((2 : Int32) - (1 : Int32))), (.ref ad0)]))
  rw [show ((2 : Int32) - (1 : Int32)) = (1 : Int32) from by decide]
  show own_Fin p e below s _ _ _ (T1.setTop (mkF m 7 #[.val (.ref ad0)] [(.int (1 : Int32)), (.ref ad0)]))
  obtain ⟨T2, h2, X2, e2, W2, st2⟩ := putF X1 hx hZ hown (host := "") (Or.inl (own_w hw 17 rfl)) Via.refl e1 F_size_ad0 E_ad0 (Or.inl (own_w hw 18 rfl)) (own_w hw 1 rfl) (ty := .int) (by decide) rfl rfl (g := (mkF m 7 #[.val (.ref ad0)] [(.int (1 : Int32)), (.ref ad0)])) rfl rfl (hb hby own_d10_7)
  have N2 := Fr.snoc X2 N0 g_ad0
  have K2 : Keep h0 h2 [ad0] := KR.wr W2 (Or.inl (List.mem_of_getElem? (i := 0) rfl))
  have Z2 : n0 ≤ h2.size := Nat.le_trans Z0 (Keep.of_wr W2).1
  have G3 := (E_ad0.wr W2)
  have G4 := (F_states_ad0.other W2 (Or.inr (slot_ne (Or.inr (own_w hw 11 rfl)) (Or.inl (own_w hw 18 rfl)) (by decide) (t := (.array .int)) (t' := .int) (by decide) (by decide))))
  have G5 := (A_wstates_ad0.other W2 ne_wstates_ad0_ad0)
  have G6 := F_size_ad0.same W2
  refine own_step st2 ?_
  show own_Fin p e below s _ _ _ (T2.setTop (mkF m 10 #[.val (.ref ad0)] []))
  refine own_step (fun _ k => XS.aloadN X2.here hx rfl (hb hby own_d10_10) rfl rfl k) ?_
  show own_Fin p e below s _ _ _ (T2.setTop (mkF m 11 #[.val (.ref ad0)] [(.ref ad0)]))
  obtain ⟨T7, X7, e7, st7⟩ := getF X2 hx hZ hown (host := "") (Or.inl (own_w hw 10 rfl)) Via.refl e2 G4 (g := (mkF m 11 #[.val (.ref ad0)] [(.ref ad0)])) rfl rfl (hb hby own_d10_11)
  refine own_step st7 ?_
  show own_Fin p e below s _ _ _ (T7.setTop (mkF m 14 #[.val (.ref ad0)] [(.ref wstates_ad0)]))
  refine own_step (fun _ k => XS.aloadN X7.here hx rfl (hb hby own_d10_14) rfl rfl k) ?_
  show own_Fin p e below s _ _ _ (T7.setTop (mkF m 15 #[.val (.ref ad0)] [(.ref ad0), (.ref wstates_ad0)]))
  obtain ⟨T8, X8, e8, st8⟩ := getF X7 hx hZ hown (host := "") (Or.inl (own_w hw 17 rfl)) Via.refl e7 G6 (g := (mkF m 15 #[.val (.ref ad0)] [(.ref ad0), (.ref wstates_ad0)])) rfl rfl (hb hby own_d10_15)
  refine own_step st8 ?_
  show own_Fin p e below s _ _ _ (T8.setTop (mkF m 18 #[.val (.ref ad0)] [(.int (1 : Int32)), (.ref wstates_ad0)]))
  obtain ⟨cl9, Ar9, q9, Sz9, Ng9, Hs9, Gf9⟩ := G5
  have hin9 : ¬ ((1 : Int32) < 0 ∨ cl9.slots.size ≤ ((1 : Int32)).toNatClampNeg) := inb_of Sz9 ⟨by decide, own_ltn hn_wstates_ad0 (by decide)⟩
  refine own_step (fun _ k => X8.iaload hx (j := (1 : Int32)) (v := (.int wstates_ad0_1)) (by rw [e8]; exact Ar9.1) (State.isArrayOf_alike hZ.alike Ar9.2.1) Ar9.2.2 hin9 (Has.at Hs9 hin9 rfl) (g := (mkF m 18 #[.val (.ref ad0)] [(.int (1 : Int32)), (.ref wstates_ad0)])) rfl rfl (hb hby own_d10_18) _ k) ?_
  show own_Fin p e below s _ _ _ (T8.setTop (mkF m 19 #[.val (.ref ad0)] [(.int wstates_ad0_1)]))
  exact own_ret X8 hlk (v := some (.int wstates_ad0_1)) (fun h => by rw [Bd.returns] at h; cases h) (by decide) (by decide) (by show own_Q10 Z ad0 wstates_ad0 k_wstates_ad0 wstates_ad0_0 wstates_ad0_1 wstates_ad0_2 n_wstates_ad0 h0 n0 _ T8.heap _; rw [e8]; exact ⟨N2, K2, rfl, G3, G4, G6⟩) (fun fs hr => retOut X8 hx Bd.returns rfl (Or.inl ⟨rfl, Or.inl rfl, _, rfl⟩) (hb hby own_d10_19) hr)

theorem own_d11_0 : decode prog_46_method_4_code 0 = .ok (.aload_n 0, 1) := by decide +kernel
theorem own_d11_1 : decode prog_46_method_4_code 1 = .ok (.dup, 1) := by decide +kernel
theorem own_d11_2 : decode prog_46_method_4_code 2 = .ok (.getfield 25, 3) := by decide +kernel
theorem own_d11_5 : decode prog_46_method_4_code 5 = .ok (.iconst 1, 1) := by decide +kernel
theorem own_d11_6 : decode prog_46_method_4_code 6 = .ok (.isub, 1) := by decide +kernel
theorem own_d11_7 : decode prog_46_method_4_code 7 = .ok (.putfield 25, 3) := by decide +kernel
theorem own_d11_10 : decode prog_46_method_4_code 10 = .ok (.aload_n 0, 1) := by decide +kernel
theorem own_d11_11 : decode prog_46_method_4_code 11 = .ok (.getfield 7, 3) := by decide +kernel
theorem own_d11_14 : decode prog_46_method_4_code 14 = .ok (.aload_n 0, 1) := by decide +kernel
theorem own_d11_15 : decode prog_46_method_4_code 15 = .ok (.getfield 25, 3) := by decide +kernel
theorem own_d11_18 : decode prog_46_method_4_code 18 = .ok (.iaload, 1) := by decide +kernel
theorem own_d11_19 : decode prog_46_method_4_code 19 = .ok (.ireturn, 1) := by decide +kernel
theorem own_ef11 (m : MethodId) (ad0 : Addr) : entryFrame m #[(.ref ad0)] 1 = mkF m 0 #[.val (.ref ad0)] [] := by first | (simp [entryFrame, mkF, argsToLocals, Value.category]; done) | rfl
def own_Q11 (Z : State) (ad0 : Addr) (wstates_ad0 : Addr) (k_wstates_ad0 : ClassId) (wstates_ad0_0 : Int32) (wstates_ad0_1 : Int32) (wstates_ad0_2 : Int32) (n_wstates_ad0 : Int32) (h0 : Heap) (n0 : Nat) (v : Option Value) (h : Heap) (L : List Loc) : Prop := Fr n0 L ∧ Keep h0 h [ad0] ∧ v = some (.int wstates_ad0_2) ∧ Exa Z h ad0 "com/example/libmdp/libmdp/StateStack" ∧ Fld Z h ad0 "com/example/libmdp/libmdp/StateStack" "states" "[I" (.ref wstates_ad0) ∧ Fld Z h ad0 "com/example/libmdp/libmdp/StateStack" "size" "I" (.int (2 : Int32))
set_option maxRecDepth 65536 in
set_option maxHeartbeats 40000000 in
theorem own_rm11 (l : Launch) (Z : State) (a0 : Array Value) (hw : ∀ d ∈ tables_1, d.before a0 Z = true) (ws : List Jvm.Cond) (ad0 : Addr) (wstates_ad0 : Addr) (k_wstates_ad0 : ClassId) (wstates_ad0_0 : Int32) (wstates_ad0_1 : Int32) (wstates_ad0_2 : Int32) (n_wstates_ad0 : Int32) (h0 : Heap) (n0 : Nat) (Z0 : n0 ≤ h0.size) (E_ad0 : Exa Z h0 ad0 "com/example/libmdp/libmdp/StateStack") (F_states_ad0 : Fld Z h0 ad0 "com/example/libmdp/libmdp/StateStack" "states" "[I" (.ref wstates_ad0)) (F_size_ad0 : Fld Z h0 ad0 "com/example/libmdp/libmdp/StateStack" "size" "I" (.int (3 : Int32))) (A_wstates_ad0 : Arv Z h0 wstates_ad0 k_wstates_ad0 .int n_wstates_ad0 [(.int wstates_ad0_0), (.int wstates_ad0_1), (.int wstates_ad0_2)] (.int (0 : Int32))) (hn_wstates_ad0 : ¬ (n_wstates_ad0 < (3 : Int32))) (g_ad0 : n0 ≤ ad0) (ne_wstates_ad0_ad0 : wstates_ad0 ≠ ad0) :
    MetFree l (⟨"com/example/libmdp/libmdp/StateStack", "pop", "()I"⟩ : MethodName) (head1 (Jvm.Cond.code (⟨"com/example/libmdp/libmdp/StateStack", "pop", "()I"⟩ : MethodName) prog_46_method_4_code 1 (some .int) :: ws) ({ frames := 0, cells := 0, slots := 0, locals := 0 } : Room)) (fun a U => a = #[(.ref ad0)] ∧ Z.Warmed39 U.vm ∧ U.heap = h0) (fun _ _ _ _ _ => True) (fun _ U o U' => ∃ v L, o = .returned v ∧ own_Q11 Z ad0 wstates_ad0 k_wstates_ad0 wstates_ad0_0 wstates_ad0_1 wstates_ad0_2 n_wstates_ad0 h0 n0 v U'.heap L ∧ FrameEnd U o U' L ({ frames := 0, cells := 0, slots := 0, locals := 0 } : Room).cells ({ frames := 0, cells := 0, slots := 0, locals := 0 } : Room).slots) := by
  refine MetFree.of_bodySF (plainFor_of_name own_pn0) hisR ?_
  intro p e s m args below meth c s₁ Bd hml0 hP hK
  obtain ⟨rfl, hZ, hh⟩ := hP
  have hx := Bd.exec
  have hby := Bd.bytes
  have hlk := Bd.notSynchronized
  have hml : c.maxLocals = 1 := hml0
  have hown : s.vm.findClass "com/example/libmdp/libmdp/StateStack" = some m.cls := findClass_of_methodNamed Bd.named
  have hnm := (name_of_methodNamed Bd.named Bd.method).1
  have X0 : Stand p l e ({ frames := 0, cells := 0, slots := 0, locals := 0 } : Room) s m #[(.ref ad0)] below meth c s₁ [] 0 0 := Stand.of_body Bd
  have e0 : s₁.heap = h0 := by rw [← hh, Bd.state]; rfl
  have N0 := Fr.nil n0
  have KR : Keep h0 h0 [ad0] := Keep.refl _ _
  show own_Fin p e below s ({ frames := 0, cells := 0, slots := 0, locals := 0 } : Room).cells ({ frames := 0, cells := 0, slots := 0, locals := 0 } : Room).slots (own_Q11 Z ad0 wstates_ad0 k_wstates_ad0 wstates_ad0_0 wstates_ad0_1 wstates_ad0_2 n_wstates_ad0 h0 n0) (s₁.setTop (entryFrame m #[(.ref ad0)] 1))
  refine own_cast (own_ef11 m ad0) ?_
  refine own_step (fun _ k => XS.aloadN X0.here hx rfl (hb hby own_d11_0) rfl rfl k) ?_
  show own_Fin p e below s _ _ _ (s₁.setTop (mkF m 1 #[.val (.ref ad0)] [(.ref ad0)]))
  refine own_step (fun _ k => XS.dup X0.here hx rfl (hb hby own_d11_1) rfl rfl k) ?_
  show own_Fin p e below s _ _ _ (s₁.setTop (mkF m 2 #[.val (.ref ad0)] [(.ref ad0), (.ref ad0)]))
  obtain ⟨T1, X1, e1, st1⟩ := getF X0 hx hZ hown (host := "") (Or.inl (own_w hw 17 rfl)) Via.refl e0 F_size_ad0 (g := (mkF m 2 #[.val (.ref ad0)] [(.ref ad0), (.ref ad0)])) rfl rfl (hb hby own_d11_2)
  refine own_step st1 ?_
  show own_Fin p e below s _ _ _ (T1.setTop (mkF m 5 #[.val (.ref ad0)] [(.int (3 : Int32)), (.ref ad0)]))
  refine own_step (fun _ k => XS.iconst X1.here hx rfl (hb hby own_d11_5) k) ?_
  show own_Fin p e below s _ _ _ (T1.setTop (mkF m 6 #[.val (.ref ad0)] [(.int (1 : Int32)), (.int (3 : Int32)), (.ref ad0)]))
  refine own_step (fun _ k => XS.isub X1.here hx rfl (hb hby own_d11_6) rfl k) ?_
  show own_Fin p e below s _ _ _ (T1.setTop (mkF m 7 #[.val (.ref ad0)] [(.int ((3 : Int32) - (1 : Int32))), (.ref ad0)]))
  rw [show ((3 : Int32) - (1 : Int32)) = (2 : Int32) from by decide]
  show own_Fin p e below s _ _ _ (T1.setTop (mkF m 7 #[.val (.ref ad0)] [(.int (2 : Int32)), (.ref ad0)]))
  obtain ⟨T2, h2, X2, e2, W2, st2⟩ := putF X1 hx hZ hown (host := "") (Or.inl (own_w hw 17 rfl)) Via.refl e1 F_size_ad0 E_ad0 (Or.inl (own_w hw 18 rfl)) (own_w hw 1 rfl) (ty := .int) (by decide) rfl rfl (g := (mkF m 7 #[.val (.ref ad0)] [(.int (2 : Int32)), (.ref ad0)])) rfl rfl (hb hby own_d11_7)
  have N2 := Fr.snoc X2 N0 g_ad0
  have K2 : Keep h0 h2 [ad0] := KR.wr W2 (Or.inl (List.mem_of_getElem? (i := 0) rfl))
  have Z2 : n0 ≤ h2.size := Nat.le_trans Z0 (Keep.of_wr W2).1
  have G3 := (E_ad0.wr W2)
  have G4 := (F_states_ad0.other W2 (Or.inr (slot_ne (Or.inr (own_w hw 11 rfl)) (Or.inl (own_w hw 18 rfl)) (by decide) (t := (.array .int)) (t' := .int) (by decide) (by decide))))
  have G5 := (A_wstates_ad0.other W2 ne_wstates_ad0_ad0)
  have G6 := F_size_ad0.same W2
  refine own_step st2 ?_
  show own_Fin p e below s _ _ _ (T2.setTop (mkF m 10 #[.val (.ref ad0)] []))
  refine own_step (fun _ k => XS.aloadN X2.here hx rfl (hb hby own_d11_10) rfl rfl k) ?_
  show own_Fin p e below s _ _ _ (T2.setTop (mkF m 11 #[.val (.ref ad0)] [(.ref ad0)]))
  obtain ⟨T7, X7, e7, st7⟩ := getF X2 hx hZ hown (host := "") (Or.inl (own_w hw 10 rfl)) Via.refl e2 G4 (g := (mkF m 11 #[.val (.ref ad0)] [(.ref ad0)])) rfl rfl (hb hby own_d11_11)
  refine own_step st7 ?_
  show own_Fin p e below s _ _ _ (T7.setTop (mkF m 14 #[.val (.ref ad0)] [(.ref wstates_ad0)]))
  refine own_step (fun _ k => XS.aloadN X7.here hx rfl (hb hby own_d11_14) rfl rfl k) ?_
  show own_Fin p e below s _ _ _ (T7.setTop (mkF m 15 #[.val (.ref ad0)] [(.ref ad0), (.ref wstates_ad0)]))
  obtain ⟨T8, X8, e8, st8⟩ := getF X7 hx hZ hown (host := "") (Or.inl (own_w hw 17 rfl)) Via.refl e7 G6 (g := (mkF m 15 #[.val (.ref ad0)] [(.ref ad0), (.ref wstates_ad0)])) rfl rfl (hb hby own_d11_15)
  refine own_step st8 ?_
  show own_Fin p e below s _ _ _ (T8.setTop (mkF m 18 #[.val (.ref ad0)] [(.int (2 : Int32)), (.ref wstates_ad0)]))
  obtain ⟨cl9, Ar9, q9, Sz9, Ng9, Hs9, Gf9⟩ := G5
  have hin9 : ¬ ((2 : Int32) < 0 ∨ cl9.slots.size ≤ ((2 : Int32)).toNatClampNeg) := inb_of Sz9 ⟨by decide, own_ltn hn_wstates_ad0 (by decide)⟩
  refine own_step (fun _ k => X8.iaload hx (j := (2 : Int32)) (v := (.int wstates_ad0_2)) (by rw [e8]; exact Ar9.1) (State.isArrayOf_alike hZ.alike Ar9.2.1) Ar9.2.2 hin9 (Has.at Hs9 hin9 rfl) (g := (mkF m 18 #[.val (.ref ad0)] [(.int (2 : Int32)), (.ref wstates_ad0)])) rfl rfl (hb hby own_d11_18) _ k) ?_
  show own_Fin p e below s _ _ _ (T8.setTop (mkF m 19 #[.val (.ref ad0)] [(.int wstates_ad0_2)]))
  exact own_ret X8 hlk (v := some (.int wstates_ad0_2)) (fun h => by rw [Bd.returns] at h; cases h) (by decide) (by decide) (by show own_Q11 Z ad0 wstates_ad0 k_wstates_ad0 wstates_ad0_0 wstates_ad0_1 wstates_ad0_2 n_wstates_ad0 h0 n0 _ T8.heap _; rw [e8]; exact ⟨N2, K2, rfl, G3, G4, G6⟩) (fun fs hr => retOut X8 hx Bd.returns rfl (Or.inl ⟨rfl, Or.inl rfl, _, rfl⟩) (hb hby own_d11_19) hr)

theorem own_pd0 : parseMethodDescriptor "(I)V" = some ⟨[.int], none⟩ := by decide +kernel
abbrev own_y0 : MethodName := (⟨"com/example/libmdp/libmdp/StateStack", "<init>", "(I)V"⟩ : MethodName)
theorem own_pd1 : parseMethodDescriptor "()Z" = some ⟨[], some .boolean⟩ := by decide +kernel
abbrev own_y1 : MethodName := (⟨"com/example/libmdp/libmdp/StateStack", "isEmpty", "()Z"⟩ : MethodName)
abbrev own_y2 : MethodName := (⟨"com/example/libmdp/libmdp/StateStack", "push", "(I)V"⟩ : MethodName)
theorem own_pd2 : parseMethodDescriptor "()I" = some ⟨[], some .int⟩ := by decide +kernel
abbrev own_y3 : MethodName := (⟨"com/example/libmdp/libmdp/StateStack", "pop", "()I"⟩ : MethodName)
theorem own_pn1 : plainName "com/example/libmdp/libmdp/StateStackPushPinLaw" = true := by first | (simp [plainName, overriddenIn]; done) | decide +kernel
theorem own_ef12 (m : MethodId) (p0 : Int32) (p1 : Int32) (p2 : Int32) (p3 : Int32) (p4 : Int32) : entryFrame m #[(.int p0), (.int p1), (.int p2), (.int p3), (.int p4)] maxLocals = mkF m 0 #[.val (.int p0), .val (.int p1), .val (.int p2), .val (.int p3), .val (.int p4), .unset, .unset, .unset, .unset, .unset, .unset, .unset, .unset] [] := by first | (simp [entryFrame, mkF, argsToLocals, Value.category, maxLocals]; done) | rfl
def own_Q12 (Z : State) (p0 : Int32) (p1 : Int32) (p2 : Int32) (p3 : Int32) (p4 : Int32) (h0 : Heap) (n0 : Nat) (v : Option Value) (h : Heap) (L : List Loc) : Prop := v = some (.int 1) ∧ Fr n0 L
set_option maxRecDepth 65536 in
set_option maxHeartbeats 40000000 in
theorem own_rm12 (l : Launch) (Z : State) (a0 : Array Value) (hw : ∀ d ∈ tables_1, d.before a0 Z = true) (ws : List Jvm.Cond) (p0 : Int32) (p1 : Int32) (p2 : Int32) (p3 : Int32) (p4 : Int32) (h0 : Heap) (n0 : Nat) (Z0 : n0 ≤ h0.size) :
    MetFree l x (head1 (Jvm.Cond.code x code maxLocals ret :: ws) room_1) (fun a U => a = #[(.int p0), (.int p1), (.int p2), (.int p3), (.int p4)] ∧ Z.Warmed39 U.vm ∧ U.heap = h0) (fun _ _ _ _ _ => True) (fun _ U o U' => ∃ v L, o = .returned v ∧ own_Q12 Z p0 p1 p2 p3 p4 h0 n0 v U'.heap L ∧ FrameEnd U o U' L room_1.cells room_1.slots) := by
  refine MetFree.of_bodySF (plainFor_of_name own_pn1) hisR ?_
  intro p e s m args below meth c s₁ Bd hml0 hP hK
  obtain ⟨rfl, hZ, hh⟩ := hP
  have hx := Bd.exec
  have hby := Bd.bytes
  have hlk := Bd.notSynchronized
  have hml : c.maxLocals = 13 := hml0
  have hown : s.vm.findClass "com/example/libmdp/libmdp/StateStackPushPinLaw" = some m.cls := findClass_of_methodNamed Bd.named
  have hnm := (name_of_methodNamed Bd.named Bd.method).1
  have X0 : Stand p l e room_1 s m #[(.int p0), (.int p1), (.int p2), (.int p3), (.int p4)] below meth c s₁ [] 0 0 := Stand.of_body Bd
  have e0 : s₁.heap = h0 := by rw [← hh, Bd.state]; rfl
  have N0 := Fr.nil n0
  have KR : Keep h0 h0 [] := Keep.refl _ _
  show own_Fin p e below s room_1.cells room_1.slots (own_Q12 Z p0 p1 p2 p3 p4 h0 n0) (s₁.setTop (entryFrame m #[(.int p0), (.int p1), (.int p2), (.int p3), (.int p4)] maxLocals))
  refine own_cast (own_ef12 m p0 p1 p2 p3 p4) ?_
  have hcap3 := own_cap3 p3
  refine own_step (fun _ k => XS.iconst X0.here hx rfl (hb hby at_0) k) ?_
  show own_Fin p e below s _ _ _ (s₁.setTop (mkF m 1 #[.val (.int p0), .val (.int p1), .val (.int p2), .val (.int p3), .val (.int p4), .unset, .unset, .unset, .unset, .unset, .unset, .unset, .unset] [(.int (3 : Int32))]))
  refine own_step (fun _ k => XS.iloadN X0.here hx rfl (hb hby at_1) rfl k) ?_
  show own_Fin p e below s _ _ _ (s₁.setTop (mkF m 2 #[.val (.int p0), .val (.int p1), .val (.int p2), .val (.int p3), .val (.int p4), .unset, .unset, .unset, .unset, .unset, .unset, .unset, .unset] [(.int p3), (.int (3 : Int32))]))
  refine own_step (fun _ k => XS.iconst X0.here hx rfl (hb hby at_2) k) ?_
  show own_Fin p e below s _ _ _ (s₁.setTop (mkF m 3 #[.val (.int p0), .val (.int p1), .val (.int p2), .val (.int p3), .val (.int p4), .unset, .unset, .unset, .unset, .unset, .unset, .unset, .unset] [(.int (3 : Int32)), (.int p3), (.int (3 : Int32))]))
  refine own_step (fun _ k => XS.iand X0.here hx rfl (hb hby at_3) rfl k) ?_
  show own_Fin p e below s _ _ _ (s₁.setTop (mkF m 4 #[.val (.int p0), .val (.int p1), .val (.int p2), .val (.int p3), .val (.int p4), .unset, .unset, .unset, .unset, .unset, .unset, .unset, .unset] [(.int (p3 &&& (3 : Int32))), (.int (3 : Int32))]))
  refine own_step (fun _ k => XS.iadd X0.here hx rfl (hb hby at_4) rfl k) ?_
  show own_Fin p e below s _ _ _ (s₁.setTop (mkF m 5 #[.val (.int p0), .val (.int p1), .val (.int p2), .val (.int p3), .val (.int p4), .unset, .unset, .unset, .unset, .unset, .unset, .unset, .unset] [(.int ((3 : Int32) + (p3 &&& (3 : Int32))))]))
  refine own_step (fun _ k => XS.istore X0.here hx rfl (hb hby at_5) rfl (l' := #[.val (.int p0), .val (.int p1), .val (.int p2), .val (.int p3), .val (.int p4), .val (.int ((3 : Int32) + (p3 &&& (3 : Int32)))), .unset, .unset, .unset, .unset, .unset, .unset, .unset]) rfl k) ?_
  show own_Fin p e below s _ _ _ (s₁.setTop (mkF m 7 #[.val (.int p0), .val (.int p1), .val (.int p2), .val (.int p3), .val (.int p4), .val (.int ((3 : Int32) + (p3 &&& (3 : Int32)))), .unset, .unset, .unset, .unset, .unset, .unset, .unset] []))
  obtain ⟨T1, h1, X1, e1, E1, A1, D1, -, st1⟩ := newO X0 hx hZ hown (own_w hw 0 rfl) (own_w hw 1 rfl) (own_w hw 2 rfl) e0 (g := (mkF m 7 #[.val (.int p0), .val (.int p1), .val (.int p2), .val (.int p3), .val (.int p4), .val (.int ((3 : Int32) + (p3 &&& (3 : Int32)))), .unset, .unset, .unset, .unset, .unset, .unset, .unset] [])) rfl (hb hby at_7) (by decide) (by decide)
  obtain ⟨b1, g1⟩ : ∃ z, z = h0.size := ⟨_, rfl⟩
  rw [← g1] at A1 D1 st1
  have gg1 : n0 ≤ b1 := Nat.le_trans Z0 (Nat.le_of_eq g1.symm)
  have sz1 : h0.size ≤ b1 := Nat.le_trans KR.1 (Nat.le_of_eq g1.symm)
  have K1 : Keep h0 h1 [] := KR.ext E1
  have Z1 : n0 ≤ h1.size := Nat.le_trans Z0 E1.1
  have G2 : Fld Z h1 b1 "com/example/libmdp/libmdp/StateStack" "states" "[I" .null := D1 (Or.inr (own_w hw 11 rfl)) (ty := (.array .int)) (by decide)
  have G3 : Fld Z h1 b1 "com/example/libmdp/libmdp/StateStack" "size" "I" (.int (0 : Int32)) := D1 (Or.inl (own_w hw 18 rfl)) (ty := .int) (by decide)
  refine own_step st1 ?_
  show own_Fin p e below s _ _ _ (T1.setTop (mkF m 10 #[.val (.int p0), .val (.int p1), .val (.int p2), .val (.int p3), .val (.int p4), .val (.int ((3 : Int32) + (p3 &&& (3 : Int32)))), .unset, .unset, .unset, .unset, .unset, .unset, .unset] [(.ref b1)]))
  refine own_step (fun _ k => XS.dup X1.here hx rfl (hb hby at_10) rfl rfl k) ?_
  show own_Fin p e below s _ _ _ (T1.setTop (mkF m 11 #[.val (.int p0), .val (.int p1), .val (.int p2), .val (.int p3), .val (.int p4), .val (.int ((3 : Int32) + (p3 &&& (3 : Int32)))), .unset, .unset, .unset, .unset, .unset, .unset, .unset] [(.ref b1), (.ref b1)]))
  refine own_step (fun _ k => XS.iload X1.here hx rfl (hb hby at_11) rfl k) ?_
  show own_Fin p e below s _ _ _ (T1.setTop (mkF m 13 #[.val (.int p0), .val (.int p1), .val (.int p2), .val (.int p3), .val (.int p4), .val (.int ((3 : Int32) + (p3 &&& (3 : Int32)))), .unset, .unset, .unset, .unset, .unset, .unset, .unset] [(.int ((3 : Int32) + (p3 &&& (3 : Int32)))), (.ref b1), (.ref b1)]))
  obtain ⟨_, _, ⟨T4, L4, k4, n4⟩, -, X4, ⟨Lc4, hQ4, l4, y4, z4⟩, st4⟩ := X1.specialBack hx (y := own_y0) rfl hown (mvT hZ (own_w hw 3 rfl)) (mvT hZ (own_w hw 4 rfl)) (mvT hZ (own_w hw 5 rfl)) (by decide) (backOf (W := 1) (own_rm1 l Z a0 hw [] b1 (((3 : Int32) + (p3 &&& (3 : Int32)))) .null ((.int (0 : Int32))) h1 n0 Z1 A1 G2 G3 (show ¬ (((3 : Int32) + (p3 &&& (3 : Int32))) < (0 : Int32)) from own_cap0 p3) (show ((3 : Int32) + (p3 &&& (3 : Int32))).toNatClampNeg ≤ 6 from own_cap6 p3) gg1) hZ (own_w hw 5 rfl) (own_w hw 2 rfl) (by decide) (by decide)) (g := (mkF m 13 #[.val (.int p0), .val (.int p1), .val (.int p2), .val (.int p3), .val (.int p4), .val (.int ((3 : Int32) + (p3 &&& (3 : Int32)))), .unset, .unset, .unset, .unset, .unset, .unset, .unset] [(.int ((3 : Int32) + (p3 &&& (3 : Int32)))), (.ref b1), (.ref b1)])) rfl (by rw [hml]; rfl) (Steps.refl _) (a := b1) (argsL := [(.int ((3 : Int32) + (p3 &&& (3 : Int32))))]) (rest := [(.ref b1)]) (lenOf own_pd0 rfl) rfl (by show 2 * 0 + _ ≤ _; exact Nat.le_of_eq rfl) (hb hby at_13) (fun _ _ => ⟨rfl, e1, (by decide : 1 + 1 ≤ _), (by decide : 2 + 6 ≤ _)⟩)
  dsimp only [Pt.U, Pt.locs, Pt.cells, Pt.slots] at X4 l4 y4 z4 st4 hQ4
  subst l4 y4 z4
  obtain ⟨N4q, K4q, b4_o0, gg4_o0, sz4_o0, ko0_4, rfl, G5, G6, G7, G8⟩ := hQ4
  have N4 := Fr.app N0 N4q
  have ne4_o0_b1 : b1 ≠ b4_o0 := Nat.ne_of_lt (Nat.lt_of_lt_of_le A1.lt sz4_o0)
  have K4 : Keep h0 T4.heap [] := K1.trans K4q (allS (P := fun x => x ∈ [] ∨ h0.size ≤ x) (Or.inr sz1) all0)
  have Z4 : n0 ≤ T4.heap.size := Nat.le_trans Z1 K4q.1
  have sy4_o0 : h0.size ≤ b4_o0 := Nat.le_trans K1.1 sz4_o0
  have G9 := (A1.keep K4q)
  refine own_step (fun _ k => st4.trans k) ?_
  show own_Fin p e below s _ _ _ (T4.setTop (mkF m 16 #[.val (.int p0), .val (.int p1), .val (.int p2), .val (.int p3), .val (.int p4), .val (.int ((3 : Int32) + (p3 &&& (3 : Int32)))), .unset, .unset, .unset, .unset, .unset, .unset, .unset] [(.ref b1)]))
  refine own_step (fun _ k => XS.astore X4.here hx rfl (hb hby at_16) rfl rfl (l' := #[.val (.int p0), .val (.int p1), .val (.int p2), .val (.int p3), .val (.int p4), .val (.int ((3 : Int32) + (p3 &&& (3 : Int32)))), .val (.ref b1), .unset, .unset, .unset, .unset, .unset, .unset]) rfl k) ?_
  show own_Fin p e below s _ _ _ (T4.setTop (mkF m 18 #[.val (.int p0), .val (.int p1), .val (.int p2), .val (.int p3), .val (.int p4), .val (.int ((3 : Int32) + (p3 &&& (3 : Int32)))), .val (.ref b1), .unset, .unset, .unset, .unset, .unset, .unset] []))
  refine own_step (fun _ k => XS.aload X4.here hx rfl (hb hby at_18) rfl rfl k) ?_
  show own_Fin p e below s _ _ _ (T4.setTop (mkF m 20 #[.val (.int p0), .val (.int p1), .val (.int p2), .val (.int p3), .val (.int p4), .val (.int ((3 : Int32) + (p3 &&& (3 : Int32)))), .val (.ref b1), .unset, .unset, .unset, .unset, .unset, .unset] [(.ref b1)]))
  obtain ⟨cq10, kq10, q10a, q10b, q10c⟩ := isOf hZ rfl G5
  obtain ⟨_, _, ⟨T10, L10, k10, n10⟩, -, X10, ⟨Lc10, hQ10, l10, y10, z10⟩, st10⟩ := X4.virtualBack hx (y := own_y1) (z := own_y1) hown (mvT hZ (own_w hw 12 rfl)) (mvT hZ (own_w hw 13 rfl)) (notFace_of_selects (args := #[]) (mvT hZ (own_w hw 15 rfl))) (mvT hZ (own_w hw 15 rfl)) (mvT hZ (own_w hw 14 rfl)) (by decide) (backOf (W := 0) (own_rm2 l Z a0 hw [] b1 T4.heap n0 Z4 G6) hZ (own_w hw 16 rfl) (own_w hw 2 rfl) (by decide) (by decide)) q10a q10c (g := (mkF m 20 #[.val (.int p0), .val (.int p1), .val (.int p2), .val (.int p3), .val (.int p4), .val (.int ((3 : Int32) + (p3 &&& (3 : Int32)))), .val (.ref b1), .unset, .unset, .unset, .unset, .unset, .unset] [(.ref b1)])) rfl (by rw [hml]; rfl) (Steps.refl _) (argsL := []) (rest := []) (lenOf own_pd1 rfl) rfl (by show 2 * 0 + _ ≤ _; exact Nat.le_of_eq rfl) (hb hby at_20) (fun _ _ => ⟨rfl, rfl, (by decide : 2 + 0 ≤ _), (by decide : 8 + 0 ≤ _)⟩)
  dsimp only [Pt.U, Pt.locs, Pt.cells, Pt.slots] at X10 l10 y10 z10 st10 hQ10
  subst l10 y10 z10
  obtain ⟨rfl, N10q, e10⟩ := hQ10
  have N10 := Fr.app N4 N10q
  refine own_step (fun _ k => st10.trans k) ?_
  show own_Fin p e below s _ _ _ (T10.setTop (mkF m 23 #[.val (.int p0), .val (.int p1), .val (.int p2), .val (.int p3), .val (.int p4), .val (.int ((3 : Int32) + (p3 &&& (3 : Int32)))), .val (.ref b1), .unset, .unset, .unset, .unset, .unset, .unset] [(.int (1 : Int32))]))
  refine own_step (fun _ k => XS.istore X10.here hx rfl (hb hby at_23) rfl (l' := #[.val (.int p0), .val (.int p1), .val (.int p2), .val (.int p3), .val (.int p4), .val (.int ((3 : Int32) + (p3 &&& (3 : Int32)))), .val (.ref b1), .val (.int (1 : Int32)), .unset, .unset, .unset, .unset, .unset]) rfl k) ?_
  show own_Fin p e below s _ _ _ (T10.setTop (mkF m 25 #[.val (.int p0), .val (.int p1), .val (.int p2), .val (.int p3), .val (.int p4), .val (.int ((3 : Int32) + (p3 &&& (3 : Int32)))), .val (.ref b1), .val (.int (1 : Int32)), .unset, .unset, .unset, .unset, .unset] []))
  refine own_step (fun _ k => XS.iload X10.here hx rfl (hb hby at_25) rfl k) ?_
  show own_Fin p e below s _ _ _ (T10.setTop (mkF m 27 #[.val (.int p0), .val (.int p1), .val (.int p2), .val (.int p3), .val (.int p4), .val (.int ((3 : Int32) + (p3 &&& (3 : Int32)))), .val (.ref b1), .val (.int (1 : Int32)), .unset, .unset, .unset, .unset, .unset] [(.int p4)]))
  refine own_step (fun _ k => XS.iconst X10.here hx rfl (hb hby at_27) k) ?_
  show own_Fin p e below s _ _ _ (T10.setTop (mkF m 28 #[.val (.int p0), .val (.int p1), .val (.int p2), .val (.int p3), .val (.int p4), .val (.int ((3 : Int32) + (p3 &&& (3 : Int32)))), .val (.ref b1), .val (.int (1 : Int32)), .unset, .unset, .unset, .unset, .unset] [(.int (1 : Int32)), (.int p4)]))
  refine own_step (fun _ k => XS.iand X10.here hx rfl (hb hby at_28) rfl k) ?_
  show own_Fin p e below s _ _ _ (T10.setTop (mkF m 29 #[.val (.int p0), .val (.int p1), .val (.int p2), .val (.int p3), .val (.int p4), .val (.int ((3 : Int32) + (p3 &&& (3 : Int32)))), .val (.ref b1), .val (.int (1 : Int32)), .unset, .unset, .unset, .unset, .unset] [(.int (p4 &&& (1 : Int32)))]))
  by_cases hc11 : (p4 &&& (1 : Int32)) = (0 : Int32)
  · refine own_step (fun _ k => XS.ifNo X10.here hx rfl (hb hby at_29) rfl ((if0 _ _).trans (teq hc11).2) k) ?_
    show own_Fin p e below s _ _ _ (T10.setTop (mkF m 32 #[.val (.int p0), .val (.int p1), .val (.int p2), .val (.int p3), .val (.int p4), .val (.int ((3 : Int32) + (p3 &&& (3 : Int32)))), .val (.ref b1), .val (.int (1 : Int32)), .unset, .unset, .unset, .unset, .unset] []))
    refine own_step (fun _ k => XS.aload X10.here hx rfl (hb hby at_32) rfl rfl k) ?_
    show own_Fin p e below s _ _ _ (T10.setTop (mkF m 34 #[.val (.int p0), .val (.int p1), .val (.int p2), .val (.int p3), .val (.int p4), .val (.int ((3 : Int32) + (p3 &&& (3 : Int32)))), .val (.ref b1), .val (.int (1 : Int32)), .unset, .unset, .unset, .unset, .unset] [(.ref b1)]))
    refine own_step (fun _ k => XS.iloadN X10.here hx rfl (hb hby at_34) rfl k) ?_
    show own_Fin p e below s _ _ _ (T10.setTop (mkF m 35 #[.val (.int p0), .val (.int p1), .val (.int p2), .val (.int p3), .val (.int p4), .val (.int ((3 : Int32) + (p3 &&& (3 : Int32)))), .val (.ref b1), .val (.int (1 : Int32)), .unset, .unset, .unset, .unset, .unset] [(.int p0), (.ref b1)]))
    obtain ⟨cq12, kq12, q12a, q12b, q12c⟩ := isOf hZ e10 G5
    obtain ⟨_, _, ⟨T12, L12, k12, n12⟩, -, X12, ⟨Lc12, hQ12, l12, y12, z12⟩, st12⟩ := X10.virtualBack hx (y := own_y2) (z := own_y2) hown (mvT hZ (own_w hw 19 rfl)) (mvT hZ (own_w hw 20 rfl)) (notFace_of_selects (args := #[]) (mvT hZ (own_w hw 22 rfl))) (mvT hZ (own_w hw 22 rfl)) (mvT hZ (own_w hw 21 rfl)) (by decide) (backOf (W := 0) (own_rm6 l Z a0 hw [] b1 p0 b4_o0 ko0_4 ((0 : Int32)) ((0 : Int32)) ((0 : Int32)) (((3 : Int32) + (p3 &&& (3 : Int32)))) T4.heap n0 Z4 G5 G7 G6 G8 (show ¬ (((3 : Int32) + (p3 &&& (3 : Int32))) < (3 : Int32)) from hcap3) gg4_o0 ne4_o0_b1 gg1 (Ne.symm ne4_o0_b1)) hZ (own_w hw 23 rfl) (own_w hw 2 rfl) (by decide) (by decide)) q12a q12c (g := (mkF m 35 #[.val (.int p0), .val (.int p1), .val (.int p2), .val (.int p3), .val (.int p4), .val (.int ((3 : Int32) + (p3 &&& (3 : Int32)))), .val (.ref b1), .val (.int (1 : Int32)), .unset, .unset, .unset, .unset, .unset] [(.int p0), (.ref b1)])) rfl (by rw [hml]; rfl) (Steps.refl _) (argsL := [(.int p0)]) (rest := []) (lenOf own_pd0 rfl) rfl (by show 2 * 0 + _ ≤ _; exact Nat.le_of_eq rfl) (hb hby at_35) (fun _ _ => ⟨rfl, e10, (by decide : 2 + 0 ≤ _), (by decide : 8 + 0 ≤ _)⟩)
    dsimp only [Pt.U, Pt.locs, Pt.cells, Pt.slots] at X12 l12 y12 z12 st12 hQ12
    subst l12 y12 z12
    obtain ⟨N12q, K12q, rfl, G13, G14, G15, G16⟩ := hQ12
    have N12 := Fr.app N10 N12q
    have K12 : Keep h0 T12.heap [] := K4.trans K12q (allS (P := fun x => x ∈ [] ∨ h0.size ≤ x) (Or.inr sy4_o0) (allS (P := fun x => x ∈ [] ∨ h0.size ≤ x) (Or.inr sz1) all0))
    have Z12 : n0 ≤ T12.heap.size := Nat.le_trans Z4 K12q.1
    have G17 := (G5.keep K12q)
    refine own_step (fun _ k => st12.trans k) ?_
    show own_Fin p e below s _ _ _ (T12.setTop (mkF m 38 #[.val (.int p0), .val (.int p1), .val (.int p2), .val (.int p3), .val (.int p4), .val (.int ((3 : Int32) + (p3 &&& (3 : Int32)))), .val (.ref b1), .val (.int (1 : Int32)), .unset, .unset, .unset, .unset, .unset] []))
    refine own_step (fun _ k => XS.iload X12.here hx rfl (hb hby at_38) rfl k) ?_
    show own_Fin p e below s _ _ _ (T12.setTop (mkF m 40 #[.val (.int p0), .val (.int p1), .val (.int p2), .val (.int p3), .val (.int p4), .val (.int ((3 : Int32) + (p3 &&& (3 : Int32)))), .val (.ref b1), .val (.int (1 : Int32)), .unset, .unset, .unset, .unset, .unset] [(.int (1 : Int32))]))
    refine own_step (fun _ k => XS.ifNo X12.here hx rfl (hb hby at_40) rfl ((if0 _ _).trans (feq (by decide : ¬ ((1 : Int32) = (0 : Int32)))).1) k) ?_
    show own_Fin p e below s _ _ _ (T12.setTop (mkF m 43 #[.val (.int p0), .val (.int p1), .val (.int p2), .val (.int p3), .val (.int p4), .val (.int ((3 : Int32) + (p3 &&& (3 : Int32)))), .val (.ref b1), .val (.int (1 : Int32)), .unset, .unset, .unset, .unset, .unset] []))
    refine own_step (fun _ k => XS.aload X12.here hx rfl (hb hby at_43) rfl rfl k) ?_
    show own_Fin p e below s _ _ _ (T12.setTop (mkF m 45 #[.val (.int p0), .val (.int p1), .val (.int p2), .val (.int p3), .val (.int p4), .val (.int ((3 : Int32) + (p3 &&& (3 : Int32)))), .val (.ref b1), .val (.int (1 : Int32)), .unset, .unset, .unset, .unset, .unset] [(.ref b1)]))
    obtain ⟨cq18, kq18, q18a, q18b, q18c⟩ := isOf hZ rfl G14
    obtain ⟨_, _, ⟨T18, L18, k18, n18⟩, -, X18, ⟨Lc18, hQ18, l18, y18, z18⟩, st18⟩ := X12.virtualBack hx (y := own_y1) (z := own_y1) hown (mvT hZ (own_w hw 12 rfl)) (mvT hZ (own_w hw 13 rfl)) (notFace_of_selects (args := #[]) (mvT hZ (own_w hw 15 rfl))) (mvT hZ (own_w hw 15 rfl)) (mvT hZ (own_w hw 14 rfl)) (by decide) (backOf (W := 0) (own_rm3 l Z a0 hw [] b1 T12.heap n0 Z12 G16) hZ (own_w hw 16 rfl) (own_w hw 2 rfl) (by decide) (by decide)) q18a q18c (g := (mkF m 45 #[.val (.int p0), .val (.int p1), .val (.int p2), .val (.int p3), .val (.int p4), .val (.int ((3 : Int32) + (p3 &&& (3 : Int32)))), .val (.ref b1), .val (.int (1 : Int32)), .unset, .unset, .unset, .unset, .unset] [(.ref b1)])) rfl (by rw [hml]; rfl) (Steps.refl _) (argsL := []) (rest := []) (lenOf own_pd1 rfl) rfl (by show 2 * 0 + _ ≤ _; exact Nat.le_of_eq rfl) (hb hby at_45) (fun _ _ => ⟨rfl, rfl, (by decide : 2 + 0 ≤ _), (by decide : 8 + 0 ≤ _)⟩)
    dsimp only [Pt.U, Pt.locs, Pt.cells, Pt.slots] at X18 l18 y18 z18 st18 hQ18
    subst l18 y18 z18
    obtain ⟨rfl, N18q, e18⟩ := hQ18
    have N18 := Fr.app N12 N18q
    refine own_step (fun _ k => st18.trans k) ?_
    show own_Fin p e below s _ _ _ (T18.setTop (mkF m 48 #[.val (.int p0), .val (.int p1), .val (.int p2), .val (.int p3), .val (.int p4), .val (.int ((3 : Int32) + (p3 &&& (3 : Int32)))), .val (.ref b1), .val (.int (1 : Int32)), .unset, .unset, .unset, .unset, .unset] [(.int (0 : Int32))]))
    refine own_step (fun _ k => XS.ifNo X18.here hx rfl (hb hby at_48) rfl ((if0 _ _).trans (teq (by decide : (0 : Int32) = (0 : Int32))).2) k) ?_
    show own_Fin p e below s _ _ _ (T18.setTop (mkF m 51 #[.val (.int p0), .val (.int p1), .val (.int p2), .val (.int p3), .val (.int p4), .val (.int ((3 : Int32) + (p3 &&& (3 : Int32)))), .val (.ref b1), .val (.int (1 : Int32)), .unset, .unset, .unset, .unset, .unset] []))
    refine own_step (fun _ k => XS.iconst X18.here hx rfl (hb hby at_51) k) ?_
    show own_Fin p e below s _ _ _ (T18.setTop (mkF m 52 #[.val (.int p0), .val (.int p1), .val (.int p2), .val (.int p3), .val (.int p4), .val (.int ((3 : Int32) + (p3 &&& (3 : Int32)))), .val (.ref b1), .val (.int (1 : Int32)), .unset, .unset, .unset, .unset, .unset] [(.int (1 : Int32))]))
    refine own_step (fun _ k => XS.goto X18.here hx rfl (pc0 := 52) (pc' := 56) rfl (hb hby at_52) (by decide) (by decide) k) ?_
    show own_Fin p e below s _ _ _ (T18.setTop (mkF m 56 #[.val (.int p0), .val (.int p1), .val (.int p2), .val (.int p3), .val (.int p4), .val (.int ((3 : Int32) + (p3 &&& (3 : Int32)))), .val (.ref b1), .val (.int (1 : Int32)), .unset, .unset, .unset, .unset, .unset] [(.int (1 : Int32))]))
    refine own_step (fun _ k => XS.istore X18.here hx rfl (hb hby at_56) rfl (l' := #[.val (.int p0), .val (.int p1), .val (.int p2), .val (.int p3), .val (.int p4), .val (.int ((3 : Int32) + (p3 &&& (3 : Int32)))), .val (.ref b1), .val (.int (1 : Int32)), .unset, .unset, .unset, .unset, .unset]) rfl k) ?_
    show own_Fin p e below s _ _ _ (T18.setTop (mkF m 58 #[.val (.int p0), .val (.int p1), .val (.int p2), .val (.int p3), .val (.int p4), .val (.int ((3 : Int32) + (p3 &&& (3 : Int32)))), .val (.ref b1), .val (.int (1 : Int32)), .unset, .unset, .unset, .unset, .unset] []))
    refine own_step (fun _ k => XS.aload X18.here hx rfl (hb hby at_58) rfl rfl k) ?_
    show own_Fin p e below s _ _ _ (T18.setTop (mkF m 60 #[.val (.int p0), .val (.int p1), .val (.int p2), .val (.int p3), .val (.int p4), .val (.int ((3 : Int32) + (p3 &&& (3 : Int32)))), .val (.ref b1), .val (.int (1 : Int32)), .unset, .unset, .unset, .unset, .unset] [(.ref b1)]))
    refine own_step (fun _ k => XS.iloadN X18.here hx rfl (hb hby at_60) rfl k) ?_
    show own_Fin p e below s _ _ _ (T18.setTop (mkF m 61 #[.val (.int p0), .val (.int p1), .val (.int p2), .val (.int p3), .val (.int p4), .val (.int ((3 : Int32) + (p3 &&& (3 : Int32)))), .val (.ref b1), .val (.int (1 : Int32)), .unset, .unset, .unset, .unset, .unset] [(.int p1), (.ref b1)]))
    obtain ⟨cq19, kq19, q19a, q19b, q19c⟩ := isOf hZ e18 G14
    obtain ⟨_, _, ⟨T19, L19, k19, n19⟩, -, X19, ⟨Lc19, hQ19, l19, y19, z19⟩, st19⟩ := X18.virtualBack hx (y := own_y2) (z := own_y2) hown (mvT hZ (own_w hw 19 rfl)) (mvT hZ (own_w hw 20 rfl)) (notFace_of_selects (args := #[]) (mvT hZ (own_w hw 22 rfl))) (mvT hZ (own_w hw 22 rfl)) (mvT hZ (own_w hw 21 rfl)) (by decide) (backOf (W := 0) (own_rm7 l Z a0 hw [] b1 p1 b4_o0 ko0_4 p0 ((0 : Int32)) ((0 : Int32)) (((3 : Int32) + (p3 &&& (3 : Int32)))) T12.heap n0 Z12 G14 G15 G16 G13 (show ¬ (((3 : Int32) + (p3 &&& (3 : Int32))) < (3 : Int32)) from hcap3) gg4_o0 ne4_o0_b1 gg1 (Ne.symm ne4_o0_b1)) hZ (own_w hw 23 rfl) (own_w hw 2 rfl) (by decide) (by decide)) q19a q19c (g := (mkF m 61 #[.val (.int p0), .val (.int p1), .val (.int p2), .val (.int p3), .val (.int p4), .val (.int ((3 : Int32) + (p3 &&& (3 : Int32)))), .val (.ref b1), .val (.int (1 : Int32)), .unset, .unset, .unset, .unset, .unset] [(.int p1), (.ref b1)])) rfl (by rw [hml]; rfl) (Steps.refl _) (argsL := [(.int p1)]) (rest := []) (lenOf own_pd0 rfl) rfl (by show 2 * 0 + _ ≤ _; exact Nat.le_of_eq rfl) (hb hby at_61) (fun _ _ => ⟨rfl, e18, (by decide : 2 + 0 ≤ _), (by decide : 8 + 0 ≤ _)⟩)
    dsimp only [Pt.U, Pt.locs, Pt.cells, Pt.slots] at X19 l19 y19 z19 st19 hQ19
    subst l19 y19 z19
    obtain ⟨N19q, K19q, rfl, G20, G21, G22, G23⟩ := hQ19
    have N19 := Fr.app N18 N19q
    have K19 : Keep h0 T19.heap [] := K12.trans K19q (allS (P := fun x => x ∈ [] ∨ h0.size ≤ x) (Or.inr sy4_o0) (allS (P := fun x => x ∈ [] ∨ h0.size ≤ x) (Or.inr sz1) all0))
    have Z19 : n0 ≤ T19.heap.size := Nat.le_trans Z12 K19q.1
    have G24 := (G14.keep K19q)
    refine own_step (fun _ k => st19.trans k) ?_
    show own_Fin p e below s _ _ _ (T19.setTop (mkF m 64 #[.val (.int p0), .val (.int p1), .val (.int p2), .val (.int p3), .val (.int p4), .val (.int ((3 : Int32) + (p3 &&& (3 : Int32)))), .val (.ref b1), .val (.int (1 : Int32)), .unset, .unset, .unset, .unset, .unset] []))
    refine own_step (fun _ k => XS.aload X19.here hx rfl (hb hby at_64) rfl rfl k) ?_
    show own_Fin p e below s _ _ _ (T19.setTop (mkF m 66 #[.val (.int p0), .val (.int p1), .val (.int p2), .val (.int p3), .val (.int p4), .val (.int ((3 : Int32) + (p3 &&& (3 : Int32)))), .val (.ref b1), .val (.int (1 : Int32)), .unset, .unset, .unset, .unset, .unset] [(.ref b1)]))
    refine own_step (fun _ k => XS.iloadN X19.here hx rfl (hb hby at_66) rfl k) ?_
    show own_Fin p e below s _ _ _ (T19.setTop (mkF m 67 #[.val (.int p0), .val (.int p1), .val (.int p2), .val (.int p3), .val (.int p4), .val (.int ((3 : Int32) + (p3 &&& (3 : Int32)))), .val (.ref b1), .val (.int (1 : Int32)), .unset, .unset, .unset, .unset, .unset] [(.int p2), (.ref b1)]))
    obtain ⟨cq25, kq25, q25a, q25b, q25c⟩ := isOf hZ rfl G21
    obtain ⟨_, _, ⟨T25, L25, k25, n25⟩, -, X25, ⟨Lc25, hQ25, l25, y25, z25⟩, st25⟩ := X19.virtualBack hx (y := own_y2) (z := own_y2) hown (mvT hZ (own_w hw 19 rfl)) (mvT hZ (own_w hw 20 rfl)) (notFace_of_selects (args := #[]) (mvT hZ (own_w hw 22 rfl))) (mvT hZ (own_w hw 22 rfl)) (mvT hZ (own_w hw 21 rfl)) (by decide) (backOf (W := 0) (own_rm8 l Z a0 hw [] b1 p2 b4_o0 ko0_4 p0 p1 ((0 : Int32)) (((3 : Int32) + (p3 &&& (3 : Int32)))) T19.heap n0 Z19 G21 G22 G23 G20 (show ¬ (((3 : Int32) + (p3 &&& (3 : Int32))) < (3 : Int32)) from hcap3) gg4_o0 ne4_o0_b1 gg1 (Ne.symm ne4_o0_b1)) hZ (own_w hw 23 rfl) (own_w hw 2 rfl) (by decide) (by decide)) q25a q25c (g := (mkF m 67 #[.val (.int p0), .val (.int p1), .val (.int p2), .val (.int p3), .val (.int p4), .val (.int ((3 : Int32) + (p3 &&& (3 : Int32)))), .val (.ref b1), .val (.int (1 : Int32)), .unset, .unset, .unset, .unset, .unset] [(.int p2), (.ref b1)])) rfl (by rw [hml]; rfl) (Steps.refl _) (argsL := [(.int p2)]) (rest := []) (lenOf own_pd0 rfl) rfl (by show 2 * 0 + _ ≤ _; exact Nat.le_of_eq rfl) (hb hby at_67) (fun _ _ => ⟨rfl, rfl, (by decide : 2 + 0 ≤ _), (by decide : 8 + 0 ≤ _)⟩)
    dsimp only [Pt.U, Pt.locs, Pt.cells, Pt.slots] at X25 l25 y25 z25 st25 hQ25
    subst l25 y25 z25
    obtain ⟨N25q, K25q, rfl, G26, G27, G28, G29⟩ := hQ25
    have N25 := Fr.app N19 N25q
    have K25 : Keep h0 T25.heap [] := K19.trans K25q (allS (P := fun x => x ∈ [] ∨ h0.size ≤ x) (Or.inr sy4_o0) (allS (P := fun x => x ∈ [] ∨ h0.size ≤ x) (Or.inr sz1) all0))
    have Z25 : n0 ≤ T25.heap.size := Nat.le_trans Z19 K25q.1
    have G30 := (G21.keep K25q)
    refine own_step (fun _ k => st25.trans k) ?_
    show own_Fin p e below s _ _ _ (T25.setTop (mkF m 70 #[.val (.int p0), .val (.int p1), .val (.int p2), .val (.int p3), .val (.int p4), .val (.int ((3 : Int32) + (p3 &&& (3 : Int32)))), .val (.ref b1), .val (.int (1 : Int32)), .unset, .unset, .unset, .unset, .unset] []))
    refine own_step (fun _ k => XS.aload X25.here hx rfl (hb hby at_70) rfl rfl k) ?_
    show own_Fin p e below s _ _ _ (T25.setTop (mkF m 72 #[.val (.int p0), .val (.int p1), .val (.int p2), .val (.int p3), .val (.int p4), .val (.int ((3 : Int32) + (p3 &&& (3 : Int32)))), .val (.ref b1), .val (.int (1 : Int32)), .unset, .unset, .unset, .unset, .unset] [(.ref b1)]))
    obtain ⟨cq31, kq31, q31a, q31b, q31c⟩ := isOf hZ rfl G27
    obtain ⟨_, _, ⟨T31, L31, k31, n31⟩, -, X31, ⟨Lc31, hQ31, l31, y31, z31⟩, st31⟩ := X25.virtualBack hx (y := own_y3) (z := own_y3) hown (mvT hZ (own_w hw 24 rfl)) (mvT hZ (own_w hw 25 rfl)) (notFace_of_selects (args := #[]) (mvT hZ (own_w hw 27 rfl))) (mvT hZ (own_w hw 27 rfl)) (mvT hZ (own_w hw 26 rfl)) (by decide) (backOf (W := 0) (own_rm11 l Z a0 hw [] b1 b4_o0 ko0_4 p0 p1 p2 (((3 : Int32) + (p3 &&& (3 : Int32)))) T25.heap n0 Z25 G27 G28 G29 G26 (show ¬ (((3 : Int32) + (p3 &&& (3 : Int32))) < (3 : Int32)) from hcap3) gg1 (Ne.symm ne4_o0_b1)) hZ (own_w hw 28 rfl) (own_w hw 2 rfl) (by decide) (by decide)) q31a q31c (g := (mkF m 72 #[.val (.int p0), .val (.int p1), .val (.int p2), .val (.int p3), .val (.int p4), .val (.int ((3 : Int32) + (p3 &&& (3 : Int32)))), .val (.ref b1), .val (.int (1 : Int32)), .unset, .unset, .unset, .unset, .unset] [(.ref b1)])) rfl (by rw [hml]; rfl) (Steps.refl _) (argsL := []) (rest := []) (lenOf own_pd2 rfl) rfl (by show 2 * 0 + _ ≤ _; exact Nat.le_of_eq rfl) (hb hby at_72) (fun _ _ => ⟨rfl, rfl, (by decide : 2 + 0 ≤ _), (by decide : 8 + 0 ≤ _)⟩)
    dsimp only [Pt.U, Pt.locs, Pt.cells, Pt.slots] at X31 l31 y31 z31 st31 hQ31
    subst l31 y31 z31
    obtain ⟨N31q, K31q, rfl, G32, G33, G34⟩ := hQ31
    have N31 := Fr.app N25 N31q
    have K31 : Keep h0 T31.heap [] := K25.trans K31q (allS (P := fun x => x ∈ [] ∨ h0.size ≤ x) (Or.inr sz1) all0)
    have Z31 : n0 ≤ T31.heap.size := Nat.le_trans Z25 K31q.1
    have G35 := (G27.keep K31q)
    have G36 := (G26.keep K31q (ninS (Ne.symm ne4_o0_b1) nin0))
    refine own_step (fun _ k => st31.trans k) ?_
    show own_Fin p e below s _ _ _ (T31.setTop (mkF m 75 #[.val (.int p0), .val (.int p1), .val (.int p2), .val (.int p3), .val (.int p4), .val (.int ((3 : Int32) + (p3 &&& (3 : Int32)))), .val (.ref b1), .val (.int (1 : Int32)), .unset, .unset, .unset, .unset, .unset] [(.int p2)]))
    refine own_step (fun _ k => XS.istore X31.here hx rfl (hb hby at_75) rfl (l' := #[.val (.int p0), .val (.int p1), .val (.int p2), .val (.int p3), .val (.int p4), .val (.int ((3 : Int32) + (p3 &&& (3 : Int32)))), .val (.ref b1), .val (.int (1 : Int32)), .val (.int p2), .unset, .unset, .unset, .unset]) rfl k) ?_
    show own_Fin p e below s _ _ _ (T31.setTop (mkF m 77 #[.val (.int p0), .val (.int p1), .val (.int p2), .val (.int p3), .val (.int p4), .val (.int ((3 : Int32) + (p3 &&& (3 : Int32)))), .val (.ref b1), .val (.int (1 : Int32)), .val (.int p2), .unset, .unset, .unset, .unset] []))
    refine own_step (fun _ k => XS.aload X31.here hx rfl (hb hby at_77) rfl rfl k) ?_
    show own_Fin p e below s _ _ _ (T31.setTop (mkF m 79 #[.val (.int p0), .val (.int p1), .val (.int p2), .val (.int p3), .val (.int p4), .val (.int ((3 : Int32) + (p3 &&& (3 : Int32)))), .val (.ref b1), .val (.int (1 : Int32)), .val (.int p2), .unset, .unset, .unset, .unset] [(.ref b1)]))
    obtain ⟨cq37, kq37, q37a, q37b, q37c⟩ := isOf hZ rfl G32
    obtain ⟨_, _, ⟨T37, L37, k37, n37⟩, -, X37, ⟨Lc37, hQ37, l37, y37, z37⟩, st37⟩ := X31.virtualBack hx (y := own_y3) (z := own_y3) hown (mvT hZ (own_w hw 24 rfl)) (mvT hZ (own_w hw 25 rfl)) (notFace_of_selects (args := #[]) (mvT hZ (own_w hw 27 rfl))) (mvT hZ (own_w hw 27 rfl)) (mvT hZ (own_w hw 26 rfl)) (by decide) (backOf (W := 0) (own_rm10 l Z a0 hw [] b1 b4_o0 ko0_4 p0 p1 p2 (((3 : Int32) + (p3 &&& (3 : Int32)))) T31.heap n0 Z31 G32 G33 G34 G36 (show ¬ (((3 : Int32) + (p3 &&& (3 : Int32))) < (3 : Int32)) from hcap3) gg1 (Ne.symm ne4_o0_b1)) hZ (own_w hw 28 rfl) (own_w hw 2 rfl) (by decide) (by decide)) q37a q37c (g := (mkF m 79 #[.val (.int p0), .val (.int p1), .val (.int p2), .val (.int p3), .val (.int p4), .val (.int ((3 : Int32) + (p3 &&& (3 : Int32)))), .val (.ref b1), .val (.int (1 : Int32)), .val (.int p2), .unset, .unset, .unset, .unset] [(.ref b1)])) rfl (by rw [hml]; rfl) (Steps.refl _) (argsL := []) (rest := []) (lenOf own_pd2 rfl) rfl (by show 2 * 0 + _ ≤ _; exact Nat.le_of_eq rfl) (hb hby at_79) (fun _ _ => ⟨rfl, rfl, (by decide : 2 + 0 ≤ _), (by decide : 8 + 0 ≤ _)⟩)
    dsimp only [Pt.U, Pt.locs, Pt.cells, Pt.slots] at X37 l37 y37 z37 st37 hQ37
    subst l37 y37 z37
    obtain ⟨N37q, K37q, rfl, G38, G39, G40⟩ := hQ37
    have N37 := Fr.app N31 N37q
    have K37 : Keep h0 T37.heap [] := K31.trans K37q (allS (P := fun x => x ∈ [] ∨ h0.size ≤ x) (Or.inr sz1) all0)
    have Z37 : n0 ≤ T37.heap.size := Nat.le_trans Z31 K37q.1
    have G41 := (G32.keep K37q)
    have G42 := (G36.keep K37q (ninS (Ne.symm ne4_o0_b1) nin0))
    refine own_step (fun _ k => st37.trans k) ?_
    show own_Fin p e below s _ _ _ (T37.setTop (mkF m 82 #[.val (.int p0), .val (.int p1), .val (.int p2), .val (.int p3), .val (.int p4), .val (.int ((3 : Int32) + (p3 &&& (3 : Int32)))), .val (.ref b1), .val (.int (1 : Int32)), .val (.int p2), .unset, .unset, .unset, .unset] [(.int p1)]))
    refine own_step (fun _ k => XS.istore X37.here hx rfl (hb hby at_82) rfl (l' := #[.val (.int p0), .val (.int p1), .val (.int p2), .val (.int p3), .val (.int p4), .val (.int ((3 : Int32) + (p3 &&& (3 : Int32)))), .val (.ref b1), .val (.int (1 : Int32)), .val (.int p2), .val (.int p1), .unset, .unset, .unset]) rfl k) ?_
    show own_Fin p e below s _ _ _ (T37.setTop (mkF m 84 #[.val (.int p0), .val (.int p1), .val (.int p2), .val (.int p3), .val (.int p4), .val (.int ((3 : Int32) + (p3 &&& (3 : Int32)))), .val (.ref b1), .val (.int (1 : Int32)), .val (.int p2), .val (.int p1), .unset, .unset, .unset] []))
    refine own_step (fun _ k => XS.aload X37.here hx rfl (hb hby at_84) rfl rfl k) ?_
    show own_Fin p e below s _ _ _ (T37.setTop (mkF m 86 #[.val (.int p0), .val (.int p1), .val (.int p2), .val (.int p3), .val (.int p4), .val (.int ((3 : Int32) + (p3 &&& (3 : Int32)))), .val (.ref b1), .val (.int (1 : Int32)), .val (.int p2), .val (.int p1), .unset, .unset, .unset] [(.ref b1)]))
    obtain ⟨cq43, kq43, q43a, q43b, q43c⟩ := isOf hZ rfl G38
    obtain ⟨_, _, ⟨T43, L43, k43, n43⟩, -, X43, ⟨Lc43, hQ43, l43, y43, z43⟩, st43⟩ := X37.virtualBack hx (y := own_y1) (z := own_y1) hown (mvT hZ (own_w hw 12 rfl)) (mvT hZ (own_w hw 13 rfl)) (notFace_of_selects (args := #[]) (mvT hZ (own_w hw 15 rfl))) (mvT hZ (own_w hw 15 rfl)) (mvT hZ (own_w hw 14 rfl)) (by decide) (backOf (W := 0) (own_rm3 l Z a0 hw [] b1 T37.heap n0 Z37 G40) hZ (own_w hw 16 rfl) (own_w hw 2 rfl) (by decide) (by decide)) q43a q43c (g := (mkF m 86 #[.val (.int p0), .val (.int p1), .val (.int p2), .val (.int p3), .val (.int p4), .val (.int ((3 : Int32) + (p3 &&& (3 : Int32)))), .val (.ref b1), .val (.int (1 : Int32)), .val (.int p2), .val (.int p1), .unset, .unset, .unset] [(.ref b1)])) rfl (by rw [hml]; rfl) (Steps.refl _) (argsL := []) (rest := []) (lenOf own_pd1 rfl) rfl (by show 2 * 0 + _ ≤ _; exact Nat.le_of_eq rfl) (hb hby at_86) (fun _ _ => ⟨rfl, rfl, (by decide : 2 + 0 ≤ _), (by decide : 8 + 0 ≤ _)⟩)
    dsimp only [Pt.U, Pt.locs, Pt.cells, Pt.slots] at X43 l43 y43 z43 st43 hQ43
    subst l43 y43 z43
    obtain ⟨rfl, N43q, e43⟩ := hQ43
    have N43 := Fr.app N37 N43q
    refine own_step (fun _ k => st43.trans k) ?_
    show own_Fin p e below s _ _ _ (T43.setTop (mkF m 89 #[.val (.int p0), .val (.int p1), .val (.int p2), .val (.int p3), .val (.int p4), .val (.int ((3 : Int32) + (p3 &&& (3 : Int32)))), .val (.ref b1), .val (.int (1 : Int32)), .val (.int p2), .val (.int p1), .unset, .unset, .unset] [(.int (0 : Int32))]))
    refine own_step (fun _ k => XS.ifNo X43.here hx rfl (hb hby at_89) rfl ((if0 _ _).trans (teq (by decide : (0 : Int32) = (0 : Int32))).2) k) ?_
    show own_Fin p e below s _ _ _ (T43.setTop (mkF m 92 #[.val (.int p0), .val (.int p1), .val (.int p2), .val (.int p3), .val (.int p4), .val (.int ((3 : Int32) + (p3 &&& (3 : Int32)))), .val (.ref b1), .val (.int (1 : Int32)), .val (.int p2), .val (.int p1), .unset, .unset, .unset] []))
    refine own_step (fun _ k => XS.iconst X43.here hx rfl (hb hby at_92) k) ?_
    show own_Fin p e below s _ _ _ (T43.setTop (mkF m 93 #[.val (.int p0), .val (.int p1), .val (.int p2), .val (.int p3), .val (.int p4), .val (.int ((3 : Int32) + (p3 &&& (3 : Int32)))), .val (.ref b1), .val (.int (1 : Int32)), .val (.int p2), .val (.int p1), .unset, .unset, .unset] [(.int (1 : Int32))]))
    refine own_step (fun _ k => XS.goto X43.here hx rfl (pc0 := 93) (pc' := 97) rfl (hb hby at_93) (by decide) (by decide) k) ?_
    show own_Fin p e below s _ _ _ (T43.setTop (mkF m 97 #[.val (.int p0), .val (.int p1), .val (.int p2), .val (.int p3), .val (.int p4), .val (.int ((3 : Int32) + (p3 &&& (3 : Int32)))), .val (.ref b1), .val (.int (1 : Int32)), .val (.int p2), .val (.int p1), .unset, .unset, .unset] [(.int (1 : Int32))]))
    refine own_step (fun _ k => XS.istore X43.here hx rfl (hb hby at_97) rfl (l' := #[.val (.int p0), .val (.int p1), .val (.int p2), .val (.int p3), .val (.int p4), .val (.int ((3 : Int32) + (p3 &&& (3 : Int32)))), .val (.ref b1), .val (.int (1 : Int32)), .val (.int p2), .val (.int p1), .val (.int (1 : Int32)), .unset, .unset]) rfl k) ?_
    show own_Fin p e below s _ _ _ (T43.setTop (mkF m 99 #[.val (.int p0), .val (.int p1), .val (.int p2), .val (.int p3), .val (.int p4), .val (.int ((3 : Int32) + (p3 &&& (3 : Int32)))), .val (.ref b1), .val (.int (1 : Int32)), .val (.int p2), .val (.int p1), .val (.int (1 : Int32)), .unset, .unset] []))
    refine own_step (fun _ k => XS.aload X43.here hx rfl (hb hby at_99) rfl rfl k) ?_
    show own_Fin p e below s _ _ _ (T43.setTop (mkF m 101 #[.val (.int p0), .val (.int p1), .val (.int p2), .val (.int p3), .val (.int p4), .val (.int ((3 : Int32) + (p3 &&& (3 : Int32)))), .val (.ref b1), .val (.int (1 : Int32)), .val (.int p2), .val (.int p1), .val (.int (1 : Int32)), .unset, .unset] [(.ref b1)]))
    obtain ⟨cq44, kq44, q44a, q44b, q44c⟩ := isOf hZ e43 G38
    obtain ⟨_, _, ⟨T44, L44, k44, n44⟩, -, X44, ⟨Lc44, hQ44, l44, y44, z44⟩, st44⟩ := X43.virtualBack hx (y := own_y3) (z := own_y3) hown (mvT hZ (own_w hw 24 rfl)) (mvT hZ (own_w hw 25 rfl)) (notFace_of_selects (args := #[]) (mvT hZ (own_w hw 27 rfl))) (mvT hZ (own_w hw 27 rfl)) (mvT hZ (own_w hw 26 rfl)) (by decide) (backOf (W := 0) (own_rm9 l Z a0 hw [] b1 b4_o0 ko0_4 p0 p1 p2 (((3 : Int32) + (p3 &&& (3 : Int32)))) T37.heap n0 Z37 G38 G39 G40 G42 (show ¬ (((3 : Int32) + (p3 &&& (3 : Int32))) < (3 : Int32)) from hcap3) gg1 (Ne.symm ne4_o0_b1)) hZ (own_w hw 28 rfl) (own_w hw 2 rfl) (by decide) (by decide)) q44a q44c (g := (mkF m 101 #[.val (.int p0), .val (.int p1), .val (.int p2), .val (.int p3), .val (.int p4), .val (.int ((3 : Int32) + (p3 &&& (3 : Int32)))), .val (.ref b1), .val (.int (1 : Int32)), .val (.int p2), .val (.int p1), .val (.int (1 : Int32)), .unset, .unset] [(.ref b1)])) rfl (by rw [hml]; rfl) (Steps.refl _) (argsL := []) (rest := []) (lenOf own_pd2 rfl) rfl (by show 2 * 0 + _ ≤ _; exact Nat.le_of_eq rfl) (hb hby at_101) (fun _ _ => ⟨rfl, e43, (by decide : 2 + 0 ≤ _), (by decide : 8 + 0 ≤ _)⟩)
    dsimp only [Pt.U, Pt.locs, Pt.cells, Pt.slots] at X44 l44 y44 z44 st44 hQ44
    subst l44 y44 z44
    obtain ⟨N44q, K44q, rfl, G45, G46, G47⟩ := hQ44
    have N44 := Fr.app N43 N44q
    have K44 : Keep h0 T44.heap [] := K37.trans K44q (allS (P := fun x => x ∈ [] ∨ h0.size ≤ x) (Or.inr sz1) all0)
    have Z44 : n0 ≤ T44.heap.size := Nat.le_trans Z37 K44q.1
    have G48 := (G38.keep K44q)
    have G49 := (G42.keep K44q (ninS (Ne.symm ne4_o0_b1) nin0))
    refine own_step (fun _ k => st44.trans k) ?_
    show own_Fin p e below s _ _ _ (T44.setTop (mkF m 104 #[.val (.int p0), .val (.int p1), .val (.int p2), .val (.int p3), .val (.int p4), .val (.int ((3 : Int32) + (p3 &&& (3 : Int32)))), .val (.ref b1), .val (.int (1 : Int32)), .val (.int p2), .val (.int p1), .val (.int (1 : Int32)), .unset, .unset] [(.int p0)]))
    refine own_step (fun _ k => XS.istore X44.here hx rfl (hb hby at_104) rfl (l' := #[.val (.int p0), .val (.int p1), .val (.int p2), .val (.int p3), .val (.int p4), .val (.int ((3 : Int32) + (p3 &&& (3 : Int32)))), .val (.ref b1), .val (.int (1 : Int32)), .val (.int p2), .val (.int p1), .val (.int (1 : Int32)), .val (.int p0), .unset]) rfl k) ?_
    show own_Fin p e below s _ _ _ (T44.setTop (mkF m 106 #[.val (.int p0), .val (.int p1), .val (.int p2), .val (.int p3), .val (.int p4), .val (.int ((3 : Int32) + (p3 &&& (3 : Int32)))), .val (.ref b1), .val (.int (1 : Int32)), .val (.int p2), .val (.int p1), .val (.int (1 : Int32)), .val (.int p0), .unset] []))
    refine own_step (fun _ k => XS.aload X44.here hx rfl (hb hby at_106) rfl rfl k) ?_
    show own_Fin p e below s _ _ _ (T44.setTop (mkF m 108 #[.val (.int p0), .val (.int p1), .val (.int p2), .val (.int p3), .val (.int p4), .val (.int ((3 : Int32) + (p3 &&& (3 : Int32)))), .val (.ref b1), .val (.int (1 : Int32)), .val (.int p2), .val (.int p1), .val (.int (1 : Int32)), .val (.int p0), .unset] [(.ref b1)]))
    obtain ⟨cq50, kq50, q50a, q50b, q50c⟩ := isOf hZ rfl G45
    obtain ⟨_, _, ⟨T50, L50, k50, n50⟩, -, X50, ⟨Lc50, hQ50, l50, y50, z50⟩, st50⟩ := X44.virtualBack hx (y := own_y1) (z := own_y1) hown (mvT hZ (own_w hw 12 rfl)) (mvT hZ (own_w hw 13 rfl)) (notFace_of_selects (args := #[]) (mvT hZ (own_w hw 15 rfl))) (mvT hZ (own_w hw 15 rfl)) (mvT hZ (own_w hw 14 rfl)) (by decide) (backOf (W := 0) (own_rm2 l Z a0 hw [] b1 T44.heap n0 Z44 G47) hZ (own_w hw 16 rfl) (own_w hw 2 rfl) (by decide) (by decide)) q50a q50c (g := (mkF m 108 #[.val (.int p0), .val (.int p1), .val (.int p2), .val (.int p3), .val (.int p4), .val (.int ((3 : Int32) + (p3 &&& (3 : Int32)))), .val (.ref b1), .val (.int (1 : Int32)), .val (.int p2), .val (.int p1), .val (.int (1 : Int32)), .val (.int p0), .unset] [(.ref b1)])) rfl (by rw [hml]; rfl) (Steps.refl _) (argsL := []) (rest := []) (lenOf own_pd1 rfl) rfl (by show 2 * 0 + _ ≤ _; exact Nat.le_of_eq rfl) (hb hby at_108) (fun _ _ => ⟨rfl, rfl, (by decide : 2 + 0 ≤ _), (by decide : 8 + 0 ≤ _)⟩)
    dsimp only [Pt.U, Pt.locs, Pt.cells, Pt.slots] at X50 l50 y50 z50 st50 hQ50
    subst l50 y50 z50
    obtain ⟨rfl, N50q, e50⟩ := hQ50
    have N50 := Fr.app N44 N50q
    refine own_step (fun _ k => st50.trans k) ?_
    show own_Fin p e below s _ _ _ (T50.setTop (mkF m 111 #[.val (.int p0), .val (.int p1), .val (.int p2), .val (.int p3), .val (.int p4), .val (.int ((3 : Int32) + (p3 &&& (3 : Int32)))), .val (.ref b1), .val (.int (1 : Int32)), .val (.int p2), .val (.int p1), .val (.int (1 : Int32)), .val (.int p0), .unset] [(.int (1 : Int32))]))
    refine own_step (fun _ k => XS.istore X50.here hx rfl (hb hby at_111) rfl (l' := #[.val (.int p0), .val (.int p1), .val (.int p2), .val (.int p3), .val (.int p4), .val (.int ((3 : Int32) + (p3 &&& (3 : Int32)))), .val (.ref b1), .val (.int (1 : Int32)), .val (.int p2), .val (.int p1), .val (.int (1 : Int32)), .val (.int p0), .val (.int (1 : Int32))]) rfl k) ?_
    show own_Fin p e below s _ _ _ (T50.setTop (mkF m 113 #[.val (.int p0), .val (.int p1), .val (.int p2), .val (.int p3), .val (.int p4), .val (.int ((3 : Int32) + (p3 &&& (3 : Int32)))), .val (.ref b1), .val (.int (1 : Int32)), .val (.int p2), .val (.int p1), .val (.int (1 : Int32)), .val (.int p0), .val (.int (1 : Int32))] []))
    refine own_step (fun _ k => XS.iload X50.here hx rfl (hb hby at_113) rfl k) ?_
    show own_Fin p e below s _ _ _ (T50.setTop (mkF m 115 #[.val (.int p0), .val (.int p1), .val (.int p2), .val (.int p3), .val (.int p4), .val (.int ((3 : Int32) + (p3 &&& (3 : Int32)))), .val (.ref b1), .val (.int (1 : Int32)), .val (.int p2), .val (.int p1), .val (.int (1 : Int32)), .val (.int p0), .val (.int (1 : Int32))] [(.int (1 : Int32))]))
    refine own_step (fun _ k => XS.ifNo X50.here hx rfl (hb hby at_115) rfl ((if0 _ _).trans (feq (by decide : ¬ ((1 : Int32) = (0 : Int32)))).1) k) ?_
    show own_Fin p e below s _ _ _ (T50.setTop (mkF m 118 #[.val (.int p0), .val (.int p1), .val (.int p2), .val (.int p3), .val (.int p4), .val (.int ((3 : Int32) + (p3 &&& (3 : Int32)))), .val (.ref b1), .val (.int (1 : Int32)), .val (.int p2), .val (.int p1), .val (.int (1 : Int32)), .val (.int p0), .val (.int (1 : Int32))] []))
    refine own_step (fun _ k => XS.iload X50.here hx rfl (hb hby at_118) rfl k) ?_
    show own_Fin p e below s _ _ _ (T50.setTop (mkF m 120 #[.val (.int p0), .val (.int p1), .val (.int p2), .val (.int p3), .val (.int p4), .val (.int ((3 : Int32) + (p3 &&& (3 : Int32)))), .val (.ref b1), .val (.int (1 : Int32)), .val (.int p2), .val (.int p1), .val (.int (1 : Int32)), .val (.int p0), .val (.int (1 : Int32))] [(.int p2)]))
    refine own_step (fun _ k => XS.iloadN X50.here hx rfl (hb hby at_120) rfl k) ?_
    show own_Fin p e below s _ _ _ (T50.setTop (mkF m 121 #[.val (.int p0), .val (.int p1), .val (.int p2), .val (.int p3), .val (.int p4), .val (.int ((3 : Int32) + (p3 &&& (3 : Int32)))), .val (.ref b1), .val (.int (1 : Int32)), .val (.int p2), .val (.int p1), .val (.int (1 : Int32)), .val (.int p0), .val (.int (1 : Int32))] [(.int p2), (.int p2)]))
    refine own_step (fun _ k => XS.icmpNo X50.here hx rfl (hb hby at_121) rfl (teq (rfl : p2 = p2)).2 k) ?_
    show own_Fin p e below s _ _ _ (T50.setTop (mkF m 124 #[.val (.int p0), .val (.int p1), .val (.int p2), .val (.int p3), .val (.int p4), .val (.int ((3 : Int32) + (p3 &&& (3 : Int32)))), .val (.ref b1), .val (.int (1 : Int32)), .val (.int p2), .val (.int p1), .val (.int (1 : Int32)), .val (.int p0), .val (.int (1 : Int32))] []))
    refine own_step (fun _ k => XS.iload X50.here hx rfl (hb hby at_124) rfl k) ?_
    show own_Fin p e below s _ _ _ (T50.setTop (mkF m 126 #[.val (.int p0), .val (.int p1), .val (.int p2), .val (.int p3), .val (.int p4), .val (.int ((3 : Int32) + (p3 &&& (3 : Int32)))), .val (.ref b1), .val (.int (1 : Int32)), .val (.int p2), .val (.int p1), .val (.int (1 : Int32)), .val (.int p0), .val (.int (1 : Int32))] [(.int p1)]))
    refine own_step (fun _ k => XS.iloadN X50.here hx rfl (hb hby at_126) rfl k) ?_
    show own_Fin p e below s _ _ _ (T50.setTop (mkF m 127 #[.val (.int p0), .val (.int p1), .val (.int p2), .val (.int p3), .val (.int p4), .val (.int ((3 : Int32) + (p3 &&& (3 : Int32)))), .val (.ref b1), .val (.int (1 : Int32)), .val (.int p2), .val (.int p1), .val (.int (1 : Int32)), .val (.int p0), .val (.int (1 : Int32))] [(.int p1), (.int p1)]))
    refine own_step (fun _ k => XS.icmpNo X50.here hx rfl (hb hby at_127) rfl (teq (rfl : p1 = p1)).2 k) ?_
    show own_Fin p e below s _ _ _ (T50.setTop (mkF m 130 #[.val (.int p0), .val (.int p1), .val (.int p2), .val (.int p3), .val (.int p4), .val (.int ((3 : Int32) + (p3 &&& (3 : Int32)))), .val (.ref b1), .val (.int (1 : Int32)), .val (.int p2), .val (.int p1), .val (.int (1 : Int32)), .val (.int p0), .val (.int (1 : Int32))] []))
    refine own_step (fun _ k => XS.iload X50.here hx rfl (hb hby at_130) rfl k) ?_
    show own_Fin p e below s _ _ _ (T50.setTop (mkF m 132 #[.val (.int p0), .val (.int p1), .val (.int p2), .val (.int p3), .val (.int p4), .val (.int ((3 : Int32) + (p3 &&& (3 : Int32)))), .val (.ref b1), .val (.int (1 : Int32)), .val (.int p2), .val (.int p1), .val (.int (1 : Int32)), .val (.int p0), .val (.int (1 : Int32))] [(.int (1 : Int32))]))
    refine own_step (fun _ k => XS.ifNo X50.here hx rfl (hb hby at_132) rfl ((if0 _ _).trans (feq (by decide : ¬ ((1 : Int32) = (0 : Int32)))).1) k) ?_
    show own_Fin p e below s _ _ _ (T50.setTop (mkF m 135 #[.val (.int p0), .val (.int p1), .val (.int p2), .val (.int p3), .val (.int p4), .val (.int ((3 : Int32) + (p3 &&& (3 : Int32)))), .val (.ref b1), .val (.int (1 : Int32)), .val (.int p2), .val (.int p1), .val (.int (1 : Int32)), .val (.int p0), .val (.int (1 : Int32))] []))
    refine own_step (fun _ k => XS.iload X50.here hx rfl (hb hby at_135) rfl k) ?_
    show own_Fin p e below s _ _ _ (T50.setTop (mkF m 137 #[.val (.int p0), .val (.int p1), .val (.int p2), .val (.int p3), .val (.int p4), .val (.int ((3 : Int32) + (p3 &&& (3 : Int32)))), .val (.ref b1), .val (.int (1 : Int32)), .val (.int p2), .val (.int p1), .val (.int (1 : Int32)), .val (.int p0), .val (.int (1 : Int32))] [(.int p0)]))
    refine own_step (fun _ k => XS.iloadN X50.here hx rfl (hb hby at_137) rfl k) ?_
    show own_Fin p e below s _ _ _ (T50.setTop (mkF m 138 #[.val (.int p0), .val (.int p1), .val (.int p2), .val (.int p3), .val (.int p4), .val (.int ((3 : Int32) + (p3 &&& (3 : Int32)))), .val (.ref b1), .val (.int (1 : Int32)), .val (.int p2), .val (.int p1), .val (.int (1 : Int32)), .val (.int p0), .val (.int (1 : Int32))] [(.int p0), (.int p0)]))
    refine own_step (fun _ k => XS.icmpNo X50.here hx rfl (hb hby at_138) rfl (teq (rfl : p0 = p0)).2 k) ?_
    show own_Fin p e below s _ _ _ (T50.setTop (mkF m 141 #[.val (.int p0), .val (.int p1), .val (.int p2), .val (.int p3), .val (.int p4), .val (.int ((3 : Int32) + (p3 &&& (3 : Int32)))), .val (.ref b1), .val (.int (1 : Int32)), .val (.int p2), .val (.int p1), .val (.int (1 : Int32)), .val (.int p0), .val (.int (1 : Int32))] []))
    refine own_step (fun _ k => XS.iload X50.here hx rfl (hb hby at_141) rfl k) ?_
    show own_Fin p e below s _ _ _ (T50.setTop (mkF m 143 #[.val (.int p0), .val (.int p1), .val (.int p2), .val (.int p3), .val (.int p4), .val (.int ((3 : Int32) + (p3 &&& (3 : Int32)))), .val (.ref b1), .val (.int (1 : Int32)), .val (.int p2), .val (.int p1), .val (.int (1 : Int32)), .val (.int p0), .val (.int (1 : Int32))] [(.int (1 : Int32))]))
    refine own_step (fun _ k => XS.ifNo X50.here hx rfl (hb hby at_143) rfl ((if0 _ _).trans (feq (by decide : ¬ ((1 : Int32) = (0 : Int32)))).1) k) ?_
    show own_Fin p e below s _ _ _ (T50.setTop (mkF m 146 #[.val (.int p0), .val (.int p1), .val (.int p2), .val (.int p3), .val (.int p4), .val (.int ((3 : Int32) + (p3 &&& (3 : Int32)))), .val (.ref b1), .val (.int (1 : Int32)), .val (.int p2), .val (.int p1), .val (.int (1 : Int32)), .val (.int p0), .val (.int (1 : Int32))] []))
    refine own_step (fun _ k => XS.iconst X50.here hx rfl (hb hby at_146) k) ?_
    show own_Fin p e below s _ _ _ (T50.setTop (mkF m 147 #[.val (.int p0), .val (.int p1), .val (.int p2), .val (.int p3), .val (.int p4), .val (.int ((3 : Int32) + (p3 &&& (3 : Int32)))), .val (.ref b1), .val (.int (1 : Int32)), .val (.int p2), .val (.int p1), .val (.int (1 : Int32)), .val (.int p0), .val (.int (1 : Int32))] [(.int (1 : Int32))]))
    refine own_step (fun _ k => XS.goto X50.here hx rfl (pc0 := 147) (pc' := 151) rfl (hb hby at_147) (by decide) (by decide) k) ?_
    show own_Fin p e below s _ _ _ (T50.setTop (mkF m 151 #[.val (.int p0), .val (.int p1), .val (.int p2), .val (.int p3), .val (.int p4), .val (.int ((3 : Int32) + (p3 &&& (3 : Int32)))), .val (.ref b1), .val (.int (1 : Int32)), .val (.int p2), .val (.int p1), .val (.int (1 : Int32)), .val (.int p0), .val (.int (1 : Int32))] [(.int (1 : Int32))]))
    refine own_step (fun _ k => XS.istore X50.here hx rfl (hb hby at_151) rfl (l' := #[.val (.int p0), .val (.int p1), .val (.int p2), .val (.int p3), .val (.int p4), .val (.int ((3 : Int32) + (p3 &&& (3 : Int32)))), .val (.ref b1), .val (.int (1 : Int32)), .val (.int p2), .val (.int p1), .val (.int (1 : Int32)), .val (.int p0), .val (.int (1 : Int32))]) rfl k) ?_
    show own_Fin p e below s _ _ _ (T50.setTop (mkF m 153 #[.val (.int p0), .val (.int p1), .val (.int p2), .val (.int p3), .val (.int p4), .val (.int ((3 : Int32) + (p3 &&& (3 : Int32)))), .val (.ref b1), .val (.int (1 : Int32)), .val (.int p2), .val (.int p1), .val (.int (1 : Int32)), .val (.int p0), .val (.int (1 : Int32))] []))
    refine own_step (fun _ k => XS.goto X50.here hx rfl (pc0 := 153) (pc' := 257) rfl (hb hby at_153) (by decide) (by decide) k) ?_
    show own_Fin p e below s _ _ _ (T50.setTop (mkF m 257 #[.val (.int p0), .val (.int p1), .val (.int p2), .val (.int p3), .val (.int p4), .val (.int ((3 : Int32) + (p3 &&& (3 : Int32)))), .val (.ref b1), .val (.int (1 : Int32)), .val (.int p2), .val (.int p1), .val (.int (1 : Int32)), .val (.int p0), .val (.int (1 : Int32))] []))
    refine own_step (fun _ k => XS.iload X50.here hx rfl (hb hby at_257) rfl k) ?_
    show own_Fin p e below s _ _ _ (T50.setTop (mkF m 259 #[.val (.int p0), .val (.int p1), .val (.int p2), .val (.int p3), .val (.int p4), .val (.int ((3 : Int32) + (p3 &&& (3 : Int32)))), .val (.ref b1), .val (.int (1 : Int32)), .val (.int p2), .val (.int p1), .val (.int (1 : Int32)), .val (.int p0), .val (.int (1 : Int32))] [(.int (1 : Int32))]))
    exact own_ret X50 hlk (v := some (.int (1 : Int32))) (fun h => by rw [Bd.returns] at h; cases h) (by decide) (by decide) (by show own_Q12 Z p0 p1 p2 p3 p4 h0 n0 _ T50.heap _; rw [e50]; exact ⟨rfl, N50⟩) (fun fs hr => retN X50 hx (t := .boolean) Bd.returns (by simp) (hb hby at_259) hr)
  · refine own_step (fun _ k => XS.ifYes X10.here hx rfl (pc0 := 29) (pc' := 156) rfl (hb hby at_29) rfl ((if0 _ _).trans (feq hc11).2) (by decide) (by decide) k) ?_
    show own_Fin p e below s _ _ _ (T10.setTop (mkF m 156 #[.val (.int p0), .val (.int p1), .val (.int p2), .val (.int p3), .val (.int p4), .val (.int ((3 : Int32) + (p3 &&& (3 : Int32)))), .val (.ref b1), .val (.int (1 : Int32)), .unset, .unset, .unset, .unset, .unset] []))
    refine own_step (fun _ k => XS.aload X10.here hx rfl (hb hby at_156) rfl rfl k) ?_
    show own_Fin p e below s _ _ _ (T10.setTop (mkF m 158 #[.val (.int p0), .val (.int p1), .val (.int p2), .val (.int p3), .val (.int p4), .val (.int ((3 : Int32) + (p3 &&& (3 : Int32)))), .val (.ref b1), .val (.int (1 : Int32)), .unset, .unset, .unset, .unset, .unset] [(.ref b1)]))
    refine own_step (fun _ k => XS.iloadN X10.here hx rfl (hb hby at_158) rfl k) ?_
    show own_Fin p e below s _ _ _ (T10.setTop (mkF m 159 #[.val (.int p0), .val (.int p1), .val (.int p2), .val (.int p3), .val (.int p4), .val (.int ((3 : Int32) + (p3 &&& (3 : Int32)))), .val (.ref b1), .val (.int (1 : Int32)), .unset, .unset, .unset, .unset, .unset] [(.int p0), (.ref b1)]))
    obtain ⟨cq51, kq51, q51a, q51b, q51c⟩ := isOf hZ e10 G5
    obtain ⟨_, _, ⟨T51, L51, k51, n51⟩, -, X51, ⟨Lc51, hQ51, l51, y51, z51⟩, st51⟩ := X10.virtualBack hx (y := own_y2) (z := own_y2) hown (mvT hZ (own_w hw 19 rfl)) (mvT hZ (own_w hw 20 rfl)) (notFace_of_selects (args := #[]) (mvT hZ (own_w hw 22 rfl))) (mvT hZ (own_w hw 22 rfl)) (mvT hZ (own_w hw 21 rfl)) (by decide) (backOf (W := 0) (own_rm6 l Z a0 hw [] b1 p0 b4_o0 ko0_4 ((0 : Int32)) ((0 : Int32)) ((0 : Int32)) (((3 : Int32) + (p3 &&& (3 : Int32)))) T4.heap n0 Z4 G5 G7 G6 G8 (show ¬ (((3 : Int32) + (p3 &&& (3 : Int32))) < (3 : Int32)) from hcap3) gg4_o0 ne4_o0_b1 gg1 (Ne.symm ne4_o0_b1)) hZ (own_w hw 23 rfl) (own_w hw 2 rfl) (by decide) (by decide)) q51a q51c (g := (mkF m 159 #[.val (.int p0), .val (.int p1), .val (.int p2), .val (.int p3), .val (.int p4), .val (.int ((3 : Int32) + (p3 &&& (3 : Int32)))), .val (.ref b1), .val (.int (1 : Int32)), .unset, .unset, .unset, .unset, .unset] [(.int p0), (.ref b1)])) rfl (by rw [hml]; rfl) (Steps.refl _) (argsL := [(.int p0)]) (rest := []) (lenOf own_pd0 rfl) rfl (by show 2 * 0 + _ ≤ _; exact Nat.le_of_eq rfl) (hb hby at_159) (fun _ _ => ⟨rfl, e10, (by decide : 2 + 0 ≤ _), (by decide : 8 + 0 ≤ _)⟩)
    dsimp only [Pt.U, Pt.locs, Pt.cells, Pt.slots] at X51 l51 y51 z51 st51 hQ51
    subst l51 y51 z51
    obtain ⟨N51q, K51q, rfl, G52, G53, G54, G55⟩ := hQ51
    have N51 := Fr.app N10 N51q
    have K51 : Keep h0 T51.heap [] := K4.trans K51q (allS (P := fun x => x ∈ [] ∨ h0.size ≤ x) (Or.inr sy4_o0) (allS (P := fun x => x ∈ [] ∨ h0.size ≤ x) (Or.inr sz1) all0))
    have Z51 : n0 ≤ T51.heap.size := Nat.le_trans Z4 K51q.1
    have G56 := (G5.keep K51q)
    refine own_step (fun _ k => st51.trans k) ?_
    show own_Fin p e below s _ _ _ (T51.setTop (mkF m 162 #[.val (.int p0), .val (.int p1), .val (.int p2), .val (.int p3), .val (.int p4), .val (.int ((3 : Int32) + (p3 &&& (3 : Int32)))), .val (.ref b1), .val (.int (1 : Int32)), .unset, .unset, .unset, .unset, .unset] []))
    refine own_step (fun _ k => XS.aload X51.here hx rfl (hb hby at_162) rfl rfl k) ?_
    show own_Fin p e below s _ _ _ (T51.setTop (mkF m 164 #[.val (.int p0), .val (.int p1), .val (.int p2), .val (.int p3), .val (.int p4), .val (.int ((3 : Int32) + (p3 &&& (3 : Int32)))), .val (.ref b1), .val (.int (1 : Int32)), .unset, .unset, .unset, .unset, .unset] [(.ref b1)]))
    refine own_step (fun _ k => XS.iloadN X51.here hx rfl (hb hby at_164) rfl k) ?_
    show own_Fin p e below s _ _ _ (T51.setTop (mkF m 165 #[.val (.int p0), .val (.int p1), .val (.int p2), .val (.int p3), .val (.int p4), .val (.int ((3 : Int32) + (p3 &&& (3 : Int32)))), .val (.ref b1), .val (.int (1 : Int32)), .unset, .unset, .unset, .unset, .unset] [(.int p1), (.ref b1)]))
    obtain ⟨cq57, kq57, q57a, q57b, q57c⟩ := isOf hZ rfl G53
    obtain ⟨_, _, ⟨T57, L57, k57, n57⟩, -, X57, ⟨Lc57, hQ57, l57, y57, z57⟩, st57⟩ := X51.virtualBack hx (y := own_y2) (z := own_y2) hown (mvT hZ (own_w hw 19 rfl)) (mvT hZ (own_w hw 20 rfl)) (notFace_of_selects (args := #[]) (mvT hZ (own_w hw 22 rfl))) (mvT hZ (own_w hw 22 rfl)) (mvT hZ (own_w hw 21 rfl)) (by decide) (backOf (W := 0) (own_rm7 l Z a0 hw [] b1 p1 b4_o0 ko0_4 p0 ((0 : Int32)) ((0 : Int32)) (((3 : Int32) + (p3 &&& (3 : Int32)))) T51.heap n0 Z51 G53 G54 G55 G52 (show ¬ (((3 : Int32) + (p3 &&& (3 : Int32))) < (3 : Int32)) from hcap3) gg4_o0 ne4_o0_b1 gg1 (Ne.symm ne4_o0_b1)) hZ (own_w hw 23 rfl) (own_w hw 2 rfl) (by decide) (by decide)) q57a q57c (g := (mkF m 165 #[.val (.int p0), .val (.int p1), .val (.int p2), .val (.int p3), .val (.int p4), .val (.int ((3 : Int32) + (p3 &&& (3 : Int32)))), .val (.ref b1), .val (.int (1 : Int32)), .unset, .unset, .unset, .unset, .unset] [(.int p1), (.ref b1)])) rfl (by rw [hml]; rfl) (Steps.refl _) (argsL := [(.int p1)]) (rest := []) (lenOf own_pd0 rfl) rfl (by show 2 * 0 + _ ≤ _; exact Nat.le_of_eq rfl) (hb hby at_165) (fun _ _ => ⟨rfl, rfl, (by decide : 2 + 0 ≤ _), (by decide : 8 + 0 ≤ _)⟩)
    dsimp only [Pt.U, Pt.locs, Pt.cells, Pt.slots] at X57 l57 y57 z57 st57 hQ57
    subst l57 y57 z57
    obtain ⟨N57q, K57q, rfl, G58, G59, G60, G61⟩ := hQ57
    have N57 := Fr.app N51 N57q
    have K57 : Keep h0 T57.heap [] := K51.trans K57q (allS (P := fun x => x ∈ [] ∨ h0.size ≤ x) (Or.inr sy4_o0) (allS (P := fun x => x ∈ [] ∨ h0.size ≤ x) (Or.inr sz1) all0))
    have Z57 : n0 ≤ T57.heap.size := Nat.le_trans Z51 K57q.1
    have G62 := (G53.keep K57q)
    refine own_step (fun _ k => st57.trans k) ?_
    show own_Fin p e below s _ _ _ (T57.setTop (mkF m 168 #[.val (.int p0), .val (.int p1), .val (.int p2), .val (.int p3), .val (.int p4), .val (.int ((3 : Int32) + (p3 &&& (3 : Int32)))), .val (.ref b1), .val (.int (1 : Int32)), .unset, .unset, .unset, .unset, .unset] []))
    refine own_step (fun _ k => XS.aload X57.here hx rfl (hb hby at_168) rfl rfl k) ?_
    show own_Fin p e below s _ _ _ (T57.setTop (mkF m 170 #[.val (.int p0), .val (.int p1), .val (.int p2), .val (.int p3), .val (.int p4), .val (.int ((3 : Int32) + (p3 &&& (3 : Int32)))), .val (.ref b1), .val (.int (1 : Int32)), .unset, .unset, .unset, .unset, .unset] [(.ref b1)]))
    obtain ⟨cq63, kq63, q63a, q63b, q63c⟩ := isOf hZ rfl G59
    obtain ⟨_, _, ⟨T63, L63, k63, n63⟩, -, X63, ⟨Lc63, hQ63, l63, y63, z63⟩, st63⟩ := X57.virtualBack hx (y := own_y3) (z := own_y3) hown (mvT hZ (own_w hw 24 rfl)) (mvT hZ (own_w hw 25 rfl)) (notFace_of_selects (args := #[]) (mvT hZ (own_w hw 27 rfl))) (mvT hZ (own_w hw 27 rfl)) (mvT hZ (own_w hw 26 rfl)) (by decide) (backOf (W := 0) (own_rm10 l Z a0 hw [] b1 b4_o0 ko0_4 p0 p1 ((0 : Int32)) (((3 : Int32) + (p3 &&& (3 : Int32)))) T57.heap n0 Z57 G59 G60 G61 G58 (show ¬ (((3 : Int32) + (p3 &&& (3 : Int32))) < (3 : Int32)) from hcap3) gg1 (Ne.symm ne4_o0_b1)) hZ (own_w hw 28 rfl) (own_w hw 2 rfl) (by decide) (by decide)) q63a q63c (g := (mkF m 170 #[.val (.int p0), .val (.int p1), .val (.int p2), .val (.int p3), .val (.int p4), .val (.int ((3 : Int32) + (p3 &&& (3 : Int32)))), .val (.ref b1), .val (.int (1 : Int32)), .unset, .unset, .unset, .unset, .unset] [(.ref b1)])) rfl (by rw [hml]; rfl) (Steps.refl _) (argsL := []) (rest := []) (lenOf own_pd2 rfl) rfl (by show 2 * 0 + _ ≤ _; exact Nat.le_of_eq rfl) (hb hby at_170) (fun _ _ => ⟨rfl, rfl, (by decide : 2 + 0 ≤ _), (by decide : 8 + 0 ≤ _)⟩)
    dsimp only [Pt.U, Pt.locs, Pt.cells, Pt.slots] at X63 l63 y63 z63 st63 hQ63
    subst l63 y63 z63
    obtain ⟨N63q, K63q, rfl, G64, G65, G66⟩ := hQ63
    have N63 := Fr.app N57 N63q
    have K63 : Keep h0 T63.heap [] := K57.trans K63q (allS (P := fun x => x ∈ [] ∨ h0.size ≤ x) (Or.inr sz1) all0)
    have Z63 : n0 ≤ T63.heap.size := Nat.le_trans Z57 K63q.1
    have G67 := (G59.keep K63q)
    have G68 := (G58.keep K63q (ninS (Ne.symm ne4_o0_b1) nin0))
    refine own_step (fun _ k => st63.trans k) ?_
    show own_Fin p e below s _ _ _ (T63.setTop (mkF m 173 #[.val (.int p0), .val (.int p1), .val (.int p2), .val (.int p3), .val (.int p4), .val (.int ((3 : Int32) + (p3 &&& (3 : Int32)))), .val (.ref b1), .val (.int (1 : Int32)), .unset, .unset, .unset, .unset, .unset] [(.int p1)]))
    refine own_step (fun _ k => XS.istore X63.here hx rfl (hb hby at_173) rfl (l' := #[.val (.int p0), .val (.int p1), .val (.int p2), .val (.int p3), .val (.int p4), .val (.int ((3 : Int32) + (p3 &&& (3 : Int32)))), .val (.ref b1), .val (.int (1 : Int32)), .val (.int p1), .unset, .unset, .unset, .unset]) rfl k) ?_
    show own_Fin p e below s _ _ _ (T63.setTop (mkF m 175 #[.val (.int p0), .val (.int p1), .val (.int p2), .val (.int p3), .val (.int p4), .val (.int ((3 : Int32) + (p3 &&& (3 : Int32)))), .val (.ref b1), .val (.int (1 : Int32)), .val (.int p1), .unset, .unset, .unset, .unset] []))
    refine own_step (fun _ k => XS.aload X63.here hx rfl (hb hby at_175) rfl rfl k) ?_
    show own_Fin p e below s _ _ _ (T63.setTop (mkF m 177 #[.val (.int p0), .val (.int p1), .val (.int p2), .val (.int p3), .val (.int p4), .val (.int ((3 : Int32) + (p3 &&& (3 : Int32)))), .val (.ref b1), .val (.int (1 : Int32)), .val (.int p1), .unset, .unset, .unset, .unset] [(.ref b1)]))
    obtain ⟨cq69, kq69, q69a, q69b, q69c⟩ := isOf hZ rfl G64
    obtain ⟨_, _, ⟨T69, L69, k69, n69⟩, -, X69, ⟨Lc69, hQ69, l69, y69, z69⟩, st69⟩ := X63.virtualBack hx (y := own_y1) (z := own_y1) hown (mvT hZ (own_w hw 12 rfl)) (mvT hZ (own_w hw 13 rfl)) (notFace_of_selects (args := #[]) (mvT hZ (own_w hw 15 rfl))) (mvT hZ (own_w hw 15 rfl)) (mvT hZ (own_w hw 14 rfl)) (by decide) (backOf (W := 0) (own_rm3 l Z a0 hw [] b1 T63.heap n0 Z63 G66) hZ (own_w hw 16 rfl) (own_w hw 2 rfl) (by decide) (by decide)) q69a q69c (g := (mkF m 177 #[.val (.int p0), .val (.int p1), .val (.int p2), .val (.int p3), .val (.int p4), .val (.int ((3 : Int32) + (p3 &&& (3 : Int32)))), .val (.ref b1), .val (.int (1 : Int32)), .val (.int p1), .unset, .unset, .unset, .unset] [(.ref b1)])) rfl (by rw [hml]; rfl) (Steps.refl _) (argsL := []) (rest := []) (lenOf own_pd1 rfl) rfl (by show 2 * 0 + _ ≤ _; exact Nat.le_of_eq rfl) (hb hby at_177) (fun _ _ => ⟨rfl, rfl, (by decide : 2 + 0 ≤ _), (by decide : 8 + 0 ≤ _)⟩)
    dsimp only [Pt.U, Pt.locs, Pt.cells, Pt.slots] at X69 l69 y69 z69 st69 hQ69
    subst l69 y69 z69
    obtain ⟨rfl, N69q, e69⟩ := hQ69
    have N69 := Fr.app N63 N69q
    refine own_step (fun _ k => st69.trans k) ?_
    show own_Fin p e below s _ _ _ (T69.setTop (mkF m 180 #[.val (.int p0), .val (.int p1), .val (.int p2), .val (.int p3), .val (.int p4), .val (.int ((3 : Int32) + (p3 &&& (3 : Int32)))), .val (.ref b1), .val (.int (1 : Int32)), .val (.int p1), .unset, .unset, .unset, .unset] [(.int (0 : Int32))]))
    refine own_step (fun _ k => XS.ifNo X69.here hx rfl (hb hby at_180) rfl ((if0 _ _).trans (teq (by decide : (0 : Int32) = (0 : Int32))).2) k) ?_
    show own_Fin p e below s _ _ _ (T69.setTop (mkF m 183 #[.val (.int p0), .val (.int p1), .val (.int p2), .val (.int p3), .val (.int p4), .val (.int ((3 : Int32) + (p3 &&& (3 : Int32)))), .val (.ref b1), .val (.int (1 : Int32)), .val (.int p1), .unset, .unset, .unset, .unset] []))
    refine own_step (fun _ k => XS.iconst X69.here hx rfl (hb hby at_183) k) ?_
    show own_Fin p e below s _ _ _ (T69.setTop (mkF m 184 #[.val (.int p0), .val (.int p1), .val (.int p2), .val (.int p3), .val (.int p4), .val (.int ((3 : Int32) + (p3 &&& (3 : Int32)))), .val (.ref b1), .val (.int (1 : Int32)), .val (.int p1), .unset, .unset, .unset, .unset] [(.int (1 : Int32))]))
    refine own_step (fun _ k => XS.goto X69.here hx rfl (pc0 := 184) (pc' := 188) rfl (hb hby at_184) (by decide) (by decide) k) ?_
    show own_Fin p e below s _ _ _ (T69.setTop (mkF m 188 #[.val (.int p0), .val (.int p1), .val (.int p2), .val (.int p3), .val (.int p4), .val (.int ((3 : Int32) + (p3 &&& (3 : Int32)))), .val (.ref b1), .val (.int (1 : Int32)), .val (.int p1), .unset, .unset, .unset, .unset] [(.int (1 : Int32))]))
    refine own_step (fun _ k => XS.istore X69.here hx rfl (hb hby at_188) rfl (l' := #[.val (.int p0), .val (.int p1), .val (.int p2), .val (.int p3), .val (.int p4), .val (.int ((3 : Int32) + (p3 &&& (3 : Int32)))), .val (.ref b1), .val (.int (1 : Int32)), .val (.int p1), .val (.int (1 : Int32)), .unset, .unset, .unset]) rfl k) ?_
    show own_Fin p e below s _ _ _ (T69.setTop (mkF m 190 #[.val (.int p0), .val (.int p1), .val (.int p2), .val (.int p3), .val (.int p4), .val (.int ((3 : Int32) + (p3 &&& (3 : Int32)))), .val (.ref b1), .val (.int (1 : Int32)), .val (.int p1), .val (.int (1 : Int32)), .unset, .unset, .unset] []))
    refine own_step (fun _ k => XS.aload X69.here hx rfl (hb hby at_190) rfl rfl k) ?_
    show own_Fin p e below s _ _ _ (T69.setTop (mkF m 192 #[.val (.int p0), .val (.int p1), .val (.int p2), .val (.int p3), .val (.int p4), .val (.int ((3 : Int32) + (p3 &&& (3 : Int32)))), .val (.ref b1), .val (.int (1 : Int32)), .val (.int p1), .val (.int (1 : Int32)), .unset, .unset, .unset] [(.ref b1)]))
    refine own_step (fun _ k => XS.iloadN X69.here hx rfl (hb hby at_192) rfl k) ?_
    show own_Fin p e below s _ _ _ (T69.setTop (mkF m 193 #[.val (.int p0), .val (.int p1), .val (.int p2), .val (.int p3), .val (.int p4), .val (.int ((3 : Int32) + (p3 &&& (3 : Int32)))), .val (.ref b1), .val (.int (1 : Int32)), .val (.int p1), .val (.int (1 : Int32)), .unset, .unset, .unset] [(.int p2), (.ref b1)]))
    obtain ⟨cq70, kq70, q70a, q70b, q70c⟩ := isOf hZ e69 G64
    obtain ⟨_, _, ⟨T70, L70, k70, n70⟩, -, X70, ⟨Lc70, hQ70, l70, y70, z70⟩, st70⟩ := X69.virtualBack hx (y := own_y2) (z := own_y2) hown (mvT hZ (own_w hw 19 rfl)) (mvT hZ (own_w hw 20 rfl)) (notFace_of_selects (args := #[]) (mvT hZ (own_w hw 22 rfl))) (mvT hZ (own_w hw 22 rfl)) (mvT hZ (own_w hw 21 rfl)) (by decide) (backOf (W := 0) (own_rm7 l Z a0 hw [] b1 p2 b4_o0 ko0_4 p0 p1 ((0 : Int32)) (((3 : Int32) + (p3 &&& (3 : Int32)))) T63.heap n0 Z63 G64 G65 G66 G68 (show ¬ (((3 : Int32) + (p3 &&& (3 : Int32))) < (3 : Int32)) from hcap3) gg4_o0 ne4_o0_b1 gg1 (Ne.symm ne4_o0_b1)) hZ (own_w hw 23 rfl) (own_w hw 2 rfl) (by decide) (by decide)) q70a q70c (g := (mkF m 193 #[.val (.int p0), .val (.int p1), .val (.int p2), .val (.int p3), .val (.int p4), .val (.int ((3 : Int32) + (p3 &&& (3 : Int32)))), .val (.ref b1), .val (.int (1 : Int32)), .val (.int p1), .val (.int (1 : Int32)), .unset, .unset, .unset] [(.int p2), (.ref b1)])) rfl (by rw [hml]; rfl) (Steps.refl _) (argsL := [(.int p2)]) (rest := []) (lenOf own_pd0 rfl) rfl (by show 2 * 0 + _ ≤ _; exact Nat.le_of_eq rfl) (hb hby at_193) (fun _ _ => ⟨rfl, e69, (by decide : 2 + 0 ≤ _), (by decide : 8 + 0 ≤ _)⟩)
    dsimp only [Pt.U, Pt.locs, Pt.cells, Pt.slots] at X70 l70 y70 z70 st70 hQ70
    subst l70 y70 z70
    obtain ⟨N70q, K70q, rfl, G71, G72, G73, G74⟩ := hQ70
    have N70 := Fr.app N69 N70q
    have K70 : Keep h0 T70.heap [] := K63.trans K70q (allS (P := fun x => x ∈ [] ∨ h0.size ≤ x) (Or.inr sy4_o0) (allS (P := fun x => x ∈ [] ∨ h0.size ≤ x) (Or.inr sz1) all0))
    have Z70 : n0 ≤ T70.heap.size := Nat.le_trans Z63 K70q.1
    have G75 := (G64.keep K70q)
    refine own_step (fun _ k => st70.trans k) ?_
    show own_Fin p e below s _ _ _ (T70.setTop (mkF m 196 #[.val (.int p0), .val (.int p1), .val (.int p2), .val (.int p3), .val (.int p4), .val (.int ((3 : Int32) + (p3 &&& (3 : Int32)))), .val (.ref b1), .val (.int (1 : Int32)), .val (.int p1), .val (.int (1 : Int32)), .unset, .unset, .unset] []))
    refine own_step (fun _ k => XS.aload X70.here hx rfl (hb hby at_196) rfl rfl k) ?_
    show own_Fin p e below s _ _ _ (T70.setTop (mkF m 198 #[.val (.int p0), .val (.int p1), .val (.int p2), .val (.int p3), .val (.int p4), .val (.int ((3 : Int32) + (p3 &&& (3 : Int32)))), .val (.ref b1), .val (.int (1 : Int32)), .val (.int p1), .val (.int (1 : Int32)), .unset, .unset, .unset] [(.ref b1)]))
    obtain ⟨cq76, kq76, q76a, q76b, q76c⟩ := isOf hZ rfl G72
    obtain ⟨_, _, ⟨T76, L76, k76, n76⟩, -, X76, ⟨Lc76, hQ76, l76, y76, z76⟩, st76⟩ := X70.virtualBack hx (y := own_y3) (z := own_y3) hown (mvT hZ (own_w hw 24 rfl)) (mvT hZ (own_w hw 25 rfl)) (notFace_of_selects (args := #[]) (mvT hZ (own_w hw 27 rfl))) (mvT hZ (own_w hw 27 rfl)) (mvT hZ (own_w hw 26 rfl)) (by decide) (backOf (W := 0) (own_rm10 l Z a0 hw [] b1 b4_o0 ko0_4 p0 p2 ((0 : Int32)) (((3 : Int32) + (p3 &&& (3 : Int32)))) T70.heap n0 Z70 G72 G73 G74 G71 (show ¬ (((3 : Int32) + (p3 &&& (3 : Int32))) < (3 : Int32)) from hcap3) gg1 (Ne.symm ne4_o0_b1)) hZ (own_w hw 28 rfl) (own_w hw 2 rfl) (by decide) (by decide)) q76a q76c (g := (mkF m 198 #[.val (.int p0), .val (.int p1), .val (.int p2), .val (.int p3), .val (.int p4), .val (.int ((3 : Int32) + (p3 &&& (3 : Int32)))), .val (.ref b1), .val (.int (1 : Int32)), .val (.int p1), .val (.int (1 : Int32)), .unset, .unset, .unset] [(.ref b1)])) rfl (by rw [hml]; rfl) (Steps.refl _) (argsL := []) (rest := []) (lenOf own_pd2 rfl) rfl (by show 2 * 0 + _ ≤ _; exact Nat.le_of_eq rfl) (hb hby at_198) (fun _ _ => ⟨rfl, rfl, (by decide : 2 + 0 ≤ _), (by decide : 8 + 0 ≤ _)⟩)
    dsimp only [Pt.U, Pt.locs, Pt.cells, Pt.slots] at X76 l76 y76 z76 st76 hQ76
    subst l76 y76 z76
    obtain ⟨N76q, K76q, rfl, G77, G78, G79⟩ := hQ76
    have N76 := Fr.app N70 N76q
    have K76 : Keep h0 T76.heap [] := K70.trans K76q (allS (P := fun x => x ∈ [] ∨ h0.size ≤ x) (Or.inr sz1) all0)
    have Z76 : n0 ≤ T76.heap.size := Nat.le_trans Z70 K76q.1
    have G80 := (G72.keep K76q)
    have G81 := (G71.keep K76q (ninS (Ne.symm ne4_o0_b1) nin0))
    refine own_step (fun _ k => st76.trans k) ?_
    show own_Fin p e below s _ _ _ (T76.setTop (mkF m 201 #[.val (.int p0), .val (.int p1), .val (.int p2), .val (.int p3), .val (.int p4), .val (.int ((3 : Int32) + (p3 &&& (3 : Int32)))), .val (.ref b1), .val (.int (1 : Int32)), .val (.int p1), .val (.int (1 : Int32)), .unset, .unset, .unset] [(.int p2)]))
    refine own_step (fun _ k => XS.istore X76.here hx rfl (hb hby at_201) rfl (l' := #[.val (.int p0), .val (.int p1), .val (.int p2), .val (.int p3), .val (.int p4), .val (.int ((3 : Int32) + (p3 &&& (3 : Int32)))), .val (.ref b1), .val (.int (1 : Int32)), .val (.int p1), .val (.int (1 : Int32)), .val (.int p2), .unset, .unset]) rfl k) ?_
    show own_Fin p e below s _ _ _ (T76.setTop (mkF m 203 #[.val (.int p0), .val (.int p1), .val (.int p2), .val (.int p3), .val (.int p4), .val (.int ((3 : Int32) + (p3 &&& (3 : Int32)))), .val (.ref b1), .val (.int (1 : Int32)), .val (.int p1), .val (.int (1 : Int32)), .val (.int p2), .unset, .unset] []))
    refine own_step (fun _ k => XS.aload X76.here hx rfl (hb hby at_203) rfl rfl k) ?_
    show own_Fin p e below s _ _ _ (T76.setTop (mkF m 205 #[.val (.int p0), .val (.int p1), .val (.int p2), .val (.int p3), .val (.int p4), .val (.int ((3 : Int32) + (p3 &&& (3 : Int32)))), .val (.ref b1), .val (.int (1 : Int32)), .val (.int p1), .val (.int (1 : Int32)), .val (.int p2), .unset, .unset] [(.ref b1)]))
    obtain ⟨cq82, kq82, q82a, q82b, q82c⟩ := isOf hZ rfl G77
    obtain ⟨_, _, ⟨T82, L82, k82, n82⟩, -, X82, ⟨Lc82, hQ82, l82, y82, z82⟩, st82⟩ := X76.virtualBack hx (y := own_y3) (z := own_y3) hown (mvT hZ (own_w hw 24 rfl)) (mvT hZ (own_w hw 25 rfl)) (notFace_of_selects (args := #[]) (mvT hZ (own_w hw 27 rfl))) (mvT hZ (own_w hw 27 rfl)) (mvT hZ (own_w hw 26 rfl)) (by decide) (backOf (W := 0) (own_rm9 l Z a0 hw [] b1 b4_o0 ko0_4 p0 p2 ((0 : Int32)) (((3 : Int32) + (p3 &&& (3 : Int32)))) T76.heap n0 Z76 G77 G78 G79 G81 (show ¬ (((3 : Int32) + (p3 &&& (3 : Int32))) < (3 : Int32)) from hcap3) gg1 (Ne.symm ne4_o0_b1)) hZ (own_w hw 28 rfl) (own_w hw 2 rfl) (by decide) (by decide)) q82a q82c (g := (mkF m 205 #[.val (.int p0), .val (.int p1), .val (.int p2), .val (.int p3), .val (.int p4), .val (.int ((3 : Int32) + (p3 &&& (3 : Int32)))), .val (.ref b1), .val (.int (1 : Int32)), .val (.int p1), .val (.int (1 : Int32)), .val (.int p2), .unset, .unset] [(.ref b1)])) rfl (by rw [hml]; rfl) (Steps.refl _) (argsL := []) (rest := []) (lenOf own_pd2 rfl) rfl (by show 2 * 0 + _ ≤ _; exact Nat.le_of_eq rfl) (hb hby at_205) (fun _ _ => ⟨rfl, rfl, (by decide : 2 + 0 ≤ _), (by decide : 8 + 0 ≤ _)⟩)
    dsimp only [Pt.U, Pt.locs, Pt.cells, Pt.slots] at X82 l82 y82 z82 st82 hQ82
    subst l82 y82 z82
    obtain ⟨N82q, K82q, rfl, G83, G84, G85⟩ := hQ82
    have N82 := Fr.app N76 N82q
    have K82 : Keep h0 T82.heap [] := K76.trans K82q (allS (P := fun x => x ∈ [] ∨ h0.size ≤ x) (Or.inr sz1) all0)
    have Z82 : n0 ≤ T82.heap.size := Nat.le_trans Z76 K82q.1
    have G86 := (G77.keep K82q)
    have G87 := (G81.keep K82q (ninS (Ne.symm ne4_o0_b1) nin0))
    refine own_step (fun _ k => st82.trans k) ?_
    show own_Fin p e below s _ _ _ (T82.setTop (mkF m 208 #[.val (.int p0), .val (.int p1), .val (.int p2), .val (.int p3), .val (.int p4), .val (.int ((3 : Int32) + (p3 &&& (3 : Int32)))), .val (.ref b1), .val (.int (1 : Int32)), .val (.int p1), .val (.int (1 : Int32)), .val (.int p2), .unset, .unset] [(.int p0)]))
    refine own_step (fun _ k => XS.istore X82.here hx rfl (hb hby at_208) rfl (l' := #[.val (.int p0), .val (.int p1), .val (.int p2), .val (.int p3), .val (.int p4), .val (.int ((3 : Int32) + (p3 &&& (3 : Int32)))), .val (.ref b1), .val (.int (1 : Int32)), .val (.int p1), .val (.int (1 : Int32)), .val (.int p2), .val (.int p0), .unset]) rfl k) ?_
    show own_Fin p e below s _ _ _ (T82.setTop (mkF m 210 #[.val (.int p0), .val (.int p1), .val (.int p2), .val (.int p3), .val (.int p4), .val (.int ((3 : Int32) + (p3 &&& (3 : Int32)))), .val (.ref b1), .val (.int (1 : Int32)), .val (.int p1), .val (.int (1 : Int32)), .val (.int p2), .val (.int p0), .unset] []))
    refine own_step (fun _ k => XS.aload X82.here hx rfl (hb hby at_210) rfl rfl k) ?_
    show own_Fin p e below s _ _ _ (T82.setTop (mkF m 212 #[.val (.int p0), .val (.int p1), .val (.int p2), .val (.int p3), .val (.int p4), .val (.int ((3 : Int32) + (p3 &&& (3 : Int32)))), .val (.ref b1), .val (.int (1 : Int32)), .val (.int p1), .val (.int (1 : Int32)), .val (.int p2), .val (.int p0), .unset] [(.ref b1)]))
    obtain ⟨cq88, kq88, q88a, q88b, q88c⟩ := isOf hZ rfl G83
    obtain ⟨_, _, ⟨T88, L88, k88, n88⟩, -, X88, ⟨Lc88, hQ88, l88, y88, z88⟩, st88⟩ := X82.virtualBack hx (y := own_y1) (z := own_y1) hown (mvT hZ (own_w hw 12 rfl)) (mvT hZ (own_w hw 13 rfl)) (notFace_of_selects (args := #[]) (mvT hZ (own_w hw 15 rfl))) (mvT hZ (own_w hw 15 rfl)) (mvT hZ (own_w hw 14 rfl)) (by decide) (backOf (W := 0) (own_rm2 l Z a0 hw [] b1 T82.heap n0 Z82 G85) hZ (own_w hw 16 rfl) (own_w hw 2 rfl) (by decide) (by decide)) q88a q88c (g := (mkF m 212 #[.val (.int p0), .val (.int p1), .val (.int p2), .val (.int p3), .val (.int p4), .val (.int ((3 : Int32) + (p3 &&& (3 : Int32)))), .val (.ref b1), .val (.int (1 : Int32)), .val (.int p1), .val (.int (1 : Int32)), .val (.int p2), .val (.int p0), .unset] [(.ref b1)])) rfl (by rw [hml]; rfl) (Steps.refl _) (argsL := []) (rest := []) (lenOf own_pd1 rfl) rfl (by show 2 * 0 + _ ≤ _; exact Nat.le_of_eq rfl) (hb hby at_212) (fun _ _ => ⟨rfl, rfl, (by decide : 2 + 0 ≤ _), (by decide : 8 + 0 ≤ _)⟩)
    dsimp only [Pt.U, Pt.locs, Pt.cells, Pt.slots] at X88 l88 y88 z88 st88 hQ88
    subst l88 y88 z88
    obtain ⟨rfl, N88q, e88⟩ := hQ88
    have N88 := Fr.app N82 N88q
    refine own_step (fun _ k => st88.trans k) ?_
    show own_Fin p e below s _ _ _ (T88.setTop (mkF m 215 #[.val (.int p0), .val (.int p1), .val (.int p2), .val (.int p3), .val (.int p4), .val (.int ((3 : Int32) + (p3 &&& (3 : Int32)))), .val (.ref b1), .val (.int (1 : Int32)), .val (.int p1), .val (.int (1 : Int32)), .val (.int p2), .val (.int p0), .unset] [(.int (1 : Int32))]))
    refine own_step (fun _ k => XS.istore X88.here hx rfl (hb hby at_215) rfl (l' := #[.val (.int p0), .val (.int p1), .val (.int p2), .val (.int p3), .val (.int p4), .val (.int ((3 : Int32) + (p3 &&& (3 : Int32)))), .val (.ref b1), .val (.int (1 : Int32)), .val (.int p1), .val (.int (1 : Int32)), .val (.int p2), .val (.int p0), .val (.int (1 : Int32))]) rfl k) ?_
    show own_Fin p e below s _ _ _ (T88.setTop (mkF m 217 #[.val (.int p0), .val (.int p1), .val (.int p2), .val (.int p3), .val (.int p4), .val (.int ((3 : Int32) + (p3 &&& (3 : Int32)))), .val (.ref b1), .val (.int (1 : Int32)), .val (.int p1), .val (.int (1 : Int32)), .val (.int p2), .val (.int p0), .val (.int (1 : Int32))] []))
    refine own_step (fun _ k => XS.iload X88.here hx rfl (hb hby at_217) rfl k) ?_
    show own_Fin p e below s _ _ _ (T88.setTop (mkF m 219 #[.val (.int p0), .val (.int p1), .val (.int p2), .val (.int p3), .val (.int p4), .val (.int ((3 : Int32) + (p3 &&& (3 : Int32)))), .val (.ref b1), .val (.int (1 : Int32)), .val (.int p1), .val (.int (1 : Int32)), .val (.int p2), .val (.int p0), .val (.int (1 : Int32))] [(.int (1 : Int32))]))
    refine own_step (fun _ k => XS.ifNo X88.here hx rfl (hb hby at_219) rfl ((if0 _ _).trans (feq (by decide : ¬ ((1 : Int32) = (0 : Int32)))).1) k) ?_
    show own_Fin p e below s _ _ _ (T88.setTop (mkF m 222 #[.val (.int p0), .val (.int p1), .val (.int p2), .val (.int p3), .val (.int p4), .val (.int ((3 : Int32) + (p3 &&& (3 : Int32)))), .val (.ref b1), .val (.int (1 : Int32)), .val (.int p1), .val (.int (1 : Int32)), .val (.int p2), .val (.int p0), .val (.int (1 : Int32))] []))
    refine own_step (fun _ k => XS.iload X88.here hx rfl (hb hby at_222) rfl k) ?_
    show own_Fin p e below s _ _ _ (T88.setTop (mkF m 224 #[.val (.int p0), .val (.int p1), .val (.int p2), .val (.int p3), .val (.int p4), .val (.int ((3 : Int32) + (p3 &&& (3 : Int32)))), .val (.ref b1), .val (.int (1 : Int32)), .val (.int p1), .val (.int (1 : Int32)), .val (.int p2), .val (.int p0), .val (.int (1 : Int32))] [(.int p1)]))
    refine own_step (fun _ k => XS.iloadN X88.here hx rfl (hb hby at_224) rfl k) ?_
    show own_Fin p e below s _ _ _ (T88.setTop (mkF m 225 #[.val (.int p0), .val (.int p1), .val (.int p2), .val (.int p3), .val (.int p4), .val (.int ((3 : Int32) + (p3 &&& (3 : Int32)))), .val (.ref b1), .val (.int (1 : Int32)), .val (.int p1), .val (.int (1 : Int32)), .val (.int p2), .val (.int p0), .val (.int (1 : Int32))] [(.int p1), (.int p1)]))
    refine own_step (fun _ k => XS.icmpNo X88.here hx rfl (hb hby at_225) rfl (teq (rfl : p1 = p1)).2 k) ?_
    show own_Fin p e below s _ _ _ (T88.setTop (mkF m 228 #[.val (.int p0), .val (.int p1), .val (.int p2), .val (.int p3), .val (.int p4), .val (.int ((3 : Int32) + (p3 &&& (3 : Int32)))), .val (.ref b1), .val (.int (1 : Int32)), .val (.int p1), .val (.int (1 : Int32)), .val (.int p2), .val (.int p0), .val (.int (1 : Int32))] []))
    refine own_step (fun _ k => XS.iload X88.here hx rfl (hb hby at_228) rfl k) ?_
    show own_Fin p e below s _ _ _ (T88.setTop (mkF m 230 #[.val (.int p0), .val (.int p1), .val (.int p2), .val (.int p3), .val (.int p4), .val (.int ((3 : Int32) + (p3 &&& (3 : Int32)))), .val (.ref b1), .val (.int (1 : Int32)), .val (.int p1), .val (.int (1 : Int32)), .val (.int p2), .val (.int p0), .val (.int (1 : Int32))] [(.int (1 : Int32))]))
    refine own_step (fun _ k => XS.ifNo X88.here hx rfl (hb hby at_230) rfl ((if0 _ _).trans (feq (by decide : ¬ ((1 : Int32) = (0 : Int32)))).1) k) ?_
    show own_Fin p e below s _ _ _ (T88.setTop (mkF m 233 #[.val (.int p0), .val (.int p1), .val (.int p2), .val (.int p3), .val (.int p4), .val (.int ((3 : Int32) + (p3 &&& (3 : Int32)))), .val (.ref b1), .val (.int (1 : Int32)), .val (.int p1), .val (.int (1 : Int32)), .val (.int p2), .val (.int p0), .val (.int (1 : Int32))] []))
    refine own_step (fun _ k => XS.iload X88.here hx rfl (hb hby at_233) rfl k) ?_
    show own_Fin p e below s _ _ _ (T88.setTop (mkF m 235 #[.val (.int p0), .val (.int p1), .val (.int p2), .val (.int p3), .val (.int p4), .val (.int ((3 : Int32) + (p3 &&& (3 : Int32)))), .val (.ref b1), .val (.int (1 : Int32)), .val (.int p1), .val (.int (1 : Int32)), .val (.int p2), .val (.int p0), .val (.int (1 : Int32))] [(.int p2)]))
    refine own_step (fun _ k => XS.iloadN X88.here hx rfl (hb hby at_235) rfl k) ?_
    show own_Fin p e below s _ _ _ (T88.setTop (mkF m 236 #[.val (.int p0), .val (.int p1), .val (.int p2), .val (.int p3), .val (.int p4), .val (.int ((3 : Int32) + (p3 &&& (3 : Int32)))), .val (.ref b1), .val (.int (1 : Int32)), .val (.int p1), .val (.int (1 : Int32)), .val (.int p2), .val (.int p0), .val (.int (1 : Int32))] [(.int p2), (.int p2)]))
    refine own_step (fun _ k => XS.icmpNo X88.here hx rfl (hb hby at_236) rfl (teq (rfl : p2 = p2)).2 k) ?_
    show own_Fin p e below s _ _ _ (T88.setTop (mkF m 239 #[.val (.int p0), .val (.int p1), .val (.int p2), .val (.int p3), .val (.int p4), .val (.int ((3 : Int32) + (p3 &&& (3 : Int32)))), .val (.ref b1), .val (.int (1 : Int32)), .val (.int p1), .val (.int (1 : Int32)), .val (.int p2), .val (.int p0), .val (.int (1 : Int32))] []))
    refine own_step (fun _ k => XS.iload X88.here hx rfl (hb hby at_239) rfl k) ?_
    show own_Fin p e below s _ _ _ (T88.setTop (mkF m 241 #[.val (.int p0), .val (.int p1), .val (.int p2), .val (.int p3), .val (.int p4), .val (.int ((3 : Int32) + (p3 &&& (3 : Int32)))), .val (.ref b1), .val (.int (1 : Int32)), .val (.int p1), .val (.int (1 : Int32)), .val (.int p2), .val (.int p0), .val (.int (1 : Int32))] [(.int p0)]))
    refine own_step (fun _ k => XS.iloadN X88.here hx rfl (hb hby at_241) rfl k) ?_
    show own_Fin p e below s _ _ _ (T88.setTop (mkF m 242 #[.val (.int p0), .val (.int p1), .val (.int p2), .val (.int p3), .val (.int p4), .val (.int ((3 : Int32) + (p3 &&& (3 : Int32)))), .val (.ref b1), .val (.int (1 : Int32)), .val (.int p1), .val (.int (1 : Int32)), .val (.int p2), .val (.int p0), .val (.int (1 : Int32))] [(.int p0), (.int p0)]))
    refine own_step (fun _ k => XS.icmpNo X88.here hx rfl (hb hby at_242) rfl (teq (rfl : p0 = p0)).2 k) ?_
    show own_Fin p e below s _ _ _ (T88.setTop (mkF m 245 #[.val (.int p0), .val (.int p1), .val (.int p2), .val (.int p3), .val (.int p4), .val (.int ((3 : Int32) + (p3 &&& (3 : Int32)))), .val (.ref b1), .val (.int (1 : Int32)), .val (.int p1), .val (.int (1 : Int32)), .val (.int p2), .val (.int p0), .val (.int (1 : Int32))] []))
    refine own_step (fun _ k => XS.iload X88.here hx rfl (hb hby at_245) rfl k) ?_
    show own_Fin p e below s _ _ _ (T88.setTop (mkF m 247 #[.val (.int p0), .val (.int p1), .val (.int p2), .val (.int p3), .val (.int p4), .val (.int ((3 : Int32) + (p3 &&& (3 : Int32)))), .val (.ref b1), .val (.int (1 : Int32)), .val (.int p1), .val (.int (1 : Int32)), .val (.int p2), .val (.int p0), .val (.int (1 : Int32))] [(.int (1 : Int32))]))
    refine own_step (fun _ k => XS.ifNo X88.here hx rfl (hb hby at_247) rfl ((if0 _ _).trans (feq (by decide : ¬ ((1 : Int32) = (0 : Int32)))).1) k) ?_
    show own_Fin p e below s _ _ _ (T88.setTop (mkF m 250 #[.val (.int p0), .val (.int p1), .val (.int p2), .val (.int p3), .val (.int p4), .val (.int ((3 : Int32) + (p3 &&& (3 : Int32)))), .val (.ref b1), .val (.int (1 : Int32)), .val (.int p1), .val (.int (1 : Int32)), .val (.int p2), .val (.int p0), .val (.int (1 : Int32))] []))
    refine own_step (fun _ k => XS.iconst X88.here hx rfl (hb hby at_250) k) ?_
    show own_Fin p e below s _ _ _ (T88.setTop (mkF m 251 #[.val (.int p0), .val (.int p1), .val (.int p2), .val (.int p3), .val (.int p4), .val (.int ((3 : Int32) + (p3 &&& (3 : Int32)))), .val (.ref b1), .val (.int (1 : Int32)), .val (.int p1), .val (.int (1 : Int32)), .val (.int p2), .val (.int p0), .val (.int (1 : Int32))] [(.int (1 : Int32))]))
    refine own_step (fun _ k => XS.goto X88.here hx rfl (pc0 := 251) (pc' := 255) rfl (hb hby at_251) (by decide) (by decide) k) ?_
    show own_Fin p e below s _ _ _ (T88.setTop (mkF m 255 #[.val (.int p0), .val (.int p1), .val (.int p2), .val (.int p3), .val (.int p4), .val (.int ((3 : Int32) + (p3 &&& (3 : Int32)))), .val (.ref b1), .val (.int (1 : Int32)), .val (.int p1), .val (.int (1 : Int32)), .val (.int p2), .val (.int p0), .val (.int (1 : Int32))] [(.int (1 : Int32))]))
    refine own_step (fun _ k => XS.istore X88.here hx rfl (hb hby at_255) rfl (l' := #[.val (.int p0), .val (.int p1), .val (.int p2), .val (.int p3), .val (.int p4), .val (.int ((3 : Int32) + (p3 &&& (3 : Int32)))), .val (.ref b1), .val (.int (1 : Int32)), .val (.int p1), .val (.int (1 : Int32)), .val (.int p2), .val (.int p0), .val (.int (1 : Int32))]) rfl k) ?_
    show own_Fin p e below s _ _ _ (T88.setTop (mkF m 257 #[.val (.int p0), .val (.int p1), .val (.int p2), .val (.int p3), .val (.int p4), .val (.int ((3 : Int32) + (p3 &&& (3 : Int32)))), .val (.ref b1), .val (.int (1 : Int32)), .val (.int p1), .val (.int (1 : Int32)), .val (.int p2), .val (.int p0), .val (.int (1 : Int32))] []))
    refine own_step (fun _ k => XS.iload X88.here hx rfl (hb hby at_257) rfl k) ?_
    show own_Fin p e below s _ _ _ (T88.setTop (mkF m 259 #[.val (.int p0), .val (.int p1), .val (.int p2), .val (.int p3), .val (.int p4), .val (.int ((3 : Int32) + (p3 &&& (3 : Int32)))), .val (.ref b1), .val (.int (1 : Int32)), .val (.int p1), .val (.int (1 : Int32)), .val (.int p2), .val (.int p0), .val (.int (1 : Int32))] [(.int (1 : Int32))]))
    exact own_ret X88 hlk (v := some (.int (1 : Int32))) (fun h => by rw [Bd.returns] at h; cases h) (by decide) (by decide) (by show own_Q12 Z p0 p1 p2 p3 p4 h0 n0 _ T88.heap _; rw [e88]; exact ⟨rfl, N88⟩) (fun fs hr => retN X88 hx (t := .boolean) Bd.returns (by simp) (hb hby at_259) hr)

set_option maxRecDepth 65536 in
set_option maxHeartbeats 40000000 in
theorem comes_1 {Post : Tables → Env → Array Value → State → Outcome → State → Prop} (hpost : ∀ tb e args s v u, (limb_1_1.after args s (.returned v) u = true ∧ limb_1_2.after args s (.returned v) u = true ∧ True) → FrameEnd s (.returned v) u (Jvm.fieldLocs frame_1_writes args s ++ Jvm.arrayLocs frame_1_arrays args s ++ Jvm.staticLocs frame_1_statics s) 16 128 → Post tb e args s (.returned v) u) :
    ArmFor flags0 classFile x code maxLocals ret World_1 tables_1 room_1 Calls_1 rest_1 Pre_1 Post := by
  intro l hfl _ _ p e ha hc hk s m args below hf hA hF happ hP
  obtain ⟨hcalls, hrest, hpre⟩ := hP
  obtain ⟨-, -, -, hnamed, -, -, -, hat⟩ := (Spec.applies_iff hf).mp happ
  obtain ⟨hg, hn⟩ := and_e (Cond.before_iff.mp (show (Jvm.Cond.and given_1 narrow_1).before args s = true from hpre))
  obtain ⟨cj1a, cj1b⟩ := and_e hg
  obtain ⟨cj2a, cj2b⟩ := and_e cj1b
  obtain ⟨cj3a, cj3b⟩ := and_e cj2b
  obtain ⟨cj4a, cj4b⟩ := and_e cj3b
  obtain ⟨cj5a, cj5b⟩ := and_e cj4b
  obtain ⟨w0, w1, w2, w3, w4, rfl⟩ : ∃ w0 w1 w2 w3 w4 : Value, args = #[w0, w1, w2, w3, w4] := by
    have hs : args.size = 5 := by simpa [Cond.value, given_1] using cj1a
    obtain ⟨L⟩ := args
    match L, hs with
    | [w0, w1, w2, w3, w4], _ => exact ⟨w0, w1, w2, w3, w4, rfl⟩
  have hw := fun d (hd : d ∈ tables_1) => atoms_spec (ws := Jvm.Cond.code x code maxLocals ret :: tables_1) hat d (List.mem_cons_of_mem _ hd)
  have hfit : Fit s := fun {y c} hc i hi => by
    obtain ⟨ha, rfl⟩ := Array.getElem?_eq_some_iff.mp hc
    have q := List.all_eq_true.mp ((Array.all_eq_true_iff_forall_mem.mp hF) _ (Array.getElem_mem ha)) i (List.mem_range.mpr hi)
    simpa [Array.getElem?_eq_getElem hi] using q
  obtain ⟨i0, ei0⟩ := is_v cj2a
  obtain rfl : w0 = (.int i0) := Option.some.inj ei0
  obtain ⟨i1, ei1⟩ := is_v cj3a
  obtain rfl : w1 = (.int i1) := Option.some.inj ei1
  obtain ⟨i2, ei2⟩ := is_v cj4a
  obtain rfl : w2 = (.int i2) := Option.some.inj ei2
  obtain ⟨i3, ei3⟩ := is_v cj5a
  obtain rfl : w3 = (.int i3) := Option.some.inj ei3
  obtain ⟨i4, ei4⟩ := is_v cj5b
  obtain rfl : w4 = (.int i4) := Option.some.inj ei4
  obtain ⟨n, o, h1, h2, h3, _, L, rfl, ⟨rfl, N⟩, hq⟩ := own_rm12 l s _ hw tables_1 i0 i1 i2 i3 i4 s.heap s.heap.size (Nat.le_refl _)  p e ha hc hk s m _ below hf ((Spec.applies_iff_loose hf).mp happ).1 ⟨rfl, State.Warmed39.refl s, rfl⟩ trivial
  refine ⟨n, _, h1, h2, h3, hpost _ _ _ _ _ _ ⟨Cond.after_iff.mpr rfl, Cond.after_iff.mpr (eq_i res_at (Term.int_eval (1)) rfl), trivial⟩ ⟨hq.1, hq.2.1, (hq.2.2.sift fun y hy => Or.inr (N y hy)).mono (by decide) (by decide)⟩⟩
theorem main_1_1 : Claimed_1_1 := comes_1 fun _ _ _ _ _ _ h hF => ⟨h.1, hF⟩
theorem main_1_2 : Claimed_1_2 := comes_1 fun _ _ _ _ _ _ h hF => ⟨h.2.1, hF⟩
end Jvm.Pilot.@@N@@
namespace Jvm.Pilot.@@N@@
open Jvm Jvm.ClassFile Sem Op Lib Jvm.Free Jvm.Stand Jvm.Pilot.@@N@@.Jvm.D
/-! MADE BY PROGRAM (witnessworld.py) out of the Statement's table words and the real class files: 9 classes; the members and pool entries that the words name. The judged class is class 1, her method 1. -/
namespace start1
open Jvm.ClassFile
def u (s : String) : CpInfo := .utf8 (stringToUtf16 s)
/-- a pool by its gaps: so many unusable entries, then the entry; so many at the end -/
def gap : Nat → List CpInfo → List CpInfo
  | 0, r => r
  | n + 1, r => .unusable :: gap n r
def poolList (es : List (Nat × CpInfo)) (last : Nat) : List CpInfo := es.foldr (fun e r => gap e.1 (e.2 :: r)) (gap last [])
def pool (es : List (Nat × CpInfo)) (last : Nat) : Array CpInfo := ⟨poolList es last⟩
def fileOf (pool : Array CpInfo) (this : Nat) (attrs : Array Attribute := #[]) (ms : Array MethodInfo := #[]) (fl : Nat := 33) (sup : Nat := 0) (ifs : Array Nat := #[]) (fds : Array FieldInfo := #[]) : ClassFile where
  minorVersion := 0
  majorVersion := 65
  constantPool := pool
  accessFlags := fl
  thisClass := this
  superClass := sup
  interfaces := ifs
  fields := fds
  methods := ms
  attributes := attrs
def plain (name : String) (sup : Option ClassId) : Class where
  name := name
  kind := .ordinary
  loader := none
  accessFlags := 33
  super := sup
  interfaces := #[]
  cf := none
  fields := #[]
  methods := #[]
  instanceTypes := #[]
  staticTypes := #[]
  resolved := #[]
  callSites := []
  init := .initialized
  statics := none
  mirror := none

def pool0 : Array CpInfo := pool [(5, u "<init>"), (0, u "()V"), (1, .class_ 10), (1, u "java/lang/Object")] 113

def k0c0 : Code := { maxStack := 0, maxLocals := 1, code := object_method_1_code, exceptionTable := #[], attributes := #[] }
def k0m0 : Method := { name := "<init>", desc := "()V", sig := { parameters := [], returnType := none }, accessFlags := 1, code := some k0c0 }
/-- java/lang/Object -/
def k0 : Class := { plain "java/lang/Object" none with
  accessFlags := 33
  interfaces := #[]
  cf := some (fileOf pool0 8 #[] #[{ accessFlags := 1, nameIndex := 5, descriptorIndex := 6, attributes := #[] }] 33 0 #[] #[])
  fields := #[]
  methods := #[k0m0]
  instanceTypes := #[]
  staticTypes := #[]
  resolved := Array.replicate 124 none
  statics := none }

def pool1 : Array CpInfo := pool [(2, .class_ 4), (1, u "java/lang/Object"), (0, u "<init>"), (0, u "()V"), (0, .class_ 8), (0, u "com/example/libmdp/libmdp/StateStack"), (0, .methodref 7 10), (0, .nameAndType 5 11), (0, u "(I)V"), (0, .methodref 7 13), (0, .nameAndType 14 15), (0, u "isEmpty"), (0, u "()Z"), (0, .methodref 7 17), (0, .nameAndType 18 11), (0, u "push"), (0, .methodref 7 20), (0, .nameAndType 21 22), (0, u "pop"), (0, u "()I"), (0, .class_ 24), (0, u "com/example/libmdp/libmdp/StateStackPushPinLaw"), (2, u "law"), (0, u "(IIIII)Z")] 3

def k1m0 : Method := { name := "<init>", desc := "()V", sig := { parameters := [], returnType := none }, accessFlags := 1, code := none }
def k1c1 : Code := { maxStack := 3, maxLocals := 13, code := code, exceptionTable := #[], attributes := #[] }
def k1m1 : Method := { name := "law", desc := "(IIIII)Z", sig := { parameters := [.int, .int, .int, .int, .int], returnType := some .boolean }, accessFlags := 9, code := some k1c1 }
/-- com/example/libmdp/libmdp/StateStackPushPinLaw -/
def k1 : Class := { plain "com/example/libmdp/libmdp/StateStackPushPinLaw" (some 0) with
  accessFlags := 49
  interfaces := #[]
  cf := some (fileOf pool1 23 #[] #[{ accessFlags := 1, nameIndex := 5, descriptorIndex := 6, attributes := #[] }, { accessFlags := 9, nameIndex := 27, descriptorIndex := 28, attributes := #[] }] 49 2 #[] #[])
  fields := #[]
  methods := #[k1m0, k1m1]
  instanceTypes := #[]
  staticTypes := #[]
  resolved := Array.replicate 32 none
  statics := none }

def pool2 : Array CpInfo := pool [(1, .methodref 2 3), (0, .class_ 4), (0, .nameAndType 5 6), (0, u "java/lang/Object"), (0, u "<init>"), (0, u "()V"), (0, .fieldref 8 9), (0, .class_ 10), (0, .nameAndType 11 12), (0, u "com/example/libmdp/libmdp/StateStack"), (0, u "states"), (0, u "[I"), (2, u "(I)V"), (8, u "push"), (0, .fieldref 8 26), (0, .nameAndType 27 28), (0, u "size"), (0, u "I"), (5, u "pop"), (0, u "()I"), (0, u "isEmpty"), (0, u "()Z")] 2

def k2c0 : Code := { maxStack := 2, maxLocals := 2, code := prog_46_method_1_code, exceptionTable := #[], attributes := #[] }
def k2m0 : Method := { name := "<init>", desc := "(I)V", sig := { parameters := [.int], returnType := none }, accessFlags := 0, code := some k2c0 }
def k2c1 : Code := { maxStack := 3, maxLocals := 2, code := prog_46_method_3_code, exceptionTable := #[], attributes := #[] }
def k2m1 : Method := { name := "push", desc := "(I)V", sig := { parameters := [.int], returnType := none }, accessFlags := 0, code := some k2c1 }
def k2c2 : Code := { maxStack := 3, maxLocals := 1, code := prog_46_method_4_code, exceptionTable := #[], attributes := #[] }
def k2m2 : Method := { name := "pop", desc := "()I", sig := { parameters := [], returnType := some .int }, accessFlags := 0, code := some k2c2 }
def k2c3 : Code := { maxStack := 1, maxLocals := 1, code := prog_46_method_5_code, exceptionTable := #[], attributes := #[] }
def k2m3 : Method := { name := "isEmpty", desc := "()Z", sig := { parameters := [], returnType := some .boolean }, accessFlags := 0, code := some k2c3 }
/-- com/example/libmdp/libmdp/StateStack -/
def k2 : Class := { plain "com/example/libmdp/libmdp/StateStack" (some 0) with
  accessFlags := 48
  interfaces := #[]
  cf := some (fileOf pool2 8 #[] #[{ accessFlags := 0, nameIndex := 5, descriptorIndex := 15, attributes := #[] }, { accessFlags := 0, nameIndex := 24, descriptorIndex := 15, attributes := #[] }, { accessFlags := 0, nameIndex := 34, descriptorIndex := 35, attributes := #[] }, { accessFlags := 0, nameIndex := 36, descriptorIndex := 37, attributes := #[] }] 48 2 #[] #[{ accessFlags := 18, nameIndex := 11, descriptorIndex := 12, attributes := #[] }, { accessFlags := 2, nameIndex := 27, descriptorIndex := 28, attributes := #[] }])
  fields := #[{ name := "states", type := (.array .int), accessFlags := 18, slot := 0, constantValue := 0 }, { name := "size", type := .int, accessFlags := 2, slot := 1, constantValue := 0 }]
  methods := #[k2m0, k2m1, k2m2, k2m3]
  instanceTypes := #[(.array .int), .int]
  staticTypes := #[]
  resolved := Array.replicate 40 none
  statics := none }

def pool3 : Array CpInfo := pool [(1, u "java/lang/Cloneable"), (0, .class_ 1), (0, u "java/lang/Object"), (0, .class_ 3)] 3

/-- java/lang/Cloneable -/
def k3 : Class := { plain "java/lang/Cloneable" (some 0) with
  accessFlags := 1537
  interfaces := #[]
  cf := some (fileOf pool3 2 #[] #[] 1537 4 #[] #[])
  fields := #[]
  methods := #[]
  instanceTypes := #[]
  staticTypes := #[]
  resolved := Array.replicate 8 none
  statics := none }

def pool4 : Array CpInfo := pool [(1, u "java/io/Serializable"), (0, .class_ 1), (0, u "java/lang/Object"), (0, .class_ 3)] 3

/-- java/io/Serializable -/
def k4 : Class := { plain "java/io/Serializable" (some 0) with
  accessFlags := 1537
  interfaces := #[]
  cf := some (fileOf pool4 2 #[] #[] 1537 4 #[] #[])
  fields := #[]
  methods := #[]
  instanceTypes := #[]
  staticTypes := #[]
  resolved := Array.replicate 8 none
  statics := none }

/-- the primitive byte -/
def k5 : Class := { plain "byte" none with kind := .primitive 'B', accessFlags := 0x411 }
/-- [B -/
def k6 : Class := { plain "[B" (some 0) with kind := .array 5 .byte, interfaces := #[3, 4], accessFlags := 1041 }

/-- the primitive int -/
def k7 : Class := { plain "int" none with kind := .primitive 'I', accessFlags := 0x411 }
/-- [I -/
def k8 : Class := { plain "[I" (some 0) with kind := .array 7 .int, interfaces := #[3, 4], accessFlags := 1041 }

def heap : Heap := #[]
def classes : Array Class := #[k0, k1, k2, k3, k4, k5, k6, k7, k8]
def interned : List (Array UInt16 × Addr) := []
def slotsUsed : Nat := 0
def theMethod : MethodId := ⟨1, 1⟩
def args0 : Array Value := #[.int 5, .int 7, .int 1, .int 2, .int 1]
def aboutOver (below : List Frame) : State where
  vm := { classes := classes, interned := interned.toArray }
  heap := heap
  slotsUsed := slotsUsed
  threads := #[{ frames := .invoking theMethod args0 :: below }]
def below0 : List Frame := [.native { method := ⟨0, 0⟩, args := #[] }]
def about1 : State := aboutOver below0
def p0 : Program := .bare "" "" ""
def e0 : Env := launch0.env 0 0 0
theorem w_frames : about1.frames = Frame.invoking theMethod args0 :: below0 := rfl
set_option maxRecDepth 65536 in
theorem w_args : argsFit about1.vm theMethod args0 = true := by decide +kernel
set_option maxRecDepth 65536 in
theorem w_heap : heapFits about1 = true := by decide +kernel
set_option maxRecDepth 65536 in
theorem w_runnable : about1.curStatus? = some .runnable := by decide +kernel
set_option maxRecDepth 65536 in
theorem w_alone : about1.alone = true := by decide +kernel
set_option maxRecDepth 65536 in
theorem w_named : about1.methodNamed? x = some theMethod := by decide +kernel
set_option maxRecDepth 65536 in
theorem w_hears : about1.hears theMethod below0 = true := by decide +kernel
set_option maxRecDepth 65536 in
theorem w_ripe : about1.ripe theMethod args0 below0 = true := by decide +kernel
theorem w_running : about1.status = .running := rfl
set_option maxRecDepth 65536 in
theorem w_room : about1.hasRoom e0.platform room_1 = true :=
  launch0.hasRoom_least _ room_1 (by decide +kernel) (by decide +kernel) (by decide +kernel) (by decide +kernel) (by decide +kernel) (by decide +kernel)
theorem allAtoms_all (ts : List Jvm.Cond) (a : Array Jvm.Value) (st : Jvm.State) : (allAtoms ts).before a st = ts.all (fun c => c.before a st) := by
  induction ts with
  | nil => rfl
  | cons c t ih =>
    show (Jvm.Cond.and c (allAtoms t)).before a st = _
    rw [Jvm.Cond.before_and, ih, List.all_cons]
def words1 : List Jvm.Cond := Jvm.Cond.code x code maxLocals ret :: tables_1
/-- a 'code' word, met by the world's own term for the bytes: nothing is compared byte by byte -/
theorem code_word {y : MethodName} {bytes : ByteArray} {mx : Nat} {rt : Option FieldType} {a : Array Value} {s : State} {m : MethodId} {meth : Method} {c : Code} (h1 : s.methodNamed? y = some m) (h2 : s.vm.method? m = some meth) (h3 : meth.code = some c) (h4 : c.code = bytes)
    (h5 : (c.maxLocals == mx && c.exceptionTable.isEmpty && decide (c.maxStack ≤ mostOperands) && decide (meth.sig.returnType = rt) && !meth.locks && decide (parseMethodDescriptor y.desc = some meth.sig)) = true) : (Jvm.Cond.code y bytes mx rt).before a s = true := by
  simp only [Bool.and_eq_true, beq_iff_eq, Bool.not_eq_true', decide_eq_true_eq] at h5
  obtain ⟨⟨⟨⟨⟨g1, g2⟩, g3⟩, g4⟩, g5⟩, g6⟩ := h5
  simp [Cond.before, Cond.holds, Cond.value, h1, h2, h3, h4, g1, g2, g3, g4, g5, g6]
def isCode : Jvm.Cond → Bool
  | .code _ _ _ _ => true
  | _ => false
theorem all_split {L : List Jvm.Cond} {P : Jvm.Cond → Bool} (h1 : L.all (fun c => isCode c || P c) = true) (h2 : ∀ c ∈ L.filter isCode, P c = true) : L.all P = true := by
  refine List.all_eq_true.mpr fun c hc => ?_
  have h := List.all_eq_true.mp h1 c hc
  rcases Bool.eq_false_or_eq_true (isCode c) with hi | hi
  · exact h2 c (List.mem_filter.mpr ⟨hc, hi⟩)
  · simpa [hi] using h
set_option maxRecDepth 65536 in
theorem w_c0 : (Jvm.Cond.code x code maxLocals ret).before args0 about1 = true := code_word (m := ⟨1, 1⟩) (meth := k1m1) (c := k1c1) (by decide +kernel) rfl rfl rfl (by decide +kernel)
set_option maxRecDepth 65536 in
theorem w_c1 : (Jvm.Cond.code ({ cls := "com/example/libmdp/libmdp/StateStack", name := "<init>", desc := "(I)V" } : Jvm.MethodName) prog_46_method_1_code (2 : Nat) (Option.none : Option Jvm.ClassFile.FieldType)).before args0 about1 = true := code_word (m := ⟨2, 0⟩) (meth := k2m0) (c := k2c0) (by decide +kernel) rfl rfl rfl (by decide +kernel)
set_option maxRecDepth 65536 in
theorem w_c2 : (Jvm.Cond.code ({ cls := "java/lang/Object", name := "<init>", desc := "()V" } : Jvm.MethodName) object_method_1_code (1 : Nat) (Option.none : Option Jvm.ClassFile.FieldType)).before args0 about1 = true := code_word (m := ⟨0, 0⟩) (meth := k0m0) (c := k0c0) (by decide +kernel) rfl rfl rfl (by decide +kernel)
set_option maxRecDepth 65536 in
theorem w_c3 : (Jvm.Cond.code ({ cls := "com/example/libmdp/libmdp/StateStack", name := "isEmpty", desc := "()Z" } : Jvm.MethodName) prog_46_method_5_code (1 : Nat) (Option.some Jvm.ClassFile.FieldType.boolean)).before args0 about1 = true := code_word (m := ⟨2, 3⟩) (meth := k2m3) (c := k2c3) (by decide +kernel) rfl rfl rfl (by decide +kernel)
set_option maxRecDepth 65536 in
theorem w_c4 : (Jvm.Cond.code ({ cls := "com/example/libmdp/libmdp/StateStack", name := "push", desc := "(I)V" } : Jvm.MethodName) prog_46_method_3_code (2 : Nat) (Option.none : Option Jvm.ClassFile.FieldType)).before args0 about1 = true := code_word (m := ⟨2, 1⟩) (meth := k2m1) (c := k2c1) (by decide +kernel) rfl rfl rfl (by decide +kernel)
set_option maxRecDepth 65536 in
theorem w_c5 : (Jvm.Cond.code ({ cls := "com/example/libmdp/libmdp/StateStack", name := "pop", desc := "()I" } : Jvm.MethodName) prog_46_method_4_code (1 : Nat) (Option.some Jvm.ClassFile.FieldType.int)).before args0 about1 = true := code_word (m := ⟨2, 2⟩) (meth := k2m2) (c := k2c2) (by decide +kernel) rfl rfl rfl (by decide +kernel)
def codes1 : List Jvm.Cond := [Jvm.Cond.code x code maxLocals ret, Jvm.Cond.code ({ cls := "com/example/libmdp/libmdp/StateStack", name := "<init>", desc := "(I)V" } : Jvm.MethodName) prog_46_method_1_code (2 : Nat) (Option.none : Option Jvm.ClassFile.FieldType), Jvm.Cond.code ({ cls := "java/lang/Object", name := "<init>", desc := "()V" } : Jvm.MethodName) object_method_1_code (1 : Nat) (Option.none : Option Jvm.ClassFile.FieldType), Jvm.Cond.code ({ cls := "com/example/libmdp/libmdp/StateStack", name := "isEmpty", desc := "()Z" } : Jvm.MethodName) prog_46_method_5_code (1 : Nat) (Option.some Jvm.ClassFile.FieldType.boolean), Jvm.Cond.code ({ cls := "com/example/libmdp/libmdp/StateStack", name := "push", desc := "(I)V" } : Jvm.MethodName) prog_46_method_3_code (2 : Nat) (Option.none : Option Jvm.ClassFile.FieldType), Jvm.Cond.code ({ cls := "com/example/libmdp/libmdp/StateStack", name := "pop", desc := "()I" } : Jvm.MethodName) prog_46_method_4_code (1 : Nat) (Option.some Jvm.ClassFile.FieldType.int)]
set_option maxRecDepth 65536 in
theorem codes_eq : words1.filter isCode = codes1 := rfl
theorem w_codes : ∀ c ∈ words1.filter isCode, c.before args0 about1 = true := by
  rw [codes_eq]
  intro c hc
  simp only [codes1, List.mem_cons, List.not_mem_nil, or_false] at hc
  rcases hc with rfl | rfl | rfl | rfl | rfl | rfl
  · exact w_c0
  · exact w_c1
  · exact w_c2
  · exact w_c3
  · exact w_c4
  · exact w_c5
set_option maxRecDepth 65536 in
theorem w_t1 : (words1.take 24).all (fun c => isCode c || c.before args0 about1) = true := by decide +kernel
set_option maxRecDepth 65536 in
theorem w_t2 : (words1.drop 24).all (fun c => isCode c || c.before args0 about1) = true := by decide +kernel
theorem w_tables : (allAtoms (Jvm.Cond.code x code maxLocals ret :: tables_1)).before args0 about1 = true := by
  rw [allAtoms_all]
  show words1.all (fun c => c.before args0 about1) = true
  refine all_split ?_ w_codes
  rw [← List.take_append_drop 24 words1, List.all_append, w_t1, w_t2]
  rfl
set_option maxRecDepth 65536 in
theorem w_case : (Jvm.Cond.and given_1 narrow_1).before args0 about1 = true := by decide +kernel
theorem w_applies : (headSpec (Jvm.Cond.code x code maxLocals ret :: tables_1) room_1).applies x e0.platform about1 = true :=
  (Spec.applies_iff w_frames).mpr ⟨w_running, w_runnable, w_alone, w_named, w_hears, w_ripe, w_room, w_tables⟩
theorem atStart : AtStart classFile x code maxLocals ret World_1 tables_1 room_1 Calls_1 rest_1 Pre_1 launch0 p0 e0 about1 theMethod args0 below0 :=
  ⟨lists_1, trivial, launch0.admits_env _ _ _, launch0.least_env, fairChoices_fair.cas, fairChoices_fair.clock, w_frames, w_args, w_heap, w_applies, trivial, trivial, w_case⟩
end start1
theorem witness_1 : WitnessClaimed_1 := ⟨start1.p0, start1.e0, start1.about1, start1.theMethod, start1.args0, start1.below0, start1.atStart⟩
end Jvm.Pilot.@@N@@
