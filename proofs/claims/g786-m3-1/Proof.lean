import JvmDerived
import JvmDerived.Pilot.@@N@@Statement
import JvmDerived.Pilot.@@N@@Code
set_option linter.unusedVariables false
set_option linter.unusedSimpArgs false
namespace Jvm.RoadKit
open Sem ClassFile Op Lib Jvm.Stand Jvm.Free Jvm.LawKit
section Own
variable {p : Program} {l : Launch} {e : Env} {R : Room} {s : State} {m : MethodId} {args : Array Value} {below : List Frame} {meth : Method} {c : Code} {T : State} {locs : List Loc} {cells slots : Nat} {Q : Option Value → Heap → List Loc → Prop} {kc ks : Nat}
/-- the run from S comes to its end and leaves what Q says -/
def own_Fin (p : Program) (e : Env) (below : List Frame) (s : State) (kc ks : Nat) (Q : Option Value → Heap → List Loc → Prop) (S : State) : Prop :=
  ∃ U o, Steps p.tables e below S U ∧ U.status = .running ∧ Ended U below o ∧ ∃ v L, o = .returned v ∧ Q v U.heap L ∧ FrameEnd s o U L kc ks
theorem own_step {S S' : State} (h : ∀ t, Steps p.tables e below S' t → Steps p.tables e below S t) (k : own_Fin p e below s kc ks Q S') : own_Fin p e below s kc ks Q S := by
  obtain ⟨U, o, h1, r⟩ := k
  exact ⟨U, o, h _ h1, r⟩
theorem own_ret (X : Stand p l e R s m args below meth c T locs cells slots) (hlk : meth.locks = false) {v : Option Value} (hv : meth.sig.returnType = none → v = none) (hc : cells ≤ kc) (hs : slots ≤ ks) (hQ : Q v T.heap locs) {S : State}
    (hst : ∀ fs, (∀ (f : JFrame) (acts : List Action), f.method = m → f.locked = none → f.entered = [] → (doReturn e (T.setTop f) acts v).1 = T.setFrames fs) → Steps p.tables e below S (T.setFrames fs)) : own_Fin p e below s kc ks Q S := by
  obtain ⟨fs, hr, hrun, hended, hW, hsame⟩ := X.leave (v := v) hv hlk
  exact ⟨_, _, hst fs hr, hrun, hended, _, _, rfl, hQ, ⟨_, rfl⟩, hW, hsame.mono hc hs⟩
def own_FinW (p : Program) (e : Env) (below : List Frame) (s : State) (kc ks : Nat) (Q : Option Value → Heap → List Loc → Prop) (S : State) : Prop :=
  ∃ U o, Steps p.tables e below S U ∧ U.status = .running ∧ Ended U below o ∧ ∃ v L, o = .returned v ∧ Q v U.heap L ∧ ReturnedEndW s o U L kc ks
theorem own_stepW {S S' : State} (h : ∀ t, Steps p.tables e below S' t → Steps p.tables e below S t) (k : own_FinW p e below s kc ks Q S') : own_FinW p e below s kc ks Q S := by
  obtain ⟨U, o, h1, r⟩ := k
  exact ⟨U, o, h _ h1, r⟩
theorem own_retW {vm1 : Vm} (X : Stand p l e R (s.setVm vm1) m args below meth c T locs cells slots) (hlk : meth.locks = false) {n : Nat} (hS : s.Since vm1 n) {h : Heap} (eT : T.heap = h) (hn : n ≤ h.size) {v : Option Value} (hv : meth.sig.returnType = none → v = none) (hc : cells ≤ kc) (hs : slots ≤ ks) (hQ : Q v T.heap locs) {S : State}
    (hst : ∀ fs, (∀ (f : JFrame) (acts : List Action), f.method = m → f.locked = none → f.entered = [] → (doReturn e (T.setTop f) acts v).1 = T.setFrames fs) → Steps p.tables e below S (T.setFrames fs)) : own_FinW p e below s kc ks Q S := by
  obtain ⟨fs, hr, hrun, hended, hE⟩ := X.leaveW hS (by rw [eT]; exact hn) (v := v) hv hlk
  exact ⟨_, _, hst fs hr, hrun, hended, _, _, rfl, hQ, hE.1, hE.2.1, hE.2.2.1, hE.2.2.2.mono hc hs⟩
theorem own_castW {g g' : JFrame} (q : g = g') (k : own_FinW p e below s kc ks Q (T.setTop g')) : own_FinW p e below s kc ks Q (T.setTop g) := q ▸ k
theorem own_m0 : Jvm.Free.Fl.Mag64 1 FP.dconst0 := by unfold Jvm.Free.Fl.Mag64; decide
theorem own_mz : Jvm.Free.Fl.Mag64 1 (0 : UInt64) := by unfold Jvm.Free.Fl.Mag64; decide
theorem own_m1 : Jvm.Free.Fl.Mag64 1024 FP.dconst1 := by unfold Jvm.Free.Fl.Mag64; decide
/-- roads that meet again: what lies behind the meeting is walked once -/
theorem own_join {G : Prop} {F : State → Prop} (X : Stand p l e R s m args below meth c T locs cells slots) {h : Heap} (eT : T.heap = h) {β : Type} (g : β → JFrame) (hyp : β → Prop)
    (body : ∀ Tj : State, Stand p l e R s m args below meth c Tj locs cells slots → Tj.heap = h → ∀ b, hyp b → F (Tj.setTop (g b)))
    (cont : (∀ Tj : State, Stand p l e R s m args below meth c Tj locs cells slots → Tj.heap = h → ∀ b, hyp b → F (Tj.setTop (g b))) → G) : G := cont body
theorem own_ltn {n k j : Int32} (h : ¬ n < k) (q : j < k) : j < n := by
  rw [Int32.lt_iff_toInt_lt] at *
  omega
theorem own_cast {g g' : JFrame} (q : g = g') (k : own_Fin p e below s kc ks Q (T.setTop g')) : own_Fin p e below s kc ks Q (T.setTop g) := q ▸ k
theorem own_getJ {cl : Cell} {vs : List Int64} {j : Int32} (H : Has cl (vs.map Value.long) (.long 0)) (q : ¬ (j < 0 ∨ cl.slots.size ≤ j.toNatClampNeg)) : cl.slots[j.toNatClampNeg]? = some (.long (vs.getD j.toNatClampNeg 0)) := by
  refine Has.at H q ?_
  simp only [List.getD_eq_getElem?_getD, List.getElem?_map]
  cases vs[j.toNatClampNeg]? <;> rfl
def own_Nst (h : Heap) (x : Addr) : Prop := ∃ c : Cell, h[x]? = some c ∧ c.vm.isStatics = false
theorem own_nst_exa {Z : State} {h : Heap} {a : Addr} {C : String} (F : Exa Z h a C) : own_Nst h a := by
  obtain ⟨c, _, h1, _, _, h4, _⟩ := F
  exact ⟨c, h1, h4⟩
theorem own_nst_arv {Z : State} {h : Heap} {a : Addr} {k : ClassId} {ty : FieldType} {n : Int32} {vs : List Value} {d : Value} (F : Arv Z h a k ty n vs d) : own_Nst h a := by
  obtain ⟨c, A, _⟩ := F
  exact ⟨c, A.1, A.plain⟩
theorem own_sta_keep {Z : State} {h h' : Heap} {C n d : String} {v : Value} {ws : List Addr} (F : Sta Z h C n d v) (K : Keep h h' ws) (q : ∀ x ∈ ws, own_Nst h x) : Sta Z h' C n d v := by
  obtain ⟨cf, i, k, f, st, cell, h1, h2, h3, h4, h5, h6, h7⟩ := F
  refine ⟨cf, i, k, f, st, cell, h1, h2, h3, h4, K.2.1 _ _ h5 (fun z => ?_), h6, h7⟩
  obtain ⟨c, e1, e2⟩ := q _ z
  cases h5.symm.trans e1
  rw [h6] at e2
  cases e2
theorem own_sta_keep0 {Z : State} {h h' : Heap} {C n d : String} {v : Value} (F : Sta Z h C n d v) (K : Keep h h' []) : Sta Z h' C n d v := own_sta_keep F K (fun _ z => nomatch z)
end Own
section OwnStart
variable {args : Array Value} {Z : State} {t : Term} {a : Addr} {O n d : String}
theorem own_fldV {v : Value} (ev : t.eval args Z none [] Z = some (.ref a)) (h : (Term.field t O n d).eval args Z none [] Z = some v) : Fld Z Z.heap a O n d v := Fld.start ((fld_at ev).symm.trans h)
theorem own_len {cl : Cell} {ty : FieldType} {k : Int32} (ev : t.eval args Z none [] Z = some (.ref a)) (A : Arr Z Z.heap a cl ty) (h : (Cond.eq (.length t) (.int k)).value args Z none Z [] = some true) : cl.slots.size < 2 ^ 31 ∧ cl.slots.size.toInt32 = k := by
  have e := eqv_i (y := k) rfl h
  have ha := A.fin (Vm.Alike.refl _)
  by_cases q : cl.slots.size < 2 ^ 31
  · exact ⟨q, Value.int.inj (Option.some.inj ((len_f ev ha q).symm.trans e))⟩
  · simp [Term.eval, ev, ha, q] at e
theorem own_elI {cl : Cell} {ty : FieldType} {i k : Int32} (ev : t.eval args Z none [] Z = some (.ref a)) (A : Arr Z Z.heap a cl ty) (hi : ¬ i < 0) (h : (Cond.eq (.elem t (.int i)) (.int k)).value args Z none Z [] = some true) : cl.slots[i.toNatClampNeg]? = some (.int k) :=
  (elem_f ev rfl (A.fin (Vm.Alike.refl _)) hi).symm.trans (eqv_i (y := k) rfl h)
theorem own_elJ {cl : Cell} {ty : FieldType} {i : Int32} {k : Int64} (ev : t.eval args Z none [] Z = some (.ref a)) (A : Arr Z Z.heap a cl ty) (hi : ¬ i < 0) (h : (Cond.eq (.elem t (.int i)) (.long k)).value args Z none Z [] = some true) : cl.slots[i.toNatClampNeg]? = some (.long k) :=
  (elem_f ev rfl (A.fin (Vm.Alike.refl _)) hi).symm.trans (eqv_l (y := k) rfl h)
end OwnStart
end Jvm.RoadKit
namespace Jvm.Pilot.@@N@@
open Jvm Jvm.ClassFile Sem Op Lib Jvm.Free Jvm.Stand Jvm.LawKit Jvm.RoadKit Bundle Jvm.Pilot.@@N@@.Jvm.D
theorem own_w {ts : List Jvm.Cond} {Z : State} {a0 : Array Value} (hw : ∀ d ∈ ts, d.before a0 Z = true) (i : Nat) {d : Jvm.Cond} (h : ts[i]? = some d) : d.before a0 Z = true := hw d (List.mem_of_getElem? h)
def own_r1 (q1 : Int64) (wmin_ad0 : Int64) (wmax_ad0 : Int64) : Int32 := (if (lcmpW q1 wmin_ad0) < (0 : Int32) then (0 : Int32) else (if (0 : Int32) < (lcmpW q1 wmax_ad0) then (0 : Int32) else (1 : Int32)))
theorem own_d1_0 : decode prog_42_method_7_code 0 = .ok (.lload_n 1, 1) := by decide +kernel
theorem own_d1_1 : decode prog_42_method_7_code 1 = .ok (.aload_n 0, 1) := by decide +kernel
theorem own_d1_2 : decode prog_42_method_7_code 2 = .ok (.getfield 41, 3) := by decide +kernel
theorem own_d1_5 : decode prog_42_method_7_code 5 = .ok (.lcmp, 1) := by decide +kernel
theorem own_d1_6 : decode prog_42_method_7_code 6 = .ok (.ifCond .lt 16, 3) := by decide +kernel
theorem own_d1_9 : decode prog_42_method_7_code 9 = .ok (.lload_n 1, 1) := by decide +kernel
theorem own_d1_10 : decode prog_42_method_7_code 10 = .ok (.aload_n 0, 1) := by decide +kernel
theorem own_d1_11 : decode prog_42_method_7_code 11 = .ok (.getfield 45, 3) := by decide +kernel
theorem own_d1_14 : decode prog_42_method_7_code 14 = .ok (.lcmp, 1) := by decide +kernel
theorem own_d1_15 : decode prog_42_method_7_code 15 = .ok (.ifCond .gt 7, 3) := by decide +kernel
theorem own_d1_18 : decode prog_42_method_7_code 18 = .ok (.iconst 1, 1) := by decide +kernel
theorem own_d1_19 : decode prog_42_method_7_code 19 = .ok (.goto 4, 3) := by decide +kernel
theorem own_d1_22 : decode prog_42_method_7_code 22 = .ok (.iconst 0, 1) := by decide +kernel
theorem own_d1_23 : decode prog_42_method_7_code 23 = .ok (.ireturn, 1) := by decide +kernel
theorem own_pn0 : plainName "com/example/castwright/castwright/model/IntegerType" = true := by first | (simp [plainName, overriddenIn]; done) | decide +kernel
theorem own_ef1 (m : MethodId) (ad0 : Addr) (q1 : Int64) : entryFrame m #[(.ref ad0), (.long q1)] 3 = mkF m 0 #[.val (.ref ad0), .val (.long q1), .second] [] := by first | (simp [entryFrame, mkF, argsToLocals, Value.category]; done) | rfl
def own_Q1 (Z : State) (ad0 : Addr) (q1 : Int64) (wmin_ad0 : Int64) (wmax_ad0 : Int64) (h0 : Heap) (n0 : Nat) (v : Option Value) (h : Heap) (L : List Loc) : Prop := v = some (.int (own_r1 q1 wmin_ad0 wmax_ad0)) ∧ Fr n0 L ∧ h = h0
set_option maxRecDepth 65536 in
set_option maxHeartbeats 40000000 in
theorem own_rm1 (l : Launch) (Z : State) (a0 : Array Value) (hw : ∀ d ∈ tables_1, d.before a0 Z = true) (ws : List Jvm.Cond) (ad0 : Addr) (q1 : Int64) (wmin_ad0 : Int64) (wmax_ad0 : Int64) (h0 : Heap) (n0 : Nat) (Z0 : n0 ≤ h0.size) (F_min_ad0 : Fld Z h0 ad0 "com/example/castwright/castwright/model/IntegerType" "min" "J" (.long wmin_ad0)) (F_max_ad0 : Fld Z h0 ad0 "com/example/castwright/castwright/model/IntegerType" "max" "J" (.long wmax_ad0)) :
    MetFree l (⟨"com/example/castwright/castwright/model/IntegerType", "holds", "(J)Z"⟩ : MethodName) (head1 (Jvm.Cond.code (⟨"com/example/castwright/castwright/model/IntegerType", "holds", "(J)Z"⟩ : MethodName) prog_42_method_7_code 3 (some .boolean) :: ws) ({ frames := 0, cells := 0, slots := 0, locals := 0 } : Room)) (fun a U => a = #[(.ref ad0), (.long q1)] ∧ Z.Warmed39 U.vm ∧ U.heap = h0) (fun _ _ _ _ _ => True) (fun _ U o U' => ∃ v L, o = .returned v ∧ own_Q1 Z ad0 q1 wmin_ad0 wmax_ad0 h0 n0 v U'.heap L ∧ FrameEnd U o U' L ({ frames := 0, cells := 0, slots := 0, locals := 0 } : Room).cells ({ frames := 0, cells := 0, slots := 0, locals := 0 } : Room).slots) := by
  refine MetFree.of_bodySF (plainFor_of_name own_pn0) hisR ?_
  intro p e s m args below meth c s₁ Bd hml0 hP hK
  obtain ⟨rfl, hZ, hh⟩ := hP
  have hx := Bd.exec
  have hby := Bd.bytes
  have hlk := Bd.notSynchronized
  have hml : c.maxLocals = 3 := hml0
  have hown : s.vm.findClass "com/example/castwright/castwright/model/IntegerType" = some m.cls := findClass_of_methodNamed Bd.named
  have hnm := (name_of_methodNamed Bd.named Bd.method).1
  have X0 : Stand p l e ({ frames := 0, cells := 0, slots := 0, locals := 0 } : Room) s m #[(.ref ad0), (.long q1)] below meth c s₁ [] 0 0 := Stand.of_body Bd
  have e0 : s₁.heap = h0 := by rw [← hh, Bd.state]; rfl
  have N0 := Fr.nil n0
  have KR : Keep h0 h0 [] := Keep.refl _ _
  show own_Fin p e below s ({ frames := 0, cells := 0, slots := 0, locals := 0 } : Room).cells ({ frames := 0, cells := 0, slots := 0, locals := 0 } : Room).slots (own_Q1 Z ad0 q1 wmin_ad0 wmax_ad0 h0 n0) (s₁.setTop (entryFrame m #[(.ref ad0), (.long q1)] 3))
  refine own_cast (own_ef1 m ad0 q1) ?_
  refine own_step (fun _ k => XS.lloadN X0.here hx rfl (hb hby own_d1_0) rfl k) ?_
  show own_Fin p e below s _ _ _ (s₁.setTop (mkF m 1 #[.val (.ref ad0), .val (.long q1), .second] [(.long q1)]))
  refine own_step (fun _ k => XS.aloadN X0.here hx rfl (hb hby own_d1_1) rfl rfl k) ?_
  show own_Fin p e below s _ _ _ (s₁.setTop (mkF m 2 #[.val (.ref ad0), .val (.long q1), .second] [(.ref ad0), (.long q1)]))
  obtain ⟨T1, X1, e1, st1⟩ := getF X0 hx hZ hown (host := "") (Or.inl (own_w hw 8 rfl)) Via.refl e0 F_min_ad0 (g := (mkF m 2 #[.val (.ref ad0), .val (.long q1), .second] [(.ref ad0), (.long q1)])) rfl rfl (hb hby own_d1_2)
  refine own_step st1 ?_
  show own_Fin p e below s _ _ _ (T1.setTop (mkF m 5 #[.val (.ref ad0), .val (.long q1), .second] [(.long wmin_ad0), (.long q1)]))
  refine own_step (fun _ k => XS.lcmp X1.here hx rfl (hb hby own_d1_5) rfl k) ?_
  show own_Fin p e below s _ _ _ (T1.setTop (mkF m 6 #[.val (.ref ad0), .val (.long q1), .second] [(.int (lcmpW q1 wmin_ad0))]))
  by_cases hc2 : (lcmpW q1 wmin_ad0) < (0 : Int32)
  · refine own_step (fun _ k => XS.ifYes X1.here hx rfl (pc0 := 6) (pc' := 22) rfl (hb hby own_d1_6) rfl ((if0 _ _).trans (tlt hc2).1) (by decide) (by decide) k) ?_
    show own_Fin p e below s _ _ _ (T1.setTop (mkF m 22 #[.val (.ref ad0), .val (.long q1), .second] []))
    refine own_step (fun _ k => XS.iconst X1.here hx rfl (hb hby own_d1_22) k) ?_
    show own_Fin p e below s _ _ _ (T1.setTop (mkF m 23 #[.val (.ref ad0), .val (.long q1), .second] [(.int (0 : Int32))]))
    exact own_ret X1 hlk (v := some (.int (0 : Int32))) (fun h => by rw [Bd.returns] at h; cases h) (by decide) (by decide) (by show own_Q1 Z ad0 q1 wmin_ad0 wmax_ad0 h0 n0 _ T1.heap _; rw [e1]; exact ⟨(congrArg (fun z => some (Value.int z)) (show (own_r1 q1 wmin_ad0 wmax_ad0) = (0 : Int32) from by rw [own_r1, if_pos hc2]).symm), N0, rfl⟩) (fun fs hr => retN X1 hx (t := .boolean) Bd.returns (by simp) (hb hby own_d1_23) hr)
  · refine own_step (fun _ k => XS.ifNo X1.here hx rfl (hb hby own_d1_6) rfl ((if0 _ _).trans (flt hc2).1) k) ?_
    show own_Fin p e below s _ _ _ (T1.setTop (mkF m 9 #[.val (.ref ad0), .val (.long q1), .second] []))
    refine own_step (fun _ k => XS.lloadN X1.here hx rfl (hb hby own_d1_9) rfl k) ?_
    show own_Fin p e below s _ _ _ (T1.setTop (mkF m 10 #[.val (.ref ad0), .val (.long q1), .second] [(.long q1)]))
    refine own_step (fun _ k => XS.aloadN X1.here hx rfl (hb hby own_d1_10) rfl rfl k) ?_
    show own_Fin p e below s _ _ _ (T1.setTop (mkF m 11 #[.val (.ref ad0), .val (.long q1), .second] [(.ref ad0), (.long q1)]))
    obtain ⟨T3, X3, e3, st3⟩ := getF X1 hx hZ hown (host := "") (Or.inl (own_w hw 10 rfl)) Via.refl e1 F_max_ad0 (g := (mkF m 11 #[.val (.ref ad0), .val (.long q1), .second] [(.ref ad0), (.long q1)])) rfl rfl (hb hby own_d1_11)
    refine own_step st3 ?_
    show own_Fin p e below s _ _ _ (T3.setTop (mkF m 14 #[.val (.ref ad0), .val (.long q1), .second] [(.long wmax_ad0), (.long q1)]))
    refine own_step (fun _ k => XS.lcmp X3.here hx rfl (hb hby own_d1_14) rfl k) ?_
    show own_Fin p e below s _ _ _ (T3.setTop (mkF m 15 #[.val (.ref ad0), .val (.long q1), .second] [(.int (lcmpW q1 wmax_ad0))]))
    by_cases hc4 : (0 : Int32) < (lcmpW q1 wmax_ad0)
    · refine own_step (fun _ k => XS.ifYes X3.here hx rfl (pc0 := 15) (pc' := 22) rfl (hb hby own_d1_15) rfl ((if0 _ _).trans (tlt hc4).2.2.1) (by decide) (by decide) k) ?_
      show own_Fin p e below s _ _ _ (T3.setTop (mkF m 22 #[.val (.ref ad0), .val (.long q1), .second] []))
      refine own_step (fun _ k => XS.iconst X3.here hx rfl (hb hby own_d1_22) k) ?_
      show own_Fin p e below s _ _ _ (T3.setTop (mkF m 23 #[.val (.ref ad0), .val (.long q1), .second] [(.int (0 : Int32))]))
      exact own_ret X3 hlk (v := some (.int (0 : Int32))) (fun h => by rw [Bd.returns] at h; cases h) (by decide) (by decide) (by show own_Q1 Z ad0 q1 wmin_ad0 wmax_ad0 h0 n0 _ T3.heap _; rw [e3]; exact ⟨(congrArg (fun z => some (Value.int z)) (show (own_r1 q1 wmin_ad0 wmax_ad0) = (0 : Int32) from by rw [own_r1, if_neg hc2, if_pos hc4]).symm), N0, rfl⟩) (fun fs hr => retN X3 hx (t := .boolean) Bd.returns (by simp) (hb hby own_d1_23) hr)
    · refine own_step (fun _ k => XS.ifNo X3.here hx rfl (hb hby own_d1_15) rfl ((if0 _ _).trans (flt hc4).2.2.1) k) ?_
      show own_Fin p e below s _ _ _ (T3.setTop (mkF m 18 #[.val (.ref ad0), .val (.long q1), .second] []))
      refine own_step (fun _ k => XS.iconst X3.here hx rfl (hb hby own_d1_18) k) ?_
      show own_Fin p e below s _ _ _ (T3.setTop (mkF m 19 #[.val (.ref ad0), .val (.long q1), .second] [(.int (1 : Int32))]))
      refine own_step (fun _ k => XS.goto X3.here hx rfl (pc0 := 19) (pc' := 23) rfl (hb hby own_d1_19) (by decide) (by decide) k) ?_
      show own_Fin p e below s _ _ _ (T3.setTop (mkF m 23 #[.val (.ref ad0), .val (.long q1), .second] [(.int (1 : Int32))]))
      exact own_ret X3 hlk (v := some (.int (1 : Int32))) (fun h => by rw [Bd.returns] at h; cases h) (by decide) (by decide) (by show own_Q1 Z ad0 q1 wmin_ad0 wmax_ad0 h0 n0 _ T3.heap _; rw [e3]; exact ⟨(congrArg (fun z => some (Value.int z)) (show (own_r1 q1 wmin_ad0 wmax_ad0) = (1 : Int32) from by rw [own_r1, if_neg hc2, if_neg hc4]).symm), N0, rfl⟩) (fun fs hr => retN X3 hx (t := .boolean) Bd.returns (by simp) (hb hby own_d1_23) hr)

theorem own_lt (x y : Int64) : lcmpW x y < (0 : Int32) ↔ x.toInt < y.toInt := (lw_lt x y).trans Int64.lt_iff_toInt_lt
theorem own_gt (x y : Int64) : (0 : Int32) < lcmpW x y ↔ y.toInt < x.toInt := (lw_gt x y).trans Int64.lt_iff_toInt_lt
theorem own_eq (x y : Int64) : lcmpW x y = (0 : Int32) ↔ x.toInt = y.toInt := (lw_eq x y).trans Int64.toInt_inj.symm
theorem own_lawB (x : Int64) : own_r1 x (-128 : Int64) (127 : Int64) = if lcmpW (x.toInt32.toInt8.toInt32.toInt64) x = (0 : Int32) then (1 : Int32) else (0 : Int32) := by
  have h1 := c_l2i x
  have h2 := c_i2b x.toInt32
  have h3 := c_i2l x.toInt32.toInt8.toInt32
  have e1 : (-128 : Int64).toInt = -128 := by decide
  have e2 : (127 : Int64).toInt = 127 := by decide
  simp only [own_r1, own_lt, own_gt, own_eq, e1, e2, h3]
  repeat' split
  all_goals first | rfl | (exfalso; omega)
theorem own_lawS (x : Int64) : own_r1 x (-32768 : Int64) (32767 : Int64) = if lcmpW (x.toInt32.toInt16.toInt32.toInt64) x = (0 : Int32) then (1 : Int32) else (0 : Int32) := by
  have h1 := c_l2i x
  have h2 := c_i2s x.toInt32
  have h3 := c_i2l x.toInt32.toInt16.toInt32
  have e1 : (-32768 : Int64).toInt = -32768 := by decide
  have e2 : (32767 : Int64).toInt = 32767 := by decide
  simp only [own_r1, own_lt, own_gt, own_eq, e1, e2, h3]
  repeat' split
  all_goals first | rfl | (exfalso; omega)
theorem own_lawI (x : Int64) : own_r1 x (-2147483648 : Int64) (2147483647 : Int64) = if lcmpW (x.toInt32.toInt64) x = (0 : Int32) then (1 : Int32) else (0 : Int32) := by
  have h1 := c_l2i x
  have h2 := rng32 x.toInt32
  have h3 := c_i2l x.toInt32
  have e1 : (-2147483648 : Int64).toInt = -2147483648 := by decide
  have e2 : (2147483647 : Int64).toInt = 2147483647 := by decide
  simp only [own_r1, own_lt, own_gt, own_eq, e1, e2, h3]
  repeat' split
  all_goals first | rfl | (exfalso; omega)
theorem own_lawL (x : Int64) : own_r1 x (-9223372036854775808 : Int64) (9223372036854775807 : Int64) = (1 : Int32) := by
  have h2 := rng64 x
  have e1 : (-9223372036854775808 : Int64).toInt = -9223372036854775808 := by decide
  have e2 : (9223372036854775807 : Int64).toInt = 9223372036854775807 := by decide
  simp only [own_r1, own_lt, own_gt, own_eq, e1, e2]
  repeat' split
  all_goals first | rfl | (exfalso; omega)

theorem own_pd0 : parseMethodDescriptor "(J)Z" = some ⟨[.long], some .boolean⟩ := by decide +kernel
abbrev own_y0 : MethodName := (⟨"com/example/castwright/castwright/model/IntegerType", "holds", "(J)Z"⟩ : MethodName)
theorem own_pn1 : plainName "com/example/castwright/castwright/model/IntegerTypeHoldsPinLaw" = true := by first | (simp [plainName, overriddenIn]; done) | decide +kernel
theorem own_ef2 (m : MethodId) (q0 : Int64) (p1 : Int32) : entryFrame m #[(.long q0), (.int p1)] maxLocals = mkF m 0 #[.val (.long q0), .second, .val (.int p1), .unset, .unset, .unset, .unset, .unset, .unset] [] := by first | (simp [entryFrame, mkF, argsToLocals, Value.category, maxLocals]; done) | rfl
def own_Q2 (Z : State) (q0 : Int64) (p1 : Int32) (s_BYTEINT : Addr) (s_SMALLINT : Addr) (s_INTEGER : Addr) (s_BIGINT : Addr) (h0 : Heap) (n0 : Nat) (v : Option Value) (h : Heap) (L : List Loc) : Prop := v = some (.int 1) ∧ Fr n0 L
set_option maxRecDepth 65536 in
set_option maxHeartbeats 40000000 in
theorem own_rm2 (l : Launch) (Z : State) (a0 : Array Value) (hw : ∀ d ∈ tables_1, d.before a0 Z = true) (ws : List Jvm.Cond) (q0 : Int64) (p1 : Int32) (s_BYTEINT : Addr) (s_SMALLINT : Addr) (s_INTEGER : Addr) (s_BIGINT : Addr) (h0 : Heap) (n0 : Nat) (Z0 : n0 ≤ h0.size) (S_BYTEINT : Sta Z h0 "com/example/castwright/castwright/model/IntegerType" "BYTEINT" "Lcom/example/castwright/castwright/model/IntegerType;" (.ref s_BYTEINT)) (E_s_BYTEINT : Exa Z h0 s_BYTEINT "com/example/castwright/castwright/model/IntegerType") (F_min_s_BYTEINT : Fld Z h0 s_BYTEINT "com/example/castwright/castwright/model/IntegerType" "min" "J" (.long (-128 : Int64))) (F_max_s_BYTEINT : Fld Z h0 s_BYTEINT "com/example/castwright/castwright/model/IntegerType" "max" "J" (.long (127 : Int64))) (S_SMALLINT : Sta Z h0 "com/example/castwright/castwright/model/IntegerType" "SMALLINT" "Lcom/example/castwright/castwright/model/IntegerType;" (.ref s_SMALLINT)) (E_s_SMALLINT : Exa Z h0 s_SMALLINT "com/example/castwright/castwright/model/IntegerType") (F_min_s_SMALLINT : Fld Z h0 s_SMALLINT "com/example/castwright/castwright/model/IntegerType" "min" "J" (.long (-32768 : Int64))) (F_max_s_SMALLINT : Fld Z h0 s_SMALLINT "com/example/castwright/castwright/model/IntegerType" "max" "J" (.long (32767 : Int64))) (S_INTEGER : Sta Z h0 "com/example/castwright/castwright/model/IntegerType" "INTEGER" "Lcom/example/castwright/castwright/model/IntegerType;" (.ref s_INTEGER)) (E_s_INTEGER : Exa Z h0 s_INTEGER "com/example/castwright/castwright/model/IntegerType") (F_min_s_INTEGER : Fld Z h0 s_INTEGER "com/example/castwright/castwright/model/IntegerType" "min" "J" (.long (-2147483648 : Int64))) (F_max_s_INTEGER : Fld Z h0 s_INTEGER "com/example/castwright/castwright/model/IntegerType" "max" "J" (.long (2147483647 : Int64))) (S_BIGINT : Sta Z h0 "com/example/castwright/castwright/model/IntegerType" "BIGINT" "Lcom/example/castwright/castwright/model/IntegerType;" (.ref s_BIGINT)) (E_s_BIGINT : Exa Z h0 s_BIGINT "com/example/castwright/castwright/model/IntegerType") (F_min_s_BIGINT : Fld Z h0 s_BIGINT "com/example/castwright/castwright/model/IntegerType" "min" "J" (.long (-9223372036854775808 : Int64))) (F_max_s_BIGINT : Fld Z h0 s_BIGINT "com/example/castwright/castwright/model/IntegerType" "max" "J" (.long (9223372036854775807 : Int64))) :
    MetFree l x (head1 (Jvm.Cond.code x code maxLocals ret :: ws) room_1) (fun a U => a = #[(.long q0), (.int p1)] ∧ Z.Warmed39 U.vm ∧ U.heap = h0) (fun _ _ _ _ _ => True) (fun _ U o U' => ∃ v L, o = .returned v ∧ own_Q2 Z q0 p1 s_BYTEINT s_SMALLINT s_INTEGER s_BIGINT h0 n0 v U'.heap L ∧ FrameEnd U o U' L room_1.cells room_1.slots) := by
  refine MetFree.of_bodySF (plainFor_of_name own_pn1) hisR ?_
  intro p e s m args below meth c s₁ Bd hml0 hP hK
  obtain ⟨rfl, hZ, hh⟩ := hP
  have hx := Bd.exec
  have hby := Bd.bytes
  have hlk := Bd.notSynchronized
  have hml : c.maxLocals = 9 := hml0
  have hown : s.vm.findClass "com/example/castwright/castwright/model/IntegerTypeHoldsPinLaw" = some m.cls := findClass_of_methodNamed Bd.named
  have hnm := (name_of_methodNamed Bd.named Bd.method).1
  have X0 : Stand p l e room_1 s m #[(.long q0), (.int p1)] below meth c s₁ [] 0 0 := Stand.of_body Bd
  have e0 : s₁.heap = h0 := by rw [← hh, Bd.state]; rfl
  have N0 := Fr.nil n0
  have KR : Keep h0 h0 [] := Keep.refl _ _
  show own_Fin p e below s room_1.cells room_1.slots (own_Q2 Z q0 p1 s_BYTEINT s_SMALLINT s_INTEGER s_BIGINT h0 n0) (s₁.setTop (entryFrame m #[(.long q0), (.int p1)] maxLocals))
  refine own_cast (own_ef2 m q0 p1) ?_
  refine own_step (fun _ k => XS.iloadN X0.here hx rfl (hb hby at_0) rfl k) ?_
  show own_Fin p e below s _ _ _ (s₁.setTop (mkF m 1 #[.val (.long q0), .second, .val (.int p1), .unset, .unset, .unset, .unset, .unset, .unset] [(.int p1)]))
  refine own_step (fun _ k => XS.iconst X0.here hx rfl (hb hby at_1) k) ?_
  show own_Fin p e below s _ _ _ (s₁.setTop (mkF m 2 #[.val (.long q0), .second, .val (.int p1), .unset, .unset, .unset, .unset, .unset, .unset] [(.int (2 : Int32)), (.int p1)]))
  refine own_step (fun _ k => XS.iushr X0.here hx rfl (hb hby at_2) rfl k) ?_
  show own_Fin p e below s _ _ _ (s₁.setTop (mkF m 3 #[.val (.long q0), .second, .val (.int p1), .unset, .unset, .unset, .unset, .unset, .unset] [(.int ((p1.toUInt32 >>> ((2 : Int32) &&& 31).toUInt32).toInt32))]))
  refine own_step (fun _ k => XS.bipush X0.here hx rfl (hb hby at_3) k) ?_
  show own_Fin p e below s _ _ _ (s₁.setTop (mkF m 5 #[.val (.long q0), .second, .val (.int p1), .unset, .unset, .unset, .unset, .unset, .unset] [(.int (63 : Int32)), (.int ((p1.toUInt32 >>> ((2 : Int32) &&& 31).toUInt32).toInt32))]))
  refine own_step (fun _ k => XS.iand X0.here hx rfl (hb hby at_5) rfl k) ?_
  show own_Fin p e below s _ _ _ (s₁.setTop (mkF m 6 #[.val (.long q0), .second, .val (.int p1), .unset, .unset, .unset, .unset, .unset, .unset] [(.int (((p1.toUInt32 >>> ((2 : Int32) &&& 31).toUInt32).toInt32) &&& (63 : Int32)))]))
  refine own_step (fun _ k => XS.istoreN X0.here hx rfl (hb hby at_6) rfl (l' := #[.val (.long q0), .second, .val (.int p1), .val (.int (((p1.toUInt32 >>> ((2 : Int32) &&& 31).toUInt32).toInt32) &&& (63 : Int32))), .unset, .unset, .unset, .unset, .unset]) rfl k) ?_
  show own_Fin p e below s _ _ _ (s₁.setTop (mkF m 7 #[.val (.long q0), .second, .val (.int p1), .val (.int (((p1.toUInt32 >>> ((2 : Int32) &&& 31).toUInt32).toInt32) &&& (63 : Int32))), .unset, .unset, .unset, .unset, .unset] []))
  refine own_step (fun _ k => XS.lloadN X0.here hx rfl (hb hby at_7) rfl k) ?_
  show own_Fin p e below s _ _ _ (s₁.setTop (mkF m 8 #[.val (.long q0), .second, .val (.int p1), .val (.int (((p1.toUInt32 >>> ((2 : Int32) &&& 31).toUInt32).toInt32) &&& (63 : Int32))), .unset, .unset, .unset, .unset, .unset] [(.long q0)]))
  refine own_step (fun _ k => XS.iloadN X0.here hx rfl (hb hby at_8) rfl k) ?_
  show own_Fin p e below s _ _ _ (s₁.setTop (mkF m 9 #[.val (.long q0), .second, .val (.int p1), .val (.int (((p1.toUInt32 >>> ((2 : Int32) &&& 31).toUInt32).toInt32) &&& (63 : Int32))), .unset, .unset, .unset, .unset, .unset] [(.int (((p1.toUInt32 >>> ((2 : Int32) &&& 31).toUInt32).toInt32) &&& (63 : Int32))), (.long q0)]))
  refine own_step (fun _ k => XS.lshr X0.here hx rfl (hb hby at_9) rfl k) ?_
  show own_Fin p e below s _ _ _ (s₁.setTop (mkF m 10 #[.val (.long q0), .second, .val (.int p1), .val (.int (((p1.toUInt32 >>> ((2 : Int32) &&& 31).toUInt32).toInt32) &&& (63 : Int32))), .unset, .unset, .unset, .unset, .unset] [(.long (q0 >>> ((((p1.toUInt32 >>> ((2 : Int32) &&& 31).toUInt32).toInt32) &&& (63 : Int32)) &&& 0x3f).toInt64))]))
  refine own_step (fun _ k => XS.lstore X0.here hx rfl (hb hby at_10) rfl (l' := #[.val (.long q0), .second, .val (.int p1), .val (.int (((p1.toUInt32 >>> ((2 : Int32) &&& 31).toUInt32).toInt32) &&& (63 : Int32))), .val (.long (q0 >>> ((((p1.toUInt32 >>> ((2 : Int32) &&& 31).toUInt32).toInt32) &&& (63 : Int32)) &&& 0x3f).toInt64)), .second, .unset, .unset, .unset]) rfl k) ?_
  show own_Fin p e below s _ _ _ (s₁.setTop (mkF m 12 #[.val (.long q0), .second, .val (.int p1), .val (.int (((p1.toUInt32 >>> ((2 : Int32) &&& 31).toUInt32).toInt32) &&& (63 : Int32))), .val (.long (q0 >>> ((((p1.toUInt32 >>> ((2 : Int32) &&& 31).toUInt32).toInt32) &&& (63 : Int32)) &&& 0x3f).toInt64)), .second, .unset, .unset, .unset] []))
  refine own_step (fun _ k => XS.iloadN X0.here hx rfl (hb hby at_12) rfl k) ?_
  show own_Fin p e below s _ _ _ (s₁.setTop (mkF m 13 #[.val (.long q0), .second, .val (.int p1), .val (.int (((p1.toUInt32 >>> ((2 : Int32) &&& 31).toUInt32).toInt32) &&& (63 : Int32))), .val (.long (q0 >>> ((((p1.toUInt32 >>> ((2 : Int32) &&& 31).toUInt32).toInt32) &&& (63 : Int32)) &&& 0x3f).toInt64)), .second, .unset, .unset, .unset] [(.int p1)]))
  refine own_step (fun _ k => XS.iconst X0.here hx rfl (hb hby at_13) k) ?_
  show own_Fin p e below s _ _ _ (s₁.setTop (mkF m 14 #[.val (.long q0), .second, .val (.int p1), .val (.int (((p1.toUInt32 >>> ((2 : Int32) &&& 31).toUInt32).toInt32) &&& (63 : Int32))), .val (.long (q0 >>> ((((p1.toUInt32 >>> ((2 : Int32) &&& 31).toUInt32).toInt32) &&& (63 : Int32)) &&& 0x3f).toInt64)), .second, .unset, .unset, .unset] [(.int (3 : Int32)), (.int p1)]))
  refine own_step (fun _ k => XS.iand X0.here hx rfl (hb hby at_14) rfl k) ?_
  show own_Fin p e below s _ _ _ (s₁.setTop (mkF m 15 #[.val (.long q0), .second, .val (.int p1), .val (.int (((p1.toUInt32 >>> ((2 : Int32) &&& 31).toUInt32).toInt32) &&& (63 : Int32))), .val (.long (q0 >>> ((((p1.toUInt32 >>> ((2 : Int32) &&& 31).toUInt32).toInt32) &&& (63 : Int32)) &&& 0x3f).toInt64)), .second, .unset, .unset, .unset] [(.int (p1 &&& (3 : Int32)))]))
  refine own_step (fun _ k => XS.istore X0.here hx rfl (hb hby at_15) rfl (l' := #[.val (.long q0), .second, .val (.int p1), .val (.int (((p1.toUInt32 >>> ((2 : Int32) &&& 31).toUInt32).toInt32) &&& (63 : Int32))), .val (.long (q0 >>> ((((p1.toUInt32 >>> ((2 : Int32) &&& 31).toUInt32).toInt32) &&& (63 : Int32)) &&& 0x3f).toInt64)), .second, .val (.int (p1 &&& (3 : Int32))), .unset, .unset]) rfl k) ?_
  show own_Fin p e below s _ _ _ (s₁.setTop (mkF m 17 #[.val (.long q0), .second, .val (.int p1), .val (.int (((p1.toUInt32 >>> ((2 : Int32) &&& 31).toUInt32).toInt32) &&& (63 : Int32))), .val (.long (q0 >>> ((((p1.toUInt32 >>> ((2 : Int32) &&& 31).toUInt32).toInt32) &&& (63 : Int32)) &&& 0x3f).toInt64)), .second, .val (.int (p1 &&& (3 : Int32))), .unset, .unset] []))
  refine own_step (fun _ k => XS.iload X0.here hx rfl (hb hby at_17) rfl k) ?_
  show own_Fin p e below s _ _ _ (s₁.setTop (mkF m 19 #[.val (.long q0), .second, .val (.int p1), .val (.int (((p1.toUInt32 >>> ((2 : Int32) &&& 31).toUInt32).toInt32) &&& (63 : Int32))), .val (.long (q0 >>> ((((p1.toUInt32 >>> ((2 : Int32) &&& 31).toUInt32).toInt32) &&& (63 : Int32)) &&& 0x3f).toInt64)), .second, .val (.int (p1 &&& (3 : Int32))), .unset, .unset] [(.int (p1 &&& (3 : Int32)))]))
  by_cases hc1 : (p1 &&& (3 : Int32)) = (0 : Int32)
  · refine own_step (fun _ k => XS.ifNo X0.here hx rfl (hb hby at_19) rfl ((if0 _ _).trans (teq hc1).2) k) ?_
    show own_Fin p e below s _ _ _ (s₁.setTop (mkF m 22 #[.val (.long q0), .second, .val (.int p1), .val (.int (((p1.toUInt32 >>> ((2 : Int32) &&& 31).toUInt32).toInt32) &&& (63 : Int32))), .val (.long (q0 >>> ((((p1.toUInt32 >>> ((2 : Int32) &&& 31).toUInt32).toInt32) &&& (63 : Int32)) &&& 0x3f).toInt64)), .second, .val (.int (p1 &&& (3 : Int32))), .unset, .unset] []))
    obtain ⟨T2, X2, e2, st2⟩ := getS2 X0 hx hZ hown (host := "") (Or.inl (own_w hw 12 rfl)) Via.refl e0 S_BYTEINT (g := (mkF m 22 #[.val (.long q0), .second, .val (.int p1), .val (.int (((p1.toUInt32 >>> ((2 : Int32) &&& 31).toUInt32).toInt32) &&& (63 : Int32))), .val (.long (q0 >>> ((((p1.toUInt32 >>> ((2 : Int32) &&& 31).toUInt32).toInt32) &&& (63 : Int32)) &&& 0x3f).toInt64)), .second, .val (.int (p1 &&& (3 : Int32))), .unset, .unset] [])) rfl (hb hby at_22)
    refine own_step st2 ?_
    show own_Fin p e below s _ _ _ (T2.setTop (mkF m 25 #[.val (.long q0), .second, .val (.int p1), .val (.int (((p1.toUInt32 >>> ((2 : Int32) &&& 31).toUInt32).toInt32) &&& (63 : Int32))), .val (.long (q0 >>> ((((p1.toUInt32 >>> ((2 : Int32) &&& 31).toUInt32).toInt32) &&& (63 : Int32)) &&& 0x3f).toInt64)), .second, .val (.int (p1 &&& (3 : Int32))), .unset, .unset] [(.ref s_BYTEINT)]))
    refine own_step (fun _ k => XS.astore X2.here hx rfl (hb hby at_25) rfl rfl (l' := #[.val (.long q0), .second, .val (.int p1), .val (.int (((p1.toUInt32 >>> ((2 : Int32) &&& 31).toUInt32).toInt32) &&& (63 : Int32))), .val (.long (q0 >>> ((((p1.toUInt32 >>> ((2 : Int32) &&& 31).toUInt32).toInt32) &&& (63 : Int32)) &&& 0x3f).toInt64)), .second, .val (.int (p1 &&& (3 : Int32))), .val (.ref s_BYTEINT), .unset]) rfl k) ?_
    show own_Fin p e below s _ _ _ (T2.setTop (mkF m 27 #[.val (.long q0), .second, .val (.int p1), .val (.int (((p1.toUInt32 >>> ((2 : Int32) &&& 31).toUInt32).toInt32) &&& (63 : Int32))), .val (.long (q0 >>> ((((p1.toUInt32 >>> ((2 : Int32) &&& 31).toUInt32).toInt32) &&& (63 : Int32)) &&& 0x3f).toInt64)), .second, .val (.int (p1 &&& (3 : Int32))), .val (.ref s_BYTEINT), .unset] []))
    refine own_step (fun _ k => XS.lload X2.here hx rfl (hb hby at_27) rfl k) ?_
    show own_Fin p e below s _ _ _ (T2.setTop (mkF m 29 #[.val (.long q0), .second, .val (.int p1), .val (.int (((p1.toUInt32 >>> ((2 : Int32) &&& 31).toUInt32).toInt32) &&& (63 : Int32))), .val (.long (q0 >>> ((((p1.toUInt32 >>> ((2 : Int32) &&& 31).toUInt32).toInt32) &&& (63 : Int32)) &&& 0x3f).toInt64)), .second, .val (.int (p1 &&& (3 : Int32))), .val (.ref s_BYTEINT), .unset] [(.long (q0 >>> ((((p1.toUInt32 >>> ((2 : Int32) &&& 31).toUInt32).toInt32) &&& (63 : Int32)) &&& 0x3f).toInt64))]))
    refine own_step (fun _ k => XS.l2i X2.here hx rfl (hb hby at_29) rfl k) ?_
    show own_Fin p e below s _ _ _ (T2.setTop (mkF m 30 #[.val (.long q0), .second, .val (.int p1), .val (.int (((p1.toUInt32 >>> ((2 : Int32) &&& 31).toUInt32).toInt32) &&& (63 : Int32))), .val (.long (q0 >>> ((((p1.toUInt32 >>> ((2 : Int32) &&& 31).toUInt32).toInt32) &&& (63 : Int32)) &&& 0x3f).toInt64)), .second, .val (.int (p1 &&& (3 : Int32))), .val (.ref s_BYTEINT), .unset] [(.int ((q0 >>> ((((p1.toUInt32 >>> ((2 : Int32) &&& 31).toUInt32).toInt32) &&& (63 : Int32)) &&& 0x3f).toInt64).toInt32))]))
    refine own_step (fun _ k => XS.i2b X2.here hx rfl (hb hby at_30) rfl k) ?_
    show own_Fin p e below s _ _ _ (T2.setTop (mkF m 31 #[.val (.long q0), .second, .val (.int p1), .val (.int (((p1.toUInt32 >>> ((2 : Int32) &&& 31).toUInt32).toInt32) &&& (63 : Int32))), .val (.long (q0 >>> ((((p1.toUInt32 >>> ((2 : Int32) &&& 31).toUInt32).toInt32) &&& (63 : Int32)) &&& 0x3f).toInt64)), .second, .val (.int (p1 &&& (3 : Int32))), .val (.ref s_BYTEINT), .unset] [(.int (((q0 >>> ((((p1.toUInt32 >>> ((2 : Int32) &&& 31).toUInt32).toInt32) &&& (63 : Int32)) &&& 0x3f).toInt64).toInt32).toInt8.toInt32))]))
    refine own_step (fun _ k => XS.i2l X2.here hx rfl (hb hby at_31) rfl k) ?_
    show own_Fin p e below s _ _ _ (T2.setTop (mkF m 32 #[.val (.long q0), .second, .val (.int p1), .val (.int (((p1.toUInt32 >>> ((2 : Int32) &&& 31).toUInt32).toInt32) &&& (63 : Int32))), .val (.long (q0 >>> ((((p1.toUInt32 >>> ((2 : Int32) &&& 31).toUInt32).toInt32) &&& (63 : Int32)) &&& 0x3f).toInt64)), .second, .val (.int (p1 &&& (3 : Int32))), .val (.ref s_BYTEINT), .unset] [(.long ((((q0 >>> ((((p1.toUInt32 >>> ((2 : Int32) &&& 31).toUInt32).toInt32) &&& (63 : Int32)) &&& 0x3f).toInt64).toInt32).toInt8.toInt32).toInt64))]))
    refine own_step (fun _ k => XS.lload X2.here hx rfl (hb hby at_32) rfl k) ?_
    show own_Fin p e below s _ _ _ (T2.setTop (mkF m 34 #[.val (.long q0), .second, .val (.int p1), .val (.int (((p1.toUInt32 >>> ((2 : Int32) &&& 31).toUInt32).toInt32) &&& (63 : Int32))), .val (.long (q0 >>> ((((p1.toUInt32 >>> ((2 : Int32) &&& 31).toUInt32).toInt32) &&& (63 : Int32)) &&& 0x3f).toInt64)), .second, .val (.int (p1 &&& (3 : Int32))), .val (.ref s_BYTEINT), .unset] [(.long (q0 >>> ((((p1.toUInt32 >>> ((2 : Int32) &&& 31).toUInt32).toInt32) &&& (63 : Int32)) &&& 0x3f).toInt64)), (.long ((((q0 >>> ((((p1.toUInt32 >>> ((2 : Int32) &&& 31).toUInt32).toInt32) &&& (63 : Int32)) &&& 0x3f).toInt64).toInt32).toInt8.toInt32).toInt64))]))
    refine own_step (fun _ k => XS.lcmp X2.here hx rfl (hb hby at_34) rfl k) ?_
    show own_Fin p e below s _ _ _ (T2.setTop (mkF m 35 #[.val (.long q0), .second, .val (.int p1), .val (.int (((p1.toUInt32 >>> ((2 : Int32) &&& 31).toUInt32).toInt32) &&& (63 : Int32))), .val (.long (q0 >>> ((((p1.toUInt32 >>> ((2 : Int32) &&& 31).toUInt32).toInt32) &&& (63 : Int32)) &&& 0x3f).toInt64)), .second, .val (.int (p1 &&& (3 : Int32))), .val (.ref s_BYTEINT), .unset] [(.int (lcmpW ((((q0 >>> ((((p1.toUInt32 >>> ((2 : Int32) &&& 31).toUInt32).toInt32) &&& (63 : Int32)) &&& 0x3f).toInt64).toInt32).toInt8.toInt32).toInt64) (q0 >>> ((((p1.toUInt32 >>> ((2 : Int32) &&& 31).toUInt32).toInt32) &&& (63 : Int32)) &&& 0x3f).toInt64)))]))
    by_cases hc3 : (lcmpW ((((q0 >>> ((((p1.toUInt32 >>> ((2 : Int32) &&& 31).toUInt32).toInt32) &&& (63 : Int32)) &&& 0x3f).toInt64).toInt32).toInt8.toInt32).toInt64) (q0 >>> ((((p1.toUInt32 >>> ((2 : Int32) &&& 31).toUInt32).toInt32) &&& (63 : Int32)) &&& 0x3f).toInt64)) = (0 : Int32)
    · refine own_step (fun _ k => XS.ifNo X2.here hx rfl (hb hby at_35) rfl ((if0 _ _).trans (teq hc3).2) k) ?_
      show own_Fin p e below s _ _ _ (T2.setTop (mkF m 38 #[.val (.long q0), .second, .val (.int p1), .val (.int (((p1.toUInt32 >>> ((2 : Int32) &&& 31).toUInt32).toInt32) &&& (63 : Int32))), .val (.long (q0 >>> ((((p1.toUInt32 >>> ((2 : Int32) &&& 31).toUInt32).toInt32) &&& (63 : Int32)) &&& 0x3f).toInt64)), .second, .val (.int (p1 &&& (3 : Int32))), .val (.ref s_BYTEINT), .unset] []))
      refine own_step (fun _ k => XS.iconst X2.here hx rfl (hb hby at_38) k) ?_
      show own_Fin p e below s _ _ _ (T2.setTop (mkF m 39 #[.val (.long q0), .second, .val (.int p1), .val (.int (((p1.toUInt32 >>> ((2 : Int32) &&& 31).toUInt32).toInt32) &&& (63 : Int32))), .val (.long (q0 >>> ((((p1.toUInt32 >>> ((2 : Int32) &&& 31).toUInt32).toInt32) &&& (63 : Int32)) &&& 0x3f).toInt64)), .second, .val (.int (p1 &&& (3 : Int32))), .val (.ref s_BYTEINT), .unset] [(.int (1 : Int32))]))
      refine own_step (fun _ k => XS.goto X2.here hx rfl (pc0 := 39) (pc' := 43) rfl (hb hby at_39) (by decide) (by decide) k) ?_
      show own_Fin p e below s _ _ _ (T2.setTop (mkF m 43 #[.val (.long q0), .second, .val (.int p1), .val (.int (((p1.toUInt32 >>> ((2 : Int32) &&& 31).toUInt32).toInt32) &&& (63 : Int32))), .val (.long (q0 >>> ((((p1.toUInt32 >>> ((2 : Int32) &&& 31).toUInt32).toInt32) &&& (63 : Int32)) &&& 0x3f).toInt64)), .second, .val (.int (p1 &&& (3 : Int32))), .val (.ref s_BYTEINT), .unset] [(.int (1 : Int32))]))
      refine own_step (fun _ k => XS.istore X2.here hx rfl (hb hby at_43) rfl (l' := #[.val (.long q0), .second, .val (.int p1), .val (.int (((p1.toUInt32 >>> ((2 : Int32) &&& 31).toUInt32).toInt32) &&& (63 : Int32))), .val (.long (q0 >>> ((((p1.toUInt32 >>> ((2 : Int32) &&& 31).toUInt32).toInt32) &&& (63 : Int32)) &&& 0x3f).toInt64)), .second, .val (.int (p1 &&& (3 : Int32))), .val (.ref s_BYTEINT), .val (.int (1 : Int32))]) rfl k) ?_
      show own_Fin p e below s _ _ _ (T2.setTop (mkF m 45 #[.val (.long q0), .second, .val (.int p1), .val (.int (((p1.toUInt32 >>> ((2 : Int32) &&& 31).toUInt32).toInt32) &&& (63 : Int32))), .val (.long (q0 >>> ((((p1.toUInt32 >>> ((2 : Int32) &&& 31).toUInt32).toInt32) &&& (63 : Int32)) &&& 0x3f).toInt64)), .second, .val (.int (p1 &&& (3 : Int32))), .val (.ref s_BYTEINT), .val (.int (1 : Int32))] []))
      refine own_step (fun _ k => XS.goto X2.here hx rfl (pc0 := 45) (pc' := 119) rfl (hb hby at_45) (by decide) (by decide) k) ?_
      show own_Fin p e below s _ _ _ (T2.setTop (mkF m 119 #[.val (.long q0), .second, .val (.int p1), .val (.int (((p1.toUInt32 >>> ((2 : Int32) &&& 31).toUInt32).toInt32) &&& (63 : Int32))), .val (.long (q0 >>> ((((p1.toUInt32 >>> ((2 : Int32) &&& 31).toUInt32).toInt32) &&& (63 : Int32)) &&& 0x3f).toInt64)), .second, .val (.int (p1 &&& (3 : Int32))), .val (.ref s_BYTEINT), .val (.int (1 : Int32))] []))
      refine own_step (fun _ k => XS.aload X2.here hx rfl (hb hby at_119) rfl rfl k) ?_
      show own_Fin p e below s _ _ _ (T2.setTop (mkF m 121 #[.val (.long q0), .second, .val (.int p1), .val (.int (((p1.toUInt32 >>> ((2 : Int32) &&& 31).toUInt32).toInt32) &&& (63 : Int32))), .val (.long (q0 >>> ((((p1.toUInt32 >>> ((2 : Int32) &&& 31).toUInt32).toInt32) &&& (63 : Int32)) &&& 0x3f).toInt64)), .second, .val (.int (p1 &&& (3 : Int32))), .val (.ref s_BYTEINT), .val (.int (1 : Int32))] [(.ref s_BYTEINT)]))
      refine own_step (fun _ k => XS.lload X2.here hx rfl (hb hby at_121) rfl k) ?_
      show own_Fin p e below s _ _ _ (T2.setTop (mkF m 123 #[.val (.long q0), .second, .val (.int p1), .val (.int (((p1.toUInt32 >>> ((2 : Int32) &&& 31).toUInt32).toInt32) &&& (63 : Int32))), .val (.long (q0 >>> ((((p1.toUInt32 >>> ((2 : Int32) &&& 31).toUInt32).toInt32) &&& (63 : Int32)) &&& 0x3f).toInt64)), .second, .val (.int (p1 &&& (3 : Int32))), .val (.ref s_BYTEINT), .val (.int (1 : Int32))] [(.long (q0 >>> ((((p1.toUInt32 >>> ((2 : Int32) &&& 31).toUInt32).toInt32) &&& (63 : Int32)) &&& 0x3f).toInt64)), (.ref s_BYTEINT)]))
      obtain ⟨cq4, kq4, q4a, q4b, q4c⟩ := isOf hZ e2 E_s_BYTEINT
      obtain ⟨_, _, ⟨T4, L4, k4, n4⟩, -, X4, ⟨Lc4, hQ4, l4, y4, z4⟩, st4⟩ := X2.virtualBack hx (y := own_y0) (z := own_y0) hown (mvT hZ (own_w hw 3 rfl)) (mvT hZ (own_w hw 4 rfl)) (notFace_of_selects (args := #[]) (mvT hZ (own_w hw 6 rfl))) (mvT hZ (own_w hw 6 rfl)) (mvT hZ (own_w hw 5 rfl)) (by decide) (backOf (W := 0) (own_rm1 l Z a0 hw [] s_BYTEINT ((q0 >>> ((((p1.toUInt32 >>> ((2 : Int32) &&& 31).toUInt32).toInt32) &&& (63 : Int32)) &&& 0x3f).toInt64)) ((-128 : Int64)) ((127 : Int64)) h0 n0 Z0 F_min_s_BYTEINT F_max_s_BYTEINT) hZ (own_w hw 7 rfl) (own_w hw 1 rfl) (by decide) (by decide)) q4a q4c (g := (mkF m 123 #[.val (.long q0), .second, .val (.int p1), .val (.int (((p1.toUInt32 >>> ((2 : Int32) &&& 31).toUInt32).toInt32) &&& (63 : Int32))), .val (.long (q0 >>> ((((p1.toUInt32 >>> ((2 : Int32) &&& 31).toUInt32).toInt32) &&& (63 : Int32)) &&& 0x3f).toInt64)), .second, .val (.int (p1 &&& (3 : Int32))), .val (.ref s_BYTEINT), .val (.int (1 : Int32))] [(.long (q0 >>> ((((p1.toUInt32 >>> ((2 : Int32) &&& 31).toUInt32).toInt32) &&& (63 : Int32)) &&& 0x3f).toInt64)), (.ref s_BYTEINT)])) rfl (by rw [hml]; rfl) (Steps.refl _) (argsL := [(.long (q0 >>> ((((p1.toUInt32 >>> ((2 : Int32) &&& 31).toUInt32).toInt32) &&& (63 : Int32)) &&& 0x3f).toInt64))]) (rest := []) (lenOf own_pd0 rfl) rfl (by show 2 * 0 + _ ≤ _; exact Nat.le_of_eq rfl) (hb hby at_123) (fun _ _ => ⟨rfl, e2, (by decide : 0 + 0 ≤ _), (by decide : 0 + 0 ≤ _)⟩)
      dsimp only [Pt.U, Pt.locs, Pt.cells, Pt.slots] at X4 l4 y4 z4 st4 hQ4
      subst l4 y4 z4
      obtain ⟨rfl, N4q, e4⟩ := hQ4
      have N4 := Fr.app N0 N4q
      refine own_step (fun _ k => st4.trans k) ?_
      show own_Fin p e below s _ _ _ (T4.setTop (mkF m 126 #[.val (.long q0), .second, .val (.int p1), .val (.int (((p1.toUInt32 >>> ((2 : Int32) &&& 31).toUInt32).toInt32) &&& (63 : Int32))), .val (.long (q0 >>> ((((p1.toUInt32 >>> ((2 : Int32) &&& 31).toUInt32).toInt32) &&& (63 : Int32)) &&& 0x3f).toInt64)), .second, .val (.int (p1 &&& (3 : Int32))), .val (.ref s_BYTEINT), .val (.int (1 : Int32))] [(.int (own_r1 (q0 >>> ((((p1.toUInt32 >>> ((2 : Int32) &&& 31).toUInt32).toInt32) &&& (63 : Int32)) &&& 0x3f).toInt64) (-128 : Int64) (127 : Int64)))]))
      refine own_step (fun _ k => XS.iload X4.here hx rfl (hb hby at_126) rfl k) ?_
      show own_Fin p e below s _ _ _ (T4.setTop (mkF m 128 #[.val (.long q0), .second, .val (.int p1), .val (.int (((p1.toUInt32 >>> ((2 : Int32) &&& 31).toUInt32).toInt32) &&& (63 : Int32))), .val (.long (q0 >>> ((((p1.toUInt32 >>> ((2 : Int32) &&& 31).toUInt32).toInt32) &&& (63 : Int32)) &&& 0x3f).toInt64)), .second, .val (.int (p1 &&& (3 : Int32))), .val (.ref s_BYTEINT), .val (.int (1 : Int32))] [(.int (1 : Int32)), (.int (own_r1 (q0 >>> ((((p1.toUInt32 >>> ((2 : Int32) &&& 31).toUInt32).toInt32) &&& (63 : Int32)) &&& 0x3f).toInt64) (-128 : Int64) (127 : Int64)))]))
      have hf5 : (own_r1 (q0 >>> ((((p1.toUInt32 >>> ((2 : Int32) &&& 31).toUInt32).toInt32) &&& (63 : Int32)) &&& 0x3f).toInt64) (-128 : Int64) (127 : Int64)) = (1 : Int32) := (own_lawB _).trans (if_pos hc3)
      refine own_step (fun _ k => XS.icmpNo X4.here hx rfl (hb hby at_128) rfl (teq hf5).2 k) ?_
      show own_Fin p e below s _ _ _ (T4.setTop (mkF m 131 #[.val (.long q0), .second, .val (.int p1), .val (.int (((p1.toUInt32 >>> ((2 : Int32) &&& 31).toUInt32).toInt32) &&& (63 : Int32))), .val (.long (q0 >>> ((((p1.toUInt32 >>> ((2 : Int32) &&& 31).toUInt32).toInt32) &&& (63 : Int32)) &&& 0x3f).toInt64)), .second, .val (.int (p1 &&& (3 : Int32))), .val (.ref s_BYTEINT), .val (.int (1 : Int32))] []))
      refine own_step (fun _ k => XS.iconst X4.here hx rfl (hb hby at_131) k) ?_
      show own_Fin p e below s _ _ _ (T4.setTop (mkF m 132 #[.val (.long q0), .second, .val (.int p1), .val (.int (((p1.toUInt32 >>> ((2 : Int32) &&& 31).toUInt32).toInt32) &&& (63 : Int32))), .val (.long (q0 >>> ((((p1.toUInt32 >>> ((2 : Int32) &&& 31).toUInt32).toInt32) &&& (63 : Int32)) &&& 0x3f).toInt64)), .second, .val (.int (p1 &&& (3 : Int32))), .val (.ref s_BYTEINT), .val (.int (1 : Int32))] [(.int (1 : Int32))]))
      refine own_step (fun _ k => XS.goto X4.here hx rfl (pc0 := 132) (pc' := 136) rfl (hb hby at_132) (by decide) (by decide) k) ?_
      show own_Fin p e below s _ _ _ (T4.setTop (mkF m 136 #[.val (.long q0), .second, .val (.int p1), .val (.int (((p1.toUInt32 >>> ((2 : Int32) &&& 31).toUInt32).toInt32) &&& (63 : Int32))), .val (.long (q0 >>> ((((p1.toUInt32 >>> ((2 : Int32) &&& 31).toUInt32).toInt32) &&& (63 : Int32)) &&& 0x3f).toInt64)), .second, .val (.int (p1 &&& (3 : Int32))), .val (.ref s_BYTEINT), .val (.int (1 : Int32))] [(.int (1 : Int32))]))
      exact own_ret X4 hlk (v := some (.int (1 : Int32))) (fun h => by rw [Bd.returns] at h; cases h) (by decide) (by decide) (by show own_Q2 Z q0 p1 s_BYTEINT s_SMALLINT s_INTEGER s_BIGINT h0 n0 _ T4.heap _; rw [e4]; exact ⟨rfl, N4⟩) (fun fs hr => retN X4 hx (t := .boolean) Bd.returns (by simp) (hb hby at_136) hr)
    · refine own_step (fun _ k => XS.ifYes X2.here hx rfl (pc0 := 35) (pc' := 42) rfl (hb hby at_35) rfl ((if0 _ _).trans (feq hc3).2) (by decide) (by decide) k) ?_
      show own_Fin p e below s _ _ _ (T2.setTop (mkF m 42 #[.val (.long q0), .second, .val (.int p1), .val (.int (((p1.toUInt32 >>> ((2 : Int32) &&& 31).toUInt32).toInt32) &&& (63 : Int32))), .val (.long (q0 >>> ((((p1.toUInt32 >>> ((2 : Int32) &&& 31).toUInt32).toInt32) &&& (63 : Int32)) &&& 0x3f).toInt64)), .second, .val (.int (p1 &&& (3 : Int32))), .val (.ref s_BYTEINT), .unset] []))
      refine own_step (fun _ k => XS.iconst X2.here hx rfl (hb hby at_42) k) ?_
      show own_Fin p e below s _ _ _ (T2.setTop (mkF m 43 #[.val (.long q0), .second, .val (.int p1), .val (.int (((p1.toUInt32 >>> ((2 : Int32) &&& 31).toUInt32).toInt32) &&& (63 : Int32))), .val (.long (q0 >>> ((((p1.toUInt32 >>> ((2 : Int32) &&& 31).toUInt32).toInt32) &&& (63 : Int32)) &&& 0x3f).toInt64)), .second, .val (.int (p1 &&& (3 : Int32))), .val (.ref s_BYTEINT), .unset] [(.int (0 : Int32))]))
      refine own_step (fun _ k => XS.istore X2.here hx rfl (hb hby at_43) rfl (l' := #[.val (.long q0), .second, .val (.int p1), .val (.int (((p1.toUInt32 >>> ((2 : Int32) &&& 31).toUInt32).toInt32) &&& (63 : Int32))), .val (.long (q0 >>> ((((p1.toUInt32 >>> ((2 : Int32) &&& 31).toUInt32).toInt32) &&& (63 : Int32)) &&& 0x3f).toInt64)), .second, .val (.int (p1 &&& (3 : Int32))), .val (.ref s_BYTEINT), .val (.int (0 : Int32))]) rfl k) ?_
      show own_Fin p e below s _ _ _ (T2.setTop (mkF m 45 #[.val (.long q0), .second, .val (.int p1), .val (.int (((p1.toUInt32 >>> ((2 : Int32) &&& 31).toUInt32).toInt32) &&& (63 : Int32))), .val (.long (q0 >>> ((((p1.toUInt32 >>> ((2 : Int32) &&& 31).toUInt32).toInt32) &&& (63 : Int32)) &&& 0x3f).toInt64)), .second, .val (.int (p1 &&& (3 : Int32))), .val (.ref s_BYTEINT), .val (.int (0 : Int32))] []))
      refine own_step (fun _ k => XS.goto X2.here hx rfl (pc0 := 45) (pc' := 119) rfl (hb hby at_45) (by decide) (by decide) k) ?_
      show own_Fin p e below s _ _ _ (T2.setTop (mkF m 119 #[.val (.long q0), .second, .val (.int p1), .val (.int (((p1.toUInt32 >>> ((2 : Int32) &&& 31).toUInt32).toInt32) &&& (63 : Int32))), .val (.long (q0 >>> ((((p1.toUInt32 >>> ((2 : Int32) &&& 31).toUInt32).toInt32) &&& (63 : Int32)) &&& 0x3f).toInt64)), .second, .val (.int (p1 &&& (3 : Int32))), .val (.ref s_BYTEINT), .val (.int (0 : Int32))] []))
      refine own_step (fun _ k => XS.aload X2.here hx rfl (hb hby at_119) rfl rfl k) ?_
      show own_Fin p e below s _ _ _ (T2.setTop (mkF m 121 #[.val (.long q0), .second, .val (.int p1), .val (.int (((p1.toUInt32 >>> ((2 : Int32) &&& 31).toUInt32).toInt32) &&& (63 : Int32))), .val (.long (q0 >>> ((((p1.toUInt32 >>> ((2 : Int32) &&& 31).toUInt32).toInt32) &&& (63 : Int32)) &&& 0x3f).toInt64)), .second, .val (.int (p1 &&& (3 : Int32))), .val (.ref s_BYTEINT), .val (.int (0 : Int32))] [(.ref s_BYTEINT)]))
      refine own_step (fun _ k => XS.lload X2.here hx rfl (hb hby at_121) rfl k) ?_
      show own_Fin p e below s _ _ _ (T2.setTop (mkF m 123 #[.val (.long q0), .second, .val (.int p1), .val (.int (((p1.toUInt32 >>> ((2 : Int32) &&& 31).toUInt32).toInt32) &&& (63 : Int32))), .val (.long (q0 >>> ((((p1.toUInt32 >>> ((2 : Int32) &&& 31).toUInt32).toInt32) &&& (63 : Int32)) &&& 0x3f).toInt64)), .second, .val (.int (p1 &&& (3 : Int32))), .val (.ref s_BYTEINT), .val (.int (0 : Int32))] [(.long (q0 >>> ((((p1.toUInt32 >>> ((2 : Int32) &&& 31).toUInt32).toInt32) &&& (63 : Int32)) &&& 0x3f).toInt64)), (.ref s_BYTEINT)]))
      obtain ⟨cq6, kq6, q6a, q6b, q6c⟩ := isOf hZ e2 E_s_BYTEINT
      obtain ⟨_, _, ⟨T6, L6, k6, n6⟩, -, X6, ⟨Lc6, hQ6, l6, y6, z6⟩, st6⟩ := X2.virtualBack hx (y := own_y0) (z := own_y0) hown (mvT hZ (own_w hw 3 rfl)) (mvT hZ (own_w hw 4 rfl)) (notFace_of_selects (args := #[]) (mvT hZ (own_w hw 6 rfl))) (mvT hZ (own_w hw 6 rfl)) (mvT hZ (own_w hw 5 rfl)) (by decide) (backOf (W := 0) (own_rm1 l Z a0 hw [] s_BYTEINT ((q0 >>> ((((p1.toUInt32 >>> ((2 : Int32) &&& 31).toUInt32).toInt32) &&& (63 : Int32)) &&& 0x3f).toInt64)) ((-128 : Int64)) ((127 : Int64)) h0 n0 Z0 F_min_s_BYTEINT F_max_s_BYTEINT) hZ (own_w hw 7 rfl) (own_w hw 1 rfl) (by decide) (by decide)) q6a q6c (g := (mkF m 123 #[.val (.long q0), .second, .val (.int p1), .val (.int (((p1.toUInt32 >>> ((2 : Int32) &&& 31).toUInt32).toInt32) &&& (63 : Int32))), .val (.long (q0 >>> ((((p1.toUInt32 >>> ((2 : Int32) &&& 31).toUInt32).toInt32) &&& (63 : Int32)) &&& 0x3f).toInt64)), .second, .val (.int (p1 &&& (3 : Int32))), .val (.ref s_BYTEINT), .val (.int (0 : Int32))] [(.long (q0 >>> ((((p1.toUInt32 >>> ((2 : Int32) &&& 31).toUInt32).toInt32) &&& (63 : Int32)) &&& 0x3f).toInt64)), (.ref s_BYTEINT)])) rfl (by rw [hml]; rfl) (Steps.refl _) (argsL := [(.long (q0 >>> ((((p1.toUInt32 >>> ((2 : Int32) &&& 31).toUInt32).toInt32) &&& (63 : Int32)) &&& 0x3f).toInt64))]) (rest := []) (lenOf own_pd0 rfl) rfl (by show 2 * 0 + _ ≤ _; exact Nat.le_of_eq rfl) (hb hby at_123) (fun _ _ => ⟨rfl, e2, (by decide : 0 + 0 ≤ _), (by decide : 0 + 0 ≤ _)⟩)
      dsimp only [Pt.U, Pt.locs, Pt.cells, Pt.slots] at X6 l6 y6 z6 st6 hQ6
      subst l6 y6 z6
      obtain ⟨rfl, N6q, e6⟩ := hQ6
      have N6 := Fr.app N0 N6q
      refine own_step (fun _ k => st6.trans k) ?_
      show own_Fin p e below s _ _ _ (T6.setTop (mkF m 126 #[.val (.long q0), .second, .val (.int p1), .val (.int (((p1.toUInt32 >>> ((2 : Int32) &&& 31).toUInt32).toInt32) &&& (63 : Int32))), .val (.long (q0 >>> ((((p1.toUInt32 >>> ((2 : Int32) &&& 31).toUInt32).toInt32) &&& (63 : Int32)) &&& 0x3f).toInt64)), .second, .val (.int (p1 &&& (3 : Int32))), .val (.ref s_BYTEINT), .val (.int (0 : Int32))] [(.int (own_r1 (q0 >>> ((((p1.toUInt32 >>> ((2 : Int32) &&& 31).toUInt32).toInt32) &&& (63 : Int32)) &&& 0x3f).toInt64) (-128 : Int64) (127 : Int64)))]))
      refine own_step (fun _ k => XS.iload X6.here hx rfl (hb hby at_126) rfl k) ?_
      show own_Fin p e below s _ _ _ (T6.setTop (mkF m 128 #[.val (.long q0), .second, .val (.int p1), .val (.int (((p1.toUInt32 >>> ((2 : Int32) &&& 31).toUInt32).toInt32) &&& (63 : Int32))), .val (.long (q0 >>> ((((p1.toUInt32 >>> ((2 : Int32) &&& 31).toUInt32).toInt32) &&& (63 : Int32)) &&& 0x3f).toInt64)), .second, .val (.int (p1 &&& (3 : Int32))), .val (.ref s_BYTEINT), .val (.int (0 : Int32))] [(.int (0 : Int32)), (.int (own_r1 (q0 >>> ((((p1.toUInt32 >>> ((2 : Int32) &&& 31).toUInt32).toInt32) &&& (63 : Int32)) &&& 0x3f).toInt64) (-128 : Int64) (127 : Int64)))]))
      have hf7 : (own_r1 (q0 >>> ((((p1.toUInt32 >>> ((2 : Int32) &&& 31).toUInt32).toInt32) &&& (63 : Int32)) &&& 0x3f).toInt64) (-128 : Int64) (127 : Int64)) = (0 : Int32) := (own_lawB _).trans (if_neg hc3)
      refine own_step (fun _ k => XS.icmpNo X6.here hx rfl (hb hby at_128) rfl (teq hf7).2 k) ?_
      show own_Fin p e below s _ _ _ (T6.setTop (mkF m 131 #[.val (.long q0), .second, .val (.int p1), .val (.int (((p1.toUInt32 >>> ((2 : Int32) &&& 31).toUInt32).toInt32) &&& (63 : Int32))), .val (.long (q0 >>> ((((p1.toUInt32 >>> ((2 : Int32) &&& 31).toUInt32).toInt32) &&& (63 : Int32)) &&& 0x3f).toInt64)), .second, .val (.int (p1 &&& (3 : Int32))), .val (.ref s_BYTEINT), .val (.int (0 : Int32))] []))
      refine own_step (fun _ k => XS.iconst X6.here hx rfl (hb hby at_131) k) ?_
      show own_Fin p e below s _ _ _ (T6.setTop (mkF m 132 #[.val (.long q0), .second, .val (.int p1), .val (.int (((p1.toUInt32 >>> ((2 : Int32) &&& 31).toUInt32).toInt32) &&& (63 : Int32))), .val (.long (q0 >>> ((((p1.toUInt32 >>> ((2 : Int32) &&& 31).toUInt32).toInt32) &&& (63 : Int32)) &&& 0x3f).toInt64)), .second, .val (.int (p1 &&& (3 : Int32))), .val (.ref s_BYTEINT), .val (.int (0 : Int32))] [(.int (1 : Int32))]))
      refine own_step (fun _ k => XS.goto X6.here hx rfl (pc0 := 132) (pc' := 136) rfl (hb hby at_132) (by decide) (by decide) k) ?_
      show own_Fin p e below s _ _ _ (T6.setTop (mkF m 136 #[.val (.long q0), .second, .val (.int p1), .val (.int (((p1.toUInt32 >>> ((2 : Int32) &&& 31).toUInt32).toInt32) &&& (63 : Int32))), .val (.long (q0 >>> ((((p1.toUInt32 >>> ((2 : Int32) &&& 31).toUInt32).toInt32) &&& (63 : Int32)) &&& 0x3f).toInt64)), .second, .val (.int (p1 &&& (3 : Int32))), .val (.ref s_BYTEINT), .val (.int (0 : Int32))] [(.int (1 : Int32))]))
      exact own_ret X6 hlk (v := some (.int (1 : Int32))) (fun h => by rw [Bd.returns] at h; cases h) (by decide) (by decide) (by show own_Q2 Z q0 p1 s_BYTEINT s_SMALLINT s_INTEGER s_BIGINT h0 n0 _ T6.heap _; rw [e6]; exact ⟨rfl, N6⟩) (fun fs hr => retN X6 hx (t := .boolean) Bd.returns (by simp) (hb hby at_136) hr)
  · refine own_step (fun _ k => XS.ifYes X0.here hx rfl (pc0 := 19) (pc' := 48) rfl (hb hby at_19) rfl ((if0 _ _).trans (feq hc1).2) (by decide) (by decide) k) ?_
    show own_Fin p e below s _ _ _ (s₁.setTop (mkF m 48 #[.val (.long q0), .second, .val (.int p1), .val (.int (((p1.toUInt32 >>> ((2 : Int32) &&& 31).toUInt32).toInt32) &&& (63 : Int32))), .val (.long (q0 >>> ((((p1.toUInt32 >>> ((2 : Int32) &&& 31).toUInt32).toInt32) &&& (63 : Int32)) &&& 0x3f).toInt64)), .second, .val (.int (p1 &&& (3 : Int32))), .unset, .unset] []))
    refine own_step (fun _ k => XS.iload X0.here hx rfl (hb hby at_48) rfl k) ?_
    show own_Fin p e below s _ _ _ (s₁.setTop (mkF m 50 #[.val (.long q0), .second, .val (.int p1), .val (.int (((p1.toUInt32 >>> ((2 : Int32) &&& 31).toUInt32).toInt32) &&& (63 : Int32))), .val (.long (q0 >>> ((((p1.toUInt32 >>> ((2 : Int32) &&& 31).toUInt32).toInt32) &&& (63 : Int32)) &&& 0x3f).toInt64)), .second, .val (.int (p1 &&& (3 : Int32))), .unset, .unset] [(.int (p1 &&& (3 : Int32)))]))
    refine own_step (fun _ k => XS.iconst X0.here hx rfl (hb hby at_50) k) ?_
    show own_Fin p e below s _ _ _ (s₁.setTop (mkF m 51 #[.val (.long q0), .second, .val (.int p1), .val (.int (((p1.toUInt32 >>> ((2 : Int32) &&& 31).toUInt32).toInt32) &&& (63 : Int32))), .val (.long (q0 >>> ((((p1.toUInt32 >>> ((2 : Int32) &&& 31).toUInt32).toInt32) &&& (63 : Int32)) &&& 0x3f).toInt64)), .second, .val (.int (p1 &&& (3 : Int32))), .unset, .unset] [(.int (1 : Int32)), (.int (p1 &&& (3 : Int32)))]))
    by_cases hc8 : (p1 &&& (3 : Int32)) = (1 : Int32)
    · refine own_step (fun _ k => XS.icmpNo X0.here hx rfl (hb hby at_51) rfl (teq hc8).2 k) ?_
      show own_Fin p e below s _ _ _ (s₁.setTop (mkF m 54 #[.val (.long q0), .second, .val (.int p1), .val (.int (((p1.toUInt32 >>> ((2 : Int32) &&& 31).toUInt32).toInt32) &&& (63 : Int32))), .val (.long (q0 >>> ((((p1.toUInt32 >>> ((2 : Int32) &&& 31).toUInt32).toInt32) &&& (63 : Int32)) &&& 0x3f).toInt64)), .second, .val (.int (p1 &&& (3 : Int32))), .unset, .unset] []))
      obtain ⟨T9, X9, e9, st9⟩ := getS2 X0 hx hZ hown (host := "") (Or.inl (own_w hw 16 rfl)) Via.refl e0 S_SMALLINT (g := (mkF m 54 #[.val (.long q0), .second, .val (.int p1), .val (.int (((p1.toUInt32 >>> ((2 : Int32) &&& 31).toUInt32).toInt32) &&& (63 : Int32))), .val (.long (q0 >>> ((((p1.toUInt32 >>> ((2 : Int32) &&& 31).toUInt32).toInt32) &&& (63 : Int32)) &&& 0x3f).toInt64)), .second, .val (.int (p1 &&& (3 : Int32))), .unset, .unset] [])) rfl (hb hby at_54)
      refine own_step st9 ?_
      show own_Fin p e below s _ _ _ (T9.setTop (mkF m 57 #[.val (.long q0), .second, .val (.int p1), .val (.int (((p1.toUInt32 >>> ((2 : Int32) &&& 31).toUInt32).toInt32) &&& (63 : Int32))), .val (.long (q0 >>> ((((p1.toUInt32 >>> ((2 : Int32) &&& 31).toUInt32).toInt32) &&& (63 : Int32)) &&& 0x3f).toInt64)), .second, .val (.int (p1 &&& (3 : Int32))), .unset, .unset] [(.ref s_SMALLINT)]))
      refine own_step (fun _ k => XS.astore X9.here hx rfl (hb hby at_57) rfl rfl (l' := #[.val (.long q0), .second, .val (.int p1), .val (.int (((p1.toUInt32 >>> ((2 : Int32) &&& 31).toUInt32).toInt32) &&& (63 : Int32))), .val (.long (q0 >>> ((((p1.toUInt32 >>> ((2 : Int32) &&& 31).toUInt32).toInt32) &&& (63 : Int32)) &&& 0x3f).toInt64)), .second, .val (.int (p1 &&& (3 : Int32))), .val (.ref s_SMALLINT), .unset]) rfl k) ?_
      show own_Fin p e below s _ _ _ (T9.setTop (mkF m 59 #[.val (.long q0), .second, .val (.int p1), .val (.int (((p1.toUInt32 >>> ((2 : Int32) &&& 31).toUInt32).toInt32) &&& (63 : Int32))), .val (.long (q0 >>> ((((p1.toUInt32 >>> ((2 : Int32) &&& 31).toUInt32).toInt32) &&& (63 : Int32)) &&& 0x3f).toInt64)), .second, .val (.int (p1 &&& (3 : Int32))), .val (.ref s_SMALLINT), .unset] []))
      refine own_step (fun _ k => XS.lload X9.here hx rfl (hb hby at_59) rfl k) ?_
      show own_Fin p e below s _ _ _ (T9.setTop (mkF m 61 #[.val (.long q0), .second, .val (.int p1), .val (.int (((p1.toUInt32 >>> ((2 : Int32) &&& 31).toUInt32).toInt32) &&& (63 : Int32))), .val (.long (q0 >>> ((((p1.toUInt32 >>> ((2 : Int32) &&& 31).toUInt32).toInt32) &&& (63 : Int32)) &&& 0x3f).toInt64)), .second, .val (.int (p1 &&& (3 : Int32))), .val (.ref s_SMALLINT), .unset] [(.long (q0 >>> ((((p1.toUInt32 >>> ((2 : Int32) &&& 31).toUInt32).toInt32) &&& (63 : Int32)) &&& 0x3f).toInt64))]))
      refine own_step (fun _ k => XS.l2i X9.here hx rfl (hb hby at_61) rfl k) ?_
      show own_Fin p e below s _ _ _ (T9.setTop (mkF m 62 #[.val (.long q0), .second, .val (.int p1), .val (.int (((p1.toUInt32 >>> ((2 : Int32) &&& 31).toUInt32).toInt32) &&& (63 : Int32))), .val (.long (q0 >>> ((((p1.toUInt32 >>> ((2 : Int32) &&& 31).toUInt32).toInt32) &&& (63 : Int32)) &&& 0x3f).toInt64)), .second, .val (.int (p1 &&& (3 : Int32))), .val (.ref s_SMALLINT), .unset] [(.int ((q0 >>> ((((p1.toUInt32 >>> ((2 : Int32) &&& 31).toUInt32).toInt32) &&& (63 : Int32)) &&& 0x3f).toInt64).toInt32))]))
      refine own_step (fun _ k => XS.i2s X9.here hx rfl (hb hby at_62) rfl k) ?_
      show own_Fin p e below s _ _ _ (T9.setTop (mkF m 63 #[.val (.long q0), .second, .val (.int p1), .val (.int (((p1.toUInt32 >>> ((2 : Int32) &&& 31).toUInt32).toInt32) &&& (63 : Int32))), .val (.long (q0 >>> ((((p1.toUInt32 >>> ((2 : Int32) &&& 31).toUInt32).toInt32) &&& (63 : Int32)) &&& 0x3f).toInt64)), .second, .val (.int (p1 &&& (3 : Int32))), .val (.ref s_SMALLINT), .unset] [(.int (((q0 >>> ((((p1.toUInt32 >>> ((2 : Int32) &&& 31).toUInt32).toInt32) &&& (63 : Int32)) &&& 0x3f).toInt64).toInt32).toInt16.toInt32))]))
      refine own_step (fun _ k => XS.i2l X9.here hx rfl (hb hby at_63) rfl k) ?_
      show own_Fin p e below s _ _ _ (T9.setTop (mkF m 64 #[.val (.long q0), .second, .val (.int p1), .val (.int (((p1.toUInt32 >>> ((2 : Int32) &&& 31).toUInt32).toInt32) &&& (63 : Int32))), .val (.long (q0 >>> ((((p1.toUInt32 >>> ((2 : Int32) &&& 31).toUInt32).toInt32) &&& (63 : Int32)) &&& 0x3f).toInt64)), .second, .val (.int (p1 &&& (3 : Int32))), .val (.ref s_SMALLINT), .unset] [(.long ((((q0 >>> ((((p1.toUInt32 >>> ((2 : Int32) &&& 31).toUInt32).toInt32) &&& (63 : Int32)) &&& 0x3f).toInt64).toInt32).toInt16.toInt32).toInt64))]))
      refine own_step (fun _ k => XS.lload X9.here hx rfl (hb hby at_64) rfl k) ?_
      show own_Fin p e below s _ _ _ (T9.setTop (mkF m 66 #[.val (.long q0), .second, .val (.int p1), .val (.int (((p1.toUInt32 >>> ((2 : Int32) &&& 31).toUInt32).toInt32) &&& (63 : Int32))), .val (.long (q0 >>> ((((p1.toUInt32 >>> ((2 : Int32) &&& 31).toUInt32).toInt32) &&& (63 : Int32)) &&& 0x3f).toInt64)), .second, .val (.int (p1 &&& (3 : Int32))), .val (.ref s_SMALLINT), .unset] [(.long (q0 >>> ((((p1.toUInt32 >>> ((2 : Int32) &&& 31).toUInt32).toInt32) &&& (63 : Int32)) &&& 0x3f).toInt64)), (.long ((((q0 >>> ((((p1.toUInt32 >>> ((2 : Int32) &&& 31).toUInt32).toInt32) &&& (63 : Int32)) &&& 0x3f).toInt64).toInt32).toInt16.toInt32).toInt64))]))
      refine own_step (fun _ k => XS.lcmp X9.here hx rfl (hb hby at_66) rfl k) ?_
      show own_Fin p e below s _ _ _ (T9.setTop (mkF m 67 #[.val (.long q0), .second, .val (.int p1), .val (.int (((p1.toUInt32 >>> ((2 : Int32) &&& 31).toUInt32).toInt32) &&& (63 : Int32))), .val (.long (q0 >>> ((((p1.toUInt32 >>> ((2 : Int32) &&& 31).toUInt32).toInt32) &&& (63 : Int32)) &&& 0x3f).toInt64)), .second, .val (.int (p1 &&& (3 : Int32))), .val (.ref s_SMALLINT), .unset] [(.int (lcmpW ((((q0 >>> ((((p1.toUInt32 >>> ((2 : Int32) &&& 31).toUInt32).toInt32) &&& (63 : Int32)) &&& 0x3f).toInt64).toInt32).toInt16.toInt32).toInt64) (q0 >>> ((((p1.toUInt32 >>> ((2 : Int32) &&& 31).toUInt32).toInt32) &&& (63 : Int32)) &&& 0x3f).toInt64)))]))
      by_cases hc10 : (lcmpW ((((q0 >>> ((((p1.toUInt32 >>> ((2 : Int32) &&& 31).toUInt32).toInt32) &&& (63 : Int32)) &&& 0x3f).toInt64).toInt32).toInt16.toInt32).toInt64) (q0 >>> ((((p1.toUInt32 >>> ((2 : Int32) &&& 31).toUInt32).toInt32) &&& (63 : Int32)) &&& 0x3f).toInt64)) = (0 : Int32)
      · refine own_step (fun _ k => XS.ifNo X9.here hx rfl (hb hby at_67) rfl ((if0 _ _).trans (teq hc10).2) k) ?_
        show own_Fin p e below s _ _ _ (T9.setTop (mkF m 70 #[.val (.long q0), .second, .val (.int p1), .val (.int (((p1.toUInt32 >>> ((2 : Int32) &&& 31).toUInt32).toInt32) &&& (63 : Int32))), .val (.long (q0 >>> ((((p1.toUInt32 >>> ((2 : Int32) &&& 31).toUInt32).toInt32) &&& (63 : Int32)) &&& 0x3f).toInt64)), .second, .val (.int (p1 &&& (3 : Int32))), .val (.ref s_SMALLINT), .unset] []))
        refine own_step (fun _ k => XS.iconst X9.here hx rfl (hb hby at_70) k) ?_
        show own_Fin p e below s _ _ _ (T9.setTop (mkF m 71 #[.val (.long q0), .second, .val (.int p1), .val (.int (((p1.toUInt32 >>> ((2 : Int32) &&& 31).toUInt32).toInt32) &&& (63 : Int32))), .val (.long (q0 >>> ((((p1.toUInt32 >>> ((2 : Int32) &&& 31).toUInt32).toInt32) &&& (63 : Int32)) &&& 0x3f).toInt64)), .second, .val (.int (p1 &&& (3 : Int32))), .val (.ref s_SMALLINT), .unset] [(.int (1 : Int32))]))
        refine own_step (fun _ k => XS.goto X9.here hx rfl (pc0 := 71) (pc' := 75) rfl (hb hby at_71) (by decide) (by decide) k) ?_
        show own_Fin p e below s _ _ _ (T9.setTop (mkF m 75 #[.val (.long q0), .second, .val (.int p1), .val (.int (((p1.toUInt32 >>> ((2 : Int32) &&& 31).toUInt32).toInt32) &&& (63 : Int32))), .val (.long (q0 >>> ((((p1.toUInt32 >>> ((2 : Int32) &&& 31).toUInt32).toInt32) &&& (63 : Int32)) &&& 0x3f).toInt64)), .second, .val (.int (p1 &&& (3 : Int32))), .val (.ref s_SMALLINT), .unset] [(.int (1 : Int32))]))
        refine own_step (fun _ k => XS.istore X9.here hx rfl (hb hby at_75) rfl (l' := #[.val (.long q0), .second, .val (.int p1), .val (.int (((p1.toUInt32 >>> ((2 : Int32) &&& 31).toUInt32).toInt32) &&& (63 : Int32))), .val (.long (q0 >>> ((((p1.toUInt32 >>> ((2 : Int32) &&& 31).toUInt32).toInt32) &&& (63 : Int32)) &&& 0x3f).toInt64)), .second, .val (.int (p1 &&& (3 : Int32))), .val (.ref s_SMALLINT), .val (.int (1 : Int32))]) rfl k) ?_
        show own_Fin p e below s _ _ _ (T9.setTop (mkF m 77 #[.val (.long q0), .second, .val (.int p1), .val (.int (((p1.toUInt32 >>> ((2 : Int32) &&& 31).toUInt32).toInt32) &&& (63 : Int32))), .val (.long (q0 >>> ((((p1.toUInt32 >>> ((2 : Int32) &&& 31).toUInt32).toInt32) &&& (63 : Int32)) &&& 0x3f).toInt64)), .second, .val (.int (p1 &&& (3 : Int32))), .val (.ref s_SMALLINT), .val (.int (1 : Int32))] []))
        refine own_step (fun _ k => XS.goto X9.here hx rfl (pc0 := 77) (pc' := 119) rfl (hb hby at_77) (by decide) (by decide) k) ?_
        show own_Fin p e below s _ _ _ (T9.setTop (mkF m 119 #[.val (.long q0), .second, .val (.int p1), .val (.int (((p1.toUInt32 >>> ((2 : Int32) &&& 31).toUInt32).toInt32) &&& (63 : Int32))), .val (.long (q0 >>> ((((p1.toUInt32 >>> ((2 : Int32) &&& 31).toUInt32).toInt32) &&& (63 : Int32)) &&& 0x3f).toInt64)), .second, .val (.int (p1 &&& (3 : Int32))), .val (.ref s_SMALLINT), .val (.int (1 : Int32))] []))
        refine own_step (fun _ k => XS.aload X9.here hx rfl (hb hby at_119) rfl rfl k) ?_
        show own_Fin p e below s _ _ _ (T9.setTop (mkF m 121 #[.val (.long q0), .second, .val (.int p1), .val (.int (((p1.toUInt32 >>> ((2 : Int32) &&& 31).toUInt32).toInt32) &&& (63 : Int32))), .val (.long (q0 >>> ((((p1.toUInt32 >>> ((2 : Int32) &&& 31).toUInt32).toInt32) &&& (63 : Int32)) &&& 0x3f).toInt64)), .second, .val (.int (p1 &&& (3 : Int32))), .val (.ref s_SMALLINT), .val (.int (1 : Int32))] [(.ref s_SMALLINT)]))
        refine own_step (fun _ k => XS.lload X9.here hx rfl (hb hby at_121) rfl k) ?_
        show own_Fin p e below s _ _ _ (T9.setTop (mkF m 123 #[.val (.long q0), .second, .val (.int p1), .val (.int (((p1.toUInt32 >>> ((2 : Int32) &&& 31).toUInt32).toInt32) &&& (63 : Int32))), .val (.long (q0 >>> ((((p1.toUInt32 >>> ((2 : Int32) &&& 31).toUInt32).toInt32) &&& (63 : Int32)) &&& 0x3f).toInt64)), .second, .val (.int (p1 &&& (3 : Int32))), .val (.ref s_SMALLINT), .val (.int (1 : Int32))] [(.long (q0 >>> ((((p1.toUInt32 >>> ((2 : Int32) &&& 31).toUInt32).toInt32) &&& (63 : Int32)) &&& 0x3f).toInt64)), (.ref s_SMALLINT)]))
        obtain ⟨cq11, kq11, q11a, q11b, q11c⟩ := isOf hZ e9 E_s_SMALLINT
        obtain ⟨_, _, ⟨T11, L11, k11, n11⟩, -, X11, ⟨Lc11, hQ11, l11, y11, z11⟩, st11⟩ := X9.virtualBack hx (y := own_y0) (z := own_y0) hown (mvT hZ (own_w hw 3 rfl)) (mvT hZ (own_w hw 4 rfl)) (notFace_of_selects (args := #[]) (mvT hZ (own_w hw 6 rfl))) (mvT hZ (own_w hw 6 rfl)) (mvT hZ (own_w hw 5 rfl)) (by decide) (backOf (W := 0) (own_rm1 l Z a0 hw [] s_SMALLINT ((q0 >>> ((((p1.toUInt32 >>> ((2 : Int32) &&& 31).toUInt32).toInt32) &&& (63 : Int32)) &&& 0x3f).toInt64)) ((-32768 : Int64)) ((32767 : Int64)) h0 n0 Z0 F_min_s_SMALLINT F_max_s_SMALLINT) hZ (own_w hw 7 rfl) (own_w hw 1 rfl) (by decide) (by decide)) q11a q11c (g := (mkF m 123 #[.val (.long q0), .second, .val (.int p1), .val (.int (((p1.toUInt32 >>> ((2 : Int32) &&& 31).toUInt32).toInt32) &&& (63 : Int32))), .val (.long (q0 >>> ((((p1.toUInt32 >>> ((2 : Int32) &&& 31).toUInt32).toInt32) &&& (63 : Int32)) &&& 0x3f).toInt64)), .second, .val (.int (p1 &&& (3 : Int32))), .val (.ref s_SMALLINT), .val (.int (1 : Int32))] [(.long (q0 >>> ((((p1.toUInt32 >>> ((2 : Int32) &&& 31).toUInt32).toInt32) &&& (63 : Int32)) &&& 0x3f).toInt64)), (.ref s_SMALLINT)])) rfl (by rw [hml]; rfl) (Steps.refl _) (argsL := [(.long (q0 >>> ((((p1.toUInt32 >>> ((2 : Int32) &&& 31).toUInt32).toInt32) &&& (63 : Int32)) &&& 0x3f).toInt64))]) (rest := []) (lenOf own_pd0 rfl) rfl (by show 2 * 0 + _ ≤ _; exact Nat.le_of_eq rfl) (hb hby at_123) (fun _ _ => ⟨rfl, e9, (by decide : 0 + 0 ≤ _), (by decide : 0 + 0 ≤ _)⟩)
        dsimp only [Pt.U, Pt.locs, Pt.cells, Pt.slots] at X11 l11 y11 z11 st11 hQ11
        subst l11 y11 z11
        obtain ⟨rfl, N11q, e11⟩ := hQ11
        have N11 := Fr.app N0 N11q
        refine own_step (fun _ k => st11.trans k) ?_
        show own_Fin p e below s _ _ _ (T11.setTop (mkF m 126 #[.val (.long q0), .second, .val (.int p1), .val (.int (((p1.toUInt32 >>> ((2 : Int32) &&& 31).toUInt32).toInt32) &&& (63 : Int32))), .val (.long (q0 >>> ((((p1.toUInt32 >>> ((2 : Int32) &&& 31).toUInt32).toInt32) &&& (63 : Int32)) &&& 0x3f).toInt64)), .second, .val (.int (p1 &&& (3 : Int32))), .val (.ref s_SMALLINT), .val (.int (1 : Int32))] [(.int (own_r1 (q0 >>> ((((p1.toUInt32 >>> ((2 : Int32) &&& 31).toUInt32).toInt32) &&& (63 : Int32)) &&& 0x3f).toInt64) (-32768 : Int64) (32767 : Int64)))]))
        refine own_step (fun _ k => XS.iload X11.here hx rfl (hb hby at_126) rfl k) ?_
        show own_Fin p e below s _ _ _ (T11.setTop (mkF m 128 #[.val (.long q0), .second, .val (.int p1), .val (.int (((p1.toUInt32 >>> ((2 : Int32) &&& 31).toUInt32).toInt32) &&& (63 : Int32))), .val (.long (q0 >>> ((((p1.toUInt32 >>> ((2 : Int32) &&& 31).toUInt32).toInt32) &&& (63 : Int32)) &&& 0x3f).toInt64)), .second, .val (.int (p1 &&& (3 : Int32))), .val (.ref s_SMALLINT), .val (.int (1 : Int32))] [(.int (1 : Int32)), (.int (own_r1 (q0 >>> ((((p1.toUInt32 >>> ((2 : Int32) &&& 31).toUInt32).toInt32) &&& (63 : Int32)) &&& 0x3f).toInt64) (-32768 : Int64) (32767 : Int64)))]))
        have hf12 : (own_r1 (q0 >>> ((((p1.toUInt32 >>> ((2 : Int32) &&& 31).toUInt32).toInt32) &&& (63 : Int32)) &&& 0x3f).toInt64) (-32768 : Int64) (32767 : Int64)) = (1 : Int32) := (own_lawS _).trans (if_pos hc10)
        refine own_step (fun _ k => XS.icmpNo X11.here hx rfl (hb hby at_128) rfl (teq hf12).2 k) ?_
        show own_Fin p e below s _ _ _ (T11.setTop (mkF m 131 #[.val (.long q0), .second, .val (.int p1), .val (.int (((p1.toUInt32 >>> ((2 : Int32) &&& 31).toUInt32).toInt32) &&& (63 : Int32))), .val (.long (q0 >>> ((((p1.toUInt32 >>> ((2 : Int32) &&& 31).toUInt32).toInt32) &&& (63 : Int32)) &&& 0x3f).toInt64)), .second, .val (.int (p1 &&& (3 : Int32))), .val (.ref s_SMALLINT), .val (.int (1 : Int32))] []))
        refine own_step (fun _ k => XS.iconst X11.here hx rfl (hb hby at_131) k) ?_
        show own_Fin p e below s _ _ _ (T11.setTop (mkF m 132 #[.val (.long q0), .second, .val (.int p1), .val (.int (((p1.toUInt32 >>> ((2 : Int32) &&& 31).toUInt32).toInt32) &&& (63 : Int32))), .val (.long (q0 >>> ((((p1.toUInt32 >>> ((2 : Int32) &&& 31).toUInt32).toInt32) &&& (63 : Int32)) &&& 0x3f).toInt64)), .second, .val (.int (p1 &&& (3 : Int32))), .val (.ref s_SMALLINT), .val (.int (1 : Int32))] [(.int (1 : Int32))]))
        refine own_step (fun _ k => XS.goto X11.here hx rfl (pc0 := 132) (pc' := 136) rfl (hb hby at_132) (by decide) (by decide) k) ?_
        show own_Fin p e below s _ _ _ (T11.setTop (mkF m 136 #[.val (.long q0), .second, .val (.int p1), .val (.int (((p1.toUInt32 >>> ((2 : Int32) &&& 31).toUInt32).toInt32) &&& (63 : Int32))), .val (.long (q0 >>> ((((p1.toUInt32 >>> ((2 : Int32) &&& 31).toUInt32).toInt32) &&& (63 : Int32)) &&& 0x3f).toInt64)), .second, .val (.int (p1 &&& (3 : Int32))), .val (.ref s_SMALLINT), .val (.int (1 : Int32))] [(.int (1 : Int32))]))
        exact own_ret X11 hlk (v := some (.int (1 : Int32))) (fun h => by rw [Bd.returns] at h; cases h) (by decide) (by decide) (by show own_Q2 Z q0 p1 s_BYTEINT s_SMALLINT s_INTEGER s_BIGINT h0 n0 _ T11.heap _; rw [e11]; exact ⟨rfl, N11⟩) (fun fs hr => retN X11 hx (t := .boolean) Bd.returns (by simp) (hb hby at_136) hr)
      · refine own_step (fun _ k => XS.ifYes X9.here hx rfl (pc0 := 67) (pc' := 74) rfl (hb hby at_67) rfl ((if0 _ _).trans (feq hc10).2) (by decide) (by decide) k) ?_
        show own_Fin p e below s _ _ _ (T9.setTop (mkF m 74 #[.val (.long q0), .second, .val (.int p1), .val (.int (((p1.toUInt32 >>> ((2 : Int32) &&& 31).toUInt32).toInt32) &&& (63 : Int32))), .val (.long (q0 >>> ((((p1.toUInt32 >>> ((2 : Int32) &&& 31).toUInt32).toInt32) &&& (63 : Int32)) &&& 0x3f).toInt64)), .second, .val (.int (p1 &&& (3 : Int32))), .val (.ref s_SMALLINT), .unset] []))
        refine own_step (fun _ k => XS.iconst X9.here hx rfl (hb hby at_74) k) ?_
        show own_Fin p e below s _ _ _ (T9.setTop (mkF m 75 #[.val (.long q0), .second, .val (.int p1), .val (.int (((p1.toUInt32 >>> ((2 : Int32) &&& 31).toUInt32).toInt32) &&& (63 : Int32))), .val (.long (q0 >>> ((((p1.toUInt32 >>> ((2 : Int32) &&& 31).toUInt32).toInt32) &&& (63 : Int32)) &&& 0x3f).toInt64)), .second, .val (.int (p1 &&& (3 : Int32))), .val (.ref s_SMALLINT), .unset] [(.int (0 : Int32))]))
        refine own_step (fun _ k => XS.istore X9.here hx rfl (hb hby at_75) rfl (l' := #[.val (.long q0), .second, .val (.int p1), .val (.int (((p1.toUInt32 >>> ((2 : Int32) &&& 31).toUInt32).toInt32) &&& (63 : Int32))), .val (.long (q0 >>> ((((p1.toUInt32 >>> ((2 : Int32) &&& 31).toUInt32).toInt32) &&& (63 : Int32)) &&& 0x3f).toInt64)), .second, .val (.int (p1 &&& (3 : Int32))), .val (.ref s_SMALLINT), .val (.int (0 : Int32))]) rfl k) ?_
        show own_Fin p e below s _ _ _ (T9.setTop (mkF m 77 #[.val (.long q0), .second, .val (.int p1), .val (.int (((p1.toUInt32 >>> ((2 : Int32) &&& 31).toUInt32).toInt32) &&& (63 : Int32))), .val (.long (q0 >>> ((((p1.toUInt32 >>> ((2 : Int32) &&& 31).toUInt32).toInt32) &&& (63 : Int32)) &&& 0x3f).toInt64)), .second, .val (.int (p1 &&& (3 : Int32))), .val (.ref s_SMALLINT), .val (.int (0 : Int32))] []))
        refine own_step (fun _ k => XS.goto X9.here hx rfl (pc0 := 77) (pc' := 119) rfl (hb hby at_77) (by decide) (by decide) k) ?_
        show own_Fin p e below s _ _ _ (T9.setTop (mkF m 119 #[.val (.long q0), .second, .val (.int p1), .val (.int (((p1.toUInt32 >>> ((2 : Int32) &&& 31).toUInt32).toInt32) &&& (63 : Int32))), .val (.long (q0 >>> ((((p1.toUInt32 >>> ((2 : Int32) &&& 31).toUInt32).toInt32) &&& (63 : Int32)) &&& 0x3f).toInt64)), .second, .val (.int (p1 &&& (3 : Int32))), .val (.ref s_SMALLINT), .val (.int (0 : Int32))] []))
        refine own_step (fun _ k => XS.aload X9.here hx rfl (hb hby at_119) rfl rfl k) ?_
        show own_Fin p e below s _ _ _ (T9.setTop (mkF m 121 #[.val (.long q0), .second, .val (.int p1), .val (.int (((p1.toUInt32 >>> ((2 : Int32) &&& 31).toUInt32).toInt32) &&& (63 : Int32))), .val (.long (q0 >>> ((((p1.toUInt32 >>> ((2 : Int32) &&& 31).toUInt32).toInt32) &&& (63 : Int32)) &&& 0x3f).toInt64)), .second, .val (.int (p1 &&& (3 : Int32))), .val (.ref s_SMALLINT), .val (.int (0 : Int32))] [(.ref s_SMALLINT)]))
        refine own_step (fun _ k => XS.lload X9.here hx rfl (hb hby at_121) rfl k) ?_
        show own_Fin p e below s _ _ _ (T9.setTop (mkF m 123 #[.val (.long q0), .second, .val (.int p1), .val (.int (((p1.toUInt32 >>> ((2 : Int32) &&& 31).toUInt32).toInt32) &&& (63 : Int32))), .val (.long (q0 >>> ((((p1.toUInt32 >>> ((2 : Int32) &&& 31).toUInt32).toInt32) &&& (63 : Int32)) &&& 0x3f).toInt64)), .second, .val (.int (p1 &&& (3 : Int32))), .val (.ref s_SMALLINT), .val (.int (0 : Int32))] [(.long (q0 >>> ((((p1.toUInt32 >>> ((2 : Int32) &&& 31).toUInt32).toInt32) &&& (63 : Int32)) &&& 0x3f).toInt64)), (.ref s_SMALLINT)]))
        obtain ⟨cq13, kq13, q13a, q13b, q13c⟩ := isOf hZ e9 E_s_SMALLINT
        obtain ⟨_, _, ⟨T13, L13, k13, n13⟩, -, X13, ⟨Lc13, hQ13, l13, y13, z13⟩, st13⟩ := X9.virtualBack hx (y := own_y0) (z := own_y0) hown (mvT hZ (own_w hw 3 rfl)) (mvT hZ (own_w hw 4 rfl)) (notFace_of_selects (args := #[]) (mvT hZ (own_w hw 6 rfl))) (mvT hZ (own_w hw 6 rfl)) (mvT hZ (own_w hw 5 rfl)) (by decide) (backOf (W := 0) (own_rm1 l Z a0 hw [] s_SMALLINT ((q0 >>> ((((p1.toUInt32 >>> ((2 : Int32) &&& 31).toUInt32).toInt32) &&& (63 : Int32)) &&& 0x3f).toInt64)) ((-32768 : Int64)) ((32767 : Int64)) h0 n0 Z0 F_min_s_SMALLINT F_max_s_SMALLINT) hZ (own_w hw 7 rfl) (own_w hw 1 rfl) (by decide) (by decide)) q13a q13c (g := (mkF m 123 #[.val (.long q0), .second, .val (.int p1), .val (.int (((p1.toUInt32 >>> ((2 : Int32) &&& 31).toUInt32).toInt32) &&& (63 : Int32))), .val (.long (q0 >>> ((((p1.toUInt32 >>> ((2 : Int32) &&& 31).toUInt32).toInt32) &&& (63 : Int32)) &&& 0x3f).toInt64)), .second, .val (.int (p1 &&& (3 : Int32))), .val (.ref s_SMALLINT), .val (.int (0 : Int32))] [(.long (q0 >>> ((((p1.toUInt32 >>> ((2 : Int32) &&& 31).toUInt32).toInt32) &&& (63 : Int32)) &&& 0x3f).toInt64)), (.ref s_SMALLINT)])) rfl (by rw [hml]; rfl) (Steps.refl _) (argsL := [(.long (q0 >>> ((((p1.toUInt32 >>> ((2 : Int32) &&& 31).toUInt32).toInt32) &&& (63 : Int32)) &&& 0x3f).toInt64))]) (rest := []) (lenOf own_pd0 rfl) rfl (by show 2 * 0 + _ ≤ _; exact Nat.le_of_eq rfl) (hb hby at_123) (fun _ _ => ⟨rfl, e9, (by decide : 0 + 0 ≤ _), (by decide : 0 + 0 ≤ _)⟩)
        dsimp only [Pt.U, Pt.locs, Pt.cells, Pt.slots] at X13 l13 y13 z13 st13 hQ13
        subst l13 y13 z13
        obtain ⟨rfl, N13q, e13⟩ := hQ13
        have N13 := Fr.app N0 N13q
        refine own_step (fun _ k => st13.trans k) ?_
        show own_Fin p e below s _ _ _ (T13.setTop (mkF m 126 #[.val (.long q0), .second, .val (.int p1), .val (.int (((p1.toUInt32 >>> ((2 : Int32) &&& 31).toUInt32).toInt32) &&& (63 : Int32))), .val (.long (q0 >>> ((((p1.toUInt32 >>> ((2 : Int32) &&& 31).toUInt32).toInt32) &&& (63 : Int32)) &&& 0x3f).toInt64)), .second, .val (.int (p1 &&& (3 : Int32))), .val (.ref s_SMALLINT), .val (.int (0 : Int32))] [(.int (own_r1 (q0 >>> ((((p1.toUInt32 >>> ((2 : Int32) &&& 31).toUInt32).toInt32) &&& (63 : Int32)) &&& 0x3f).toInt64) (-32768 : Int64) (32767 : Int64)))]))
        refine own_step (fun _ k => XS.iload X13.here hx rfl (hb hby at_126) rfl k) ?_
        show own_Fin p e below s _ _ _ (T13.setTop (mkF m 128 #[.val (.long q0), .second, .val (.int p1), .val (.int (((p1.toUInt32 >>> ((2 : Int32) &&& 31).toUInt32).toInt32) &&& (63 : Int32))), .val (.long (q0 >>> ((((p1.toUInt32 >>> ((2 : Int32) &&& 31).toUInt32).toInt32) &&& (63 : Int32)) &&& 0x3f).toInt64)), .second, .val (.int (p1 &&& (3 : Int32))), .val (.ref s_SMALLINT), .val (.int (0 : Int32))] [(.int (0 : Int32)), (.int (own_r1 (q0 >>> ((((p1.toUInt32 >>> ((2 : Int32) &&& 31).toUInt32).toInt32) &&& (63 : Int32)) &&& 0x3f).toInt64) (-32768 : Int64) (32767 : Int64)))]))
        have hf14 : (own_r1 (q0 >>> ((((p1.toUInt32 >>> ((2 : Int32) &&& 31).toUInt32).toInt32) &&& (63 : Int32)) &&& 0x3f).toInt64) (-32768 : Int64) (32767 : Int64)) = (0 : Int32) := (own_lawS _).trans (if_neg hc10)
        refine own_step (fun _ k => XS.icmpNo X13.here hx rfl (hb hby at_128) rfl (teq hf14).2 k) ?_
        show own_Fin p e below s _ _ _ (T13.setTop (mkF m 131 #[.val (.long q0), .second, .val (.int p1), .val (.int (((p1.toUInt32 >>> ((2 : Int32) &&& 31).toUInt32).toInt32) &&& (63 : Int32))), .val (.long (q0 >>> ((((p1.toUInt32 >>> ((2 : Int32) &&& 31).toUInt32).toInt32) &&& (63 : Int32)) &&& 0x3f).toInt64)), .second, .val (.int (p1 &&& (3 : Int32))), .val (.ref s_SMALLINT), .val (.int (0 : Int32))] []))
        refine own_step (fun _ k => XS.iconst X13.here hx rfl (hb hby at_131) k) ?_
        show own_Fin p e below s _ _ _ (T13.setTop (mkF m 132 #[.val (.long q0), .second, .val (.int p1), .val (.int (((p1.toUInt32 >>> ((2 : Int32) &&& 31).toUInt32).toInt32) &&& (63 : Int32))), .val (.long (q0 >>> ((((p1.toUInt32 >>> ((2 : Int32) &&& 31).toUInt32).toInt32) &&& (63 : Int32)) &&& 0x3f).toInt64)), .second, .val (.int (p1 &&& (3 : Int32))), .val (.ref s_SMALLINT), .val (.int (0 : Int32))] [(.int (1 : Int32))]))
        refine own_step (fun _ k => XS.goto X13.here hx rfl (pc0 := 132) (pc' := 136) rfl (hb hby at_132) (by decide) (by decide) k) ?_
        show own_Fin p e below s _ _ _ (T13.setTop (mkF m 136 #[.val (.long q0), .second, .val (.int p1), .val (.int (((p1.toUInt32 >>> ((2 : Int32) &&& 31).toUInt32).toInt32) &&& (63 : Int32))), .val (.long (q0 >>> ((((p1.toUInt32 >>> ((2 : Int32) &&& 31).toUInt32).toInt32) &&& (63 : Int32)) &&& 0x3f).toInt64)), .second, .val (.int (p1 &&& (3 : Int32))), .val (.ref s_SMALLINT), .val (.int (0 : Int32))] [(.int (1 : Int32))]))
        exact own_ret X13 hlk (v := some (.int (1 : Int32))) (fun h => by rw [Bd.returns] at h; cases h) (by decide) (by decide) (by show own_Q2 Z q0 p1 s_BYTEINT s_SMALLINT s_INTEGER s_BIGINT h0 n0 _ T13.heap _; rw [e13]; exact ⟨rfl, N13⟩) (fun fs hr => retN X13 hx (t := .boolean) Bd.returns (by simp) (hb hby at_136) hr)
    · refine own_step (fun _ k => XS.icmpYes X0.here hx rfl (pc0 := 51) (pc' := 80) rfl (hb hby at_51) rfl (feq hc8).2 (by decide) (by decide) k) ?_
      show own_Fin p e below s _ _ _ (s₁.setTop (mkF m 80 #[.val (.long q0), .second, .val (.int p1), .val (.int (((p1.toUInt32 >>> ((2 : Int32) &&& 31).toUInt32).toInt32) &&& (63 : Int32))), .val (.long (q0 >>> ((((p1.toUInt32 >>> ((2 : Int32) &&& 31).toUInt32).toInt32) &&& (63 : Int32)) &&& 0x3f).toInt64)), .second, .val (.int (p1 &&& (3 : Int32))), .unset, .unset] []))
      refine own_step (fun _ k => XS.iload X0.here hx rfl (hb hby at_80) rfl k) ?_
      show own_Fin p e below s _ _ _ (s₁.setTop (mkF m 82 #[.val (.long q0), .second, .val (.int p1), .val (.int (((p1.toUInt32 >>> ((2 : Int32) &&& 31).toUInt32).toInt32) &&& (63 : Int32))), .val (.long (q0 >>> ((((p1.toUInt32 >>> ((2 : Int32) &&& 31).toUInt32).toInt32) &&& (63 : Int32)) &&& 0x3f).toInt64)), .second, .val (.int (p1 &&& (3 : Int32))), .unset, .unset] [(.int (p1 &&& (3 : Int32)))]))
      refine own_step (fun _ k => XS.iconst X0.here hx rfl (hb hby at_82) k) ?_
      show own_Fin p e below s _ _ _ (s₁.setTop (mkF m 83 #[.val (.long q0), .second, .val (.int p1), .val (.int (((p1.toUInt32 >>> ((2 : Int32) &&& 31).toUInt32).toInt32) &&& (63 : Int32))), .val (.long (q0 >>> ((((p1.toUInt32 >>> ((2 : Int32) &&& 31).toUInt32).toInt32) &&& (63 : Int32)) &&& 0x3f).toInt64)), .second, .val (.int (p1 &&& (3 : Int32))), .unset, .unset] [(.int (2 : Int32)), (.int (p1 &&& (3 : Int32)))]))
      by_cases hc15 : (p1 &&& (3 : Int32)) = (2 : Int32)
      · refine own_step (fun _ k => XS.icmpNo X0.here hx rfl (hb hby at_83) rfl (teq hc15).2 k) ?_
        show own_Fin p e below s _ _ _ (s₁.setTop (mkF m 86 #[.val (.long q0), .second, .val (.int p1), .val (.int (((p1.toUInt32 >>> ((2 : Int32) &&& 31).toUInt32).toInt32) &&& (63 : Int32))), .val (.long (q0 >>> ((((p1.toUInt32 >>> ((2 : Int32) &&& 31).toUInt32).toInt32) &&& (63 : Int32)) &&& 0x3f).toInt64)), .second, .val (.int (p1 &&& (3 : Int32))), .unset, .unset] []))
        obtain ⟨T16, X16, e16, st16⟩ := getS2 X0 hx hZ hown (host := "") (Or.inl (own_w hw 0 rfl)) Via.refl e0 S_INTEGER (g := (mkF m 86 #[.val (.long q0), .second, .val (.int p1), .val (.int (((p1.toUInt32 >>> ((2 : Int32) &&& 31).toUInt32).toInt32) &&& (63 : Int32))), .val (.long (q0 >>> ((((p1.toUInt32 >>> ((2 : Int32) &&& 31).toUInt32).toInt32) &&& (63 : Int32)) &&& 0x3f).toInt64)), .second, .val (.int (p1 &&& (3 : Int32))), .unset, .unset] [])) rfl (hb hby at_86)
        refine own_step st16 ?_
        show own_Fin p e below s _ _ _ (T16.setTop (mkF m 89 #[.val (.long q0), .second, .val (.int p1), .val (.int (((p1.toUInt32 >>> ((2 : Int32) &&& 31).toUInt32).toInt32) &&& (63 : Int32))), .val (.long (q0 >>> ((((p1.toUInt32 >>> ((2 : Int32) &&& 31).toUInt32).toInt32) &&& (63 : Int32)) &&& 0x3f).toInt64)), .second, .val (.int (p1 &&& (3 : Int32))), .unset, .unset] [(.ref s_INTEGER)]))
        refine own_step (fun _ k => XS.astore X16.here hx rfl (hb hby at_89) rfl rfl (l' := #[.val (.long q0), .second, .val (.int p1), .val (.int (((p1.toUInt32 >>> ((2 : Int32) &&& 31).toUInt32).toInt32) &&& (63 : Int32))), .val (.long (q0 >>> ((((p1.toUInt32 >>> ((2 : Int32) &&& 31).toUInt32).toInt32) &&& (63 : Int32)) &&& 0x3f).toInt64)), .second, .val (.int (p1 &&& (3 : Int32))), .val (.ref s_INTEGER), .unset]) rfl k) ?_
        show own_Fin p e below s _ _ _ (T16.setTop (mkF m 91 #[.val (.long q0), .second, .val (.int p1), .val (.int (((p1.toUInt32 >>> ((2 : Int32) &&& 31).toUInt32).toInt32) &&& (63 : Int32))), .val (.long (q0 >>> ((((p1.toUInt32 >>> ((2 : Int32) &&& 31).toUInt32).toInt32) &&& (63 : Int32)) &&& 0x3f).toInt64)), .second, .val (.int (p1 &&& (3 : Int32))), .val (.ref s_INTEGER), .unset] []))
        refine own_step (fun _ k => XS.lload X16.here hx rfl (hb hby at_91) rfl k) ?_
        show own_Fin p e below s _ _ _ (T16.setTop (mkF m 93 #[.val (.long q0), .second, .val (.int p1), .val (.int (((p1.toUInt32 >>> ((2 : Int32) &&& 31).toUInt32).toInt32) &&& (63 : Int32))), .val (.long (q0 >>> ((((p1.toUInt32 >>> ((2 : Int32) &&& 31).toUInt32).toInt32) &&& (63 : Int32)) &&& 0x3f).toInt64)), .second, .val (.int (p1 &&& (3 : Int32))), .val (.ref s_INTEGER), .unset] [(.long (q0 >>> ((((p1.toUInt32 >>> ((2 : Int32) &&& 31).toUInt32).toInt32) &&& (63 : Int32)) &&& 0x3f).toInt64))]))
        refine own_step (fun _ k => XS.l2i X16.here hx rfl (hb hby at_93) rfl k) ?_
        show own_Fin p e below s _ _ _ (T16.setTop (mkF m 94 #[.val (.long q0), .second, .val (.int p1), .val (.int (((p1.toUInt32 >>> ((2 : Int32) &&& 31).toUInt32).toInt32) &&& (63 : Int32))), .val (.long (q0 >>> ((((p1.toUInt32 >>> ((2 : Int32) &&& 31).toUInt32).toInt32) &&& (63 : Int32)) &&& 0x3f).toInt64)), .second, .val (.int (p1 &&& (3 : Int32))), .val (.ref s_INTEGER), .unset] [(.int ((q0 >>> ((((p1.toUInt32 >>> ((2 : Int32) &&& 31).toUInt32).toInt32) &&& (63 : Int32)) &&& 0x3f).toInt64).toInt32))]))
        refine own_step (fun _ k => XS.i2l X16.here hx rfl (hb hby at_94) rfl k) ?_
        show own_Fin p e below s _ _ _ (T16.setTop (mkF m 95 #[.val (.long q0), .second, .val (.int p1), .val (.int (((p1.toUInt32 >>> ((2 : Int32) &&& 31).toUInt32).toInt32) &&& (63 : Int32))), .val (.long (q0 >>> ((((p1.toUInt32 >>> ((2 : Int32) &&& 31).toUInt32).toInt32) &&& (63 : Int32)) &&& 0x3f).toInt64)), .second, .val (.int (p1 &&& (3 : Int32))), .val (.ref s_INTEGER), .unset] [(.long (((q0 >>> ((((p1.toUInt32 >>> ((2 : Int32) &&& 31).toUInt32).toInt32) &&& (63 : Int32)) &&& 0x3f).toInt64).toInt32).toInt64))]))
        refine own_step (fun _ k => XS.lload X16.here hx rfl (hb hby at_95) rfl k) ?_
        show own_Fin p e below s _ _ _ (T16.setTop (mkF m 97 #[.val (.long q0), .second, .val (.int p1), .val (.int (((p1.toUInt32 >>> ((2 : Int32) &&& 31).toUInt32).toInt32) &&& (63 : Int32))), .val (.long (q0 >>> ((((p1.toUInt32 >>> ((2 : Int32) &&& 31).toUInt32).toInt32) &&& (63 : Int32)) &&& 0x3f).toInt64)), .second, .val (.int (p1 &&& (3 : Int32))), .val (.ref s_INTEGER), .unset] [(.long (q0 >>> ((((p1.toUInt32 >>> ((2 : Int32) &&& 31).toUInt32).toInt32) &&& (63 : Int32)) &&& 0x3f).toInt64)), (.long (((q0 >>> ((((p1.toUInt32 >>> ((2 : Int32) &&& 31).toUInt32).toInt32) &&& (63 : Int32)) &&& 0x3f).toInt64).toInt32).toInt64))]))
        refine own_step (fun _ k => XS.lcmp X16.here hx rfl (hb hby at_97) rfl k) ?_
        show own_Fin p e below s _ _ _ (T16.setTop (mkF m 98 #[.val (.long q0), .second, .val (.int p1), .val (.int (((p1.toUInt32 >>> ((2 : Int32) &&& 31).toUInt32).toInt32) &&& (63 : Int32))), .val (.long (q0 >>> ((((p1.toUInt32 >>> ((2 : Int32) &&& 31).toUInt32).toInt32) &&& (63 : Int32)) &&& 0x3f).toInt64)), .second, .val (.int (p1 &&& (3 : Int32))), .val (.ref s_INTEGER), .unset] [(.int (lcmpW (((q0 >>> ((((p1.toUInt32 >>> ((2 : Int32) &&& 31).toUInt32).toInt32) &&& (63 : Int32)) &&& 0x3f).toInt64).toInt32).toInt64) (q0 >>> ((((p1.toUInt32 >>> ((2 : Int32) &&& 31).toUInt32).toInt32) &&& (63 : Int32)) &&& 0x3f).toInt64)))]))
        by_cases hc17 : (lcmpW (((q0 >>> ((((p1.toUInt32 >>> ((2 : Int32) &&& 31).toUInt32).toInt32) &&& (63 : Int32)) &&& 0x3f).toInt64).toInt32).toInt64) (q0 >>> ((((p1.toUInt32 >>> ((2 : Int32) &&& 31).toUInt32).toInt32) &&& (63 : Int32)) &&& 0x3f).toInt64)) = (0 : Int32)
        · refine own_step (fun _ k => XS.ifNo X16.here hx rfl (hb hby at_98) rfl ((if0 _ _).trans (teq hc17).2) k) ?_
          show own_Fin p e below s _ _ _ (T16.setTop (mkF m 101 #[.val (.long q0), .second, .val (.int p1), .val (.int (((p1.toUInt32 >>> ((2 : Int32) &&& 31).toUInt32).toInt32) &&& (63 : Int32))), .val (.long (q0 >>> ((((p1.toUInt32 >>> ((2 : Int32) &&& 31).toUInt32).toInt32) &&& (63 : Int32)) &&& 0x3f).toInt64)), .second, .val (.int (p1 &&& (3 : Int32))), .val (.ref s_INTEGER), .unset] []))
          refine own_step (fun _ k => XS.iconst X16.here hx rfl (hb hby at_101) k) ?_
          show own_Fin p e below s _ _ _ (T16.setTop (mkF m 102 #[.val (.long q0), .second, .val (.int p1), .val (.int (((p1.toUInt32 >>> ((2 : Int32) &&& 31).toUInt32).toInt32) &&& (63 : Int32))), .val (.long (q0 >>> ((((p1.toUInt32 >>> ((2 : Int32) &&& 31).toUInt32).toInt32) &&& (63 : Int32)) &&& 0x3f).toInt64)), .second, .val (.int (p1 &&& (3 : Int32))), .val (.ref s_INTEGER), .unset] [(.int (1 : Int32))]))
          refine own_step (fun _ k => XS.goto X16.here hx rfl (pc0 := 102) (pc' := 106) rfl (hb hby at_102) (by decide) (by decide) k) ?_
          show own_Fin p e below s _ _ _ (T16.setTop (mkF m 106 #[.val (.long q0), .second, .val (.int p1), .val (.int (((p1.toUInt32 >>> ((2 : Int32) &&& 31).toUInt32).toInt32) &&& (63 : Int32))), .val (.long (q0 >>> ((((p1.toUInt32 >>> ((2 : Int32) &&& 31).toUInt32).toInt32) &&& (63 : Int32)) &&& 0x3f).toInt64)), .second, .val (.int (p1 &&& (3 : Int32))), .val (.ref s_INTEGER), .unset] [(.int (1 : Int32))]))
          refine own_step (fun _ k => XS.istore X16.here hx rfl (hb hby at_106) rfl (l' := #[.val (.long q0), .second, .val (.int p1), .val (.int (((p1.toUInt32 >>> ((2 : Int32) &&& 31).toUInt32).toInt32) &&& (63 : Int32))), .val (.long (q0 >>> ((((p1.toUInt32 >>> ((2 : Int32) &&& 31).toUInt32).toInt32) &&& (63 : Int32)) &&& 0x3f).toInt64)), .second, .val (.int (p1 &&& (3 : Int32))), .val (.ref s_INTEGER), .val (.int (1 : Int32))]) rfl k) ?_
          show own_Fin p e below s _ _ _ (T16.setTop (mkF m 108 #[.val (.long q0), .second, .val (.int p1), .val (.int (((p1.toUInt32 >>> ((2 : Int32) &&& 31).toUInt32).toInt32) &&& (63 : Int32))), .val (.long (q0 >>> ((((p1.toUInt32 >>> ((2 : Int32) &&& 31).toUInt32).toInt32) &&& (63 : Int32)) &&& 0x3f).toInt64)), .second, .val (.int (p1 &&& (3 : Int32))), .val (.ref s_INTEGER), .val (.int (1 : Int32))] []))
          refine own_step (fun _ k => XS.goto X16.here hx rfl (pc0 := 108) (pc' := 119) rfl (hb hby at_108) (by decide) (by decide) k) ?_
          show own_Fin p e below s _ _ _ (T16.setTop (mkF m 119 #[.val (.long q0), .second, .val (.int p1), .val (.int (((p1.toUInt32 >>> ((2 : Int32) &&& 31).toUInt32).toInt32) &&& (63 : Int32))), .val (.long (q0 >>> ((((p1.toUInt32 >>> ((2 : Int32) &&& 31).toUInt32).toInt32) &&& (63 : Int32)) &&& 0x3f).toInt64)), .second, .val (.int (p1 &&& (3 : Int32))), .val (.ref s_INTEGER), .val (.int (1 : Int32))] []))
          refine own_step (fun _ k => XS.aload X16.here hx rfl (hb hby at_119) rfl rfl k) ?_
          show own_Fin p e below s _ _ _ (T16.setTop (mkF m 121 #[.val (.long q0), .second, .val (.int p1), .val (.int (((p1.toUInt32 >>> ((2 : Int32) &&& 31).toUInt32).toInt32) &&& (63 : Int32))), .val (.long (q0 >>> ((((p1.toUInt32 >>> ((2 : Int32) &&& 31).toUInt32).toInt32) &&& (63 : Int32)) &&& 0x3f).toInt64)), .second, .val (.int (p1 &&& (3 : Int32))), .val (.ref s_INTEGER), .val (.int (1 : Int32))] [(.ref s_INTEGER)]))
          refine own_step (fun _ k => XS.lload X16.here hx rfl (hb hby at_121) rfl k) ?_
          show own_Fin p e below s _ _ _ (T16.setTop (mkF m 123 #[.val (.long q0), .second, .val (.int p1), .val (.int (((p1.toUInt32 >>> ((2 : Int32) &&& 31).toUInt32).toInt32) &&& (63 : Int32))), .val (.long (q0 >>> ((((p1.toUInt32 >>> ((2 : Int32) &&& 31).toUInt32).toInt32) &&& (63 : Int32)) &&& 0x3f).toInt64)), .second, .val (.int (p1 &&& (3 : Int32))), .val (.ref s_INTEGER), .val (.int (1 : Int32))] [(.long (q0 >>> ((((p1.toUInt32 >>> ((2 : Int32) &&& 31).toUInt32).toInt32) &&& (63 : Int32)) &&& 0x3f).toInt64)), (.ref s_INTEGER)]))
          obtain ⟨cq18, kq18, q18a, q18b, q18c⟩ := isOf hZ e16 E_s_INTEGER
          obtain ⟨_, _, ⟨T18, L18, k18, n18⟩, -, X18, ⟨Lc18, hQ18, l18, y18, z18⟩, st18⟩ := X16.virtualBack hx (y := own_y0) (z := own_y0) hown (mvT hZ (own_w hw 3 rfl)) (mvT hZ (own_w hw 4 rfl)) (notFace_of_selects (args := #[]) (mvT hZ (own_w hw 6 rfl))) (mvT hZ (own_w hw 6 rfl)) (mvT hZ (own_w hw 5 rfl)) (by decide) (backOf (W := 0) (own_rm1 l Z a0 hw [] s_INTEGER ((q0 >>> ((((p1.toUInt32 >>> ((2 : Int32) &&& 31).toUInt32).toInt32) &&& (63 : Int32)) &&& 0x3f).toInt64)) ((-2147483648 : Int64)) ((2147483647 : Int64)) h0 n0 Z0 F_min_s_INTEGER F_max_s_INTEGER) hZ (own_w hw 7 rfl) (own_w hw 1 rfl) (by decide) (by decide)) q18a q18c (g := (mkF m 123 #[.val (.long q0), .second, .val (.int p1), .val (.int (((p1.toUInt32 >>> ((2 : Int32) &&& 31).toUInt32).toInt32) &&& (63 : Int32))), .val (.long (q0 >>> ((((p1.toUInt32 >>> ((2 : Int32) &&& 31).toUInt32).toInt32) &&& (63 : Int32)) &&& 0x3f).toInt64)), .second, .val (.int (p1 &&& (3 : Int32))), .val (.ref s_INTEGER), .val (.int (1 : Int32))] [(.long (q0 >>> ((((p1.toUInt32 >>> ((2 : Int32) &&& 31).toUInt32).toInt32) &&& (63 : Int32)) &&& 0x3f).toInt64)), (.ref s_INTEGER)])) rfl (by rw [hml]; rfl) (Steps.refl _) (argsL := [(.long (q0 >>> ((((p1.toUInt32 >>> ((2 : Int32) &&& 31).toUInt32).toInt32) &&& (63 : Int32)) &&& 0x3f).toInt64))]) (rest := []) (lenOf own_pd0 rfl) rfl (by show 2 * 0 + _ ≤ _; exact Nat.le_of_eq rfl) (hb hby at_123) (fun _ _ => ⟨rfl, e16, (by decide : 0 + 0 ≤ _), (by decide : 0 + 0 ≤ _)⟩)
          dsimp only [Pt.U, Pt.locs, Pt.cells, Pt.slots] at X18 l18 y18 z18 st18 hQ18
          subst l18 y18 z18
          obtain ⟨rfl, N18q, e18⟩ := hQ18
          have N18 := Fr.app N0 N18q
          refine own_step (fun _ k => st18.trans k) ?_
          show own_Fin p e below s _ _ _ (T18.setTop (mkF m 126 #[.val (.long q0), .second, .val (.int p1), .val (.int (((p1.toUInt32 >>> ((2 : Int32) &&& 31).toUInt32).toInt32) &&& (63 : Int32))), .val (.long (q0 >>> ((((p1.toUInt32 >>> ((2 : Int32) &&& 31).toUInt32).toInt32) &&& (63 : Int32)) &&& 0x3f).toInt64)), .second, .val (.int (p1 &&& (3 : Int32))), .val (.ref s_INTEGER), .val (.int (1 : Int32))] [(.int (own_r1 (q0 >>> ((((p1.toUInt32 >>> ((2 : Int32) &&& 31).toUInt32).toInt32) &&& (63 : Int32)) &&& 0x3f).toInt64) (-2147483648 : Int64) (2147483647 : Int64)))]))
          refine own_step (fun _ k => XS.iload X18.here hx rfl (hb hby at_126) rfl k) ?_
          show own_Fin p e below s _ _ _ (T18.setTop (mkF m 128 #[.val (.long q0), .second, .val (.int p1), .val (.int (((p1.toUInt32 >>> ((2 : Int32) &&& 31).toUInt32).toInt32) &&& (63 : Int32))), .val (.long (q0 >>> ((((p1.toUInt32 >>> ((2 : Int32) &&& 31).toUInt32).toInt32) &&& (63 : Int32)) &&& 0x3f).toInt64)), .second, .val (.int (p1 &&& (3 : Int32))), .val (.ref s_INTEGER), .val (.int (1 : Int32))] [(.int (1 : Int32)), (.int (own_r1 (q0 >>> ((((p1.toUInt32 >>> ((2 : Int32) &&& 31).toUInt32).toInt32) &&& (63 : Int32)) &&& 0x3f).toInt64) (-2147483648 : Int64) (2147483647 : Int64)))]))
          have hf19 : (own_r1 (q0 >>> ((((p1.toUInt32 >>> ((2 : Int32) &&& 31).toUInt32).toInt32) &&& (63 : Int32)) &&& 0x3f).toInt64) (-2147483648 : Int64) (2147483647 : Int64)) = (1 : Int32) := (own_lawI _).trans (if_pos hc17)
          refine own_step (fun _ k => XS.icmpNo X18.here hx rfl (hb hby at_128) rfl (teq hf19).2 k) ?_
          show own_Fin p e below s _ _ _ (T18.setTop (mkF m 131 #[.val (.long q0), .second, .val (.int p1), .val (.int (((p1.toUInt32 >>> ((2 : Int32) &&& 31).toUInt32).toInt32) &&& (63 : Int32))), .val (.long (q0 >>> ((((p1.toUInt32 >>> ((2 : Int32) &&& 31).toUInt32).toInt32) &&& (63 : Int32)) &&& 0x3f).toInt64)), .second, .val (.int (p1 &&& (3 : Int32))), .val (.ref s_INTEGER), .val (.int (1 : Int32))] []))
          refine own_step (fun _ k => XS.iconst X18.here hx rfl (hb hby at_131) k) ?_
          show own_Fin p e below s _ _ _ (T18.setTop (mkF m 132 #[.val (.long q0), .second, .val (.int p1), .val (.int (((p1.toUInt32 >>> ((2 : Int32) &&& 31).toUInt32).toInt32) &&& (63 : Int32))), .val (.long (q0 >>> ((((p1.toUInt32 >>> ((2 : Int32) &&& 31).toUInt32).toInt32) &&& (63 : Int32)) &&& 0x3f).toInt64)), .second, .val (.int (p1 &&& (3 : Int32))), .val (.ref s_INTEGER), .val (.int (1 : Int32))] [(.int (1 : Int32))]))
          refine own_step (fun _ k => XS.goto X18.here hx rfl (pc0 := 132) (pc' := 136) rfl (hb hby at_132) (by decide) (by decide) k) ?_
          show own_Fin p e below s _ _ _ (T18.setTop (mkF m 136 #[.val (.long q0), .second, .val (.int p1), .val (.int (((p1.toUInt32 >>> ((2 : Int32) &&& 31).toUInt32).toInt32) &&& (63 : Int32))), .val (.long (q0 >>> ((((p1.toUInt32 >>> ((2 : Int32) &&& 31).toUInt32).toInt32) &&& (63 : Int32)) &&& 0x3f).toInt64)), .second, .val (.int (p1 &&& (3 : Int32))), .val (.ref s_INTEGER), .val (.int (1 : Int32))] [(.int (1 : Int32))]))
          exact own_ret X18 hlk (v := some (.int (1 : Int32))) (fun h => by rw [Bd.returns] at h; cases h) (by decide) (by decide) (by show own_Q2 Z q0 p1 s_BYTEINT s_SMALLINT s_INTEGER s_BIGINT h0 n0 _ T18.heap _; rw [e18]; exact ⟨rfl, N18⟩) (fun fs hr => retN X18 hx (t := .boolean) Bd.returns (by simp) (hb hby at_136) hr)
        · refine own_step (fun _ k => XS.ifYes X16.here hx rfl (pc0 := 98) (pc' := 105) rfl (hb hby at_98) rfl ((if0 _ _).trans (feq hc17).2) (by decide) (by decide) k) ?_
          show own_Fin p e below s _ _ _ (T16.setTop (mkF m 105 #[.val (.long q0), .second, .val (.int p1), .val (.int (((p1.toUInt32 >>> ((2 : Int32) &&& 31).toUInt32).toInt32) &&& (63 : Int32))), .val (.long (q0 >>> ((((p1.toUInt32 >>> ((2 : Int32) &&& 31).toUInt32).toInt32) &&& (63 : Int32)) &&& 0x3f).toInt64)), .second, .val (.int (p1 &&& (3 : Int32))), .val (.ref s_INTEGER), .unset] []))
          refine own_step (fun _ k => XS.iconst X16.here hx rfl (hb hby at_105) k) ?_
          show own_Fin p e below s _ _ _ (T16.setTop (mkF m 106 #[.val (.long q0), .second, .val (.int p1), .val (.int (((p1.toUInt32 >>> ((2 : Int32) &&& 31).toUInt32).toInt32) &&& (63 : Int32))), .val (.long (q0 >>> ((((p1.toUInt32 >>> ((2 : Int32) &&& 31).toUInt32).toInt32) &&& (63 : Int32)) &&& 0x3f).toInt64)), .second, .val (.int (p1 &&& (3 : Int32))), .val (.ref s_INTEGER), .unset] [(.int (0 : Int32))]))
          refine own_step (fun _ k => XS.istore X16.here hx rfl (hb hby at_106) rfl (l' := #[.val (.long q0), .second, .val (.int p1), .val (.int (((p1.toUInt32 >>> ((2 : Int32) &&& 31).toUInt32).toInt32) &&& (63 : Int32))), .val (.long (q0 >>> ((((p1.toUInt32 >>> ((2 : Int32) &&& 31).toUInt32).toInt32) &&& (63 : Int32)) &&& 0x3f).toInt64)), .second, .val (.int (p1 &&& (3 : Int32))), .val (.ref s_INTEGER), .val (.int (0 : Int32))]) rfl k) ?_
          show own_Fin p e below s _ _ _ (T16.setTop (mkF m 108 #[.val (.long q0), .second, .val (.int p1), .val (.int (((p1.toUInt32 >>> ((2 : Int32) &&& 31).toUInt32).toInt32) &&& (63 : Int32))), .val (.long (q0 >>> ((((p1.toUInt32 >>> ((2 : Int32) &&& 31).toUInt32).toInt32) &&& (63 : Int32)) &&& 0x3f).toInt64)), .second, .val (.int (p1 &&& (3 : Int32))), .val (.ref s_INTEGER), .val (.int (0 : Int32))] []))
          refine own_step (fun _ k => XS.goto X16.here hx rfl (pc0 := 108) (pc' := 119) rfl (hb hby at_108) (by decide) (by decide) k) ?_
          show own_Fin p e below s _ _ _ (T16.setTop (mkF m 119 #[.val (.long q0), .second, .val (.int p1), .val (.int (((p1.toUInt32 >>> ((2 : Int32) &&& 31).toUInt32).toInt32) &&& (63 : Int32))), .val (.long (q0 >>> ((((p1.toUInt32 >>> ((2 : Int32) &&& 31).toUInt32).toInt32) &&& (63 : Int32)) &&& 0x3f).toInt64)), .second, .val (.int (p1 &&& (3 : Int32))), .val (.ref s_INTEGER), .val (.int (0 : Int32))] []))
          refine own_step (fun _ k => XS.aload X16.here hx rfl (hb hby at_119) rfl rfl k) ?_
          show own_Fin p e below s _ _ _ (T16.setTop (mkF m 121 #[.val (.long q0), .second, .val (.int p1), .val (.int (((p1.toUInt32 >>> ((2 : Int32) &&& 31).toUInt32).toInt32) &&& (63 : Int32))), .val (.long (q0 >>> ((((p1.toUInt32 >>> ((2 : Int32) &&& 31).toUInt32).toInt32) &&& (63 : Int32)) &&& 0x3f).toInt64)), .second, .val (.int (p1 &&& (3 : Int32))), .val (.ref s_INTEGER), .val (.int (0 : Int32))] [(.ref s_INTEGER)]))
          refine own_step (fun _ k => XS.lload X16.here hx rfl (hb hby at_121) rfl k) ?_
          show own_Fin p e below s _ _ _ (T16.setTop (mkF m 123 #[.val (.long q0), .second, .val (.int p1), .val (.int (((p1.toUInt32 >>> ((2 : Int32) &&& 31).toUInt32).toInt32) &&& (63 : Int32))), .val (.long (q0 >>> ((((p1.toUInt32 >>> ((2 : Int32) &&& 31).toUInt32).toInt32) &&& (63 : Int32)) &&& 0x3f).toInt64)), .second, .val (.int (p1 &&& (3 : Int32))), .val (.ref s_INTEGER), .val (.int (0 : Int32))] [(.long (q0 >>> ((((p1.toUInt32 >>> ((2 : Int32) &&& 31).toUInt32).toInt32) &&& (63 : Int32)) &&& 0x3f).toInt64)), (.ref s_INTEGER)]))
          obtain ⟨cq20, kq20, q20a, q20b, q20c⟩ := isOf hZ e16 E_s_INTEGER
          obtain ⟨_, _, ⟨T20, L20, k20, n20⟩, -, X20, ⟨Lc20, hQ20, l20, y20, z20⟩, st20⟩ := X16.virtualBack hx (y := own_y0) (z := own_y0) hown (mvT hZ (own_w hw 3 rfl)) (mvT hZ (own_w hw 4 rfl)) (notFace_of_selects (args := #[]) (mvT hZ (own_w hw 6 rfl))) (mvT hZ (own_w hw 6 rfl)) (mvT hZ (own_w hw 5 rfl)) (by decide) (backOf (W := 0) (own_rm1 l Z a0 hw [] s_INTEGER ((q0 >>> ((((p1.toUInt32 >>> ((2 : Int32) &&& 31).toUInt32).toInt32) &&& (63 : Int32)) &&& 0x3f).toInt64)) ((-2147483648 : Int64)) ((2147483647 : Int64)) h0 n0 Z0 F_min_s_INTEGER F_max_s_INTEGER) hZ (own_w hw 7 rfl) (own_w hw 1 rfl) (by decide) (by decide)) q20a q20c (g := (mkF m 123 #[.val (.long q0), .second, .val (.int p1), .val (.int (((p1.toUInt32 >>> ((2 : Int32) &&& 31).toUInt32).toInt32) &&& (63 : Int32))), .val (.long (q0 >>> ((((p1.toUInt32 >>> ((2 : Int32) &&& 31).toUInt32).toInt32) &&& (63 : Int32)) &&& 0x3f).toInt64)), .second, .val (.int (p1 &&& (3 : Int32))), .val (.ref s_INTEGER), .val (.int (0 : Int32))] [(.long (q0 >>> ((((p1.toUInt32 >>> ((2 : Int32) &&& 31).toUInt32).toInt32) &&& (63 : Int32)) &&& 0x3f).toInt64)), (.ref s_INTEGER)])) rfl (by rw [hml]; rfl) (Steps.refl _) (argsL := [(.long (q0 >>> ((((p1.toUInt32 >>> ((2 : Int32) &&& 31).toUInt32).toInt32) &&& (63 : Int32)) &&& 0x3f).toInt64))]) (rest := []) (lenOf own_pd0 rfl) rfl (by show 2 * 0 + _ ≤ _; exact Nat.le_of_eq rfl) (hb hby at_123) (fun _ _ => ⟨rfl, e16, (by decide : 0 + 0 ≤ _), (by decide : 0 + 0 ≤ _)⟩)
          dsimp only [Pt.U, Pt.locs, Pt.cells, Pt.slots] at X20 l20 y20 z20 st20 hQ20
          subst l20 y20 z20
          obtain ⟨rfl, N20q, e20⟩ := hQ20
          have N20 := Fr.app N0 N20q
          refine own_step (fun _ k => st20.trans k) ?_
          show own_Fin p e below s _ _ _ (T20.setTop (mkF m 126 #[.val (.long q0), .second, .val (.int p1), .val (.int (((p1.toUInt32 >>> ((2 : Int32) &&& 31).toUInt32).toInt32) &&& (63 : Int32))), .val (.long (q0 >>> ((((p1.toUInt32 >>> ((2 : Int32) &&& 31).toUInt32).toInt32) &&& (63 : Int32)) &&& 0x3f).toInt64)), .second, .val (.int (p1 &&& (3 : Int32))), .val (.ref s_INTEGER), .val (.int (0 : Int32))] [(.int (own_r1 (q0 >>> ((((p1.toUInt32 >>> ((2 : Int32) &&& 31).toUInt32).toInt32) &&& (63 : Int32)) &&& 0x3f).toInt64) (-2147483648 : Int64) (2147483647 : Int64)))]))
          refine own_step (fun _ k => XS.iload X20.here hx rfl (hb hby at_126) rfl k) ?_
          show own_Fin p e below s _ _ _ (T20.setTop (mkF m 128 #[.val (.long q0), .second, .val (.int p1), .val (.int (((p1.toUInt32 >>> ((2 : Int32) &&& 31).toUInt32).toInt32) &&& (63 : Int32))), .val (.long (q0 >>> ((((p1.toUInt32 >>> ((2 : Int32) &&& 31).toUInt32).toInt32) &&& (63 : Int32)) &&& 0x3f).toInt64)), .second, .val (.int (p1 &&& (3 : Int32))), .val (.ref s_INTEGER), .val (.int (0 : Int32))] [(.int (0 : Int32)), (.int (own_r1 (q0 >>> ((((p1.toUInt32 >>> ((2 : Int32) &&& 31).toUInt32).toInt32) &&& (63 : Int32)) &&& 0x3f).toInt64) (-2147483648 : Int64) (2147483647 : Int64)))]))
          have hf21 : (own_r1 (q0 >>> ((((p1.toUInt32 >>> ((2 : Int32) &&& 31).toUInt32).toInt32) &&& (63 : Int32)) &&& 0x3f).toInt64) (-2147483648 : Int64) (2147483647 : Int64)) = (0 : Int32) := (own_lawI _).trans (if_neg hc17)
          refine own_step (fun _ k => XS.icmpNo X20.here hx rfl (hb hby at_128) rfl (teq hf21).2 k) ?_
          show own_Fin p e below s _ _ _ (T20.setTop (mkF m 131 #[.val (.long q0), .second, .val (.int p1), .val (.int (((p1.toUInt32 >>> ((2 : Int32) &&& 31).toUInt32).toInt32) &&& (63 : Int32))), .val (.long (q0 >>> ((((p1.toUInt32 >>> ((2 : Int32) &&& 31).toUInt32).toInt32) &&& (63 : Int32)) &&& 0x3f).toInt64)), .second, .val (.int (p1 &&& (3 : Int32))), .val (.ref s_INTEGER), .val (.int (0 : Int32))] []))
          refine own_step (fun _ k => XS.iconst X20.here hx rfl (hb hby at_131) k) ?_
          show own_Fin p e below s _ _ _ (T20.setTop (mkF m 132 #[.val (.long q0), .second, .val (.int p1), .val (.int (((p1.toUInt32 >>> ((2 : Int32) &&& 31).toUInt32).toInt32) &&& (63 : Int32))), .val (.long (q0 >>> ((((p1.toUInt32 >>> ((2 : Int32) &&& 31).toUInt32).toInt32) &&& (63 : Int32)) &&& 0x3f).toInt64)), .second, .val (.int (p1 &&& (3 : Int32))), .val (.ref s_INTEGER), .val (.int (0 : Int32))] [(.int (1 : Int32))]))
          refine own_step (fun _ k => XS.goto X20.here hx rfl (pc0 := 132) (pc' := 136) rfl (hb hby at_132) (by decide) (by decide) k) ?_
          show own_Fin p e below s _ _ _ (T20.setTop (mkF m 136 #[.val (.long q0), .second, .val (.int p1), .val (.int (((p1.toUInt32 >>> ((2 : Int32) &&& 31).toUInt32).toInt32) &&& (63 : Int32))), .val (.long (q0 >>> ((((p1.toUInt32 >>> ((2 : Int32) &&& 31).toUInt32).toInt32) &&& (63 : Int32)) &&& 0x3f).toInt64)), .second, .val (.int (p1 &&& (3 : Int32))), .val (.ref s_INTEGER), .val (.int (0 : Int32))] [(.int (1 : Int32))]))
          exact own_ret X20 hlk (v := some (.int (1 : Int32))) (fun h => by rw [Bd.returns] at h; cases h) (by decide) (by decide) (by show own_Q2 Z q0 p1 s_BYTEINT s_SMALLINT s_INTEGER s_BIGINT h0 n0 _ T20.heap _; rw [e20]; exact ⟨rfl, N20⟩) (fun fs hr => retN X20 hx (t := .boolean) Bd.returns (by simp) (hb hby at_136) hr)
      · refine own_step (fun _ k => XS.icmpYes X0.here hx rfl (pc0 := 83) (pc' := 111) rfl (hb hby at_83) rfl (feq hc15).2 (by decide) (by decide) k) ?_
        show own_Fin p e below s _ _ _ (s₁.setTop (mkF m 111 #[.val (.long q0), .second, .val (.int p1), .val (.int (((p1.toUInt32 >>> ((2 : Int32) &&& 31).toUInt32).toInt32) &&& (63 : Int32))), .val (.long (q0 >>> ((((p1.toUInt32 >>> ((2 : Int32) &&& 31).toUInt32).toInt32) &&& (63 : Int32)) &&& 0x3f).toInt64)), .second, .val (.int (p1 &&& (3 : Int32))), .unset, .unset] []))
        obtain ⟨T22, X22, e22, st22⟩ := getS2 X0 hx hZ hown (host := "") (Or.inl (own_w hw 14 rfl)) Via.refl e0 S_BIGINT (g := (mkF m 111 #[.val (.long q0), .second, .val (.int p1), .val (.int (((p1.toUInt32 >>> ((2 : Int32) &&& 31).toUInt32).toInt32) &&& (63 : Int32))), .val (.long (q0 >>> ((((p1.toUInt32 >>> ((2 : Int32) &&& 31).toUInt32).toInt32) &&& (63 : Int32)) &&& 0x3f).toInt64)), .second, .val (.int (p1 &&& (3 : Int32))), .unset, .unset] [])) rfl (hb hby at_111)
        refine own_step st22 ?_
        show own_Fin p e below s _ _ _ (T22.setTop (mkF m 114 #[.val (.long q0), .second, .val (.int p1), .val (.int (((p1.toUInt32 >>> ((2 : Int32) &&& 31).toUInt32).toInt32) &&& (63 : Int32))), .val (.long (q0 >>> ((((p1.toUInt32 >>> ((2 : Int32) &&& 31).toUInt32).toInt32) &&& (63 : Int32)) &&& 0x3f).toInt64)), .second, .val (.int (p1 &&& (3 : Int32))), .unset, .unset] [(.ref s_BIGINT)]))
        refine own_step (fun _ k => XS.astore X22.here hx rfl (hb hby at_114) rfl rfl (l' := #[.val (.long q0), .second, .val (.int p1), .val (.int (((p1.toUInt32 >>> ((2 : Int32) &&& 31).toUInt32).toInt32) &&& (63 : Int32))), .val (.long (q0 >>> ((((p1.toUInt32 >>> ((2 : Int32) &&& 31).toUInt32).toInt32) &&& (63 : Int32)) &&& 0x3f).toInt64)), .second, .val (.int (p1 &&& (3 : Int32))), .val (.ref s_BIGINT), .unset]) rfl k) ?_
        show own_Fin p e below s _ _ _ (T22.setTop (mkF m 116 #[.val (.long q0), .second, .val (.int p1), .val (.int (((p1.toUInt32 >>> ((2 : Int32) &&& 31).toUInt32).toInt32) &&& (63 : Int32))), .val (.long (q0 >>> ((((p1.toUInt32 >>> ((2 : Int32) &&& 31).toUInt32).toInt32) &&& (63 : Int32)) &&& 0x3f).toInt64)), .second, .val (.int (p1 &&& (3 : Int32))), .val (.ref s_BIGINT), .unset] []))
        refine own_step (fun _ k => XS.iconst X22.here hx rfl (hb hby at_116) k) ?_
        show own_Fin p e below s _ _ _ (T22.setTop (mkF m 117 #[.val (.long q0), .second, .val (.int p1), .val (.int (((p1.toUInt32 >>> ((2 : Int32) &&& 31).toUInt32).toInt32) &&& (63 : Int32))), .val (.long (q0 >>> ((((p1.toUInt32 >>> ((2 : Int32) &&& 31).toUInt32).toInt32) &&& (63 : Int32)) &&& 0x3f).toInt64)), .second, .val (.int (p1 &&& (3 : Int32))), .val (.ref s_BIGINT), .unset] [(.int (1 : Int32))]))
        refine own_step (fun _ k => XS.istore X22.here hx rfl (hb hby at_117) rfl (l' := #[.val (.long q0), .second, .val (.int p1), .val (.int (((p1.toUInt32 >>> ((2 : Int32) &&& 31).toUInt32).toInt32) &&& (63 : Int32))), .val (.long (q0 >>> ((((p1.toUInt32 >>> ((2 : Int32) &&& 31).toUInt32).toInt32) &&& (63 : Int32)) &&& 0x3f).toInt64)), .second, .val (.int (p1 &&& (3 : Int32))), .val (.ref s_BIGINT), .val (.int (1 : Int32))]) rfl k) ?_
        show own_Fin p e below s _ _ _ (T22.setTop (mkF m 119 #[.val (.long q0), .second, .val (.int p1), .val (.int (((p1.toUInt32 >>> ((2 : Int32) &&& 31).toUInt32).toInt32) &&& (63 : Int32))), .val (.long (q0 >>> ((((p1.toUInt32 >>> ((2 : Int32) &&& 31).toUInt32).toInt32) &&& (63 : Int32)) &&& 0x3f).toInt64)), .second, .val (.int (p1 &&& (3 : Int32))), .val (.ref s_BIGINT), .val (.int (1 : Int32))] []))
        refine own_step (fun _ k => XS.aload X22.here hx rfl (hb hby at_119) rfl rfl k) ?_
        show own_Fin p e below s _ _ _ (T22.setTop (mkF m 121 #[.val (.long q0), .second, .val (.int p1), .val (.int (((p1.toUInt32 >>> ((2 : Int32) &&& 31).toUInt32).toInt32) &&& (63 : Int32))), .val (.long (q0 >>> ((((p1.toUInt32 >>> ((2 : Int32) &&& 31).toUInt32).toInt32) &&& (63 : Int32)) &&& 0x3f).toInt64)), .second, .val (.int (p1 &&& (3 : Int32))), .val (.ref s_BIGINT), .val (.int (1 : Int32))] [(.ref s_BIGINT)]))
        refine own_step (fun _ k => XS.lload X22.here hx rfl (hb hby at_121) rfl k) ?_
        show own_Fin p e below s _ _ _ (T22.setTop (mkF m 123 #[.val (.long q0), .second, .val (.int p1), .val (.int (((p1.toUInt32 >>> ((2 : Int32) &&& 31).toUInt32).toInt32) &&& (63 : Int32))), .val (.long (q0 >>> ((((p1.toUInt32 >>> ((2 : Int32) &&& 31).toUInt32).toInt32) &&& (63 : Int32)) &&& 0x3f).toInt64)), .second, .val (.int (p1 &&& (3 : Int32))), .val (.ref s_BIGINT), .val (.int (1 : Int32))] [(.long (q0 >>> ((((p1.toUInt32 >>> ((2 : Int32) &&& 31).toUInt32).toInt32) &&& (63 : Int32)) &&& 0x3f).toInt64)), (.ref s_BIGINT)]))
        obtain ⟨cq23, kq23, q23a, q23b, q23c⟩ := isOf hZ e22 E_s_BIGINT
        obtain ⟨_, _, ⟨T23, L23, k23, n23⟩, -, X23, ⟨Lc23, hQ23, l23, y23, z23⟩, st23⟩ := X22.virtualBack hx (y := own_y0) (z := own_y0) hown (mvT hZ (own_w hw 3 rfl)) (mvT hZ (own_w hw 4 rfl)) (notFace_of_selects (args := #[]) (mvT hZ (own_w hw 6 rfl))) (mvT hZ (own_w hw 6 rfl)) (mvT hZ (own_w hw 5 rfl)) (by decide) (backOf (W := 0) (own_rm1 l Z a0 hw [] s_BIGINT ((q0 >>> ((((p1.toUInt32 >>> ((2 : Int32) &&& 31).toUInt32).toInt32) &&& (63 : Int32)) &&& 0x3f).toInt64)) ((-9223372036854775808 : Int64)) ((9223372036854775807 : Int64)) h0 n0 Z0 F_min_s_BIGINT F_max_s_BIGINT) hZ (own_w hw 7 rfl) (own_w hw 1 rfl) (by decide) (by decide)) q23a q23c (g := (mkF m 123 #[.val (.long q0), .second, .val (.int p1), .val (.int (((p1.toUInt32 >>> ((2 : Int32) &&& 31).toUInt32).toInt32) &&& (63 : Int32))), .val (.long (q0 >>> ((((p1.toUInt32 >>> ((2 : Int32) &&& 31).toUInt32).toInt32) &&& (63 : Int32)) &&& 0x3f).toInt64)), .second, .val (.int (p1 &&& (3 : Int32))), .val (.ref s_BIGINT), .val (.int (1 : Int32))] [(.long (q0 >>> ((((p1.toUInt32 >>> ((2 : Int32) &&& 31).toUInt32).toInt32) &&& (63 : Int32)) &&& 0x3f).toInt64)), (.ref s_BIGINT)])) rfl (by rw [hml]; rfl) (Steps.refl _) (argsL := [(.long (q0 >>> ((((p1.toUInt32 >>> ((2 : Int32) &&& 31).toUInt32).toInt32) &&& (63 : Int32)) &&& 0x3f).toInt64))]) (rest := []) (lenOf own_pd0 rfl) rfl (by show 2 * 0 + _ ≤ _; exact Nat.le_of_eq rfl) (hb hby at_123) (fun _ _ => ⟨rfl, e22, (by decide : 0 + 0 ≤ _), (by decide : 0 + 0 ≤ _)⟩)
        dsimp only [Pt.U, Pt.locs, Pt.cells, Pt.slots] at X23 l23 y23 z23 st23 hQ23
        subst l23 y23 z23
        obtain ⟨rfl, N23q, e23⟩ := hQ23
        have N23 := Fr.app N0 N23q
        refine own_step (fun _ k => st23.trans k) ?_
        show own_Fin p e below s _ _ _ (T23.setTop (mkF m 126 #[.val (.long q0), .second, .val (.int p1), .val (.int (((p1.toUInt32 >>> ((2 : Int32) &&& 31).toUInt32).toInt32) &&& (63 : Int32))), .val (.long (q0 >>> ((((p1.toUInt32 >>> ((2 : Int32) &&& 31).toUInt32).toInt32) &&& (63 : Int32)) &&& 0x3f).toInt64)), .second, .val (.int (p1 &&& (3 : Int32))), .val (.ref s_BIGINT), .val (.int (1 : Int32))] [(.int (own_r1 (q0 >>> ((((p1.toUInt32 >>> ((2 : Int32) &&& 31).toUInt32).toInt32) &&& (63 : Int32)) &&& 0x3f).toInt64) (-9223372036854775808 : Int64) (9223372036854775807 : Int64)))]))
        refine own_step (fun _ k => XS.iload X23.here hx rfl (hb hby at_126) rfl k) ?_
        show own_Fin p e below s _ _ _ (T23.setTop (mkF m 128 #[.val (.long q0), .second, .val (.int p1), .val (.int (((p1.toUInt32 >>> ((2 : Int32) &&& 31).toUInt32).toInt32) &&& (63 : Int32))), .val (.long (q0 >>> ((((p1.toUInt32 >>> ((2 : Int32) &&& 31).toUInt32).toInt32) &&& (63 : Int32)) &&& 0x3f).toInt64)), .second, .val (.int (p1 &&& (3 : Int32))), .val (.ref s_BIGINT), .val (.int (1 : Int32))] [(.int (1 : Int32)), (.int (own_r1 (q0 >>> ((((p1.toUInt32 >>> ((2 : Int32) &&& 31).toUInt32).toInt32) &&& (63 : Int32)) &&& 0x3f).toInt64) (-9223372036854775808 : Int64) (9223372036854775807 : Int64)))]))
        have hf24 : (own_r1 (q0 >>> ((((p1.toUInt32 >>> ((2 : Int32) &&& 31).toUInt32).toInt32) &&& (63 : Int32)) &&& 0x3f).toInt64) (-9223372036854775808 : Int64) (9223372036854775807 : Int64)) = (1 : Int32) := own_lawL _
        refine own_step (fun _ k => XS.icmpNo X23.here hx rfl (hb hby at_128) rfl (teq hf24).2 k) ?_
        show own_Fin p e below s _ _ _ (T23.setTop (mkF m 131 #[.val (.long q0), .second, .val (.int p1), .val (.int (((p1.toUInt32 >>> ((2 : Int32) &&& 31).toUInt32).toInt32) &&& (63 : Int32))), .val (.long (q0 >>> ((((p1.toUInt32 >>> ((2 : Int32) &&& 31).toUInt32).toInt32) &&& (63 : Int32)) &&& 0x3f).toInt64)), .second, .val (.int (p1 &&& (3 : Int32))), .val (.ref s_BIGINT), .val (.int (1 : Int32))] []))
        refine own_step (fun _ k => XS.iconst X23.here hx rfl (hb hby at_131) k) ?_
        show own_Fin p e below s _ _ _ (T23.setTop (mkF m 132 #[.val (.long q0), .second, .val (.int p1), .val (.int (((p1.toUInt32 >>> ((2 : Int32) &&& 31).toUInt32).toInt32) &&& (63 : Int32))), .val (.long (q0 >>> ((((p1.toUInt32 >>> ((2 : Int32) &&& 31).toUInt32).toInt32) &&& (63 : Int32)) &&& 0x3f).toInt64)), .second, .val (.int (p1 &&& (3 : Int32))), .val (.ref s_BIGINT), .val (.int (1 : Int32))] [(.int (1 : Int32))]))
        refine own_step (fun _ k => XS.goto X23.here hx rfl (pc0 := 132) (pc' := 136) rfl (hb hby at_132) (by decide) (by decide) k) ?_
        show own_Fin p e below s _ _ _ (T23.setTop (mkF m 136 #[.val (.long q0), .second, .val (.int p1), .val (.int (((p1.toUInt32 >>> ((2 : Int32) &&& 31).toUInt32).toInt32) &&& (63 : Int32))), .val (.long (q0 >>> ((((p1.toUInt32 >>> ((2 : Int32) &&& 31).toUInt32).toInt32) &&& (63 : Int32)) &&& 0x3f).toInt64)), .second, .val (.int (p1 &&& (3 : Int32))), .val (.ref s_BIGINT), .val (.int (1 : Int32))] [(.int (1 : Int32))]))
        exact own_ret X23 hlk (v := some (.int (1 : Int32))) (fun h => by rw [Bd.returns] at h; cases h) (by decide) (by decide) (by show own_Q2 Z q0 p1 s_BYTEINT s_SMALLINT s_INTEGER s_BIGINT h0 n0 _ T23.heap _; rw [e23]; exact ⟨rfl, N23⟩) (fun fs hr => retN X23 hx (t := .boolean) Bd.returns (by simp) (hb hby at_136) hr)

set_option maxRecDepth 65536 in
set_option maxHeartbeats 40000000 in
theorem comes_1 {Post : Tables → Env → Array Value → State → Outcome → State → Prop} (hpost : ∀ tb e args s v u, (limb_1_1.after args s (.returned v) u = true ∧ limb_1_2.after args s (.returned v) u = true ∧ True) → FrameEnd s (.returned v) u (Jvm.fieldLocs frame_1_writes args s ++ Jvm.arrayLocs frame_1_arrays args s ++ Jvm.staticLocs frame_1_statics s) 0 0 → Post tb e args s (.returned v) u) :
    ArmFor flags0 classFile x code maxLocals ret World_1 tables_1 room_1 Calls_1 rest_1 Pre_1 Post := by
  intro l hfl _ _ p e ha hc hk s m args below hf hA hF happ hP
  obtain ⟨hcalls, hrest, hpre⟩ := hP
  obtain ⟨-, -, -, hnamed, -, -, -, hat⟩ := (Spec.applies_iff hf).mp happ
  obtain ⟨hg, hn⟩ := and_e (Cond.before_iff.mp (show (Jvm.Cond.and given_1 narrow_1).before args s = true from hpre))
  obtain ⟨cj1a, cj1b⟩ := and_e hg
  obtain ⟨cj2a, cj2b⟩ := and_e cj1b
  obtain ⟨w0, w1, rfl⟩ : ∃ w0 w1 : Value, args = #[w0, w1] := by
    have hs : args.size = 2 := by simpa [Cond.value, given_1] using cj1a
    obtain ⟨L⟩ := args
    match L, hs with
    | [w0, w1], _ => exact ⟨w0, w1, rfl⟩
  have hw := fun d (hd : d ∈ tables_1) => atoms_spec (ws := Jvm.Cond.code x code maxLocals ret :: tables_1) hat d (List.mem_cons_of_mem _ hd)
  have hfit : Fit s := fun {y c} hc i hi => by
    obtain ⟨ha, rfl⟩ := Array.getElem?_eq_some_iff.mp hc
    have q := List.all_eq_true.mp ((Array.all_eq_true_iff_forall_mem.mp hF) _ (Array.getElem_mem ha)) i (List.mem_range.mpr hi)
    simpa [Array.getElem?_eq_getElem hi] using q
  obtain ⟨i0, ei0⟩ := isL_v cj2a
  obtain rfl : w0 = (.long i0) := Option.some.inj ei0
  obtain ⟨i1, ei1⟩ := is_v cj2b
  obtain rfl : w1 = (.int i1) := Option.some.inj ei1
  obtain ⟨cj3a, cj3b⟩ := and_e hn
  obtain ⟨cj4a, cj4b⟩ := and_e cj3b
  obtain ⟨cj5a, cj5b⟩ := and_e cj4b
  obtain ⟨cj6a, cj6b⟩ := and_e cj5b
  obtain ⟨cj7a, cj7b⟩ := and_e cj6b
  obtain ⟨cj8a, cj8b⟩ := and_e cj7b
  obtain ⟨cj9a, cj9b⟩ := and_e cj8b
  obtain ⟨cj10a, cj10b⟩ := and_e cj9b
  obtain ⟨cj11a, cj11b⟩ := and_e cj10b
  obtain ⟨cj12a, cj12b⟩ := and_e cj11b
  obtain ⟨cj13a, cj13b⟩ := and_e cj12b
  obtain ⟨s_INTEGER, ev_s_INTEGER⟩ := exa_v cj3a
  have S_INTEGER : Sta s s.heap "com/example/castwright/castwright/model/IntegerType" "INTEGER" "Lcom/example/castwright/castwright/model/IntegerType;" (.ref s_INTEGER) := Sta.start ev_s_INTEGER (Or.inr ⟨(own_w hw 1 rfl), (own_w hw 2 rfl)⟩)
  have E_s_INTEGER : Exa s s.heap s_INTEGER "com/example/castwright/castwright/model/IntegerType" := Exa.start ev_s_INTEGER cj3a
  obtain ⟨s_BYTEINT, ev_s_BYTEINT⟩ := exa_v cj6a
  have S_BYTEINT : Sta s s.heap "com/example/castwright/castwright/model/IntegerType" "BYTEINT" "Lcom/example/castwright/castwright/model/IntegerType;" (.ref s_BYTEINT) := Sta.start ev_s_BYTEINT (Or.inr ⟨(own_w hw 1 rfl), (own_w hw 13 rfl)⟩)
  have E_s_BYTEINT : Exa s s.heap s_BYTEINT "com/example/castwright/castwright/model/IntegerType" := Exa.start ev_s_BYTEINT cj6a
  obtain ⟨s_BIGINT, ev_s_BIGINT⟩ := exa_v cj8a
  have S_BIGINT : Sta s s.heap "com/example/castwright/castwright/model/IntegerType" "BIGINT" "Lcom/example/castwright/castwright/model/IntegerType;" (.ref s_BIGINT) := Sta.start ev_s_BIGINT (Or.inr ⟨(own_w hw 1 rfl), (own_w hw 15 rfl)⟩)
  have E_s_BIGINT : Exa s s.heap s_BIGINT "com/example/castwright/castwright/model/IntegerType" := Exa.start ev_s_BIGINT cj8a
  obtain ⟨s_SMALLINT, ev_s_SMALLINT⟩ := exa_v cj12a
  have S_SMALLINT : Sta s s.heap "com/example/castwright/castwright/model/IntegerType" "SMALLINT" "Lcom/example/castwright/castwright/model/IntegerType;" (.ref s_SMALLINT) := Sta.start ev_s_SMALLINT (Or.inr ⟨(own_w hw 1 rfl), (own_w hw 17 rfl)⟩)
  have E_s_SMALLINT : Exa s s.heap s_SMALLINT "com/example/castwright/castwright/model/IntegerType" := Exa.start ev_s_SMALLINT cj12a
  have ev_wmin_s_INTEGER := eqv_l rfl cj4a
  have F_min_s_INTEGER : Fld s s.heap s_INTEGER "com/example/castwright/castwright/model/IntegerType" "min" "J" (.long (-2147483648 : Int64)) := own_fldV ev_s_INTEGER ev_wmin_s_INTEGER
  have ev_wmax_s_INTEGER := eqv_l rfl cj5a
  have F_max_s_INTEGER : Fld s s.heap s_INTEGER "com/example/castwright/castwright/model/IntegerType" "max" "J" (.long (2147483647 : Int64)) := own_fldV ev_s_INTEGER ev_wmax_s_INTEGER
  have ev_wmin_s_BYTEINT := eqv_l rfl cj7a
  have F_min_s_BYTEINT : Fld s s.heap s_BYTEINT "com/example/castwright/castwright/model/IntegerType" "min" "J" (.long (-128 : Int64)) := own_fldV ev_s_BYTEINT ev_wmin_s_BYTEINT
  have ev_wmin_s_BIGINT := eqv_l rfl cj9a
  have F_min_s_BIGINT : Fld s s.heap s_BIGINT "com/example/castwright/castwright/model/IntegerType" "min" "J" (.long (-9223372036854775808 : Int64)) := own_fldV ev_s_BIGINT ev_wmin_s_BIGINT
  have ev_wmax_s_BIGINT := eqv_l rfl cj10a
  have F_max_s_BIGINT : Fld s s.heap s_BIGINT "com/example/castwright/castwright/model/IntegerType" "max" "J" (.long (9223372036854775807 : Int64)) := own_fldV ev_s_BIGINT ev_wmax_s_BIGINT
  have ev_wmax_s_BYTEINT := eqv_l rfl cj11a
  have F_max_s_BYTEINT : Fld s s.heap s_BYTEINT "com/example/castwright/castwright/model/IntegerType" "max" "J" (.long (127 : Int64)) := own_fldV ev_s_BYTEINT ev_wmax_s_BYTEINT
  have ev_wmin_s_SMALLINT := eqv_l rfl cj13a
  have F_min_s_SMALLINT : Fld s s.heap s_SMALLINT "com/example/castwright/castwright/model/IntegerType" "min" "J" (.long (-32768 : Int64)) := own_fldV ev_s_SMALLINT ev_wmin_s_SMALLINT
  have ev_wmax_s_SMALLINT := eqv_l rfl cj13b
  have F_max_s_SMALLINT : Fld s s.heap s_SMALLINT "com/example/castwright/castwright/model/IntegerType" "max" "J" (.long (32767 : Int64)) := own_fldV ev_s_SMALLINT ev_wmax_s_SMALLINT
  obtain ⟨n, o, h1, h2, h3, _, L, rfl, ⟨rfl, N⟩, hq⟩ := own_rm2 l s _ hw tables_1 i0 i1 s_BYTEINT s_SMALLINT s_INTEGER s_BIGINT s.heap s.heap.size (Nat.le_refl _) S_BYTEINT E_s_BYTEINT F_min_s_BYTEINT F_max_s_BYTEINT S_SMALLINT E_s_SMALLINT F_min_s_SMALLINT F_max_s_SMALLINT S_INTEGER E_s_INTEGER F_min_s_INTEGER F_max_s_INTEGER S_BIGINT E_s_BIGINT F_min_s_BIGINT F_max_s_BIGINT p e ha hc hk s m _ below hf ((Spec.applies_iff_loose hf).mp happ).1 ⟨rfl, State.Warmed39.refl s, rfl⟩ trivial
  refine ⟨n, _, h1, h2, h3, hpost _ _ _ _ _ _ ⟨Cond.after_iff.mpr rfl, Cond.after_iff.mpr (eq_i res_at (Term.int_eval (1)) rfl), trivial⟩ ⟨hq.1, hq.2.1, (hq.2.2.sift fun y hy => Or.inr (N y hy)).mono (by decide) (by decide)⟩⟩
theorem main_1_1 : Claimed_1_1 := comes_1 fun _ _ _ _ _ _ h hF => ⟨h.1, hF⟩
theorem main_1_2 : Claimed_1_2 := comes_1 fun _ _ _ _ _ _ h hF => ⟨h.2.1, hF⟩
end Jvm.Pilot.@@N@@
namespace Jvm.Pilot.@@N@@
open Jvm Jvm.ClassFile Sem Op Lib Jvm.Free Jvm.Stand Jvm.Pilot.@@N@@.Jvm.D
/-! MADE BY PROGRAM (witnessworld.py) out of the Statement's table words and the real class files: 13 classes; the members and pool entries that the words name. The judged class is class 1, her method 1. -/
namespace start1
open Jvm.ClassFile
def u (s : String) : CpInfo := .utf8 (stringToUtf16 s)
/-- a pool by its gaps: so many unusable entries, then the entry; so many at the end -/
def gap : Nat → List CpInfo → List CpInfo
  | 0, r => r
  | n + 1, r => .unusable :: gap n r
def poolList (es : List (Nat × CpInfo)) (last : Nat) : List CpInfo := es.foldr (fun e r => gap e.1 (e.2 :: r)) (gap last [])
def pool (es : List (Nat × CpInfo)) (last : Nat) : Array CpInfo := ⟨poolList es last⟩
def fileOf (pool : Array CpInfo) (this : Nat) (attrs : Array Attribute := #[]) (ms : Array MethodInfo := #[]) (fl : Nat := 33) (sup : Nat := 0) (ifs : Array Nat := #[]) (fds : Array FieldInfo := #[]) : ClassFile where
  minorVersion := 0
  majorVersion := 65
  constantPool := pool
  accessFlags := fl
  thisClass := this
  superClass := sup
  interfaces := ifs
  fields := fds
  methods := ms
  attributes := attrs
def plain (name : String) (sup : Option ClassId) : Class where
  name := name
  kind := .ordinary
  loader := none
  accessFlags := 33
  super := sup
  interfaces := #[]
  cf := none
  fields := #[]
  methods := #[]
  instanceTypes := #[]
  staticTypes := #[]
  resolved := #[]
  callSites := []
  init := .initialized
  statics := none
  mirror := none

def pool0 : Array CpInfo := pool [(5, u "<init>"), (0, u "()V"), (1, .class_ 10), (1, u "java/lang/Object")] 113

def k0m0 : Method := { name := "<init>", desc := "()V", sig := { parameters := [], returnType := none }, accessFlags := 1, code := none }
/-- java/lang/Object -/
def k0 : Class := { plain "java/lang/Object" none with
  accessFlags := 33
  interfaces := #[]
  cf := some (fileOf pool0 8 #[] #[{ accessFlags := 1, nameIndex := 5, descriptorIndex := 6, attributes := #[] }] 33 0 #[] #[])
  fields := #[]
  methods := #[k0m0]
  instanceTypes := #[]
  staticTypes := #[]
  resolved := Array.replicate 124 none
  statics := none }

def pool1 : Array CpInfo := pool [(2, .class_ 4), (1, u "java/lang/Object"), (0, u "<init>"), (0, u "()V"), (0, .fieldref 8 9), (0, .class_ 10), (0, .nameAndType 11 12), (0, u "com/example/castwright/castwright/model/IntegerType"), (0, u "BYTEINT"), (0, u "Lcom/example/castwright/castwright/model/IntegerType;"), (0, .fieldref 8 14), (0, .nameAndType 15 12), (0, u "SMALLINT"), (0, .fieldref 8 17), (0, .nameAndType 18 12), (0, u "INTEGER"), (0, .fieldref 8 20), (0, .nameAndType 21 12), (0, u "BIGINT"), (0, .methodref 8 23), (0, .nameAndType 24 25), (0, u "holds"), (0, u "(J)Z"), (0, .class_ 27), (0, u "com/example/castwright/castwright/model/IntegerTypeHoldsPinLaw"), (2, u "law"), (0, u "(JI)Z")] 3

def k1m0 : Method := { name := "<init>", desc := "()V", sig := { parameters := [], returnType := none }, accessFlags := 1, code := none }
def k1c1 : Code := { maxStack := 4, maxLocals := 9, code := code, exceptionTable := #[], attributes := #[] }
def k1m1 : Method := { name := "law", desc := "(JI)Z", sig := { parameters := [.long, .int], returnType := some .boolean }, accessFlags := 9, code := some k1c1 }
/-- com/example/castwright/castwright/model/IntegerTypeHoldsPinLaw -/
def k1 : Class := { plain "com/example/castwright/castwright/model/IntegerTypeHoldsPinLaw" (some 0) with
  accessFlags := 49
  interfaces := #[]
  cf := some (fileOf pool1 26 #[] #[{ accessFlags := 1, nameIndex := 5, descriptorIndex := 6, attributes := #[] }, { accessFlags := 9, nameIndex := 30, descriptorIndex := 31, attributes := #[] }] 49 2 #[] #[])
  fields := #[]
  methods := #[k1m0, k1m1]
  instanceTypes := #[]
  staticTypes := #[]
  resolved := Array.replicate 35 none
  statics := none }

def pool2 : Array CpInfo := pool [(1, .class_ 2), (0, u "java/lang/constant/Constable"), (0, .class_ 4), (0, u "java/lang/Object")] 6

/-- java/lang/constant/Constable -/
def k2 : Class := { plain "java/lang/constant/Constable" (some 0) with
  accessFlags := 1537
  interfaces := #[]
  cf := some (fileOf pool2 1 #[] #[] 1537 3 #[] #[])
  fields := #[]
  methods := #[]
  instanceTypes := #[]
  staticTypes := #[]
  resolved := Array.replicate 11 none
  statics := none }

def pool3 : Array CpInfo := pool [(1, .class_ 2), (0, u "java/lang/Comparable"), (0, .class_ 4), (0, u "java/lang/Object")] 7

/-- java/lang/Comparable -/
def k3 : Class := { plain "java/lang/Comparable" (some 0) with
  accessFlags := 1537
  interfaces := #[]
  cf := some (fileOf pool3 1 #[] #[] 1537 3 #[] #[])
  fields := #[]
  methods := #[]
  instanceTypes := #[]
  staticTypes := #[]
  resolved := Array.replicate 12 none
  statics := none }

def pool4 : Array CpInfo := pool [(1, .class_ 2), (0, u "java/io/Serializable"), (0, .class_ 4), (0, u "java/lang/Object")] 2

/-- java/io/Serializable -/
def k4 : Class := { plain "java/io/Serializable" (some 0) with
  accessFlags := 1537
  interfaces := #[]
  cf := some (fileOf pool4 1 #[] #[] 1537 3 #[] #[])
  fields := #[]
  methods := #[]
  instanceTypes := #[]
  staticTypes := #[]
  resolved := Array.replicate 7 none
  statics := none }

def pool5 : Array CpInfo := pool [(2, .class_ 4), (1, u "java/lang/Enum"), (0, u "name"), (0, u "Ljava/lang/String;"), (2, u "ordinal"), (0, u "I"), (1, .class_ 14), (1, u "java/lang/Object"), (4, u "hash"), (86, .class_ 108), (1, u "java/lang/Enum$EnumDesc"), (2, .class_ 112), (0, u "java/lang/constant/Constable"), (0, .class_ 114), (0, u "java/lang/Comparable"), (0, .class_ 116), (0, u "java/io/Serializable")] 87

/-- java/lang/Enum -/
def k5 : Class := { plain "java/lang/Enum" (some 0) with
  accessFlags := 1057
  interfaces := #[2, 3, 4]
  cf := some (fileOf pool5 2 #[.nestMembers #[106]] #[] 1057 12 #[111, 113, 115] #[{ accessFlags := 18, nameIndex := 5, descriptorIndex := 6, attributes := #[] }, { accessFlags := 18, nameIndex := 9, descriptorIndex := 10, attributes := #[] }, { accessFlags := 2, nameIndex := 19, descriptorIndex := 10, attributes := #[] }])
  fields := #[{ name := "name", type := (.object "java/lang/String"), accessFlags := 18, slot := 0, constantValue := 0 }, { name := "ordinal", type := .int, accessFlags := 18, slot := 1, constantValue := 0 }, { name := "hash", type := .int, accessFlags := 2, slot := 2, constantValue := 0 }]
  methods := #[]
  instanceTypes := #[(.object "java/lang/String"), .int, .int]
  staticTypes := #[]
  resolved := Array.replicate 204 none
  statics := none }

def pool6 : Array CpInfo := pool [(1, .class_ 2), (0, u "com/example/castwright/castwright/model/Type"), (0, .class_ 4), (0, u "java/lang/Object")] 31

/-- com/example/castwright/castwright/model/Type -/
def k6 : Class := { plain "com/example/castwright/castwright/model/Type" (some 0) with
  accessFlags := 1537
  interfaces := #[]
  cf := some (fileOf pool6 1 #[] #[] 1537 3 #[] #[])
  fields := #[]
  methods := #[]
  instanceTypes := #[]
  staticTypes := #[]
  resolved := Array.replicate 36 none
  statics := none }

def pool7 : Array CpInfo := pool [(1, .class_ 2), (0, u "com/example/castwright/castwright/model/IntegerType"), (2, u "BYTEINT"), (0, u "Lcom/example/castwright/castwright/model/IntegerType;"), (2, u "SMALLINT"), (2, u "INTEGER"), (2, u "BIGINT"), (2, u "$VALUES"), (0, u "[Lcom/example/castwright/castwright/model/IntegerType;"), (6, .class_ 28), (1, u "java/lang/Enum"), (8, u "width"), (0, u "I"), (2, .fieldref 1 42), (0, .nameAndType 43 44), (0, u "min"), (0, u "J"), (0, .fieldref 1 46), (0, .nameAndType 47 44), (0, u "max"), (28, .class_ 77), (0, u "com/example/castwright/castwright/model/Type"), (9, u "holds"), (0, u "(J)Z")] 23

def k7c0 : Code := { maxStack := 4, maxLocals := 3, code := prog_42_method_7_code, exceptionTable := #[], attributes := #[] }
def k7m0 : Method := { name := "holds", desc := "(J)Z", sig := { parameters := [.long], returnType := some .boolean }, accessFlags := 1, code := some k7c0 }
/-- com/example/castwright/castwright/model/IntegerType -/
def k7 : Class := { plain "com/example/castwright/castwright/model/IntegerType" (some 5) with
  accessFlags := 16433
  interfaces := #[6]
  cf := some (fileOf pool7 1 #[] #[{ accessFlags := 1, nameIndex := 87, descriptorIndex := 88, attributes := #[] }] 16433 26 #[76] #[{ accessFlags := 16409, nameIndex := 5, descriptorIndex := 6, attributes := #[] }, { accessFlags := 16409, nameIndex := 9, descriptorIndex := 6, attributes := #[] }, { accessFlags := 16409, nameIndex := 12, descriptorIndex := 6, attributes := #[] }, { accessFlags := 16409, nameIndex := 15, descriptorIndex := 6, attributes := #[] }, { accessFlags := 18, nameIndex := 37, descriptorIndex := 38, attributes := #[] }, { accessFlags := 18, nameIndex := 43, descriptorIndex := 44, attributes := #[] }, { accessFlags := 18, nameIndex := 47, descriptorIndex := 44, attributes := #[] }, { accessFlags := 4122, nameIndex := 18, descriptorIndex := 19, attributes := #[] }])
  fields := #[{ name := "BYTEINT", type := (.object "com/example/castwright/castwright/model/IntegerType"), accessFlags := 16409, slot := 0, constantValue := 0 }, { name := "SMALLINT", type := (.object "com/example/castwright/castwright/model/IntegerType"), accessFlags := 16409, slot := 1, constantValue := 0 }, { name := "INTEGER", type := (.object "com/example/castwright/castwright/model/IntegerType"), accessFlags := 16409, slot := 2, constantValue := 0 }, { name := "BIGINT", type := (.object "com/example/castwright/castwright/model/IntegerType"), accessFlags := 16409, slot := 3, constantValue := 0 }, { name := "width", type := .int, accessFlags := 18, slot := 3, constantValue := 0 }, { name := "min", type := .long, accessFlags := 18, slot := 4, constantValue := 0 }, { name := "max", type := .long, accessFlags := 18, slot := 5, constantValue := 0 }, { name := "$VALUES", type := (.array (.object "com/example/castwright/castwright/model/IntegerType")), accessFlags := 4122, slot := 4, constantValue := 0 }]
  methods := #[k7m0]
  instanceTypes := #[(.object "java/lang/String"), .int, .int, .int, .long, .long]
  staticTypes := #[(.object "com/example/castwright/castwright/model/IntegerType"), (.object "com/example/castwright/castwright/model/IntegerType"), (.object "com/example/castwright/castwright/model/IntegerType"), (.object "com/example/castwright/castwright/model/IntegerType"), (.array (.object "com/example/castwright/castwright/model/IntegerType"))]
  resolved := Array.replicate 112 none
  statics := some 0 }

def pool8 : Array CpInfo := pool [(1, u "java/lang/Cloneable"), (0, .class_ 1), (0, u "java/lang/Object"), (0, .class_ 3)] 3

/-- java/lang/Cloneable -/
def k8 : Class := { plain "java/lang/Cloneable" (some 0) with
  accessFlags := 1537
  interfaces := #[]
  cf := some (fileOf pool8 2 #[] #[] 1537 4 #[] #[])
  fields := #[]
  methods := #[]
  instanceTypes := #[]
  staticTypes := #[]
  resolved := Array.replicate 8 none
  statics := none }

/-- the primitive byte -/
def k9 : Class := { plain "byte" none with kind := .primitive 'B', accessFlags := 0x411 }
/-- [B -/
def k10 : Class := { plain "[B" (some 0) with kind := .array 9 .byte, interfaces := #[8, 4], accessFlags := 1041 }

/-- the primitive int -/
def k11 : Class := { plain "int" none with kind := .primitive 'I', accessFlags := 0x411 }
/-- [I -/
def k12 : Class := { plain "[I" (some 0) with kind := .array 11 .int, interfaces := #[8, 4], accessFlags := 1041 }

def heap : Heap := #[{ cls := 7, slots := #[.ref 2, .ref 4, .ref 1, .ref 3, .null], vm := .statics 7 },
  { cls := 7, slots := #[.null, .int 0, .int 0, .int 0, .long (-2147483648), .long 2147483647], vm := .none },
  { cls := 7, slots := #[.null, .int 0, .int 0, .int 0, .long (-128), .long 127], vm := .none },
  { cls := 7, slots := #[.null, .int 0, .int 0, .int 0, .long (-9223372036854775808), .long 9223372036854775807], vm := .none },
  { cls := 7, slots := #[.null, .int 0, .int 0, .int 0, .long (-32768), .long 32767], vm := .none }]
def classes : Array Class := #[k0, k1, k2, k3, k4, k5, k6, k7, k8, k9, k10, k11, k12]
def interned : List (Array UInt16 × Addr) := []
def slotsUsed : Nat := 29
def theMethod : MethodId := ⟨1, 1⟩
def args0 : Array Value := #[.long 5, .int 7]
def aboutOver (below : List Frame) : State where
  vm := { classes := classes, interned := interned.toArray }
  heap := heap
  slotsUsed := slotsUsed
  threads := #[{ frames := .invoking theMethod args0 :: below }]
def below0 : List Frame := [.native { method := ⟨0, 0⟩, args := #[] }]
def about1 : State := aboutOver below0
def p0 : Program := .bare "" "" ""
def e0 : Env := launch0.env 0 0 0
theorem w_frames : about1.frames = Frame.invoking theMethod args0 :: below0 := rfl
set_option maxRecDepth 65536 in
theorem w_args : argsFit about1.vm theMethod args0 = true := by decide +kernel
set_option maxRecDepth 65536 in
theorem w_heap : heapFits about1 = true := by decide +kernel
set_option maxRecDepth 65536 in
theorem w_runnable : about1.curStatus? = some .runnable := by decide +kernel
set_option maxRecDepth 65536 in
theorem w_alone : about1.alone = true := by decide +kernel
set_option maxRecDepth 65536 in
theorem w_named : about1.methodNamed? x = some theMethod := by decide +kernel
set_option maxRecDepth 65536 in
theorem w_hears : about1.hears theMethod below0 = true := by decide +kernel
set_option maxRecDepth 65536 in
theorem w_ripe : about1.ripe theMethod args0 below0 = true := by decide +kernel
theorem w_running : about1.status = .running := rfl
set_option maxRecDepth 65536 in
theorem w_room : about1.hasRoom e0.platform room_1 = true :=
  launch0.hasRoom_least _ room_1 (by decide +kernel) (by decide +kernel) (by decide +kernel) (by decide +kernel) (by decide +kernel) (by decide +kernel)
theorem allAtoms_all (ts : List Jvm.Cond) (a : Array Jvm.Value) (st : Jvm.State) : (allAtoms ts).before a st = ts.all (fun c => c.before a st) := by
  induction ts with
  | nil => rfl
  | cons c t ih =>
    show (Jvm.Cond.and c (allAtoms t)).before a st = _
    rw [Jvm.Cond.before_and, ih, List.all_cons]
def words1 : List Jvm.Cond := Jvm.Cond.code x code maxLocals ret :: tables_1
/-- a 'code' word, met by the world's own term for the bytes: nothing is compared byte by byte -/
theorem code_word {y : MethodName} {bytes : ByteArray} {mx : Nat} {rt : Option FieldType} {a : Array Value} {s : State} {m : MethodId} {meth : Method} {c : Code} (h1 : s.methodNamed? y = some m) (h2 : s.vm.method? m = some meth) (h3 : meth.code = some c) (h4 : c.code = bytes)
    (h5 : (c.maxLocals == mx && c.exceptionTable.isEmpty && decide (c.maxStack ≤ mostOperands) && decide (meth.sig.returnType = rt) && !meth.locks && decide (parseMethodDescriptor y.desc = some meth.sig)) = true) : (Jvm.Cond.code y bytes mx rt).before a s = true := by
  simp only [Bool.and_eq_true, beq_iff_eq, Bool.not_eq_true', decide_eq_true_eq] at h5
  obtain ⟨⟨⟨⟨⟨g1, g2⟩, g3⟩, g4⟩, g5⟩, g6⟩ := h5
  simp [Cond.before, Cond.holds, Cond.value, h1, h2, h3, h4, g1, g2, g3, g4, g5, g6]
def isCode : Jvm.Cond → Bool
  | .code _ _ _ _ => true
  | _ => false
theorem all_split {L : List Jvm.Cond} {P : Jvm.Cond → Bool} (h1 : L.all (fun c => isCode c || P c) = true) (h2 : ∀ c ∈ L.filter isCode, P c = true) : L.all P = true := by
  refine List.all_eq_true.mpr fun c hc => ?_
  have h := List.all_eq_true.mp h1 c hc
  rcases Bool.eq_false_or_eq_true (isCode c) with hi | hi
  · exact h2 c (List.mem_filter.mpr ⟨hc, hi⟩)
  · simpa [hi] using h
set_option maxRecDepth 65536 in
theorem w_c0 : (Jvm.Cond.code x code maxLocals ret).before args0 about1 = true := code_word (m := ⟨1, 1⟩) (meth := k1m1) (c := k1c1) (by decide +kernel) rfl rfl rfl (by decide +kernel)
set_option maxRecDepth 65536 in
theorem w_c1 : (Jvm.Cond.code ({ cls := "com/example/castwright/castwright/model/IntegerType", name := "holds", desc := "(J)Z" } : Jvm.MethodName) prog_42_method_7_code (3 : Nat) (Option.some Jvm.ClassFile.FieldType.boolean)).before args0 about1 = true := code_word (m := ⟨7, 0⟩) (meth := k7m0) (c := k7c0) (by decide +kernel) rfl rfl rfl (by decide +kernel)
def codes1 : List Jvm.Cond := [Jvm.Cond.code x code maxLocals ret, Jvm.Cond.code ({ cls := "com/example/castwright/castwright/model/IntegerType", name := "holds", desc := "(J)Z" } : Jvm.MethodName) prog_42_method_7_code (3 : Nat) (Option.some Jvm.ClassFile.FieldType.boolean)]
set_option maxRecDepth 65536 in
theorem codes_eq : words1.filter isCode = codes1 := rfl
theorem w_codes : ∀ c ∈ words1.filter isCode, c.before args0 about1 = true := by
  rw [codes_eq]
  intro c hc
  simp only [codes1, List.mem_cons, List.not_mem_nil, or_false] at hc
  rcases hc with rfl | rfl
  · exact w_c0
  · exact w_c1
set_option maxRecDepth 65536 in
theorem w_t1 : words1.all (fun c => isCode c || c.before args0 about1) = true := by decide +kernel
theorem w_tables : (allAtoms (Jvm.Cond.code x code maxLocals ret :: tables_1)).before args0 about1 = true := by
  rw [allAtoms_all]
  show words1.all (fun c => c.before args0 about1) = true
  refine all_split ?_ w_codes
  rw [w_t1]
set_option maxRecDepth 65536 in
theorem w_case : (Jvm.Cond.and given_1 narrow_1).before args0 about1 = true := by decide +kernel
theorem w_applies : (headSpec (Jvm.Cond.code x code maxLocals ret :: tables_1) room_1).applies x e0.platform about1 = true :=
  (Spec.applies_iff w_frames).mpr ⟨w_running, w_runnable, w_alone, w_named, w_hears, w_ripe, w_room, w_tables⟩
theorem atStart : AtStart classFile x code maxLocals ret World_1 tables_1 room_1 Calls_1 rest_1 Pre_1 launch0 p0 e0 about1 theMethod args0 below0 :=
  ⟨lists_1, trivial, launch0.admits_env _ _ _, launch0.least_env, fairChoices_fair.cas, fairChoices_fair.clock, w_frames, w_args, w_heap, w_applies, trivial, trivial, w_case⟩
end start1
theorem witness_1 : WitnessClaimed_1 := ⟨start1.p0, start1.e0, start1.about1, start1.theMethod, start1.args0, start1.below0, start1.atStart⟩
end Jvm.Pilot.@@N@@
