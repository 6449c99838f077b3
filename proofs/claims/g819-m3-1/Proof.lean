import JvmDerived
import JvmDerived.Pilot.@@N@@Statement
import JvmDerived.Pilot.@@N@@Code
set_option linter.unusedVariables false
set_option linter.unusedSimpArgs false
namespace Jvm.RoadKit
open Sem ClassFile Op Lib Jvm.Stand Jvm.Free Jvm.LawKit
section Own
variable {p : Program} {l : Launch} {e : Env} {R : Room} {s : State} {m : MethodId} {args : Array Value} {below : List Frame} {meth : Method} {c : Code} {T : State} {locs : List Loc} {cells slots : Nat} {Q : Option Value → Heap → List Loc → Prop} {kc ks : Nat}
/-- the run from S comes to its end and leaves what Q says -/
def own_Fin (p : Program) (e : Env) (below : List Frame) (s : State) (kc ks : Nat) (Q : Option Value → Heap → List Loc → Prop) (S : State) : Prop :=
  ∃ U o, Steps p.tables e below S U ∧ U.status = .running ∧ Ended U below o ∧ ∃ v L, o = .returned v ∧ Q v U.heap L ∧ FrameEnd s o U L kc ks
theorem own_step {S S' : State} (h : ∀ t, Steps p.tables e below S' t → Steps p.tables e below S t) (k : own_Fin p e below s kc ks Q S') : own_Fin p e below s kc ks Q S := by
  obtain ⟨U, o, h1, r⟩ := k
  exact ⟨U, o, h _ h1, r⟩
theorem own_ret (X : Stand p l e R s m args below meth c T locs cells slots) (hlk : meth.locks = false) {v : Option Value} (hv : meth.sig.returnType = none → v = none) (hc : cells ≤ kc) (hs : slots ≤ ks) (hQ : Q v T.heap locs) {S : State}
    (hst : ∀ fs, (∀ (f : JFrame) (acts : List Action), f.method = m → f.locked = none → f.entered = [] → (doReturn e (T.setTop f) acts v).1 = T.setFrames fs) → Steps p.tables e below S (T.setFrames fs)) : own_Fin p e below s kc ks Q S := by
  obtain ⟨fs, hr, hrun, hended, hW, hsame⟩ := X.leave (v := v) hv hlk
  exact ⟨_, _, hst fs hr, hrun, hended, _, _, rfl, hQ, ⟨_, rfl⟩, hW, hsame.mono hc hs⟩
def own_FinW (p : Program) (e : Env) (below : List Frame) (s : State) (kc ks : Nat) (Q : Option Value → Heap → List Loc → Prop) (S : State) : Prop :=
  ∃ U o, Steps p.tables e below S U ∧ U.status = .running ∧ Ended U below o ∧ ∃ v L, o = .returned v ∧ Q v U.heap L ∧ ReturnedEndW s o U L kc ks
theorem own_stepW {S S' : State} (h : ∀ t, Steps p.tables e below S' t → Steps p.tables e below S t) (k : own_FinW p e below s kc ks Q S') : own_FinW p e below s kc ks Q S := by
  obtain ⟨U, o, h1, r⟩ := k
  exact ⟨U, o, h _ h1, r⟩
theorem own_retW {vm1 : Vm} (X : Stand p l e R (s.setVm vm1) m args below meth c T locs cells slots) (hlk : meth.locks = false) {n : Nat} (hS : s.Since vm1 n) {h : Heap} (eT : T.heap = h) (hn : n ≤ h.size) {v : Option Value} (hv : meth.sig.returnType = none → v = none) (hc : cells ≤ kc) (hs : slots ≤ ks) (hQ : Q v T.heap locs) {S : State}
    (hst : ∀ fs, (∀ (f : JFrame) (acts : List Action), f.method = m → f.locked = none → f.entered = [] → (doReturn e (T.setTop f) acts v).1 = T.setFrames fs) → Steps p.tables e below S (T.setFrames fs)) : own_FinW p e below s kc ks Q S := by
  obtain ⟨fs, hr, hrun, hended, hE⟩ := X.leaveW hS (by rw [eT]; exact hn) (v := v) hv hlk
  exact ⟨_, _, hst fs hr, hrun, hended, _, _, rfl, hQ, hE.1, hE.2.1, hE.2.2.1, hE.2.2.2.mono hc hs⟩
theorem own_castW {g g' : JFrame} (q : g = g') (k : own_FinW p e below s kc ks Q (T.setTop g')) : own_FinW p e below s kc ks Q (T.setTop g) := q ▸ k
theorem own_m0 : Jvm.Free.Fl.Mag64 1 FP.dconst0 := by unfold Jvm.Free.Fl.Mag64; decide
theorem own_mz : Jvm.Free.Fl.Mag64 1 (0 : UInt64) := by unfold Jvm.Free.Fl.Mag64; decide
theorem own_m1 : Jvm.Free.Fl.Mag64 1024 FP.dconst1 := by unfold Jvm.Free.Fl.Mag64; decide
/-- roads that meet again: what lies behind the meeting is walked once -/
theorem own_join {G : Prop} {F : State → Prop} (X : Stand p l e R s m args below meth c T locs cells slots) {h : Heap} (eT : T.heap = h) {β : Type} (g : β → JFrame) (hyp : β → Prop)
    (body : ∀ Tj : State, Stand p l e R s m args below meth c Tj locs cells slots → Tj.heap = h → ∀ b, hyp b → F (Tj.setTop (g b)))
    (cont : (∀ Tj : State, Stand p l e R s m args below meth c Tj locs cells slots → Tj.heap = h → ∀ b, hyp b → F (Tj.setTop (g b))) → G) : G := cont body
theorem own_ltn {n k j : Int32} (h : ¬ n < k) (q : j < k) : j < n := by
  rw [Int32.lt_iff_toInt_lt] at *
  omega
theorem own_cast {g g' : JFrame} (q : g = g') (k : own_Fin p e below s kc ks Q (T.setTop g')) : own_Fin p e below s kc ks Q (T.setTop g) := q ▸ k
theorem own_getJ {cl : Cell} {vs : List Int64} {j : Int32} (H : Has cl (vs.map Value.long) (.long 0)) (q : ¬ (j < 0 ∨ cl.slots.size ≤ j.toNatClampNeg)) : cl.slots[j.toNatClampNeg]? = some (.long (vs.getD j.toNatClampNeg 0)) := by
  refine Has.at H q ?_
  simp only [List.getD_eq_getElem?_getD, List.getElem?_map]
  cases vs[j.toNatClampNeg]? <;> rfl
def own_Nst (h : Heap) (x : Addr) : Prop := ∃ c : Cell, h[x]? = some c ∧ c.vm.isStatics = false
theorem own_nst_exa {Z : State} {h : Heap} {a : Addr} {C : String} (F : Exa Z h a C) : own_Nst h a := by
  obtain ⟨c, _, h1, _, _, h4, _⟩ := F
  exact ⟨c, h1, h4⟩
theorem own_nst_arv {Z : State} {h : Heap} {a : Addr} {k : ClassId} {ty : FieldType} {n : Int32} {vs : List Value} {d : Value} (F : Arv Z h a k ty n vs d) : own_Nst h a := by
  obtain ⟨c, A, _⟩ := F
  exact ⟨c, A.1, A.plain⟩
theorem own_sta_keep {Z : State} {h h' : Heap} {C n d : String} {v : Value} {ws : List Addr} (F : Sta Z h C n d v) (K : Keep h h' ws) (q : ∀ x ∈ ws, own_Nst h x) : Sta Z h' C n d v := by
  obtain ⟨cf, i, k, f, st, cell, h1, h2, h3, h4, h5, h6, h7⟩ := F
  refine ⟨cf, i, k, f, st, cell, h1, h2, h3, h4, K.2.1 _ _ h5 (fun z => ?_), h6, h7⟩
  obtain ⟨c, e1, e2⟩ := q _ z
  cases h5.symm.trans e1
  rw [h6] at e2
  cases e2
theorem own_sta_keep0 {Z : State} {h h' : Heap} {C n d : String} {v : Value} (F : Sta Z h C n d v) (K : Keep h h' []) : Sta Z h' C n d v := own_sta_keep F K (fun _ z => nomatch z)
end Own
section OwnStart
variable {args : Array Value} {Z : State} {t : Term} {a : Addr} {O n d : String}
theorem own_fldV {v : Value} (ev : t.eval args Z none [] Z = some (.ref a)) (h : (Term.field t O n d).eval args Z none [] Z = some v) : Fld Z Z.heap a O n d v := Fld.start ((fld_at ev).symm.trans h)
theorem own_len {cl : Cell} {ty : FieldType} {k : Int32} (ev : t.eval args Z none [] Z = some (.ref a)) (A : Arr Z Z.heap a cl ty) (h : (Cond.eq (.length t) (.int k)).value args Z none Z [] = some true) : cl.slots.size < 2 ^ 31 ∧ cl.slots.size.toInt32 = k := by
  have e := eqv_i (y := k) rfl h
  have ha := A.fin (Vm.Alike.refl _)
  by_cases q : cl.slots.size < 2 ^ 31
  · exact ⟨q, Value.int.inj (Option.some.inj ((len_f ev ha q).symm.trans e))⟩
  · simp [Term.eval, ev, ha, q] at e
theorem own_elI {cl : Cell} {ty : FieldType} {i k : Int32} (ev : t.eval args Z none [] Z = some (.ref a)) (A : Arr Z Z.heap a cl ty) (hi : ¬ i < 0) (h : (Cond.eq (.elem t (.int i)) (.int k)).value args Z none Z [] = some true) : cl.slots[i.toNatClampNeg]? = some (.int k) :=
  (elem_f ev rfl (A.fin (Vm.Alike.refl _)) hi).symm.trans (eqv_i (y := k) rfl h)
theorem own_elJ {cl : Cell} {ty : FieldType} {i : Int32} {k : Int64} (ev : t.eval args Z none [] Z = some (.ref a)) (A : Arr Z Z.heap a cl ty) (hi : ¬ i < 0) (h : (Cond.eq (.elem t (.int i)) (.long k)).value args Z none Z [] = some true) : cl.slots[i.toNatClampNeg]? = some (.long k) :=
  (elem_f ev rfl (A.fin (Vm.Alike.refl _)) hi).symm.trans (eqv_l (y := k) rfl h)
end OwnStart
end Jvm.RoadKit
namespace Jvm.Pilot.@@N@@
open Jvm Jvm.ClassFile Sem Op Lib Jvm.Free Jvm.Stand Jvm.LawKit Jvm.RoadKit Bundle Jvm.Pilot.@@N@@.Jvm.D
theorem own_w {ts : List Jvm.Cond} {Z : State} {a0 : Array Value} (hw : ∀ d ∈ ts, d.before a0 Z = true) (i : Nat) {d : Jvm.Cond} (h : ts[i]? = some d) : d.before a0 Z = true := hw d (List.mem_of_getElem? h)
theorem own_k (x : Int32) : (x &&& (3 : Int32)) = (0 : Int32) ∨ (x &&& (3 : Int32)) = (1 : Int32) ∨ (x &&& (3 : Int32)) = (2 : Int32) ∨ (x &&& (3 : Int32)) = (3 : Int32) := by
  have h1 : (x &&& (3 : Int32)).toInt = x.toInt % 4 := c_mask x _ 2 (by decide) (by decide)
  have h3 : (x &&& (3 : Int32)).toInt = 0 ∨ (x &&& (3 : Int32)).toInt = 1 ∨ (x &&& (3 : Int32)).toInt = 2 ∨ (x &&& (3 : Int32)).toInt = 3 := by omega
  rcases h3 with h | h | h | h
  · exact Or.inl (Int32.toInt_inj.mp (h.trans (by decide)))
  · exact Or.inr (Or.inl (Int32.toInt_inj.mp (h.trans (by decide))))
  · exact Or.inr (Or.inr (Or.inl (Int32.toInt_inj.mp (h.trans (by decide)))))
  · exact Or.inr (Or.inr (Or.inr (Int32.toInt_inj.mp (h.trans (by decide)))))
theorem own_d1_0 : decode method_2_code 0 = .ok (.iload_n 0, 1) := by decide +kernel
theorem own_d1_1 : decode method_2_code 1 = .ok (.ifCond .ne 7, 3) := by decide +kernel
theorem own_d1_4 : decode method_2_code 4 = .ok (.getstatic 7, 3) := by decide +kernel
theorem own_d1_7 : decode method_2_code 7 = .ok (.areturn, 1) := by decide +kernel
theorem own_pn0 : plainName "com/example/mortise/mortise/model/MultiplicityRequiredPinLaw" = true := by first | (simp [plainName, overriddenIn]; done) | decide +kernel
theorem own_ef1 (m : MethodId)  : entryFrame m #[(.int (0 : Int32))] 1 = mkF m 0 #[.val (.int (0 : Int32))] [] := by first | (simp [entryFrame, mkF, argsToLocals, Value.category]; done) | rfl
def own_Q1 (Z : State) (s_ONE : Addr) (h0 : Heap) (n0 : Nat) (v : Option Value) (h : Heap) (L : List Loc) : Prop := v = some (.ref s_ONE) ∧ Fr n0 L ∧ h = h0
set_option maxRecDepth 65536 in
set_option maxHeartbeats 40000000 in
theorem own_rm1 (l : Launch) (Z : State) (a0 : Array Value) (hw : ∀ d ∈ tables_1, d.before a0 Z = true) (ws : List Jvm.Cond) (s_ONE : Addr) (h0 : Heap) (n0 : Nat) (Z0 : n0 ≤ h0.size) (S_ONE : Sta Z h0 "com/example/mortise/mortise/model/ParameterDef$Multiplicity" "ONE" "Lcom/example/mortise/mortise/model/ParameterDef$Multiplicity;" (.ref s_ONE)) :
    MetFree l (⟨"com/example/mortise/mortise/model/MultiplicityRequiredPinLaw", "pick", "(I)Lcom/example/mortise/mortise/model/ParameterDef$Multiplicity;"⟩ : MethodName) (head1 (Jvm.Cond.code (⟨"com/example/mortise/mortise/model/MultiplicityRequiredPinLaw", "pick", "(I)Lcom/example/mortise/mortise/model/ParameterDef$Multiplicity;"⟩ : MethodName) method_2_code 1 (some (.object "com/example/mortise/mortise/model/ParameterDef$Multiplicity")) :: ws) ({ frames := 0, cells := 0, slots := 0, locals := 0 } : Room)) (fun a U => a = #[(.int (0 : Int32))] ∧ Z.Warmed39 U.vm ∧ U.heap = h0) (fun _ _ _ _ _ => True) (fun _ U o U' => ∃ v L, o = .returned v ∧ own_Q1 Z s_ONE h0 n0 v U'.heap L ∧ FrameEnd U o U' L ({ frames := 0, cells := 0, slots := 0, locals := 0 } : Room).cells ({ frames := 0, cells := 0, slots := 0, locals := 0 } : Room).slots) := by
  refine MetFree.of_bodySF (plainFor_of_name own_pn0) hisR ?_
  intro p e s m args below meth c s₁ Bd hml0 hP hK
  obtain ⟨rfl, hZ, hh⟩ := hP
  have hx := Bd.exec
  have hby := Bd.bytes
  have hlk := Bd.notSynchronized
  have hml : c.maxLocals = 1 := hml0
  have hown : s.vm.findClass "com/example/mortise/mortise/model/MultiplicityRequiredPinLaw" = some m.cls := findClass_of_methodNamed Bd.named
  have hnm := (name_of_methodNamed Bd.named Bd.method).1
  have X0 : Stand p l e ({ frames := 0, cells := 0, slots := 0, locals := 0 } : Room) s m #[(.int (0 : Int32))] below meth c s₁ [] 0 0 := Stand.of_body Bd
  have e0 : s₁.heap = h0 := by rw [← hh, Bd.state]; rfl
  have N0 := Fr.nil n0
  have KR : Keep h0 h0 [] := Keep.refl _ _
  show own_Fin p e below s ({ frames := 0, cells := 0, slots := 0, locals := 0 } : Room).cells ({ frames := 0, cells := 0, slots := 0, locals := 0 } : Room).slots (own_Q1 Z s_ONE h0 n0) (s₁.setTop (entryFrame m #[(.int (0 : Int32))] 1))
  refine own_cast (own_ef1 m ) ?_
  refine own_step (fun _ k => XS.iloadN X0.here hx rfl (hb hby own_d1_0) rfl k) ?_
  show own_Fin p e below s _ _ _ (s₁.setTop (mkF m 1 #[.val (.int (0 : Int32))] [(.int (0 : Int32))]))
  refine own_step (fun _ k => XS.ifNo X0.here hx rfl (hb hby own_d1_1) rfl ((if0 _ _).trans (teq (by decide : (0 : Int32) = (0 : Int32))).2) k) ?_
  show own_Fin p e below s _ _ _ (s₁.setTop (mkF m 4 #[.val (.int (0 : Int32))] []))
  obtain ⟨T1, X1, e1, st1⟩ := getS2 X0 hx hZ hown (host := "") (Or.inl (own_w hw 4 rfl)) Via.refl e0 S_ONE (g := (mkF m 4 #[.val (.int (0 : Int32))] [])) rfl (hb hby own_d1_4)
  refine own_step st1 ?_
  show own_Fin p e below s _ _ _ (T1.setTop (mkF m 7 #[.val (.int (0 : Int32))] [(.ref s_ONE)]))
  exact own_ret X1 hlk (v := some (.ref s_ONE)) (fun h => by rw [Bd.returns] at h; cases h) (by decide) (by decide) (by show own_Q1 Z s_ONE h0 n0 _ T1.heap _; rw [e1]; exact ⟨rfl, N0, rfl⟩) (fun fs hr => retOut X1 hx Bd.returns rfl (Or.inr (Or.inr (Or.inr (Or.inr ⟨rfl, rfl, rfl⟩)))) (hb hby own_d1_7) hr)

theorem own_d2_0 : decode method_2_code 0 = .ok (.iload_n 0, 1) := by decide +kernel
theorem own_d2_1 : decode method_2_code 1 = .ok (.ifCond .ne 7, 3) := by decide +kernel
theorem own_d2_8 : decode method_2_code 8 = .ok (.iload_n 0, 1) := by decide +kernel
theorem own_d2_9 : decode method_2_code 9 = .ok (.iconst 1, 1) := by decide +kernel
theorem own_d2_10 : decode method_2_code 10 = .ok (.if_icmp .ne 7, 3) := by decide +kernel
theorem own_d2_13 : decode method_2_code 13 = .ok (.getstatic 13, 3) := by decide +kernel
theorem own_d2_16 : decode method_2_code 16 = .ok (.areturn, 1) := by decide +kernel
theorem own_ef2 (m : MethodId)  : entryFrame m #[(.int (1 : Int32))] 1 = mkF m 0 #[.val (.int (1 : Int32))] [] := by first | (simp [entryFrame, mkF, argsToLocals, Value.category]; done) | rfl
def own_Q2 (Z : State) (s_ANY : Addr) (h0 : Heap) (n0 : Nat) (v : Option Value) (h : Heap) (L : List Loc) : Prop := v = some (.ref s_ANY) ∧ Fr n0 L ∧ h = h0
set_option maxRecDepth 65536 in
set_option maxHeartbeats 40000000 in
theorem own_rm2 (l : Launch) (Z : State) (a0 : Array Value) (hw : ∀ d ∈ tables_1, d.before a0 Z = true) (ws : List Jvm.Cond) (s_ANY : Addr) (h0 : Heap) (n0 : Nat) (Z0 : n0 ≤ h0.size) (S_ANY : Sta Z h0 "com/example/mortise/mortise/model/ParameterDef$Multiplicity" "ANY" "Lcom/example/mortise/mortise/model/ParameterDef$Multiplicity;" (.ref s_ANY)) :
    MetFree l (⟨"com/example/mortise/mortise/model/MultiplicityRequiredPinLaw", "pick", "(I)Lcom/example/mortise/mortise/model/ParameterDef$Multiplicity;"⟩ : MethodName) (head1 (Jvm.Cond.code (⟨"com/example/mortise/mortise/model/MultiplicityRequiredPinLaw", "pick", "(I)Lcom/example/mortise/mortise/model/ParameterDef$Multiplicity;"⟩ : MethodName) method_2_code 1 (some (.object "com/example/mortise/mortise/model/ParameterDef$Multiplicity")) :: ws) ({ frames := 0, cells := 0, slots := 0, locals := 0 } : Room)) (fun a U => a = #[(.int (1 : Int32))] ∧ Z.Warmed39 U.vm ∧ U.heap = h0) (fun _ _ _ _ _ => True) (fun _ U o U' => ∃ v L, o = .returned v ∧ own_Q2 Z s_ANY h0 n0 v U'.heap L ∧ FrameEnd U o U' L ({ frames := 0, cells := 0, slots := 0, locals := 0 } : Room).cells ({ frames := 0, cells := 0, slots := 0, locals := 0 } : Room).slots) := by
  refine MetFree.of_bodySF (plainFor_of_name own_pn0) hisR ?_
  intro p e s m args below meth c s₁ Bd hml0 hP hK
  obtain ⟨rfl, hZ, hh⟩ := hP
  have hx := Bd.exec
  have hby := Bd.bytes
  have hlk := Bd.notSynchronized
  have hml : c.maxLocals = 1 := hml0
  have hown : s.vm.findClass "com/example/mortise/mortise/model/MultiplicityRequiredPinLaw" = some m.cls := findClass_of_methodNamed Bd.named
  have hnm := (name_of_methodNamed Bd.named Bd.method).1
  have X0 : Stand p l e ({ frames := 0, cells := 0, slots := 0, locals := 0 } : Room) s m #[(.int (1 : Int32))] below meth c s₁ [] 0 0 := Stand.of_body Bd
  have e0 : s₁.heap = h0 := by rw [← hh, Bd.state]; rfl
  have N0 := Fr.nil n0
  have KR : Keep h0 h0 [] := Keep.refl _ _
  show own_Fin p e below s ({ frames := 0, cells := 0, slots := 0, locals := 0 } : Room).cells ({ frames := 0, cells := 0, slots := 0, locals := 0 } : Room).slots (own_Q2 Z s_ANY h0 n0) (s₁.setTop (entryFrame m #[(.int (1 : Int32))] 1))
  refine own_cast (own_ef2 m ) ?_
  refine own_step (fun _ k => XS.iloadN X0.here hx rfl (hb hby own_d2_0) rfl k) ?_
  show own_Fin p e below s _ _ _ (s₁.setTop (mkF m 1 #[.val (.int (1 : Int32))] [(.int (1 : Int32))]))
  refine own_step (fun _ k => XS.ifYes X0.here hx rfl (pc0 := 1) (pc' := 8) rfl (hb hby own_d2_1) rfl ((if0 _ _).trans (feq (by decide : ¬ ((1 : Int32) = (0 : Int32)))).2) (by decide) (by decide) k) ?_
  show own_Fin p e below s _ _ _ (s₁.setTop (mkF m 8 #[.val (.int (1 : Int32))] []))
  refine own_step (fun _ k => XS.iloadN X0.here hx rfl (hb hby own_d2_8) rfl k) ?_
  show own_Fin p e below s _ _ _ (s₁.setTop (mkF m 9 #[.val (.int (1 : Int32))] [(.int (1 : Int32))]))
  refine own_step (fun _ k => XS.iconst X0.here hx rfl (hb hby own_d2_9) k) ?_
  show own_Fin p e below s _ _ _ (s₁.setTop (mkF m 10 #[.val (.int (1 : Int32))] [(.int (1 : Int32)), (.int (1 : Int32))]))
  refine own_step (fun _ k => XS.icmpNo X0.here hx rfl (hb hby own_d2_10) rfl (teq (by decide : (1 : Int32) = (1 : Int32))).2 k) ?_
  show own_Fin p e below s _ _ _ (s₁.setTop (mkF m 13 #[.val (.int (1 : Int32))] []))
  obtain ⟨T1, X1, e1, st1⟩ := getS2 X0 hx hZ hown (host := "") (Or.inl (own_w hw 21 rfl)) Via.refl e0 S_ANY (g := (mkF m 13 #[.val (.int (1 : Int32))] [])) rfl (hb hby own_d2_13)
  refine own_step st1 ?_
  show own_Fin p e below s _ _ _ (T1.setTop (mkF m 16 #[.val (.int (1 : Int32))] [(.ref s_ANY)]))
  exact own_ret X1 hlk (v := some (.ref s_ANY)) (fun h => by rw [Bd.returns] at h; cases h) (by decide) (by decide) (by show own_Q2 Z s_ANY h0 n0 _ T1.heap _; rw [e1]; exact ⟨rfl, N0, rfl⟩) (fun fs hr => retOut X1 hx Bd.returns rfl (Or.inr (Or.inr (Or.inr (Or.inr ⟨rfl, rfl, rfl⟩)))) (hb hby own_d2_16) hr)

theorem own_d3_0 : decode method_2_code 0 = .ok (.iload_n 0, 1) := by decide +kernel
theorem own_d3_1 : decode method_2_code 1 = .ok (.ifCond .ne 7, 3) := by decide +kernel
theorem own_d3_8 : decode method_2_code 8 = .ok (.iload_n 0, 1) := by decide +kernel
theorem own_d3_9 : decode method_2_code 9 = .ok (.iconst 1, 1) := by decide +kernel
theorem own_d3_10 : decode method_2_code 10 = .ok (.if_icmp .ne 7, 3) := by decide +kernel
theorem own_d3_17 : decode method_2_code 17 = .ok (.iload_n 0, 1) := by decide +kernel
theorem own_d3_18 : decode method_2_code 18 = .ok (.iconst 2, 1) := by decide +kernel
theorem own_d3_19 : decode method_2_code 19 = .ok (.if_icmp .ne 7, 3) := by decide +kernel
theorem own_d3_22 : decode method_2_code 22 = .ok (.getstatic 16, 3) := by decide +kernel
theorem own_d3_25 : decode method_2_code 25 = .ok (.areturn, 1) := by decide +kernel
theorem own_ef3 (m : MethodId)  : entryFrame m #[(.int (2 : Int32))] 1 = mkF m 0 #[.val (.int (2 : Int32))] [] := by first | (simp [entryFrame, mkF, argsToLocals, Value.category]; done) | rfl
def own_Q3 (Z : State) (s_NONE_OR_ONE : Addr) (h0 : Heap) (n0 : Nat) (v : Option Value) (h : Heap) (L : List Loc) : Prop := v = some (.ref s_NONE_OR_ONE) ∧ Fr n0 L ∧ h = h0
set_option maxRecDepth 65536 in
set_option maxHeartbeats 40000000 in
theorem own_rm3 (l : Launch) (Z : State) (a0 : Array Value) (hw : ∀ d ∈ tables_1, d.before a0 Z = true) (ws : List Jvm.Cond) (s_NONE_OR_ONE : Addr) (h0 : Heap) (n0 : Nat) (Z0 : n0 ≤ h0.size) (S_NONE_OR_ONE : Sta Z h0 "com/example/mortise/mortise/model/ParameterDef$Multiplicity" "NONE_OR_ONE" "Lcom/example/mortise/mortise/model/ParameterDef$Multiplicity;" (.ref s_NONE_OR_ONE)) :
    MetFree l (⟨"com/example/mortise/mortise/model/MultiplicityRequiredPinLaw", "pick", "(I)Lcom/example/mortise/mortise/model/ParameterDef$Multiplicity;"⟩ : MethodName) (head1 (Jvm.Cond.code (⟨"com/example/mortise/mortise/model/MultiplicityRequiredPinLaw", "pick", "(I)Lcom/example/mortise/mortise/model/ParameterDef$Multiplicity;"⟩ : MethodName) method_2_code 1 (some (.object "com/example/mortise/mortise/model/ParameterDef$Multiplicity")) :: ws) ({ frames := 0, cells := 0, slots := 0, locals := 0 } : Room)) (fun a U => a = #[(.int (2 : Int32))] ∧ Z.Warmed39 U.vm ∧ U.heap = h0) (fun _ _ _ _ _ => True) (fun _ U o U' => ∃ v L, o = .returned v ∧ own_Q3 Z s_NONE_OR_ONE h0 n0 v U'.heap L ∧ FrameEnd U o U' L ({ frames := 0, cells := 0, slots := 0, locals := 0 } : Room).cells ({ frames := 0, cells := 0, slots := 0, locals := 0 } : Room).slots) := by
  refine MetFree.of_bodySF (plainFor_of_name own_pn0) hisR ?_
  intro p e s m args below meth c s₁ Bd hml0 hP hK
  obtain ⟨rfl, hZ, hh⟩ := hP
  have hx := Bd.exec
  have hby := Bd.bytes
  have hlk := Bd.notSynchronized
  have hml : c.maxLocals = 1 := hml0
  have hown : s.vm.findClass "com/example/mortise/mortise/model/MultiplicityRequiredPinLaw" = some m.cls := findClass_of_methodNamed Bd.named
  have hnm := (name_of_methodNamed Bd.named Bd.method).1
  have X0 : Stand p l e ({ frames := 0, cells := 0, slots := 0, locals := 0 } : Room) s m #[(.int (2 : Int32))] below meth c s₁ [] 0 0 := Stand.of_body Bd
  have e0 : s₁.heap = h0 := by rw [← hh, Bd.state]; rfl
  have N0 := Fr.nil n0
  have KR : Keep h0 h0 [] := Keep.refl _ _
  show own_Fin p e below s ({ frames := 0, cells := 0, slots := 0, locals := 0 } : Room).cells ({ frames := 0, cells := 0, slots := 0, locals := 0 } : Room).slots (own_Q3 Z s_NONE_OR_ONE h0 n0) (s₁.setTop (entryFrame m #[(.int (2 : Int32))] 1))
  refine own_cast (own_ef3 m ) ?_
  refine own_step (fun _ k => XS.iloadN X0.here hx rfl (hb hby own_d3_0) rfl k) ?_
  show own_Fin p e below s _ _ _ (s₁.setTop (mkF m 1 #[.val (.int (2 : Int32))] [(.int (2 : Int32))]))
  refine own_step (fun _ k => XS.ifYes X0.here hx rfl (pc0 := 1) (pc' := 8) rfl (hb hby own_d3_1) rfl ((if0 _ _).trans (feq (by decide : ¬ ((2 : Int32) = (0 : Int32)))).2) (by decide) (by decide) k) ?_
  show own_Fin p e below s _ _ _ (s₁.setTop (mkF m 8 #[.val (.int (2 : Int32))] []))
  refine own_step (fun _ k => XS.iloadN X0.here hx rfl (hb hby own_d3_8) rfl k) ?_
  show own_Fin p e below s _ _ _ (s₁.setTop (mkF m 9 #[.val (.int (2 : Int32))] [(.int (2 : Int32))]))
  refine own_step (fun _ k => XS.iconst X0.here hx rfl (hb hby own_d3_9) k) ?_
  show own_Fin p e below s _ _ _ (s₁.setTop (mkF m 10 #[.val (.int (2 : Int32))] [(.int (1 : Int32)), (.int (2 : Int32))]))
  refine own_step (fun _ k => XS.icmpYes X0.here hx rfl (pc0 := 10) (pc' := 17) rfl (hb hby own_d3_10) rfl (feq (by decide : ¬ ((2 : Int32) = (1 : Int32)))).2 (by decide) (by decide) k) ?_
  show own_Fin p e below s _ _ _ (s₁.setTop (mkF m 17 #[.val (.int (2 : Int32))] []))
  refine own_step (fun _ k => XS.iloadN X0.here hx rfl (hb hby own_d3_17) rfl k) ?_
  show own_Fin p e below s _ _ _ (s₁.setTop (mkF m 18 #[.val (.int (2 : Int32))] [(.int (2 : Int32))]))
  refine own_step (fun _ k => XS.iconst X0.here hx rfl (hb hby own_d3_18) k) ?_
  show own_Fin p e below s _ _ _ (s₁.setTop (mkF m 19 #[.val (.int (2 : Int32))] [(.int (2 : Int32)), (.int (2 : Int32))]))
  refine own_step (fun _ k => XS.icmpNo X0.here hx rfl (hb hby own_d3_19) rfl (teq (by decide : (2 : Int32) = (2 : Int32))).2 k) ?_
  show own_Fin p e below s _ _ _ (s₁.setTop (mkF m 22 #[.val (.int (2 : Int32))] []))
  obtain ⟨T1, X1, e1, st1⟩ := getS2 X0 hx hZ hown (host := "") (Or.inl (own_w hw 19 rfl)) Via.refl e0 S_NONE_OR_ONE (g := (mkF m 22 #[.val (.int (2 : Int32))] [])) rfl (hb hby own_d3_22)
  refine own_step st1 ?_
  show own_Fin p e below s _ _ _ (T1.setTop (mkF m 25 #[.val (.int (2 : Int32))] [(.ref s_NONE_OR_ONE)]))
  exact own_ret X1 hlk (v := some (.ref s_NONE_OR_ONE)) (fun h => by rw [Bd.returns] at h; cases h) (by decide) (by decide) (by show own_Q3 Z s_NONE_OR_ONE h0 n0 _ T1.heap _; rw [e1]; exact ⟨rfl, N0, rfl⟩) (fun fs hr => retOut X1 hx Bd.returns rfl (Or.inr (Or.inr (Or.inr (Or.inr ⟨rfl, rfl, rfl⟩)))) (hb hby own_d3_25) hr)

theorem own_d4_0 : decode method_2_code 0 = .ok (.iload_n 0, 1) := by decide +kernel
theorem own_d4_1 : decode method_2_code 1 = .ok (.ifCond .ne 7, 3) := by decide +kernel
theorem own_d4_8 : decode method_2_code 8 = .ok (.iload_n 0, 1) := by decide +kernel
theorem own_d4_9 : decode method_2_code 9 = .ok (.iconst 1, 1) := by decide +kernel
theorem own_d4_10 : decode method_2_code 10 = .ok (.if_icmp .ne 7, 3) := by decide +kernel
theorem own_d4_17 : decode method_2_code 17 = .ok (.iload_n 0, 1) := by decide +kernel
theorem own_d4_18 : decode method_2_code 18 = .ok (.iconst 2, 1) := by decide +kernel
theorem own_d4_19 : decode method_2_code 19 = .ok (.if_icmp .ne 7, 3) := by decide +kernel
theorem own_d4_26 : decode method_2_code 26 = .ok (.getstatic 19, 3) := by decide +kernel
theorem own_d4_29 : decode method_2_code 29 = .ok (.areturn, 1) := by decide +kernel
theorem own_ef4 (m : MethodId)  : entryFrame m #[(.int (3 : Int32))] 1 = mkF m 0 #[.val (.int (3 : Int32))] [] := by first | (simp [entryFrame, mkF, argsToLocals, Value.category]; done) | rfl
def own_Q4 (Z : State) (s_ONE_OR_MORE : Addr) (h0 : Heap) (n0 : Nat) (v : Option Value) (h : Heap) (L : List Loc) : Prop := v = some (.ref s_ONE_OR_MORE) ∧ Fr n0 L ∧ h = h0
set_option maxRecDepth 65536 in
set_option maxHeartbeats 40000000 in
theorem own_rm4 (l : Launch) (Z : State) (a0 : Array Value) (hw : ∀ d ∈ tables_1, d.before a0 Z = true) (ws : List Jvm.Cond) (s_ONE_OR_MORE : Addr) (h0 : Heap) (n0 : Nat) (Z0 : n0 ≤ h0.size) (S_ONE_OR_MORE : Sta Z h0 "com/example/mortise/mortise/model/ParameterDef$Multiplicity" "ONE_OR_MORE" "Lcom/example/mortise/mortise/model/ParameterDef$Multiplicity;" (.ref s_ONE_OR_MORE)) :
    MetFree l (⟨"com/example/mortise/mortise/model/MultiplicityRequiredPinLaw", "pick", "(I)Lcom/example/mortise/mortise/model/ParameterDef$Multiplicity;"⟩ : MethodName) (head1 (Jvm.Cond.code (⟨"com/example/mortise/mortise/model/MultiplicityRequiredPinLaw", "pick", "(I)Lcom/example/mortise/mortise/model/ParameterDef$Multiplicity;"⟩ : MethodName) method_2_code 1 (some (.object "com/example/mortise/mortise/model/ParameterDef$Multiplicity")) :: ws) ({ frames := 0, cells := 0, slots := 0, locals := 0 } : Room)) (fun a U => a = #[(.int (3 : Int32))] ∧ Z.Warmed39 U.vm ∧ U.heap = h0) (fun _ _ _ _ _ => True) (fun _ U o U' => ∃ v L, o = .returned v ∧ own_Q4 Z s_ONE_OR_MORE h0 n0 v U'.heap L ∧ FrameEnd U o U' L ({ frames := 0, cells := 0, slots := 0, locals := 0 } : Room).cells ({ frames := 0, cells := 0, slots := 0, locals := 0 } : Room).slots) := by
  refine MetFree.of_bodySF (plainFor_of_name own_pn0) hisR ?_
  intro p e s m args below meth c s₁ Bd hml0 hP hK
  obtain ⟨rfl, hZ, hh⟩ := hP
  have hx := Bd.exec
  have hby := Bd.bytes
  have hlk := Bd.notSynchronized
  have hml : c.maxLocals = 1 := hml0
  have hown : s.vm.findClass "com/example/mortise/mortise/model/MultiplicityRequiredPinLaw" = some m.cls := findClass_of_methodNamed Bd.named
  have hnm := (name_of_methodNamed Bd.named Bd.method).1
  have X0 : Stand p l e ({ frames := 0, cells := 0, slots := 0, locals := 0 } : Room) s m #[(.int (3 : Int32))] below meth c s₁ [] 0 0 := Stand.of_body Bd
  have e0 : s₁.heap = h0 := by rw [← hh, Bd.state]; rfl
  have N0 := Fr.nil n0
  have KR : Keep h0 h0 [] := Keep.refl _ _
  show own_Fin p e below s ({ frames := 0, cells := 0, slots := 0, locals := 0 } : Room).cells ({ frames := 0, cells := 0, slots := 0, locals := 0 } : Room).slots (own_Q4 Z s_ONE_OR_MORE h0 n0) (s₁.setTop (entryFrame m #[(.int (3 : Int32))] 1))
  refine own_cast (own_ef4 m ) ?_
  refine own_step (fun _ k => XS.iloadN X0.here hx rfl (hb hby own_d4_0) rfl k) ?_
  show own_Fin p e below s _ _ _ (s₁.setTop (mkF m 1 #[.val (.int (3 : Int32))] [(.int (3 : Int32))]))
  refine own_step (fun _ k => XS.ifYes X0.here hx rfl (pc0 := 1) (pc' := 8) rfl (hb hby own_d4_1) rfl ((if0 _ _).trans (feq (by decide : ¬ ((3 : Int32) = (0 : Int32)))).2) (by decide) (by decide) k) ?_
  show own_Fin p e below s _ _ _ (s₁.setTop (mkF m 8 #[.val (.int (3 : Int32))] []))
  refine own_step (fun _ k => XS.iloadN X0.here hx rfl (hb hby own_d4_8) rfl k) ?_
  show own_Fin p e below s _ _ _ (s₁.setTop (mkF m 9 #[.val (.int (3 : Int32))] [(.int (3 : Int32))]))
  refine own_step (fun _ k => XS.iconst X0.here hx rfl (hb hby own_d4_9) k) ?_
  show own_Fin p e below s _ _ _ (s₁.setTop (mkF m 10 #[.val (.int (3 : Int32))] [(.int (1 : Int32)), (.int (3 : Int32))]))
  refine own_step (fun _ k => XS.icmpYes X0.here hx rfl (pc0 := 10) (pc' := 17) rfl (hb hby own_d4_10) rfl (feq (by decide : ¬ ((3 : Int32) = (1 : Int32)))).2 (by decide) (by decide) k) ?_
  show own_Fin p e below s _ _ _ (s₁.setTop (mkF m 17 #[.val (.int (3 : Int32))] []))
  refine own_step (fun _ k => XS.iloadN X0.here hx rfl (hb hby own_d4_17) rfl k) ?_
  show own_Fin p e below s _ _ _ (s₁.setTop (mkF m 18 #[.val (.int (3 : Int32))] [(.int (3 : Int32))]))
  refine own_step (fun _ k => XS.iconst X0.here hx rfl (hb hby own_d4_18) k) ?_
  show own_Fin p e below s _ _ _ (s₁.setTop (mkF m 19 #[.val (.int (3 : Int32))] [(.int (2 : Int32)), (.int (3 : Int32))]))
  refine own_step (fun _ k => XS.icmpYes X0.here hx rfl (pc0 := 19) (pc' := 26) rfl (hb hby own_d4_19) rfl (feq (by decide : ¬ ((3 : Int32) = (2 : Int32)))).2 (by decide) (by decide) k) ?_
  show own_Fin p e below s _ _ _ (s₁.setTop (mkF m 26 #[.val (.int (3 : Int32))] []))
  obtain ⟨T1, X1, e1, st1⟩ := getS2 X0 hx hZ hown (host := "") (Or.inl (own_w hw 16 rfl)) Via.refl e0 S_ONE_OR_MORE (g := (mkF m 26 #[.val (.int (3 : Int32))] [])) rfl (hb hby own_d4_26)
  refine own_step st1 ?_
  show own_Fin p e below s _ _ _ (T1.setTop (mkF m 29 #[.val (.int (3 : Int32))] [(.ref s_ONE_OR_MORE)]))
  exact own_ret X1 hlk (v := some (.ref s_ONE_OR_MORE)) (fun h => by rw [Bd.returns] at h; cases h) (by decide) (by decide) (by show own_Q4 Z s_ONE_OR_MORE h0 n0 _ T1.heap _; rw [e1]; exact ⟨rfl, N0, rfl⟩) (fun fs hr => retOut X1 hx Bd.returns rfl (Or.inr (Or.inr (Or.inr (Or.inr ⟨rfl, rfl, rfl⟩)))) (hb hby own_d4_29) hr)

theorem own_d5_0 : decode method_3_code 0 = .ok (.iload_n 0, 1) := by decide +kernel
theorem own_d5_1 : decode method_3_code 1 = .ok (.ifCond .ne 5, 3) := by decide +kernel
theorem own_d5_4 : decode method_3_code 4 = .ok (.iconst 1, 1) := by decide +kernel
theorem own_d5_5 : decode method_3_code 5 = .ok (.ireturn, 1) := by decide +kernel
theorem own_ef5 (m : MethodId)  : entryFrame m #[(.int (0 : Int32))] 1 = mkF m 0 #[.val (.int (0 : Int32))] [] := by first | (simp [entryFrame, mkF, argsToLocals, Value.category]; done) | rfl
def own_Q5 (Z : State)  (h0 : Heap) (n0 : Nat) (v : Option Value) (h : Heap) (L : List Loc) : Prop := v = some (.int (1 : Int32)) ∧ Fr n0 L ∧ h = h0
set_option maxRecDepth 65536 in
set_option maxHeartbeats 40000000 in
theorem own_rm5 (l : Launch) (Z : State) (a0 : Array Value) (hw : ∀ d ∈ tables_1, d.before a0 Z = true) (ws : List Jvm.Cond)  (h0 : Heap) (n0 : Nat) (Z0 : n0 ≤ h0.size) :
    MetFree l (⟨"com/example/mortise/mortise/model/MultiplicityRequiredPinLaw", "fewest", "(I)I"⟩ : MethodName) (head1 (Jvm.Cond.code (⟨"com/example/mortise/mortise/model/MultiplicityRequiredPinLaw", "fewest", "(I)I"⟩ : MethodName) method_3_code 1 (some .int) :: ws) ({ frames := 0, cells := 0, slots := 0, locals := 0 } : Room)) (fun a U => a = #[(.int (0 : Int32))] ∧ Z.Warmed39 U.vm ∧ U.heap = h0) (fun _ _ _ _ _ => True) (fun _ U o U' => ∃ v L, o = .returned v ∧ own_Q5 Z  h0 n0 v U'.heap L ∧ FrameEnd U o U' L ({ frames := 0, cells := 0, slots := 0, locals := 0 } : Room).cells ({ frames := 0, cells := 0, slots := 0, locals := 0 } : Room).slots) := by
  refine MetFree.of_bodySF (plainFor_of_name own_pn0) hisR ?_
  intro p e s m args below meth c s₁ Bd hml0 hP hK
  obtain ⟨rfl, hZ, hh⟩ := hP
  have hx := Bd.exec
  have hby := Bd.bytes
  have hlk := Bd.notSynchronized
  have hml : c.maxLocals = 1 := hml0
  have hown : s.vm.findClass "com/example/mortise/mortise/model/MultiplicityRequiredPinLaw" = some m.cls := findClass_of_methodNamed Bd.named
  have hnm := (name_of_methodNamed Bd.named Bd.method).1
  have X0 : Stand p l e ({ frames := 0, cells := 0, slots := 0, locals := 0 } : Room) s m #[(.int (0 : Int32))] below meth c s₁ [] 0 0 := Stand.of_body Bd
  have e0 : s₁.heap = h0 := by rw [← hh, Bd.state]; rfl
  have N0 := Fr.nil n0
  have KR : Keep h0 h0 [] := Keep.refl _ _
  show own_Fin p e below s ({ frames := 0, cells := 0, slots := 0, locals := 0 } : Room).cells ({ frames := 0, cells := 0, slots := 0, locals := 0 } : Room).slots (own_Q5 Z  h0 n0) (s₁.setTop (entryFrame m #[(.int (0 : Int32))] 1))
  refine own_cast (own_ef5 m ) ?_
  refine own_step (fun _ k => XS.iloadN X0.here hx rfl (hb hby own_d5_0) rfl k) ?_
  show own_Fin p e below s _ _ _ (s₁.setTop (mkF m 1 #[.val (.int (0 : Int32))] [(.int (0 : Int32))]))
  refine own_step (fun _ k => XS.ifNo X0.here hx rfl (hb hby own_d5_1) rfl ((if0 _ _).trans (teq (by decide : (0 : Int32) = (0 : Int32))).2) k) ?_
  show own_Fin p e below s _ _ _ (s₁.setTop (mkF m 4 #[.val (.int (0 : Int32))] []))
  refine own_step (fun _ k => XS.iconst X0.here hx rfl (hb hby own_d5_4) k) ?_
  show own_Fin p e below s _ _ _ (s₁.setTop (mkF m 5 #[.val (.int (0 : Int32))] [(.int (1 : Int32))]))
  exact own_ret X0 hlk (v := some (.int (1 : Int32))) (fun h => by rw [Bd.returns] at h; cases h) (by decide) (by decide) (by show own_Q5 Z  h0 n0 _ s₁.heap _; rw [e0]; exact ⟨rfl, N0, rfl⟩) (fun fs hr => retOut X0 hx Bd.returns rfl (Or.inl ⟨rfl, Or.inl rfl, _, rfl⟩) (hb hby own_d5_5) hr)

theorem own_d6_0 : decode method_3_code 0 = .ok (.iload_n 0, 1) := by decide +kernel
theorem own_d6_1 : decode method_3_code 1 = .ok (.ifCond .ne 5, 3) := by decide +kernel
theorem own_d6_6 : decode method_3_code 6 = .ok (.iload_n 0, 1) := by decide +kernel
theorem own_d6_7 : decode method_3_code 7 = .ok (.iconst 1, 1) := by decide +kernel
theorem own_d6_8 : decode method_3_code 8 = .ok (.if_icmp .ne 5, 3) := by decide +kernel
theorem own_d6_11 : decode method_3_code 11 = .ok (.iconst 0, 1) := by decide +kernel
theorem own_d6_12 : decode method_3_code 12 = .ok (.ireturn, 1) := by decide +kernel
theorem own_ef6 (m : MethodId)  : entryFrame m #[(.int (1 : Int32))] 1 = mkF m 0 #[.val (.int (1 : Int32))] [] := by first | (simp [entryFrame, mkF, argsToLocals, Value.category]; done) | rfl
def own_Q6 (Z : State)  (h0 : Heap) (n0 : Nat) (v : Option Value) (h : Heap) (L : List Loc) : Prop := v = some (.int (0 : Int32)) ∧ Fr n0 L ∧ h = h0
set_option maxRecDepth 65536 in
set_option maxHeartbeats 40000000 in
theorem own_rm6 (l : Launch) (Z : State) (a0 : Array Value) (hw : ∀ d ∈ tables_1, d.before a0 Z = true) (ws : List Jvm.Cond)  (h0 : Heap) (n0 : Nat) (Z0 : n0 ≤ h0.size) :
    MetFree l (⟨"com/example/mortise/mortise/model/MultiplicityRequiredPinLaw", "fewest", "(I)I"⟩ : MethodName) (head1 (Jvm.Cond.code (⟨"com/example/mortise/mortise/model/MultiplicityRequiredPinLaw", "fewest", "(I)I"⟩ : MethodName) method_3_code 1 (some .int) :: ws) ({ frames := 0, cells := 0, slots := 0, locals := 0 } : Room)) (fun a U => a = #[(.int (1 : Int32))] ∧ Z.Warmed39 U.vm ∧ U.heap = h0) (fun _ _ _ _ _ => True) (fun _ U o U' => ∃ v L, o = .returned v ∧ own_Q6 Z  h0 n0 v U'.heap L ∧ FrameEnd U o U' L ({ frames := 0, cells := 0, slots := 0, locals := 0 } : Room).cells ({ frames := 0, cells := 0, slots := 0, locals := 0 } : Room).slots) := by
  refine MetFree.of_bodySF (plainFor_of_name own_pn0) hisR ?_
  intro p e s m args below meth c s₁ Bd hml0 hP hK
  obtain ⟨rfl, hZ, hh⟩ := hP
  have hx := Bd.exec
  have hby := Bd.bytes
  have hlk := Bd.notSynchronized
  have hml : c.maxLocals = 1 := hml0
  have hown : s.vm.findClass "com/example/mortise/mortise/model/MultiplicityRequiredPinLaw" = some m.cls := findClass_of_methodNamed Bd.named
  have hnm := (name_of_methodNamed Bd.named Bd.method).1
  have X0 : Stand p l e ({ frames := 0, cells := 0, slots := 0, locals := 0 } : Room) s m #[(.int (1 : Int32))] below meth c s₁ [] 0 0 := Stand.of_body Bd
  have e0 : s₁.heap = h0 := by rw [← hh, Bd.state]; rfl
  have N0 := Fr.nil n0
  have KR : Keep h0 h0 [] := Keep.refl _ _
  show own_Fin p e below s ({ frames := 0, cells := 0, slots := 0, locals := 0 } : Room).cells ({ frames := 0, cells := 0, slots := 0, locals := 0 } : Room).slots (own_Q6 Z  h0 n0) (s₁.setTop (entryFrame m #[(.int (1 : Int32))] 1))
  refine own_cast (own_ef6 m ) ?_
  refine own_step (fun _ k => XS.iloadN X0.here hx rfl (hb hby own_d6_0) rfl k) ?_
  show own_Fin p e below s _ _ _ (s₁.setTop (mkF m 1 #[.val (.int (1 : Int32))] [(.int (1 : Int32))]))
  refine own_step (fun _ k => XS.ifYes X0.here hx rfl (pc0 := 1) (pc' := 6) rfl (hb hby own_d6_1) rfl ((if0 _ _).trans (feq (by decide : ¬ ((1 : Int32) = (0 : Int32)))).2) (by decide) (by decide) k) ?_
  show own_Fin p e below s _ _ _ (s₁.setTop (mkF m 6 #[.val (.int (1 : Int32))] []))
  refine own_step (fun _ k => XS.iloadN X0.here hx rfl (hb hby own_d6_6) rfl k) ?_
  show own_Fin p e below s _ _ _ (s₁.setTop (mkF m 7 #[.val (.int (1 : Int32))] [(.int (1 : Int32))]))
  refine own_step (fun _ k => XS.iconst X0.here hx rfl (hb hby own_d6_7) k) ?_
  show own_Fin p e below s _ _ _ (s₁.setTop (mkF m 8 #[.val (.int (1 : Int32))] [(.int (1 : Int32)), (.int (1 : Int32))]))
  refine own_step (fun _ k => XS.icmpNo X0.here hx rfl (hb hby own_d6_8) rfl (teq (by decide : (1 : Int32) = (1 : Int32))).2 k) ?_
  show own_Fin p e below s _ _ _ (s₁.setTop (mkF m 11 #[.val (.int (1 : Int32))] []))
  refine own_step (fun _ k => XS.iconst X0.here hx rfl (hb hby own_d6_11) k) ?_
  show own_Fin p e below s _ _ _ (s₁.setTop (mkF m 12 #[.val (.int (1 : Int32))] [(.int (0 : Int32))]))
  exact own_ret X0 hlk (v := some (.int (0 : Int32))) (fun h => by rw [Bd.returns] at h; cases h) (by decide) (by decide) (by show own_Q6 Z  h0 n0 _ s₁.heap _; rw [e0]; exact ⟨rfl, N0, rfl⟩) (fun fs hr => retOut X0 hx Bd.returns rfl (Or.inl ⟨rfl, Or.inl rfl, _, rfl⟩) (hb hby own_d6_12) hr)

theorem own_d7_0 : decode method_3_code 0 = .ok (.iload_n 0, 1) := by decide +kernel
theorem own_d7_1 : decode method_3_code 1 = .ok (.ifCond .ne 5, 3) := by decide +kernel
theorem own_d7_6 : decode method_3_code 6 = .ok (.iload_n 0, 1) := by decide +kernel
theorem own_d7_7 : decode method_3_code 7 = .ok (.iconst 1, 1) := by decide +kernel
theorem own_d7_8 : decode method_3_code 8 = .ok (.if_icmp .ne 5, 3) := by decide +kernel
theorem own_d7_13 : decode method_3_code 13 = .ok (.iload_n 0, 1) := by decide +kernel
theorem own_d7_14 : decode method_3_code 14 = .ok (.iconst 2, 1) := by decide +kernel
theorem own_d7_15 : decode method_3_code 15 = .ok (.if_icmp .ne 5, 3) := by decide +kernel
theorem own_d7_18 : decode method_3_code 18 = .ok (.iconst 0, 1) := by decide +kernel
theorem own_d7_19 : decode method_3_code 19 = .ok (.ireturn, 1) := by decide +kernel
theorem own_ef7 (m : MethodId)  : entryFrame m #[(.int (2 : Int32))] 1 = mkF m 0 #[.val (.int (2 : Int32))] [] := by first | (simp [entryFrame, mkF, argsToLocals, Value.category]; done) | rfl
def own_Q7 (Z : State)  (h0 : Heap) (n0 : Nat) (v : Option Value) (h : Heap) (L : List Loc) : Prop := v = some (.int (0 : Int32)) ∧ Fr n0 L ∧ h = h0
set_option maxRecDepth 65536 in
set_option maxHeartbeats 40000000 in
theorem own_rm7 (l : Launch) (Z : State) (a0 : Array Value) (hw : ∀ d ∈ tables_1, d.before a0 Z = true) (ws : List Jvm.Cond)  (h0 : Heap) (n0 : Nat) (Z0 : n0 ≤ h0.size) :
    MetFree l (⟨"com/example/mortise/mortise/model/MultiplicityRequiredPinLaw", "fewest", "(I)I"⟩ : MethodName) (head1 (Jvm.Cond.code (⟨"com/example/mortise/mortise/model/MultiplicityRequiredPinLaw", "fewest", "(I)I"⟩ : MethodName) method_3_code 1 (some .int) :: ws) ({ frames := 0, cells := 0, slots := 0, locals := 0 } : Room)) (fun a U => a = #[(.int (2 : Int32))] ∧ Z.Warmed39 U.vm ∧ U.heap = h0) (fun _ _ _ _ _ => True) (fun _ U o U' => ∃ v L, o = .returned v ∧ own_Q7 Z  h0 n0 v U'.heap L ∧ FrameEnd U o U' L ({ frames := 0, cells := 0, slots := 0, locals := 0 } : Room).cells ({ frames := 0, cells := 0, slots := 0, locals := 0 } : Room).slots) := by
  refine MetFree.of_bodySF (plainFor_of_name own_pn0) hisR ?_
  intro p e s m args below meth c s₁ Bd hml0 hP hK
  obtain ⟨rfl, hZ, hh⟩ := hP
  have hx := Bd.exec
  have hby := Bd.bytes
  have hlk := Bd.notSynchronized
  have hml : c.maxLocals = 1 := hml0
  have hown : s.vm.findClass "com/example/mortise/mortise/model/MultiplicityRequiredPinLaw" = some m.cls := findClass_of_methodNamed Bd.named
  have hnm := (name_of_methodNamed Bd.named Bd.method).1
  have X0 : Stand p l e ({ frames := 0, cells := 0, slots := 0, locals := 0 } : Room) s m #[(.int (2 : Int32))] below meth c s₁ [] 0 0 := Stand.of_body Bd
  have e0 : s₁.heap = h0 := by rw [← hh, Bd.state]; rfl
  have N0 := Fr.nil n0
  have KR : Keep h0 h0 [] := Keep.refl _ _
  show own_Fin p e below s ({ frames := 0, cells := 0, slots := 0, locals := 0 } : Room).cells ({ frames := 0, cells := 0, slots := 0, locals := 0 } : Room).slots (own_Q7 Z  h0 n0) (s₁.setTop (entryFrame m #[(.int (2 : Int32))] 1))
  refine own_cast (own_ef7 m ) ?_
  refine own_step (fun _ k => XS.iloadN X0.here hx rfl (hb hby own_d7_0) rfl k) ?_
  show own_Fin p e below s _ _ _ (s₁.setTop (mkF m 1 #[.val (.int (2 : Int32))] [(.int (2 : Int32))]))
  refine own_step (fun _ k => XS.ifYes X0.here hx rfl (pc0 := 1) (pc' := 6) rfl (hb hby own_d7_1) rfl ((if0 _ _).trans (feq (by decide : ¬ ((2 : Int32) = (0 : Int32)))).2) (by decide) (by decide) k) ?_
  show own_Fin p e below s _ _ _ (s₁.setTop (mkF m 6 #[.val (.int (2 : Int32))] []))
  refine own_step (fun _ k => XS.iloadN X0.here hx rfl (hb hby own_d7_6) rfl k) ?_
  show own_Fin p e below s _ _ _ (s₁.setTop (mkF m 7 #[.val (.int (2 : Int32))] [(.int (2 : Int32))]))
  refine own_step (fun _ k => XS.iconst X0.here hx rfl (hb hby own_d7_7) k) ?_
  show own_Fin p e below s _ _ _ (s₁.setTop (mkF m 8 #[.val (.int (2 : Int32))] [(.int (1 : Int32)), (.int (2 : Int32))]))
  refine own_step (fun _ k => XS.icmpYes X0.here hx rfl (pc0 := 8) (pc' := 13) rfl (hb hby own_d7_8) rfl (feq (by decide : ¬ ((2 : Int32) = (1 : Int32)))).2 (by decide) (by decide) k) ?_
  show own_Fin p e below s _ _ _ (s₁.setTop (mkF m 13 #[.val (.int (2 : Int32))] []))
  refine own_step (fun _ k => XS.iloadN X0.here hx rfl (hb hby own_d7_13) rfl k) ?_
  show own_Fin p e below s _ _ _ (s₁.setTop (mkF m 14 #[.val (.int (2 : Int32))] [(.int (2 : Int32))]))
  refine own_step (fun _ k => XS.iconst X0.here hx rfl (hb hby own_d7_14) k) ?_
  show own_Fin p e below s _ _ _ (s₁.setTop (mkF m 15 #[.val (.int (2 : Int32))] [(.int (2 : Int32)), (.int (2 : Int32))]))
  refine own_step (fun _ k => XS.icmpNo X0.here hx rfl (hb hby own_d7_15) rfl (teq (by decide : (2 : Int32) = (2 : Int32))).2 k) ?_
  show own_Fin p e below s _ _ _ (s₁.setTop (mkF m 18 #[.val (.int (2 : Int32))] []))
  refine own_step (fun _ k => XS.iconst X0.here hx rfl (hb hby own_d7_18) k) ?_
  show own_Fin p e below s _ _ _ (s₁.setTop (mkF m 19 #[.val (.int (2 : Int32))] [(.int (0 : Int32))]))
  exact own_ret X0 hlk (v := some (.int (0 : Int32))) (fun h => by rw [Bd.returns] at h; cases h) (by decide) (by decide) (by show own_Q7 Z  h0 n0 _ s₁.heap _; rw [e0]; exact ⟨rfl, N0, rfl⟩) (fun fs hr => retOut X0 hx Bd.returns rfl (Or.inl ⟨rfl, Or.inl rfl, _, rfl⟩) (hb hby own_d7_19) hr)

theorem own_d8_0 : decode method_3_code 0 = .ok (.iload_n 0, 1) := by decide +kernel
theorem own_d8_1 : decode method_3_code 1 = .ok (.ifCond .ne 5, 3) := by decide +kernel
theorem own_d8_6 : decode method_3_code 6 = .ok (.iload_n 0, 1) := by decide +kernel
theorem own_d8_7 : decode method_3_code 7 = .ok (.iconst 1, 1) := by decide +kernel
theorem own_d8_8 : decode method_3_code 8 = .ok (.if_icmp .ne 5, 3) := by decide +kernel
theorem own_d8_13 : decode method_3_code 13 = .ok (.iload_n 0, 1) := by decide +kernel
theorem own_d8_14 : decode method_3_code 14 = .ok (.iconst 2, 1) := by decide +kernel
theorem own_d8_15 : decode method_3_code 15 = .ok (.if_icmp .ne 5, 3) := by decide +kernel
theorem own_d8_20 : decode method_3_code 20 = .ok (.iconst 1, 1) := by decide +kernel
theorem own_d8_21 : decode method_3_code 21 = .ok (.ireturn, 1) := by decide +kernel
theorem own_ef8 (m : MethodId)  : entryFrame m #[(.int (3 : Int32))] 1 = mkF m 0 #[.val (.int (3 : Int32))] [] := by first | (simp [entryFrame, mkF, argsToLocals, Value.category]; done) | rfl
def own_Q8 (Z : State)  (h0 : Heap) (n0 : Nat) (v : Option Value) (h : Heap) (L : List Loc) : Prop := v = some (.int (1 : Int32)) ∧ Fr n0 L ∧ h = h0
set_option maxRecDepth 65536 in
set_option maxHeartbeats 40000000 in
theorem own_rm8 (l : Launch) (Z : State) (a0 : Array Value) (hw : ∀ d ∈ tables_1, d.before a0 Z = true) (ws : List Jvm.Cond)  (h0 : Heap) (n0 : Nat) (Z0 : n0 ≤ h0.size) :
    MetFree l (⟨"com/example/mortise/mortise/model/MultiplicityRequiredPinLaw", "fewest", "(I)I"⟩ : MethodName) (head1 (Jvm.Cond.code (⟨"com/example/mortise/mortise/model/MultiplicityRequiredPinLaw", "fewest", "(I)I"⟩ : MethodName) method_3_code 1 (some .int) :: ws) ({ frames := 0, cells := 0, slots := 0, locals := 0 } : Room)) (fun a U => a = #[(.int (3 : Int32))] ∧ Z.Warmed39 U.vm ∧ U.heap = h0) (fun _ _ _ _ _ => True) (fun _ U o U' => ∃ v L, o = .returned v ∧ own_Q8 Z  h0 n0 v U'.heap L ∧ FrameEnd U o U' L ({ frames := 0, cells := 0, slots := 0, locals := 0 } : Room).cells ({ frames := 0, cells := 0, slots := 0, locals := 0 } : Room).slots) := by
  refine MetFree.of_bodySF (plainFor_of_name own_pn0) hisR ?_
  intro p e s m args below meth c s₁ Bd hml0 hP hK
  obtain ⟨rfl, hZ, hh⟩ := hP
  have hx := Bd.exec
  have hby := Bd.bytes
  have hlk := Bd.notSynchronized
  have hml : c.maxLocals = 1 := hml0
  have hown : s.vm.findClass "com/example/mortise/mortise/model/MultiplicityRequiredPinLaw" = some m.cls := findClass_of_methodNamed Bd.named
  have hnm := (name_of_methodNamed Bd.named Bd.method).1
  have X0 : Stand p l e ({ frames := 0, cells := 0, slots := 0, locals := 0 } : Room) s m #[(.int (3 : Int32))] below meth c s₁ [] 0 0 := Stand.of_body Bd
  have e0 : s₁.heap = h0 := by rw [← hh, Bd.state]; rfl
  have N0 := Fr.nil n0
  have KR : Keep h0 h0 [] := Keep.refl _ _
  show own_Fin p e below s ({ frames := 0, cells := 0, slots := 0, locals := 0 } : Room).cells ({ frames := 0, cells := 0, slots := 0, locals := 0 } : Room).slots (own_Q8 Z  h0 n0) (s₁.setTop (entryFrame m #[(.int (3 : Int32))] 1))
  refine own_cast (own_ef8 m ) ?_
  refine own_step (fun _ k => XS.iloadN X0.here hx rfl (hb hby own_d8_0) rfl k) ?_
  show own_Fin p e below s _ _ _ (s₁.setTop (mkF m 1 #[.val (.int (3 : Int32))] [(.int (3 : Int32))]))
  refine own_step (fun _ k => XS.ifYes X0.here hx rfl (pc0 := 1) (pc' := 6) rfl (hb hby own_d8_1) rfl ((if0 _ _).trans (feq (by decide : ¬ ((3 : Int32) = (0 : Int32)))).2) (by decide) (by decide) k) ?_
  show own_Fin p e below s _ _ _ (s₁.setTop (mkF m 6 #[.val (.int (3 : Int32))] []))
  refine own_step (fun _ k => XS.iloadN X0.here hx rfl (hb hby own_d8_6) rfl k) ?_
  show own_Fin p e below s _ _ _ (s₁.setTop (mkF m 7 #[.val (.int (3 : Int32))] [(.int (3 : Int32))]))
  refine own_step (fun _ k => XS.iconst X0.here hx rfl (hb hby own_d8_7) k) ?_
  show own_Fin p e below s _ _ _ (s₁.setTop (mkF m 8 #[.val (.int (3 : Int32))] [(.int (1 : Int32)), (.int (3 : Int32))]))
  refine own_step (fun _ k => XS.icmpYes X0.here hx rfl (pc0 := 8) (pc' := 13) rfl (hb hby own_d8_8) rfl (feq (by decide : ¬ ((3 : Int32) = (1 : Int32)))).2 (by decide) (by decide) k) ?_
  show own_Fin p e below s _ _ _ (s₁.setTop (mkF m 13 #[.val (.int (3 : Int32))] []))
  refine own_step (fun _ k => XS.iloadN X0.here hx rfl (hb hby own_d8_13) rfl k) ?_
  show own_Fin p e below s _ _ _ (s₁.setTop (mkF m 14 #[.val (.int (3 : Int32))] [(.int (3 : Int32))]))
  refine own_step (fun _ k => XS.iconst X0.here hx rfl (hb hby own_d8_14) k) ?_
  show own_Fin p e below s _ _ _ (s₁.setTop (mkF m 15 #[.val (.int (3 : Int32))] [(.int (2 : Int32)), (.int (3 : Int32))]))
  refine own_step (fun _ k => XS.icmpYes X0.here hx rfl (pc0 := 15) (pc' := 20) rfl (hb hby own_d8_15) rfl (feq (by decide : ¬ ((3 : Int32) = (2 : Int32)))).2 (by decide) (by decide) k) ?_
  show own_Fin p e below s _ _ _ (s₁.setTop (mkF m 20 #[.val (.int (3 : Int32))] []))
  refine own_step (fun _ k => XS.iconst X0.here hx rfl (hb hby own_d8_20) k) ?_
  show own_Fin p e below s _ _ _ (s₁.setTop (mkF m 21 #[.val (.int (3 : Int32))] [(.int (1 : Int32))]))
  exact own_ret X0 hlk (v := some (.int (1 : Int32))) (fun h => by rw [Bd.returns] at h; cases h) (by decide) (by decide) (by show own_Q8 Z  h0 n0 _ s₁.heap _; rw [e0]; exact ⟨rfl, N0, rfl⟩) (fun fs hr => retOut X0 hx Bd.returns rfl (Or.inl ⟨rfl, Or.inl rfl, _, rfl⟩) (hb hby own_d8_21) hr)

theorem own_d9_0 : decode prog_56_method_4_code 0 = .ok (.aload_n 0, 1) := by decide +kernel
theorem own_d9_1 : decode prog_56_method_4_code 1 = .ok (.getstatic 3, 3) := by decide +kernel
theorem own_d9_4 : decode prog_56_method_4_code 4 = .ok (.if_acmp .eq 10, 3) := by decide +kernel
theorem own_d9_14 : decode prog_56_method_4_code 14 = .ok (.iconst 1, 1) := by decide +kernel
theorem own_d9_15 : decode prog_56_method_4_code 15 = .ok (.goto 4, 3) := by decide +kernel
theorem own_d9_19 : decode prog_56_method_4_code 19 = .ok (.ireturn, 1) := by decide +kernel
theorem own_pn1 : plainName "com/example/mortise/mortise/model/ParameterDef$Multiplicity" = true := by first | (simp [plainName, overriddenIn]; done) | decide +kernel
theorem own_ef9 (m : MethodId) (s_ONE : Addr) : entryFrame m #[(.ref s_ONE)] 1 = mkF m 0 #[.val (.ref s_ONE)] [] := by first | (simp [entryFrame, mkF, argsToLocals, Value.category]; done) | rfl
def own_Q9 (Z : State) (s_ONE : Addr) (h0 : Heap) (n0 : Nat) (v : Option Value) (h : Heap) (L : List Loc) : Prop := v = some (.int (1 : Int32)) ∧ Fr n0 L ∧ h = h0
set_option maxRecDepth 65536 in
set_option maxHeartbeats 40000000 in
theorem own_rm9 (l : Launch) (Z : State) (a0 : Array Value) (hw : ∀ d ∈ tables_1, d.before a0 Z = true) (ws : List Jvm.Cond) (s_ONE : Addr) (h0 : Heap) (n0 : Nat) (Z0 : n0 ≤ h0.size) (S_ONE : Sta Z h0 "com/example/mortise/mortise/model/ParameterDef$Multiplicity" "ONE" "Lcom/example/mortise/mortise/model/ParameterDef$Multiplicity;" (.ref s_ONE)) :
    MetFree l (⟨"com/example/mortise/mortise/model/ParameterDef$Multiplicity", "required", "()Z"⟩ : MethodName) (head1 (Jvm.Cond.code (⟨"com/example/mortise/mortise/model/ParameterDef$Multiplicity", "required", "()Z"⟩ : MethodName) prog_56_method_4_code 1 (some .boolean) :: ws) ({ frames := 0, cells := 0, slots := 0, locals := 0 } : Room)) (fun a U => a = #[(.ref s_ONE)] ∧ Z.Warmed39 U.vm ∧ U.heap = h0) (fun _ _ _ _ _ => True) (fun _ U o U' => ∃ v L, o = .returned v ∧ own_Q9 Z s_ONE h0 n0 v U'.heap L ∧ FrameEnd U o U' L ({ frames := 0, cells := 0, slots := 0, locals := 0 } : Room).cells ({ frames := 0, cells := 0, slots := 0, locals := 0 } : Room).slots) := by
  refine MetFree.of_bodySF (plainFor_of_name own_pn1) hisR ?_
  intro p e s m args below meth c s₁ Bd hml0 hP hK
  obtain ⟨rfl, hZ, hh⟩ := hP
  have hx := Bd.exec
  have hby := Bd.bytes
  have hlk := Bd.notSynchronized
  have hml : c.maxLocals = 1 := hml0
  have hown : s.vm.findClass "com/example/mortise/mortise/model/ParameterDef$Multiplicity" = some m.cls := findClass_of_methodNamed Bd.named
  have hnm := (name_of_methodNamed Bd.named Bd.method).1
  have X0 : Stand p l e ({ frames := 0, cells := 0, slots := 0, locals := 0 } : Room) s m #[(.ref s_ONE)] below meth c s₁ [] 0 0 := Stand.of_body Bd
  have e0 : s₁.heap = h0 := by rw [← hh, Bd.state]; rfl
  have N0 := Fr.nil n0
  have KR : Keep h0 h0 [] := Keep.refl _ _
  show own_Fin p e below s ({ frames := 0, cells := 0, slots := 0, locals := 0 } : Room).cells ({ frames := 0, cells := 0, slots := 0, locals := 0 } : Room).slots (own_Q9 Z s_ONE h0 n0) (s₁.setTop (entryFrame m #[(.ref s_ONE)] 1))
  refine own_cast (own_ef9 m s_ONE) ?_
  refine own_step (fun _ k => XS.aloadN X0.here hx rfl (hb hby own_d9_0) rfl rfl k) ?_
  show own_Fin p e below s _ _ _ (s₁.setTop (mkF m 1 #[.val (.ref s_ONE)] [(.ref s_ONE)]))
  obtain ⟨T1, X1, e1, st1⟩ := getS2 X0 hx hZ hown (host := "") (Or.inl (own_w hw 15 rfl)) Via.refl e0 S_ONE (g := (mkF m 1 #[.val (.ref s_ONE)] [(.ref s_ONE)])) rfl (hb hby own_d9_1)
  refine own_step st1 ?_
  show own_Fin p e below s _ _ _ (T1.setTop (mkF m 4 #[.val (.ref s_ONE)] [(.ref s_ONE), (.ref s_ONE)]))
  refine own_step (fun _ k => Jvm.RoadKit.acmp (g := (mkF m 4 #[.val (.ref s_ONE)] [(.ref s_ONE), (.ref s_ONE)])) X1 hx rfl rfl rfl (pc0 := 4) (pc' := 14) (same := true) rfl (hb hby own_d9_4) rfl (decide_eq_true rfl) (by decide) (by decide) k) ?_
  show own_Fin p e below s _ _ _ (T1.setTop (mkF m 14 #[.val (.ref s_ONE)] []))
  refine own_step (fun _ k => XS.iconst X1.here hx rfl (hb hby own_d9_14) k) ?_
  show own_Fin p e below s _ _ _ (T1.setTop (mkF m 15 #[.val (.ref s_ONE)] [(.int (1 : Int32))]))
  refine own_step (fun _ k => XS.goto X1.here hx rfl (pc0 := 15) (pc' := 19) rfl (hb hby own_d9_15) (by decide) (by decide) k) ?_
  show own_Fin p e below s _ _ _ (T1.setTop (mkF m 19 #[.val (.ref s_ONE)] [(.int (1 : Int32))]))
  exact own_ret X1 hlk (v := some (.int (1 : Int32))) (fun h => by rw [Bd.returns] at h; cases h) (by decide) (by decide) (by show own_Q9 Z s_ONE h0 n0 _ T1.heap _; rw [e1]; exact ⟨rfl, N0, rfl⟩) (fun fs hr => retN X1 hx (t := .boolean) Bd.returns (by simp) (hb hby own_d9_19) hr)

theorem own_d10_0 : decode prog_56_method_4_code 0 = .ok (.aload_n 0, 1) := by decide +kernel
theorem own_d10_1 : decode prog_56_method_4_code 1 = .ok (.getstatic 3, 3) := by decide +kernel
theorem own_d10_4 : decode prog_56_method_4_code 4 = .ok (.if_acmp .eq 10, 3) := by decide +kernel
theorem own_d10_7 : decode prog_56_method_4_code 7 = .ok (.aload_n 0, 1) := by decide +kernel
theorem own_d10_8 : decode prog_56_method_4_code 8 = .ok (.getstatic 13, 3) := by decide +kernel
theorem own_d10_11 : decode prog_56_method_4_code 11 = .ok (.if_acmp .ne 7, 3) := by decide +kernel
theorem own_d10_18 : decode prog_56_method_4_code 18 = .ok (.iconst 0, 1) := by decide +kernel
theorem own_d10_19 : decode prog_56_method_4_code 19 = .ok (.ireturn, 1) := by decide +kernel
theorem own_ef10 (m : MethodId) (s_ANY : Addr) : entryFrame m #[(.ref s_ANY)] 1 = mkF m 0 #[.val (.ref s_ANY)] [] := by first | (simp [entryFrame, mkF, argsToLocals, Value.category]; done) | rfl
def own_Q10 (Z : State) (s_ANY : Addr) (s_ONE : Addr) (s_ONE_OR_MORE : Addr) (h0 : Heap) (n0 : Nat) (v : Option Value) (h : Heap) (L : List Loc) : Prop := v = some (.int (0 : Int32)) ∧ Fr n0 L ∧ h = h0
set_option maxRecDepth 65536 in
set_option maxHeartbeats 40000000 in
theorem own_rm10 (l : Launch) (Z : State) (a0 : Array Value) (hw : ∀ d ∈ tables_1, d.before a0 Z = true) (ws : List Jvm.Cond) (s_ANY : Addr) (s_ONE : Addr) (s_ONE_OR_MORE : Addr) (h0 : Heap) (n0 : Nat) (Z0 : n0 ≤ h0.size) (S_ONE : Sta Z h0 "com/example/mortise/mortise/model/ParameterDef$Multiplicity" "ONE" "Lcom/example/mortise/mortise/model/ParameterDef$Multiplicity;" (.ref s_ONE)) (ne_s_ANY_s_ONE : s_ANY ≠ s_ONE) (S_ONE_OR_MORE : Sta Z h0 "com/example/mortise/mortise/model/ParameterDef$Multiplicity" "ONE_OR_MORE" "Lcom/example/mortise/mortise/model/ParameterDef$Multiplicity;" (.ref s_ONE_OR_MORE)) (ne_s_ANY_s_ONE_OR_MORE : s_ANY ≠ s_ONE_OR_MORE) :
    MetFree l (⟨"com/example/mortise/mortise/model/ParameterDef$Multiplicity", "required", "()Z"⟩ : MethodName) (head1 (Jvm.Cond.code (⟨"com/example/mortise/mortise/model/ParameterDef$Multiplicity", "required", "()Z"⟩ : MethodName) prog_56_method_4_code 1 (some .boolean) :: ws) ({ frames := 0, cells := 0, slots := 0, locals := 0 } : Room)) (fun a U => a = #[(.ref s_ANY)] ∧ Z.Warmed39 U.vm ∧ U.heap = h0) (fun _ _ _ _ _ => True) (fun _ U o U' => ∃ v L, o = .returned v ∧ own_Q10 Z s_ANY s_ONE s_ONE_OR_MORE h0 n0 v U'.heap L ∧ FrameEnd U o U' L ({ frames := 0, cells := 0, slots := 0, locals := 0 } : Room).cells ({ frames := 0, cells := 0, slots := 0, locals := 0 } : Room).slots) := by
  refine MetFree.of_bodySF (plainFor_of_name own_pn1) hisR ?_
  intro p e s m args below meth c s₁ Bd hml0 hP hK
  obtain ⟨rfl, hZ, hh⟩ := hP
  have hx := Bd.exec
  have hby := Bd.bytes
  have hlk := Bd.notSynchronized
  have hml : c.maxLocals = 1 := hml0
  have hown : s.vm.findClass "com/example/mortise/mortise/model/ParameterDef$Multiplicity" = some m.cls := findClass_of_methodNamed Bd.named
  have hnm := (name_of_methodNamed Bd.named Bd.method).1
  have X0 : Stand p l e ({ frames := 0, cells := 0, slots := 0, locals := 0 } : Room) s m #[(.ref s_ANY)] below meth c s₁ [] 0 0 := Stand.of_body Bd
  have e0 : s₁.heap = h0 := by rw [← hh, Bd.state]; rfl
  have N0 := Fr.nil n0
  have KR : Keep h0 h0 [] := Keep.refl _ _
  show own_Fin p e below s ({ frames := 0, cells := 0, slots := 0, locals := 0 } : Room).cells ({ frames := 0, cells := 0, slots := 0, locals := 0 } : Room).slots (own_Q10 Z s_ANY s_ONE s_ONE_OR_MORE h0 n0) (s₁.setTop (entryFrame m #[(.ref s_ANY)] 1))
  refine own_cast (own_ef10 m s_ANY) ?_
  refine own_step (fun _ k => XS.aloadN X0.here hx rfl (hb hby own_d10_0) rfl rfl k) ?_
  show own_Fin p e below s _ _ _ (s₁.setTop (mkF m 1 #[.val (.ref s_ANY)] [(.ref s_ANY)]))
  obtain ⟨T1, X1, e1, st1⟩ := getS2 X0 hx hZ hown (host := "") (Or.inl (own_w hw 15 rfl)) Via.refl e0 S_ONE (g := (mkF m 1 #[.val (.ref s_ANY)] [(.ref s_ANY)])) rfl (hb hby own_d10_1)
  refine own_step st1 ?_
  show own_Fin p e below s _ _ _ (T1.setTop (mkF m 4 #[.val (.ref s_ANY)] [(.ref s_ONE), (.ref s_ANY)]))
  refine own_step (fun _ k => Jvm.RoadKit.acmp (g := (mkF m 4 #[.val (.ref s_ANY)] [(.ref s_ONE), (.ref s_ANY)])) X1 hx rfl rfl rfl (pc0 := 4) (pc' := 7) (same := false) rfl (hb hby own_d10_4) rfl (decide_eq_false fun q => ne_s_ANY_s_ONE (Value.ref.inj q)) (by decide) (by decide) k) ?_
  show own_Fin p e below s _ _ _ (T1.setTop (mkF m 7 #[.val (.ref s_ANY)] []))
  refine own_step (fun _ k => XS.aloadN X1.here hx rfl (hb hby own_d10_7) rfl rfl k) ?_
  show own_Fin p e below s _ _ _ (T1.setTop (mkF m 8 #[.val (.ref s_ANY)] [(.ref s_ANY)]))
  obtain ⟨T2, X2, e2, st2⟩ := getS2 X1 hx hZ hown (host := "") (Or.inl (own_w hw 18 rfl)) Via.refl e1 S_ONE_OR_MORE (g := (mkF m 8 #[.val (.ref s_ANY)] [(.ref s_ANY)])) rfl (hb hby own_d10_8)
  refine own_step st2 ?_
  show own_Fin p e below s _ _ _ (T2.setTop (mkF m 11 #[.val (.ref s_ANY)] [(.ref s_ONE_OR_MORE), (.ref s_ANY)]))
  refine own_step (fun _ k => Jvm.RoadKit.acmp (g := (mkF m 11 #[.val (.ref s_ANY)] [(.ref s_ONE_OR_MORE), (.ref s_ANY)])) X2 hx rfl rfl rfl (pc0 := 11) (pc' := 18) (same := false) rfl (hb hby own_d10_11) rfl (decide_eq_false fun q => ne_s_ANY_s_ONE_OR_MORE (Value.ref.inj q)) (by decide) (by decide) k) ?_
  show own_Fin p e below s _ _ _ (T2.setTop (mkF m 18 #[.val (.ref s_ANY)] []))
  refine own_step (fun _ k => XS.iconst X2.here hx rfl (hb hby own_d10_18) k) ?_
  show own_Fin p e below s _ _ _ (T2.setTop (mkF m 19 #[.val (.ref s_ANY)] [(.int (0 : Int32))]))
  exact own_ret X2 hlk (v := some (.int (0 : Int32))) (fun h => by rw [Bd.returns] at h; cases h) (by decide) (by decide) (by show own_Q10 Z s_ANY s_ONE s_ONE_OR_MORE h0 n0 _ T2.heap _; rw [e2]; exact ⟨rfl, N0, rfl⟩) (fun fs hr => retN X2 hx (t := .boolean) Bd.returns (by simp) (hb hby own_d10_19) hr)

theorem own_d11_0 : decode prog_56_method_4_code 0 = .ok (.aload_n 0, 1) := by decide +kernel
theorem own_d11_1 : decode prog_56_method_4_code 1 = .ok (.getstatic 3, 3) := by decide +kernel
theorem own_d11_4 : decode prog_56_method_4_code 4 = .ok (.if_acmp .eq 10, 3) := by decide +kernel
theorem own_d11_7 : decode prog_56_method_4_code 7 = .ok (.aload_n 0, 1) := by decide +kernel
theorem own_d11_8 : decode prog_56_method_4_code 8 = .ok (.getstatic 13, 3) := by decide +kernel
theorem own_d11_11 : decode prog_56_method_4_code 11 = .ok (.if_acmp .ne 7, 3) := by decide +kernel
theorem own_d11_18 : decode prog_56_method_4_code 18 = .ok (.iconst 0, 1) := by decide +kernel
theorem own_d11_19 : decode prog_56_method_4_code 19 = .ok (.ireturn, 1) := by decide +kernel
theorem own_ef11 (m : MethodId) (s_NONE_OR_ONE : Addr) : entryFrame m #[(.ref s_NONE_OR_ONE)] 1 = mkF m 0 #[.val (.ref s_NONE_OR_ONE)] [] := by first | (simp [entryFrame, mkF, argsToLocals, Value.category]; done) | rfl
def own_Q11 (Z : State) (s_NONE_OR_ONE : Addr) (s_ONE : Addr) (s_ONE_OR_MORE : Addr) (h0 : Heap) (n0 : Nat) (v : Option Value) (h : Heap) (L : List Loc) : Prop := v = some (.int (0 : Int32)) ∧ Fr n0 L ∧ h = h0
set_option maxRecDepth 65536 in
set_option maxHeartbeats 40000000 in
theorem own_rm11 (l : Launch) (Z : State) (a0 : Array Value) (hw : ∀ d ∈ tables_1, d.before a0 Z = true) (ws : List Jvm.Cond) (s_NONE_OR_ONE : Addr) (s_ONE : Addr) (s_ONE_OR_MORE : Addr) (h0 : Heap) (n0 : Nat) (Z0 : n0 ≤ h0.size) (S_ONE : Sta Z h0 "com/example/mortise/mortise/model/ParameterDef$Multiplicity" "ONE" "Lcom/example/mortise/mortise/model/ParameterDef$Multiplicity;" (.ref s_ONE)) (ne_s_NONE_OR_ONE_s_ONE : s_NONE_OR_ONE ≠ s_ONE) (S_ONE_OR_MORE : Sta Z h0 "com/example/mortise/mortise/model/ParameterDef$Multiplicity" "ONE_OR_MORE" "Lcom/example/mortise/mortise/model/ParameterDef$Multiplicity;" (.ref s_ONE_OR_MORE)) (ne_s_NONE_OR_ONE_s_ONE_OR_MORE : s_NONE_OR_ONE ≠ s_ONE_OR_MORE) :
    MetFree l (⟨"com/example/mortise/mortise/model/ParameterDef$Multiplicity", "required", "()Z"⟩ : MethodName) (head1 (Jvm.Cond.code (⟨"com/example/mortise/mortise/model/ParameterDef$Multiplicity", "required", "()Z"⟩ : MethodName) prog_56_method_4_code 1 (some .boolean) :: ws) ({ frames := 0, cells := 0, slots := 0, locals := 0 } : Room)) (fun a U => a = #[(.ref s_NONE_OR_ONE)] ∧ Z.Warmed39 U.vm ∧ U.heap = h0) (fun _ _ _ _ _ => True) (fun _ U o U' => ∃ v L, o = .returned v ∧ own_Q11 Z s_NONE_OR_ONE s_ONE s_ONE_OR_MORE h0 n0 v U'.heap L ∧ FrameEnd U o U' L ({ frames := 0, cells := 0, slots := 0, locals := 0 } : Room).cells ({ frames := 0, cells := 0, slots := 0, locals := 0 } : Room).slots) := by
  refine MetFree.of_bodySF (plainFor_of_name own_pn1) hisR ?_
  intro p e s m args below meth c s₁ Bd hml0 hP hK
  obtain ⟨rfl, hZ, hh⟩ := hP
  have hx := Bd.exec
  have hby := Bd.bytes
  have hlk := Bd.notSynchronized
  have hml : c.maxLocals = 1 := hml0
  have hown : s.vm.findClass "com/example/mortise/mortise/model/ParameterDef$Multiplicity" = some m.cls := findClass_of_methodNamed Bd.named
  have hnm := (name_of_methodNamed Bd.named Bd.method).1
  have X0 : Stand p l e ({ frames := 0, cells := 0, slots := 0, locals := 0 } : Room) s m #[(.ref s_NONE_OR_ONE)] below meth c s₁ [] 0 0 := Stand.of_body Bd
  have e0 : s₁.heap = h0 := by rw [← hh, Bd.state]; rfl
  have N0 := Fr.nil n0
  have KR : Keep h0 h0 [] := Keep.refl _ _
  show own_Fin p e below s ({ frames := 0, cells := 0, slots := 0, locals := 0 } : Room).cells ({ frames := 0, cells := 0, slots := 0, locals := 0 } : Room).slots (own_Q11 Z s_NONE_OR_ONE s_ONE s_ONE_OR_MORE h0 n0) (s₁.setTop (entryFrame m #[(.ref s_NONE_OR_ONE)] 1))
  refine own_cast (own_ef11 m s_NONE_OR_ONE) ?_
  refine own_step (fun _ k => XS.aloadN X0.here hx rfl (hb hby own_d11_0) rfl rfl k) ?_
  show own_Fin p e below s _ _ _ (s₁.setTop (mkF m 1 #[.val (.ref s_NONE_OR_ONE)] [(.ref s_NONE_OR_ONE)]))
  obtain ⟨T1, X1, e1, st1⟩ := getS2 X0 hx hZ hown (host := "") (Or.inl (own_w hw 15 rfl)) Via.refl e0 S_ONE (g := (mkF m 1 #[.val (.ref s_NONE_OR_ONE)] [(.ref s_NONE_OR_ONE)])) rfl (hb hby own_d11_1)
  refine own_step st1 ?_
  show own_Fin p e below s _ _ _ (T1.setTop (mkF m 4 #[.val (.ref s_NONE_OR_ONE)] [(.ref s_ONE), (.ref s_NONE_OR_ONE)]))
  refine own_step (fun _ k => Jvm.RoadKit.acmp (g := (mkF m 4 #[.val (.ref s_NONE_OR_ONE)] [(.ref s_ONE), (.ref s_NONE_OR_ONE)])) X1 hx rfl rfl rfl (pc0 := 4) (pc' := 7) (same := false) rfl (hb hby own_d11_4) rfl (decide_eq_false fun q => ne_s_NONE_OR_ONE_s_ONE (Value.ref.inj q)) (by decide) (by decide) k) ?_
  show own_Fin p e below s _ _ _ (T1.setTop (mkF m 7 #[.val (.ref s_NONE_OR_ONE)] []))
  refine own_step (fun _ k => XS.aloadN X1.here hx rfl (hb hby own_d11_7) rfl rfl k) ?_
  show own_Fin p e below s _ _ _ (T1.setTop (mkF m 8 #[.val (.ref s_NONE_OR_ONE)] [(.ref s_NONE_OR_ONE)]))
  obtain ⟨T2, X2, e2, st2⟩ := getS2 X1 hx hZ hown (host := "") (Or.inl (own_w hw 18 rfl)) Via.refl e1 S_ONE_OR_MORE (g := (mkF m 8 #[.val (.ref s_NONE_OR_ONE)] [(.ref s_NONE_OR_ONE)])) rfl (hb hby own_d11_8)
  refine own_step st2 ?_
  show own_Fin p e below s _ _ _ (T2.setTop (mkF m 11 #[.val (.ref s_NONE_OR_ONE)] [(.ref s_ONE_OR_MORE), (.ref s_NONE_OR_ONE)]))
  refine own_step (fun _ k => Jvm.RoadKit.acmp (g := (mkF m 11 #[.val (.ref s_NONE_OR_ONE)] [(.ref s_ONE_OR_MORE), (.ref s_NONE_OR_ONE)])) X2 hx rfl rfl rfl (pc0 := 11) (pc' := 18) (same := false) rfl (hb hby own_d11_11) rfl (decide_eq_false fun q => ne_s_NONE_OR_ONE_s_ONE_OR_MORE (Value.ref.inj q)) (by decide) (by decide) k) ?_
  show own_Fin p e below s _ _ _ (T2.setTop (mkF m 18 #[.val (.ref s_NONE_OR_ONE)] []))
  refine own_step (fun _ k => XS.iconst X2.here hx rfl (hb hby own_d11_18) k) ?_
  show own_Fin p e below s _ _ _ (T2.setTop (mkF m 19 #[.val (.ref s_NONE_OR_ONE)] [(.int (0 : Int32))]))
  exact own_ret X2 hlk (v := some (.int (0 : Int32))) (fun h => by rw [Bd.returns] at h; cases h) (by decide) (by decide) (by show own_Q11 Z s_NONE_OR_ONE s_ONE s_ONE_OR_MORE h0 n0 _ T2.heap _; rw [e2]; exact ⟨rfl, N0, rfl⟩) (fun fs hr => retN X2 hx (t := .boolean) Bd.returns (by simp) (hb hby own_d11_19) hr)

theorem own_d12_0 : decode prog_56_method_4_code 0 = .ok (.aload_n 0, 1) := by decide +kernel
theorem own_d12_1 : decode prog_56_method_4_code 1 = .ok (.getstatic 3, 3) := by decide +kernel
theorem own_d12_4 : decode prog_56_method_4_code 4 = .ok (.if_acmp .eq 10, 3) := by decide +kernel
theorem own_d12_7 : decode prog_56_method_4_code 7 = .ok (.aload_n 0, 1) := by decide +kernel
theorem own_d12_8 : decode prog_56_method_4_code 8 = .ok (.getstatic 13, 3) := by decide +kernel
theorem own_d12_11 : decode prog_56_method_4_code 11 = .ok (.if_acmp .ne 7, 3) := by decide +kernel
theorem own_d12_14 : decode prog_56_method_4_code 14 = .ok (.iconst 1, 1) := by decide +kernel
theorem own_d12_15 : decode prog_56_method_4_code 15 = .ok (.goto 4, 3) := by decide +kernel
theorem own_d12_19 : decode prog_56_method_4_code 19 = .ok (.ireturn, 1) := by decide +kernel
theorem own_ef12 (m : MethodId) (s_ONE_OR_MORE : Addr) : entryFrame m #[(.ref s_ONE_OR_MORE)] 1 = mkF m 0 #[.val (.ref s_ONE_OR_MORE)] [] := by first | (simp [entryFrame, mkF, argsToLocals, Value.category]; done) | rfl
def own_Q12 (Z : State) (s_ONE_OR_MORE : Addr) (s_ONE : Addr) (h0 : Heap) (n0 : Nat) (v : Option Value) (h : Heap) (L : List Loc) : Prop := v = some (.int (1 : Int32)) ∧ Fr n0 L ∧ h = h0
set_option maxRecDepth 65536 in
set_option maxHeartbeats 40000000 in
theorem own_rm12 (l : Launch) (Z : State) (a0 : Array Value) (hw : ∀ d ∈ tables_1, d.before a0 Z = true) (ws : List Jvm.Cond) (s_ONE_OR_MORE : Addr) (s_ONE : Addr) (h0 : Heap) (n0 : Nat) (Z0 : n0 ≤ h0.size) (S_ONE : Sta Z h0 "com/example/mortise/mortise/model/ParameterDef$Multiplicity" "ONE" "Lcom/example/mortise/mortise/model/ParameterDef$Multiplicity;" (.ref s_ONE)) (ne_s_ONE_OR_MORE_s_ONE : s_ONE_OR_MORE ≠ s_ONE) (S_ONE_OR_MORE : Sta Z h0 "com/example/mortise/mortise/model/ParameterDef$Multiplicity" "ONE_OR_MORE" "Lcom/example/mortise/mortise/model/ParameterDef$Multiplicity;" (.ref s_ONE_OR_MORE)) :
    MetFree l (⟨"com/example/mortise/mortise/model/ParameterDef$Multiplicity", "required", "()Z"⟩ : MethodName) (head1 (Jvm.Cond.code (⟨"com/example/mortise/mortise/model/ParameterDef$Multiplicity", "required", "()Z"⟩ : MethodName) prog_56_method_4_code 1 (some .boolean) :: ws) ({ frames := 0, cells := 0, slots := 0, locals := 0 } : Room)) (fun a U => a = #[(.ref s_ONE_OR_MORE)] ∧ Z.Warmed39 U.vm ∧ U.heap = h0) (fun _ _ _ _ _ => True) (fun _ U o U' => ∃ v L, o = .returned v ∧ own_Q12 Z s_ONE_OR_MORE s_ONE h0 n0 v U'.heap L ∧ FrameEnd U o U' L ({ frames := 0, cells := 0, slots := 0, locals := 0 } : Room).cells ({ frames := 0, cells := 0, slots := 0, locals := 0 } : Room).slots) := by
  refine MetFree.of_bodySF (plainFor_of_name own_pn1) hisR ?_
  intro p e s m args below meth c s₁ Bd hml0 hP hK
  obtain ⟨rfl, hZ, hh⟩ := hP
  have hx := Bd.exec
  have hby := Bd.bytes
  have hlk := Bd.notSynchronized
  have hml : c.maxLocals = 1 := hml0
  have hown : s.vm.findClass "com/example/mortise/mortise/model/ParameterDef$Multiplicity" = some m.cls := findClass_of_methodNamed Bd.named
  have hnm := (name_of_methodNamed Bd.named Bd.method).1
  have X0 : Stand p l e ({ frames := 0, cells := 0, slots := 0, locals := 0 } : Room) s m #[(.ref s_ONE_OR_MORE)] below meth c s₁ [] 0 0 := Stand.of_body Bd
  have e0 : s₁.heap = h0 := by rw [← hh, Bd.state]; rfl
  have N0 := Fr.nil n0
  have KR : Keep h0 h0 [] := Keep.refl _ _
  show own_Fin p e below s ({ frames := 0, cells := 0, slots := 0, locals := 0 } : Room).cells ({ frames := 0, cells := 0, slots := 0, locals := 0 } : Room).slots (own_Q12 Z s_ONE_OR_MORE s_ONE h0 n0) (s₁.setTop (entryFrame m #[(.ref s_ONE_OR_MORE)] 1))
  refine own_cast (own_ef12 m s_ONE_OR_MORE) ?_
  refine own_step (fun _ k => XS.aloadN X0.here hx rfl (hb hby own_d12_0) rfl rfl k) ?_
  show own_Fin p e below s _ _ _ (s₁.setTop (mkF m 1 #[.val (.ref s_ONE_OR_MORE)] [(.ref s_ONE_OR_MORE)]))
  obtain ⟨T1, X1, e1, st1⟩ := getS2 X0 hx hZ hown (host := "") (Or.inl (own_w hw 15 rfl)) Via.refl e0 S_ONE (g := (mkF m 1 #[.val (.ref s_ONE_OR_MORE)] [(.ref s_ONE_OR_MORE)])) rfl (hb hby own_d12_1)
  refine own_step st1 ?_
  show own_Fin p e below s _ _ _ (T1.setTop (mkF m 4 #[.val (.ref s_ONE_OR_MORE)] [(.ref s_ONE), (.ref s_ONE_OR_MORE)]))
  refine own_step (fun _ k => Jvm.RoadKit.acmp (g := (mkF m 4 #[.val (.ref s_ONE_OR_MORE)] [(.ref s_ONE), (.ref s_ONE_OR_MORE)])) X1 hx rfl rfl rfl (pc0 := 4) (pc' := 7) (same := false) rfl (hb hby own_d12_4) rfl (decide_eq_false fun q => ne_s_ONE_OR_MORE_s_ONE (Value.ref.inj q)) (by decide) (by decide) k) ?_
  show own_Fin p e below s _ _ _ (T1.setTop (mkF m 7 #[.val (.ref s_ONE_OR_MORE)] []))
  refine own_step (fun _ k => XS.aloadN X1.here hx rfl (hb hby own_d12_7) rfl rfl k) ?_
  show own_Fin p e below s _ _ _ (T1.setTop (mkF m 8 #[.val (.ref s_ONE_OR_MORE)] [(.ref s_ONE_OR_MORE)]))
  obtain ⟨T2, X2, e2, st2⟩ := getS2 X1 hx hZ hown (host := "") (Or.inl (own_w hw 18 rfl)) Via.refl e1 S_ONE_OR_MORE (g := (mkF m 8 #[.val (.ref s_ONE_OR_MORE)] [(.ref s_ONE_OR_MORE)])) rfl (hb hby own_d12_8)
  refine own_step st2 ?_
  show own_Fin p e below s _ _ _ (T2.setTop (mkF m 11 #[.val (.ref s_ONE_OR_MORE)] [(.ref s_ONE_OR_MORE), (.ref s_ONE_OR_MORE)]))
  refine own_step (fun _ k => Jvm.RoadKit.acmp (g := (mkF m 11 #[.val (.ref s_ONE_OR_MORE)] [(.ref s_ONE_OR_MORE), (.ref s_ONE_OR_MORE)])) X2 hx rfl rfl rfl (pc0 := 11) (pc' := 14) (same := true) rfl (hb hby own_d12_11) rfl (decide_eq_true rfl) (by decide) (by decide) k) ?_
  show own_Fin p e below s _ _ _ (T2.setTop (mkF m 14 #[.val (.ref s_ONE_OR_MORE)] []))
  refine own_step (fun _ k => XS.iconst X2.here hx rfl (hb hby own_d12_14) k) ?_
  show own_Fin p e below s _ _ _ (T2.setTop (mkF m 15 #[.val (.ref s_ONE_OR_MORE)] [(.int (1 : Int32))]))
  refine own_step (fun _ k => XS.goto X2.here hx rfl (pc0 := 15) (pc' := 19) rfl (hb hby own_d12_15) (by decide) (by decide) k) ?_
  show own_Fin p e below s _ _ _ (T2.setTop (mkF m 19 #[.val (.ref s_ONE_OR_MORE)] [(.int (1 : Int32))]))
  exact own_ret X2 hlk (v := some (.int (1 : Int32))) (fun h => by rw [Bd.returns] at h; cases h) (by decide) (by decide) (by show own_Q12 Z s_ONE_OR_MORE s_ONE h0 n0 _ T2.heap _; rw [e2]; exact ⟨rfl, N0, rfl⟩) (fun fs hr => retN X2 hx (t := .boolean) Bd.returns (by simp) (hb hby own_d12_19) hr)

theorem own_pd0 : parseMethodDescriptor "(I)Lcom/example/mortise/mortise/model/ParameterDef$Multiplicity;" = some ⟨[.int], some (.object "com/example/mortise/mortise/model/ParameterDef$Multiplicity")⟩ := by decide +kernel
abbrev own_y0 : MethodName := (⟨"com/example/mortise/mortise/model/MultiplicityRequiredPinLaw", "pick", "(I)Lcom/example/mortise/mortise/model/ParameterDef$Multiplicity;"⟩ : MethodName)
theorem own_pd1 : parseMethodDescriptor "(I)I" = some ⟨[.int], some .int⟩ := by decide +kernel
abbrev own_y1 : MethodName := (⟨"com/example/mortise/mortise/model/MultiplicityRequiredPinLaw", "fewest", "(I)I"⟩ : MethodName)
theorem own_pd2 : parseMethodDescriptor "()Z" = some ⟨[], some .boolean⟩ := by decide +kernel
abbrev own_y2 : MethodName := (⟨"com/example/mortise/mortise/model/ParameterDef$Multiplicity", "required", "()Z"⟩ : MethodName)
theorem own_ef13 (m : MethodId) (p0 : Int32) : entryFrame m #[(.int p0)] maxLocals = mkF m 0 #[.val (.int p0), .unset, .unset, .unset] [] := by first | (simp [entryFrame, mkF, argsToLocals, Value.category, maxLocals]; done) | rfl
def own_Q13 (Z : State) (p0 : Int32) (s_ONE : Addr) (s_ANY : Addr) (s_ONE_OR_MORE : Addr) (s_NONE_OR_ONE : Addr) (h0 : Heap) (n0 : Nat) (v : Option Value) (h : Heap) (L : List Loc) : Prop := v = some (.int 1) ∧ Fr n0 L
set_option maxRecDepth 65536 in
set_option maxHeartbeats 40000000 in
theorem own_rm13 (l : Launch) (Z : State) (a0 : Array Value) (hw : ∀ d ∈ tables_1, d.before a0 Z = true) (ws : List Jvm.Cond) (p0 : Int32) (s_ONE : Addr) (s_ANY : Addr) (s_ONE_OR_MORE : Addr) (s_NONE_OR_ONE : Addr) (h0 : Heap) (n0 : Nat) (Z0 : n0 ≤ h0.size) (S_ONE : Sta Z h0 "com/example/mortise/mortise/model/ParameterDef$Multiplicity" "ONE" "Lcom/example/mortise/mortise/model/ParameterDef$Multiplicity;" (.ref s_ONE)) (E_s_ONE : Exa Z h0 s_ONE "com/example/mortise/mortise/model/ParameterDef$Multiplicity") (S_ANY : Sta Z h0 "com/example/mortise/mortise/model/ParameterDef$Multiplicity" "ANY" "Lcom/example/mortise/mortise/model/ParameterDef$Multiplicity;" (.ref s_ANY)) (E_s_ANY : Exa Z h0 s_ANY "com/example/mortise/mortise/model/ParameterDef$Multiplicity") (S_ONE_OR_MORE : Sta Z h0 "com/example/mortise/mortise/model/ParameterDef$Multiplicity" "ONE_OR_MORE" "Lcom/example/mortise/mortise/model/ParameterDef$Multiplicity;" (.ref s_ONE_OR_MORE)) (ne_s_ANY_s_ONE : s_ANY ≠ s_ONE) (ne_s_ANY_s_ONE_OR_MORE : s_ANY ≠ s_ONE_OR_MORE) (S_NONE_OR_ONE : Sta Z h0 "com/example/mortise/mortise/model/ParameterDef$Multiplicity" "NONE_OR_ONE" "Lcom/example/mortise/mortise/model/ParameterDef$Multiplicity;" (.ref s_NONE_OR_ONE)) (E_s_NONE_OR_ONE : Exa Z h0 s_NONE_OR_ONE "com/example/mortise/mortise/model/ParameterDef$Multiplicity") (ne_s_NONE_OR_ONE_s_ONE : s_NONE_OR_ONE ≠ s_ONE) (ne_s_NONE_OR_ONE_s_ONE_OR_MORE : s_NONE_OR_ONE ≠ s_ONE_OR_MORE) (E_s_ONE_OR_MORE : Exa Z h0 s_ONE_OR_MORE "com/example/mortise/mortise/model/ParameterDef$Multiplicity") (ne_s_ONE_OR_MORE_s_ONE : s_ONE_OR_MORE ≠ s_ONE) :
    MetFree l x (head1 (Jvm.Cond.code x code maxLocals ret :: ws) room_1) (fun a U => a = #[(.int p0)] ∧ Z.Warmed39 U.vm ∧ U.heap = h0) (fun _ _ _ _ _ => True) (fun _ U o U' => ∃ v L, o = .returned v ∧ own_Q13 Z p0 s_ONE s_ANY s_ONE_OR_MORE s_NONE_OR_ONE h0 n0 v U'.heap L ∧ FrameEnd U o U' L room_1.cells room_1.slots) := by
  refine MetFree.of_bodySF (plainFor_of_name own_pn0) hisR ?_
  intro p e s m args below meth c s₁ Bd hml0 hP hK
  obtain ⟨rfl, hZ, hh⟩ := hP
  have hx := Bd.exec
  have hby := Bd.bytes
  have hlk := Bd.notSynchronized
  have hml : c.maxLocals = 4 := hml0
  have hown : s.vm.findClass "com/example/mortise/mortise/model/MultiplicityRequiredPinLaw" = some m.cls := findClass_of_methodNamed Bd.named
  have hnm := (name_of_methodNamed Bd.named Bd.method).1
  have X0 : Stand p l e room_1 s m #[(.int p0)] below meth c s₁ [] 0 0 := Stand.of_body Bd
  have e0 : s₁.heap = h0 := by rw [← hh, Bd.state]; rfl
  have N0 := Fr.nil n0
  have KR : Keep h0 h0 [] := Keep.refl _ _
  show own_Fin p e below s room_1.cells room_1.slots (own_Q13 Z p0 s_ONE s_ANY s_ONE_OR_MORE s_NONE_OR_ONE h0 n0) (s₁.setTop (entryFrame m #[(.int p0)] maxLocals))
  refine own_cast (own_ef13 m p0) ?_
  refine own_step (fun _ k => XS.iloadN X0.here hx rfl (hb hby at_0) rfl k) ?_
  show own_Fin p e below s _ _ _ (s₁.setTop (mkF m 1 #[.val (.int p0), .unset, .unset, .unset] [(.int p0)]))
  refine own_step (fun _ k => XS.iconst X0.here hx rfl (hb hby at_1) k) ?_
  show own_Fin p e below s _ _ _ (s₁.setTop (mkF m 2 #[.val (.int p0), .unset, .unset, .unset] [(.int (3 : Int32)), (.int p0)]))
  refine own_step (fun _ k => XS.iand X0.here hx rfl (hb hby at_2) rfl k) ?_
  show own_Fin p e below s _ _ _ (s₁.setTop (mkF m 3 #[.val (.int p0), .unset, .unset, .unset] [(.int (p0 &&& (3 : Int32)))]))
  refine own_step (fun _ k => XS.istoreN X0.here hx rfl (hb hby at_3) rfl (l' := #[.val (.int p0), .val (.int (p0 &&& (3 : Int32))), .unset, .unset]) rfl k) ?_
  show own_Fin p e below s _ _ _ (s₁.setTop (mkF m 4 #[.val (.int p0), .val (.int (p0 &&& (3 : Int32))), .unset, .unset] []))
  rcases own_k p0 with hk1 | hk2 | hk3 | hk4
  · rw [hk1]
    show own_Fin p e below s _ _ _ (s₁.setTop (mkF m 4 #[.val (.int p0), .val (.int (0 : Int32)), .unset, .unset] []))
    refine own_step (fun _ k => XS.iloadN X0.here hx rfl (hb hby at_4) rfl k) ?_
    show own_Fin p e below s _ _ _ (s₁.setTop (mkF m 5 #[.val (.int p0), .val (.int (0 : Int32)), .unset, .unset] [(.int (0 : Int32))]))
    obtain ⟨_, _, ⟨T5, L5, k5, n5⟩, -, X5, ⟨Lc5, hQ5, l5, y5, z5⟩, st5⟩ := Jvm.LawKit.callS X0 hx (y := own_y0) hown (mvT hZ (own_w hw 0 rfl)) (mvT hZ (own_w hw 1 rfl)) (mvT hZ (own_w hw 2 rfl)) (mvT hZ (own_w hw 3 rfl)) (by decide) (backOf (W := 0) (own_rm1 l Z a0 hw [] s_ONE h0 n0 Z0 S_ONE) hZ (own_w hw 3 rfl) (own_w hw 2 rfl) (by decide) (by decide)) (g := (mkF m 5 #[.val (.int p0), .val (.int (0 : Int32)), .unset, .unset] [(.int (0 : Int32))])) rfl (by rw [hml]; rfl) (argsL := [(.int (0 : Int32))]) (rest := []) (lenOf own_pd0 rfl) rfl (by show 2 * 0 + _ ≤ _; exact Nat.le_of_eq rfl) (hb hby at_5) (fun _ _ => ⟨rfl, e0, (by decide : 0 + 0 ≤ _), (by decide : 0 + 0 ≤ _)⟩)
    dsimp only [Pt.U, Pt.locs, Pt.cells, Pt.slots] at X5 l5 y5 z5 st5 hQ5
    subst l5 y5 z5
    obtain ⟨rfl, N5q, e5⟩ := hQ5
    have N5 := Fr.app N0 N5q
    refine own_step (fun _ k => st5 _ k) ?_
    show own_Fin p e below s _ _ _ (T5.setTop (mkF m 8 #[.val (.int p0), .val (.int (0 : Int32)), .unset, .unset] [(.ref s_ONE)]))
    refine own_step (fun _ k => XS.astoreN X5.here hx rfl (hb hby at_8) rfl rfl (l' := #[.val (.int p0), .val (.int (0 : Int32)), .val (.ref s_ONE), .unset]) rfl k) ?_
    show own_Fin p e below s _ _ _ (T5.setTop (mkF m 9 #[.val (.int p0), .val (.int (0 : Int32)), .val (.ref s_ONE), .unset] []))
    refine own_step (fun _ k => XS.iloadN X5.here hx rfl (hb hby at_9) rfl k) ?_
    show own_Fin p e below s _ _ _ (T5.setTop (mkF m 10 #[.val (.int p0), .val (.int (0 : Int32)), .val (.ref s_ONE), .unset] [(.int (0 : Int32))]))
    obtain ⟨_, _, ⟨T6, L6, k6, n6⟩, -, X6, ⟨Lc6, hQ6, l6, y6, z6⟩, st6⟩ := Jvm.LawKit.callS X5 hx (y := own_y1) hown (mvT hZ (own_w hw 7 rfl)) (mvT hZ (own_w hw 8 rfl)) (mvT hZ (own_w hw 2 rfl)) (mvT hZ (own_w hw 9 rfl)) (by decide) (backOf (W := 0) (own_rm5 l Z a0 hw []  h0 n0 Z0 ) hZ (own_w hw 9 rfl) (own_w hw 2 rfl) (by decide) (by decide)) (g := (mkF m 10 #[.val (.int p0), .val (.int (0 : Int32)), .val (.ref s_ONE), .unset] [(.int (0 : Int32))])) rfl (by rw [hml]; rfl) (argsL := [(.int (0 : Int32))]) (rest := []) (lenOf own_pd1 rfl) rfl (by show 2 * 0 + _ ≤ _; exact Nat.le_of_eq rfl) (hb hby at_10) (fun _ _ => ⟨rfl, e5, (by decide : 0 + 0 ≤ _), (by decide : 0 + 0 ≤ _)⟩)
    dsimp only [Pt.U, Pt.locs, Pt.cells, Pt.slots] at X6 l6 y6 z6 st6 hQ6
    subst l6 y6 z6
    obtain ⟨rfl, N6q, e6⟩ := hQ6
    have N6 := Fr.app N5 N6q
    refine own_step (fun _ k => st6 _ k) ?_
    show own_Fin p e below s _ _ _ (T6.setTop (mkF m 13 #[.val (.int p0), .val (.int (0 : Int32)), .val (.ref s_ONE), .unset] [(.int (1 : Int32))]))
    refine own_step (fun _ k => XS.iconst X6.here hx rfl (hb hby at_13) k) ?_
    show own_Fin p e below s _ _ _ (T6.setTop (mkF m 14 #[.val (.int p0), .val (.int (0 : Int32)), .val (.ref s_ONE), .unset] [(.int (1 : Int32)), (.int (1 : Int32))]))
    refine own_step (fun _ k => XS.icmpNo X6.here hx rfl (hb hby at_14) rfl (flt (by decide : ¬ ((1 : Int32) < (1 : Int32)))).1 k) ?_
    show own_Fin p e below s _ _ _ (T6.setTop (mkF m 17 #[.val (.int p0), .val (.int (0 : Int32)), .val (.ref s_ONE), .unset] []))
    refine own_step (fun _ k => XS.iconst X6.here hx rfl (hb hby at_17) k) ?_
    show own_Fin p e below s _ _ _ (T6.setTop (mkF m 18 #[.val (.int p0), .val (.int (0 : Int32)), .val (.ref s_ONE), .unset] [(.int (1 : Int32))]))
    refine own_step (fun _ k => XS.goto X6.here hx rfl (pc0 := 18) (pc' := 22) rfl (hb hby at_18) (by decide) (by decide) k) ?_
    show own_Fin p e below s _ _ _ (T6.setTop (mkF m 22 #[.val (.int p0), .val (.int (0 : Int32)), .val (.ref s_ONE), .unset] [(.int (1 : Int32))]))
    refine own_step (fun _ k => XS.istoreN X6.here hx rfl (hb hby at_22) rfl (l' := #[.val (.int p0), .val (.int (0 : Int32)), .val (.ref s_ONE), .val (.int (1 : Int32))]) rfl k) ?_
    show own_Fin p e below s _ _ _ (T6.setTop (mkF m 23 #[.val (.int p0), .val (.int (0 : Int32)), .val (.ref s_ONE), .val (.int (1 : Int32))] []))
    refine own_step (fun _ k => XS.aloadN X6.here hx rfl (hb hby at_23) rfl rfl k) ?_
    show own_Fin p e below s _ _ _ (T6.setTop (mkF m 24 #[.val (.int p0), .val (.int (0 : Int32)), .val (.ref s_ONE), .val (.int (1 : Int32))] [(.ref s_ONE)]))
    obtain ⟨cq7, kq7, q7a, q7b, q7c⟩ := isOf hZ e6 E_s_ONE
    obtain ⟨_, _, ⟨T7, L7, k7, n7⟩, -, X7, ⟨Lc7, hQ7, l7, y7, z7⟩, st7⟩ := X6.virtualBack hx (y := own_y2) (z := own_y2) hown (mvT hZ (own_w hw 10 rfl)) (mvT hZ (own_w hw 11 rfl)) (notFace_of_selects (args := #[]) (mvT hZ (own_w hw 13 rfl))) (mvT hZ (own_w hw 13 rfl)) (mvT hZ (own_w hw 12 rfl)) (by decide) (backOf (W := 0) (own_rm9 l Z a0 hw [] s_ONE h0 n0 Z0 S_ONE) hZ (own_w hw 14 rfl) (own_w hw 5 rfl) (by decide) (by decide)) q7a q7c (g := (mkF m 24 #[.val (.int p0), .val (.int (0 : Int32)), .val (.ref s_ONE), .val (.int (1 : Int32))] [(.ref s_ONE)])) rfl (by rw [hml]; rfl) (Steps.refl _) (argsL := []) (rest := []) (lenOf own_pd2 rfl) rfl (by show 2 * 0 + _ ≤ _; exact Nat.le_of_eq rfl) (hb hby at_24) (fun _ _ => ⟨rfl, e6, (by decide : 0 + 0 ≤ _), (by decide : 0 + 0 ≤ _)⟩)
    dsimp only [Pt.U, Pt.locs, Pt.cells, Pt.slots] at X7 l7 y7 z7 st7 hQ7
    subst l7 y7 z7
    obtain ⟨rfl, N7q, e7⟩ := hQ7
    have N7 := Fr.app N6 N7q
    refine own_step (fun _ k => st7.trans k) ?_
    show own_Fin p e below s _ _ _ (T7.setTop (mkF m 27 #[.val (.int p0), .val (.int (0 : Int32)), .val (.ref s_ONE), .val (.int (1 : Int32))] [(.int (1 : Int32))]))
    refine own_step (fun _ k => XS.iloadN X7.here hx rfl (hb hby at_27) rfl k) ?_
    show own_Fin p e below s _ _ _ (T7.setTop (mkF m 28 #[.val (.int p0), .val (.int (0 : Int32)), .val (.ref s_ONE), .val (.int (1 : Int32))] [(.int (1 : Int32)), (.int (1 : Int32))]))
    refine own_step (fun _ k => XS.icmpNo X7.here hx rfl (hb hby at_28) rfl (teq (by decide : (1 : Int32) = (1 : Int32))).2 k) ?_
    show own_Fin p e below s _ _ _ (T7.setTop (mkF m 31 #[.val (.int p0), .val (.int (0 : Int32)), .val (.ref s_ONE), .val (.int (1 : Int32))] []))
    refine own_step (fun _ k => XS.iconst X7.here hx rfl (hb hby at_31) k) ?_
    show own_Fin p e below s _ _ _ (T7.setTop (mkF m 32 #[.val (.int p0), .val (.int (0 : Int32)), .val (.ref s_ONE), .val (.int (1 : Int32))] [(.int (1 : Int32))]))
    refine own_step (fun _ k => XS.goto X7.here hx rfl (pc0 := 32) (pc' := 36) rfl (hb hby at_32) (by decide) (by decide) k) ?_
    show own_Fin p e below s _ _ _ (T7.setTop (mkF m 36 #[.val (.int p0), .val (.int (0 : Int32)), .val (.ref s_ONE), .val (.int (1 : Int32))] [(.int (1 : Int32))]))
    exact own_ret X7 hlk (v := some (.int (1 : Int32))) (fun h => by rw [Bd.returns] at h; cases h) (by decide) (by decide) (by show own_Q13 Z p0 s_ONE s_ANY s_ONE_OR_MORE s_NONE_OR_ONE h0 n0 _ T7.heap _; rw [e7]; exact ⟨rfl, N7⟩) (fun fs hr => retN X7 hx (t := .boolean) Bd.returns (by simp) (hb hby at_36) hr)
  · rw [hk2]
    show own_Fin p e below s _ _ _ (s₁.setTop (mkF m 4 #[.val (.int p0), .val (.int (1 : Int32)), .unset, .unset] []))
    refine own_step (fun _ k => XS.iloadN X0.here hx rfl (hb hby at_4) rfl k) ?_
    show own_Fin p e below s _ _ _ (s₁.setTop (mkF m 5 #[.val (.int p0), .val (.int (1 : Int32)), .unset, .unset] [(.int (1 : Int32))]))
    obtain ⟨_, _, ⟨T8, L8, k8, n8⟩, -, X8, ⟨Lc8, hQ8, l8, y8, z8⟩, st8⟩ := Jvm.LawKit.callS X0 hx (y := own_y0) hown (mvT hZ (own_w hw 0 rfl)) (mvT hZ (own_w hw 1 rfl)) (mvT hZ (own_w hw 2 rfl)) (mvT hZ (own_w hw 3 rfl)) (by decide) (backOf (W := 0) (own_rm2 l Z a0 hw [] s_ANY h0 n0 Z0 S_ANY) hZ (own_w hw 3 rfl) (own_w hw 2 rfl) (by decide) (by decide)) (g := (mkF m 5 #[.val (.int p0), .val (.int (1 : Int32)), .unset, .unset] [(.int (1 : Int32))])) rfl (by rw [hml]; rfl) (argsL := [(.int (1 : Int32))]) (rest := []) (lenOf own_pd0 rfl) rfl (by show 2 * 0 + _ ≤ _; exact Nat.le_of_eq rfl) (hb hby at_5) (fun _ _ => ⟨rfl, e0, (by decide : 0 + 0 ≤ _), (by decide : 0 + 0 ≤ _)⟩)
    dsimp only [Pt.U, Pt.locs, Pt.cells, Pt.slots] at X8 l8 y8 z8 st8 hQ8
    subst l8 y8 z8
    obtain ⟨rfl, N8q, e8⟩ := hQ8
    have N8 := Fr.app N0 N8q
    refine own_step (fun _ k => st8 _ k) ?_
    show own_Fin p e below s _ _ _ (T8.setTop (mkF m 8 #[.val (.int p0), .val (.int (1 : Int32)), .unset, .unset] [(.ref s_ANY)]))
    refine own_step (fun _ k => XS.astoreN X8.here hx rfl (hb hby at_8) rfl rfl (l' := #[.val (.int p0), .val (.int (1 : Int32)), .val (.ref s_ANY), .unset]) rfl k) ?_
    show own_Fin p e below s _ _ _ (T8.setTop (mkF m 9 #[.val (.int p0), .val (.int (1 : Int32)), .val (.ref s_ANY), .unset] []))
    refine own_step (fun _ k => XS.iloadN X8.here hx rfl (hb hby at_9) rfl k) ?_
    show own_Fin p e below s _ _ _ (T8.setTop (mkF m 10 #[.val (.int p0), .val (.int (1 : Int32)), .val (.ref s_ANY), .unset] [(.int (1 : Int32))]))
    obtain ⟨_, _, ⟨T9, L9, k9, n9⟩, -, X9, ⟨Lc9, hQ9, l9, y9, z9⟩, st9⟩ := Jvm.LawKit.callS X8 hx (y := own_y1) hown (mvT hZ (own_w hw 7 rfl)) (mvT hZ (own_w hw 8 rfl)) (mvT hZ (own_w hw 2 rfl)) (mvT hZ (own_w hw 9 rfl)) (by decide) (backOf (W := 0) (own_rm6 l Z a0 hw []  h0 n0 Z0 ) hZ (own_w hw 9 rfl) (own_w hw 2 rfl) (by decide) (by decide)) (g := (mkF m 10 #[.val (.int p0), .val (.int (1 : Int32)), .val (.ref s_ANY), .unset] [(.int (1 : Int32))])) rfl (by rw [hml]; rfl) (argsL := [(.int (1 : Int32))]) (rest := []) (lenOf own_pd1 rfl) rfl (by show 2 * 0 + _ ≤ _; exact Nat.le_of_eq rfl) (hb hby at_10) (fun _ _ => ⟨rfl, e8, (by decide : 0 + 0 ≤ _), (by decide : 0 + 0 ≤ _)⟩)
    dsimp only [Pt.U, Pt.locs, Pt.cells, Pt.slots] at X9 l9 y9 z9 st9 hQ9
    subst l9 y9 z9
    obtain ⟨rfl, N9q, e9⟩ := hQ9
    have N9 := Fr.app N8 N9q
    refine own_step (fun _ k => st9 _ k) ?_
    show own_Fin p e below s _ _ _ (T9.setTop (mkF m 13 #[.val (.int p0), .val (.int (1 : Int32)), .val (.ref s_ANY), .unset] [(.int (0 : Int32))]))
    refine own_step (fun _ k => XS.iconst X9.here hx rfl (hb hby at_13) k) ?_
    show own_Fin p e below s _ _ _ (T9.setTop (mkF m 14 #[.val (.int p0), .val (.int (1 : Int32)), .val (.ref s_ANY), .unset] [(.int (1 : Int32)), (.int (0 : Int32))]))
    refine own_step (fun _ k => XS.icmpYes X9.here hx rfl (pc0 := 14) (pc' := 21) rfl (hb hby at_14) rfl (tlt (by decide : (0 : Int32) < (1 : Int32))).1 (by decide) (by decide) k) ?_
    show own_Fin p e below s _ _ _ (T9.setTop (mkF m 21 #[.val (.int p0), .val (.int (1 : Int32)), .val (.ref s_ANY), .unset] []))
    refine own_step (fun _ k => XS.iconst X9.here hx rfl (hb hby at_21) k) ?_
    show own_Fin p e below s _ _ _ (T9.setTop (mkF m 22 #[.val (.int p0), .val (.int (1 : Int32)), .val (.ref s_ANY), .unset] [(.int (0 : Int32))]))
    refine own_step (fun _ k => XS.istoreN X9.here hx rfl (hb hby at_22) rfl (l' := #[.val (.int p0), .val (.int (1 : Int32)), .val (.ref s_ANY), .val (.int (0 : Int32))]) rfl k) ?_
    show own_Fin p e below s _ _ _ (T9.setTop (mkF m 23 #[.val (.int p0), .val (.int (1 : Int32)), .val (.ref s_ANY), .val (.int (0 : Int32))] []))
    refine own_step (fun _ k => XS.aloadN X9.here hx rfl (hb hby at_23) rfl rfl k) ?_
    show own_Fin p e below s _ _ _ (T9.setTop (mkF m 24 #[.val (.int p0), .val (.int (1 : Int32)), .val (.ref s_ANY), .val (.int (0 : Int32))] [(.ref s_ANY)]))
    obtain ⟨cq10, kq10, q10a, q10b, q10c⟩ := isOf hZ e9 E_s_ANY
    obtain ⟨_, _, ⟨T10, L10, k10, n10⟩, -, X10, ⟨Lc10, hQ10, l10, y10, z10⟩, st10⟩ := X9.virtualBack hx (y := own_y2) (z := own_y2) hown (mvT hZ (own_w hw 10 rfl)) (mvT hZ (own_w hw 11 rfl)) (notFace_of_selects (args := #[]) (mvT hZ (own_w hw 13 rfl))) (mvT hZ (own_w hw 13 rfl)) (mvT hZ (own_w hw 12 rfl)) (by decide) (backOf (W := 0) (own_rm10 l Z a0 hw [] s_ANY s_ONE s_ONE_OR_MORE h0 n0 Z0 S_ONE ne_s_ANY_s_ONE S_ONE_OR_MORE ne_s_ANY_s_ONE_OR_MORE) hZ (own_w hw 14 rfl) (own_w hw 5 rfl) (by decide) (by decide)) q10a q10c (g := (mkF m 24 #[.val (.int p0), .val (.int (1 : Int32)), .val (.ref s_ANY), .val (.int (0 : Int32))] [(.ref s_ANY)])) rfl (by rw [hml]; rfl) (Steps.refl _) (argsL := []) (rest := []) (lenOf own_pd2 rfl) rfl (by show 2 * 0 + _ ≤ _; exact Nat.le_of_eq rfl) (hb hby at_24) (fun _ _ => ⟨rfl, e9, (by decide : 0 + 0 ≤ _), (by decide : 0 + 0 ≤ _)⟩)
    dsimp only [Pt.U, Pt.locs, Pt.cells, Pt.slots] at X10 l10 y10 z10 st10 hQ10
    subst l10 y10 z10
    obtain ⟨rfl, N10q, e10⟩ := hQ10
    have N10 := Fr.app N9 N10q
    refine own_step (fun _ k => st10.trans k) ?_
    show own_Fin p e below s _ _ _ (T10.setTop (mkF m 27 #[.val (.int p0), .val (.int (1 : Int32)), .val (.ref s_ANY), .val (.int (0 : Int32))] [(.int (0 : Int32))]))
    refine own_step (fun _ k => XS.iloadN X10.here hx rfl (hb hby at_27) rfl k) ?_
    show own_Fin p e below s _ _ _ (T10.setTop (mkF m 28 #[.val (.int p0), .val (.int (1 : Int32)), .val (.ref s_ANY), .val (.int (0 : Int32))] [(.int (0 : Int32)), (.int (0 : Int32))]))
    refine own_step (fun _ k => XS.icmpNo X10.here hx rfl (hb hby at_28) rfl (teq (by decide : (0 : Int32) = (0 : Int32))).2 k) ?_
    show own_Fin p e below s _ _ _ (T10.setTop (mkF m 31 #[.val (.int p0), .val (.int (1 : Int32)), .val (.ref s_ANY), .val (.int (0 : Int32))] []))
    refine own_step (fun _ k => XS.iconst X10.here hx rfl (hb hby at_31) k) ?_
    show own_Fin p e below s _ _ _ (T10.setTop (mkF m 32 #[.val (.int p0), .val (.int (1 : Int32)), .val (.ref s_ANY), .val (.int (0 : Int32))] [(.int (1 : Int32))]))
    refine own_step (fun _ k => XS.goto X10.here hx rfl (pc0 := 32) (pc' := 36) rfl (hb hby at_32) (by decide) (by decide) k) ?_
    show own_Fin p e below s _ _ _ (T10.setTop (mkF m 36 #[.val (.int p0), .val (.int (1 : Int32)), .val (.ref s_ANY), .val (.int (0 : Int32))] [(.int (1 : Int32))]))
    exact own_ret X10 hlk (v := some (.int (1 : Int32))) (fun h => by rw [Bd.returns] at h; cases h) (by decide) (by decide) (by show own_Q13 Z p0 s_ONE s_ANY s_ONE_OR_MORE s_NONE_OR_ONE h0 n0 _ T10.heap _; rw [e10]; exact ⟨rfl, N10⟩) (fun fs hr => retN X10 hx (t := .boolean) Bd.returns (by simp) (hb hby at_36) hr)
  · rw [hk3]
    show own_Fin p e below s _ _ _ (s₁.setTop (mkF m 4 #[.val (.int p0), .val (.int (2 : Int32)), .unset, .unset] []))
    refine own_step (fun _ k => XS.iloadN X0.here hx rfl (hb hby at_4) rfl k) ?_
    show own_Fin p e below s _ _ _ (s₁.setTop (mkF m 5 #[.val (.int p0), .val (.int (2 : Int32)), .unset, .unset] [(.int (2 : Int32))]))
    obtain ⟨_, _, ⟨T11, L11, k11, n11⟩, -, X11, ⟨Lc11, hQ11, l11, y11, z11⟩, st11⟩ := Jvm.LawKit.callS X0 hx (y := own_y0) hown (mvT hZ (own_w hw 0 rfl)) (mvT hZ (own_w hw 1 rfl)) (mvT hZ (own_w hw 2 rfl)) (mvT hZ (own_w hw 3 rfl)) (by decide) (backOf (W := 0) (own_rm3 l Z a0 hw [] s_NONE_OR_ONE h0 n0 Z0 S_NONE_OR_ONE) hZ (own_w hw 3 rfl) (own_w hw 2 rfl) (by decide) (by decide)) (g := (mkF m 5 #[.val (.int p0), .val (.int (2 : Int32)), .unset, .unset] [(.int (2 : Int32))])) rfl (by rw [hml]; rfl) (argsL := [(.int (2 : Int32))]) (rest := []) (lenOf own_pd0 rfl) rfl (by show 2 * 0 + _ ≤ _; exact Nat.le_of_eq rfl) (hb hby at_5) (fun _ _ => ⟨rfl, e0, (by decide : 0 + 0 ≤ _), (by decide : 0 + 0 ≤ _)⟩)
    dsimp only [Pt.U, Pt.locs, Pt.cells, Pt.slots] at X11 l11 y11 z11 st11 hQ11
    subst l11 y11 z11
    obtain ⟨rfl, N11q, e11⟩ := hQ11
    have N11 := Fr.app N0 N11q
    refine own_step (fun _ k => st11 _ k) ?_
    show own_Fin p e below s _ _ _ (T11.setTop (mkF m 8 #[.val (.int p0), .val (.int (2 : Int32)), .unset, .unset] [(.ref s_NONE_OR_ONE)]))
    refine own_step (fun _ k => XS.astoreN X11.here hx rfl (hb hby at_8) rfl rfl (l' := #[.val (.int p0), .val (.int (2 : Int32)), .val (.ref s_NONE_OR_ONE), .unset]) rfl k) ?_
    show own_Fin p e below s _ _ _ (T11.setTop (mkF m 9 #[.val (.int p0), .val (.int (2 : Int32)), .val (.ref s_NONE_OR_ONE), .unset] []))
    refine own_step (fun _ k => XS.iloadN X11.here hx rfl (hb hby at_9) rfl k) ?_
    show own_Fin p e below s _ _ _ (T11.setTop (mkF m 10 #[.val (.int p0), .val (.int (2 : Int32)), .val (.ref s_NONE_OR_ONE), .unset] [(.int (2 : Int32))]))
    obtain ⟨_, _, ⟨T12, L12, k12, n12⟩, -, X12, ⟨Lc12, hQ12, l12, y12, z12⟩, st12⟩ := Jvm.LawKit.callS X11 hx (y := own_y1) hown (mvT hZ (own_w hw 7 rfl)) (mvT hZ (own_w hw 8 rfl)) (mvT hZ (own_w hw 2 rfl)) (mvT hZ (own_w hw 9 rfl)) (by decide) (backOf (W := 0) (own_rm7 l Z a0 hw []  h0 n0 Z0 ) hZ (own_w hw 9 rfl) (own_w hw 2 rfl) (by decide) (by decide)) (g := (mkF m 10 #[.val (.int p0), .val (.int (2 : Int32)), .val (.ref s_NONE_OR_ONE), .unset] [(.int (2 : Int32))])) rfl (by rw [hml]; rfl) (argsL := [(.int (2 : Int32))]) (rest := []) (lenOf own_pd1 rfl) rfl (by show 2 * 0 + _ ≤ _; exact Nat.le_of_eq rfl) (hb hby at_10) (fun _ _ => ⟨rfl, e11, (by decide : 0 + 0 ≤ _), (by decide : 0 + 0 ≤ _)⟩)
    dsimp only [Pt.U, Pt.locs, Pt.cells, Pt.slots] at X12 l12 y12 z12 st12 hQ12
    subst l12 y12 z12
    obtain ⟨rfl, N12q, e12⟩ := hQ12
    have N12 := Fr.app N11 N12q
    refine own_step (fun _ k => st12 _ k) ?_
    show own_Fin p e below s _ _ _ (T12.setTop (mkF m 13 #[.val (.int p0), .val (.int (2 : Int32)), .val (.ref s_NONE_OR_ONE), .unset] [(.int (0 : Int32))]))
    refine own_step (fun _ k => XS.iconst X12.here hx rfl (hb hby at_13) k) ?_
    show own_Fin p e below s _ _ _ (T12.setTop (mkF m 14 #[.val (.int p0), .val (.int (2 : Int32)), .val (.ref s_NONE_OR_ONE), .unset] [(.int (1 : Int32)), (.int (0 : Int32))]))
    refine own_step (fun _ k => XS.icmpYes X12.here hx rfl (pc0 := 14) (pc' := 21) rfl (hb hby at_14) rfl (tlt (by decide : (0 : Int32) < (1 : Int32))).1 (by decide) (by decide) k) ?_
    show own_Fin p e below s _ _ _ (T12.setTop (mkF m 21 #[.val (.int p0), .val (.int (2 : Int32)), .val (.ref s_NONE_OR_ONE), .unset] []))
    refine own_step (fun _ k => XS.iconst X12.here hx rfl (hb hby at_21) k) ?_
    show own_Fin p e below s _ _ _ (T12.setTop (mkF m 22 #[.val (.int p0), .val (.int (2 : Int32)), .val (.ref s_NONE_OR_ONE), .unset] [(.int (0 : Int32))]))
    refine own_step (fun _ k => XS.istoreN X12.here hx rfl (hb hby at_22) rfl (l' := #[.val (.int p0), .val (.int (2 : Int32)), .val (.ref s_NONE_OR_ONE), .val (.int (0 : Int32))]) rfl k) ?_
    show own_Fin p e below s _ _ _ (T12.setTop (mkF m 23 #[.val (.int p0), .val (.int (2 : Int32)), .val (.ref s_NONE_OR_ONE), .val (.int (0 : Int32))] []))
    refine own_step (fun _ k => XS.aloadN X12.here hx rfl (hb hby at_23) rfl rfl k) ?_
    show own_Fin p e below s _ _ _ (T12.setTop (mkF m 24 #[.val (.int p0), .val (.int (2 : Int32)), .val (.ref s_NONE_OR_ONE), .val (.int (0 : Int32))] [(.ref s_NONE_OR_ONE)]))
    obtain ⟨cq13, kq13, q13a, q13b, q13c⟩ := isOf hZ e12 E_s_NONE_OR_ONE
    obtain ⟨_, _, ⟨T13, L13, k13, n13⟩, -, X13, ⟨Lc13, hQ13, l13, y13, z13⟩, st13⟩ := X12.virtualBack hx (y := own_y2) (z := own_y2) hown (mvT hZ (own_w hw 10 rfl)) (mvT hZ (own_w hw 11 rfl)) (notFace_of_selects (args := #[]) (mvT hZ (own_w hw 13 rfl))) (mvT hZ (own_w hw 13 rfl)) (mvT hZ (own_w hw 12 rfl)) (by decide) (backOf (W := 0) (own_rm11 l Z a0 hw [] s_NONE_OR_ONE s_ONE s_ONE_OR_MORE h0 n0 Z0 S_ONE ne_s_NONE_OR_ONE_s_ONE S_ONE_OR_MORE ne_s_NONE_OR_ONE_s_ONE_OR_MORE) hZ (own_w hw 14 rfl) (own_w hw 5 rfl) (by decide) (by decide)) q13a q13c (g := (mkF m 24 #[.val (.int p0), .val (.int (2 : Int32)), .val (.ref s_NONE_OR_ONE), .val (.int (0 : Int32))] [(.ref s_NONE_OR_ONE)])) rfl (by rw [hml]; rfl) (Steps.refl _) (argsL := []) (rest := []) (lenOf own_pd2 rfl) rfl (by show 2 * 0 + _ ≤ _; exact Nat.le_of_eq rfl) (hb hby at_24) (fun _ _ => ⟨rfl, e12, (by decide : 0 + 0 ≤ _), (by decide : 0 + 0 ≤ _)⟩)
    dsimp only [Pt.U, Pt.locs, Pt.cells, Pt.slots] at X13 l13 y13 z13 st13 hQ13
    subst l13 y13 z13
    obtain ⟨rfl, N13q, e13⟩ := hQ13
    have N13 := Fr.app N12 N13q
    refine own_step (fun _ k => st13.trans k) ?_
    show own_Fin p e below s _ _ _ (T13.setTop (mkF m 27 #[.val (.int p0), .val (.int (2 : Int32)), .val (.ref s_NONE_OR_ONE), .val (.int (0 : Int32))] [(.int (0 : Int32))]))
    refine own_step (fun _ k => XS.iloadN X13.here hx rfl (hb hby at_27) rfl k) ?_
    show own_Fin p e below s _ _ _ (T13.setTop (mkF m 28 #[.val (.int p0), .val (.int (2 : Int32)), .val (.ref s_NONE_OR_ONE), .val (.int (0 : Int32))] [(.int (0 : Int32)), (.int (0 : Int32))]))
    refine own_step (fun _ k => XS.icmpNo X13.here hx rfl (hb hby at_28) rfl (teq (by decide : (0 : Int32) = (0 : Int32))).2 k) ?_
    show own_Fin p e below s _ _ _ (T13.setTop (mkF m 31 #[.val (.int p0), .val (.int (2 : Int32)), .val (.ref s_NONE_OR_ONE), .val (.int (0 : Int32))] []))
    refine own_step (fun _ k => XS.iconst X13.here hx rfl (hb hby at_31) k) ?_
    show own_Fin p e below s _ _ _ (T13.setTop (mkF m 32 #[.val (.int p0), .val (.int (2 : Int32)), .val (.ref s_NONE_OR_ONE), .val (.int (0 : Int32))] [(.int (1 : Int32))]))
    refine own_step (fun _ k => XS.goto X13.here hx rfl (pc0 := 32) (pc' := 36) rfl (hb hby at_32) (by decide) (by decide) k) ?_
    show own_Fin p e below s _ _ _ (T13.setTop (mkF m 36 #[.val (.int p0), .val (.int (2 : Int32)), .val (.ref s_NONE_OR_ONE), .val (.int (0 : Int32))] [(.int (1 : Int32))]))
    exact own_ret X13 hlk (v := some (.int (1 : Int32))) (fun h => by rw [Bd.returns] at h; cases h) (by decide) (by decide) (by show own_Q13 Z p0 s_ONE s_ANY s_ONE_OR_MORE s_NONE_OR_ONE h0 n0 _ T13.heap _; rw [e13]; exact ⟨rfl, N13⟩) (fun fs hr => retN X13 hx (t := .boolean) Bd.returns (by simp) (hb hby at_36) hr)
  · rw [hk4]
    show own_Fin p e below s _ _ _ (s₁.setTop (mkF m 4 #[.val (.int p0), .val (.int (3 : Int32)), .unset, .unset] []))
    refine own_step (fun _ k => XS.iloadN X0.here hx rfl (hb hby at_4) rfl k) ?_
    show own_Fin p e below s _ _ _ (s₁.setTop (mkF m 5 #[.val (.int p0), .val (.int (3 : Int32)), .unset, .unset] [(.int (3 : Int32))]))
    obtain ⟨_, _, ⟨T14, L14, k14, n14⟩, -, X14, ⟨Lc14, hQ14, l14, y14, z14⟩, st14⟩ := Jvm.LawKit.callS X0 hx (y := own_y0) hown (mvT hZ (own_w hw 0 rfl)) (mvT hZ (own_w hw 1 rfl)) (mvT hZ (own_w hw 2 rfl)) (mvT hZ (own_w hw 3 rfl)) (by decide) (backOf (W := 0) (own_rm4 l Z a0 hw [] s_ONE_OR_MORE h0 n0 Z0 S_ONE_OR_MORE) hZ (own_w hw 3 rfl) (own_w hw 2 rfl) (by decide) (by decide)) (g := (mkF m 5 #[.val (.int p0), .val (.int (3 : Int32)), .unset, .unset] [(.int (3 : Int32))])) rfl (by rw [hml]; rfl) (argsL := [(.int (3 : Int32))]) (rest := []) (lenOf own_pd0 rfl) rfl (by show 2 * 0 + _ ≤ _; exact Nat.le_of_eq rfl) (hb hby at_5) (fun _ _ => ⟨rfl, e0, (by decide : 0 + 0 ≤ _), (by decide : 0 + 0 ≤ _)⟩)
    dsimp only [Pt.U, Pt.locs, Pt.cells, Pt.slots] at X14 l14 y14 z14 st14 hQ14
    subst l14 y14 z14
    obtain ⟨rfl, N14q, e14⟩ := hQ14
    have N14 := Fr.app N0 N14q
    refine own_step (fun _ k => st14 _ k) ?_
    show own_Fin p e below s _ _ _ (T14.setTop (mkF m 8 #[.val (.int p0), .val (.int (3 : Int32)), .unset, .unset] [(.ref s_ONE_OR_MORE)]))
    refine own_step (fun _ k => XS.astoreN X14.here hx rfl (hb hby at_8) rfl rfl (l' := #[.val (.int p0), .val (.int (3 : Int32)), .val (.ref s_ONE_OR_MORE), .unset]) rfl k) ?_
    show own_Fin p e below s _ _ _ (T14.setTop (mkF m 9 #[.val (.int p0), .val (.int (3 : Int32)), .val (.ref s_ONE_OR_MORE), .unset] []))
    refine own_step (fun _ k => XS.iloadN X14.here hx rfl (hb hby at_9) rfl k) ?_
    show own_Fin p e below s _ _ _ (T14.setTop (mkF m 10 #[.val (.int p0), .val (.int (3 : Int32)), .val (.ref s_ONE_OR_MORE), .unset] [(.int (3 : Int32))]))
    obtain ⟨_, _, ⟨T15, L15, k15, n15⟩, -, X15, ⟨Lc15, hQ15, l15, y15, z15⟩, st15⟩ := Jvm.LawKit.callS X14 hx (y := own_y1) hown (mvT hZ (own_w hw 7 rfl)) (mvT hZ (own_w hw 8 rfl)) (mvT hZ (own_w hw 2 rfl)) (mvT hZ (own_w hw 9 rfl)) (by decide) (backOf (W := 0) (own_rm8 l Z a0 hw []  h0 n0 Z0 ) hZ (own_w hw 9 rfl) (own_w hw 2 rfl) (by decide) (by decide)) (g := (mkF m 10 #[.val (.int p0), .val (.int (3 : Int32)), .val (.ref s_ONE_OR_MORE), .unset] [(.int (3 : Int32))])) rfl (by rw [hml]; rfl) (argsL := [(.int (3 : Int32))]) (rest := []) (lenOf own_pd1 rfl) rfl (by show 2 * 0 + _ ≤ _; exact Nat.le_of_eq rfl) (hb hby at_10) (fun _ _ => ⟨rfl, e14, (by decide : 0 + 0 ≤ _), (by decide : 0 + 0 ≤ _)⟩)
    dsimp only [Pt.U, Pt.locs, Pt.cells, Pt.slots] at X15 l15 y15 z15 st15 hQ15
    subst l15 y15 z15
    obtain ⟨rfl, N15q, e15⟩ := hQ15
    have N15 := Fr.app N14 N15q
    refine own_step (fun _ k => st15 _ k) ?_
    show own_Fin p e below s _ _ _ (T15.setTop (mkF m 13 #[.val (.int p0), .val (.int (3 : Int32)), .val (.ref s_ONE_OR_MORE), .unset] [(.int (1 : Int32))]))
    refine own_step (fun _ k => XS.iconst X15.here hx rfl (hb hby at_13) k) ?_
    show own_Fin p e below s _ _ _ (T15.setTop (mkF m 14 #[.val (.int p0), .val (.int (3 : Int32)), .val (.ref s_ONE_OR_MORE), .unset] [(.int (1 : Int32)), (.int (1 : Int32))]))
    refine own_step (fun _ k => XS.icmpNo X15.here hx rfl (hb hby at_14) rfl (flt (by decide : ¬ ((1 : Int32) < (1 : Int32)))).1 k) ?_
    show own_Fin p e below s _ _ _ (T15.setTop (mkF m 17 #[.val (.int p0), .val (.int (3 : Int32)), .val (.ref s_ONE_OR_MORE), .unset] []))
    refine own_step (fun _ k => XS.iconst X15.here hx rfl (hb hby at_17) k) ?_
    show own_Fin p e below s _ _ _ (T15.setTop (mkF m 18 #[.val (.int p0), .val (.int (3 : Int32)), .val (.ref s_ONE_OR_MORE), .unset] [(.int (1 : Int32))]))
    refine own_step (fun _ k => XS.goto X15.here hx rfl (pc0 := 18) (pc' := 22) rfl (hb hby at_18) (by decide) (by decide) k) ?_
    show own_Fin p e below s _ _ _ (T15.setTop (mkF m 22 #[.val (.int p0), .val (.int (3 : Int32)), .val (.ref s_ONE_OR_MORE), .unset] [(.int (1 : Int32))]))
    refine own_step (fun _ k => XS.istoreN X15.here hx rfl (hb hby at_22) rfl (l' := #[.val (.int p0), .val (.int (3 : Int32)), .val (.ref s_ONE_OR_MORE), .val (.int (1 : Int32))]) rfl k) ?_
    show own_Fin p e below s _ _ _ (T15.setTop (mkF m 23 #[.val (.int p0), .val (.int (3 : Int32)), .val (.ref s_ONE_OR_MORE), .val (.int (1 : Int32))] []))
    refine own_step (fun _ k => XS.aloadN X15.here hx rfl (hb hby at_23) rfl rfl k) ?_
    show own_Fin p e below s _ _ _ (T15.setTop (mkF m 24 #[.val (.int p0), .val (.int (3 : Int32)), .val (.ref s_ONE_OR_MORE), .val (.int (1 : Int32))] [(.ref s_ONE_OR_MORE)]))
    obtain ⟨cq16, kq16, q16a, q16b, q16c⟩ := isOf hZ e15 E_s_ONE_OR_MORE
    obtain ⟨_, _, ⟨T16, L16, k16, n16⟩, -, X16, ⟨Lc16, hQ16, l16, y16, z16⟩, st16⟩ := X15.virtualBack hx (y := own_y2) (z := own_y2) hown (mvT hZ (own_w hw 10 rfl)) (mvT hZ (own_w hw 11 rfl)) (notFace_of_selects (args := #[]) (mvT hZ (own_w hw 13 rfl))) (mvT hZ (own_w hw 13 rfl)) (mvT hZ (own_w hw 12 rfl)) (by decide) (backOf (W := 0) (own_rm12 l Z a0 hw [] s_ONE_OR_MORE s_ONE h0 n0 Z0 S_ONE ne_s_ONE_OR_MORE_s_ONE S_ONE_OR_MORE) hZ (own_w hw 14 rfl) (own_w hw 5 rfl) (by decide) (by decide)) q16a q16c (g := (mkF m 24 #[.val (.int p0), .val (.int (3 : Int32)), .val (.ref s_ONE_OR_MORE), .val (.int (1 : Int32))] [(.ref s_ONE_OR_MORE)])) rfl (by rw [hml]; rfl) (Steps.refl _) (argsL := []) (rest := []) (lenOf own_pd2 rfl) rfl (by show 2 * 0 + _ ≤ _; exact Nat.le_of_eq rfl) (hb hby at_24) (fun _ _ => ⟨rfl, e15, (by decide : 0 + 0 ≤ _), (by decide : 0 + 0 ≤ _)⟩)
    dsimp only [Pt.U, Pt.locs, Pt.cells, Pt.slots] at X16 l16 y16 z16 st16 hQ16
    subst l16 y16 z16
    obtain ⟨rfl, N16q, e16⟩ := hQ16
    have N16 := Fr.app N15 N16q
    refine own_step (fun _ k => st16.trans k) ?_
    show own_Fin p e below s _ _ _ (T16.setTop (mkF m 27 #[.val (.int p0), .val (.int (3 : Int32)), .val (.ref s_ONE_OR_MORE), .val (.int (1 : Int32))] [(.int (1 : Int32))]))
    refine own_step (fun _ k => XS.iloadN X16.here hx rfl (hb hby at_27) rfl k) ?_
    show own_Fin p e below s _ _ _ (T16.setTop (mkF m 28 #[.val (.int p0), .val (.int (3 : Int32)), .val (.ref s_ONE_OR_MORE), .val (.int (1 : Int32))] [(.int (1 : Int32)), (.int (1 : Int32))]))
    refine own_step (fun _ k => XS.icmpNo X16.here hx rfl (hb hby at_28) rfl (teq (by decide : (1 : Int32) = (1 : Int32))).2 k) ?_
    show own_Fin p e below s _ _ _ (T16.setTop (mkF m 31 #[.val (.int p0), .val (.int (3 : Int32)), .val (.ref s_ONE_OR_MORE), .val (.int (1 : Int32))] []))
    refine own_step (fun _ k => XS.iconst X16.here hx rfl (hb hby at_31) k) ?_
    show own_Fin p e below s _ _ _ (T16.setTop (mkF m 32 #[.val (.int p0), .val (.int (3 : Int32)), .val (.ref s_ONE_OR_MORE), .val (.int (1 : Int32))] [(.int (1 : Int32))]))
    refine own_step (fun _ k => XS.goto X16.here hx rfl (pc0 := 32) (pc' := 36) rfl (hb hby at_32) (by decide) (by decide) k) ?_
    show own_Fin p e below s _ _ _ (T16.setTop (mkF m 36 #[.val (.int p0), .val (.int (3 : Int32)), .val (.ref s_ONE_OR_MORE), .val (.int (1 : Int32))] [(.int (1 : Int32))]))
    exact own_ret X16 hlk (v := some (.int (1 : Int32))) (fun h => by rw [Bd.returns] at h; cases h) (by decide) (by decide) (by show own_Q13 Z p0 s_ONE s_ANY s_ONE_OR_MORE s_NONE_OR_ONE h0 n0 _ T16.heap _; rw [e16]; exact ⟨rfl, N16⟩) (fun fs hr => retN X16 hx (t := .boolean) Bd.returns (by simp) (hb hby at_36) hr)

set_option maxRecDepth 65536 in
set_option maxHeartbeats 40000000 in
theorem comes_1 {Post : Tables → Env → Array Value → State → Outcome → State → Prop} (hpost : ∀ tb e args s v u, (limb_1_1.after args s (.returned v) u = true ∧ limb_1_2.after args s (.returned v) u = true ∧ True) → FrameEnd s (.returned v) u (Jvm.fieldLocs frame_1_writes args s ++ Jvm.arrayLocs frame_1_arrays args s ++ Jvm.staticLocs frame_1_statics s) 0 0 → Post tb e args s (.returned v) u) :
    ArmFor flags0 classFile x code maxLocals ret World_1 tables_1 room_1 Calls_1 rest_1 Pre_1 Post := by
  intro l hfl _ _ p e ha hc hk s m args below hf hA hF happ hP
  obtain ⟨hcalls, hrest, hpre⟩ := hP
  obtain ⟨-, -, -, hnamed, -, -, -, hat⟩ := (Spec.applies_iff hf).mp happ
  obtain ⟨hg, hn⟩ := and_e (Cond.before_iff.mp (show (Jvm.Cond.and given_1 narrow_1).before args s = true from hpre))
  obtain ⟨cj1a, cj1b⟩ := and_e hg
  obtain ⟨w0, rfl⟩ : ∃ w0 : Value, args = #[w0] := by
    have hs : args.size = 1 := by simpa [Cond.value, given_1] using cj1a
    obtain ⟨L⟩ := args
    match L, hs with
    | [w0], _ => exact ⟨w0, rfl⟩
  have hw := fun d (hd : d ∈ tables_1) => atoms_spec (ws := Jvm.Cond.code x code maxLocals ret :: tables_1) hat d (List.mem_cons_of_mem _ hd)
  have hfit : Fit s := fun {y c} hc i hi => by
    obtain ⟨ha, rfl⟩ := Array.getElem?_eq_some_iff.mp hc
    have q := List.all_eq_true.mp ((Array.all_eq_true_iff_forall_mem.mp hF) _ (Array.getElem_mem ha)) i (List.mem_range.mpr hi)
    simpa [Array.getElem?_eq_getElem hi] using q
  obtain ⟨i0, ei0⟩ := is_v cj1b
  obtain rfl : w0 = (.int i0) := Option.some.inj ei0
  obtain ⟨cj2a, cj2b⟩ := and_e hn
  obtain ⟨cj3a, cj3b⟩ := and_e cj2b
  obtain ⟨cj4a, cj4b⟩ := and_e cj3b
  obtain ⟨cj5a, cj5b⟩ := and_e cj4b
  obtain ⟨cj6a, cj6b⟩ := and_e cj5b
  obtain ⟨cj7a, cj7b⟩ := and_e cj6b
  obtain ⟨cj8a, cj8b⟩ := and_e cj7b
  obtain ⟨s_ONE, ev_s_ONE⟩ := exa_v cj2a
  have S_ONE : Sta s s.heap "com/example/mortise/mortise/model/ParameterDef$Multiplicity" "ONE" "Lcom/example/mortise/mortise/model/ParameterDef$Multiplicity;" (.ref s_ONE) := Sta.start ev_s_ONE (Or.inr ⟨(own_w hw 5 rfl), (own_w hw 6 rfl)⟩)
  have E_s_ONE : Exa s s.heap s_ONE "com/example/mortise/mortise/model/ParameterDef$Multiplicity" := Exa.start ev_s_ONE cj2a
  obtain ⟨s_ONE_OR_MORE, ev_s_ONE_OR_MORE⟩ := exa_v cj3a
  have S_ONE_OR_MORE : Sta s s.heap "com/example/mortise/mortise/model/ParameterDef$Multiplicity" "ONE_OR_MORE" "Lcom/example/mortise/mortise/model/ParameterDef$Multiplicity;" (.ref s_ONE_OR_MORE) := Sta.start ev_s_ONE_OR_MORE (Or.inr ⟨(own_w hw 5 rfl), (own_w hw 17 rfl)⟩)
  have E_s_ONE_OR_MORE : Exa s s.heap s_ONE_OR_MORE "com/example/mortise/mortise/model/ParameterDef$Multiplicity" := Exa.start ev_s_ONE_OR_MORE cj3a
  obtain ⟨s_NONE_OR_ONE, ev_s_NONE_OR_ONE⟩ := exa_v cj6a
  have S_NONE_OR_ONE : Sta s s.heap "com/example/mortise/mortise/model/ParameterDef$Multiplicity" "NONE_OR_ONE" "Lcom/example/mortise/mortise/model/ParameterDef$Multiplicity;" (.ref s_NONE_OR_ONE) := Sta.start ev_s_NONE_OR_ONE (Or.inr ⟨(own_w hw 5 rfl), (own_w hw 20 rfl)⟩)
  have E_s_NONE_OR_ONE : Exa s s.heap s_NONE_OR_ONE "com/example/mortise/mortise/model/ParameterDef$Multiplicity" := Exa.start ev_s_NONE_OR_ONE cj6a
  obtain ⟨s_ANY, ev_s_ANY⟩ := exa_v cj8a
  have S_ANY : Sta s s.heap "com/example/mortise/mortise/model/ParameterDef$Multiplicity" "ANY" "Lcom/example/mortise/mortise/model/ParameterDef$Multiplicity;" (.ref s_ANY) := Sta.start ev_s_ANY (Or.inr ⟨(own_w hw 5 rfl), (own_w hw 22 rfl)⟩)
  have E_s_ANY : Exa s s.heap s_ANY "com/example/mortise/mortise/model/ParameterDef$Multiplicity" := Exa.start ev_s_ANY cj8a
  have ev_wordinal_s_ONE_OR_MORE := eqv_i rfl cj4a
  have F_ordinal_s_ONE_OR_MORE : Fld s s.heap s_ONE_OR_MORE "java/lang/Enum" "ordinal" "I" (.int (3 : Int32)) := own_fldV ev_s_ONE_OR_MORE ev_wordinal_s_ONE_OR_MORE
  have ev_wordinal_s_ONE := eqv_i rfl cj5a
  have F_ordinal_s_ONE : Fld s s.heap s_ONE "java/lang/Enum" "ordinal" "I" (.int (0 : Int32)) := own_fldV ev_s_ONE ev_wordinal_s_ONE
  have ev_wordinal_s_NONE_OR_ONE := eqv_i rfl cj7a
  have F_ordinal_s_NONE_OR_ONE : Fld s s.heap s_NONE_OR_ONE "java/lang/Enum" "ordinal" "I" (.int (2 : Int32)) := own_fldV ev_s_NONE_OR_ONE ev_wordinal_s_NONE_OR_ONE
  have ev_wordinal_s_ANY := eqv_i rfl cj8b
  have F_ordinal_s_ANY : Fld s s.heap s_ANY "java/lang/Enum" "ordinal" "I" (.int (1 : Int32)) := own_fldV ev_s_ANY ev_wordinal_s_ANY
  obtain ⟨n, o, h1, h2, h3, _, L, rfl, ⟨rfl, N⟩, hq⟩ := own_rm13 l s _ hw tables_1 i0 s_ONE s_ANY s_ONE_OR_MORE s_NONE_OR_ONE s.heap s.heap.size (Nat.le_refl _) S_ONE E_s_ONE S_ANY E_s_ANY S_ONE_OR_MORE (Fld.ne F_ordinal_s_ANY F_ordinal_s_ONE (fun q => absurd (Value.int.inj q) (by decide))) (Fld.ne F_ordinal_s_ANY F_ordinal_s_ONE_OR_MORE (fun q => absurd (Value.int.inj q) (by decide))) S_NONE_OR_ONE E_s_NONE_OR_ONE (Fld.ne F_ordinal_s_NONE_OR_ONE F_ordinal_s_ONE (fun q => absurd (Value.int.inj q) (by decide))) (Fld.ne F_ordinal_s_NONE_OR_ONE F_ordinal_s_ONE_OR_MORE (fun q => absurd (Value.int.inj q) (by decide))) E_s_ONE_OR_MORE (Fld.ne F_ordinal_s_ONE_OR_MORE F_ordinal_s_ONE (fun q => absurd (Value.int.inj q) (by decide))) p e ha hc hk s m _ below hf ((Spec.applies_iff_loose hf).mp happ).1 ⟨rfl, State.Warmed39.refl s, rfl⟩ trivial
  refine ⟨n, _, h1, h2, h3, hpost _ _ _ _ _ _ ⟨Cond.after_iff.mpr rfl, Cond.after_iff.mpr (eq_i res_at (Term.int_eval (1)) rfl), trivial⟩ ⟨hq.1, hq.2.1, (hq.2.2.sift fun y hy => Or.inr (N y hy)).mono (by decide) (by decide)⟩⟩
theorem main_1_1 : Claimed_1_1 := comes_1 fun _ _ _ _ _ _ h hF => ⟨h.1, hF⟩
theorem main_1_2 : Claimed_1_2 := comes_1 fun _ _ _ _ _ _ h hF => ⟨h.2.1, hF⟩
end Jvm.Pilot.@@N@@
namespace Jvm.Pilot.@@N@@
open Jvm Jvm.ClassFile Sem Op Lib Jvm.Free Jvm.Stand Jvm.Pilot.@@N@@.Jvm.D
/-! MADE BY PROGRAM (witnessworld.py) out of the Statement's table words and the real class files: 12 classes; the members and pool entries that the words name. The judged class is class 1, her method 3. -/
namespace start1
open Jvm.ClassFile
def u (s : String) : CpInfo := .utf8 (stringToUtf16 s)
/-- a pool by its gaps: so many unusable entries, then the entry; so many at the end -/
def gap : Nat → List CpInfo → List CpInfo
  | 0, r => r
  | n + 1, r => .unusable :: gap n r
def poolList (es : List (Nat × CpInfo)) (last : Nat) : List CpInfo := es.foldr (fun e r => gap e.1 (e.2 :: r)) (gap last [])
def pool (es : List (Nat × CpInfo)) (last : Nat) : Array CpInfo := ⟨poolList es last⟩
def fileOf (pool : Array CpInfo) (this : Nat) (attrs : Array Attribute := #[]) (ms : Array MethodInfo := #[]) (fl : Nat := 33) (sup : Nat := 0) (ifs : Array Nat := #[]) (fds : Array FieldInfo := #[]) : ClassFile where
  minorVersion := 0
  majorVersion := 65
  constantPool := pool
  accessFlags := fl
  thisClass := this
  superClass := sup
  interfaces := ifs
  fields := fds
  methods := ms
  attributes := attrs
def plain (name : String) (sup : Option ClassId) : Class where
  name := name
  kind := .ordinary
  loader := none
  accessFlags := 33
  super := sup
  interfaces := #[]
  cf := none
  fields := #[]
  methods := #[]
  instanceTypes := #[]
  staticTypes := #[]
  resolved := #[]
  callSites := []
  init := .initialized
  statics := none
  mirror := none

def pool0 : Array CpInfo := pool [(5, u "<init>"), (0, u "()V"), (1, .class_ 10), (1, u "java/lang/Object")] 113

def k0m0 : Method := { name := "<init>", desc := "()V", sig := { parameters := [], returnType := none }, accessFlags := 1, code := none }
/-- java/lang/Object -/
def k0 : Class := { plain "java/lang/Object" none with
  accessFlags := 33
  interfaces := #[]
  cf := some (fileOf pool0 8 #[] #[{ accessFlags := 1, nameIndex := 5, descriptorIndex := 6, attributes := #[] }] 33 0 #[] #[])
  fields := #[]
  methods := #[k0m0]
  instanceTypes := #[]
  staticTypes := #[]
  resolved := Array.replicate 124 none
  statics := none }

def pool1 : Array CpInfo := pool [(2, .class_ 4), (1, u "java/lang/Object"), (0, u "<init>"), (0, u "()V"), (0, .fieldref 8 9), (0, .class_ 10), (0, .nameAndType 11 12), (0, u "com/example/mortise/mortise/model/ParameterDef$Multiplicity"), (0, u "ONE"), (0, u "Lcom/example/mortise/mortise/model/ParameterDef$Multiplicity;"), (0, .fieldref 8 14), (0, .nameAndType 15 12), (0, u "ANY"), (0, .fieldref 8 17), (0, .nameAndType 18 12), (0, u "NONE_OR_ONE"), (0, .fieldref 8 20), (0, .nameAndType 21 12), (0, u "ONE_OR_MORE"), (0, .methodref 23 24), (0, .class_ 25), (0, .nameAndType 26 27), (0, u "com/example/mortise/mortise/model/MultiplicityRequiredPinLaw"), (0, u "pick"), (0, u "(I)Lcom/example/mortise/mortise/model/ParameterDef$Multiplicity;"), (0, .methodref 23 29), (0, .nameAndType 30 31), (0, u "fewest"), (0, u "(I)I"), (0, .methodref 8 33), (0, .nameAndType 34 35), (0, u "required"), (0, u "()Z"), (3, u "law"), (0, u "(I)Z")] 6

def k1m0 : Method := { name := "<init>", desc := "()V", sig := { parameters := [], returnType := none }, accessFlags := 2, code := none }
def k1c1 : Code := { maxStack := 2, maxLocals := 1, code := method_2_code, exceptionTable := #[], attributes := #[] }
def k1m1 : Method := { name := "pick", desc := "(I)Lcom/example/mortise/mortise/model/ParameterDef$Multiplicity;", sig := { parameters := [.int], returnType := some (.object "com/example/mortise/mortise/model/ParameterDef$Multiplicity") }, accessFlags := 10, code := some k1c1 }
def k1c2 : Code := { maxStack := 2, maxLocals := 1, code := method_3_code, exceptionTable := #[], attributes := #[] }
def k1m2 : Method := { name := "fewest", desc := "(I)I", sig := { parameters := [.int], returnType := some .int }, accessFlags := 10, code := some k1c2 }
def k1c3 : Code := { maxStack := 2, maxLocals := 4, code := code, exceptionTable := #[], attributes := #[] }
def k1m3 : Method := { name := "law", desc := "(I)Z", sig := { parameters := [.int], returnType := some .boolean }, accessFlags := 9, code := some k1c3 }
/-- com/example/mortise/mortise/model/MultiplicityRequiredPinLaw -/
def k1 : Class := { plain "com/example/mortise/mortise/model/MultiplicityRequiredPinLaw" (some 0) with
  accessFlags := 49
  interfaces := #[]
  cf := some (fileOf pool1 23 #[] #[{ accessFlags := 2, nameIndex := 5, descriptorIndex := 6, attributes := #[] }, { accessFlags := 10, nameIndex := 26, descriptorIndex := 27, attributes := #[] }, { accessFlags := 10, nameIndex := 30, descriptorIndex := 31, attributes := #[] }, { accessFlags := 9, nameIndex := 39, descriptorIndex := 40, attributes := #[] }] 49 2 #[] #[])
  fields := #[]
  methods := #[k1m0, k1m1, k1m2, k1m3]
  instanceTypes := #[]
  staticTypes := #[]
  resolved := Array.replicate 47 none
  statics := none }

def pool2 : Array CpInfo := pool [(1, .class_ 2), (0, u "java/lang/constant/Constable"), (0, .class_ 4), (0, u "java/lang/Object")] 6

/-- java/lang/constant/Constable -/
def k2 : Class := { plain "java/lang/constant/Constable" (some 0) with
  accessFlags := 1537
  interfaces := #[]
  cf := some (fileOf pool2 1 #[] #[] 1537 3 #[] #[])
  fields := #[]
  methods := #[]
  instanceTypes := #[]
  staticTypes := #[]
  resolved := Array.replicate 11 none
  statics := none }

def pool3 : Array CpInfo := pool [(1, .class_ 2), (0, u "java/lang/Comparable"), (0, .class_ 4), (0, u "java/lang/Object")] 7

/-- java/lang/Comparable -/
def k3 : Class := { plain "java/lang/Comparable" (some 0) with
  accessFlags := 1537
  interfaces := #[]
  cf := some (fileOf pool3 1 #[] #[] 1537 3 #[] #[])
  fields := #[]
  methods := #[]
  instanceTypes := #[]
  staticTypes := #[]
  resolved := Array.replicate 12 none
  statics := none }

def pool4 : Array CpInfo := pool [(1, .class_ 2), (0, u "java/io/Serializable"), (0, .class_ 4), (0, u "java/lang/Object")] 2

/-- java/io/Serializable -/
def k4 : Class := { plain "java/io/Serializable" (some 0) with
  accessFlags := 1537
  interfaces := #[]
  cf := some (fileOf pool4 1 #[] #[] 1537 3 #[] #[])
  fields := #[]
  methods := #[]
  instanceTypes := #[]
  staticTypes := #[]
  resolved := Array.replicate 7 none
  statics := none }

def pool5 : Array CpInfo := pool [(2, .class_ 4), (1, u "java/lang/Enum"), (0, u "name"), (0, u "Ljava/lang/String;"), (2, u "ordinal"), (0, u "I"), (1, .class_ 14), (1, u "java/lang/Object"), (4, u "hash"), (86, .class_ 108), (1, u "java/lang/Enum$EnumDesc"), (2, .class_ 112), (0, u "java/lang/constant/Constable"), (0, .class_ 114), (0, u "java/lang/Comparable"), (0, .class_ 116), (0, u "java/io/Serializable")] 87

/-- java/lang/Enum -/
def k5 : Class := { plain "java/lang/Enum" (some 0) with
  accessFlags := 1057
  interfaces := #[2, 3, 4]
  cf := some (fileOf pool5 2 #[.nestMembers #[106]] #[] 1057 12 #[111, 113, 115] #[{ accessFlags := 18, nameIndex := 5, descriptorIndex := 6, attributes := #[] }, { accessFlags := 18, nameIndex := 9, descriptorIndex := 10, attributes := #[] }, { accessFlags := 2, nameIndex := 19, descriptorIndex := 10, attributes := #[] }])
  fields := #[{ name := "name", type := (.object "java/lang/String"), accessFlags := 18, slot := 0, constantValue := 0 }, { name := "ordinal", type := .int, accessFlags := 18, slot := 1, constantValue := 0 }, { name := "hash", type := .int, accessFlags := 2, slot := 2, constantValue := 0 }]
  methods := #[]
  instanceTypes := #[(.object "java/lang/String"), .int, .int]
  staticTypes := #[]
  resolved := Array.replicate 204 none
  statics := none }

def pool6 : Array CpInfo := pool [(1, .class_ 2), (0, u "com/example/mortise/mortise/model/ParameterDef$Multiplicity"), (0, .fieldref 1 4), (0, .nameAndType 5 6), (0, u "ONE"), (0, u "Lcom/example/mortise/mortise/model/ParameterDef$Multiplicity;"), (2, u "ANY"), (2, u "NONE_OR_ONE"), (0, .fieldref 1 14), (0, .nameAndType 15 6), (0, u "ONE_OR_MORE"), (2, u "$VALUES"), (0, u "[Lcom/example/mortise/mortise/model/ParameterDef$Multiplicity;"), (6, .class_ 28), (1, u "java/lang/Enum"), (22, u "required"), (0, u "()Z"), (7, .class_ 61), (0, u "com/example/mortise/mortise/model/ParameterDef")] 2

def k6c0 : Code := { maxStack := 2, maxLocals := 1, code := prog_56_method_4_code, exceptionTable := #[], attributes := #[] }
def k6m0 : Method := { name := "required", desc := "()Z", sig := { parameters := [], returnType := some .boolean }, accessFlags := 1, code := some k6c0 }
/-- com/example/mortise/mortise/model/ParameterDef$Multiplicity -/
def k6 : Class := { plain "com/example/mortise/mortise/model/ParameterDef$Multiplicity" (some 5) with
  accessFlags := 16433
  interfaces := #[]
  cf := some (fileOf pool6 1 #[.nestHost 60] #[{ accessFlags := 1, nameIndex := 51, descriptorIndex := 52, attributes := #[] }] 16433 26 #[] #[{ accessFlags := 16409, nameIndex := 5, descriptorIndex := 6, attributes := #[] }, { accessFlags := 16409, nameIndex := 9, descriptorIndex := 6, attributes := #[] }, { accessFlags := 16409, nameIndex := 12, descriptorIndex := 6, attributes := #[] }, { accessFlags := 16409, nameIndex := 15, descriptorIndex := 6, attributes := #[] }, { accessFlags := 4122, nameIndex := 18, descriptorIndex := 19, attributes := #[] }])
  fields := #[{ name := "ONE", type := (.object "com/example/mortise/mortise/model/ParameterDef$Multiplicity"), accessFlags := 16409, slot := 0, constantValue := 0 }, { name := "ANY", type := (.object "com/example/mortise/mortise/model/ParameterDef$Multiplicity"), accessFlags := 16409, slot := 1, constantValue := 0 }, { name := "NONE_OR_ONE", type := (.object "com/example/mortise/mortise/model/ParameterDef$Multiplicity"), accessFlags := 16409, slot := 2, constantValue := 0 }, { name := "ONE_OR_MORE", type := (.object "com/example/mortise/mortise/model/ParameterDef$Multiplicity"), accessFlags := 16409, slot := 3, constantValue := 0 }, { name := "$VALUES", type := (.array (.object "com/example/mortise/mortise/model/ParameterDef$Multiplicity")), accessFlags := 4122, slot := 4, constantValue := 0 }]
  methods := #[k6m0]
  instanceTypes := #[(.object "java/lang/String"), .int, .int]
  staticTypes := #[(.object "com/example/mortise/mortise/model/ParameterDef$Multiplicity"), (.object "com/example/mortise/mortise/model/ParameterDef$Multiplicity"), (.object "com/example/mortise/mortise/model/ParameterDef$Multiplicity"), (.object "com/example/mortise/mortise/model/ParameterDef$Multiplicity"), (.array (.object "com/example/mortise/mortise/model/ParameterDef$Multiplicity"))]
  resolved := Array.replicate 64 none
  statics := some 0 }

def pool7 : Array CpInfo := pool [(1, u "java/lang/Cloneable"), (0, .class_ 1), (0, u "java/lang/Object"), (0, .class_ 3)] 3

/-- java/lang/Cloneable -/
def k7 : Class := { plain "java/lang/Cloneable" (some 0) with
  accessFlags := 1537
  interfaces := #[]
  cf := some (fileOf pool7 2 #[] #[] 1537 4 #[] #[])
  fields := #[]
  methods := #[]
  instanceTypes := #[]
  staticTypes := #[]
  resolved := Array.replicate 8 none
  statics := none }

/-- the primitive byte -/
def k8 : Class := { plain "byte" none with kind := .primitive 'B', accessFlags := 0x411 }
/-- [B -/
def k9 : Class := { plain "[B" (some 0) with kind := .array 8 .byte, interfaces := #[7, 4], accessFlags := 1041 }

/-- the primitive int -/
def k10 : Class := { plain "int" none with kind := .primitive 'I', accessFlags := 0x411 }
/-- [I -/
def k11 : Class := { plain "[I" (some 0) with kind := .array 10 .int, interfaces := #[7, 4], accessFlags := 1041 }

def heap : Heap := #[{ cls := 6, slots := #[.ref 1, .ref 4, .ref 3, .ref 2, .null], vm := .statics 6 },
  { cls := 6, slots := #[.null, .int 0, .int 0], vm := .none },
  { cls := 6, slots := #[.null, .int 3, .int 0], vm := .none },
  { cls := 6, slots := #[.null, .int 2, .int 0], vm := .none },
  { cls := 6, slots := #[.null, .int 1, .int 0], vm := .none }]
def classes : Array Class := #[k0, k1, k2, k3, k4, k5, k6, k7, k8, k9, k10, k11]
def interned : List (Array UInt16 × Addr) := []
def slotsUsed : Nat := 17
def theMethod : MethodId := ⟨1, 3⟩
def args0 : Array Value := #[.int 1]
def aboutOver (below : List Frame) : State where
  vm := { classes := classes, interned := interned.toArray }
  heap := heap
  slotsUsed := slotsUsed
  threads := #[{ frames := .invoking theMethod args0 :: below }]
def below0 : List Frame := [.native { method := ⟨0, 0⟩, args := #[] }]
def about1 : State := aboutOver below0
def p0 : Program := .bare "" "" ""
def e0 : Env := launch0.env 0 0 0
theorem w_frames : about1.frames = Frame.invoking theMethod args0 :: below0 := rfl
set_option maxRecDepth 65536 in
theorem w_args : argsFit about1.vm theMethod args0 = true := by decide +kernel
set_option maxRecDepth 65536 in
theorem w_heap : heapFits about1 = true := by decide +kernel
set_option maxRecDepth 65536 in
theorem w_runnable : about1.curStatus? = some .runnable := by decide +kernel
set_option maxRecDepth 65536 in
theorem w_alone : about1.alone = true := by decide +kernel
set_option maxRecDepth 65536 in
theorem w_named : about1.methodNamed? x = some theMethod := by decide +kernel
set_option maxRecDepth 65536 in
theorem w_hears : about1.hears theMethod below0 = true := by decide +kernel
set_option maxRecDepth 65536 in
theorem w_ripe : about1.ripe theMethod args0 below0 = true := by decide +kernel
theorem w_running : about1.status = .running := rfl
set_option maxRecDepth 65536 in
theorem w_room : about1.hasRoom e0.platform room_1 = true :=
  launch0.hasRoom_least _ room_1 (by decide +kernel) (by decide +kernel) (by decide +kernel) (by decide +kernel) (by decide +kernel) (by decide +kernel)
theorem allAtoms_all (ts : List Jvm.Cond) (a : Array Jvm.Value) (st : Jvm.State) : (allAtoms ts).before a st = ts.all (fun c => c.before a st) := by
  induction ts with
  | nil => rfl
  | cons c t ih =>
    show (Jvm.Cond.and c (allAtoms t)).before a st = _
    rw [Jvm.Cond.before_and, ih, List.all_cons]
def words1 : List Jvm.Cond := Jvm.Cond.code x code maxLocals ret :: tables_1
/-- a 'code' word, met by the world's own term for the bytes: nothing is compared byte by byte -/
theorem code_word {y : MethodName} {bytes : ByteArray} {mx : Nat} {rt : Option FieldType} {a : Array Value} {s : State} {m : MethodId} {meth : Method} {c : Code} (h1 : s.methodNamed? y = some m) (h2 : s.vm.method? m = some meth) (h3 : meth.code = some c) (h4 : c.code = bytes)
    (h5 : (c.maxLocals == mx && c.exceptionTable.isEmpty && decide (c.maxStack ≤ mostOperands) && decide (meth.sig.returnType = rt) && !meth.locks && decide (parseMethodDescriptor y.desc = some meth.sig)) = true) : (Jvm.Cond.code y bytes mx rt).before a s = true := by
  simp only [Bool.and_eq_true, beq_iff_eq, Bool.not_eq_true', decide_eq_true_eq] at h5
  obtain ⟨⟨⟨⟨⟨g1, g2⟩, g3⟩, g4⟩, g5⟩, g6⟩ := h5
  simp [Cond.before, Cond.holds, Cond.value, h1, h2, h3, h4, g1, g2, g3, g4, g5, g6]
def isCode : Jvm.Cond → Bool
  | .code _ _ _ _ => true
  | _ => false
theorem all_split {L : List Jvm.Cond} {P : Jvm.Cond → Bool} (h1 : L.all (fun c => isCode c || P c) = true) (h2 : ∀ c ∈ L.filter isCode, P c = true) : L.all P = true := by
  refine List.all_eq_true.mpr fun c hc => ?_
  have h := List.all_eq_true.mp h1 c hc
  rcases Bool.eq_false_or_eq_true (isCode c) with hi | hi
  · exact h2 c (List.mem_filter.mpr ⟨hc, hi⟩)
  · simpa [hi] using h
set_option maxRecDepth 65536 in
theorem w_c0 : (Jvm.Cond.code x code maxLocals ret).before args0 about1 = true := code_word (m := ⟨1, 3⟩) (meth := k1m3) (c := k1c3) (by decide +kernel) rfl rfl rfl (by decide +kernel)
set_option maxRecDepth 65536 in
theorem w_c1 : (Jvm.Cond.code ({ cls := "com/example/mortise/mortise/model/MultiplicityRequiredPinLaw", name := "pick", desc := "(I)Lcom/example/mortise/mortise/model/ParameterDef$Multiplicity;" } : Jvm.MethodName) method_2_code (1 : Nat) (Option.some (Jvm.ClassFile.FieldType.object "com/example/mortise/mortise/model/ParameterDef$Multiplicity"))).before args0 about1 = true := code_word (m := ⟨1, 1⟩) (meth := k1m1) (c := k1c1) (by decide +kernel) rfl rfl rfl (by decide +kernel)
set_option maxRecDepth 65536 in
theorem w_c2 : (Jvm.Cond.code ({ cls := "com/example/mortise/mortise/model/MultiplicityRequiredPinLaw", name := "fewest", desc := "(I)I" } : Jvm.MethodName) method_3_code (1 : Nat) (Option.some Jvm.ClassFile.FieldType.int)).before args0 about1 = true := code_word (m := ⟨1, 2⟩) (meth := k1m2) (c := k1c2) (by decide +kernel) rfl rfl rfl (by decide +kernel)
set_option maxRecDepth 65536 in
theorem w_c3 : (Jvm.Cond.code ({ cls := "com/example/mortise/mortise/model/ParameterDef$Multiplicity", name := "required", desc := "()Z" } : Jvm.MethodName) prog_56_method_4_code (1 : Nat) (Option.some Jvm.ClassFile.FieldType.boolean)).before args0 about1 = true := code_word (m := ⟨6, 0⟩) (meth := k6m0) (c := k6c0) (by decide +kernel) rfl rfl rfl (by decide +kernel)
def codes1 : List Jvm.Cond := [Jvm.Cond.code x code maxLocals ret, Jvm.Cond.code ({ cls := "com/example/mortise/mortise/model/MultiplicityRequiredPinLaw", name := "pick", desc := "(I)Lcom/example/mortise/mortise/model/ParameterDef$Multiplicity;" } : Jvm.MethodName) method_2_code (1 : Nat) (Option.some (Jvm.ClassFile.FieldType.object "com/example/mortise/mortise/model/ParameterDef$Multiplicity")), Jvm.Cond.code ({ cls := "com/example/mortise/mortise/model/MultiplicityRequiredPinLaw", name := "fewest", desc := "(I)I" } : Jvm.MethodName) method_3_code (1 : Nat) (Option.some Jvm.ClassFile.FieldType.int), Jvm.Cond.code ({ cls := "com/example/mortise/mortise/model/ParameterDef$Multiplicity", name := "required", desc := "()Z" } : Jvm.MethodName) prog_56_method_4_code (1 : Nat) (Option.some Jvm.ClassFile.FieldType.boolean)]
set_option maxRecDepth 65536 in
theorem codes_eq : words1.filter isCode = codes1 := rfl
theorem w_codes : ∀ c ∈ words1.filter isCode, c.before args0 about1 = true := by
  rw [codes_eq]
  intro c hc
  simp only [codes1, List.mem_cons, List.not_mem_nil, or_false] at hc
  rcases hc with rfl | rfl | rfl | rfl
  · exact w_c0
  · exact w_c1
  · exact w_c2
  · exact w_c3
set_option maxRecDepth 65536 in
theorem w_t1 : words1.all (fun c => isCode c || c.before args0 about1) = true := by decide +kernel
theorem w_tables : (allAtoms (Jvm.Cond.code x code maxLocals ret :: tables_1)).before args0 about1 = true := by
  rw [allAtoms_all]
  show words1.all (fun c => c.before args0 about1) = true
  refine all_split ?_ w_codes
  rw [w_t1]
set_option maxRecDepth 65536 in
theorem w_case : (Jvm.Cond.and given_1 narrow_1).before args0 about1 = true := by decide +kernel
theorem w_applies : (headSpec (Jvm.Cond.code x code maxLocals ret :: tables_1) room_1).applies x e0.platform about1 = true :=
  (Spec.applies_iff w_frames).mpr ⟨w_running, w_runnable, w_alone, w_named, w_hears, w_ripe, w_room, w_tables⟩
theorem atStart : AtStart classFile x code maxLocals ret World_1 tables_1 room_1 Calls_1 rest_1 Pre_1 launch0 p0 e0 about1 theMethod args0 below0 :=
  ⟨lists_1, trivial, launch0.admits_env _ _ _, launch0.least_env, fairChoices_fair.cas, fairChoices_fair.clock, w_frames, w_args, w_heap, w_applies, trivial, trivial, w_case⟩
end start1
theorem witness_1 : WitnessClaimed_1 := ⟨start1.p0, start1.e0, start1.about1, start1.theMethod, start1.args0, start1.below0, start1.atStart⟩
end Jvm.Pilot.@@N@@
