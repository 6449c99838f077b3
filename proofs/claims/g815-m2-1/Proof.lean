import JvmDerived
import JvmDerived.Pilot.@@N@@Statement
import JvmDerived.Pilot.@@N@@Code
set_option linter.unusedVariables false
set_option linter.unusedSimpArgs false
namespace Jvm.RoadKit
open Sem ClassFile Op Lib Jvm.Stand Jvm.Free Jvm.LawKit
section Own
variable {p : Program} {l : Launch} {e : Env} {R : Room} {s : State} {m : MethodId} {args : Array Value} {below : List Frame} {meth : Method} {c : Code} {T : State} {locs : List Loc} {cells slots : Nat} {Q : Option Value → Heap → List Loc → Prop} {kc ks : Nat}
/-- the run from S comes to its end and leaves what Q says -/
def own_Fin (p : Program) (e : Env) (below : List Frame) (s : State) (kc ks : Nat) (Q : Option Value → Heap → List Loc → Prop) (S : State) : Prop :=
  ∃ U o, Steps p.tables e below S U ∧ U.status = .running ∧ Ended U below o ∧ ∃ v L, o = .returned v ∧ Q v U.heap L ∧ FrameEnd s o U L kc ks
theorem own_step {S S' : State} (h : ∀ t, Steps p.tables e below S' t → Steps p.tables e below S t) (k : own_Fin p e below s kc ks Q S') : own_Fin p e below s kc ks Q S := by
  obtain ⟨U, o, h1, r⟩ := k
  exact ⟨U, o, h _ h1, r⟩
theorem own_ret (X : Stand p l e R s m args below meth c T locs cells slots) (hlk : meth.locks = false) {v : Option Value} (hv : meth.sig.returnType = none → v = none) (hc : cells ≤ kc) (hs : slots ≤ ks) (hQ : Q v T.heap locs) {S : State}
    (hst : ∀ fs, (∀ (f : JFrame) (acts : List Action), f.method = m → f.locked = none → f.entered = [] → (doReturn e (T.setTop f) acts v).1 = T.setFrames fs) → Steps p.tables e below S (T.setFrames fs)) : own_Fin p e below s kc ks Q S := by
  obtain ⟨fs, hr, hrun, hended, hW, hsame⟩ := X.leave (v := v) hv hlk
  exact ⟨_, _, hst fs hr, hrun, hended, _, _, rfl, hQ, ⟨_, rfl⟩, hW, hsame.mono hc hs⟩
def own_FinW (p : Program) (e : Env) (below : List Frame) (s : State) (kc ks : Nat) (Q : Option Value → Heap → List Loc → Prop) (S : State) : Prop :=
  ∃ U o, Steps p.tables e below S U ∧ U.status = .running ∧ Ended U below o ∧ ∃ v L, o = .returned v ∧ Q v U.heap L ∧ ReturnedEndW s o U L kc ks
theorem own_stepW {S S' : State} (h : ∀ t, Steps p.tables e below S' t → Steps p.tables e below S t) (k : own_FinW p e below s kc ks Q S') : own_FinW p e below s kc ks Q S := by
  obtain ⟨U, o, h1, r⟩ := k
  exact ⟨U, o, h _ h1, r⟩
theorem own_retW {vm1 : Vm} (X : Stand p l e R (s.setVm vm1) m args below meth c T locs cells slots) (hlk : meth.locks = false) {n : Nat} (hS : s.Since vm1 n) {h : Heap} (eT : T.heap = h) (hn : n ≤ h.size) {v : Option Value} (hv : meth.sig.returnType = none → v = none) (hc : cells ≤ kc) (hs : slots ≤ ks) (hQ : Q v T.heap locs) {S : State}
    (hst : ∀ fs, (∀ (f : JFrame) (acts : List Action), f.method = m → f.locked = none → f.entered = [] → (doReturn e (T.setTop f) acts v).1 = T.setFrames fs) → Steps p.tables e below S (T.setFrames fs)) : own_FinW p e below s kc ks Q S := by
  obtain ⟨fs, hr, hrun, hended, hE⟩ := X.leaveW hS (by rw [eT]; exact hn) (v := v) hv hlk
  exact ⟨_, _, hst fs hr, hrun, hended, _, _, rfl, hQ, hE.1, hE.2.1, hE.2.2.1, hE.2.2.2.mono hc hs⟩
theorem own_castW {g g' : JFrame} (q : g = g') (k : own_FinW p e below s kc ks Q (T.setTop g')) : own_FinW p e below s kc ks Q (T.setTop g) := q ▸ k
theorem own_m0 : Jvm.Free.Fl.Mag64 1 FP.dconst0 := by unfold Jvm.Free.Fl.Mag64; decide
theorem own_mz : Jvm.Free.Fl.Mag64 1 (0 : UInt64) := by unfold Jvm.Free.Fl.Mag64; decide
theorem own_m1 : Jvm.Free.Fl.Mag64 1024 FP.dconst1 := by unfold Jvm.Free.Fl.Mag64; decide
/-- roads that meet again: what lies behind the meeting is walked once -/
theorem own_join {G : Prop} {F : State → Prop} (X : Stand p l e R s m args below meth c T locs cells slots) {h : Heap} (eT : T.heap = h) {β : Type} (g : β → JFrame) (hyp : β → Prop)
    (body : ∀ Tj : State, Stand p l e R s m args below meth c Tj locs cells slots → Tj.heap = h → ∀ b, hyp b → F (Tj.setTop (g b)))
    (cont : (∀ Tj : State, Stand p l e R s m args below meth c Tj locs cells slots → Tj.heap = h → ∀ b, hyp b → F (Tj.setTop (g b))) → G) : G := cont body
theorem own_ltn {n k j : Int32} (h : ¬ n < k) (q : j < k) : j < n := by
  rw [Int32.lt_iff_toInt_lt] at *
  omega
theorem own_cast {g g' : JFrame} (q : g = g') (k : own_Fin p e below s kc ks Q (T.setTop g')) : own_Fin p e below s kc ks Q (T.setTop g) := q ▸ k
theorem own_getJ {cl : Cell} {vs : List Int64} {j : Int32} (H : Has cl (vs.map Value.long) (.long 0)) (q : ¬ (j < 0 ∨ cl.slots.size ≤ j.toNatClampNeg)) : cl.slots[j.toNatClampNeg]? = some (.long (vs.getD j.toNatClampNeg 0)) := by
  refine Has.at H q ?_
  simp only [List.getD_eq_getElem?_getD, List.getElem?_map]
  cases vs[j.toNatClampNeg]? <;> rfl
def own_Nst (h : Heap) (x : Addr) : Prop := ∃ c : Cell, h[x]? = some c ∧ c.vm.isStatics = false
theorem own_nst_exa {Z : State} {h : Heap} {a : Addr} {C : String} (F : Exa Z h a C) : own_Nst h a := by
  obtain ⟨c, _, h1, _, _, h4, _⟩ := F
  exact ⟨c, h1, h4⟩
theorem own_nst_arv {Z : State} {h : Heap} {a : Addr} {k : ClassId} {ty : FieldType} {n : Int32} {vs : List Value} {d : Value} (F : Arv Z h a k ty n vs d) : own_Nst h a := by
  obtain ⟨c, A, _⟩ := F
  exact ⟨c, A.1, A.plain⟩
theorem own_sta_keep {Z : State} {h h' : Heap} {C n d : String} {v : Value} {ws : List Addr} (F : Sta Z h C n d v) (K : Keep h h' ws) (q : ∀ x ∈ ws, own_Nst h x) : Sta Z h' C n d v := by
  obtain ⟨cf, i, k, f, st, cell, h1, h2, h3, h4, h5, h6, h7⟩ := F
  refine ⟨cf, i, k, f, st, cell, h1, h2, h3, h4, K.2.1 _ _ h5 (fun z => ?_), h6, h7⟩
  obtain ⟨c, e1, e2⟩ := q _ z
  cases h5.symm.trans e1
  rw [h6] at e2
  cases e2
theorem own_sta_keep0 {Z : State} {h h' : Heap} {C n d : String} {v : Value} (F : Sta Z h C n d v) (K : Keep h h' []) : Sta Z h' C n d v := own_sta_keep F K (fun _ z => nomatch z)
end Own
section OwnStart
variable {args : Array Value} {Z : State} {t : Term} {a : Addr} {O n d : String}
theorem own_fldV {v : Value} (ev : t.eval args Z none [] Z = some (.ref a)) (h : (Term.field t O n d).eval args Z none [] Z = some v) : Fld Z Z.heap a O n d v := Fld.start ((fld_at ev).symm.trans h)
theorem own_len {cl : Cell} {ty : FieldType} {k : Int32} (ev : t.eval args Z none [] Z = some (.ref a)) (A : Arr Z Z.heap a cl ty) (h : (Cond.eq (.length t) (.int k)).value args Z none Z [] = some true) : cl.slots.size < 2 ^ 31 ∧ cl.slots.size.toInt32 = k := by
  have e := eqv_i (y := k) rfl h
  have ha := A.fin (Vm.Alike.refl _)
  by_cases q : cl.slots.size < 2 ^ 31
  · exact ⟨q, Value.int.inj (Option.some.inj ((len_f ev ha q).symm.trans e))⟩
  · simp [Term.eval, ev, ha, q] at e
theorem own_elI {cl : Cell} {ty : FieldType} {i k : Int32} (ev : t.eval args Z none [] Z = some (.ref a)) (A : Arr Z Z.heap a cl ty) (hi : ¬ i < 0) (h : (Cond.eq (.elem t (.int i)) (.int k)).value args Z none Z [] = some true) : cl.slots[i.toNatClampNeg]? = some (.int k) :=
  (elem_f ev rfl (A.fin (Vm.Alike.refl _)) hi).symm.trans (eqv_i (y := k) rfl h)
theorem own_elJ {cl : Cell} {ty : FieldType} {i : Int32} {k : Int64} (ev : t.eval args Z none [] Z = some (.ref a)) (A : Arr Z Z.heap a cl ty) (hi : ¬ i < 0) (h : (Cond.eq (.elem t (.int i)) (.long k)).value args Z none Z [] = some true) : cl.slots[i.toNatClampNeg]? = some (.long k) :=
  (elem_f ev rfl (A.fin (Vm.Alike.refl _)) hi).symm.trans (eqv_l (y := k) rfl h)
end OwnStart
end Jvm.RoadKit
namespace Jvm.Pilot.@@N@@
open Jvm Jvm.ClassFile Sem Op Lib Jvm.Free Jvm.Stand Jvm.LawKit Jvm.RoadKit Bundle Jvm.Pilot.@@N@@.Jvm.D
theorem own_w {ts : List Jvm.Cond} {Z : State} {a0 : Array Value} (hw : ∀ d ∈ ts, d.before a0 Z = true) (i : Nat) {d : Jvm.Cond} (h : ts[i]? = some d) : d.before a0 Z = true := hw d (List.mem_of_getElem? h)
theorem own_d1_0 : decode jdk_30_method_1_code 0 = .ok (.aload_n 0, 1) := by decide +kernel
theorem own_d1_1 : decode jdk_30_method_1_code 1 = .ok (.invokespecial 1, 3) := by decide +kernel
theorem own_d1_4 : decode jdk_30_method_1_code 4 = .ok (.return_, 1) := by decide +kernel
theorem own_pn0 : plainName "java/lang/Record" = true := by first | (simp [plainName, overriddenIn]; done) | decide +kernel
theorem own_ef1 (m : MethodId) (ad0 : Addr) : entryFrame m #[(.ref ad0)] 1 = mkF m 0 #[.val (.ref ad0)] [] := by first | (simp [entryFrame, mkF, argsToLocals, Value.category]; done) | rfl
def own_Q1 (Z : State) (ad0 : Addr) (h0 : Heap) (n0 : Nat) (v : Option Value) (h : Heap) (L : List Loc) : Prop := v = none ∧ Fr n0 L ∧ h = h0
set_option maxRecDepth 65536 in
set_option maxHeartbeats 40000000 in
theorem own_rm1 (l : Launch) (Z : State) (a0 : Array Value) (hw : ∀ d ∈ tables_1, d.before a0 Z = true) (ws : List Jvm.Cond) (ad0 : Addr) (h0 : Heap) (n0 : Nat) (Z0 : n0 ≤ h0.size) :
    MetFree l (⟨"java/lang/Record", "<init>", "()V"⟩ : MethodName) (head1 (Jvm.Cond.code (⟨"java/lang/Record", "<init>", "()V"⟩ : MethodName) jdk_30_method_1_code 1 none :: ws) ({ frames := 1, cells := 0, slots := 0, locals := 12 } : Room)) (fun a U => a = #[(.ref ad0)] ∧ Z.Warmed39 U.vm ∧ U.heap = h0) (fun _ _ _ _ _ => True) (fun _ U o U' => ∃ v L, o = .returned v ∧ own_Q1 Z ad0 h0 n0 v U'.heap L ∧ FrameEnd U o U' L ({ frames := 1, cells := 0, slots := 0, locals := 12 } : Room).cells ({ frames := 1, cells := 0, slots := 0, locals := 12 } : Room).slots) := by
  refine MetFree.of_bodySF (plainFor_of_name own_pn0) hisR ?_
  intro p e s m args below meth c s₁ Bd hml0 hP hK
  obtain ⟨rfl, hZ, hh⟩ := hP
  have hx := Bd.exec
  have hby := Bd.bytes
  have hlk := Bd.notSynchronized
  have hml : c.maxLocals = 1 := hml0
  have hown : s.vm.findClass "java/lang/Record" = some m.cls := findClass_of_methodNamed Bd.named
  have hnm := (name_of_methodNamed Bd.named Bd.method).1
  have X0 : Stand p l e ({ frames := 1, cells := 0, slots := 0, locals := 12 } : Room) s m #[(.ref ad0)] below meth c s₁ [] 0 0 := Stand.of_body Bd
  have e0 : s₁.heap = h0 := by rw [← hh, Bd.state]; rfl
  have N0 := Fr.nil n0
  have KR : Keep h0 h0 [] := Keep.refl _ _
  show own_Fin p e below s ({ frames := 1, cells := 0, slots := 0, locals := 12 } : Room).cells ({ frames := 1, cells := 0, slots := 0, locals := 12 } : Room).slots (own_Q1 Z ad0 h0 n0) (s₁.setTop (entryFrame m #[(.ref ad0)] 1))
  refine own_cast (own_ef1 m ad0) ?_
  refine own_step (fun _ k => XS.aloadN X0.here hx rfl (hb hby own_d1_0) rfl rfl k) ?_
  show own_Fin p e below s _ _ _ (s₁.setTop (mkF m 1 #[.val (.ref ad0)] [(.ref ad0)]))
  obtain ⟨T1, X1, e1, st1⟩ := initO X0 hx hZ hown (own_w hw 11 rfl) (own_w hw 12 rfl) (own_w hw 13 rfl) e0 (g := (mkF m 1 #[.val (.ref ad0)] [(.ref ad0)])) rfl (by rw [hml]; rfl) rfl (hb hby own_d1_1) (by decide) (W := 0) (by show 2 * 0 + _ ≤ _; exact Nat.le_of_eq rfl) (by decide)
  refine own_step st1 ?_
  show own_Fin p e below s _ _ _ (T1.setTop (mkF m 4 #[.val (.ref ad0)] []))
  exact own_ret X1 hlk (v := none) (fun _ => rfl) (by decide) (by decide) (by show own_Q1 Z ad0 h0 n0 _ T1.heap _; rw [e1]; exact ⟨rfl, N0, rfl⟩) (fun fs hr => X1.returnOut hx Bd.returns (hb hby own_d1_4) hr)

theorem own_pd0 : parseMethodDescriptor "()V" = some ⟨[], none⟩ := by decide +kernel
abbrev own_y0 : MethodName := (⟨"java/lang/Record", "<init>", "()V"⟩ : MethodName)
theorem own_d2_0 : decode prog_10_method_1_code 0 = .ok (.aload_n 0, 1) := by decide +kernel
theorem own_d2_1 : decode prog_10_method_1_code 1 = .ok (.invokespecial 1, 3) := by decide +kernel
theorem own_d2_4 : decode prog_10_method_1_code 4 = .ok (.aload_n 0, 1) := by decide +kernel
theorem own_d2_5 : decode prog_10_method_1_code 5 = .ok (.iload_n 1, 1) := by decide +kernel
theorem own_d2_6 : decode prog_10_method_1_code 6 = .ok (.putfield 7, 3) := by decide +kernel
theorem own_d2_9 : decode prog_10_method_1_code 9 = .ok (.aload_n 0, 1) := by decide +kernel
theorem own_d2_10 : decode prog_10_method_1_code 10 = .ok (.iload_n 2, 1) := by decide +kernel
theorem own_d2_11 : decode prog_10_method_1_code 11 = .ok (.putfield 13, 3) := by decide +kernel
theorem own_d2_14 : decode prog_10_method_1_code 14 = .ok (.return_, 1) := by decide +kernel
theorem own_pn1 : plainName "com/example/tandem/tandem/analysis/Cuts$Range" = true := by first | (simp [plainName, overriddenIn]; done) | decide +kernel
theorem own_ef2 (m : MethodId) (ad0 : Addr) (p1 : Int32) (p2 : Int32) : entryFrame m #[(.ref ad0), (.int p1), (.int p2)] 3 = mkF m 0 #[.val (.ref ad0), .val (.int p1), .val (.int p2)] [] := by first | (simp [entryFrame, mkF, argsToLocals, Value.category]; done) | rfl
def own_Q2 (Z : State) (ad0 : Addr) (p1 : Int32) (p2 : Int32) (ufrom_ad0 : Value) (uto_ad0 : Value) (h0 : Heap) (n0 : Nat) (v : Option Value) (h : Heap) (L : List Loc) : Prop := Fr n0 L ∧ Keep h0 h [ad0] ∧ v = none ∧ Exa Z h ad0 "com/example/tandem/tandem/analysis/Cuts$Range" ∧ Fld Z h ad0 "com/example/tandem/tandem/analysis/Cuts$Range" "from" "I" (.int p1) ∧ Fld Z h ad0 "com/example/tandem/tandem/analysis/Cuts$Range" "to" "I" (.int p2)
set_option maxRecDepth 65536 in
set_option maxHeartbeats 40000000 in
theorem own_rm2 (l : Launch) (Z : State) (a0 : Array Value) (hw : ∀ d ∈ tables_1, d.before a0 Z = true) (ws : List Jvm.Cond) (ad0 : Addr) (p1 : Int32) (p2 : Int32) (ufrom_ad0 : Value) (uto_ad0 : Value) (h0 : Heap) (n0 : Nat) (Z0 : n0 ≤ h0.size) (E_ad0 : Exa Z h0 ad0 "com/example/tandem/tandem/analysis/Cuts$Range") (F_from_ad0 : Fld Z h0 ad0 "com/example/tandem/tandem/analysis/Cuts$Range" "from" "I" ufrom_ad0) (F_to_ad0 : Fld Z h0 ad0 "com/example/tandem/tandem/analysis/Cuts$Range" "to" "I" uto_ad0) (g_ad0 : n0 ≤ ad0) :
    MetFree l (⟨"com/example/tandem/tandem/analysis/Cuts$Range", "<init>", "(II)V"⟩ : MethodName) (head1 (Jvm.Cond.code (⟨"com/example/tandem/tandem/analysis/Cuts$Range", "<init>", "(II)V"⟩ : MethodName) prog_10_method_1_code 3 none :: ws) ({ frames := 2, cells := 0, slots := 0, locals := 24 } : Room)) (fun a U => a = #[(.ref ad0), (.int p1), (.int p2)] ∧ Z.Warmed39 U.vm ∧ U.heap = h0) (fun _ _ _ _ _ => True) (fun _ U o U' => ∃ v L, o = .returned v ∧ own_Q2 Z ad0 p1 p2 ufrom_ad0 uto_ad0 h0 n0 v U'.heap L ∧ FrameEnd U o U' L ({ frames := 2, cells := 0, slots := 0, locals := 24 } : Room).cells ({ frames := 2, cells := 0, slots := 0, locals := 24 } : Room).slots) := by
  refine MetFree.of_bodySF (plainFor_of_name own_pn1) hisR ?_
  intro p e s m args below meth c s₁ Bd hml0 hP hK
  obtain ⟨rfl, hZ, hh⟩ := hP
  have hx := Bd.exec
  have hby := Bd.bytes
  have hlk := Bd.notSynchronized
  have hml : c.maxLocals = 3 := hml0
  have hown : s.vm.findClass "com/example/tandem/tandem/analysis/Cuts$Range" = some m.cls := findClass_of_methodNamed Bd.named
  have hnm := (name_of_methodNamed Bd.named Bd.method).1
  have X0 : Stand p l e ({ frames := 2, cells := 0, slots := 0, locals := 24 } : Room) s m #[(.ref ad0), (.int p1), (.int p2)] below meth c s₁ [] 0 0 := Stand.of_body Bd
  have e0 : s₁.heap = h0 := by rw [← hh, Bd.state]; rfl
  have N0 := Fr.nil n0
  have KR : Keep h0 h0 [ad0] := Keep.refl _ _
  show own_Fin p e below s ({ frames := 2, cells := 0, slots := 0, locals := 24 } : Room).cells ({ frames := 2, cells := 0, slots := 0, locals := 24 } : Room).slots (own_Q2 Z ad0 p1 p2 ufrom_ad0 uto_ad0 h0 n0) (s₁.setTop (entryFrame m #[(.ref ad0), (.int p1), (.int p2)] 3))
  refine own_cast (own_ef2 m ad0 p1 p2) ?_
  refine own_step (fun _ k => XS.aloadN X0.here hx rfl (hb hby own_d2_0) rfl rfl k) ?_
  show own_Fin p e below s _ _ _ (s₁.setTop (mkF m 1 #[.val (.ref ad0), .val (.int p1), .val (.int p2)] [(.ref ad0)]))
  obtain ⟨_, _, ⟨T1, L1, k1, n1⟩, -, X1, ⟨Lc1, hQ1, l1, y1, z1⟩, st1⟩ := X0.specialBack hx (y := own_y0) rfl hown (mvT hZ (own_w hw 6 rfl)) (mvT hZ (own_w hw 7 rfl)) (mvT hZ (own_w hw 10 rfl)) (by decide) (backOf (W := 0) (own_rm1 l Z a0 hw [] ad0 h0 n0 Z0 ) hZ (own_w hw 10 rfl) (own_w hw 9 rfl) (by decide) (by decide)) (g := (mkF m 1 #[.val (.ref ad0), .val (.int p1), .val (.int p2)] [(.ref ad0)])) rfl (by rw [hml]; rfl) (Steps.refl _) (a := ad0) (argsL := []) (rest := []) (lenOf own_pd0 rfl) rfl (by show 2 * 0 + _ ≤ _; exact Nat.le_of_eq rfl) (hb hby own_d2_1) (fun _ _ => ⟨rfl, e0, (by decide : 0 + 0 ≤ _), (by decide : 0 + 0 ≤ _)⟩)
  dsimp only [Pt.U, Pt.locs, Pt.cells, Pt.slots] at X1 l1 y1 z1 st1 hQ1
  subst l1 y1 z1
  obtain ⟨rfl, N1q, e1⟩ := hQ1
  have N1 := Fr.app N0 N1q
  refine own_step (fun _ k => st1.trans k) ?_
  show own_Fin p e below s _ _ _ (T1.setTop (mkF m 4 #[.val (.ref ad0), .val (.int p1), .val (.int p2)] []))
  refine own_step (fun _ k => XS.aloadN X1.here hx rfl (hb hby own_d2_4) rfl rfl k) ?_
  show own_Fin p e below s _ _ _ (T1.setTop (mkF m 5 #[.val (.ref ad0), .val (.int p1), .val (.int p2)] [(.ref ad0)]))
  refine own_step (fun _ k => XS.iloadN X1.here hx rfl (hb hby own_d2_5) rfl k) ?_
  show own_Fin p e below s _ _ _ (T1.setTop (mkF m 6 #[.val (.ref ad0), .val (.int p1), .val (.int p2)] [(.int p1), (.ref ad0)]))
  obtain ⟨T2, h2, X2, e2, W2, st2⟩ := putF X1 hx hZ hown (host := "") (Or.inl (own_w hw 14 rfl)) Via.refl e1 F_from_ad0 E_ad0 (Or.inr ⟨(own_w hw 15 rfl), rfl, hnm⟩) (own_w hw 1 rfl) (ty := .int) (by decide) rfl rfl (g := (mkF m 6 #[.val (.ref ad0), .val (.int p1), .val (.int p2)] [(.int p1), (.ref ad0)])) rfl rfl (hb hby own_d2_6)
  have N2 := Fr.snoc X2 N1 g_ad0
  have K2 : Keep h0 h2 [ad0] := KR.wr W2 (Or.inl (List.mem_of_getElem? (i := 0) rfl))
  have Z2 : n0 ≤ h2.size := Nat.le_trans Z0 (Keep.of_wr W2).1
  have G3 := (E_ad0.wr W2)
  have G4 := (F_to_ad0.other W2 (Or.inr (slot_ne (Or.inr (own_w hw 17 rfl)) (Or.inr (own_w hw 15 rfl)) (by decide) (t := .int) (t' := .int) (by decide) (by decide))))
  have G5 := F_from_ad0.same W2
  refine own_step st2 ?_
  show own_Fin p e below s _ _ _ (T2.setTop (mkF m 9 #[.val (.ref ad0), .val (.int p1), .val (.int p2)] []))
  refine own_step (fun _ k => XS.aloadN X2.here hx rfl (hb hby own_d2_9) rfl rfl k) ?_
  show own_Fin p e below s _ _ _ (T2.setTop (mkF m 10 #[.val (.ref ad0), .val (.int p1), .val (.int p2)] [(.ref ad0)]))
  refine own_step (fun _ k => XS.iloadN X2.here hx rfl (hb hby own_d2_10) rfl k) ?_
  show own_Fin p e below s _ _ _ (T2.setTop (mkF m 11 #[.val (.ref ad0), .val (.int p1), .val (.int p2)] [(.int p2), (.ref ad0)]))
  obtain ⟨T6, h6, X6, e6, W6, st6⟩ := putF X2 hx hZ hown (host := "") (Or.inl (own_w hw 16 rfl)) Via.refl e2 G4 G3 (Or.inr ⟨(own_w hw 17 rfl), rfl, hnm⟩) (own_w hw 1 rfl) (ty := .int) (by decide) rfl rfl (g := (mkF m 11 #[.val (.ref ad0), .val (.int p1), .val (.int p2)] [(.int p2), (.ref ad0)])) rfl rfl (hb hby own_d2_11)
  have N6 := Fr.snoc X6 N2 g_ad0
  have K6 : Keep h0 h6 [ad0] := K2.wr W6 (Or.inl (List.mem_of_getElem? (i := 0) rfl))
  have Z6 : n0 ≤ h6.size := Nat.le_trans Z2 (Keep.of_wr W6).1
  have G7 := (G3.wr W6)
  have G8 := (G5.other W6 (Or.inr (slot_ne (Or.inr (own_w hw 15 rfl)) (Or.inr (own_w hw 17 rfl)) (by decide) (t := .int) (t' := .int) (by decide) (by decide))))
  have G9 := G4.same W6
  refine own_step st6 ?_
  show own_Fin p e below s _ _ _ (T6.setTop (mkF m 14 #[.val (.ref ad0), .val (.int p1), .val (.int p2)] []))
  exact own_ret X6 hlk (v := none) (fun _ => rfl) (by decide) (by decide) (by show own_Q2 Z ad0 p1 p2 ufrom_ad0 uto_ad0 h0 n0 _ T6.heap _; rw [e6]; exact ⟨N6, K6, rfl, G7, G8, G9⟩) (fun fs hr => X6.returnOut hx Bd.returns (hb hby own_d2_14) hr)

theorem own_d3_0 : decode prog_10_method_3_code 0 = .ok (.bipush 31, 2) := by decide +kernel
theorem own_d3_2 : decode prog_10_method_3_code 2 = .ok (.aload_n 0, 1) := by decide +kernel
theorem own_d3_3 : decode prog_10_method_3_code 3 = .ok (.getfield 7, 3) := by decide +kernel
theorem own_d3_6 : decode prog_10_method_3_code 6 = .ok (.imul, 1) := by decide +kernel
theorem own_d3_7 : decode prog_10_method_3_code 7 = .ok (.aload_n 0, 1) := by decide +kernel
theorem own_d3_8 : decode prog_10_method_3_code 8 = .ok (.getfield 13, 3) := by decide +kernel
theorem own_d3_11 : decode prog_10_method_3_code 11 = .ok (.iadd, 1) := by decide +kernel
theorem own_d3_12 : decode prog_10_method_3_code 12 = .ok (.ireturn, 1) := by decide +kernel
theorem own_ef3 (m : MethodId) (ad0 : Addr) : entryFrame m #[(.ref ad0)] 1 = mkF m 0 #[.val (.ref ad0)] [] := by first | (simp [entryFrame, mkF, argsToLocals, Value.category]; done) | rfl
def own_Q3 (Z : State) (ad0 : Addr) (wfrom_ad0 : Int32) (wto_ad0 : Int32) (h0 : Heap) (n0 : Nat) (v : Option Value) (h : Heap) (L : List Loc) : Prop := v = some (.int (((31 : Int32) * wfrom_ad0) + wto_ad0)) ∧ Fr n0 L ∧ h = h0
set_option maxRecDepth 65536 in
set_option maxHeartbeats 40000000 in
theorem own_rm3 (l : Launch) (Z : State) (a0 : Array Value) (hw : ∀ d ∈ tables_1, d.before a0 Z = true) (ws : List Jvm.Cond) (ad0 : Addr) (wfrom_ad0 : Int32) (wto_ad0 : Int32) (h0 : Heap) (n0 : Nat) (Z0 : n0 ≤ h0.size) (F_from_ad0 : Fld Z h0 ad0 "com/example/tandem/tandem/analysis/Cuts$Range" "from" "I" (.int wfrom_ad0)) (F_to_ad0 : Fld Z h0 ad0 "com/example/tandem/tandem/analysis/Cuts$Range" "to" "I" (.int wto_ad0)) :
    MetFree l (⟨"com/example/tandem/tandem/analysis/Cuts$Range", "hashCode", "()I"⟩ : MethodName) (head1 (Jvm.Cond.code (⟨"com/example/tandem/tandem/analysis/Cuts$Range", "hashCode", "()I"⟩ : MethodName) prog_10_method_3_code 1 (some .int) :: ws) ({ frames := 0, cells := 0, slots := 0, locals := 0 } : Room)) (fun a U => a = #[(.ref ad0)] ∧ Z.Warmed39 U.vm ∧ U.heap = h0) (fun _ _ _ _ _ => True) (fun _ U o U' => ∃ v L, o = .returned v ∧ own_Q3 Z ad0 wfrom_ad0 wto_ad0 h0 n0 v U'.heap L ∧ FrameEnd U o U' L ({ frames := 0, cells := 0, slots := 0, locals := 0 } : Room).cells ({ frames := 0, cells := 0, slots := 0, locals := 0 } : Room).slots) := by
  refine MetFree.of_bodySF (plainFor_of_name own_pn1) hisR ?_
  intro p e s m args below meth c s₁ Bd hml0 hP hK
  obtain ⟨rfl, hZ, hh⟩ := hP
  have hx := Bd.exec
  have hby := Bd.bytes
  have hlk := Bd.notSynchronized
  have hml : c.maxLocals = 1 := hml0
  have hown : s.vm.findClass "com/example/tandem/tandem/analysis/Cuts$Range" = some m.cls := findClass_of_methodNamed Bd.named
  have hnm := (name_of_methodNamed Bd.named Bd.method).1
  have X0 : Stand p l e ({ frames := 0, cells := 0, slots := 0, locals := 0 } : Room) s m #[(.ref ad0)] below meth c s₁ [] 0 0 := Stand.of_body Bd
  have e0 : s₁.heap = h0 := by rw [← hh, Bd.state]; rfl
  have N0 := Fr.nil n0
  have KR : Keep h0 h0 [] := Keep.refl _ _
  show own_Fin p e below s ({ frames := 0, cells := 0, slots := 0, locals := 0 } : Room).cells ({ frames := 0, cells := 0, slots := 0, locals := 0 } : Room).slots (own_Q3 Z ad0 wfrom_ad0 wto_ad0 h0 n0) (s₁.setTop (entryFrame m #[(.ref ad0)] 1))
  refine own_cast (own_ef3 m ad0) ?_
  refine own_step (fun _ k => XS.bipush X0.here hx rfl (hb hby own_d3_0) k) ?_
  show own_Fin p e below s _ _ _ (s₁.setTop (mkF m 2 #[.val (.ref ad0)] [(.int (31 : Int32))]))
  refine own_step (fun _ k => XS.aloadN X0.here hx rfl (hb hby own_d3_2) rfl rfl k) ?_
  show own_Fin p e below s _ _ _ (s₁.setTop (mkF m 3 #[.val (.ref ad0)] [(.ref ad0), (.int (31 : Int32))]))
  obtain ⟨T1, X1, e1, st1⟩ := getF X0 hx hZ hown (host := "") (Or.inl (own_w hw 14 rfl)) Via.refl e0 F_from_ad0 (g := (mkF m 3 #[.val (.ref ad0)] [(.ref ad0), (.int (31 : Int32))])) rfl rfl (hb hby own_d3_3)
  refine own_step st1 ?_
  show own_Fin p e below s _ _ _ (T1.setTop (mkF m 6 #[.val (.ref ad0)] [(.int wfrom_ad0), (.int (31 : Int32))]))
  refine own_step (fun _ k => XS.imul X1.here hx rfl (hb hby own_d3_6) rfl k) ?_
  show own_Fin p e below s _ _ _ (T1.setTop (mkF m 7 #[.val (.ref ad0)] [(.int ((31 : Int32) * wfrom_ad0))]))
  refine own_step (fun _ k => XS.aloadN X1.here hx rfl (hb hby own_d3_7) rfl rfl k) ?_
  show own_Fin p e below s _ _ _ (T1.setTop (mkF m 8 #[.val (.ref ad0)] [(.ref ad0), (.int ((31 : Int32) * wfrom_ad0))]))
  obtain ⟨T2, X2, e2, st2⟩ := getF X1 hx hZ hown (host := "") (Or.inl (own_w hw 16 rfl)) Via.refl e1 F_to_ad0 (g := (mkF m 8 #[.val (.ref ad0)] [(.ref ad0), (.int ((31 : Int32) * wfrom_ad0))])) rfl rfl (hb hby own_d3_8)
  refine own_step st2 ?_
  show own_Fin p e below s _ _ _ (T2.setTop (mkF m 11 #[.val (.ref ad0)] [(.int wto_ad0), (.int ((31 : Int32) * wfrom_ad0))]))
  refine own_step (fun _ k => XS.iadd X2.here hx rfl (hb hby own_d3_11) rfl k) ?_
  show own_Fin p e below s _ _ _ (T2.setTop (mkF m 12 #[.val (.ref ad0)] [(.int (((31 : Int32) * wfrom_ad0) + wto_ad0))]))
  exact own_ret X2 hlk (v := some (.int (((31 : Int32) * wfrom_ad0) + wto_ad0))) (fun h => by rw [Bd.returns] at h; cases h) (by decide) (by decide) (by show own_Q3 Z ad0 wfrom_ad0 wto_ad0 h0 n0 _ T2.heap _; rw [e2]; exact ⟨rfl, N0, rfl⟩) (fun fs hr => retOut X2 hx Bd.returns rfl (Or.inl ⟨rfl, Or.inl rfl, _, rfl⟩) (hb hby own_d3_12) hr)

def own_r4 (wfrom_ad1 : Int32) (wfrom_ad0 : Int32) (wto_ad1 : Int32) (wto_ad0 : Int32) : Int32 := (if wfrom_ad1 = wfrom_ad0 then (if wto_ad1 = wto_ad0 then (1 : Int32) else (0 : Int32)) else (0 : Int32))
theorem own_d4_0 : decode prog_10_method_2_code 0 = .ok (.aload_n 1, 1) := by decide +kernel
theorem own_d4_1 : decode prog_10_method_2_code 1 = .ok (.instanceof 8, 3) := by decide +kernel
theorem own_d4_4 : decode prog_10_method_2_code 4 = .ok (.ifCond .eq 34, 3) := by decide +kernel
theorem own_d4_7 : decode prog_10_method_2_code 7 = .ok (.aload_n 1, 1) := by decide +kernel
theorem own_d4_8 : decode prog_10_method_2_code 8 = .ok (.checkcast 8, 3) := by decide +kernel
theorem own_d4_11 : decode prog_10_method_2_code 11 = .ok (.astore_n 2, 1) := by decide +kernel
theorem own_d4_12 : decode prog_10_method_2_code 12 = .ok (.aload_n 2, 1) := by decide +kernel
theorem own_d4_13 : decode prog_10_method_2_code 13 = .ok (.getfield 7, 3) := by decide +kernel
theorem own_d4_16 : decode prog_10_method_2_code 16 = .ok (.aload_n 0, 1) := by decide +kernel
theorem own_d4_17 : decode prog_10_method_2_code 17 = .ok (.getfield 7, 3) := by decide +kernel
theorem own_d4_20 : decode prog_10_method_2_code 20 = .ok (.if_icmp .ne 18, 3) := by decide +kernel
theorem own_d4_23 : decode prog_10_method_2_code 23 = .ok (.aload_n 2, 1) := by decide +kernel
theorem own_d4_24 : decode prog_10_method_2_code 24 = .ok (.getfield 13, 3) := by decide +kernel
theorem own_d4_27 : decode prog_10_method_2_code 27 = .ok (.aload_n 0, 1) := by decide +kernel
theorem own_d4_28 : decode prog_10_method_2_code 28 = .ok (.getfield 13, 3) := by decide +kernel
theorem own_d4_31 : decode prog_10_method_2_code 31 = .ok (.if_icmp .ne 7, 3) := by decide +kernel
theorem own_d4_34 : decode prog_10_method_2_code 34 = .ok (.iconst 1, 1) := by decide +kernel
theorem own_d4_35 : decode prog_10_method_2_code 35 = .ok (.goto 4, 3) := by decide +kernel
theorem own_d4_38 : decode prog_10_method_2_code 38 = .ok (.iconst 0, 1) := by decide +kernel
theorem own_d4_39 : decode prog_10_method_2_code 39 = .ok (.ireturn, 1) := by decide +kernel
theorem own_ef4 (m : MethodId) (ad0 : Addr) (ad1 : Addr) : entryFrame m #[(.ref ad0), (.ref ad1)] 3 = mkF m 0 #[.val (.ref ad0), .val (.ref ad1), .unset] [] := by first | (simp [entryFrame, mkF, argsToLocals, Value.category]; done) | rfl
def own_Q4 (Z : State) (ad0 : Addr) (ad1 : Addr) (wfrom_ad1 : Int32) (wfrom_ad0 : Int32) (wto_ad1 : Int32) (wto_ad0 : Int32) (h0 : Heap) (n0 : Nat) (v : Option Value) (h : Heap) (L : List Loc) : Prop := v = some (.int (own_r4 wfrom_ad1 wfrom_ad0 wto_ad1 wto_ad0)) ∧ Fr n0 L ∧ h = h0
set_option maxRecDepth 65536 in
set_option maxHeartbeats 40000000 in
theorem own_rm4 (l : Launch) (Z : State) (a0 : Array Value) (hw : ∀ d ∈ tables_1, d.before a0 Z = true) (ws : List Jvm.Cond) (ad0 : Addr) (ad1 : Addr) (wfrom_ad1 : Int32) (wfrom_ad0 : Int32) (wto_ad1 : Int32) (wto_ad0 : Int32) (h0 : Heap) (n0 : Nat) (Z0 : n0 ≤ h0.size) (E_ad1 : Exa Z h0 ad1 "com/example/tandem/tandem/analysis/Cuts$Range") (F_from_ad1 : Fld Z h0 ad1 "com/example/tandem/tandem/analysis/Cuts$Range" "from" "I" (.int wfrom_ad1)) (F_from_ad0 : Fld Z h0 ad0 "com/example/tandem/tandem/analysis/Cuts$Range" "from" "I" (.int wfrom_ad0)) (F_to_ad1 : Fld Z h0 ad1 "com/example/tandem/tandem/analysis/Cuts$Range" "to" "I" (.int wto_ad1)) (F_to_ad0 : Fld Z h0 ad0 "com/example/tandem/tandem/analysis/Cuts$Range" "to" "I" (.int wto_ad0)) :
    MetFree l (⟨"com/example/tandem/tandem/analysis/Cuts$Range", "equals", "(Ljava/lang/Object;)Z"⟩ : MethodName) (head1 (Jvm.Cond.code (⟨"com/example/tandem/tandem/analysis/Cuts$Range", "equals", "(Ljava/lang/Object;)Z"⟩ : MethodName) prog_10_method_2_code 3 (some .boolean) :: ws) ({ frames := 0, cells := 0, slots := 0, locals := 0 } : Room)) (fun a U => a = #[(.ref ad0), (.ref ad1)] ∧ Z.Warmed39 U.vm ∧ U.heap = h0) (fun _ _ _ _ _ => True) (fun _ U o U' => ∃ v L, o = .returned v ∧ own_Q4 Z ad0 ad1 wfrom_ad1 wfrom_ad0 wto_ad1 wto_ad0 h0 n0 v U'.heap L ∧ FrameEnd U o U' L ({ frames := 0, cells := 0, slots := 0, locals := 0 } : Room).cells ({ frames := 0, cells := 0, slots := 0, locals := 0 } : Room).slots) := by
  refine MetFree.of_bodySF (plainFor_of_name own_pn1) hisR ?_
  intro p e s m args below meth c s₁ Bd hml0 hP hK
  obtain ⟨rfl, hZ, hh⟩ := hP
  have hx := Bd.exec
  have hby := Bd.bytes
  have hlk := Bd.notSynchronized
  have hml : c.maxLocals = 3 := hml0
  have hown : s.vm.findClass "com/example/tandem/tandem/analysis/Cuts$Range" = some m.cls := findClass_of_methodNamed Bd.named
  have hnm := (name_of_methodNamed Bd.named Bd.method).1
  have X0 : Stand p l e ({ frames := 0, cells := 0, slots := 0, locals := 0 } : Room) s m #[(.ref ad0), (.ref ad1)] below meth c s₁ [] 0 0 := Stand.of_body Bd
  have e0 : s₁.heap = h0 := by rw [← hh, Bd.state]; rfl
  have N0 := Fr.nil n0
  have KR : Keep h0 h0 [] := Keep.refl _ _
  show own_Fin p e below s ({ frames := 0, cells := 0, slots := 0, locals := 0 } : Room).cells ({ frames := 0, cells := 0, slots := 0, locals := 0 } : Room).slots (own_Q4 Z ad0 ad1 wfrom_ad1 wfrom_ad0 wto_ad1 wto_ad0 h0 n0) (s₁.setTop (entryFrame m #[(.ref ad0), (.ref ad1)] 3))
  refine own_cast (own_ef4 m ad0 ad1) ?_
  refine own_step (fun _ k => XS.aloadN X0.here hx rfl (hb hby own_d4_0) rfl rfl k) ?_
  show own_Fin p e below s _ _ _ (s₁.setTop (mkF m 1 #[.val (.ref ad0), .val (.ref ad1), .unset] [(.ref ad1)]))
  obtain ⟨T1, X1, e1, st1⟩ := instY X0 hx hZ hown (own_w hw 28 rfl) e0 (Ins.self E_ad1) (g := (mkF m 1 #[.val (.ref ad0), .val (.ref ad1), .unset] [(.ref ad1)])) rfl rfl (hb hby own_d4_1)
  refine own_step st1 ?_
  show own_Fin p e below s _ _ _ (T1.setTop (mkF m 4 #[.val (.ref ad0), .val (.ref ad1), .unset] [(.int (1 : Int32))]))
  refine own_step (fun _ k => XS.ifNo X1.here hx rfl (hb hby own_d4_4) rfl ((if0 _ _).trans (feq (by decide : ¬ ((1 : Int32) = (0 : Int32)))).1) k) ?_
  show own_Fin p e below s _ _ _ (T1.setTop (mkF m 7 #[.val (.ref ad0), .val (.ref ad1), .unset] []))
  refine own_step (fun _ k => XS.aloadN X1.here hx rfl (hb hby own_d4_7) rfl rfl k) ?_
  show own_Fin p e below s _ _ _ (T1.setTop (mkF m 8 #[.val (.ref ad0), .val (.ref ad1), .unset] [(.ref ad1)]))
  obtain ⟨T2, X2, e2, st2⟩ := castY X1 hx hZ hown (own_w hw 28 rfl) e1 (Ins.self E_ad1) (g := (mkF m 8 #[.val (.ref ad0), .val (.ref ad1), .unset] [(.ref ad1)])) rfl rfl (hb hby own_d4_8)
  refine own_step st2 ?_
  show own_Fin p e below s _ _ _ (T2.setTop (mkF m 11 #[.val (.ref ad0), .val (.ref ad1), .unset] [(.ref ad1)]))
  refine own_step (fun _ k => XS.astoreN X2.here hx rfl (hb hby own_d4_11) rfl rfl (l' := #[.val (.ref ad0), .val (.ref ad1), .val (.ref ad1)]) rfl k) ?_
  show own_Fin p e below s _ _ _ (T2.setTop (mkF m 12 #[.val (.ref ad0), .val (.ref ad1), .val (.ref ad1)] []))
  refine own_step (fun _ k => XS.aloadN X2.here hx rfl (hb hby own_d4_12) rfl rfl k) ?_
  show own_Fin p e below s _ _ _ (T2.setTop (mkF m 13 #[.val (.ref ad0), .val (.ref ad1), .val (.ref ad1)] [(.ref ad1)]))
  obtain ⟨T3, X3, e3, st3⟩ := getF X2 hx hZ hown (host := "") (Or.inl (own_w hw 14 rfl)) Via.refl e2 F_from_ad1 (g := (mkF m 13 #[.val (.ref ad0), .val (.ref ad1), .val (.ref ad1)] [(.ref ad1)])) rfl rfl (hb hby own_d4_13)
  refine own_step st3 ?_
  show own_Fin p e below s _ _ _ (T3.setTop (mkF m 16 #[.val (.ref ad0), .val (.ref ad1), .val (.ref ad1)] [(.int wfrom_ad1)]))
  refine own_step (fun _ k => XS.aloadN X3.here hx rfl (hb hby own_d4_16) rfl rfl k) ?_
  show own_Fin p e below s _ _ _ (T3.setTop (mkF m 17 #[.val (.ref ad0), .val (.ref ad1), .val (.ref ad1)] [(.ref ad0), (.int wfrom_ad1)]))
  obtain ⟨T4, X4, e4, st4⟩ := getF X3 hx hZ hown (host := "") (Or.inl (own_w hw 14 rfl)) Via.refl e3 F_from_ad0 (g := (mkF m 17 #[.val (.ref ad0), .val (.ref ad1), .val (.ref ad1)] [(.ref ad0), (.int wfrom_ad1)])) rfl rfl (hb hby own_d4_17)
  refine own_step st4 ?_
  show own_Fin p e below s _ _ _ (T4.setTop (mkF m 20 #[.val (.ref ad0), .val (.ref ad1), .val (.ref ad1)] [(.int wfrom_ad0), (.int wfrom_ad1)]))
  by_cases hc5 : wfrom_ad1 = wfrom_ad0
  · refine own_step (fun _ k => XS.icmpNo X4.here hx rfl (hb hby own_d4_20) rfl (teq hc5).2 k) ?_
    show own_Fin p e below s _ _ _ (T4.setTop (mkF m 23 #[.val (.ref ad0), .val (.ref ad1), .val (.ref ad1)] []))
    refine own_step (fun _ k => XS.aloadN X4.here hx rfl (hb hby own_d4_23) rfl rfl k) ?_
    show own_Fin p e below s _ _ _ (T4.setTop (mkF m 24 #[.val (.ref ad0), .val (.ref ad1), .val (.ref ad1)] [(.ref ad1)]))
    obtain ⟨T6, X6, e6, st6⟩ := getF X4 hx hZ hown (host := "") (Or.inl (own_w hw 16 rfl)) Via.refl e4 F_to_ad1 (g := (mkF m 24 #[.val (.ref ad0), .val (.ref ad1), .val (.ref ad1)] [(.ref ad1)])) rfl rfl (hb hby own_d4_24)
    refine own_step st6 ?_
    show own_Fin p e below s _ _ _ (T6.setTop (mkF m 27 #[.val (.ref ad0), .val (.ref ad1), .val (.ref ad1)] [(.int wto_ad1)]))
    refine own_step (fun _ k => XS.aloadN X6.here hx rfl (hb hby own_d4_27) rfl rfl k) ?_
    show own_Fin p e below s _ _ _ (T6.setTop (mkF m 28 #[.val (.ref ad0), .val (.ref ad1), .val (.ref ad1)] [(.ref ad0), (.int wto_ad1)]))
    obtain ⟨T7, X7, e7, st7⟩ := getF X6 hx hZ hown (host := "") (Or.inl (own_w hw 16 rfl)) Via.refl e6 F_to_ad0 (g := (mkF m 28 #[.val (.ref ad0), .val (.ref ad1), .val (.ref ad1)] [(.ref ad0), (.int wto_ad1)])) rfl rfl (hb hby own_d4_28)
    refine own_step st7 ?_
    show own_Fin p e below s _ _ _ (T7.setTop (mkF m 31 #[.val (.ref ad0), .val (.ref ad1), .val (.ref ad1)] [(.int wto_ad0), (.int wto_ad1)]))
    by_cases hc8 : wto_ad1 = wto_ad0
    · refine own_step (fun _ k => XS.icmpNo X7.here hx rfl (hb hby own_d4_31) rfl (teq hc8).2 k) ?_
      show own_Fin p e below s _ _ _ (T7.setTop (mkF m 34 #[.val (.ref ad0), .val (.ref ad1), .val (.ref ad1)] []))
      refine own_step (fun _ k => XS.iconst X7.here hx rfl (hb hby own_d4_34) k) ?_
      show own_Fin p e below s _ _ _ (T7.setTop (mkF m 35 #[.val (.ref ad0), .val (.ref ad1), .val (.ref ad1)] [(.int (1 : Int32))]))
      refine own_step (fun _ k => XS.goto X7.here hx rfl (pc0 := 35) (pc' := 39) rfl (hb hby own_d4_35) (by decide) (by decide) k) ?_
      show own_Fin p e below s _ _ _ (T7.setTop (mkF m 39 #[.val (.ref ad0), .val (.ref ad1), .val (.ref ad1)] [(.int (1 : Int32))]))
      exact own_ret X7 hlk (v := some (.int (1 : Int32))) (fun h => by rw [Bd.returns] at h; cases h) (by decide) (by decide) (by show own_Q4 Z ad0 ad1 wfrom_ad1 wfrom_ad0 wto_ad1 wto_ad0 h0 n0 _ T7.heap _; rw [e7]; exact ⟨(congrArg (fun z => some (Value.int z)) (show (own_r4 wfrom_ad1 wfrom_ad0 wto_ad1 wto_ad0) = (1 : Int32) from by rw [own_r4, if_pos hc5, if_pos hc8]).symm), N0, rfl⟩) (fun fs hr => retN X7 hx (t := .boolean) Bd.returns (by simp) (hb hby own_d4_39) hr)
    · refine own_step (fun _ k => XS.icmpYes X7.here hx rfl (pc0 := 31) (pc' := 38) rfl (hb hby own_d4_31) rfl (feq hc8).2 (by decide) (by decide) k) ?_
      show own_Fin p e below s _ _ _ (T7.setTop (mkF m 38 #[.val (.ref ad0), .val (.ref ad1), .val (.ref ad1)] []))
      refine own_step (fun _ k => XS.iconst X7.here hx rfl (hb hby own_d4_38) k) ?_
      show own_Fin p e below s _ _ _ (T7.setTop (mkF m 39 #[.val (.ref ad0), .val (.ref ad1), .val (.ref ad1)] [(.int (0 : Int32))]))
      exact own_ret X7 hlk (v := some (.int (0 : Int32))) (fun h => by rw [Bd.returns] at h; cases h) (by decide) (by decide) (by show own_Q4 Z ad0 ad1 wfrom_ad1 wfrom_ad0 wto_ad1 wto_ad0 h0 n0 _ T7.heap _; rw [e7]; exact ⟨(congrArg (fun z => some (Value.int z)) (show (own_r4 wfrom_ad1 wfrom_ad0 wto_ad1 wto_ad0) = (0 : Int32) from by rw [own_r4, if_pos hc5, if_neg hc8]).symm), N0, rfl⟩) (fun fs hr => retN X7 hx (t := .boolean) Bd.returns (by simp) (hb hby own_d4_39) hr)
  · refine own_step (fun _ k => XS.icmpYes X4.here hx rfl (pc0 := 20) (pc' := 38) rfl (hb hby own_d4_20) rfl (feq hc5).2 (by decide) (by decide) k) ?_
    show own_Fin p e below s _ _ _ (T4.setTop (mkF m 38 #[.val (.ref ad0), .val (.ref ad1), .val (.ref ad1)] []))
    refine own_step (fun _ k => XS.iconst X4.here hx rfl (hb hby own_d4_38) k) ?_
    show own_Fin p e below s _ _ _ (T4.setTop (mkF m 39 #[.val (.ref ad0), .val (.ref ad1), .val (.ref ad1)] [(.int (0 : Int32))]))
    exact own_ret X4 hlk (v := some (.int (0 : Int32))) (fun h => by rw [Bd.returns] at h; cases h) (by decide) (by decide) (by show own_Q4 Z ad0 ad1 wfrom_ad1 wfrom_ad0 wto_ad1 wto_ad0 h0 n0 _ T4.heap _; rw [e4]; exact ⟨(congrArg (fun z => some (Value.int z)) (show (own_r4 wfrom_ad1 wfrom_ad0 wto_ad1 wto_ad0) = (0 : Int32) from by rw [own_r4, if_neg hc5]).symm), N0, rfl⟩) (fun fs hr => retN X4 hx (t := .boolean) Bd.returns (by simp) (hb hby own_d4_39) hr)

theorem own_pd1 : parseMethodDescriptor "(II)V" = some ⟨[.int, .int], none⟩ := by decide +kernel
abbrev own_y1 : MethodName := (⟨"com/example/tandem/tandem/analysis/Cuts$Range", "<init>", "(II)V"⟩ : MethodName)
theorem own_pd2 : parseMethodDescriptor "()I" = some ⟨[], some .int⟩ := by decide +kernel
abbrev own_y2 : MethodName := (⟨"com/example/tandem/tandem/analysis/Cuts$Range", "hashCode", "()I"⟩ : MethodName)
theorem own_pd3 : parseMethodDescriptor "(Ljava/lang/Object;)Z" = some ⟨[(.object "java/lang/Object")], some .boolean⟩ := by decide +kernel
abbrev own_y3 : MethodName := (⟨"com/example/tandem/tandem/analysis/Cuts$Range", "equals", "(Ljava/lang/Object;)Z"⟩ : MethodName)
theorem own_pn2 : plainName "com/example/tandem/tandem/analysis/RangeHashCodePinLaw" = true := by first | (simp [plainName, overriddenIn]; done) | decide +kernel
theorem own_ef5 (m : MethodId) (p0 : Int32) (p1 : Int32) (p2 : Int32) (p3 : Int32) (p4 : Int32) : entryFrame m #[(.int p0), (.int p1), (.int p2), (.int p3), (.int p4)] maxLocals = mkF m 0 #[.val (.int p0), .val (.int p1), .val (.int p2), .val (.int p3), .val (.int p4), .unset, .unset, .unset, .unset, .unset, .unset, .unset, .unset, .unset, .unset] [] := by first | (simp [entryFrame, mkF, argsToLocals, Value.category, maxLocals]; done) | rfl
def own_Q5 (Z : State) (p0 : Int32) (p1 : Int32) (p2 : Int32) (p3 : Int32) (p4 : Int32) (h0 : Heap) (n0 : Nat) (v : Option Value) (h : Heap) (L : List Loc) : Prop := v = some (.int 1) ∧ Fr n0 L
set_option maxRecDepth 65536 in
set_option maxHeartbeats 40000000 in
theorem own_rm5 (l : Launch) (Z : State) (a0 : Array Value) (hw : ∀ d ∈ tables_1, d.before a0 Z = true) (ws : List Jvm.Cond) (p0 : Int32) (p1 : Int32) (p2 : Int32) (p3 : Int32) (p4 : Int32) (h0 : Heap) (n0 : Nat) (Z0 : n0 ≤ h0.size) :
    MetFree l x (head1 (Jvm.Cond.code x code maxLocals ret :: ws) room_1) (fun a U => a = #[(.int p0), (.int p1), (.int p2), (.int p3), (.int p4)] ∧ Z.Warmed39 U.vm ∧ U.heap = h0) (fun _ _ _ _ _ => True) (fun _ U o U' => ∃ v L, o = .returned v ∧ own_Q5 Z p0 p1 p2 p3 p4 h0 n0 v U'.heap L ∧ FrameEnd U o U' L room_1.cells room_1.slots) := by
  refine MetFree.of_bodySF (plainFor_of_name own_pn2) hisR ?_
  intro p e s m args below meth c s₁ Bd hml0 hP hK
  obtain ⟨rfl, hZ, hh⟩ := hP
  have hx := Bd.exec
  have hby := Bd.bytes
  have hlk := Bd.notSynchronized
  have hml : c.maxLocals = 15 := hml0
  have hown : s.vm.findClass "com/example/tandem/tandem/analysis/RangeHashCodePinLaw" = some m.cls := findClass_of_methodNamed Bd.named
  have hnm := (name_of_methodNamed Bd.named Bd.method).1
  have X0 : Stand p l e room_1 s m #[(.int p0), (.int p1), (.int p2), (.int p3), (.int p4)] below meth c s₁ [] 0 0 := Stand.of_body Bd
  have e0 : s₁.heap = h0 := by rw [← hh, Bd.state]; rfl
  have N0 := Fr.nil n0
  have KR : Keep h0 h0 [] := Keep.refl _ _
  show own_Fin p e below s room_1.cells room_1.slots (own_Q5 Z p0 p1 p2 p3 p4 h0 n0) (s₁.setTop (entryFrame m #[(.int p0), (.int p1), (.int p2), (.int p3), (.int p4)] maxLocals))
  refine own_cast (own_ef5 m p0 p1 p2 p3 p4) ?_
  refine own_step (fun _ k => XS.iload X0.here hx rfl (hb hby at_0) rfl k) ?_
  show own_Fin p e below s _ _ _ (s₁.setTop (mkF m 2 #[.val (.int p0), .val (.int p1), .val (.int p2), .val (.int p3), .val (.int p4), .unset, .unset, .unset, .unset, .unset, .unset, .unset, .unset, .unset, .unset] [(.int p4)]))
  refine own_step (fun _ k => XS.iconst X0.here hx rfl (hb hby at_2) k) ?_
  show own_Fin p e below s _ _ _ (s₁.setTop (mkF m 3 #[.val (.int p0), .val (.int p1), .val (.int p2), .val (.int p3), .val (.int p4), .unset, .unset, .unset, .unset, .unset, .unset, .unset, .unset, .unset, .unset] [(.int (1 : Int32)), (.int p4)]))
  refine own_step (fun _ k => XS.iand X0.here hx rfl (hb hby at_3) rfl k) ?_
  show own_Fin p e below s _ _ _ (s₁.setTop (mkF m 4 #[.val (.int p0), .val (.int p1), .val (.int p2), .val (.int p3), .val (.int p4), .unset, .unset, .unset, .unset, .unset, .unset, .unset, .unset, .unset, .unset] [(.int (p4 &&& (1 : Int32)))]))
  by_cases hc1 : (p4 &&& (1 : Int32)) = (0 : Int32)
  · refine own_step (fun _ k => XS.ifYes X0.here hx rfl (pc0 := 4) (pc' := 11) rfl (hb hby at_4) rfl ((if0 _ _).trans (teq hc1).1) (by decide) (by decide) k) ?_
    show own_Fin p e below s _ _ _ (s₁.setTop (mkF m 11 #[.val (.int p0), .val (.int p1), .val (.int p2), .val (.int p3), .val (.int p4), .unset, .unset, .unset, .unset, .unset, .unset, .unset, .unset, .unset, .unset] []))
    refine own_step (fun _ k => XS.iconst X0.here hx rfl (hb hby at_11) k) ?_
    show own_Fin p e below s _ _ _ (s₁.setTop (mkF m 12 #[.val (.int p0), .val (.int p1), .val (.int p2), .val (.int p3), .val (.int p4), .unset, .unset, .unset, .unset, .unset, .unset, .unset, .unset, .unset, .unset] [(.int (0 : Int32))]))
    refine own_step (fun _ k => XS.istore X0.here hx rfl (hb hby at_12) rfl (l' := #[.val (.int p0), .val (.int p1), .val (.int p2), .val (.int p3), .val (.int p4), .val (.int (0 : Int32)), .unset, .unset, .unset, .unset, .unset, .unset, .unset, .unset, .unset]) rfl k) ?_
    show own_Fin p e below s _ _ _ (s₁.setTop (mkF m 14 #[.val (.int p0), .val (.int p1), .val (.int p2), .val (.int p3), .val (.int p4), .val (.int (0 : Int32)), .unset, .unset, .unset, .unset, .unset, .unset, .unset, .unset, .unset] []))
    refine own_step (fun _ k => XS.iload X0.here hx rfl (hb hby at_14) rfl k) ?_
    show own_Fin p e below s _ _ _ (s₁.setTop (mkF m 16 #[.val (.int p0), .val (.int p1), .val (.int p2), .val (.int p3), .val (.int p4), .val (.int (0 : Int32)), .unset, .unset, .unset, .unset, .unset, .unset, .unset, .unset, .unset] [(.int (0 : Int32))]))
    refine own_step (fun _ k => XS.ifYes X0.here hx rfl (pc0 := 16) (pc' := 23) rfl (hb hby at_16) rfl ((if0 _ _).trans (teq (by decide : (0 : Int32) = (0 : Int32))).1) (by decide) (by decide) k) ?_
    show own_Fin p e below s _ _ _ (s₁.setTop (mkF m 23 #[.val (.int p0), .val (.int p1), .val (.int p2), .val (.int p3), .val (.int p4), .val (.int (0 : Int32)), .unset, .unset, .unset, .unset, .unset, .unset, .unset, .unset, .unset] []))
    refine own_step (fun _ k => XS.iloadN X0.here hx rfl (hb hby at_23) rfl k) ?_
    show own_Fin p e below s _ _ _ (s₁.setTop (mkF m 24 #[.val (.int p0), .val (.int p1), .val (.int p2), .val (.int p3), .val (.int p4), .val (.int (0 : Int32)), .unset, .unset, .unset, .unset, .unset, .unset, .unset, .unset, .unset] [(.int p2)]))
    refine own_step (fun _ k => XS.istore X0.here hx rfl (hb hby at_24) rfl (l' := #[.val (.int p0), .val (.int p1), .val (.int p2), .val (.int p3), .val (.int p4), .val (.int (0 : Int32)), .val (.int p2), .unset, .unset, .unset, .unset, .unset, .unset, .unset, .unset]) rfl k) ?_
    show own_Fin p e below s _ _ _ (s₁.setTop (mkF m 26 #[.val (.int p0), .val (.int p1), .val (.int p2), .val (.int p3), .val (.int p4), .val (.int (0 : Int32)), .val (.int p2), .unset, .unset, .unset, .unset, .unset, .unset, .unset, .unset] []))
    refine own_step (fun _ k => XS.iload X0.here hx rfl (hb hby at_26) rfl k) ?_
    show own_Fin p e below s _ _ _ (s₁.setTop (mkF m 28 #[.val (.int p0), .val (.int p1), .val (.int p2), .val (.int p3), .val (.int p4), .val (.int (0 : Int32)), .val (.int p2), .unset, .unset, .unset, .unset, .unset, .unset, .unset, .unset] [(.int (0 : Int32))]))
    refine own_step (fun _ k => XS.ifYes X0.here hx rfl (pc0 := 28) (pc' := 35) rfl (hb hby at_28) rfl ((if0 _ _).trans (teq (by decide : (0 : Int32) = (0 : Int32))).1) (by decide) (by decide) k) ?_
    show own_Fin p e below s _ _ _ (s₁.setTop (mkF m 35 #[.val (.int p0), .val (.int p1), .val (.int p2), .val (.int p3), .val (.int p4), .val (.int (0 : Int32)), .val (.int p2), .unset, .unset, .unset, .unset, .unset, .unset, .unset, .unset] []))
    refine own_step (fun _ k => XS.iloadN X0.here hx rfl (hb hby at_35) rfl k) ?_
    show own_Fin p e below s _ _ _ (s₁.setTop (mkF m 36 #[.val (.int p0), .val (.int p1), .val (.int p2), .val (.int p3), .val (.int p4), .val (.int (0 : Int32)), .val (.int p2), .unset, .unset, .unset, .unset, .unset, .unset, .unset, .unset] [(.int p3)]))
    refine own_step (fun _ k => XS.istore X0.here hx rfl (hb hby at_36) rfl (l' := #[.val (.int p0), .val (.int p1), .val (.int p2), .val (.int p3), .val (.int p4), .val (.int (0 : Int32)), .val (.int p2), .val (.int p3), .unset, .unset, .unset, .unset, .unset, .unset, .unset]) rfl k) ?_
    show own_Fin p e below s _ _ _ (s₁.setTop (mkF m 38 #[.val (.int p0), .val (.int p1), .val (.int p2), .val (.int p3), .val (.int p4), .val (.int (0 : Int32)), .val (.int p2), .val (.int p3), .unset, .unset, .unset, .unset, .unset, .unset, .unset] []))
    obtain ⟨T2, h2, X2, e2, E2, A2, D2, -, st2⟩ := newO X0 hx hZ hown (own_w hw 0 rfl) (own_w hw 1 rfl) (own_w hw 2 rfl) e0 (g := (mkF m 38 #[.val (.int p0), .val (.int p1), .val (.int p2), .val (.int p3), .val (.int p4), .val (.int (0 : Int32)), .val (.int p2), .val (.int p3), .unset, .unset, .unset, .unset, .unset, .unset, .unset] [])) rfl (hb hby at_38) (by decide) (by decide)
    obtain ⟨b2, g2⟩ : ∃ z, z = h0.size := ⟨_, rfl⟩
    rw [← g2] at A2 D2 st2
    have gg2 : n0 ≤ b2 := Nat.le_trans Z0 (Nat.le_of_eq g2.symm)
    have sz2 : h0.size ≤ b2 := Nat.le_trans KR.1 (Nat.le_of_eq g2.symm)
    have K2 : Keep h0 h2 [] := KR.ext E2
    have Z2 : n0 ≤ h2.size := Nat.le_trans Z0 E2.1
    have G3 : Fld Z h2 b2 "com/example/tandem/tandem/analysis/Cuts$Range" "from" "I" (.int (0 : Int32)) := D2 (Or.inr (own_w hw 15 rfl)) (ty := .int) (by decide)
    have G4 : Fld Z h2 b2 "com/example/tandem/tandem/analysis/Cuts$Range" "to" "I" (.int (0 : Int32)) := D2 (Or.inr (own_w hw 17 rfl)) (ty := .int) (by decide)
    refine own_step st2 ?_
    show own_Fin p e below s _ _ _ (T2.setTop (mkF m 41 #[.val (.int p0), .val (.int p1), .val (.int p2), .val (.int p3), .val (.int p4), .val (.int (0 : Int32)), .val (.int p2), .val (.int p3), .unset, .unset, .unset, .unset, .unset, .unset, .unset] [(.ref b2)]))
    refine own_step (fun _ k => XS.dup X2.here hx rfl (hb hby at_41) rfl rfl k) ?_
    show own_Fin p e below s _ _ _ (T2.setTop (mkF m 42 #[.val (.int p0), .val (.int p1), .val (.int p2), .val (.int p3), .val (.int p4), .val (.int (0 : Int32)), .val (.int p2), .val (.int p3), .unset, .unset, .unset, .unset, .unset, .unset, .unset] [(.ref b2), (.ref b2)]))
    refine own_step (fun _ k => XS.iloadN X2.here hx rfl (hb hby at_42) rfl k) ?_
    show own_Fin p e below s _ _ _ (T2.setTop (mkF m 43 #[.val (.int p0), .val (.int p1), .val (.int p2), .val (.int p3), .val (.int p4), .val (.int (0 : Int32)), .val (.int p2), .val (.int p3), .unset, .unset, .unset, .unset, .unset, .unset, .unset] [(.int p0), (.ref b2), (.ref b2)]))
    refine own_step (fun _ k => XS.iloadN X2.here hx rfl (hb hby at_43) rfl k) ?_
    show own_Fin p e below s _ _ _ (T2.setTop (mkF m 44 #[.val (.int p0), .val (.int p1), .val (.int p2), .val (.int p3), .val (.int p4), .val (.int (0 : Int32)), .val (.int p2), .val (.int p3), .unset, .unset, .unset, .unset, .unset, .unset, .unset] [(.int p1), (.int p0), (.ref b2), (.ref b2)]))
    obtain ⟨_, _, ⟨T5, L5, k5, n5⟩, -, X5, ⟨Lc5, hQ5, l5, y5, z5⟩, st5⟩ := X2.specialBack hx (y := own_y1) rfl hown (mvT hZ (own_w hw 3 rfl)) (mvT hZ (own_w hw 4 rfl)) (mvT hZ (own_w hw 5 rfl)) (by decide) (backOf (W := 1) (own_rm2 l Z a0 hw [] b2 p0 p1 ((.int (0 : Int32))) ((.int (0 : Int32))) h2 n0 Z2 A2 G3 G4 gg2) hZ (own_w hw 5 rfl) (own_w hw 2 rfl) (by decide) (by decide)) (g := (mkF m 44 #[.val (.int p0), .val (.int p1), .val (.int p2), .val (.int p3), .val (.int p4), .val (.int (0 : Int32)), .val (.int p2), .val (.int p3), .unset, .unset, .unset, .unset, .unset, .unset, .unset] [(.int p1), (.int p0), (.ref b2), (.ref b2)])) rfl (by rw [hml]; rfl) (Steps.refl _) (a := b2) (argsL := [(.int p0), (.int p1)]) (rest := [(.ref b2)]) (lenOf own_pd1 rfl) rfl (by show 2 * 0 + _ ≤ _; exact Nat.le_of_eq rfl) (hb hby at_44) (fun _ _ => ⟨rfl, e2, (by decide : 1 + 0 ≤ _), (by decide : 2 + 0 ≤ _)⟩)
    dsimp only [Pt.U, Pt.locs, Pt.cells, Pt.slots] at X5 l5 y5 z5 st5 hQ5
    subst l5 y5 z5
    obtain ⟨N5q, K5q, rfl, G6, G7, G8⟩ := hQ5
    have N5 := Fr.app N0 N5q
    have K5 : Keep h0 T5.heap [] := K2.trans K5q (allS (P := fun x => x ∈ [] ∨ h0.size ≤ x) (Or.inr sz2) all0)
    have Z5 : n0 ≤ T5.heap.size := Nat.le_trans Z2 K5q.1
    have G9 := (A2.keep K5q)
    refine own_step (fun _ k => st5.trans k) ?_
    show own_Fin p e below s _ _ _ (T5.setTop (mkF m 47 #[.val (.int p0), .val (.int p1), .val (.int p2), .val (.int p3), .val (.int p4), .val (.int (0 : Int32)), .val (.int p2), .val (.int p3), .unset, .unset, .unset, .unset, .unset, .unset, .unset] [(.ref b2)]))
    refine own_step (fun _ k => XS.astore X5.here hx rfl (hb hby at_47) rfl rfl (l' := #[.val (.int p0), .val (.int p1), .val (.int p2), .val (.int p3), .val (.int p4), .val (.int (0 : Int32)), .val (.int p2), .val (.int p3), .val (.ref b2), .unset, .unset, .unset, .unset, .unset, .unset]) rfl k) ?_
    show own_Fin p e below s _ _ _ (T5.setTop (mkF m 49 #[.val (.int p0), .val (.int p1), .val (.int p2), .val (.int p3), .val (.int p4), .val (.int (0 : Int32)), .val (.int p2), .val (.int p3), .val (.ref b2), .unset, .unset, .unset, .unset, .unset, .unset] []))
    obtain ⟨T10, h10, X10, e10, E10, A10, D10, -, st10⟩ := newO X5 hx hZ hown (own_w hw 0 rfl) (own_w hw 1 rfl) (own_w hw 2 rfl) rfl (g := (mkF m 49 #[.val (.int p0), .val (.int p1), .val (.int p2), .val (.int p3), .val (.int p4), .val (.int (0 : Int32)), .val (.int p2), .val (.int p3), .val (.ref b2), .unset, .unset, .unset, .unset, .unset, .unset] [])) rfl (hb hby at_49) (by decide) (by decide)
    obtain ⟨b10, g10⟩ : ∃ z, z = T5.heap.size := ⟨_, rfl⟩
    rw [← g10] at A10 D10 st10
    have ne10_b2 : b2 ≠ b10 := Nat.ne_of_lt (Nat.lt_of_lt_of_le G6.lt (Nat.le_of_eq g10.symm))
    have gg10 : n0 ≤ b10 := Nat.le_trans Z5 (Nat.le_of_eq g10.symm)
    have sz10 : h0.size ≤ b10 := Nat.le_trans K5.1 (Nat.le_of_eq g10.symm)
    have K10 : Keep h0 h10 [] := K5.ext E10
    have Z10 : n0 ≤ h10.size := Nat.le_trans Z5 E10.1
    have G11 := (G6.ext E10)
    have G12 := (G7.ext E10)
    have G13 := (G8.ext E10)
    have G14 : Fld Z h10 b10 "com/example/tandem/tandem/analysis/Cuts$Range" "from" "I" (.int (0 : Int32)) := D10 (Or.inr (own_w hw 15 rfl)) (ty := .int) (by decide)
    have G15 : Fld Z h10 b10 "com/example/tandem/tandem/analysis/Cuts$Range" "to" "I" (.int (0 : Int32)) := D10 (Or.inr (own_w hw 17 rfl)) (ty := .int) (by decide)
    refine own_step st10 ?_
    show own_Fin p e below s _ _ _ (T10.setTop (mkF m 52 #[.val (.int p0), .val (.int p1), .val (.int p2), .val (.int p3), .val (.int p4), .val (.int (0 : Int32)), .val (.int p2), .val (.int p3), .val (.ref b2), .unset, .unset, .unset, .unset, .unset, .unset] [(.ref b10)]))
    refine own_step (fun _ k => XS.dup X10.here hx rfl (hb hby at_52) rfl rfl k) ?_
    show own_Fin p e below s _ _ _ (T10.setTop (mkF m 53 #[.val (.int p0), .val (.int p1), .val (.int p2), .val (.int p3), .val (.int p4), .val (.int (0 : Int32)), .val (.int p2), .val (.int p3), .val (.ref b2), .unset, .unset, .unset, .unset, .unset, .unset] [(.ref b10), (.ref b10)]))
    refine own_step (fun _ k => XS.iloadN X10.here hx rfl (hb hby at_53) rfl k) ?_
    show own_Fin p e below s _ _ _ (T10.setTop (mkF m 54 #[.val (.int p0), .val (.int p1), .val (.int p2), .val (.int p3), .val (.int p4), .val (.int (0 : Int32)), .val (.int p2), .val (.int p3), .val (.ref b2), .unset, .unset, .unset, .unset, .unset, .unset] [(.int p0), (.ref b10), (.ref b10)]))
    refine own_step (fun _ k => XS.iloadN X10.here hx rfl (hb hby at_54) rfl k) ?_
    show own_Fin p e below s _ _ _ (T10.setTop (mkF m 55 #[.val (.int p0), .val (.int p1), .val (.int p2), .val (.int p3), .val (.int p4), .val (.int (0 : Int32)), .val (.int p2), .val (.int p3), .val (.ref b2), .unset, .unset, .unset, .unset, .unset, .unset] [(.int p1), (.int p0), (.ref b10), (.ref b10)]))
    obtain ⟨_, _, ⟨T16, L16, k16, n16⟩, -, X16, ⟨Lc16, hQ16, l16, y16, z16⟩, st16⟩ := X10.specialBack hx (y := own_y1) rfl hown (mvT hZ (own_w hw 3 rfl)) (mvT hZ (own_w hw 4 rfl)) (mvT hZ (own_w hw 5 rfl)) (by decide) (backOf (W := 1) (own_rm2 l Z a0 hw [] b10 p0 p1 ((.int (0 : Int32))) ((.int (0 : Int32))) h10 n0 Z10 A10 G14 G15 gg10) hZ (own_w hw 5 rfl) (own_w hw 2 rfl) (by decide) (by decide)) (g := (mkF m 55 #[.val (.int p0), .val (.int p1), .val (.int p2), .val (.int p3), .val (.int p4), .val (.int (0 : Int32)), .val (.int p2), .val (.int p3), .val (.ref b2), .unset, .unset, .unset, .unset, .unset, .unset] [(.int p1), (.int p0), (.ref b10), (.ref b10)])) rfl (by rw [hml]; rfl) (Steps.refl _) (a := b10) (argsL := [(.int p0), (.int p1)]) (rest := [(.ref b10)]) (lenOf own_pd1 rfl) rfl (by show 2 * 0 + _ ≤ _; exact Nat.le_of_eq rfl) (hb hby at_55) (fun _ _ => ⟨rfl, e10, (by decide : 2 + 0 ≤ _), (by decide : 4 + 0 ≤ _)⟩)
    dsimp only [Pt.U, Pt.locs, Pt.cells, Pt.slots] at X16 l16 y16 z16 st16 hQ16
    subst l16 y16 z16
    obtain ⟨N16q, K16q, rfl, G17, G18, G19⟩ := hQ16
    have N16 := Fr.app N5 N16q
    have K16 : Keep h0 T16.heap [] := K10.trans K16q (allS (P := fun x => x ∈ [] ∨ h0.size ≤ x) (Or.inr sz10) all0)
    have Z16 : n0 ≤ T16.heap.size := Nat.le_trans Z10 K16q.1
    have G20 := (G11.keep K16q)
    have G21 := (G12.keep K16q (ninS ne10_b2 nin0))
    have G22 := (G13.keep K16q (ninS ne10_b2 nin0))
    have G23 := (A10.keep K16q)
    refine own_step (fun _ k => st16.trans k) ?_
    show own_Fin p e below s _ _ _ (T16.setTop (mkF m 58 #[.val (.int p0), .val (.int p1), .val (.int p2), .val (.int p3), .val (.int p4), .val (.int (0 : Int32)), .val (.int p2), .val (.int p3), .val (.ref b2), .unset, .unset, .unset, .unset, .unset, .unset] [(.ref b10)]))
    refine own_step (fun _ k => XS.astore X16.here hx rfl (hb hby at_58) rfl rfl (l' := #[.val (.int p0), .val (.int p1), .val (.int p2), .val (.int p3), .val (.int p4), .val (.int (0 : Int32)), .val (.int p2), .val (.int p3), .val (.ref b2), .val (.ref b10), .unset, .unset, .unset, .unset, .unset]) rfl k) ?_
    show own_Fin p e below s _ _ _ (T16.setTop (mkF m 60 #[.val (.int p0), .val (.int p1), .val (.int p2), .val (.int p3), .val (.int p4), .val (.int (0 : Int32)), .val (.int p2), .val (.int p3), .val (.ref b2), .val (.ref b10), .unset, .unset, .unset, .unset, .unset] []))
    obtain ⟨T24, h24, X24, e24, E24, A24, D24, -, st24⟩ := newO X16 hx hZ hown (own_w hw 0 rfl) (own_w hw 1 rfl) (own_w hw 2 rfl) rfl (g := (mkF m 60 #[.val (.int p0), .val (.int p1), .val (.int p2), .val (.int p3), .val (.int p4), .val (.int (0 : Int32)), .val (.int p2), .val (.int p3), .val (.ref b2), .val (.ref b10), .unset, .unset, .unset, .unset, .unset] [])) rfl (hb hby at_60) (by decide) (by decide)
    obtain ⟨b24, g24⟩ : ∃ z, z = T16.heap.size := ⟨_, rfl⟩
    rw [← g24] at A24 D24 st24
    have ne24_b2 : b2 ≠ b24 := Nat.ne_of_lt (Nat.lt_of_lt_of_le G20.lt (Nat.le_of_eq g24.symm))
    have ne24_b10 : b10 ≠ b24 := Nat.ne_of_lt (Nat.lt_of_lt_of_le G17.lt (Nat.le_of_eq g24.symm))
    have gg24 : n0 ≤ b24 := Nat.le_trans Z16 (Nat.le_of_eq g24.symm)
    have sz24 : h0.size ≤ b24 := Nat.le_trans K16.1 (Nat.le_of_eq g24.symm)
    have K24 : Keep h0 h24 [] := K16.ext E24
    have Z24 : n0 ≤ h24.size := Nat.le_trans Z16 E24.1
    have G25 := (G20.ext E24)
    have G26 := (G21.ext E24)
    have G27 := (G22.ext E24)
    have G28 := (G17.ext E24)
    have G29 := (G18.ext E24)
    have G30 := (G19.ext E24)
    have G31 : Fld Z h24 b24 "com/example/tandem/tandem/analysis/Cuts$Range" "from" "I" (.int (0 : Int32)) := D24 (Or.inr (own_w hw 15 rfl)) (ty := .int) (by decide)
    have G32 : Fld Z h24 b24 "com/example/tandem/tandem/analysis/Cuts$Range" "to" "I" (.int (0 : Int32)) := D24 (Or.inr (own_w hw 17 rfl)) (ty := .int) (by decide)
    refine own_step st24 ?_
    show own_Fin p e below s _ _ _ (T24.setTop (mkF m 63 #[.val (.int p0), .val (.int p1), .val (.int p2), .val (.int p3), .val (.int p4), .val (.int (0 : Int32)), .val (.int p2), .val (.int p3), .val (.ref b2), .val (.ref b10), .unset, .unset, .unset, .unset, .unset] [(.ref b24)]))
    refine own_step (fun _ k => XS.dup X24.here hx rfl (hb hby at_63) rfl rfl k) ?_
    show own_Fin p e below s _ _ _ (T24.setTop (mkF m 64 #[.val (.int p0), .val (.int p1), .val (.int p2), .val (.int p3), .val (.int p4), .val (.int (0 : Int32)), .val (.int p2), .val (.int p3), .val (.ref b2), .val (.ref b10), .unset, .unset, .unset, .unset, .unset] [(.ref b24), (.ref b24)]))
    refine own_step (fun _ k => XS.iload X24.here hx rfl (hb hby at_64) rfl k) ?_
    show own_Fin p e below s _ _ _ (T24.setTop (mkF m 66 #[.val (.int p0), .val (.int p1), .val (.int p2), .val (.int p3), .val (.int p4), .val (.int (0 : Int32)), .val (.int p2), .val (.int p3), .val (.ref b2), .val (.ref b10), .unset, .unset, .unset, .unset, .unset] [(.int p2), (.ref b24), (.ref b24)]))
    refine own_step (fun _ k => XS.iload X24.here hx rfl (hb hby at_66) rfl k) ?_
    show own_Fin p e below s _ _ _ (T24.setTop (mkF m 68 #[.val (.int p0), .val (.int p1), .val (.int p2), .val (.int p3), .val (.int p4), .val (.int (0 : Int32)), .val (.int p2), .val (.int p3), .val (.ref b2), .val (.ref b10), .unset, .unset, .unset, .unset, .unset] [(.int p3), (.int p2), (.ref b24), (.ref b24)]))
    obtain ⟨_, _, ⟨T33, L33, k33, n33⟩, -, X33, ⟨Lc33, hQ33, l33, y33, z33⟩, st33⟩ := X24.specialBack hx (y := own_y1) rfl hown (mvT hZ (own_w hw 3 rfl)) (mvT hZ (own_w hw 4 rfl)) (mvT hZ (own_w hw 5 rfl)) (by decide) (backOf (W := 1) (own_rm2 l Z a0 hw [] b24 p2 p3 ((.int (0 : Int32))) ((.int (0 : Int32))) h24 n0 Z24 A24 G31 G32 gg24) hZ (own_w hw 5 rfl) (own_w hw 2 rfl) (by decide) (by decide)) (g := (mkF m 68 #[.val (.int p0), .val (.int p1), .val (.int p2), .val (.int p3), .val (.int p4), .val (.int (0 : Int32)), .val (.int p2), .val (.int p3), .val (.ref b2), .val (.ref b10), .unset, .unset, .unset, .unset, .unset] [(.int p3), (.int p2), (.ref b24), (.ref b24)])) rfl (by rw [hml]; rfl) (Steps.refl _) (a := b24) (argsL := [(.int p2), (.int p3)]) (rest := [(.ref b24)]) (lenOf own_pd1 rfl) rfl (by show 2 * 0 + _ ≤ _; exact Nat.le_of_eq rfl) (hb hby at_68) (fun _ _ => ⟨rfl, e24, (by decide : 3 + 0 ≤ _), (by decide : 6 + 0 ≤ _)⟩)
    dsimp only [Pt.U, Pt.locs, Pt.cells, Pt.slots] at X33 l33 y33 z33 st33 hQ33
    subst l33 y33 z33
    obtain ⟨N33q, K33q, rfl, G34, G35, G36⟩ := hQ33
    have N33 := Fr.app N16 N33q
    have K33 : Keep h0 T33.heap [] := K24.trans K33q (allS (P := fun x => x ∈ [] ∨ h0.size ≤ x) (Or.inr sz24) all0)
    have Z33 : n0 ≤ T33.heap.size := Nat.le_trans Z24 K33q.1
    have G37 := (G25.keep K33q)
    have G38 := (G26.keep K33q (ninS ne24_b2 nin0))
    have G39 := (G27.keep K33q (ninS ne24_b2 nin0))
    have G40 := (G28.keep K33q)
    have G41 := (G29.keep K33q (ninS ne24_b10 nin0))
    have G42 := (G30.keep K33q (ninS ne24_b10 nin0))
    have G43 := (A24.keep K33q)
    refine own_step (fun _ k => st33.trans k) ?_
    show own_Fin p e below s _ _ _ (T33.setTop (mkF m 71 #[.val (.int p0), .val (.int p1), .val (.int p2), .val (.int p3), .val (.int p4), .val (.int (0 : Int32)), .val (.int p2), .val (.int p3), .val (.ref b2), .val (.ref b10), .unset, .unset, .unset, .unset, .unset] [(.ref b24)]))
    refine own_step (fun _ k => XS.astore X33.here hx rfl (hb hby at_71) rfl rfl (l' := #[.val (.int p0), .val (.int p1), .val (.int p2), .val (.int p3), .val (.int p4), .val (.int (0 : Int32)), .val (.int p2), .val (.int p3), .val (.ref b2), .val (.ref b10), .val (.ref b24), .unset, .unset, .unset, .unset]) rfl k) ?_
    show own_Fin p e below s _ _ _ (T33.setTop (mkF m 73 #[.val (.int p0), .val (.int p1), .val (.int p2), .val (.int p3), .val (.int p4), .val (.int (0 : Int32)), .val (.int p2), .val (.int p3), .val (.ref b2), .val (.ref b10), .val (.ref b24), .unset, .unset, .unset, .unset] []))
    refine own_step (fun _ k => XS.aload X33.here hx rfl (hb hby at_73) rfl rfl k) ?_
    show own_Fin p e below s _ _ _ (T33.setTop (mkF m 75 #[.val (.int p0), .val (.int p1), .val (.int p2), .val (.int p3), .val (.int p4), .val (.int (0 : Int32)), .val (.int p2), .val (.int p3), .val (.ref b2), .val (.ref b10), .val (.ref b24), .unset, .unset, .unset, .unset] [(.ref b2)]))
    obtain ⟨cq44, kq44, q44a, q44b, q44c⟩ := isOf hZ rfl G37
    obtain ⟨_, _, ⟨T44, L44, k44, n44⟩, -, X44, ⟨Lc44, hQ44, l44, y44, z44⟩, st44⟩ := X33.virtualBack hx (y := own_y2) (z := own_y2) hown (mvT hZ (own_w hw 18 rfl)) (mvT hZ (own_w hw 19 rfl)) (notFace_of_selects (args := #[]) (mvT hZ (own_w hw 21 rfl))) (mvT hZ (own_w hw 21 rfl)) (mvT hZ (own_w hw 20 rfl)) (by decide) (backOf (W := 0) (own_rm3 l Z a0 hw [] b2 p0 p1 T33.heap n0 Z33 G38 G39) hZ (own_w hw 22 rfl) (own_w hw 2 rfl) (by decide) (by decide)) q44a q44c (g := (mkF m 75 #[.val (.int p0), .val (.int p1), .val (.int p2), .val (.int p3), .val (.int p4), .val (.int (0 : Int32)), .val (.int p2), .val (.int p3), .val (.ref b2), .val (.ref b10), .val (.ref b24), .unset, .unset, .unset, .unset] [(.ref b2)])) rfl (by rw [hml]; rfl) (Steps.refl _) (argsL := []) (rest := []) (lenOf own_pd2 rfl) rfl (by show 2 * 0 + _ ≤ _; exact Nat.le_of_eq rfl) (hb hby at_75) (fun _ _ => ⟨rfl, rfl, (by decide : 3 + 0 ≤ _), (by decide : 6 + 0 ≤ _)⟩)
    dsimp only [Pt.U, Pt.locs, Pt.cells, Pt.slots] at X44 l44 y44 z44 st44 hQ44
    subst l44 y44 z44
    obtain ⟨rfl, N44q, e44⟩ := hQ44
    have N44 := Fr.app N33 N44q
    refine own_step (fun _ k => st44.trans k) ?_
    show own_Fin p e below s _ _ _ (T44.setTop (mkF m 78 #[.val (.int p0), .val (.int p1), .val (.int p2), .val (.int p3), .val (.int p4), .val (.int (0 : Int32)), .val (.int p2), .val (.int p3), .val (.ref b2), .val (.ref b10), .val (.ref b24), .unset, .unset, .unset, .unset] [(.int (((31 : Int32) * p0) + p1))]))
    refine own_step (fun _ k => XS.istore X44.here hx rfl (hb hby at_78) rfl (l' := #[.val (.int p0), .val (.int p1), .val (.int p2), .val (.int p3), .val (.int p4), .val (.int (0 : Int32)), .val (.int p2), .val (.int p3), .val (.ref b2), .val (.ref b10), .val (.ref b24), .val (.int (((31 : Int32) * p0) + p1)), .unset, .unset, .unset]) rfl k) ?_
    show own_Fin p e below s _ _ _ (T44.setTop (mkF m 80 #[.val (.int p0), .val (.int p1), .val (.int p2), .val (.int p3), .val (.int p4), .val (.int (0 : Int32)), .val (.int p2), .val (.int p3), .val (.ref b2), .val (.ref b10), .val (.ref b24), .val (.int (((31 : Int32) * p0) + p1)), .unset, .unset, .unset] []))
    refine own_step (fun _ k => XS.aload X44.here hx rfl (hb hby at_80) rfl rfl k) ?_
    show own_Fin p e below s _ _ _ (T44.setTop (mkF m 82 #[.val (.int p0), .val (.int p1), .val (.int p2), .val (.int p3), .val (.int p4), .val (.int (0 : Int32)), .val (.int p2), .val (.int p3), .val (.ref b2), .val (.ref b10), .val (.ref b24), .val (.int (((31 : Int32) * p0) + p1)), .unset, .unset, .unset] [(.ref b2)]))
    obtain ⟨cq45, kq45, q45a, q45b, q45c⟩ := isOf hZ e44 G37
    obtain ⟨_, _, ⟨T45, L45, k45, n45⟩, -, X45, ⟨Lc45, hQ45, l45, y45, z45⟩, st45⟩ := X44.virtualBack hx (y := own_y2) (z := own_y2) hown (mvT hZ (own_w hw 18 rfl)) (mvT hZ (own_w hw 19 rfl)) (notFace_of_selects (args := #[]) (mvT hZ (own_w hw 21 rfl))) (mvT hZ (own_w hw 21 rfl)) (mvT hZ (own_w hw 20 rfl)) (by decide) (backOf (W := 0) (own_rm3 l Z a0 hw [] b2 p0 p1 T33.heap n0 Z33 G38 G39) hZ (own_w hw 22 rfl) (own_w hw 2 rfl) (by decide) (by decide)) q45a q45c (g := (mkF m 82 #[.val (.int p0), .val (.int p1), .val (.int p2), .val (.int p3), .val (.int p4), .val (.int (0 : Int32)), .val (.int p2), .val (.int p3), .val (.ref b2), .val (.ref b10), .val (.ref b24), .val (.int (((31 : Int32) * p0) + p1)), .unset, .unset, .unset] [(.ref b2)])) rfl (by rw [hml]; rfl) (Steps.refl _) (argsL := []) (rest := []) (lenOf own_pd2 rfl) rfl (by show 2 * 0 + _ ≤ _; exact Nat.le_of_eq rfl) (hb hby at_82) (fun _ _ => ⟨rfl, e44, (by decide : 3 + 0 ≤ _), (by decide : 6 + 0 ≤ _)⟩)
    dsimp only [Pt.U, Pt.locs, Pt.cells, Pt.slots] at X45 l45 y45 z45 st45 hQ45
    subst l45 y45 z45
    obtain ⟨rfl, N45q, e45⟩ := hQ45
    have N45 := Fr.app N44 N45q
    refine own_step (fun _ k => st45.trans k) ?_
    show own_Fin p e below s _ _ _ (T45.setTop (mkF m 85 #[.val (.int p0), .val (.int p1), .val (.int p2), .val (.int p3), .val (.int p4), .val (.int (0 : Int32)), .val (.int p2), .val (.int p3), .val (.ref b2), .val (.ref b10), .val (.ref b24), .val (.int (((31 : Int32) * p0) + p1)), .unset, .unset, .unset] [(.int (((31 : Int32) * p0) + p1))]))
    refine own_step (fun _ k => XS.istore X45.here hx rfl (hb hby at_85) rfl (l' := #[.val (.int p0), .val (.int p1), .val (.int p2), .val (.int p3), .val (.int p4), .val (.int (0 : Int32)), .val (.int p2), .val (.int p3), .val (.ref b2), .val (.ref b10), .val (.ref b24), .val (.int (((31 : Int32) * p0) + p1)), .val (.int (((31 : Int32) * p0) + p1)), .unset, .unset]) rfl k) ?_
    show own_Fin p e below s _ _ _ (T45.setTop (mkF m 87 #[.val (.int p0), .val (.int p1), .val (.int p2), .val (.int p3), .val (.int p4), .val (.int (0 : Int32)), .val (.int p2), .val (.int p3), .val (.ref b2), .val (.ref b10), .val (.ref b24), .val (.int (((31 : Int32) * p0) + p1)), .val (.int (((31 : Int32) * p0) + p1)), .unset, .unset] []))
    refine own_step (fun _ k => XS.aload X45.here hx rfl (hb hby at_87) rfl rfl k) ?_
    show own_Fin p e below s _ _ _ (T45.setTop (mkF m 89 #[.val (.int p0), .val (.int p1), .val (.int p2), .val (.int p3), .val (.int p4), .val (.int (0 : Int32)), .val (.int p2), .val (.int p3), .val (.ref b2), .val (.ref b10), .val (.ref b24), .val (.int (((31 : Int32) * p0) + p1)), .val (.int (((31 : Int32) * p0) + p1)), .unset, .unset] [(.ref b10)]))
    obtain ⟨cq46, kq46, q46a, q46b, q46c⟩ := isOf hZ e45 G40
    obtain ⟨_, _, ⟨T46, L46, k46, n46⟩, -, X46, ⟨Lc46, hQ46, l46, y46, z46⟩, st46⟩ := X45.virtualBack hx (y := own_y2) (z := own_y2) hown (mvT hZ (own_w hw 18 rfl)) (mvT hZ (own_w hw 19 rfl)) (notFace_of_selects (args := #[]) (mvT hZ (own_w hw 21 rfl))) (mvT hZ (own_w hw 21 rfl)) (mvT hZ (own_w hw 20 rfl)) (by decide) (backOf (W := 0) (own_rm3 l Z a0 hw [] b10 p0 p1 T33.heap n0 Z33 G41 G42) hZ (own_w hw 22 rfl) (own_w hw 2 rfl) (by decide) (by decide)) q46a q46c (g := (mkF m 89 #[.val (.int p0), .val (.int p1), .val (.int p2), .val (.int p3), .val (.int p4), .val (.int (0 : Int32)), .val (.int p2), .val (.int p3), .val (.ref b2), .val (.ref b10), .val (.ref b24), .val (.int (((31 : Int32) * p0) + p1)), .val (.int (((31 : Int32) * p0) + p1)), .unset, .unset] [(.ref b10)])) rfl (by rw [hml]; rfl) (Steps.refl _) (argsL := []) (rest := []) (lenOf own_pd2 rfl) rfl (by show 2 * 0 + _ ≤ _; exact Nat.le_of_eq rfl) (hb hby at_89) (fun _ _ => ⟨rfl, e45, (by decide : 3 + 0 ≤ _), (by decide : 6 + 0 ≤ _)⟩)
    dsimp only [Pt.U, Pt.locs, Pt.cells, Pt.slots] at X46 l46 y46 z46 st46 hQ46
    subst l46 y46 z46
    obtain ⟨rfl, N46q, e46⟩ := hQ46
    have N46 := Fr.app N45 N46q
    refine own_step (fun _ k => st46.trans k) ?_
    show own_Fin p e below s _ _ _ (T46.setTop (mkF m 92 #[.val (.int p0), .val (.int p1), .val (.int p2), .val (.int p3), .val (.int p4), .val (.int (0 : Int32)), .val (.int p2), .val (.int p3), .val (.ref b2), .val (.ref b10), .val (.ref b24), .val (.int (((31 : Int32) * p0) + p1)), .val (.int (((31 : Int32) * p0) + p1)), .unset, .unset] [(.int (((31 : Int32) * p0) + p1))]))
    refine own_step (fun _ k => XS.istore X46.here hx rfl (hb hby at_92) rfl (l' := #[.val (.int p0), .val (.int p1), .val (.int p2), .val (.int p3), .val (.int p4), .val (.int (0 : Int32)), .val (.int p2), .val (.int p3), .val (.ref b2), .val (.ref b10), .val (.ref b24), .val (.int (((31 : Int32) * p0) + p1)), .val (.int (((31 : Int32) * p0) + p1)), .val (.int (((31 : Int32) * p0) + p1)), .unset]) rfl k) ?_
    show own_Fin p e below s _ _ _ (T46.setTop (mkF m 94 #[.val (.int p0), .val (.int p1), .val (.int p2), .val (.int p3), .val (.int p4), .val (.int (0 : Int32)), .val (.int p2), .val (.int p3), .val (.ref b2), .val (.ref b10), .val (.ref b24), .val (.int (((31 : Int32) * p0) + p1)), .val (.int (((31 : Int32) * p0) + p1)), .val (.int (((31 : Int32) * p0) + p1)), .unset] []))
    refine own_step (fun _ k => XS.aload X46.here hx rfl (hb hby at_94) rfl rfl k) ?_
    show own_Fin p e below s _ _ _ (T46.setTop (mkF m 96 #[.val (.int p0), .val (.int p1), .val (.int p2), .val (.int p3), .val (.int p4), .val (.int (0 : Int32)), .val (.int p2), .val (.int p3), .val (.ref b2), .val (.ref b10), .val (.ref b24), .val (.int (((31 : Int32) * p0) + p1)), .val (.int (((31 : Int32) * p0) + p1)), .val (.int (((31 : Int32) * p0) + p1)), .unset] [(.ref b24)]))
    obtain ⟨cq47, kq47, q47a, q47b, q47c⟩ := isOf hZ e46 G34
    obtain ⟨_, _, ⟨T47, L47, k47, n47⟩, -, X47, ⟨Lc47, hQ47, l47, y47, z47⟩, st47⟩ := X46.virtualBack hx (y := own_y2) (z := own_y2) hown (mvT hZ (own_w hw 18 rfl)) (mvT hZ (own_w hw 19 rfl)) (notFace_of_selects (args := #[]) (mvT hZ (own_w hw 21 rfl))) (mvT hZ (own_w hw 21 rfl)) (mvT hZ (own_w hw 20 rfl)) (by decide) (backOf (W := 0) (own_rm3 l Z a0 hw [] b24 p2 p3 T33.heap n0 Z33 G35 G36) hZ (own_w hw 22 rfl) (own_w hw 2 rfl) (by decide) (by decide)) q47a q47c (g := (mkF m 96 #[.val (.int p0), .val (.int p1), .val (.int p2), .val (.int p3), .val (.int p4), .val (.int (0 : Int32)), .val (.int p2), .val (.int p3), .val (.ref b2), .val (.ref b10), .val (.ref b24), .val (.int (((31 : Int32) * p0) + p1)), .val (.int (((31 : Int32) * p0) + p1)), .val (.int (((31 : Int32) * p0) + p1)), .unset] [(.ref b24)])) rfl (by rw [hml]; rfl) (Steps.refl _) (argsL := []) (rest := []) (lenOf own_pd2 rfl) rfl (by show 2 * 0 + _ ≤ _; exact Nat.le_of_eq rfl) (hb hby at_96) (fun _ _ => ⟨rfl, e46, (by decide : 3 + 0 ≤ _), (by decide : 6 + 0 ≤ _)⟩)
    dsimp only [Pt.U, Pt.locs, Pt.cells, Pt.slots] at X47 l47 y47 z47 st47 hQ47
    subst l47 y47 z47
    obtain ⟨rfl, N47q, e47⟩ := hQ47
    have N47 := Fr.app N46 N47q
    refine own_step (fun _ k => st47.trans k) ?_
    show own_Fin p e below s _ _ _ (T47.setTop (mkF m 99 #[.val (.int p0), .val (.int p1), .val (.int p2), .val (.int p3), .val (.int p4), .val (.int (0 : Int32)), .val (.int p2), .val (.int p3), .val (.ref b2), .val (.ref b10), .val (.ref b24), .val (.int (((31 : Int32) * p0) + p1)), .val (.int (((31 : Int32) * p0) + p1)), .val (.int (((31 : Int32) * p0) + p1)), .unset] [(.int (((31 : Int32) * p2) + p3))]))
    refine own_step (fun _ k => XS.istore X47.here hx rfl (hb hby at_99) rfl (l' := #[.val (.int p0), .val (.int p1), .val (.int p2), .val (.int p3), .val (.int p4), .val (.int (0 : Int32)), .val (.int p2), .val (.int p3), .val (.ref b2), .val (.ref b10), .val (.ref b24), .val (.int (((31 : Int32) * p0) + p1)), .val (.int (((31 : Int32) * p0) + p1)), .val (.int (((31 : Int32) * p0) + p1)), .val (.int (((31 : Int32) * p2) + p3))]) rfl k) ?_
    show own_Fin p e below s _ _ _ (T47.setTop (mkF m 101 #[.val (.int p0), .val (.int p1), .val (.int p2), .val (.int p3), .val (.int p4), .val (.int (0 : Int32)), .val (.int p2), .val (.int p3), .val (.ref b2), .val (.ref b10), .val (.ref b24), .val (.int (((31 : Int32) * p0) + p1)), .val (.int (((31 : Int32) * p0) + p1)), .val (.int (((31 : Int32) * p0) + p1)), .val (.int (((31 : Int32) * p2) + p3))] []))
    refine own_step (fun _ k => XS.iload X47.here hx rfl (hb hby at_101) rfl k) ?_
    show own_Fin p e below s _ _ _ (T47.setTop (mkF m 103 #[.val (.int p0), .val (.int p1), .val (.int p2), .val (.int p3), .val (.int p4), .val (.int (0 : Int32)), .val (.int p2), .val (.int p3), .val (.ref b2), .val (.ref b10), .val (.ref b24), .val (.int (((31 : Int32) * p0) + p1)), .val (.int (((31 : Int32) * p0) + p1)), .val (.int (((31 : Int32) * p0) + p1)), .val (.int (((31 : Int32) * p2) + p3))] [(.int (((31 : Int32) * p0) + p1))]))
    refine own_step (fun _ k => XS.iload X47.here hx rfl (hb hby at_103) rfl k) ?_
    show own_Fin p e below s _ _ _ (T47.setTop (mkF m 105 #[.val (.int p0), .val (.int p1), .val (.int p2), .val (.int p3), .val (.int p4), .val (.int (0 : Int32)), .val (.int p2), .val (.int p3), .val (.ref b2), .val (.ref b10), .val (.ref b24), .val (.int (((31 : Int32) * p0) + p1)), .val (.int (((31 : Int32) * p0) + p1)), .val (.int (((31 : Int32) * p0) + p1)), .val (.int (((31 : Int32) * p2) + p3))] [(.int (((31 : Int32) * p0) + p1)), (.int (((31 : Int32) * p0) + p1))]))
    refine own_step (fun _ k => XS.icmpYes X47.here hx rfl (pc0 := 105) (pc' := 110) rfl (hb hby at_105) rfl (teq (rfl : (((31 : Int32) * p0) + p1) = (((31 : Int32) * p0) + p1))).1 (by decide) (by decide) k) ?_
    show own_Fin p e below s _ _ _ (T47.setTop (mkF m 110 #[.val (.int p0), .val (.int p1), .val (.int p2), .val (.int p3), .val (.int p4), .val (.int (0 : Int32)), .val (.int p2), .val (.int p3), .val (.ref b2), .val (.ref b10), .val (.ref b24), .val (.int (((31 : Int32) * p0) + p1)), .val (.int (((31 : Int32) * p0) + p1)), .val (.int (((31 : Int32) * p0) + p1)), .val (.int (((31 : Int32) * p2) + p3))] []))
    refine own_step (fun _ k => XS.iload X47.here hx rfl (hb hby at_110) rfl k) ?_
    show own_Fin p e below s _ _ _ (T47.setTop (mkF m 112 #[.val (.int p0), .val (.int p1), .val (.int p2), .val (.int p3), .val (.int p4), .val (.int (0 : Int32)), .val (.int p2), .val (.int p3), .val (.ref b2), .val (.ref b10), .val (.ref b24), .val (.int (((31 : Int32) * p0) + p1)), .val (.int (((31 : Int32) * p0) + p1)), .val (.int (((31 : Int32) * p0) + p1)), .val (.int (((31 : Int32) * p2) + p3))] [(.int (((31 : Int32) * p0) + p1))]))
    refine own_step (fun _ k => XS.iload X47.here hx rfl (hb hby at_112) rfl k) ?_
    show own_Fin p e below s _ _ _ (T47.setTop (mkF m 114 #[.val (.int p0), .val (.int p1), .val (.int p2), .val (.int p3), .val (.int p4), .val (.int (0 : Int32)), .val (.int p2), .val (.int p3), .val (.ref b2), .val (.ref b10), .val (.ref b24), .val (.int (((31 : Int32) * p0) + p1)), .val (.int (((31 : Int32) * p0) + p1)), .val (.int (((31 : Int32) * p0) + p1)), .val (.int (((31 : Int32) * p2) + p3))] [(.int (((31 : Int32) * p0) + p1)), (.int (((31 : Int32) * p0) + p1))]))
    refine own_step (fun _ k => XS.icmpYes X47.here hx rfl (pc0 := 114) (pc' := 119) rfl (hb hby at_114) rfl (teq (rfl : (((31 : Int32) * p0) + p1) = (((31 : Int32) * p0) + p1))).1 (by decide) (by decide) k) ?_
    show own_Fin p e below s _ _ _ (T47.setTop (mkF m 119 #[.val (.int p0), .val (.int p1), .val (.int p2), .val (.int p3), .val (.int p4), .val (.int (0 : Int32)), .val (.int p2), .val (.int p3), .val (.ref b2), .val (.ref b10), .val (.ref b24), .val (.int (((31 : Int32) * p0) + p1)), .val (.int (((31 : Int32) * p0) + p1)), .val (.int (((31 : Int32) * p0) + p1)), .val (.int (((31 : Int32) * p2) + p3))] []))
    refine own_step (fun _ k => XS.aload X47.here hx rfl (hb hby at_119) rfl rfl k) ?_
    show own_Fin p e below s _ _ _ (T47.setTop (mkF m 121 #[.val (.int p0), .val (.int p1), .val (.int p2), .val (.int p3), .val (.int p4), .val (.int (0 : Int32)), .val (.int p2), .val (.int p3), .val (.ref b2), .val (.ref b10), .val (.ref b24), .val (.int (((31 : Int32) * p0) + p1)), .val (.int (((31 : Int32) * p0) + p1)), .val (.int (((31 : Int32) * p0) + p1)), .val (.int (((31 : Int32) * p2) + p3))] [(.ref b2)]))
    refine own_step (fun _ k => XS.aload X47.here hx rfl (hb hby at_121) rfl rfl k) ?_
    show own_Fin p e below s _ _ _ (T47.setTop (mkF m 123 #[.val (.int p0), .val (.int p1), .val (.int p2), .val (.int p3), .val (.int p4), .val (.int (0 : Int32)), .val (.int p2), .val (.int p3), .val (.ref b2), .val (.ref b10), .val (.ref b24), .val (.int (((31 : Int32) * p0) + p1)), .val (.int (((31 : Int32) * p0) + p1)), .val (.int (((31 : Int32) * p0) + p1)), .val (.int (((31 : Int32) * p2) + p3))] [(.ref b24), (.ref b2)]))
    obtain ⟨cq48, kq48, q48a, q48b, q48c⟩ := isOf hZ e47 G37
    obtain ⟨_, _, ⟨T48, L48, k48, n48⟩, -, X48, ⟨Lc48, hQ48, l48, y48, z48⟩, st48⟩ := X47.virtualBack hx (y := own_y3) (z := own_y3) hown (mvT hZ (own_w hw 23 rfl)) (mvT hZ (own_w hw 24 rfl)) (notFace_of_selects (args := #[]) (mvT hZ (own_w hw 26 rfl))) (mvT hZ (own_w hw 26 rfl)) (mvT hZ (own_w hw 25 rfl)) (by decide) (backOf (W := 0) (own_rm4 l Z a0 hw [] b2 b24 p2 p0 p3 p1 T33.heap n0 Z33 G34 G35 G38 G36 G39) hZ (own_w hw 27 rfl) (own_w hw 2 rfl) (by decide) (by decide)) q48a q48c (g := (mkF m 123 #[.val (.int p0), .val (.int p1), .val (.int p2), .val (.int p3), .val (.int p4), .val (.int (0 : Int32)), .val (.int p2), .val (.int p3), .val (.ref b2), .val (.ref b10), .val (.ref b24), .val (.int (((31 : Int32) * p0) + p1)), .val (.int (((31 : Int32) * p0) + p1)), .val (.int (((31 : Int32) * p0) + p1)), .val (.int (((31 : Int32) * p2) + p3))] [(.ref b24), (.ref b2)])) rfl (by rw [hml]; rfl) (Steps.refl _) (argsL := [(.ref b24)]) (rest := []) (lenOf own_pd3 rfl) rfl (by show 2 * 0 + _ ≤ _; exact Nat.le_of_eq rfl) (hb hby at_123) (fun _ _ => ⟨rfl, e47, (by decide : 3 + 0 ≤ _), (by decide : 6 + 0 ≤ _)⟩)
    dsimp only [Pt.U, Pt.locs, Pt.cells, Pt.slots] at X48 l48 y48 z48 st48 hQ48
    subst l48 y48 z48
    obtain ⟨rfl, N48q, e48⟩ := hQ48
    have N48 := Fr.app N47 N48q
    refine own_step (fun _ k => st48.trans k) ?_
    show own_Fin p e below s _ _ _ (T48.setTop (mkF m 126 #[.val (.int p0), .val (.int p1), .val (.int p2), .val (.int p3), .val (.int p4), .val (.int (0 : Int32)), .val (.int p2), .val (.int p3), .val (.ref b2), .val (.ref b10), .val (.ref b24), .val (.int (((31 : Int32) * p0) + p1)), .val (.int (((31 : Int32) * p0) + p1)), .val (.int (((31 : Int32) * p0) + p1)), .val (.int (((31 : Int32) * p2) + p3))] [(.int (own_r4 p2 p0 p3 p1))]))
    by_cases hc49 : (own_r4 p2 p0 p3 p1) = (0 : Int32)
    · refine own_step (fun _ k => XS.ifYes X48.here hx rfl (pc0 := 126) (pc' := 138) rfl (hb hby at_126) rfl ((if0 _ _).trans (teq hc49).1) (by decide) (by decide) k) ?_
      show own_Fin p e below s _ _ _ (T48.setTop (mkF m 138 #[.val (.int p0), .val (.int p1), .val (.int p2), .val (.int p3), .val (.int p4), .val (.int (0 : Int32)), .val (.int p2), .val (.int p3), .val (.ref b2), .val (.ref b10), .val (.ref b24), .val (.int (((31 : Int32) * p0) + p1)), .val (.int (((31 : Int32) * p0) + p1)), .val (.int (((31 : Int32) * p0) + p1)), .val (.int (((31 : Int32) * p2) + p3))] []))
      refine own_step (fun _ k => XS.iload X48.here hx rfl (hb hby at_138) rfl k) ?_
      show own_Fin p e below s _ _ _ (T48.setTop (mkF m 140 #[.val (.int p0), .val (.int p1), .val (.int p2), .val (.int p3), .val (.int p4), .val (.int (0 : Int32)), .val (.int p2), .val (.int p3), .val (.ref b2), .val (.ref b10), .val (.ref b24), .val (.int (((31 : Int32) * p0) + p1)), .val (.int (((31 : Int32) * p0) + p1)), .val (.int (((31 : Int32) * p0) + p1)), .val (.int (((31 : Int32) * p2) + p3))] [(.int (0 : Int32))]))
      refine own_step (fun _ k => XS.ifYes X48.here hx rfl (pc0 := 140) (pc' := 152) rfl (hb hby at_140) rfl ((if0 _ _).trans (teq (by decide : (0 : Int32) = (0 : Int32))).1) (by decide) (by decide) k) ?_
      show own_Fin p e below s _ _ _ (T48.setTop (mkF m 152 #[.val (.int p0), .val (.int p1), .val (.int p2), .val (.int p3), .val (.int p4), .val (.int (0 : Int32)), .val (.int p2), .val (.int p3), .val (.ref b2), .val (.ref b10), .val (.ref b24), .val (.int (((31 : Int32) * p0) + p1)), .val (.int (((31 : Int32) * p0) + p1)), .val (.int (((31 : Int32) * p0) + p1)), .val (.int (((31 : Int32) * p2) + p3))] []))
      refine own_step (fun _ k => XS.iconst X48.here hx rfl (hb hby at_152) k) ?_
      show own_Fin p e below s _ _ _ (T48.setTop (mkF m 153 #[.val (.int p0), .val (.int p1), .val (.int p2), .val (.int p3), .val (.int p4), .val (.int (0 : Int32)), .val (.int p2), .val (.int p3), .val (.ref b2), .val (.ref b10), .val (.ref b24), .val (.int (((31 : Int32) * p0) + p1)), .val (.int (((31 : Int32) * p0) + p1)), .val (.int (((31 : Int32) * p0) + p1)), .val (.int (((31 : Int32) * p2) + p3))] [(.int (1 : Int32))]))
      exact own_ret X48 hlk (v := some (.int (1 : Int32))) (fun h => by rw [Bd.returns] at h; cases h) (by decide) (by decide) (by show own_Q5 Z p0 p1 p2 p3 p4 h0 n0 _ T48.heap _; rw [e48]; exact ⟨rfl, N48⟩) (fun fs hr => retN X48 hx (t := .boolean) Bd.returns (by simp) (hb hby at_153) hr)
    · refine own_step (fun _ k => XS.ifNo X48.here hx rfl (hb hby at_126) rfl ((if0 _ _).trans (feq hc49).1) k) ?_
      show own_Fin p e below s _ _ _ (T48.setTop (mkF m 129 #[.val (.int p0), .val (.int p1), .val (.int p2), .val (.int p3), .val (.int p4), .val (.int (0 : Int32)), .val (.int p2), .val (.int p3), .val (.ref b2), .val (.ref b10), .val (.ref b24), .val (.int (((31 : Int32) * p0) + p1)), .val (.int (((31 : Int32) * p0) + p1)), .val (.int (((31 : Int32) * p0) + p1)), .val (.int (((31 : Int32) * p2) + p3))] []))
      refine own_step (fun _ k => XS.iload X48.here hx rfl (hb hby at_129) rfl k) ?_
      show own_Fin p e below s _ _ _ (T48.setTop (mkF m 131 #[.val (.int p0), .val (.int p1), .val (.int p2), .val (.int p3), .val (.int p4), .val (.int (0 : Int32)), .val (.int p2), .val (.int p3), .val (.ref b2), .val (.ref b10), .val (.ref b24), .val (.int (((31 : Int32) * p0) + p1)), .val (.int (((31 : Int32) * p0) + p1)), .val (.int (((31 : Int32) * p0) + p1)), .val (.int (((31 : Int32) * p2) + p3))] [(.int (((31 : Int32) * p0) + p1))]))
      refine own_step (fun _ k => XS.iload X48.here hx rfl (hb hby at_131) rfl k) ?_
      show own_Fin p e below s _ _ _ (T48.setTop (mkF m 133 #[.val (.int p0), .val (.int p1), .val (.int p2), .val (.int p3), .val (.int p4), .val (.int (0 : Int32)), .val (.int p2), .val (.int p3), .val (.ref b2), .val (.ref b10), .val (.ref b24), .val (.int (((31 : Int32) * p0) + p1)), .val (.int (((31 : Int32) * p0) + p1)), .val (.int (((31 : Int32) * p0) + p1)), .val (.int (((31 : Int32) * p2) + p3))] [(.int (((31 : Int32) * p2) + p3)), (.int (((31 : Int32) * p0) + p1))]))
      by_cases hc50 : (((31 : Int32) * p0) + p1) = (((31 : Int32) * p2) + p3)
      · refine own_step (fun _ k => XS.icmpYes X48.here hx rfl (pc0 := 133) (pc' := 138) rfl (hb hby at_133) rfl (teq hc50).1 (by decide) (by decide) k) ?_
        show own_Fin p e below s _ _ _ (T48.setTop (mkF m 138 #[.val (.int p0), .val (.int p1), .val (.int p2), .val (.int p3), .val (.int p4), .val (.int (0 : Int32)), .val (.int p2), .val (.int p3), .val (.ref b2), .val (.ref b10), .val (.ref b24), .val (.int (((31 : Int32) * p0) + p1)), .val (.int (((31 : Int32) * p0) + p1)), .val (.int (((31 : Int32) * p0) + p1)), .val (.int (((31 : Int32) * p2) + p3))] []))
        refine own_step (fun _ k => XS.iload X48.here hx rfl (hb hby at_138) rfl k) ?_
        show own_Fin p e below s _ _ _ (T48.setTop (mkF m 140 #[.val (.int p0), .val (.int p1), .val (.int p2), .val (.int p3), .val (.int p4), .val (.int (0 : Int32)), .val (.int p2), .val (.int p3), .val (.ref b2), .val (.ref b10), .val (.ref b24), .val (.int (((31 : Int32) * p0) + p1)), .val (.int (((31 : Int32) * p0) + p1)), .val (.int (((31 : Int32) * p0) + p1)), .val (.int (((31 : Int32) * p2) + p3))] [(.int (0 : Int32))]))
        refine own_step (fun _ k => XS.ifYes X48.here hx rfl (pc0 := 140) (pc' := 152) rfl (hb hby at_140) rfl ((if0 _ _).trans (teq (by decide : (0 : Int32) = (0 : Int32))).1) (by decide) (by decide) k) ?_
        show own_Fin p e below s _ _ _ (T48.setTop (mkF m 152 #[.val (.int p0), .val (.int p1), .val (.int p2), .val (.int p3), .val (.int p4), .val (.int (0 : Int32)), .val (.int p2), .val (.int p3), .val (.ref b2), .val (.ref b10), .val (.ref b24), .val (.int (((31 : Int32) * p0) + p1)), .val (.int (((31 : Int32) * p0) + p1)), .val (.int (((31 : Int32) * p0) + p1)), .val (.int (((31 : Int32) * p2) + p3))] []))
        refine own_step (fun _ k => XS.iconst X48.here hx rfl (hb hby at_152) k) ?_
        show own_Fin p e below s _ _ _ (T48.setTop (mkF m 153 #[.val (.int p0), .val (.int p1), .val (.int p2), .val (.int p3), .val (.int p4), .val (.int (0 : Int32)), .val (.int p2), .val (.int p3), .val (.ref b2), .val (.ref b10), .val (.ref b24), .val (.int (((31 : Int32) * p0) + p1)), .val (.int (((31 : Int32) * p0) + p1)), .val (.int (((31 : Int32) * p0) + p1)), .val (.int (((31 : Int32) * p2) + p3))] [(.int (1 : Int32))]))
        exact own_ret X48 hlk (v := some (.int (1 : Int32))) (fun h => by rw [Bd.returns] at h; cases h) (by decide) (by decide) (by show own_Q5 Z p0 p1 p2 p3 p4 h0 n0 _ T48.heap _; rw [e48]; exact ⟨rfl, N48⟩) (fun fs hr => retN X48 hx (t := .boolean) Bd.returns (by simp) (hb hby at_153) hr)
      · refine own_step (fun _ k => XS.icmpNo X48.here hx rfl (hb hby at_133) rfl (feq hc50).1 k) ?_
        show own_Fin p e below s _ _ _ (T48.setTop (mkF m 136 #[.val (.int p0), .val (.int p1), .val (.int p2), .val (.int p3), .val (.int p4), .val (.int (0 : Int32)), .val (.int p2), .val (.int p3), .val (.ref b2), .val (.ref b10), .val (.ref b24), .val (.int (((31 : Int32) * p0) + p1)), .val (.int (((31 : Int32) * p0) + p1)), .val (.int (((31 : Int32) * p0) + p1)), .val (.int (((31 : Int32) * p2) + p3))] []))
        refine own_step (fun _ k => XS.iconst X48.here hx rfl (hb hby at_136) k) ?_
        show own_Fin p e below s _ _ _ (T48.setTop (mkF m 137 #[.val (.int p0), .val (.int p1), .val (.int p2), .val (.int p3), .val (.int p4), .val (.int (0 : Int32)), .val (.int p2), .val (.int p3), .val (.ref b2), .val (.ref b10), .val (.ref b24), .val (.int (((31 : Int32) * p0) + p1)), .val (.int (((31 : Int32) * p0) + p1)), .val (.int (((31 : Int32) * p0) + p1)), .val (.int (((31 : Int32) * p2) + p3))] [(.int (0 : Int32))]))
        exfalso
        by_cases q1 : p2 = p0 <;> by_cases q2 : p3 = p1 <;> simp_all [own_r4]
  · refine own_step (fun _ k => XS.ifNo X0.here hx rfl (hb hby at_4) rfl ((if0 _ _).trans (feq hc1).1) k) ?_
    show own_Fin p e below s _ _ _ (s₁.setTop (mkF m 7 #[.val (.int p0), .val (.int p1), .val (.int p2), .val (.int p3), .val (.int p4), .unset, .unset, .unset, .unset, .unset, .unset, .unset, .unset, .unset, .unset] []))
    refine own_step (fun _ k => XS.iconst X0.here hx rfl (hb hby at_7) k) ?_
    show own_Fin p e below s _ _ _ (s₁.setTop (mkF m 8 #[.val (.int p0), .val (.int p1), .val (.int p2), .val (.int p3), .val (.int p4), .unset, .unset, .unset, .unset, .unset, .unset, .unset, .unset, .unset, .unset] [(.int (1 : Int32))]))
    refine own_step (fun _ k => XS.goto X0.here hx rfl (pc0 := 8) (pc' := 12) rfl (hb hby at_8) (by decide) (by decide) k) ?_
    show own_Fin p e below s _ _ _ (s₁.setTop (mkF m 12 #[.val (.int p0), .val (.int p1), .val (.int p2), .val (.int p3), .val (.int p4), .unset, .unset, .unset, .unset, .unset, .unset, .unset, .unset, .unset, .unset] [(.int (1 : Int32))]))
    refine own_step (fun _ k => XS.istore X0.here hx rfl (hb hby at_12) rfl (l' := #[.val (.int p0), .val (.int p1), .val (.int p2), .val (.int p3), .val (.int p4), .val (.int (1 : Int32)), .unset, .unset, .unset, .unset, .unset, .unset, .unset, .unset, .unset]) rfl k) ?_
    show own_Fin p e below s _ _ _ (s₁.setTop (mkF m 14 #[.val (.int p0), .val (.int p1), .val (.int p2), .val (.int p3), .val (.int p4), .val (.int (1 : Int32)), .unset, .unset, .unset, .unset, .unset, .unset, .unset, .unset, .unset] []))
    refine own_step (fun _ k => XS.iload X0.here hx rfl (hb hby at_14) rfl k) ?_
    show own_Fin p e below s _ _ _ (s₁.setTop (mkF m 16 #[.val (.int p0), .val (.int p1), .val (.int p2), .val (.int p3), .val (.int p4), .val (.int (1 : Int32)), .unset, .unset, .unset, .unset, .unset, .unset, .unset, .unset, .unset] [(.int (1 : Int32))]))
    refine own_step (fun _ k => XS.ifNo X0.here hx rfl (hb hby at_16) rfl ((if0 _ _).trans (feq (by decide : ¬ ((1 : Int32) = (0 : Int32)))).1) k) ?_
    show own_Fin p e below s _ _ _ (s₁.setTop (mkF m 19 #[.val (.int p0), .val (.int p1), .val (.int p2), .val (.int p3), .val (.int p4), .val (.int (1 : Int32)), .unset, .unset, .unset, .unset, .unset, .unset, .unset, .unset, .unset] []))
    refine own_step (fun _ k => XS.iloadN X0.here hx rfl (hb hby at_19) rfl k) ?_
    show own_Fin p e below s _ _ _ (s₁.setTop (mkF m 20 #[.val (.int p0), .val (.int p1), .val (.int p2), .val (.int p3), .val (.int p4), .val (.int (1 : Int32)), .unset, .unset, .unset, .unset, .unset, .unset, .unset, .unset, .unset] [(.int p0)]))
    refine own_step (fun _ k => XS.goto X0.here hx rfl (pc0 := 20) (pc' := 24) rfl (hb hby at_20) (by decide) (by decide) k) ?_
    show own_Fin p e below s _ _ _ (s₁.setTop (mkF m 24 #[.val (.int p0), .val (.int p1), .val (.int p2), .val (.int p3), .val (.int p4), .val (.int (1 : Int32)), .unset, .unset, .unset, .unset, .unset, .unset, .unset, .unset, .unset] [(.int p0)]))
    refine own_step (fun _ k => XS.istore X0.here hx rfl (hb hby at_24) rfl (l' := #[.val (.int p0), .val (.int p1), .val (.int p2), .val (.int p3), .val (.int p4), .val (.int (1 : Int32)), .val (.int p0), .unset, .unset, .unset, .unset, .unset, .unset, .unset, .unset]) rfl k) ?_
    show own_Fin p e below s _ _ _ (s₁.setTop (mkF m 26 #[.val (.int p0), .val (.int p1), .val (.int p2), .val (.int p3), .val (.int p4), .val (.int (1 : Int32)), .val (.int p0), .unset, .unset, .unset, .unset, .unset, .unset, .unset, .unset] []))
    refine own_step (fun _ k => XS.iload X0.here hx rfl (hb hby at_26) rfl k) ?_
    show own_Fin p e below s _ _ _ (s₁.setTop (mkF m 28 #[.val (.int p0), .val (.int p1), .val (.int p2), .val (.int p3), .val (.int p4), .val (.int (1 : Int32)), .val (.int p0), .unset, .unset, .unset, .unset, .unset, .unset, .unset, .unset] [(.int (1 : Int32))]))
    refine own_step (fun _ k => XS.ifNo X0.here hx rfl (hb hby at_28) rfl ((if0 _ _).trans (feq (by decide : ¬ ((1 : Int32) = (0 : Int32)))).1) k) ?_
    show own_Fin p e below s _ _ _ (s₁.setTop (mkF m 31 #[.val (.int p0), .val (.int p1), .val (.int p2), .val (.int p3), .val (.int p4), .val (.int (1 : Int32)), .val (.int p0), .unset, .unset, .unset, .unset, .unset, .unset, .unset, .unset] []))
    refine own_step (fun _ k => XS.iloadN X0.here hx rfl (hb hby at_31) rfl k) ?_
    show own_Fin p e below s _ _ _ (s₁.setTop (mkF m 32 #[.val (.int p0), .val (.int p1), .val (.int p2), .val (.int p3), .val (.int p4), .val (.int (1 : Int32)), .val (.int p0), .unset, .unset, .unset, .unset, .unset, .unset, .unset, .unset] [(.int p1)]))
    refine own_step (fun _ k => XS.goto X0.here hx rfl (pc0 := 32) (pc' := 36) rfl (hb hby at_32) (by decide) (by decide) k) ?_
    show own_Fin p e below s _ _ _ (s₁.setTop (mkF m 36 #[.val (.int p0), .val (.int p1), .val (.int p2), .val (.int p3), .val (.int p4), .val (.int (1 : Int32)), .val (.int p0), .unset, .unset, .unset, .unset, .unset, .unset, .unset, .unset] [(.int p1)]))
    refine own_step (fun _ k => XS.istore X0.here hx rfl (hb hby at_36) rfl (l' := #[.val (.int p0), .val (.int p1), .val (.int p2), .val (.int p3), .val (.int p4), .val (.int (1 : Int32)), .val (.int p0), .val (.int p1), .unset, .unset, .unset, .unset, .unset, .unset, .unset]) rfl k) ?_
    show own_Fin p e below s _ _ _ (s₁.setTop (mkF m 38 #[.val (.int p0), .val (.int p1), .val (.int p2), .val (.int p3), .val (.int p4), .val (.int (1 : Int32)), .val (.int p0), .val (.int p1), .unset, .unset, .unset, .unset, .unset, .unset, .unset] []))
    obtain ⟨T51, h51, X51, e51, E51, A51, D51, -, st51⟩ := newO X0 hx hZ hown (own_w hw 0 rfl) (own_w hw 1 rfl) (own_w hw 2 rfl) e0 (g := (mkF m 38 #[.val (.int p0), .val (.int p1), .val (.int p2), .val (.int p3), .val (.int p4), .val (.int (1 : Int32)), .val (.int p0), .val (.int p1), .unset, .unset, .unset, .unset, .unset, .unset, .unset] [])) rfl (hb hby at_38) (by decide) (by decide)
    obtain ⟨b51, g51⟩ : ∃ z, z = h0.size := ⟨_, rfl⟩
    rw [← g51] at A51 D51 st51
    have gg51 : n0 ≤ b51 := Nat.le_trans Z0 (Nat.le_of_eq g51.symm)
    have sz51 : h0.size ≤ b51 := Nat.le_trans KR.1 (Nat.le_of_eq g51.symm)
    have K51 : Keep h0 h51 [] := KR.ext E51
    have Z51 : n0 ≤ h51.size := Nat.le_trans Z0 E51.1
    have G52 : Fld Z h51 b51 "com/example/tandem/tandem/analysis/Cuts$Range" "from" "I" (.int (0 : Int32)) := D51 (Or.inr (own_w hw 15 rfl)) (ty := .int) (by decide)
    have G53 : Fld Z h51 b51 "com/example/tandem/tandem/analysis/Cuts$Range" "to" "I" (.int (0 : Int32)) := D51 (Or.inr (own_w hw 17 rfl)) (ty := .int) (by decide)
    refine own_step st51 ?_
    show own_Fin p e below s _ _ _ (T51.setTop (mkF m 41 #[.val (.int p0), .val (.int p1), .val (.int p2), .val (.int p3), .val (.int p4), .val (.int (1 : Int32)), .val (.int p0), .val (.int p1), .unset, .unset, .unset, .unset, .unset, .unset, .unset] [(.ref b51)]))
    refine own_step (fun _ k => XS.dup X51.here hx rfl (hb hby at_41) rfl rfl k) ?_
    show own_Fin p e below s _ _ _ (T51.setTop (mkF m 42 #[.val (.int p0), .val (.int p1), .val (.int p2), .val (.int p3), .val (.int p4), .val (.int (1 : Int32)), .val (.int p0), .val (.int p1), .unset, .unset, .unset, .unset, .unset, .unset, .unset] [(.ref b51), (.ref b51)]))
    refine own_step (fun _ k => XS.iloadN X51.here hx rfl (hb hby at_42) rfl k) ?_
    show own_Fin p e below s _ _ _ (T51.setTop (mkF m 43 #[.val (.int p0), .val (.int p1), .val (.int p2), .val (.int p3), .val (.int p4), .val (.int (1 : Int32)), .val (.int p0), .val (.int p1), .unset, .unset, .unset, .unset, .unset, .unset, .unset] [(.int p0), (.ref b51), (.ref b51)]))
    refine own_step (fun _ k => XS.iloadN X51.here hx rfl (hb hby at_43) rfl k) ?_
    show own_Fin p e below s _ _ _ (T51.setTop (mkF m 44 #[.val (.int p0), .val (.int p1), .val (.int p2), .val (.int p3), .val (.int p4), .val (.int (1 : Int32)), .val (.int p0), .val (.int p1), .unset, .unset, .unset, .unset, .unset, .unset, .unset] [(.int p1), (.int p0), (.ref b51), (.ref b51)]))
    obtain ⟨_, _, ⟨T54, L54, k54, n54⟩, -, X54, ⟨Lc54, hQ54, l54, y54, z54⟩, st54⟩ := X51.specialBack hx (y := own_y1) rfl hown (mvT hZ (own_w hw 3 rfl)) (mvT hZ (own_w hw 4 rfl)) (mvT hZ (own_w hw 5 rfl)) (by decide) (backOf (W := 1) (own_rm2 l Z a0 hw [] b51 p0 p1 ((.int (0 : Int32))) ((.int (0 : Int32))) h51 n0 Z51 A51 G52 G53 gg51) hZ (own_w hw 5 rfl) (own_w hw 2 rfl) (by decide) (by decide)) (g := (mkF m 44 #[.val (.int p0), .val (.int p1), .val (.int p2), .val (.int p3), .val (.int p4), .val (.int (1 : Int32)), .val (.int p0), .val (.int p1), .unset, .unset, .unset, .unset, .unset, .unset, .unset] [(.int p1), (.int p0), (.ref b51), (.ref b51)])) rfl (by rw [hml]; rfl) (Steps.refl _) (a := b51) (argsL := [(.int p0), (.int p1)]) (rest := [(.ref b51)]) (lenOf own_pd1 rfl) rfl (by show 2 * 0 + _ ≤ _; exact Nat.le_of_eq rfl) (hb hby at_44) (fun _ _ => ⟨rfl, e51, (by decide : 1 + 0 ≤ _), (by decide : 2 + 0 ≤ _)⟩)
    dsimp only [Pt.U, Pt.locs, Pt.cells, Pt.slots] at X54 l54 y54 z54 st54 hQ54
    subst l54 y54 z54
    obtain ⟨N54q, K54q, rfl, G55, G56, G57⟩ := hQ54
    have N54 := Fr.app N0 N54q
    have K54 : Keep h0 T54.heap [] := K51.trans K54q (allS (P := fun x => x ∈ [] ∨ h0.size ≤ x) (Or.inr sz51) all0)
    have Z54 : n0 ≤ T54.heap.size := Nat.le_trans Z51 K54q.1
    have G58 := (A51.keep K54q)
    refine own_step (fun _ k => st54.trans k) ?_
    show own_Fin p e below s _ _ _ (T54.setTop (mkF m 47 #[.val (.int p0), .val (.int p1), .val (.int p2), .val (.int p3), .val (.int p4), .val (.int (1 : Int32)), .val (.int p0), .val (.int p1), .unset, .unset, .unset, .unset, .unset, .unset, .unset] [(.ref b51)]))
    refine own_step (fun _ k => XS.astore X54.here hx rfl (hb hby at_47) rfl rfl (l' := #[.val (.int p0), .val (.int p1), .val (.int p2), .val (.int p3), .val (.int p4), .val (.int (1 : Int32)), .val (.int p0), .val (.int p1), .val (.ref b51), .unset, .unset, .unset, .unset, .unset, .unset]) rfl k) ?_
    show own_Fin p e below s _ _ _ (T54.setTop (mkF m 49 #[.val (.int p0), .val (.int p1), .val (.int p2), .val (.int p3), .val (.int p4), .val (.int (1 : Int32)), .val (.int p0), .val (.int p1), .val (.ref b51), .unset, .unset, .unset, .unset, .unset, .unset] []))
    obtain ⟨T59, h59, X59, e59, E59, A59, D59, -, st59⟩ := newO X54 hx hZ hown (own_w hw 0 rfl) (own_w hw 1 rfl) (own_w hw 2 rfl) rfl (g := (mkF m 49 #[.val (.int p0), .val (.int p1), .val (.int p2), .val (.int p3), .val (.int p4), .val (.int (1 : Int32)), .val (.int p0), .val (.int p1), .val (.ref b51), .unset, .unset, .unset, .unset, .unset, .unset] [])) rfl (hb hby at_49) (by decide) (by decide)
    obtain ⟨b59, g59⟩ : ∃ z, z = T54.heap.size := ⟨_, rfl⟩
    rw [← g59] at A59 D59 st59
    have ne59_b51 : b51 ≠ b59 := Nat.ne_of_lt (Nat.lt_of_lt_of_le G55.lt (Nat.le_of_eq g59.symm))
    have gg59 : n0 ≤ b59 := Nat.le_trans Z54 (Nat.le_of_eq g59.symm)
    have sz59 : h0.size ≤ b59 := Nat.le_trans K54.1 (Nat.le_of_eq g59.symm)
    have K59 : Keep h0 h59 [] := K54.ext E59
    have Z59 : n0 ≤ h59.size := Nat.le_trans Z54 E59.1
    have G60 := (G55.ext E59)
    have G61 := (G56.ext E59)
    have G62 := (G57.ext E59)
    have G63 : Fld Z h59 b59 "com/example/tandem/tandem/analysis/Cuts$Range" "from" "I" (.int (0 : Int32)) := D59 (Or.inr (own_w hw 15 rfl)) (ty := .int) (by decide)
    have G64 : Fld Z h59 b59 "com/example/tandem/tandem/analysis/Cuts$Range" "to" "I" (.int (0 : Int32)) := D59 (Or.inr (own_w hw 17 rfl)) (ty := .int) (by decide)
    refine own_step st59 ?_
    show own_Fin p e below s _ _ _ (T59.setTop (mkF m 52 #[.val (.int p0), .val (.int p1), .val (.int p2), .val (.int p3), .val (.int p4), .val (.int (1 : Int32)), .val (.int p0), .val (.int p1), .val (.ref b51), .unset, .unset, .unset, .unset, .unset, .unset] [(.ref b59)]))
    refine own_step (fun _ k => XS.dup X59.here hx rfl (hb hby at_52) rfl rfl k) ?_
    show own_Fin p e below s _ _ _ (T59.setTop (mkF m 53 #[.val (.int p0), .val (.int p1), .val (.int p2), .val (.int p3), .val (.int p4), .val (.int (1 : Int32)), .val (.int p0), .val (.int p1), .val (.ref b51), .unset, .unset, .unset, .unset, .unset, .unset] [(.ref b59), (.ref b59)]))
    refine own_step (fun _ k => XS.iloadN X59.here hx rfl (hb hby at_53) rfl k) ?_
    show own_Fin p e below s _ _ _ (T59.setTop (mkF m 54 #[.val (.int p0), .val (.int p1), .val (.int p2), .val (.int p3), .val (.int p4), .val (.int (1 : Int32)), .val (.int p0), .val (.int p1), .val (.ref b51), .unset, .unset, .unset, .unset, .unset, .unset] [(.int p0), (.ref b59), (.ref b59)]))
    refine own_step (fun _ k => XS.iloadN X59.here hx rfl (hb hby at_54) rfl k) ?_
    show own_Fin p e below s _ _ _ (T59.setTop (mkF m 55 #[.val (.int p0), .val (.int p1), .val (.int p2), .val (.int p3), .val (.int p4), .val (.int (1 : Int32)), .val (.int p0), .val (.int p1), .val (.ref b51), .unset, .unset, .unset, .unset, .unset, .unset] [(.int p1), (.int p0), (.ref b59), (.ref b59)]))
    obtain ⟨_, _, ⟨T65, L65, k65, n65⟩, -, X65, ⟨Lc65, hQ65, l65, y65, z65⟩, st65⟩ := X59.specialBack hx (y := own_y1) rfl hown (mvT hZ (own_w hw 3 rfl)) (mvT hZ (own_w hw 4 rfl)) (mvT hZ (own_w hw 5 rfl)) (by decide) (backOf (W := 1) (own_rm2 l Z a0 hw [] b59 p0 p1 ((.int (0 : Int32))) ((.int (0 : Int32))) h59 n0 Z59 A59 G63 G64 gg59) hZ (own_w hw 5 rfl) (own_w hw 2 rfl) (by decide) (by decide)) (g := (mkF m 55 #[.val (.int p0), .val (.int p1), .val (.int p2), .val (.int p3), .val (.int p4), .val (.int (1 : Int32)), .val (.int p0), .val (.int p1), .val (.ref b51), .unset, .unset, .unset, .unset, .unset, .unset] [(.int p1), (.int p0), (.ref b59), (.ref b59)])) rfl (by rw [hml]; rfl) (Steps.refl _) (a := b59) (argsL := [(.int p0), (.int p1)]) (rest := [(.ref b59)]) (lenOf own_pd1 rfl) rfl (by show 2 * 0 + _ ≤ _; exact Nat.le_of_eq rfl) (hb hby at_55) (fun _ _ => ⟨rfl, e59, (by decide : 2 + 0 ≤ _), (by decide : 4 + 0 ≤ _)⟩)
    dsimp only [Pt.U, Pt.locs, Pt.cells, Pt.slots] at X65 l65 y65 z65 st65 hQ65
    subst l65 y65 z65
    obtain ⟨N65q, K65q, rfl, G66, G67, G68⟩ := hQ65
    have N65 := Fr.app N54 N65q
    have K65 : Keep h0 T65.heap [] := K59.trans K65q (allS (P := fun x => x ∈ [] ∨ h0.size ≤ x) (Or.inr sz59) all0)
    have Z65 : n0 ≤ T65.heap.size := Nat.le_trans Z59 K65q.1
    have G69 := (G60.keep K65q)
    have G70 := (G61.keep K65q (ninS ne59_b51 nin0))
    have G71 := (G62.keep K65q (ninS ne59_b51 nin0))
    have G72 := (A59.keep K65q)
    refine own_step (fun _ k => st65.trans k) ?_
    show own_Fin p e below s _ _ _ (T65.setTop (mkF m 58 #[.val (.int p0), .val (.int p1), .val (.int p2), .val (.int p3), .val (.int p4), .val (.int (1 : Int32)), .val (.int p0), .val (.int p1), .val (.ref b51), .unset, .unset, .unset, .unset, .unset, .unset] [(.ref b59)]))
    refine own_step (fun _ k => XS.astore X65.here hx rfl (hb hby at_58) rfl rfl (l' := #[.val (.int p0), .val (.int p1), .val (.int p2), .val (.int p3), .val (.int p4), .val (.int (1 : Int32)), .val (.int p0), .val (.int p1), .val (.ref b51), .val (.ref b59), .unset, .unset, .unset, .unset, .unset]) rfl k) ?_
    show own_Fin p e below s _ _ _ (T65.setTop (mkF m 60 #[.val (.int p0), .val (.int p1), .val (.int p2), .val (.int p3), .val (.int p4), .val (.int (1 : Int32)), .val (.int p0), .val (.int p1), .val (.ref b51), .val (.ref b59), .unset, .unset, .unset, .unset, .unset] []))
    obtain ⟨T73, h73, X73, e73, E73, A73, D73, -, st73⟩ := newO X65 hx hZ hown (own_w hw 0 rfl) (own_w hw 1 rfl) (own_w hw 2 rfl) rfl (g := (mkF m 60 #[.val (.int p0), .val (.int p1), .val (.int p2), .val (.int p3), .val (.int p4), .val (.int (1 : Int32)), .val (.int p0), .val (.int p1), .val (.ref b51), .val (.ref b59), .unset, .unset, .unset, .unset, .unset] [])) rfl (hb hby at_60) (by decide) (by decide)
    obtain ⟨b73, g73⟩ : ∃ z, z = T65.heap.size := ⟨_, rfl⟩
    rw [← g73] at A73 D73 st73
    have ne73_b51 : b51 ≠ b73 := Nat.ne_of_lt (Nat.lt_of_lt_of_le G69.lt (Nat.le_of_eq g73.symm))
    have ne73_b59 : b59 ≠ b73 := Nat.ne_of_lt (Nat.lt_of_lt_of_le G66.lt (Nat.le_of_eq g73.symm))
    have gg73 : n0 ≤ b73 := Nat.le_trans Z65 (Nat.le_of_eq g73.symm)
    have sz73 : h0.size ≤ b73 := Nat.le_trans K65.1 (Nat.le_of_eq g73.symm)
    have K73 : Keep h0 h73 [] := K65.ext E73
    have Z73 : n0 ≤ h73.size := Nat.le_trans Z65 E73.1
    have G74 := (G69.ext E73)
    have G75 := (G70.ext E73)
    have G76 := (G71.ext E73)
    have G77 := (G66.ext E73)
    have G78 := (G67.ext E73)
    have G79 := (G68.ext E73)
    have G80 : Fld Z h73 b73 "com/example/tandem/tandem/analysis/Cuts$Range" "from" "I" (.int (0 : Int32)) := D73 (Or.inr (own_w hw 15 rfl)) (ty := .int) (by decide)
    have G81 : Fld Z h73 b73 "com/example/tandem/tandem/analysis/Cuts$Range" "to" "I" (.int (0 : Int32)) := D73 (Or.inr (own_w hw 17 rfl)) (ty := .int) (by decide)
    refine own_step st73 ?_
    show own_Fin p e below s _ _ _ (T73.setTop (mkF m 63 #[.val (.int p0), .val (.int p1), .val (.int p2), .val (.int p3), .val (.int p4), .val (.int (1 : Int32)), .val (.int p0), .val (.int p1), .val (.ref b51), .val (.ref b59), .unset, .unset, .unset, .unset, .unset] [(.ref b73)]))
    refine own_step (fun _ k => XS.dup X73.here hx rfl (hb hby at_63) rfl rfl k) ?_
    show own_Fin p e below s _ _ _ (T73.setTop (mkF m 64 #[.val (.int p0), .val (.int p1), .val (.int p2), .val (.int p3), .val (.int p4), .val (.int (1 : Int32)), .val (.int p0), .val (.int p1), .val (.ref b51), .val (.ref b59), .unset, .unset, .unset, .unset, .unset] [(.ref b73), (.ref b73)]))
    refine own_step (fun _ k => XS.iload X73.here hx rfl (hb hby at_64) rfl k) ?_
    show own_Fin p e below s _ _ _ (T73.setTop (mkF m 66 #[.val (.int p0), .val (.int p1), .val (.int p2), .val (.int p3), .val (.int p4), .val (.int (1 : Int32)), .val (.int p0), .val (.int p1), .val (.ref b51), .val (.ref b59), .unset, .unset, .unset, .unset, .unset] [(.int p0), (.ref b73), (.ref b73)]))
    refine own_step (fun _ k => XS.iload X73.here hx rfl (hb hby at_66) rfl k) ?_
    show own_Fin p e below s _ _ _ (T73.setTop (mkF m 68 #[.val (.int p0), .val (.int p1), .val (.int p2), .val (.int p3), .val (.int p4), .val (.int (1 : Int32)), .val (.int p0), .val (.int p1), .val (.ref b51), .val (.ref b59), .unset, .unset, .unset, .unset, .unset] [(.int p1), (.int p0), (.ref b73), (.ref b73)]))
    obtain ⟨_, _, ⟨T82, L82, k82, n82⟩, -, X82, ⟨Lc82, hQ82, l82, y82, z82⟩, st82⟩ := X73.specialBack hx (y := own_y1) rfl hown (mvT hZ (own_w hw 3 rfl)) (mvT hZ (own_w hw 4 rfl)) (mvT hZ (own_w hw 5 rfl)) (by decide) (backOf (W := 1) (own_rm2 l Z a0 hw [] b73 p0 p1 ((.int (0 : Int32))) ((.int (0 : Int32))) h73 n0 Z73 A73 G80 G81 gg73) hZ (own_w hw 5 rfl) (own_w hw 2 rfl) (by decide) (by decide)) (g := (mkF m 68 #[.val (.int p0), .val (.int p1), .val (.int p2), .val (.int p3), .val (.int p4), .val (.int (1 : Int32)), .val (.int p0), .val (.int p1), .val (.ref b51), .val (.ref b59), .unset, .unset, .unset, .unset, .unset] [(.int p1), (.int p0), (.ref b73), (.ref b73)])) rfl (by rw [hml]; rfl) (Steps.refl _) (a := b73) (argsL := [(.int p0), (.int p1)]) (rest := [(.ref b73)]) (lenOf own_pd1 rfl) rfl (by show 2 * 0 + _ ≤ _; exact Nat.le_of_eq rfl) (hb hby at_68) (fun _ _ => ⟨rfl, e73, (by decide : 3 + 0 ≤ _), (by decide : 6 + 0 ≤ _)⟩)
    dsimp only [Pt.U, Pt.locs, Pt.cells, Pt.slots] at X82 l82 y82 z82 st82 hQ82
    subst l82 y82 z82
    obtain ⟨N82q, K82q, rfl, G83, G84, G85⟩ := hQ82
    have N82 := Fr.app N65 N82q
    have K82 : Keep h0 T82.heap [] := K73.trans K82q (allS (P := fun x => x ∈ [] ∨ h0.size ≤ x) (Or.inr sz73) all0)
    have Z82 : n0 ≤ T82.heap.size := Nat.le_trans Z73 K82q.1
    have G86 := (G74.keep K82q)
    have G87 := (G75.keep K82q (ninS ne73_b51 nin0))
    have G88 := (G76.keep K82q (ninS ne73_b51 nin0))
    have G89 := (G77.keep K82q)
    have G90 := (G78.keep K82q (ninS ne73_b59 nin0))
    have G91 := (G79.keep K82q (ninS ne73_b59 nin0))
    have G92 := (A73.keep K82q)
    refine own_step (fun _ k => st82.trans k) ?_
    show own_Fin p e below s _ _ _ (T82.setTop (mkF m 71 #[.val (.int p0), .val (.int p1), .val (.int p2), .val (.int p3), .val (.int p4), .val (.int (1 : Int32)), .val (.int p0), .val (.int p1), .val (.ref b51), .val (.ref b59), .unset, .unset, .unset, .unset, .unset] [(.ref b73)]))
    refine own_step (fun _ k => XS.astore X82.here hx rfl (hb hby at_71) rfl rfl (l' := #[.val (.int p0), .val (.int p1), .val (.int p2), .val (.int p3), .val (.int p4), .val (.int (1 : Int32)), .val (.int p0), .val (.int p1), .val (.ref b51), .val (.ref b59), .val (.ref b73), .unset, .unset, .unset, .unset]) rfl k) ?_
    show own_Fin p e below s _ _ _ (T82.setTop (mkF m 73 #[.val (.int p0), .val (.int p1), .val (.int p2), .val (.int p3), .val (.int p4), .val (.int (1 : Int32)), .val (.int p0), .val (.int p1), .val (.ref b51), .val (.ref b59), .val (.ref b73), .unset, .unset, .unset, .unset] []))
    refine own_step (fun _ k => XS.aload X82.here hx rfl (hb hby at_73) rfl rfl k) ?_
    show own_Fin p e below s _ _ _ (T82.setTop (mkF m 75 #[.val (.int p0), .val (.int p1), .val (.int p2), .val (.int p3), .val (.int p4), .val (.int (1 : Int32)), .val (.int p0), .val (.int p1), .val (.ref b51), .val (.ref b59), .val (.ref b73), .unset, .unset, .unset, .unset] [(.ref b51)]))
    obtain ⟨cq93, kq93, q93a, q93b, q93c⟩ := isOf hZ rfl G86
    obtain ⟨_, _, ⟨T93, L93, k93, n93⟩, -, X93, ⟨Lc93, hQ93, l93, y93, z93⟩, st93⟩ := X82.virtualBack hx (y := own_y2) (z := own_y2) hown (mvT hZ (own_w hw 18 rfl)) (mvT hZ (own_w hw 19 rfl)) (notFace_of_selects (args := #[]) (mvT hZ (own_w hw 21 rfl))) (mvT hZ (own_w hw 21 rfl)) (mvT hZ (own_w hw 20 rfl)) (by decide) (backOf (W := 0) (own_rm3 l Z a0 hw [] b51 p0 p1 T82.heap n0 Z82 G87 G88) hZ (own_w hw 22 rfl) (own_w hw 2 rfl) (by decide) (by decide)) q93a q93c (g := (mkF m 75 #[.val (.int p0), .val (.int p1), .val (.int p2), .val (.int p3), .val (.int p4), .val (.int (1 : Int32)), .val (.int p0), .val (.int p1), .val (.ref b51), .val (.ref b59), .val (.ref b73), .unset, .unset, .unset, .unset] [(.ref b51)])) rfl (by rw [hml]; rfl) (Steps.refl _) (argsL := []) (rest := []) (lenOf own_pd2 rfl) rfl (by show 2 * 0 + _ ≤ _; exact Nat.le_of_eq rfl) (hb hby at_75) (fun _ _ => ⟨rfl, rfl, (by decide : 3 + 0 ≤ _), (by decide : 6 + 0 ≤ _)⟩)
    dsimp only [Pt.U, Pt.locs, Pt.cells, Pt.slots] at X93 l93 y93 z93 st93 hQ93
    subst l93 y93 z93
    obtain ⟨rfl, N93q, e93⟩ := hQ93
    have N93 := Fr.app N82 N93q
    refine own_step (fun _ k => st93.trans k) ?_
    show own_Fin p e below s _ _ _ (T93.setTop (mkF m 78 #[.val (.int p0), .val (.int p1), .val (.int p2), .val (.int p3), .val (.int p4), .val (.int (1 : Int32)), .val (.int p0), .val (.int p1), .val (.ref b51), .val (.ref b59), .val (.ref b73), .unset, .unset, .unset, .unset] [(.int (((31 : Int32) * p0) + p1))]))
    refine own_step (fun _ k => XS.istore X93.here hx rfl (hb hby at_78) rfl (l' := #[.val (.int p0), .val (.int p1), .val (.int p2), .val (.int p3), .val (.int p4), .val (.int (1 : Int32)), .val (.int p0), .val (.int p1), .val (.ref b51), .val (.ref b59), .val (.ref b73), .val (.int (((31 : Int32) * p0) + p1)), .unset, .unset, .unset]) rfl k) ?_
    show own_Fin p e below s _ _ _ (T93.setTop (mkF m 80 #[.val (.int p0), .val (.int p1), .val (.int p2), .val (.int p3), .val (.int p4), .val (.int (1 : Int32)), .val (.int p0), .val (.int p1), .val (.ref b51), .val (.ref b59), .val (.ref b73), .val (.int (((31 : Int32) * p0) + p1)), .unset, .unset, .unset] []))
    refine own_step (fun _ k => XS.aload X93.here hx rfl (hb hby at_80) rfl rfl k) ?_
    show own_Fin p e below s _ _ _ (T93.setTop (mkF m 82 #[.val (.int p0), .val (.int p1), .val (.int p2), .val (.int p3), .val (.int p4), .val (.int (1 : Int32)), .val (.int p0), .val (.int p1), .val (.ref b51), .val (.ref b59), .val (.ref b73), .val (.int (((31 : Int32) * p0) + p1)), .unset, .unset, .unset] [(.ref b51)]))
    obtain ⟨cq94, kq94, q94a, q94b, q94c⟩ := isOf hZ e93 G86
    obtain ⟨_, _, ⟨T94, L94, k94, n94⟩, -, X94, ⟨Lc94, hQ94, l94, y94, z94⟩, st94⟩ := X93.virtualBack hx (y := own_y2) (z := own_y2) hown (mvT hZ (own_w hw 18 rfl)) (mvT hZ (own_w hw 19 rfl)) (notFace_of_selects (args := #[]) (mvT hZ (own_w hw 21 rfl))) (mvT hZ (own_w hw 21 rfl)) (mvT hZ (own_w hw 20 rfl)) (by decide) (backOf (W := 0) (own_rm3 l Z a0 hw [] b51 p0 p1 T82.heap n0 Z82 G87 G88) hZ (own_w hw 22 rfl) (own_w hw 2 rfl) (by decide) (by decide)) q94a q94c (g := (mkF m 82 #[.val (.int p0), .val (.int p1), .val (.int p2), .val (.int p3), .val (.int p4), .val (.int (1 : Int32)), .val (.int p0), .val (.int p1), .val (.ref b51), .val (.ref b59), .val (.ref b73), .val (.int (((31 : Int32) * p0) + p1)), .unset, .unset, .unset] [(.ref b51)])) rfl (by rw [hml]; rfl) (Steps.refl _) (argsL := []) (rest := []) (lenOf own_pd2 rfl) rfl (by show 2 * 0 + _ ≤ _; exact Nat.le_of_eq rfl) (hb hby at_82) (fun _ _ => ⟨rfl, e93, (by decide : 3 + 0 ≤ _), (by decide : 6 + 0 ≤ _)⟩)
    dsimp only [Pt.U, Pt.locs, Pt.cells, Pt.slots] at X94 l94 y94 z94 st94 hQ94
    subst l94 y94 z94
    obtain ⟨rfl, N94q, e94⟩ := hQ94
    have N94 := Fr.app N93 N94q
    refine own_step (fun _ k => st94.trans k) ?_
    show own_Fin p e below s _ _ _ (T94.setTop (mkF m 85 #[.val (.int p0), .val (.int p1), .val (.int p2), .val (.int p3), .val (.int p4), .val (.int (1 : Int32)), .val (.int p0), .val (.int p1), .val (.ref b51), .val (.ref b59), .val (.ref b73), .val (.int (((31 : Int32) * p0) + p1)), .unset, .unset, .unset] [(.int (((31 : Int32) * p0) + p1))]))
    refine own_step (fun _ k => XS.istore X94.here hx rfl (hb hby at_85) rfl (l' := #[.val (.int p0), .val (.int p1), .val (.int p2), .val (.int p3), .val (.int p4), .val (.int (1 : Int32)), .val (.int p0), .val (.int p1), .val (.ref b51), .val (.ref b59), .val (.ref b73), .val (.int (((31 : Int32) * p0) + p1)), .val (.int (((31 : Int32) * p0) + p1)), .unset, .unset]) rfl k) ?_
    show own_Fin p e below s _ _ _ (T94.setTop (mkF m 87 #[.val (.int p0), .val (.int p1), .val (.int p2), .val (.int p3), .val (.int p4), .val (.int (1 : Int32)), .val (.int p0), .val (.int p1), .val (.ref b51), .val (.ref b59), .val (.ref b73), .val (.int (((31 : Int32) * p0) + p1)), .val (.int (((31 : Int32) * p0) + p1)), .unset, .unset] []))
    refine own_step (fun _ k => XS.aload X94.here hx rfl (hb hby at_87) rfl rfl k) ?_
    show own_Fin p e below s _ _ _ (T94.setTop (mkF m 89 #[.val (.int p0), .val (.int p1), .val (.int p2), .val (.int p3), .val (.int p4), .val (.int (1 : Int32)), .val (.int p0), .val (.int p1), .val (.ref b51), .val (.ref b59), .val (.ref b73), .val (.int (((31 : Int32) * p0) + p1)), .val (.int (((31 : Int32) * p0) + p1)), .unset, .unset] [(.ref b59)]))
    obtain ⟨cq95, kq95, q95a, q95b, q95c⟩ := isOf hZ e94 G89
    obtain ⟨_, _, ⟨T95, L95, k95, n95⟩, -, X95, ⟨Lc95, hQ95, l95, y95, z95⟩, st95⟩ := X94.virtualBack hx (y := own_y2) (z := own_y2) hown (mvT hZ (own_w hw 18 rfl)) (mvT hZ (own_w hw 19 rfl)) (notFace_of_selects (args := #[]) (mvT hZ (own_w hw 21 rfl))) (mvT hZ (own_w hw 21 rfl)) (mvT hZ (own_w hw 20 rfl)) (by decide) (backOf (W := 0) (own_rm3 l Z a0 hw [] b59 p0 p1 T82.heap n0 Z82 G90 G91) hZ (own_w hw 22 rfl) (own_w hw 2 rfl) (by decide) (by decide)) q95a q95c (g := (mkF m 89 #[.val (.int p0), .val (.int p1), .val (.int p2), .val (.int p3), .val (.int p4), .val (.int (1 : Int32)), .val (.int p0), .val (.int p1), .val (.ref b51), .val (.ref b59), .val (.ref b73), .val (.int (((31 : Int32) * p0) + p1)), .val (.int (((31 : Int32) * p0) + p1)), .unset, .unset] [(.ref b59)])) rfl (by rw [hml]; rfl) (Steps.refl _) (argsL := []) (rest := []) (lenOf own_pd2 rfl) rfl (by show 2 * 0 + _ ≤ _; exact Nat.le_of_eq rfl) (hb hby at_89) (fun _ _ => ⟨rfl, e94, (by decide : 3 + 0 ≤ _), (by decide : 6 + 0 ≤ _)⟩)
    dsimp only [Pt.U, Pt.locs, Pt.cells, Pt.slots] at X95 l95 y95 z95 st95 hQ95
    subst l95 y95 z95
    obtain ⟨rfl, N95q, e95⟩ := hQ95
    have N95 := Fr.app N94 N95q
    refine own_step (fun _ k => st95.trans k) ?_
    show own_Fin p e below s _ _ _ (T95.setTop (mkF m 92 #[.val (.int p0), .val (.int p1), .val (.int p2), .val (.int p3), .val (.int p4), .val (.int (1 : Int32)), .val (.int p0), .val (.int p1), .val (.ref b51), .val (.ref b59), .val (.ref b73), .val (.int (((31 : Int32) * p0) + p1)), .val (.int (((31 : Int32) * p0) + p1)), .unset, .unset] [(.int (((31 : Int32) * p0) + p1))]))
    refine own_step (fun _ k => XS.istore X95.here hx rfl (hb hby at_92) rfl (l' := #[.val (.int p0), .val (.int p1), .val (.int p2), .val (.int p3), .val (.int p4), .val (.int (1 : Int32)), .val (.int p0), .val (.int p1), .val (.ref b51), .val (.ref b59), .val (.ref b73), .val (.int (((31 : Int32) * p0) + p1)), .val (.int (((31 : Int32) * p0) + p1)), .val (.int (((31 : Int32) * p0) + p1)), .unset]) rfl k) ?_
    show own_Fin p e below s _ _ _ (T95.setTop (mkF m 94 #[.val (.int p0), .val (.int p1), .val (.int p2), .val (.int p3), .val (.int p4), .val (.int (1 : Int32)), .val (.int p0), .val (.int p1), .val (.ref b51), .val (.ref b59), .val (.ref b73), .val (.int (((31 : Int32) * p0) + p1)), .val (.int (((31 : Int32) * p0) + p1)), .val (.int (((31 : Int32) * p0) + p1)), .unset] []))
    refine own_step (fun _ k => XS.aload X95.here hx rfl (hb hby at_94) rfl rfl k) ?_
    show own_Fin p e below s _ _ _ (T95.setTop (mkF m 96 #[.val (.int p0), .val (.int p1), .val (.int p2), .val (.int p3), .val (.int p4), .val (.int (1 : Int32)), .val (.int p0), .val (.int p1), .val (.ref b51), .val (.ref b59), .val (.ref b73), .val (.int (((31 : Int32) * p0) + p1)), .val (.int (((31 : Int32) * p0) + p1)), .val (.int (((31 : Int32) * p0) + p1)), .unset] [(.ref b73)]))
    obtain ⟨cq96, kq96, q96a, q96b, q96c⟩ := isOf hZ e95 G83
    obtain ⟨_, _, ⟨T96, L96, k96, n96⟩, -, X96, ⟨Lc96, hQ96, l96, y96, z96⟩, st96⟩ := X95.virtualBack hx (y := own_y2) (z := own_y2) hown (mvT hZ (own_w hw 18 rfl)) (mvT hZ (own_w hw 19 rfl)) (notFace_of_selects (args := #[]) (mvT hZ (own_w hw 21 rfl))) (mvT hZ (own_w hw 21 rfl)) (mvT hZ (own_w hw 20 rfl)) (by decide) (backOf (W := 0) (own_rm3 l Z a0 hw [] b73 p0 p1 T82.heap n0 Z82 G84 G85) hZ (own_w hw 22 rfl) (own_w hw 2 rfl) (by decide) (by decide)) q96a q96c (g := (mkF m 96 #[.val (.int p0), .val (.int p1), .val (.int p2), .val (.int p3), .val (.int p4), .val (.int (1 : Int32)), .val (.int p0), .val (.int p1), .val (.ref b51), .val (.ref b59), .val (.ref b73), .val (.int (((31 : Int32) * p0) + p1)), .val (.int (((31 : Int32) * p0) + p1)), .val (.int (((31 : Int32) * p0) + p1)), .unset] [(.ref b73)])) rfl (by rw [hml]; rfl) (Steps.refl _) (argsL := []) (rest := []) (lenOf own_pd2 rfl) rfl (by show 2 * 0 + _ ≤ _; exact Nat.le_of_eq rfl) (hb hby at_96) (fun _ _ => ⟨rfl, e95, (by decide : 3 + 0 ≤ _), (by decide : 6 + 0 ≤ _)⟩)
    dsimp only [Pt.U, Pt.locs, Pt.cells, Pt.slots] at X96 l96 y96 z96 st96 hQ96
    subst l96 y96 z96
    obtain ⟨rfl, N96q, e96⟩ := hQ96
    have N96 := Fr.app N95 N96q
    refine own_step (fun _ k => st96.trans k) ?_
    show own_Fin p e below s _ _ _ (T96.setTop (mkF m 99 #[.val (.int p0), .val (.int p1), .val (.int p2), .val (.int p3), .val (.int p4), .val (.int (1 : Int32)), .val (.int p0), .val (.int p1), .val (.ref b51), .val (.ref b59), .val (.ref b73), .val (.int (((31 : Int32) * p0) + p1)), .val (.int (((31 : Int32) * p0) + p1)), .val (.int (((31 : Int32) * p0) + p1)), .unset] [(.int (((31 : Int32) * p0) + p1))]))
    refine own_step (fun _ k => XS.istore X96.here hx rfl (hb hby at_99) rfl (l' := #[.val (.int p0), .val (.int p1), .val (.int p2), .val (.int p3), .val (.int p4), .val (.int (1 : Int32)), .val (.int p0), .val (.int p1), .val (.ref b51), .val (.ref b59), .val (.ref b73), .val (.int (((31 : Int32) * p0) + p1)), .val (.int (((31 : Int32) * p0) + p1)), .val (.int (((31 : Int32) * p0) + p1)), .val (.int (((31 : Int32) * p0) + p1))]) rfl k) ?_
    show own_Fin p e below s _ _ _ (T96.setTop (mkF m 101 #[.val (.int p0), .val (.int p1), .val (.int p2), .val (.int p3), .val (.int p4), .val (.int (1 : Int32)), .val (.int p0), .val (.int p1), .val (.ref b51), .val (.ref b59), .val (.ref b73), .val (.int (((31 : Int32) * p0) + p1)), .val (.int (((31 : Int32) * p0) + p1)), .val (.int (((31 : Int32) * p0) + p1)), .val (.int (((31 : Int32) * p0) + p1))] []))
    refine own_step (fun _ k => XS.iload X96.here hx rfl (hb hby at_101) rfl k) ?_
    show own_Fin p e below s _ _ _ (T96.setTop (mkF m 103 #[.val (.int p0), .val (.int p1), .val (.int p2), .val (.int p3), .val (.int p4), .val (.int (1 : Int32)), .val (.int p0), .val (.int p1), .val (.ref b51), .val (.ref b59), .val (.ref b73), .val (.int (((31 : Int32) * p0) + p1)), .val (.int (((31 : Int32) * p0) + p1)), .val (.int (((31 : Int32) * p0) + p1)), .val (.int (((31 : Int32) * p0) + p1))] [(.int (((31 : Int32) * p0) + p1))]))
    refine own_step (fun _ k => XS.iload X96.here hx rfl (hb hby at_103) rfl k) ?_
    show own_Fin p e below s _ _ _ (T96.setTop (mkF m 105 #[.val (.int p0), .val (.int p1), .val (.int p2), .val (.int p3), .val (.int p4), .val (.int (1 : Int32)), .val (.int p0), .val (.int p1), .val (.ref b51), .val (.ref b59), .val (.ref b73), .val (.int (((31 : Int32) * p0) + p1)), .val (.int (((31 : Int32) * p0) + p1)), .val (.int (((31 : Int32) * p0) + p1)), .val (.int (((31 : Int32) * p0) + p1))] [(.int (((31 : Int32) * p0) + p1)), (.int (((31 : Int32) * p0) + p1))]))
    refine own_step (fun _ k => XS.icmpYes X96.here hx rfl (pc0 := 105) (pc' := 110) rfl (hb hby at_105) rfl (teq (rfl : (((31 : Int32) * p0) + p1) = (((31 : Int32) * p0) + p1))).1 (by decide) (by decide) k) ?_
    show own_Fin p e below s _ _ _ (T96.setTop (mkF m 110 #[.val (.int p0), .val (.int p1), .val (.int p2), .val (.int p3), .val (.int p4), .val (.int (1 : Int32)), .val (.int p0), .val (.int p1), .val (.ref b51), .val (.ref b59), .val (.ref b73), .val (.int (((31 : Int32) * p0) + p1)), .val (.int (((31 : Int32) * p0) + p1)), .val (.int (((31 : Int32) * p0) + p1)), .val (.int (((31 : Int32) * p0) + p1))] []))
    refine own_step (fun _ k => XS.iload X96.here hx rfl (hb hby at_110) rfl k) ?_
    show own_Fin p e below s _ _ _ (T96.setTop (mkF m 112 #[.val (.int p0), .val (.int p1), .val (.int p2), .val (.int p3), .val (.int p4), .val (.int (1 : Int32)), .val (.int p0), .val (.int p1), .val (.ref b51), .val (.ref b59), .val (.ref b73), .val (.int (((31 : Int32) * p0) + p1)), .val (.int (((31 : Int32) * p0) + p1)), .val (.int (((31 : Int32) * p0) + p1)), .val (.int (((31 : Int32) * p0) + p1))] [(.int (((31 : Int32) * p0) + p1))]))
    refine own_step (fun _ k => XS.iload X96.here hx rfl (hb hby at_112) rfl k) ?_
    show own_Fin p e below s _ _ _ (T96.setTop (mkF m 114 #[.val (.int p0), .val (.int p1), .val (.int p2), .val (.int p3), .val (.int p4), .val (.int (1 : Int32)), .val (.int p0), .val (.int p1), .val (.ref b51), .val (.ref b59), .val (.ref b73), .val (.int (((31 : Int32) * p0) + p1)), .val (.int (((31 : Int32) * p0) + p1)), .val (.int (((31 : Int32) * p0) + p1)), .val (.int (((31 : Int32) * p0) + p1))] [(.int (((31 : Int32) * p0) + p1)), (.int (((31 : Int32) * p0) + p1))]))
    refine own_step (fun _ k => XS.icmpYes X96.here hx rfl (pc0 := 114) (pc' := 119) rfl (hb hby at_114) rfl (teq (rfl : (((31 : Int32) * p0) + p1) = (((31 : Int32) * p0) + p1))).1 (by decide) (by decide) k) ?_
    show own_Fin p e below s _ _ _ (T96.setTop (mkF m 119 #[.val (.int p0), .val (.int p1), .val (.int p2), .val (.int p3), .val (.int p4), .val (.int (1 : Int32)), .val (.int p0), .val (.int p1), .val (.ref b51), .val (.ref b59), .val (.ref b73), .val (.int (((31 : Int32) * p0) + p1)), .val (.int (((31 : Int32) * p0) + p1)), .val (.int (((31 : Int32) * p0) + p1)), .val (.int (((31 : Int32) * p0) + p1))] []))
    refine own_step (fun _ k => XS.aload X96.here hx rfl (hb hby at_119) rfl rfl k) ?_
    show own_Fin p e below s _ _ _ (T96.setTop (mkF m 121 #[.val (.int p0), .val (.int p1), .val (.int p2), .val (.int p3), .val (.int p4), .val (.int (1 : Int32)), .val (.int p0), .val (.int p1), .val (.ref b51), .val (.ref b59), .val (.ref b73), .val (.int (((31 : Int32) * p0) + p1)), .val (.int (((31 : Int32) * p0) + p1)), .val (.int (((31 : Int32) * p0) + p1)), .val (.int (((31 : Int32) * p0) + p1))] [(.ref b51)]))
    refine own_step (fun _ k => XS.aload X96.here hx rfl (hb hby at_121) rfl rfl k) ?_
    show own_Fin p e below s _ _ _ (T96.setTop (mkF m 123 #[.val (.int p0), .val (.int p1), .val (.int p2), .val (.int p3), .val (.int p4), .val (.int (1 : Int32)), .val (.int p0), .val (.int p1), .val (.ref b51), .val (.ref b59), .val (.ref b73), .val (.int (((31 : Int32) * p0) + p1)), .val (.int (((31 : Int32) * p0) + p1)), .val (.int (((31 : Int32) * p0) + p1)), .val (.int (((31 : Int32) * p0) + p1))] [(.ref b73), (.ref b51)]))
    obtain ⟨cq97, kq97, q97a, q97b, q97c⟩ := isOf hZ e96 G86
    obtain ⟨_, _, ⟨T97, L97, k97, n97⟩, -, X97, ⟨Lc97, hQ97, l97, y97, z97⟩, st97⟩ := X96.virtualBack hx (y := own_y3) (z := own_y3) hown (mvT hZ (own_w hw 23 rfl)) (mvT hZ (own_w hw 24 rfl)) (notFace_of_selects (args := #[]) (mvT hZ (own_w hw 26 rfl))) (mvT hZ (own_w hw 26 rfl)) (mvT hZ (own_w hw 25 rfl)) (by decide) (backOf (W := 0) (own_rm4 l Z a0 hw [] b51 b73 p0 p0 p1 p1 T82.heap n0 Z82 G83 G84 G87 G85 G88) hZ (own_w hw 27 rfl) (own_w hw 2 rfl) (by decide) (by decide)) q97a q97c (g := (mkF m 123 #[.val (.int p0), .val (.int p1), .val (.int p2), .val (.int p3), .val (.int p4), .val (.int (1 : Int32)), .val (.int p0), .val (.int p1), .val (.ref b51), .val (.ref b59), .val (.ref b73), .val (.int (((31 : Int32) * p0) + p1)), .val (.int (((31 : Int32) * p0) + p1)), .val (.int (((31 : Int32) * p0) + p1)), .val (.int (((31 : Int32) * p0) + p1))] [(.ref b73), (.ref b51)])) rfl (by rw [hml]; rfl) (Steps.refl _) (argsL := [(.ref b73)]) (rest := []) (lenOf own_pd3 rfl) rfl (by show 2 * 0 + _ ≤ _; exact Nat.le_of_eq rfl) (hb hby at_123) (fun _ _ => ⟨rfl, e96, (by decide : 3 + 0 ≤ _), (by decide : 6 + 0 ≤ _)⟩)
    dsimp only [Pt.U, Pt.locs, Pt.cells, Pt.slots] at X97 l97 y97 z97 st97 hQ97
    subst l97 y97 z97
    obtain ⟨rfl, N97q, e97⟩ := hQ97
    have N97 := Fr.app N96 N97q
    refine own_step (fun _ k => st97.trans k) ?_
    show own_Fin p e below s _ _ _ (T97.setTop (mkF m 126 #[.val (.int p0), .val (.int p1), .val (.int p2), .val (.int p3), .val (.int p4), .val (.int (1 : Int32)), .val (.int p0), .val (.int p1), .val (.ref b51), .val (.ref b59), .val (.ref b73), .val (.int (((31 : Int32) * p0) + p1)), .val (.int (((31 : Int32) * p0) + p1)), .val (.int (((31 : Int32) * p0) + p1)), .val (.int (((31 : Int32) * p0) + p1))] [(.int (own_r4 p0 p0 p1 p1))]))
    by_cases hc98 : (own_r4 p0 p0 p1 p1) = (0 : Int32)
    · refine own_step (fun _ k => XS.ifYes X97.here hx rfl (pc0 := 126) (pc' := 138) rfl (hb hby at_126) rfl ((if0 _ _).trans (teq hc98).1) (by decide) (by decide) k) ?_
      show own_Fin p e below s _ _ _ (T97.setTop (mkF m 138 #[.val (.int p0), .val (.int p1), .val (.int p2), .val (.int p3), .val (.int p4), .val (.int (1 : Int32)), .val (.int p0), .val (.int p1), .val (.ref b51), .val (.ref b59), .val (.ref b73), .val (.int (((31 : Int32) * p0) + p1)), .val (.int (((31 : Int32) * p0) + p1)), .val (.int (((31 : Int32) * p0) + p1)), .val (.int (((31 : Int32) * p0) + p1))] []))
      refine own_step (fun _ k => XS.iload X97.here hx rfl (hb hby at_138) rfl k) ?_
      show own_Fin p e below s _ _ _ (T97.setTop (mkF m 140 #[.val (.int p0), .val (.int p1), .val (.int p2), .val (.int p3), .val (.int p4), .val (.int (1 : Int32)), .val (.int p0), .val (.int p1), .val (.ref b51), .val (.ref b59), .val (.ref b73), .val (.int (((31 : Int32) * p0) + p1)), .val (.int (((31 : Int32) * p0) + p1)), .val (.int (((31 : Int32) * p0) + p1)), .val (.int (((31 : Int32) * p0) + p1))] [(.int (1 : Int32))]))
      refine own_step (fun _ k => XS.ifNo X97.here hx rfl (hb hby at_140) rfl ((if0 _ _).trans (feq (by decide : ¬ ((1 : Int32) = (0 : Int32)))).1) k) ?_
      show own_Fin p e below s _ _ _ (T97.setTop (mkF m 143 #[.val (.int p0), .val (.int p1), .val (.int p2), .val (.int p3), .val (.int p4), .val (.int (1 : Int32)), .val (.int p0), .val (.int p1), .val (.ref b51), .val (.ref b59), .val (.ref b73), .val (.int (((31 : Int32) * p0) + p1)), .val (.int (((31 : Int32) * p0) + p1)), .val (.int (((31 : Int32) * p0) + p1)), .val (.int (((31 : Int32) * p0) + p1))] []))
      refine own_step (fun _ k => XS.iload X97.here hx rfl (hb hby at_143) rfl k) ?_
      show own_Fin p e below s _ _ _ (T97.setTop (mkF m 145 #[.val (.int p0), .val (.int p1), .val (.int p2), .val (.int p3), .val (.int p4), .val (.int (1 : Int32)), .val (.int p0), .val (.int p1), .val (.ref b51), .val (.ref b59), .val (.ref b73), .val (.int (((31 : Int32) * p0) + p1)), .val (.int (((31 : Int32) * p0) + p1)), .val (.int (((31 : Int32) * p0) + p1)), .val (.int (((31 : Int32) * p0) + p1))] [(.int (((31 : Int32) * p0) + p1))]))
      refine own_step (fun _ k => XS.iload X97.here hx rfl (hb hby at_145) rfl k) ?_
      show own_Fin p e below s _ _ _ (T97.setTop (mkF m 147 #[.val (.int p0), .val (.int p1), .val (.int p2), .val (.int p3), .val (.int p4), .val (.int (1 : Int32)), .val (.int p0), .val (.int p1), .val (.ref b51), .val (.ref b59), .val (.ref b73), .val (.int (((31 : Int32) * p0) + p1)), .val (.int (((31 : Int32) * p0) + p1)), .val (.int (((31 : Int32) * p0) + p1)), .val (.int (((31 : Int32) * p0) + p1))] [(.int (((31 : Int32) * p0) + p1)), (.int (((31 : Int32) * p0) + p1))]))
      refine own_step (fun _ k => XS.icmpYes X97.here hx rfl (pc0 := 147) (pc' := 152) rfl (hb hby at_147) rfl (teq (rfl : (((31 : Int32) * p0) + p1) = (((31 : Int32) * p0) + p1))).1 (by decide) (by decide) k) ?_
      show own_Fin p e below s _ _ _ (T97.setTop (mkF m 152 #[.val (.int p0), .val (.int p1), .val (.int p2), .val (.int p3), .val (.int p4), .val (.int (1 : Int32)), .val (.int p0), .val (.int p1), .val (.ref b51), .val (.ref b59), .val (.ref b73), .val (.int (((31 : Int32) * p0) + p1)), .val (.int (((31 : Int32) * p0) + p1)), .val (.int (((31 : Int32) * p0) + p1)), .val (.int (((31 : Int32) * p0) + p1))] []))
      refine own_step (fun _ k => XS.iconst X97.here hx rfl (hb hby at_152) k) ?_
      show own_Fin p e below s _ _ _ (T97.setTop (mkF m 153 #[.val (.int p0), .val (.int p1), .val (.int p2), .val (.int p3), .val (.int p4), .val (.int (1 : Int32)), .val (.int p0), .val (.int p1), .val (.ref b51), .val (.ref b59), .val (.ref b73), .val (.int (((31 : Int32) * p0) + p1)), .val (.int (((31 : Int32) * p0) + p1)), .val (.int (((31 : Int32) * p0) + p1)), .val (.int (((31 : Int32) * p0) + p1))] [(.int (1 : Int32))]))
      exact own_ret X97 hlk (v := some (.int (1 : Int32))) (fun h => by rw [Bd.returns] at h; cases h) (by decide) (by decide) (by show own_Q5 Z p0 p1 p2 p3 p4 h0 n0 _ T97.heap _; rw [e97]; exact ⟨rfl, N97⟩) (fun fs hr => retN X97 hx (t := .boolean) Bd.returns (by simp) (hb hby at_153) hr)
    · refine own_step (fun _ k => XS.ifNo X97.here hx rfl (hb hby at_126) rfl ((if0 _ _).trans (feq hc98).1) k) ?_
      show own_Fin p e below s _ _ _ (T97.setTop (mkF m 129 #[.val (.int p0), .val (.int p1), .val (.int p2), .val (.int p3), .val (.int p4), .val (.int (1 : Int32)), .val (.int p0), .val (.int p1), .val (.ref b51), .val (.ref b59), .val (.ref b73), .val (.int (((31 : Int32) * p0) + p1)), .val (.int (((31 : Int32) * p0) + p1)), .val (.int (((31 : Int32) * p0) + p1)), .val (.int (((31 : Int32) * p0) + p1))] []))
      refine own_step (fun _ k => XS.iload X97.here hx rfl (hb hby at_129) rfl k) ?_
      show own_Fin p e below s _ _ _ (T97.setTop (mkF m 131 #[.val (.int p0), .val (.int p1), .val (.int p2), .val (.int p3), .val (.int p4), .val (.int (1 : Int32)), .val (.int p0), .val (.int p1), .val (.ref b51), .val (.ref b59), .val (.ref b73), .val (.int (((31 : Int32) * p0) + p1)), .val (.int (((31 : Int32) * p0) + p1)), .val (.int (((31 : Int32) * p0) + p1)), .val (.int (((31 : Int32) * p0) + p1))] [(.int (((31 : Int32) * p0) + p1))]))
      refine own_step (fun _ k => XS.iload X97.here hx rfl (hb hby at_131) rfl k) ?_
      show own_Fin p e below s _ _ _ (T97.setTop (mkF m 133 #[.val (.int p0), .val (.int p1), .val (.int p2), .val (.int p3), .val (.int p4), .val (.int (1 : Int32)), .val (.int p0), .val (.int p1), .val (.ref b51), .val (.ref b59), .val (.ref b73), .val (.int (((31 : Int32) * p0) + p1)), .val (.int (((31 : Int32) * p0) + p1)), .val (.int (((31 : Int32) * p0) + p1)), .val (.int (((31 : Int32) * p0) + p1))] [(.int (((31 : Int32) * p0) + p1)), (.int (((31 : Int32) * p0) + p1))]))
      refine own_step (fun _ k => XS.icmpYes X97.here hx rfl (pc0 := 133) (pc' := 138) rfl (hb hby at_133) rfl (teq (rfl : (((31 : Int32) * p0) + p1) = (((31 : Int32) * p0) + p1))).1 (by decide) (by decide) k) ?_
      show own_Fin p e below s _ _ _ (T97.setTop (mkF m 138 #[.val (.int p0), .val (.int p1), .val (.int p2), .val (.int p3), .val (.int p4), .val (.int (1 : Int32)), .val (.int p0), .val (.int p1), .val (.ref b51), .val (.ref b59), .val (.ref b73), .val (.int (((31 : Int32) * p0) + p1)), .val (.int (((31 : Int32) * p0) + p1)), .val (.int (((31 : Int32) * p0) + p1)), .val (.int (((31 : Int32) * p0) + p1))] []))
      refine own_step (fun _ k => XS.iload X97.here hx rfl (hb hby at_138) rfl k) ?_
      show own_Fin p e below s _ _ _ (T97.setTop (mkF m 140 #[.val (.int p0), .val (.int p1), .val (.int p2), .val (.int p3), .val (.int p4), .val (.int (1 : Int32)), .val (.int p0), .val (.int p1), .val (.ref b51), .val (.ref b59), .val (.ref b73), .val (.int (((31 : Int32) * p0) + p1)), .val (.int (((31 : Int32) * p0) + p1)), .val (.int (((31 : Int32) * p0) + p1)), .val (.int (((31 : Int32) * p0) + p1))] [(.int (1 : Int32))]))
      refine own_step (fun _ k => XS.ifNo X97.here hx rfl (hb hby at_140) rfl ((if0 _ _).trans (feq (by decide : ¬ ((1 : Int32) = (0 : Int32)))).1) k) ?_
      show own_Fin p e below s _ _ _ (T97.setTop (mkF m 143 #[.val (.int p0), .val (.int p1), .val (.int p2), .val (.int p3), .val (.int p4), .val (.int (1 : Int32)), .val (.int p0), .val (.int p1), .val (.ref b51), .val (.ref b59), .val (.ref b73), .val (.int (((31 : Int32) * p0) + p1)), .val (.int (((31 : Int32) * p0) + p1)), .val (.int (((31 : Int32) * p0) + p1)), .val (.int (((31 : Int32) * p0) + p1))] []))
      refine own_step (fun _ k => XS.iload X97.here hx rfl (hb hby at_143) rfl k) ?_
      show own_Fin p e below s _ _ _ (T97.setTop (mkF m 145 #[.val (.int p0), .val (.int p1), .val (.int p2), .val (.int p3), .val (.int p4), .val (.int (1 : Int32)), .val (.int p0), .val (.int p1), .val (.ref b51), .val (.ref b59), .val (.ref b73), .val (.int (((31 : Int32) * p0) + p1)), .val (.int (((31 : Int32) * p0) + p1)), .val (.int (((31 : Int32) * p0) + p1)), .val (.int (((31 : Int32) * p0) + p1))] [(.int (((31 : Int32) * p0) + p1))]))
      refine own_step (fun _ k => XS.iload X97.here hx rfl (hb hby at_145) rfl k) ?_
      show own_Fin p e below s _ _ _ (T97.setTop (mkF m 147 #[.val (.int p0), .val (.int p1), .val (.int p2), .val (.int p3), .val (.int p4), .val (.int (1 : Int32)), .val (.int p0), .val (.int p1), .val (.ref b51), .val (.ref b59), .val (.ref b73), .val (.int (((31 : Int32) * p0) + p1)), .val (.int (((31 : Int32) * p0) + p1)), .val (.int (((31 : Int32) * p0) + p1)), .val (.int (((31 : Int32) * p0) + p1))] [(.int (((31 : Int32) * p0) + p1)), (.int (((31 : Int32) * p0) + p1))]))
      refine own_step (fun _ k => XS.icmpYes X97.here hx rfl (pc0 := 147) (pc' := 152) rfl (hb hby at_147) rfl (teq (rfl : (((31 : Int32) * p0) + p1) = (((31 : Int32) * p0) + p1))).1 (by decide) (by decide) k) ?_
      show own_Fin p e below s _ _ _ (T97.setTop (mkF m 152 #[.val (.int p0), .val (.int p1), .val (.int p2), .val (.int p3), .val (.int p4), .val (.int (1 : Int32)), .val (.int p0), .val (.int p1), .val (.ref b51), .val (.ref b59), .val (.ref b73), .val (.int (((31 : Int32) * p0) + p1)), .val (.int (((31 : Int32) * p0) + p1)), .val (.int (((31 : Int32) * p0) + p1)), .val (.int (((31 : Int32) * p0) + p1))] []))
      refine own_step (fun _ k => XS.iconst X97.here hx rfl (hb hby at_152) k) ?_
      show own_Fin p e below s _ _ _ (T97.setTop (mkF m 153 #[.val (.int p0), .val (.int p1), .val (.int p2), .val (.int p3), .val (.int p4), .val (.int (1 : Int32)), .val (.int p0), .val (.int p1), .val (.ref b51), .val (.ref b59), .val (.ref b73), .val (.int (((31 : Int32) * p0) + p1)), .val (.int (((31 : Int32) * p0) + p1)), .val (.int (((31 : Int32) * p0) + p1)), .val (.int (((31 : Int32) * p0) + p1))] [(.int (1 : Int32))]))
      exact own_ret X97 hlk (v := some (.int (1 : Int32))) (fun h => by rw [Bd.returns] at h; cases h) (by decide) (by decide) (by show own_Q5 Z p0 p1 p2 p3 p4 h0 n0 _ T97.heap _; rw [e97]; exact ⟨rfl, N97⟩) (fun fs hr => retN X97 hx (t := .boolean) Bd.returns (by simp) (hb hby at_153) hr)

set_option maxRecDepth 65536 in
set_option maxHeartbeats 40000000 in
theorem comes_1 {Post : Tables → Env → Array Value → State → Outcome → State → Prop} (hpost : ∀ tb e args s v u, (limb_1_1.after args s (.returned v) u = true ∧ limb_1_2.after args s (.returned v) u = true ∧ True) → FrameEnd s (.returned v) u (Jvm.fieldLocs frame_1_writes args s ++ Jvm.arrayLocs frame_1_arrays args s ++ Jvm.staticLocs frame_1_statics s) 16 128 → Post tb e args s (.returned v) u) :
    ArmFor flags0 classFile x code maxLocals ret World_1 tables_1 room_1 Calls_1 rest_1 Pre_1 Post := by
  intro l hfl _ _ p e ha hc hk s m args below hf hA hF happ hP
  obtain ⟨hcalls, hrest, hpre⟩ := hP
  obtain ⟨-, -, -, hnamed, -, -, -, hat⟩ := (Spec.applies_iff hf).mp happ
  obtain ⟨hg, hn⟩ := and_e (Cond.before_iff.mp (show (Jvm.Cond.and given_1 narrow_1).before args s = true from hpre))
  obtain ⟨cj1a, cj1b⟩ := and_e hg
  obtain ⟨cj2a, cj2b⟩ := and_e cj1b
  obtain ⟨cj3a, cj3b⟩ := and_e cj2b
  obtain ⟨cj4a, cj4b⟩ := and_e cj3b
  obtain ⟨cj5a, cj5b⟩ := and_e cj4b
  obtain ⟨w0, w1, w2, w3, w4, rfl⟩ : ∃ w0 w1 w2 w3 w4 : Value, args = #[w0, w1, w2, w3, w4] := by
    have hs : args.size = 5 := by simpa [Cond.value, given_1] using cj1a
    obtain ⟨L⟩ := args
    match L, hs with
    | [w0, w1, w2, w3, w4], _ => exact ⟨w0, w1, w2, w3, w4, rfl⟩
  have hw := fun d (hd : d ∈ tables_1) => atoms_spec (ws := Jvm.Cond.code x code maxLocals ret :: tables_1) hat d (List.mem_cons_of_mem _ hd)
  have hfit : Fit s := fun {y c} hc i hi => by
    obtain ⟨ha, rfl⟩ := Array.getElem?_eq_some_iff.mp hc
    have q := List.all_eq_true.mp ((Array.all_eq_true_iff_forall_mem.mp hF) _ (Array.getElem_mem ha)) i (List.mem_range.mpr hi)
    simpa [Array.getElem?_eq_getElem hi] using q
  obtain ⟨i0, ei0⟩ := is_v cj2a
  obtain rfl : w0 = (.int i0) := Option.some.inj ei0
  obtain ⟨i1, ei1⟩ := is_v cj3a
  obtain rfl : w1 = (.int i1) := Option.some.inj ei1
  obtain ⟨i2, ei2⟩ := is_v cj4a
  obtain rfl : w2 = (.int i2) := Option.some.inj ei2
  obtain ⟨i3, ei3⟩ := is_v cj5a
  obtain rfl : w3 = (.int i3) := Option.some.inj ei3
  obtain ⟨i4, ei4⟩ := is_v cj5b
  obtain rfl : w4 = (.int i4) := Option.some.inj ei4
  obtain ⟨n, o, h1, h2, h3, _, L, rfl, ⟨rfl, N⟩, hq⟩ := own_rm5 l s _ hw tables_1 i0 i1 i2 i3 i4 s.heap s.heap.size (Nat.le_refl _)  p e ha hc hk s m _ below hf ((Spec.applies_iff_loose hf).mp happ).1 ⟨rfl, State.Warmed39.refl s, rfl⟩ trivial
  refine ⟨n, _, h1, h2, h3, hpost _ _ _ _ _ _ ⟨Cond.after_iff.mpr rfl, Cond.after_iff.mpr (eq_i res_at (Term.int_eval (1)) rfl), trivial⟩ ⟨hq.1, hq.2.1, (hq.2.2.sift fun y hy => Or.inr (N y hy)).mono (by decide) (by decide)⟩⟩
theorem main_1_1 : Claimed_1_1 := comes_1 fun _ _ _ _ _ _ h hF => ⟨h.1, hF⟩
theorem main_1_2 : Claimed_1_2 := comes_1 fun _ _ _ _ _ _ h hF => ⟨h.2.1, hF⟩
end Jvm.Pilot.@@N@@
namespace Jvm.Pilot.@@N@@
open Jvm Jvm.ClassFile Sem Op Lib Jvm.Free Jvm.Stand Jvm.Pilot.@@N@@.Jvm.D
/-! MADE BY PROGRAM (witnessworld.py) out of the Statement's table words and the real class files: 10 classes; the members and pool entries that the words name. The judged class is class 1, her method 1. -/
namespace start1
open Jvm.ClassFile
def u (s : String) : CpInfo := .utf8 (stringToUtf16 s)
/-- a pool by its gaps: so many unusable entries, then the entry; so many at the end -/
def gap : Nat → List CpInfo → List CpInfo
  | 0, r => r
  | n + 1, r => .unusable :: gap n r
def poolList (es : List (Nat × CpInfo)) (last : Nat) : List CpInfo := es.foldr (fun e r => gap e.1 (e.2 :: r)) (gap last [])
def pool (es : List (Nat × CpInfo)) (last : Nat) : Array CpInfo := ⟨poolList es last⟩
def fileOf (pool : Array CpInfo) (this : Nat) (attrs : Array Attribute := #[]) (ms : Array MethodInfo := #[]) (fl : Nat := 33) (sup : Nat := 0) (ifs : Array Nat := #[]) (fds : Array FieldInfo := #[]) : ClassFile where
  minorVersion := 0
  majorVersion := 65
  constantPool := pool
  accessFlags := fl
  thisClass := this
  superClass := sup
  interfaces := ifs
  fields := fds
  methods := ms
  attributes := attrs
def plain (name : String) (sup : Option ClassId) : Class where
  name := name
  kind := .ordinary
  loader := none
  accessFlags := 33
  super := sup
  interfaces := #[]
  cf := none
  fields := #[]
  methods := #[]
  instanceTypes := #[]
  staticTypes := #[]
  resolved := #[]
  callSites := []
  init := .initialized
  statics := none
  mirror := none

def pool0 : Array CpInfo := pool [(5, u "<init>"), (0, u "()V"), (1, .class_ 10), (1, u "java/lang/Object")] 113

def k0c0 : Code := { maxStack := 0, maxLocals := 1, code := object_method_1_code, exceptionTable := #[], attributes := #[] }
def k0m0 : Method := { name := "<init>", desc := "()V", sig := { parameters := [], returnType := none }, accessFlags := 1, code := some k0c0 }
/-- java/lang/Object -/
def k0 : Class := { plain "java/lang/Object" none with
  accessFlags := 33
  interfaces := #[]
  cf := some (fileOf pool0 8 #[] #[{ accessFlags := 1, nameIndex := 5, descriptorIndex := 6, attributes := #[] }] 33 0 #[] #[])
  fields := #[]
  methods := #[k0m0]
  instanceTypes := #[]
  staticTypes := #[]
  resolved := Array.replicate 124 none
  statics := none }

def pool1 : Array CpInfo := pool [(2, .class_ 4), (1, u "java/lang/Object"), (0, u "<init>"), (0, u "()V"), (0, .class_ 8), (0, u "com/example/tandem/tandem/analysis/Cuts$Range"), (0, .methodref 7 10), (0, .nameAndType 5 11), (0, u "(II)V"), (0, .methodref 7 13), (0, .nameAndType 14 15), (0, u "hashCode"), (0, u "()I"), (0, .methodref 7 17), (0, .nameAndType 18 19), (0, u "equals"), (0, u "(Ljava/lang/Object;)Z"), (0, .class_ 21), (0, u "com/example/tandem/tandem/analysis/RangeHashCodePinLaw"), (2, u "law"), (0, u "(IIIII)Z")] 7

def k1m0 : Method := { name := "<init>", desc := "()V", sig := { parameters := [], returnType := none }, accessFlags := 2, code := none }
def k1c1 : Code := { maxStack := 4, maxLocals := 15, code := code, exceptionTable := #[], attributes := #[] }
def k1m1 : Method := { name := "law", desc := "(IIIII)Z", sig := { parameters := [.int, .int, .int, .int, .int], returnType := some .boolean }, accessFlags := 9, code := some k1c1 }
/-- com/example/tandem/tandem/analysis/RangeHashCodePinLaw -/
def k1 : Class := { plain "com/example/tandem/tandem/analysis/RangeHashCodePinLaw" (some 0) with
  accessFlags := 49
  interfaces := #[]
  cf := some (fileOf pool1 20 #[] #[{ accessFlags := 2, nameIndex := 5, descriptorIndex := 6, attributes := #[] }, { accessFlags := 9, nameIndex := 24, descriptorIndex := 25, attributes := #[] }] 49 2 #[] #[])
  fields := #[]
  methods := #[k1m0, k1m1]
  instanceTypes := #[]
  staticTypes := #[]
  resolved := Array.replicate 33 none
  statics := none }

def pool2 : Array CpInfo := pool [(1, .methodref 2 3), (0, .class_ 4), (0, .nameAndType 5 6), (0, u "java/lang/Object"), (0, u "<init>"), (0, u "()V"), (0, .class_ 8), (0, u "java/lang/Record")] 13

def k2c0 : Code := { maxStack := 1, maxLocals := 1, code := jdk_30_method_1_code, exceptionTable := #[], attributes := #[] }
def k2m0 : Method := { name := "<init>", desc := "()V", sig := { parameters := [], returnType := none }, accessFlags := 4, code := some k2c0 }
/-- java/lang/Record -/
def k2 : Class := { plain "java/lang/Record" (some 0) with
  accessFlags := 1057
  interfaces := #[]
  cf := some (fileOf pool2 7 #[] #[{ accessFlags := 4, nameIndex := 5, descriptorIndex := 6, attributes := #[] }] 1057 2 #[] #[])
  fields := #[]
  methods := #[k2m0]
  instanceTypes := #[]
  staticTypes := #[]
  resolved := Array.replicate 22 none
  statics := none }

def pool3 : Array CpInfo := pool [(1, .methodref 2 3), (0, .class_ 4), (0, .nameAndType 5 6), (0, u "java/lang/Record"), (0, u "<init>"), (0, u "()V"), (0, .fieldref 8 9), (0, .class_ 10), (0, .nameAndType 11 12), (0, u "com/example/tandem/tandem/analysis/Cuts$Range"), (0, u "from"), (0, u "I"), (0, .fieldref 8 14), (0, .nameAndType 15 12), (0, u "to"), (4, u "(II)V"), (3, u "equals"), (0, u "(Ljava/lang/Object;)Z"), (1, u "hashCode"), (0, u "()I"), (4, .class_ 34), (0, u "com/example/tandem/tandem/analysis/Cuts")] 20

def k3c0 : Code := { maxStack := 2, maxLocals := 3, code := prog_10_method_1_code, exceptionTable := #[], attributes := #[] }
def k3m0 : Method := { name := "<init>", desc := "(II)V", sig := { parameters := [.int, .int], returnType := none }, accessFlags := 0, code := some k3c0 }
def k3c1 : Code := { maxStack := 2, maxLocals := 3, code := prog_10_method_2_code, exceptionTable := #[], attributes := #[] }
def k3m1 : Method := { name := "equals", desc := "(Ljava/lang/Object;)Z", sig := { parameters := [(.object "java/lang/Object")], returnType := some .boolean }, accessFlags := 1, code := some k3c1 }
def k3c2 : Code := { maxStack := 2, maxLocals := 1, code := prog_10_method_3_code, exceptionTable := #[], attributes := #[] }
def k3m2 : Method := { name := "hashCode", desc := "()I", sig := { parameters := [], returnType := some .int }, accessFlags := 1, code := some k3c2 }
/-- com/example/tandem/tandem/analysis/Cuts$Range -/
def k3 : Class := { plain "com/example/tandem/tandem/analysis/Cuts$Range" (some 2) with
  accessFlags := 48
  interfaces := #[]
  cf := some (fileOf pool3 8 #[.nestHost 33] #[{ accessFlags := 0, nameIndex := 5, descriptorIndex := 20, attributes := #[] }, { accessFlags := 1, nameIndex := 24, descriptorIndex := 25, attributes := #[] }, { accessFlags := 1, nameIndex := 27, descriptorIndex := 28, attributes := #[] }] 48 2 #[] #[{ accessFlags := 18, nameIndex := 11, descriptorIndex := 12, attributes := #[] }, { accessFlags := 18, nameIndex := 15, descriptorIndex := 12, attributes := #[] }])
  fields := #[{ name := "from", type := .int, accessFlags := 18, slot := 0, constantValue := 0 }, { name := "to", type := .int, accessFlags := 18, slot := 1, constantValue := 0 }]
  methods := #[k3m0, k3m1, k3m2]
  instanceTypes := #[.int, .int]
  staticTypes := #[]
  resolved := Array.replicate 55 none
  statics := none }

def pool4 : Array CpInfo := pool [(1, u "java/lang/Cloneable"), (0, .class_ 1), (0, u "java/lang/Object"), (0, .class_ 3)] 3

/-- java/lang/Cloneable -/
def k4 : Class := { plain "java/lang/Cloneable" (some 0) with
  accessFlags := 1537
  interfaces := #[]
  cf := some (fileOf pool4 2 #[] #[] 1537 4 #[] #[])
  fields := #[]
  methods := #[]
  instanceTypes := #[]
  staticTypes := #[]
  resolved := Array.replicate 8 none
  statics := none }

def pool5 : Array CpInfo := pool [(1, u "java/io/Serializable"), (0, .class_ 1), (0, u "java/lang/Object"), (0, .class_ 3)] 3

/-- java/io/Serializable -/
def k5 : Class := { plain "java/io/Serializable" (some 0) with
  accessFlags := 1537
  interfaces := #[]
  cf := some (fileOf pool5 2 #[] #[] 1537 4 #[] #[])
  fields := #[]
  methods := #[]
  instanceTypes := #[]
  staticTypes := #[]
  resolved := Array.replicate 8 none
  statics := none }

/-- the primitive byte -/
def k6 : Class := { plain "byte" none with kind := .primitive 'B', accessFlags := 0x411 }
/-- [B -/
def k7 : Class := { plain "[B" (some 0) with kind := .array 6 .byte, interfaces := #[4, 5], accessFlags := 1041 }

/-- the primitive int -/
def k8 : Class := { plain "int" none with kind := .primitive 'I', accessFlags := 0x411 }
/-- [I -/
def k9 : Class := { plain "[I" (some 0) with kind := .array 8 .int, interfaces := #[4, 5], accessFlags := 1041 }

def heap : Heap := #[]
def classes : Array Class := #[k0, k1, k2, k3, k4, k5, k6, k7, k8, k9]
def interned : List (Array UInt16 × Addr) := []
def slotsUsed : Nat := 0
def theMethod : MethodId := ⟨1, 1⟩
def args0 : Array Value := #[.int 5, .int 7, .int 1, .int 2, .int 1]
def aboutOver (below : List Frame) : State where
  vm := { classes := classes, interned := interned.toArray }
  heap := heap
  slotsUsed := slotsUsed
  threads := #[{ frames := .invoking theMethod args0 :: below }]
def below0 : List Frame := [.native { method := ⟨0, 0⟩, args := #[] }]
def about1 : State := aboutOver below0
def p0 : Program := .bare "" "" ""
def e0 : Env := launch0.env 0 0 0
theorem w_frames : about1.frames = Frame.invoking theMethod args0 :: below0 := rfl
set_option maxRecDepth 65536 in
theorem w_args : argsFit about1.vm theMethod args0 = true := by decide +kernel
set_option maxRecDepth 65536 in
theorem w_heap : heapFits about1 = true := by decide +kernel
set_option maxRecDepth 65536 in
theorem w_runnable : about1.curStatus? = some .runnable := by decide +kernel
set_option maxRecDepth 65536 in
theorem w_alone : about1.alone = true := by decide +kernel
set_option maxRecDepth 65536 in
theorem w_named : about1.methodNamed? x = some theMethod := by decide +kernel
set_option maxRecDepth 65536 in
theorem w_hears : about1.hears theMethod below0 = true := by decide +kernel
set_option maxRecDepth 65536 in
theorem w_ripe : about1.ripe theMethod args0 below0 = true := by decide +kernel
theorem w_running : about1.status = .running := rfl
set_option maxRecDepth 65536 in
theorem w_room : about1.hasRoom e0.platform room_1 = true :=
  launch0.hasRoom_least _ room_1 (by decide +kernel) (by decide +kernel) (by decide +kernel) (by decide +kernel) (by decide +kernel) (by decide +kernel)
theorem allAtoms_all (ts : List Jvm.Cond) (a : Array Jvm.Value) (st : Jvm.State) : (allAtoms ts).before a st = ts.all (fun c => c.before a st) := by
  induction ts with
  | nil => rfl
  | cons c t ih =>
    show (Jvm.Cond.and c (allAtoms t)).before a st = _
    rw [Jvm.Cond.before_and, ih, List.all_cons]
def words1 : List Jvm.Cond := Jvm.Cond.code x code maxLocals ret :: tables_1
/-- a 'code' word, met by the world's own term for the bytes: nothing is compared byte by byte -/
theorem code_word {y : MethodName} {bytes : ByteArray} {mx : Nat} {rt : Option FieldType} {a : Array Value} {s : State} {m : MethodId} {meth : Method} {c : Code} (h1 : s.methodNamed? y = some m) (h2 : s.vm.method? m = some meth) (h3 : meth.code = some c) (h4 : c.code = bytes)
    (h5 : (c.maxLocals == mx && c.exceptionTable.isEmpty && decide (c.maxStack ≤ mostOperands) && decide (meth.sig.returnType = rt) && !meth.locks && decide (parseMethodDescriptor y.desc = some meth.sig)) = true) : (Jvm.Cond.code y bytes mx rt).before a s = true := by
  simp only [Bool.and_eq_true, beq_iff_eq, Bool.not_eq_true', decide_eq_true_eq] at h5
  obtain ⟨⟨⟨⟨⟨g1, g2⟩, g3⟩, g4⟩, g5⟩, g6⟩ := h5
  simp [Cond.before, Cond.holds, Cond.value, h1, h2, h3, h4, g1, g2, g3, g4, g5, g6]
def isCode : Jvm.Cond → Bool
  | .code _ _ _ _ => true
  | _ => false
theorem all_split {L : List Jvm.Cond} {P : Jvm.Cond → Bool} (h1 : L.all (fun c => isCode c || P c) = true) (h2 : ∀ c ∈ L.filter isCode, P c = true) : L.all P = true := by
  refine List.all_eq_true.mpr fun c hc => ?_
  have h := List.all_eq_true.mp h1 c hc
  rcases Bool.eq_false_or_eq_true (isCode c) with hi | hi
  · exact h2 c (List.mem_filter.mpr ⟨hc, hi⟩)
  · simpa [hi] using h
set_option maxRecDepth 65536 in
theorem w_c0 : (Jvm.Cond.code x code maxLocals ret).before args0 about1 = true := code_word (m := ⟨1, 1⟩) (meth := k1m1) (c := k1c1) (by decide +kernel) rfl rfl rfl (by decide +kernel)
set_option maxRecDepth 65536 in
theorem w_c1 : (Jvm.Cond.code ({ cls := "com/example/tandem/tandem/analysis/Cuts$Range", name := "<init>", desc := "(II)V" } : Jvm.MethodName) prog_10_method_1_code (3 : Nat) (Option.none : Option Jvm.ClassFile.FieldType)).before args0 about1 = true := code_word (m := ⟨3, 0⟩) (meth := k3m0) (c := k3c0) (by decide +kernel) rfl rfl rfl (by decide +kernel)
set_option maxRecDepth 65536 in
theorem w_c2 : (Jvm.Cond.code ({ cls := "java/lang/Record", name := "<init>", desc := "()V" } : Jvm.MethodName) jdk_30_method_1_code (1 : Nat) (Option.none : Option Jvm.ClassFile.FieldType)).before args0 about1 = true := code_word (m := ⟨2, 0⟩) (meth := k2m0) (c := k2c0) (by decide +kernel) rfl rfl rfl (by decide +kernel)
set_option maxRecDepth 65536 in
theorem w_c3 : (Jvm.Cond.code ({ cls := "java/lang/Object", name := "<init>", desc := "()V" } : Jvm.MethodName) object_method_1_code (1 : Nat) (Option.none : Option Jvm.ClassFile.FieldType)).before args0 about1 = true := code_word (m := ⟨0, 0⟩) (meth := k0m0) (c := k0c0) (by decide +kernel) rfl rfl rfl (by decide +kernel)
set_option maxRecDepth 65536 in
theorem w_c4 : (Jvm.Cond.code ({ cls := "com/example/tandem/tandem/analysis/Cuts$Range", name := "hashCode", desc := "()I" } : Jvm.MethodName) prog_10_method_3_code (1 : Nat) (Option.some Jvm.ClassFile.FieldType.int)).before args0 about1 = true := code_word (m := ⟨3, 2⟩) (meth := k3m2) (c := k3c2) (by decide +kernel) rfl rfl rfl (by decide +kernel)
set_option maxRecDepth 65536 in
theorem w_c5 : (Jvm.Cond.code ({ cls := "com/example/tandem/tandem/analysis/Cuts$Range", name := "equals", desc := "(Ljava/lang/Object;)Z" } : Jvm.MethodName) prog_10_method_2_code (3 : Nat) (Option.some Jvm.ClassFile.FieldType.boolean)).before args0 about1 = true := code_word (m := ⟨3, 1⟩) (meth := k3m1) (c := k3c1) (by decide +kernel) rfl rfl rfl (by decide +kernel)
def codes1 : List Jvm.Cond := [Jvm.Cond.code x code maxLocals ret, Jvm.Cond.code ({ cls := "com/example/tandem/tandem/analysis/Cuts$Range", name := "<init>", desc := "(II)V" } : Jvm.MethodName) prog_10_method_1_code (3 : Nat) (Option.none : Option Jvm.ClassFile.FieldType), Jvm.Cond.code ({ cls := "java/lang/Record", name := "<init>", desc := "()V" } : Jvm.MethodName) jdk_30_method_1_code (1 : Nat) (Option.none : Option Jvm.ClassFile.FieldType), Jvm.Cond.code ({ cls := "java/lang/Object", name := "<init>", desc := "()V" } : Jvm.MethodName) object_method_1_code (1 : Nat) (Option.none : Option Jvm.ClassFile.FieldType), Jvm.Cond.code ({ cls := "com/example/tandem/tandem/analysis/Cuts$Range", name := "hashCode", desc := "()I" } : Jvm.MethodName) prog_10_method_3_code (1 : Nat) (Option.some Jvm.ClassFile.FieldType.int), Jvm.Cond.code ({ cls := "com/example/tandem/tandem/analysis/Cuts$Range", name := "equals", desc := "(Ljava/lang/Object;)Z" } : Jvm.MethodName) prog_10_method_2_code (3 : Nat) (Option.some Jvm.ClassFile.FieldType.boolean)]
set_option maxRecDepth 65536 in
theorem codes_eq : words1.filter isCode = codes1 := rfl
theorem w_codes : ∀ c ∈ words1.filter isCode, c.before args0 about1 = true := by
  rw [codes_eq]
  intro c hc
  simp only [codes1, List.mem_cons, List.not_mem_nil, or_false] at hc
  rcases hc with rfl | rfl | rfl | rfl | rfl | rfl
  · exact w_c0
  · exact w_c1
  · exact w_c2
  · exact w_c3
  · exact w_c4
  · exact w_c5
set_option maxRecDepth 65536 in
theorem w_t1 : (words1.take 24).all (fun c => isCode c || c.before args0 about1) = true := by decide +kernel
set_option maxRecDepth 65536 in
theorem w_t2 : (words1.drop 24).all (fun c => isCode c || c.before args0 about1) = true := by decide +kernel
theorem w_tables : (allAtoms (Jvm.Cond.code x code maxLocals ret :: tables_1)).before args0 about1 = true := by
  rw [allAtoms_all]
  show words1.all (fun c => c.before args0 about1) = true
  refine all_split ?_ w_codes
  rw [← List.take_append_drop 24 words1, List.all_append, w_t1, w_t2]
  rfl
set_option maxRecDepth 65536 in
theorem w_case : (Jvm.Cond.and given_1 narrow_1).before args0 about1 = true := by decide +kernel
theorem w_applies : (headSpec (Jvm.Cond.code x code maxLocals ret :: tables_1) room_1).applies x e0.platform about1 = true :=
  (Spec.applies_iff w_frames).mpr ⟨w_running, w_runnable, w_alone, w_named, w_hears, w_ripe, w_room, w_tables⟩
theorem atStart : AtStart classFile x code maxLocals ret World_1 tables_1 room_1 Calls_1 rest_1 Pre_1 launch0 p0 e0 about1 theMethod args0 below0 :=
  ⟨lists_1, trivial, launch0.admits_env _ _ _, launch0.least_env, fairChoices_fair.cas, fairChoices_fair.clock, w_frames, w_args, w_heap, w_applies, trivial, trivial, w_case⟩
end start1
theorem witness_1 : WitnessClaimed_1 := ⟨start1.p0, start1.e0, start1.about1, start1.theMethod, start1.args0, start1.below0, start1.atStart⟩
end Jvm.Pilot.@@N@@
