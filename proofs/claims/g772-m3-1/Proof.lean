import JvmDerived
import JvmDerived.Pilot.@@N@@Statement
import JvmDerived.Pilot.@@N@@Code
set_option linter.unusedVariables false
set_option linter.unusedSimpArgs false
namespace Jvm.RoadKit
open Sem ClassFile Op Lib Jvm.Stand Jvm.Free Jvm.LawKit
section Own
variable {p : Program} {l : Launch} {e : Env} {R : Room} {s : State} {m : MethodId} {args : Array Value} {below : List Frame} {meth : Method} {c : Code} {T : State} {locs : List Loc} {cells slots : Nat} {Q : Option Value → Heap → List Loc → Prop} {kc ks : Nat}
/-- the run from S comes to its end and leaves what Q says -/
def own_Fin (p : Program) (e : Env) (below : List Frame) (s : State) (kc ks : Nat) (Q : Option Value → Heap → List Loc → Prop) (S : State) : Prop :=
  ∃ U o, Steps p.tables e below S U ∧ U.status = .running ∧ Ended U below o ∧ ∃ v L, o = .returned v ∧ Q v U.heap L ∧ FrameEnd s o U L kc ks
theorem own_step {S S' : State} (h : ∀ t, Steps p.tables e below S' t → Steps p.tables e below S t) (k : own_Fin p e below s kc ks Q S') : own_Fin p e below s kc ks Q S := by
  obtain ⟨U, o, h1, r⟩ := k
  exact ⟨U, o, h _ h1, r⟩
theorem own_ret (X : Stand p l e R s m args below meth c T locs cells slots) (hlk : meth.locks = false) {v : Option Value} (hv : meth.sig.returnType = none → v = none) (hc : cells ≤ kc) (hs : slots ≤ ks) (hQ : Q v T.heap locs) {S : State}
    (hst : ∀ fs, (∀ (f : JFrame) (acts : List Action), f.method = m → f.locked = none → f.entered = [] → (doReturn e (T.setTop f) acts v).1 = T.setFrames fs) → Steps p.tables e below S (T.setFrames fs)) : own_Fin p e below s kc ks Q S := by
  obtain ⟨fs, hr, hrun, hended, hW, hsame⟩ := X.leave (v := v) hv hlk
  exact ⟨_, _, hst fs hr, hrun, hended, _, _, rfl, hQ, ⟨_, rfl⟩, hW, hsame.mono hc hs⟩
def own_FinW (p : Program) (e : Env) (below : List Frame) (s : State) (kc ks : Nat) (Q : Option Value → Heap → List Loc → Prop) (S : State) : Prop :=
  ∃ U o, Steps p.tables e below S U ∧ U.status = .running ∧ Ended U below o ∧ ∃ v L, o = .returned v ∧ Q v U.heap L ∧ ReturnedEndW s o U L kc ks
theorem own_stepW {S S' : State} (h : ∀ t, Steps p.tables e below S' t → Steps p.tables e below S t) (k : own_FinW p e below s kc ks Q S') : own_FinW p e below s kc ks Q S := by
  obtain ⟨U, o, h1, r⟩ := k
  exact ⟨U, o, h _ h1, r⟩
theorem own_retW {vm1 : Vm} (X : Stand p l e R (s.setVm vm1) m args below meth c T locs cells slots) (hlk : meth.locks = false) {n : Nat} (hS : s.Since vm1 n) {h : Heap} (eT : T.heap = h) (hn : n ≤ h.size) {v : Option Value} (hv : meth.sig.returnType = none → v = none) (hc : cells ≤ kc) (hs : slots ≤ ks) (hQ : Q v T.heap locs) {S : State}
    (hst : ∀ fs, (∀ (f : JFrame) (acts : List Action), f.method = m → f.locked = none → f.entered = [] → (doReturn e (T.setTop f) acts v).1 = T.setFrames fs) → Steps p.tables e below S (T.setFrames fs)) : own_FinW p e below s kc ks Q S := by
  obtain ⟨fs, hr, hrun, hended, hE⟩ := X.leaveW hS (by rw [eT]; exact hn) (v := v) hv hlk
  exact ⟨_, _, hst fs hr, hrun, hended, _, _, rfl, hQ, hE.1, hE.2.1, hE.2.2.1, hE.2.2.2.mono hc hs⟩
theorem own_castW {g g' : JFrame} (q : g = g') (k : own_FinW p e below s kc ks Q (T.setTop g')) : own_FinW p e below s kc ks Q (T.setTop g) := q ▸ k
theorem own_m0 : Jvm.Free.Fl.Mag64 1 FP.dconst0 := by unfold Jvm.Free.Fl.Mag64; decide
theorem own_mz : Jvm.Free.Fl.Mag64 1 (0 : UInt64) := by unfold Jvm.Free.Fl.Mag64; decide
theorem own_m1 : Jvm.Free.Fl.Mag64 1024 FP.dconst1 := by unfold Jvm.Free.Fl.Mag64; decide
/-- roads that meet again: what lies behind the meeting is walked once -/
theorem own_join {G : Prop} {F : State → Prop} (X : Stand p l e R s m args below meth c T locs cells slots) {h : Heap} (eT : T.heap = h) {β : Type} (g : β → JFrame) (hyp : β → Prop)
    (body : ∀ Tj : State, Stand p l e R s m args below meth c Tj locs cells slots → Tj.heap = h → ∀ b, hyp b → F (Tj.setTop (g b)))
    (cont : (∀ Tj : State, Stand p l e R s m args below meth c Tj locs cells slots → Tj.heap = h → ∀ b, hyp b → F (Tj.setTop (g b))) → G) : G := cont body
theorem own_ltn {n k j : Int32} (h : ¬ n < k) (q : j < k) : j < n := by
  rw [Int32.lt_iff_toInt_lt] at *
  omega
theorem own_cast {g g' : JFrame} (q : g = g') (k : own_Fin p e below s kc ks Q (T.setTop g')) : own_Fin p e below s kc ks Q (T.setTop g) := q ▸ k
theorem own_getJ {cl : Cell} {vs : List Int64} {j : Int32} (H : Has cl (vs.map Value.long) (.long 0)) (q : ¬ (j < 0 ∨ cl.slots.size ≤ j.toNatClampNeg)) : cl.slots[j.toNatClampNeg]? = some (.long (vs.getD j.toNatClampNeg 0)) := by
  refine Has.at H q ?_
  simp only [List.getD_eq_getElem?_getD, List.getElem?_map]
  cases vs[j.toNatClampNeg]? <;> rfl
def own_Nst (h : Heap) (x : Addr) : Prop := ∃ c : Cell, h[x]? = some c ∧ c.vm.isStatics = false
theorem own_nst_exa {Z : State} {h : Heap} {a : Addr} {C : String} (F : Exa Z h a C) : own_Nst h a := by
  obtain ⟨c, _, h1, _, _, h4, _⟩ := F
  exact ⟨c, h1, h4⟩
theorem own_nst_arv {Z : State} {h : Heap} {a : Addr} {k : ClassId} {ty : FieldType} {n : Int32} {vs : List Value} {d : Value} (F : Arv Z h a k ty n vs d) : own_Nst h a := by
  obtain ⟨c, A, _⟩ := F
  exact ⟨c, A.1, A.plain⟩
theorem own_sta_keep {Z : State} {h h' : Heap} {C n d : String} {v : Value} {ws : List Addr} (F : Sta Z h C n d v) (K : Keep h h' ws) (q : ∀ x ∈ ws, own_Nst h x) : Sta Z h' C n d v := by
  obtain ⟨cf, i, k, f, st, cell, h1, h2, h3, h4, h5, h6, h7⟩ := F
  refine ⟨cf, i, k, f, st, cell, h1, h2, h3, h4, K.2.1 _ _ h5 (fun z => ?_), h6, h7⟩
  obtain ⟨c, e1, e2⟩ := q _ z
  cases h5.symm.trans e1
  rw [h6] at e2
  cases e2
theorem own_sta_keep0 {Z : State} {h h' : Heap} {C n d : String} {v : Value} (F : Sta Z h C n d v) (K : Keep h h' []) : Sta Z h' C n d v := own_sta_keep F K (fun _ z => nomatch z)
end Own
section OwnStart
variable {args : Array Value} {Z : State} {t : Term} {a : Addr} {O n d : String}
theorem own_fldV {v : Value} (ev : t.eval args Z none [] Z = some (.ref a)) (h : (Term.field t O n d).eval args Z none [] Z = some v) : Fld Z Z.heap a O n d v := Fld.start ((fld_at ev).symm.trans h)
theorem own_len {cl : Cell} {ty : FieldType} {k : Int32} (ev : t.eval args Z none [] Z = some (.ref a)) (A : Arr Z Z.heap a cl ty) (h : (Cond.eq (.length t) (.int k)).value args Z none Z [] = some true) : cl.slots.size < 2 ^ 31 ∧ cl.slots.size.toInt32 = k := by
  have e := eqv_i (y := k) rfl h
  have ha := A.fin (Vm.Alike.refl _)
  by_cases q : cl.slots.size < 2 ^ 31
  · exact ⟨q, Value.int.inj (Option.some.inj ((len_f ev ha q).symm.trans e))⟩
  · simp [Term.eval, ev, ha, q] at e
theorem own_elI {cl : Cell} {ty : FieldType} {i k : Int32} (ev : t.eval args Z none [] Z = some (.ref a)) (A : Arr Z Z.heap a cl ty) (hi : ¬ i < 0) (h : (Cond.eq (.elem t (.int i)) (.int k)).value args Z none Z [] = some true) : cl.slots[i.toNatClampNeg]? = some (.int k) :=
  (elem_f ev rfl (A.fin (Vm.Alike.refl _)) hi).symm.trans (eqv_i (y := k) rfl h)
theorem own_elJ {cl : Cell} {ty : FieldType} {i : Int32} {k : Int64} (ev : t.eval args Z none [] Z = some (.ref a)) (A : Arr Z Z.heap a cl ty) (hi : ¬ i < 0) (h : (Cond.eq (.elem t (.int i)) (.long k)).value args Z none Z [] = some true) : cl.slots[i.toNatClampNeg]? = some (.long k) :=
  (elem_f ev rfl (A.fin (Vm.Alike.refl _)) hi).symm.trans (eqv_l (y := k) rfl h)
end OwnStart
end Jvm.RoadKit
namespace Jvm.Pilot.@@N@@
open Jvm Jvm.ClassFile Sem Op Lib Jvm.Free Jvm.Stand Jvm.LawKit Jvm.RoadKit Bundle Jvm.Pilot.@@N@@.Jvm.D
theorem own_w {ts : List Jvm.Cond} {Z : State} {a0 : Array Value} (hw : ∀ d ∈ ts, d.before a0 Z = true) (i : Nat) {d : Jvm.Cond} (h : ts[i]? = some d) : d.before a0 Z = true := hw d (List.mem_of_getElem? h)
theorem own_k (x : Int32) : ((x &&& (2147483647 : Int32)) % (6 : Int32)) = (0 : Int32) ∨ ((x &&& (2147483647 : Int32)) % (6 : Int32)) = (1 : Int32) ∨ ((x &&& (2147483647 : Int32)) % (6 : Int32)) = (2 : Int32) ∨ ((x &&& (2147483647 : Int32)) % (6 : Int32)) = (3 : Int32) ∨ ((x &&& (2147483647 : Int32)) % (6 : Int32)) = (4 : Int32) ∨ ((x &&& (2147483647 : Int32)) % (6 : Int32)) = (5 : Int32) := by
  have h1 : (x &&& (2147483647 : Int32)).toInt = x.toInt % 2147483648 := c_mask x _ 31 (by decide) (by decide)
  have h2 := (c_irem (x &&& (2147483647 : Int32)) (6 : Int32) 6 (by decide)).1 (by omega)
  have h3 : ((x &&& (2147483647 : Int32)) % (6 : Int32)).toInt = 0 ∨ ((x &&& (2147483647 : Int32)) % (6 : Int32)).toInt = 1 ∨ ((x &&& (2147483647 : Int32)) % (6 : Int32)).toInt = 2 ∨ ((x &&& (2147483647 : Int32)) % (6 : Int32)).toInt = 3 ∨ ((x &&& (2147483647 : Int32)) % (6 : Int32)).toInt = 4 ∨ ((x &&& (2147483647 : Int32)) % (6 : Int32)).toInt = 5 := by omega
  rcases h3 with h | h | h | h | h | h
  · exact Or.inl (Int32.toInt_inj.mp (h.trans (by decide)))
  · exact Or.inr (Or.inl (Int32.toInt_inj.mp (h.trans (by decide))))
  · exact Or.inr (Or.inr (Or.inl (Int32.toInt_inj.mp (h.trans (by decide)))))
  · exact Or.inr (Or.inr (Or.inr (Or.inl (Int32.toInt_inj.mp (h.trans (by decide))))))
  · exact Or.inr (Or.inr (Or.inr (Or.inr (Or.inl (Int32.toInt_inj.mp (h.trans (by decide)))))))
  · exact Or.inr (Or.inr (Or.inr (Or.inr (Or.inr (Int32.toInt_inj.mp (h.trans (by decide)))))))
theorem own_d1_0 : decode method_2_code 0 = .ok (.iload_n 0, 1) := by decide +kernel
theorem own_d1_1 : decode method_2_code 1 = .ok (.ifCond .ne 7, 3) := by decide +kernel
theorem own_d1_4 : decode method_2_code 4 = .ok (.getstatic 7, 3) := by decide +kernel
theorem own_d1_7 : decode method_2_code 7 = .ok (.areturn, 1) := by decide +kernel
theorem own_pn0 : plainName "com/example/pipehat/pipehat/CodeIsEnhancedPinLaw" = true := by first | (simp [plainName, overriddenIn]; done) | decide +kernel
theorem own_ef1 (m : MethodId)  : entryFrame m #[(.int (0 : Int32))] 1 = mkF m 0 #[.val (.int (0 : Int32))] [] := by first | (simp [entryFrame, mkF, argsToLocals, Value.category]; done) | rfl
def own_Q1 (Z : State) (s_AA : Addr) (h0 : Heap) (n0 : Nat) (v : Option Value) (h : Heap) (L : List Loc) : Prop := v = some (.ref s_AA) ∧ Fr n0 L ∧ h = h0
set_option maxRecDepth 65536 in
set_option maxHeartbeats 40000000 in
theorem own_rm1 (l : Launch) (Z : State) (a0 : Array Value) (hw : ∀ d ∈ tables_1, d.before a0 Z = true) (ws : List Jvm.Cond) (s_AA : Addr) (h0 : Heap) (n0 : Nat) (Z0 : n0 ≤ h0.size) (S_AA : Sta Z h0 "com/example/pipehat/pipehat/Acknowledgment$Code" "AA" "Lcom/example/pipehat/pipehat/Acknowledgment$Code;" (.ref s_AA)) :
    MetFree l (⟨"com/example/pipehat/pipehat/CodeIsEnhancedPinLaw", "pick", "(I)Lcom/example/pipehat/pipehat/Acknowledgment$Code;"⟩ : MethodName) (head1 (Jvm.Cond.code (⟨"com/example/pipehat/pipehat/CodeIsEnhancedPinLaw", "pick", "(I)Lcom/example/pipehat/pipehat/Acknowledgment$Code;"⟩ : MethodName) method_2_code 1 (some (.object "com/example/pipehat/pipehat/Acknowledgment$Code")) :: ws) ({ frames := 0, cells := 0, slots := 0, locals := 0 } : Room)) (fun a U => a = #[(.int (0 : Int32))] ∧ Z.Warmed39 U.vm ∧ U.heap = h0) (fun _ _ _ _ _ => True) (fun _ U o U' => ∃ v L, o = .returned v ∧ own_Q1 Z s_AA h0 n0 v U'.heap L ∧ FrameEnd U o U' L ({ frames := 0, cells := 0, slots := 0, locals := 0 } : Room).cells ({ frames := 0, cells := 0, slots := 0, locals := 0 } : Room).slots) := by
  refine MetFree.of_bodySF (plainFor_of_name own_pn0) hisR ?_
  intro p e s m args below meth c s₁ Bd hml0 hP hK
  obtain ⟨rfl, hZ, hh⟩ := hP
  have hx := Bd.exec
  have hby := Bd.bytes
  have hlk := Bd.notSynchronized
  have hml : c.maxLocals = 1 := hml0
  have hown : s.vm.findClass "com/example/pipehat/pipehat/CodeIsEnhancedPinLaw" = some m.cls := findClass_of_methodNamed Bd.named
  have hnm := (name_of_methodNamed Bd.named Bd.method).1
  have X0 : Stand p l e ({ frames := 0, cells := 0, slots := 0, locals := 0 } : Room) s m #[(.int (0 : Int32))] below meth c s₁ [] 0 0 := Stand.of_body Bd
  have e0 : s₁.heap = h0 := by rw [← hh, Bd.state]; rfl
  have N0 := Fr.nil n0
  have KR : Keep h0 h0 [] := Keep.refl _ _
  show own_Fin p e below s ({ frames := 0, cells := 0, slots := 0, locals := 0 } : Room).cells ({ frames := 0, cells := 0, slots := 0, locals := 0 } : Room).slots (own_Q1 Z s_AA h0 n0) (s₁.setTop (entryFrame m #[(.int (0 : Int32))] 1))
  refine own_cast (own_ef1 m ) ?_
  refine own_step (fun _ k => XS.iloadN X0.here hx rfl (hb hby own_d1_0) rfl k) ?_
  show own_Fin p e below s _ _ _ (s₁.setTop (mkF m 1 #[.val (.int (0 : Int32))] [(.int (0 : Int32))]))
  refine own_step (fun _ k => XS.ifNo X0.here hx rfl (hb hby own_d1_1) rfl ((if0 _ _).trans (teq (by decide : (0 : Int32) = (0 : Int32))).2) k) ?_
  show own_Fin p e below s _ _ _ (s₁.setTop (mkF m 4 #[.val (.int (0 : Int32))] []))
  obtain ⟨T1, X1, e1, st1⟩ := getS2 X0 hx hZ hown (host := "") (Or.inl (own_w hw 5 rfl)) Via.refl e0 S_AA (g := (mkF m 4 #[.val (.int (0 : Int32))] [])) rfl (hb hby own_d1_4)
  refine own_step st1 ?_
  show own_Fin p e below s _ _ _ (T1.setTop (mkF m 7 #[.val (.int (0 : Int32))] [(.ref s_AA)]))
  exact own_ret X1 hlk (v := some (.ref s_AA)) (fun h => by rw [Bd.returns] at h; cases h) (by decide) (by decide) (by show own_Q1 Z s_AA h0 n0 _ T1.heap _; rw [e1]; exact ⟨rfl, N0, rfl⟩) (fun fs hr => retOut X1 hx Bd.returns rfl (Or.inr (Or.inr (Or.inr (Or.inr ⟨rfl, rfl, rfl⟩)))) (hb hby own_d1_7) hr)

theorem own_d2_0 : decode method_2_code 0 = .ok (.iload_n 0, 1) := by decide +kernel
theorem own_d2_1 : decode method_2_code 1 = .ok (.ifCond .ne 7, 3) := by decide +kernel
theorem own_d2_8 : decode method_2_code 8 = .ok (.iload_n 0, 1) := by decide +kernel
theorem own_d2_9 : decode method_2_code 9 = .ok (.iconst 1, 1) := by decide +kernel
theorem own_d2_10 : decode method_2_code 10 = .ok (.if_icmp .ne 7, 3) := by decide +kernel
theorem own_d2_13 : decode method_2_code 13 = .ok (.getstatic 13, 3) := by decide +kernel
theorem own_d2_16 : decode method_2_code 16 = .ok (.areturn, 1) := by decide +kernel
theorem own_ef2 (m : MethodId)  : entryFrame m #[(.int (1 : Int32))] 1 = mkF m 0 #[.val (.int (1 : Int32))] [] := by first | (simp [entryFrame, mkF, argsToLocals, Value.category]; done) | rfl
def own_Q2 (Z : State) (s_AE : Addr) (h0 : Heap) (n0 : Nat) (v : Option Value) (h : Heap) (L : List Loc) : Prop := v = some (.ref s_AE) ∧ Fr n0 L ∧ h = h0
set_option maxRecDepth 65536 in
set_option maxHeartbeats 40000000 in
theorem own_rm2 (l : Launch) (Z : State) (a0 : Array Value) (hw : ∀ d ∈ tables_1, d.before a0 Z = true) (ws : List Jvm.Cond) (s_AE : Addr) (h0 : Heap) (n0 : Nat) (Z0 : n0 ≤ h0.size) (S_AE : Sta Z h0 "com/example/pipehat/pipehat/Acknowledgment$Code" "AE" "Lcom/example/pipehat/pipehat/Acknowledgment$Code;" (.ref s_AE)) :
    MetFree l (⟨"com/example/pipehat/pipehat/CodeIsEnhancedPinLaw", "pick", "(I)Lcom/example/pipehat/pipehat/Acknowledgment$Code;"⟩ : MethodName) (head1 (Jvm.Cond.code (⟨"com/example/pipehat/pipehat/CodeIsEnhancedPinLaw", "pick", "(I)Lcom/example/pipehat/pipehat/Acknowledgment$Code;"⟩ : MethodName) method_2_code 1 (some (.object "com/example/pipehat/pipehat/Acknowledgment$Code")) :: ws) ({ frames := 0, cells := 0, slots := 0, locals := 0 } : Room)) (fun a U => a = #[(.int (1 : Int32))] ∧ Z.Warmed39 U.vm ∧ U.heap = h0) (fun _ _ _ _ _ => True) (fun _ U o U' => ∃ v L, o = .returned v ∧ own_Q2 Z s_AE h0 n0 v U'.heap L ∧ FrameEnd U o U' L ({ frames := 0, cells := 0, slots := 0, locals := 0 } : Room).cells ({ frames := 0, cells := 0, slots := 0, locals := 0 } : Room).slots) := by
  refine MetFree.of_bodySF (plainFor_of_name own_pn0) hisR ?_
  intro p e s m args below meth c s₁ Bd hml0 hP hK
  obtain ⟨rfl, hZ, hh⟩ := hP
  have hx := Bd.exec
  have hby := Bd.bytes
  have hlk := Bd.notSynchronized
  have hml : c.maxLocals = 1 := hml0
  have hown : s.vm.findClass "com/example/pipehat/pipehat/CodeIsEnhancedPinLaw" = some m.cls := findClass_of_methodNamed Bd.named
  have hnm := (name_of_methodNamed Bd.named Bd.method).1
  have X0 : Stand p l e ({ frames := 0, cells := 0, slots := 0, locals := 0 } : Room) s m #[(.int (1 : Int32))] below meth c s₁ [] 0 0 := Stand.of_body Bd
  have e0 : s₁.heap = h0 := by rw [← hh, Bd.state]; rfl
  have N0 := Fr.nil n0
  have KR : Keep h0 h0 [] := Keep.refl _ _
  show own_Fin p e below s ({ frames := 0, cells := 0, slots := 0, locals := 0 } : Room).cells ({ frames := 0, cells := 0, slots := 0, locals := 0 } : Room).slots (own_Q2 Z s_AE h0 n0) (s₁.setTop (entryFrame m #[(.int (1 : Int32))] 1))
  refine own_cast (own_ef2 m ) ?_
  refine own_step (fun _ k => XS.iloadN X0.here hx rfl (hb hby own_d2_0) rfl k) ?_
  show own_Fin p e below s _ _ _ (s₁.setTop (mkF m 1 #[.val (.int (1 : Int32))] [(.int (1 : Int32))]))
  refine own_step (fun _ k => XS.ifYes X0.here hx rfl (pc0 := 1) (pc' := 8) rfl (hb hby own_d2_1) rfl ((if0 _ _).trans (feq (by decide : ¬ ((1 : Int32) = (0 : Int32)))).2) (by decide) (by decide) k) ?_
  show own_Fin p e below s _ _ _ (s₁.setTop (mkF m 8 #[.val (.int (1 : Int32))] []))
  refine own_step (fun _ k => XS.iloadN X0.here hx rfl (hb hby own_d2_8) rfl k) ?_
  show own_Fin p e below s _ _ _ (s₁.setTop (mkF m 9 #[.val (.int (1 : Int32))] [(.int (1 : Int32))]))
  refine own_step (fun _ k => XS.iconst X0.here hx rfl (hb hby own_d2_9) k) ?_
  show own_Fin p e below s _ _ _ (s₁.setTop (mkF m 10 #[.val (.int (1 : Int32))] [(.int (1 : Int32)), (.int (1 : Int32))]))
  refine own_step (fun _ k => XS.icmpNo X0.here hx rfl (hb hby own_d2_10) rfl (teq (by decide : (1 : Int32) = (1 : Int32))).2 k) ?_
  show own_Fin p e below s _ _ _ (s₁.setTop (mkF m 13 #[.val (.int (1 : Int32))] []))
  obtain ⟨T1, X1, e1, st1⟩ := getS2 X0 hx hZ hown (host := "") (Or.inl (own_w hw 22 rfl)) Via.refl e0 S_AE (g := (mkF m 13 #[.val (.int (1 : Int32))] [])) rfl (hb hby own_d2_13)
  refine own_step st1 ?_
  show own_Fin p e below s _ _ _ (T1.setTop (mkF m 16 #[.val (.int (1 : Int32))] [(.ref s_AE)]))
  exact own_ret X1 hlk (v := some (.ref s_AE)) (fun h => by rw [Bd.returns] at h; cases h) (by decide) (by decide) (by show own_Q2 Z s_AE h0 n0 _ T1.heap _; rw [e1]; exact ⟨rfl, N0, rfl⟩) (fun fs hr => retOut X1 hx Bd.returns rfl (Or.inr (Or.inr (Or.inr (Or.inr ⟨rfl, rfl, rfl⟩)))) (hb hby own_d2_16) hr)

theorem own_d3_0 : decode method_2_code 0 = .ok (.iload_n 0, 1) := by decide +kernel
theorem own_d3_1 : decode method_2_code 1 = .ok (.ifCond .ne 7, 3) := by decide +kernel
theorem own_d3_8 : decode method_2_code 8 = .ok (.iload_n 0, 1) := by decide +kernel
theorem own_d3_9 : decode method_2_code 9 = .ok (.iconst 1, 1) := by decide +kernel
theorem own_d3_10 : decode method_2_code 10 = .ok (.if_icmp .ne 7, 3) := by decide +kernel
theorem own_d3_17 : decode method_2_code 17 = .ok (.iload_n 0, 1) := by decide +kernel
theorem own_d3_18 : decode method_2_code 18 = .ok (.iconst 2, 1) := by decide +kernel
theorem own_d3_19 : decode method_2_code 19 = .ok (.if_icmp .ne 7, 3) := by decide +kernel
theorem own_d3_22 : decode method_2_code 22 = .ok (.getstatic 16, 3) := by decide +kernel
theorem own_d3_25 : decode method_2_code 25 = .ok (.areturn, 1) := by decide +kernel
theorem own_ef3 (m : MethodId)  : entryFrame m #[(.int (2 : Int32))] 1 = mkF m 0 #[.val (.int (2 : Int32))] [] := by first | (simp [entryFrame, mkF, argsToLocals, Value.category]; done) | rfl
def own_Q3 (Z : State) (s_AR : Addr) (h0 : Heap) (n0 : Nat) (v : Option Value) (h : Heap) (L : List Loc) : Prop := v = some (.ref s_AR) ∧ Fr n0 L ∧ h = h0
set_option maxRecDepth 65536 in
set_option maxHeartbeats 40000000 in
theorem own_rm3 (l : Launch) (Z : State) (a0 : Array Value) (hw : ∀ d ∈ tables_1, d.before a0 Z = true) (ws : List Jvm.Cond) (s_AR : Addr) (h0 : Heap) (n0 : Nat) (Z0 : n0 ≤ h0.size) (S_AR : Sta Z h0 "com/example/pipehat/pipehat/Acknowledgment$Code" "AR" "Lcom/example/pipehat/pipehat/Acknowledgment$Code;" (.ref s_AR)) :
    MetFree l (⟨"com/example/pipehat/pipehat/CodeIsEnhancedPinLaw", "pick", "(I)Lcom/example/pipehat/pipehat/Acknowledgment$Code;"⟩ : MethodName) (head1 (Jvm.Cond.code (⟨"com/example/pipehat/pipehat/CodeIsEnhancedPinLaw", "pick", "(I)Lcom/example/pipehat/pipehat/Acknowledgment$Code;"⟩ : MethodName) method_2_code 1 (some (.object "com/example/pipehat/pipehat/Acknowledgment$Code")) :: ws) ({ frames := 0, cells := 0, slots := 0, locals := 0 } : Room)) (fun a U => a = #[(.int (2 : Int32))] ∧ Z.Warmed39 U.vm ∧ U.heap = h0) (fun _ _ _ _ _ => True) (fun _ U o U' => ∃ v L, o = .returned v ∧ own_Q3 Z s_AR h0 n0 v U'.heap L ∧ FrameEnd U o U' L ({ frames := 0, cells := 0, slots := 0, locals := 0 } : Room).cells ({ frames := 0, cells := 0, slots := 0, locals := 0 } : Room).slots) := by
  refine MetFree.of_bodySF (plainFor_of_name own_pn0) hisR ?_
  intro p e s m args below meth c s₁ Bd hml0 hP hK
  obtain ⟨rfl, hZ, hh⟩ := hP
  have hx := Bd.exec
  have hby := Bd.bytes
  have hlk := Bd.notSynchronized
  have hml : c.maxLocals = 1 := hml0
  have hown : s.vm.findClass "com/example/pipehat/pipehat/CodeIsEnhancedPinLaw" = some m.cls := findClass_of_methodNamed Bd.named
  have hnm := (name_of_methodNamed Bd.named Bd.method).1
  have X0 : Stand p l e ({ frames := 0, cells := 0, slots := 0, locals := 0 } : Room) s m #[(.int (2 : Int32))] below meth c s₁ [] 0 0 := Stand.of_body Bd
  have e0 : s₁.heap = h0 := by rw [← hh, Bd.state]; rfl
  have N0 := Fr.nil n0
  have KR : Keep h0 h0 [] := Keep.refl _ _
  show own_Fin p e below s ({ frames := 0, cells := 0, slots := 0, locals := 0 } : Room).cells ({ frames := 0, cells := 0, slots := 0, locals := 0 } : Room).slots (own_Q3 Z s_AR h0 n0) (s₁.setTop (entryFrame m #[(.int (2 : Int32))] 1))
  refine own_cast (own_ef3 m ) ?_
  refine own_step (fun _ k => XS.iloadN X0.here hx rfl (hb hby own_d3_0) rfl k) ?_
  show own_Fin p e below s _ _ _ (s₁.setTop (mkF m 1 #[.val (.int (2 : Int32))] [(.int (2 : Int32))]))
  refine own_step (fun _ k => XS.ifYes X0.here hx rfl (pc0 := 1) (pc' := 8) rfl (hb hby own_d3_1) rfl ((if0 _ _).trans (feq (by decide : ¬ ((2 : Int32) = (0 : Int32)))).2) (by decide) (by decide) k) ?_
  show own_Fin p e below s _ _ _ (s₁.setTop (mkF m 8 #[.val (.int (2 : Int32))] []))
  refine own_step (fun _ k => XS.iloadN X0.here hx rfl (hb hby own_d3_8) rfl k) ?_
  show own_Fin p e below s _ _ _ (s₁.setTop (mkF m 9 #[.val (.int (2 : Int32))] [(.int (2 : Int32))]))
  refine own_step (fun _ k => XS.iconst X0.here hx rfl (hb hby own_d3_9) k) ?_
  show own_Fin p e below s _ _ _ (s₁.setTop (mkF m 10 #[.val (.int (2 : Int32))] [(.int (1 : Int32)), (.int (2 : Int32))]))
  refine own_step (fun _ k => XS.icmpYes X0.here hx rfl (pc0 := 10) (pc' := 17) rfl (hb hby own_d3_10) rfl (feq (by decide : ¬ ((2 : Int32) = (1 : Int32)))).2 (by decide) (by decide) k) ?_
  show own_Fin p e below s _ _ _ (s₁.setTop (mkF m 17 #[.val (.int (2 : Int32))] []))
  refine own_step (fun _ k => XS.iloadN X0.here hx rfl (hb hby own_d3_17) rfl k) ?_
  show own_Fin p e below s _ _ _ (s₁.setTop (mkF m 18 #[.val (.int (2 : Int32))] [(.int (2 : Int32))]))
  refine own_step (fun _ k => XS.iconst X0.here hx rfl (hb hby own_d3_18) k) ?_
  show own_Fin p e below s _ _ _ (s₁.setTop (mkF m 19 #[.val (.int (2 : Int32))] [(.int (2 : Int32)), (.int (2 : Int32))]))
  refine own_step (fun _ k => XS.icmpNo X0.here hx rfl (hb hby own_d3_19) rfl (teq (by decide : (2 : Int32) = (2 : Int32))).2 k) ?_
  show own_Fin p e below s _ _ _ (s₁.setTop (mkF m 22 #[.val (.int (2 : Int32))] []))
  obtain ⟨T1, X1, e1, st1⟩ := getS2 X0 hx hZ hown (host := "") (Or.inl (own_w hw 20 rfl)) Via.refl e0 S_AR (g := (mkF m 22 #[.val (.int (2 : Int32))] [])) rfl (hb hby own_d3_22)
  refine own_step st1 ?_
  show own_Fin p e below s _ _ _ (T1.setTop (mkF m 25 #[.val (.int (2 : Int32))] [(.ref s_AR)]))
  exact own_ret X1 hlk (v := some (.ref s_AR)) (fun h => by rw [Bd.returns] at h; cases h) (by decide) (by decide) (by show own_Q3 Z s_AR h0 n0 _ T1.heap _; rw [e1]; exact ⟨rfl, N0, rfl⟩) (fun fs hr => retOut X1 hx Bd.returns rfl (Or.inr (Or.inr (Or.inr (Or.inr ⟨rfl, rfl, rfl⟩)))) (hb hby own_d3_25) hr)

theorem own_d4_0 : decode method_2_code 0 = .ok (.iload_n 0, 1) := by decide +kernel
theorem own_d4_1 : decode method_2_code 1 = .ok (.ifCond .ne 7, 3) := by decide +kernel
theorem own_d4_8 : decode method_2_code 8 = .ok (.iload_n 0, 1) := by decide +kernel
theorem own_d4_9 : decode method_2_code 9 = .ok (.iconst 1, 1) := by decide +kernel
theorem own_d4_10 : decode method_2_code 10 = .ok (.if_icmp .ne 7, 3) := by decide +kernel
theorem own_d4_17 : decode method_2_code 17 = .ok (.iload_n 0, 1) := by decide +kernel
theorem own_d4_18 : decode method_2_code 18 = .ok (.iconst 2, 1) := by decide +kernel
theorem own_d4_19 : decode method_2_code 19 = .ok (.if_icmp .ne 7, 3) := by decide +kernel
theorem own_d4_26 : decode method_2_code 26 = .ok (.iload_n 0, 1) := by decide +kernel
theorem own_d4_27 : decode method_2_code 27 = .ok (.iconst 3, 1) := by decide +kernel
theorem own_d4_28 : decode method_2_code 28 = .ok (.if_icmp .ne 7, 3) := by decide +kernel
theorem own_d4_31 : decode method_2_code 31 = .ok (.getstatic 19, 3) := by decide +kernel
theorem own_d4_34 : decode method_2_code 34 = .ok (.areturn, 1) := by decide +kernel
theorem own_ef4 (m : MethodId)  : entryFrame m #[(.int (3 : Int32))] 1 = mkF m 0 #[.val (.int (3 : Int32))] [] := by first | (simp [entryFrame, mkF, argsToLocals, Value.category]; done) | rfl
def own_Q4 (Z : State) (s_CA : Addr) (h0 : Heap) (n0 : Nat) (v : Option Value) (h : Heap) (L : List Loc) : Prop := v = some (.ref s_CA) ∧ Fr n0 L ∧ h = h0
set_option maxRecDepth 65536 in
set_option maxHeartbeats 40000000 in
theorem own_rm4 (l : Launch) (Z : State) (a0 : Array Value) (hw : ∀ d ∈ tables_1, d.before a0 Z = true) (ws : List Jvm.Cond) (s_CA : Addr) (h0 : Heap) (n0 : Nat) (Z0 : n0 ≤ h0.size) (S_CA : Sta Z h0 "com/example/pipehat/pipehat/Acknowledgment$Code" "CA" "Lcom/example/pipehat/pipehat/Acknowledgment$Code;" (.ref s_CA)) :
    MetFree l (⟨"com/example/pipehat/pipehat/CodeIsEnhancedPinLaw", "pick", "(I)Lcom/example/pipehat/pipehat/Acknowledgment$Code;"⟩ : MethodName) (head1 (Jvm.Cond.code (⟨"com/example/pipehat/pipehat/CodeIsEnhancedPinLaw", "pick", "(I)Lcom/example/pipehat/pipehat/Acknowledgment$Code;"⟩ : MethodName) method_2_code 1 (some (.object "com/example/pipehat/pipehat/Acknowledgment$Code")) :: ws) ({ frames := 0, cells := 0, slots := 0, locals := 0 } : Room)) (fun a U => a = #[(.int (3 : Int32))] ∧ Z.Warmed39 U.vm ∧ U.heap = h0) (fun _ _ _ _ _ => True) (fun _ U o U' => ∃ v L, o = .returned v ∧ own_Q4 Z s_CA h0 n0 v U'.heap L ∧ FrameEnd U o U' L ({ frames := 0, cells := 0, slots := 0, locals := 0 } : Room).cells ({ frames := 0, cells := 0, slots := 0, locals := 0 } : Room).slots) := by
  refine MetFree.of_bodySF (plainFor_of_name own_pn0) hisR ?_
  intro p e s m args below meth c s₁ Bd hml0 hP hK
  obtain ⟨rfl, hZ, hh⟩ := hP
  have hx := Bd.exec
  have hby := Bd.bytes
  have hlk := Bd.notSynchronized
  have hml : c.maxLocals = 1 := hml0
  have hown : s.vm.findClass "com/example/pipehat/pipehat/CodeIsEnhancedPinLaw" = some m.cls := findClass_of_methodNamed Bd.named
  have hnm := (name_of_methodNamed Bd.named Bd.method).1
  have X0 : Stand p l e ({ frames := 0, cells := 0, slots := 0, locals := 0 } : Room) s m #[(.int (3 : Int32))] below meth c s₁ [] 0 0 := Stand.of_body Bd
  have e0 : s₁.heap = h0 := by rw [← hh, Bd.state]; rfl
  have N0 := Fr.nil n0
  have KR : Keep h0 h0 [] := Keep.refl _ _
  show own_Fin p e below s ({ frames := 0, cells := 0, slots := 0, locals := 0 } : Room).cells ({ frames := 0, cells := 0, slots := 0, locals := 0 } : Room).slots (own_Q4 Z s_CA h0 n0) (s₁.setTop (entryFrame m #[(.int (3 : Int32))] 1))
  refine own_cast (own_ef4 m ) ?_
  refine own_step (fun _ k => XS.iloadN X0.here hx rfl (hb hby own_d4_0) rfl k) ?_
  show own_Fin p e below s _ _ _ (s₁.setTop (mkF m 1 #[.val (.int (3 : Int32))] [(.int (3 : Int32))]))
  refine own_step (fun _ k => XS.ifYes X0.here hx rfl (pc0 := 1) (pc' := 8) rfl (hb hby own_d4_1) rfl ((if0 _ _).trans (feq (by decide : ¬ ((3 : Int32) = (0 : Int32)))).2) (by decide) (by decide) k) ?_
  show own_Fin p e below s _ _ _ (s₁.setTop (mkF m 8 #[.val (.int (3 : Int32))] []))
  refine own_step (fun _ k => XS.iloadN X0.here hx rfl (hb hby own_d4_8) rfl k) ?_
  show own_Fin p e below s _ _ _ (s₁.setTop (mkF m 9 #[.val (.int (3 : Int32))] [(.int (3 : Int32))]))
  refine own_step (fun _ k => XS.iconst X0.here hx rfl (hb hby own_d4_9) k) ?_
  show own_Fin p e below s _ _ _ (s₁.setTop (mkF m 10 #[.val (.int (3 : Int32))] [(.int (1 : Int32)), (.int (3 : Int32))]))
  refine own_step (fun _ k => XS.icmpYes X0.here hx rfl (pc0 := 10) (pc' := 17) rfl (hb hby own_d4_10) rfl (feq (by decide : ¬ ((3 : Int32) = (1 : Int32)))).2 (by decide) (by decide) k) ?_
  show own_Fin p e below s _ _ _ (s₁.setTop (mkF m 17 #[.val (.int (3 : Int32))] []))
  refine own_step (fun _ k => XS.iloadN X0.here hx rfl (hb hby own_d4_17) rfl k) ?_
  show own_Fin p e below s _ _ _ (s₁.setTop (mkF m 18 #[.val (.int (3 : Int32))] [(.int (3 : Int32))]))
  refine own_step (fun _ k => XS.iconst X0.here hx rfl (hb hby own_d4_18) k) ?_
  show own_Fin p e below s _ _ _ (s₁.setTop (mkF m 19 #[.val (.int (3 : Int32))] [(.int (2 : Int32)), (.int (3 : Int32))]))
  refine own_step (fun _ k => XS.icmpYes X0.here hx rfl (pc0 := 19) (pc' := 26) rfl (hb hby own_d4_19) rfl (feq (by decide : ¬ ((3 : Int32) = (2 : Int32)))).2 (by decide) (by decide) k) ?_
  show own_Fin p e below s _ _ _ (s₁.setTop (mkF m 26 #[.val (.int (3 : Int32))] []))
  refine own_step (fun _ k => XS.iloadN X0.here hx rfl (hb hby own_d4_26) rfl k) ?_
  show own_Fin p e below s _ _ _ (s₁.setTop (mkF m 27 #[.val (.int (3 : Int32))] [(.int (3 : Int32))]))
  refine own_step (fun _ k => XS.iconst X0.here hx rfl (hb hby own_d4_27) k) ?_
  show own_Fin p e below s _ _ _ (s₁.setTop (mkF m 28 #[.val (.int (3 : Int32))] [(.int (3 : Int32)), (.int (3 : Int32))]))
  refine own_step (fun _ k => XS.icmpNo X0.here hx rfl (hb hby own_d4_28) rfl (teq (by decide : (3 : Int32) = (3 : Int32))).2 k) ?_
  show own_Fin p e below s _ _ _ (s₁.setTop (mkF m 31 #[.val (.int (3 : Int32))] []))
  obtain ⟨T1, X1, e1, st1⟩ := getS2 X0 hx hZ hown (host := "") (Or.inl (own_w hw 19 rfl)) Via.refl e0 S_CA (g := (mkF m 31 #[.val (.int (3 : Int32))] [])) rfl (hb hby own_d4_31)
  refine own_step st1 ?_
  show own_Fin p e below s _ _ _ (T1.setTop (mkF m 34 #[.val (.int (3 : Int32))] [(.ref s_CA)]))
  exact own_ret X1 hlk (v := some (.ref s_CA)) (fun h => by rw [Bd.returns] at h; cases h) (by decide) (by decide) (by show own_Q4 Z s_CA h0 n0 _ T1.heap _; rw [e1]; exact ⟨rfl, N0, rfl⟩) (fun fs hr => retOut X1 hx Bd.returns rfl (Or.inr (Or.inr (Or.inr (Or.inr ⟨rfl, rfl, rfl⟩)))) (hb hby own_d4_34) hr)

theorem own_d5_0 : decode method_2_code 0 = .ok (.iload_n 0, 1) := by decide +kernel
theorem own_d5_1 : decode method_2_code 1 = .ok (.ifCond .ne 7, 3) := by decide +kernel
theorem own_d5_8 : decode method_2_code 8 = .ok (.iload_n 0, 1) := by decide +kernel
theorem own_d5_9 : decode method_2_code 9 = .ok (.iconst 1, 1) := by decide +kernel
theorem own_d5_10 : decode method_2_code 10 = .ok (.if_icmp .ne 7, 3) := by decide +kernel
theorem own_d5_17 : decode method_2_code 17 = .ok (.iload_n 0, 1) := by decide +kernel
theorem own_d5_18 : decode method_2_code 18 = .ok (.iconst 2, 1) := by decide +kernel
theorem own_d5_19 : decode method_2_code 19 = .ok (.if_icmp .ne 7, 3) := by decide +kernel
theorem own_d5_26 : decode method_2_code 26 = .ok (.iload_n 0, 1) := by decide +kernel
theorem own_d5_27 : decode method_2_code 27 = .ok (.iconst 3, 1) := by decide +kernel
theorem own_d5_28 : decode method_2_code 28 = .ok (.if_icmp .ne 7, 3) := by decide +kernel
theorem own_d5_35 : decode method_2_code 35 = .ok (.iload_n 0, 1) := by decide +kernel
theorem own_d5_36 : decode method_2_code 36 = .ok (.iconst 4, 1) := by decide +kernel
theorem own_d5_37 : decode method_2_code 37 = .ok (.if_icmp .ne 7, 3) := by decide +kernel
theorem own_d5_40 : decode method_2_code 40 = .ok (.getstatic 22, 3) := by decide +kernel
theorem own_d5_43 : decode method_2_code 43 = .ok (.areturn, 1) := by decide +kernel
theorem own_ef5 (m : MethodId)  : entryFrame m #[(.int (4 : Int32))] 1 = mkF m 0 #[.val (.int (4 : Int32))] [] := by first | (simp [entryFrame, mkF, argsToLocals, Value.category]; done) | rfl
def own_Q5 (Z : State) (s_CE : Addr) (h0 : Heap) (n0 : Nat) (v : Option Value) (h : Heap) (L : List Loc) : Prop := v = some (.ref s_CE) ∧ Fr n0 L ∧ h = h0
set_option maxRecDepth 65536 in
set_option maxHeartbeats 40000000 in
theorem own_rm5 (l : Launch) (Z : State) (a0 : Array Value) (hw : ∀ d ∈ tables_1, d.before a0 Z = true) (ws : List Jvm.Cond) (s_CE : Addr) (h0 : Heap) (n0 : Nat) (Z0 : n0 ≤ h0.size) (S_CE : Sta Z h0 "com/example/pipehat/pipehat/Acknowledgment$Code" "CE" "Lcom/example/pipehat/pipehat/Acknowledgment$Code;" (.ref s_CE)) :
    MetFree l (⟨"com/example/pipehat/pipehat/CodeIsEnhancedPinLaw", "pick", "(I)Lcom/example/pipehat/pipehat/Acknowledgment$Code;"⟩ : MethodName) (head1 (Jvm.Cond.code (⟨"com/example/pipehat/pipehat/CodeIsEnhancedPinLaw", "pick", "(I)Lcom/example/pipehat/pipehat/Acknowledgment$Code;"⟩ : MethodName) method_2_code 1 (some (.object "com/example/pipehat/pipehat/Acknowledgment$Code")) :: ws) ({ frames := 0, cells := 0, slots := 0, locals := 0 } : Room)) (fun a U => a = #[(.int (4 : Int32))] ∧ Z.Warmed39 U.vm ∧ U.heap = h0) (fun _ _ _ _ _ => True) (fun _ U o U' => ∃ v L, o = .returned v ∧ own_Q5 Z s_CE h0 n0 v U'.heap L ∧ FrameEnd U o U' L ({ frames := 0, cells := 0, slots := 0, locals := 0 } : Room).cells ({ frames := 0, cells := 0, slots := 0, locals := 0 } : Room).slots) := by
  refine MetFree.of_bodySF (plainFor_of_name own_pn0) hisR ?_
  intro p e s m args below meth c s₁ Bd hml0 hP hK
  obtain ⟨rfl, hZ, hh⟩ := hP
  have hx := Bd.exec
  have hby := Bd.bytes
  have hlk := Bd.notSynchronized
  have hml : c.maxLocals = 1 := hml0
  have hown : s.vm.findClass "com/example/pipehat/pipehat/CodeIsEnhancedPinLaw" = some m.cls := findClass_of_methodNamed Bd.named
  have hnm := (name_of_methodNamed Bd.named Bd.method).1
  have X0 : Stand p l e ({ frames := 0, cells := 0, slots := 0, locals := 0 } : Room) s m #[(.int (4 : Int32))] below meth c s₁ [] 0 0 := Stand.of_body Bd
  have e0 : s₁.heap = h0 := by rw [← hh, Bd.state]; rfl
  have N0 := Fr.nil n0
  have KR : Keep h0 h0 [] := Keep.refl _ _
  show own_Fin p e below s ({ frames := 0, cells := 0, slots := 0, locals := 0 } : Room).cells ({ frames := 0, cells := 0, slots := 0, locals := 0 } : Room).slots (own_Q5 Z s_CE h0 n0) (s₁.setTop (entryFrame m #[(.int (4 : Int32))] 1))
  refine own_cast (own_ef5 m ) ?_
  refine own_step (fun _ k => XS.iloadN X0.here hx rfl (hb hby own_d5_0) rfl k) ?_
  show own_Fin p e below s _ _ _ (s₁.setTop (mkF m 1 #[.val (.int (4 : Int32))] [(.int (4 : Int32))]))
  refine own_step (fun _ k => XS.ifYes X0.here hx rfl (pc0 := 1) (pc' := 8) rfl (hb hby own_d5_1) rfl ((if0 _ _).trans (feq (by decide : ¬ ((4 : Int32) = (0 : Int32)))).2) (by decide) (by decide) k) ?_
  show own_Fin p e below s _ _ _ (s₁.setTop (mkF m 8 #[.val (.int (4 : Int32))] []))
  refine own_step (fun _ k => XS.iloadN X0.here hx rfl (hb hby own_d5_8) rfl k) ?_
  show own_Fin p e below s _ _ _ (s₁.setTop (mkF m 9 #[.val (.int (4 : Int32))] [(.int (4 : Int32))]))
  refine own_step (fun _ k => XS.iconst X0.here hx rfl (hb hby own_d5_9) k) ?_
  show own_Fin p e below s _ _ _ (s₁.setTop (mkF m 10 #[.val (.int (4 : Int32))] [(.int (1 : Int32)), (.int (4 : Int32))]))
  refine own_step (fun _ k => XS.icmpYes X0.here hx rfl (pc0 := 10) (pc' := 17) rfl (hb hby own_d5_10) rfl (feq (by decide : ¬ ((4 : Int32) = (1 : Int32)))).2 (by decide) (by decide) k) ?_
  show own_Fin p e below s _ _ _ (s₁.setTop (mkF m 17 #[.val (.int (4 : Int32))] []))
  refine own_step (fun _ k => XS.iloadN X0.here hx rfl (hb hby own_d5_17) rfl k) ?_
  show own_Fin p e below s _ _ _ (s₁.setTop (mkF m 18 #[.val (.int (4 : Int32))] [(.int (4 : Int32))]))
  refine own_step (fun _ k => XS.iconst X0.here hx rfl (hb hby own_d5_18) k) ?_
  show own_Fin p e below s _ _ _ (s₁.setTop (mkF m 19 #[.val (.int (4 : Int32))] [(.int (2 : Int32)), (.int (4 : Int32))]))
  refine own_step (fun _ k => XS.icmpYes X0.here hx rfl (pc0 := 19) (pc' := 26) rfl (hb hby own_d5_19) rfl (feq (by decide : ¬ ((4 : Int32) = (2 : Int32)))).2 (by decide) (by decide) k) ?_
  show own_Fin p e below s _ _ _ (s₁.setTop (mkF m 26 #[.val (.int (4 : Int32))] []))
  refine own_step (fun _ k => XS.iloadN X0.here hx rfl (hb hby own_d5_26) rfl k) ?_
  show own_Fin p e below s _ _ _ (s₁.setTop (mkF m 27 #[.val (.int (4 : Int32))] [(.int (4 : Int32))]))
  refine own_step (fun _ k => XS.iconst X0.here hx rfl (hb hby own_d5_27) k) ?_
  show own_Fin p e below s _ _ _ (s₁.setTop (mkF m 28 #[.val (.int (4 : Int32))] [(.int (3 : Int32)), (.int (4 : Int32))]))
  refine own_step (fun _ k => XS.icmpYes X0.here hx rfl (pc0 := 28) (pc' := 35) rfl (hb hby own_d5_28) rfl (feq (by decide : ¬ ((4 : Int32) = (3 : Int32)))).2 (by decide) (by decide) k) ?_
  show own_Fin p e below s _ _ _ (s₁.setTop (mkF m 35 #[.val (.int (4 : Int32))] []))
  refine own_step (fun _ k => XS.iloadN X0.here hx rfl (hb hby own_d5_35) rfl k) ?_
  show own_Fin p e below s _ _ _ (s₁.setTop (mkF m 36 #[.val (.int (4 : Int32))] [(.int (4 : Int32))]))
  refine own_step (fun _ k => XS.iconst X0.here hx rfl (hb hby own_d5_36) k) ?_
  show own_Fin p e below s _ _ _ (s₁.setTop (mkF m 37 #[.val (.int (4 : Int32))] [(.int (4 : Int32)), (.int (4 : Int32))]))
  refine own_step (fun _ k => XS.icmpNo X0.here hx rfl (hb hby own_d5_37) rfl (teq (by decide : (4 : Int32) = (4 : Int32))).2 k) ?_
  show own_Fin p e below s _ _ _ (s₁.setTop (mkF m 40 #[.val (.int (4 : Int32))] []))
  obtain ⟨T1, X1, e1, st1⟩ := getS2 X0 hx hZ hown (host := "") (Or.inl (own_w hw 25 rfl)) Via.refl e0 S_CE (g := (mkF m 40 #[.val (.int (4 : Int32))] [])) rfl (hb hby own_d5_40)
  refine own_step st1 ?_
  show own_Fin p e below s _ _ _ (T1.setTop (mkF m 43 #[.val (.int (4 : Int32))] [(.ref s_CE)]))
  exact own_ret X1 hlk (v := some (.ref s_CE)) (fun h => by rw [Bd.returns] at h; cases h) (by decide) (by decide) (by show own_Q5 Z s_CE h0 n0 _ T1.heap _; rw [e1]; exact ⟨rfl, N0, rfl⟩) (fun fs hr => retOut X1 hx Bd.returns rfl (Or.inr (Or.inr (Or.inr (Or.inr ⟨rfl, rfl, rfl⟩)))) (hb hby own_d5_43) hr)

theorem own_d6_0 : decode method_2_code 0 = .ok (.iload_n 0, 1) := by decide +kernel
theorem own_d6_1 : decode method_2_code 1 = .ok (.ifCond .ne 7, 3) := by decide +kernel
theorem own_d6_8 : decode method_2_code 8 = .ok (.iload_n 0, 1) := by decide +kernel
theorem own_d6_9 : decode method_2_code 9 = .ok (.iconst 1, 1) := by decide +kernel
theorem own_d6_10 : decode method_2_code 10 = .ok (.if_icmp .ne 7, 3) := by decide +kernel
theorem own_d6_17 : decode method_2_code 17 = .ok (.iload_n 0, 1) := by decide +kernel
theorem own_d6_18 : decode method_2_code 18 = .ok (.iconst 2, 1) := by decide +kernel
theorem own_d6_19 : decode method_2_code 19 = .ok (.if_icmp .ne 7, 3) := by decide +kernel
theorem own_d6_26 : decode method_2_code 26 = .ok (.iload_n 0, 1) := by decide +kernel
theorem own_d6_27 : decode method_2_code 27 = .ok (.iconst 3, 1) := by decide +kernel
theorem own_d6_28 : decode method_2_code 28 = .ok (.if_icmp .ne 7, 3) := by decide +kernel
theorem own_d6_35 : decode method_2_code 35 = .ok (.iload_n 0, 1) := by decide +kernel
theorem own_d6_36 : decode method_2_code 36 = .ok (.iconst 4, 1) := by decide +kernel
theorem own_d6_37 : decode method_2_code 37 = .ok (.if_icmp .ne 7, 3) := by decide +kernel
theorem own_d6_44 : decode method_2_code 44 = .ok (.getstatic 25, 3) := by decide +kernel
theorem own_d6_47 : decode method_2_code 47 = .ok (.areturn, 1) := by decide +kernel
theorem own_ef6 (m : MethodId)  : entryFrame m #[(.int (5 : Int32))] 1 = mkF m 0 #[.val (.int (5 : Int32))] [] := by first | (simp [entryFrame, mkF, argsToLocals, Value.category]; done) | rfl
def own_Q6 (Z : State) (s_CR : Addr) (h0 : Heap) (n0 : Nat) (v : Option Value) (h : Heap) (L : List Loc) : Prop := v = some (.ref s_CR) ∧ Fr n0 L ∧ h = h0
set_option maxRecDepth 65536 in
set_option maxHeartbeats 40000000 in
theorem own_rm6 (l : Launch) (Z : State) (a0 : Array Value) (hw : ∀ d ∈ tables_1, d.before a0 Z = true) (ws : List Jvm.Cond) (s_CR : Addr) (h0 : Heap) (n0 : Nat) (Z0 : n0 ≤ h0.size) (S_CR : Sta Z h0 "com/example/pipehat/pipehat/Acknowledgment$Code" "CR" "Lcom/example/pipehat/pipehat/Acknowledgment$Code;" (.ref s_CR)) :
    MetFree l (⟨"com/example/pipehat/pipehat/CodeIsEnhancedPinLaw", "pick", "(I)Lcom/example/pipehat/pipehat/Acknowledgment$Code;"⟩ : MethodName) (head1 (Jvm.Cond.code (⟨"com/example/pipehat/pipehat/CodeIsEnhancedPinLaw", "pick", "(I)Lcom/example/pipehat/pipehat/Acknowledgment$Code;"⟩ : MethodName) method_2_code 1 (some (.object "com/example/pipehat/pipehat/Acknowledgment$Code")) :: ws) ({ frames := 0, cells := 0, slots := 0, locals := 0 } : Room)) (fun a U => a = #[(.int (5 : Int32))] ∧ Z.Warmed39 U.vm ∧ U.heap = h0) (fun _ _ _ _ _ => True) (fun _ U o U' => ∃ v L, o = .returned v ∧ own_Q6 Z s_CR h0 n0 v U'.heap L ∧ FrameEnd U o U' L ({ frames := 0, cells := 0, slots := 0, locals := 0 } : Room).cells ({ frames := 0, cells := 0, slots := 0, locals := 0 } : Room).slots) := by
  refine MetFree.of_bodySF (plainFor_of_name own_pn0) hisR ?_
  intro p e s m args below meth c s₁ Bd hml0 hP hK
  obtain ⟨rfl, hZ, hh⟩ := hP
  have hx := Bd.exec
  have hby := Bd.bytes
  have hlk := Bd.notSynchronized
  have hml : c.maxLocals = 1 := hml0
  have hown : s.vm.findClass "com/example/pipehat/pipehat/CodeIsEnhancedPinLaw" = some m.cls := findClass_of_methodNamed Bd.named
  have hnm := (name_of_methodNamed Bd.named Bd.method).1
  have X0 : Stand p l e ({ frames := 0, cells := 0, slots := 0, locals := 0 } : Room) s m #[(.int (5 : Int32))] below meth c s₁ [] 0 0 := Stand.of_body Bd
  have e0 : s₁.heap = h0 := by rw [← hh, Bd.state]; rfl
  have N0 := Fr.nil n0
  have KR : Keep h0 h0 [] := Keep.refl _ _
  show own_Fin p e below s ({ frames := 0, cells := 0, slots := 0, locals := 0 } : Room).cells ({ frames := 0, cells := 0, slots := 0, locals := 0 } : Room).slots (own_Q6 Z s_CR h0 n0) (s₁.setTop (entryFrame m #[(.int (5 : Int32))] 1))
  refine own_cast (own_ef6 m ) ?_
  refine own_step (fun _ k => XS.iloadN X0.here hx rfl (hb hby own_d6_0) rfl k) ?_
  show own_Fin p e below s _ _ _ (s₁.setTop (mkF m 1 #[.val (.int (5 : Int32))] [(.int (5 : Int32))]))
  refine own_step (fun _ k => XS.ifYes X0.here hx rfl (pc0 := 1) (pc' := 8) rfl (hb hby own_d6_1) rfl ((if0 _ _).trans (feq (by decide : ¬ ((5 : Int32) = (0 : Int32)))).2) (by decide) (by decide) k) ?_
  show own_Fin p e below s _ _ _ (s₁.setTop (mkF m 8 #[.val (.int (5 : Int32))] []))
  refine own_step (fun _ k => XS.iloadN X0.here hx rfl (hb hby own_d6_8) rfl k) ?_
  show own_Fin p e below s _ _ _ (s₁.setTop (mkF m 9 #[.val (.int (5 : Int32))] [(.int (5 : Int32))]))
  refine own_step (fun _ k => XS.iconst X0.here hx rfl (hb hby own_d6_9) k) ?_
  show own_Fin p e below s _ _ _ (s₁.setTop (mkF m 10 #[.val (.int (5 : Int32))] [(.int (1 : Int32)), (.int (5 : Int32))]))
  refine own_step (fun _ k => XS.icmpYes X0.here hx rfl (pc0 := 10) (pc' := 17) rfl (hb hby own_d6_10) rfl (feq (by decide : ¬ ((5 : Int32) = (1 : Int32)))).2 (by decide) (by decide) k) ?_
  show own_Fin p e below s _ _ _ (s₁.setTop (mkF m 17 #[.val (.int (5 : Int32))] []))
  refine own_step (fun _ k => XS.iloadN X0.here hx rfl (hb hby own_d6_17) rfl k) ?_
  show own_Fin p e below s _ _ _ (s₁.setTop (mkF m 18 #[.val (.int (5 : Int32))] [(.int (5 : Int32))]))
  refine own_step (fun _ k => XS.iconst X0.here hx rfl (hb hby own_d6_18) k) ?_
  show own_Fin p e below s _ _ _ (s₁.setTop (mkF m 19 #[.val (.int (5 : Int32))] [(.int (2 : Int32)), (.int (5 : Int32))]))
  refine own_step (fun _ k => XS.icmpYes X0.here hx rfl (pc0 := 19) (pc' := 26) rfl (hb hby own_d6_19) rfl (feq (by decide : ¬ ((5 : Int32) = (2 : Int32)))).2 (by decide) (by decide) k) ?_
  show own_Fin p e below s _ _ _ (s₁.setTop (mkF m 26 #[.val (.int (5 : Int32))] []))
  refine own_step (fun _ k => XS.iloadN X0.here hx rfl (hb hby own_d6_26) rfl k) ?_
  show own_Fin p e below s _ _ _ (s₁.setTop (mkF m 27 #[.val (.int (5 : Int32))] [(.int (5 : Int32))]))
  refine own_step (fun _ k => XS.iconst X0.here hx rfl (hb hby own_d6_27) k) ?_
  show own_Fin p e below s _ _ _ (s₁.setTop (mkF m 28 #[.val (.int (5 : Int32))] [(.int (3 : Int32)), (.int (5 : Int32))]))
  refine own_step (fun _ k => XS.icmpYes X0.here hx rfl (pc0 := 28) (pc' := 35) rfl (hb hby own_d6_28) rfl (feq (by decide : ¬ ((5 : Int32) = (3 : Int32)))).2 (by decide) (by decide) k) ?_
  show own_Fin p e below s _ _ _ (s₁.setTop (mkF m 35 #[.val (.int (5 : Int32))] []))
  refine own_step (fun _ k => XS.iloadN X0.here hx rfl (hb hby own_d6_35) rfl k) ?_
  show own_Fin p e below s _ _ _ (s₁.setTop (mkF m 36 #[.val (.int (5 : Int32))] [(.int (5 : Int32))]))
  refine own_step (fun _ k => XS.iconst X0.here hx rfl (hb hby own_d6_36) k) ?_
  show own_Fin p e below s _ _ _ (s₁.setTop (mkF m 37 #[.val (.int (5 : Int32))] [(.int (4 : Int32)), (.int (5 : Int32))]))
  refine own_step (fun _ k => XS.icmpYes X0.here hx rfl (pc0 := 37) (pc' := 44) rfl (hb hby own_d6_37) rfl (feq (by decide : ¬ ((5 : Int32) = (4 : Int32)))).2 (by decide) (by decide) k) ?_
  show own_Fin p e below s _ _ _ (s₁.setTop (mkF m 44 #[.val (.int (5 : Int32))] []))
  obtain ⟨T1, X1, e1, st1⟩ := getS2 X0 hx hZ hown (host := "") (Or.inl (own_w hw 24 rfl)) Via.refl e0 S_CR (g := (mkF m 44 #[.val (.int (5 : Int32))] [])) rfl (hb hby own_d6_44)
  refine own_step st1 ?_
  show own_Fin p e below s _ _ _ (T1.setTop (mkF m 47 #[.val (.int (5 : Int32))] [(.ref s_CR)]))
  exact own_ret X1 hlk (v := some (.ref s_CR)) (fun h => by rw [Bd.returns] at h; cases h) (by decide) (by decide) (by show own_Q6 Z s_CR h0 n0 _ T1.heap _; rw [e1]; exact ⟨rfl, N0, rfl⟩) (fun fs hr => retOut X1 hx Bd.returns rfl (Or.inr (Or.inr (Or.inr (Or.inr ⟨rfl, rfl, rfl⟩)))) (hb hby own_d6_47) hr)

theorem own_d7_0 : decode prog_2_method_7_code 0 = .ok (.aload_n 0, 1) := by decide +kernel
theorem own_d7_1 : decode prog_2_method_7_code 1 = .ok (.getstatic 13, 3) := by decide +kernel
theorem own_d7_4 : decode prog_2_method_7_code 4 = .ok (.if_acmp .eq 17, 3) := by decide +kernel
theorem own_d7_7 : decode prog_2_method_7_code 7 = .ok (.aload_n 0, 1) := by decide +kernel
theorem own_d7_8 : decode prog_2_method_7_code 8 = .ok (.getstatic 16, 3) := by decide +kernel
theorem own_d7_11 : decode prog_2_method_7_code 11 = .ok (.if_acmp .eq 10, 3) := by decide +kernel
theorem own_d7_14 : decode prog_2_method_7_code 14 = .ok (.aload_n 0, 1) := by decide +kernel
theorem own_d7_15 : decode prog_2_method_7_code 15 = .ok (.getstatic 19, 3) := by decide +kernel
theorem own_d7_18 : decode prog_2_method_7_code 18 = .ok (.if_acmp .ne 7, 3) := by decide +kernel
theorem own_d7_25 : decode prog_2_method_7_code 25 = .ok (.iconst 0, 1) := by decide +kernel
theorem own_d7_26 : decode prog_2_method_7_code 26 = .ok (.ireturn, 1) := by decide +kernel
theorem own_pn1 : plainName "com/example/pipehat/pipehat/Acknowledgment$Code" = true := by first | (simp [plainName, overriddenIn]; done) | decide +kernel
theorem own_ef7 (m : MethodId) (s_AA : Addr) : entryFrame m #[(.ref s_AA)] 1 = mkF m 0 #[.val (.ref s_AA)] [] := by first | (simp [entryFrame, mkF, argsToLocals, Value.category]; done) | rfl
def own_Q7 (Z : State) (s_AA : Addr) (s_CA : Addr) (s_CE : Addr) (s_CR : Addr) (h0 : Heap) (n0 : Nat) (v : Option Value) (h : Heap) (L : List Loc) : Prop := v = some (.int (0 : Int32)) ∧ Fr n0 L ∧ h = h0
set_option maxRecDepth 65536 in
set_option maxHeartbeats 40000000 in
theorem own_rm7 (l : Launch) (Z : State) (a0 : Array Value) (hw : ∀ d ∈ tables_1, d.before a0 Z = true) (ws : List Jvm.Cond) (s_AA : Addr) (s_CA : Addr) (s_CE : Addr) (s_CR : Addr) (h0 : Heap) (n0 : Nat) (Z0 : n0 ≤ h0.size) (S_CA : Sta Z h0 "com/example/pipehat/pipehat/Acknowledgment$Code" "CA" "Lcom/example/pipehat/pipehat/Acknowledgment$Code;" (.ref s_CA)) (ne_s_AA_s_CA : s_AA ≠ s_CA) (S_CE : Sta Z h0 "com/example/pipehat/pipehat/Acknowledgment$Code" "CE" "Lcom/example/pipehat/pipehat/Acknowledgment$Code;" (.ref s_CE)) (ne_s_AA_s_CE : s_AA ≠ s_CE) (S_CR : Sta Z h0 "com/example/pipehat/pipehat/Acknowledgment$Code" "CR" "Lcom/example/pipehat/pipehat/Acknowledgment$Code;" (.ref s_CR)) (ne_s_AA_s_CR : s_AA ≠ s_CR) :
    MetFree l (⟨"com/example/pipehat/pipehat/Acknowledgment$Code", "isEnhanced", "()Z"⟩ : MethodName) (head1 (Jvm.Cond.code (⟨"com/example/pipehat/pipehat/Acknowledgment$Code", "isEnhanced", "()Z"⟩ : MethodName) prog_2_method_7_code 1 (some .boolean) :: ws) ({ frames := 0, cells := 0, slots := 0, locals := 0 } : Room)) (fun a U => a = #[(.ref s_AA)] ∧ Z.Warmed39 U.vm ∧ U.heap = h0) (fun _ _ _ _ _ => True) (fun _ U o U' => ∃ v L, o = .returned v ∧ own_Q7 Z s_AA s_CA s_CE s_CR h0 n0 v U'.heap L ∧ FrameEnd U o U' L ({ frames := 0, cells := 0, slots := 0, locals := 0 } : Room).cells ({ frames := 0, cells := 0, slots := 0, locals := 0 } : Room).slots) := by
  refine MetFree.of_bodySF (plainFor_of_name own_pn1) hisR ?_
  intro p e s m args below meth c s₁ Bd hml0 hP hK
  obtain ⟨rfl, hZ, hh⟩ := hP
  have hx := Bd.exec
  have hby := Bd.bytes
  have hlk := Bd.notSynchronized
  have hml : c.maxLocals = 1 := hml0
  have hown : s.vm.findClass "com/example/pipehat/pipehat/Acknowledgment$Code" = some m.cls := findClass_of_methodNamed Bd.named
  have hnm := (name_of_methodNamed Bd.named Bd.method).1
  have X0 : Stand p l e ({ frames := 0, cells := 0, slots := 0, locals := 0 } : Room) s m #[(.ref s_AA)] below meth c s₁ [] 0 0 := Stand.of_body Bd
  have e0 : s₁.heap = h0 := by rw [← hh, Bd.state]; rfl
  have N0 := Fr.nil n0
  have KR : Keep h0 h0 [] := Keep.refl _ _
  show own_Fin p e below s ({ frames := 0, cells := 0, slots := 0, locals := 0 } : Room).cells ({ frames := 0, cells := 0, slots := 0, locals := 0 } : Room).slots (own_Q7 Z s_AA s_CA s_CE s_CR h0 n0) (s₁.setTop (entryFrame m #[(.ref s_AA)] 1))
  refine own_cast (own_ef7 m s_AA) ?_
  refine own_step (fun _ k => XS.aloadN X0.here hx rfl (hb hby own_d7_0) rfl rfl k) ?_
  show own_Fin p e below s _ _ _ (s₁.setTop (mkF m 1 #[.val (.ref s_AA)] [(.ref s_AA)]))
  obtain ⟨T1, X1, e1, st1⟩ := getS2 X0 hx hZ hown (host := "") (Or.inl (own_w hw 13 rfl)) Via.refl e0 S_CA (g := (mkF m 1 #[.val (.ref s_AA)] [(.ref s_AA)])) rfl (hb hby own_d7_1)
  refine own_step st1 ?_
  show own_Fin p e below s _ _ _ (T1.setTop (mkF m 4 #[.val (.ref s_AA)] [(.ref s_CA), (.ref s_AA)]))
  refine own_step (fun _ k => Jvm.RoadKit.acmp (g := (mkF m 4 #[.val (.ref s_AA)] [(.ref s_CA), (.ref s_AA)])) X1 hx rfl rfl rfl (pc0 := 4) (pc' := 7) (same := false) rfl (hb hby own_d7_4) rfl (decide_eq_false fun q => ne_s_AA_s_CA (Value.ref.inj q)) (by decide) (by decide) k) ?_
  show own_Fin p e below s _ _ _ (T1.setTop (mkF m 7 #[.val (.ref s_AA)] []))
  refine own_step (fun _ k => XS.aloadN X1.here hx rfl (hb hby own_d7_7) rfl rfl k) ?_
  show own_Fin p e below s _ _ _ (T1.setTop (mkF m 8 #[.val (.ref s_AA)] [(.ref s_AA)]))
  obtain ⟨T2, X2, e2, st2⟩ := getS2 X1 hx hZ hown (host := "") (Or.inl (own_w hw 15 rfl)) Via.refl e1 S_CE (g := (mkF m 8 #[.val (.ref s_AA)] [(.ref s_AA)])) rfl (hb hby own_d7_8)
  refine own_step st2 ?_
  show own_Fin p e below s _ _ _ (T2.setTop (mkF m 11 #[.val (.ref s_AA)] [(.ref s_CE), (.ref s_AA)]))
  refine own_step (fun _ k => Jvm.RoadKit.acmp (g := (mkF m 11 #[.val (.ref s_AA)] [(.ref s_CE), (.ref s_AA)])) X2 hx rfl rfl rfl (pc0 := 11) (pc' := 14) (same := false) rfl (hb hby own_d7_11) rfl (decide_eq_false fun q => ne_s_AA_s_CE (Value.ref.inj q)) (by decide) (by decide) k) ?_
  show own_Fin p e below s _ _ _ (T2.setTop (mkF m 14 #[.val (.ref s_AA)] []))
  refine own_step (fun _ k => XS.aloadN X2.here hx rfl (hb hby own_d7_14) rfl rfl k) ?_
  show own_Fin p e below s _ _ _ (T2.setTop (mkF m 15 #[.val (.ref s_AA)] [(.ref s_AA)]))
  obtain ⟨T3, X3, e3, st3⟩ := getS2 X2 hx hZ hown (host := "") (Or.inl (own_w hw 17 rfl)) Via.refl e2 S_CR (g := (mkF m 15 #[.val (.ref s_AA)] [(.ref s_AA)])) rfl (hb hby own_d7_15)
  refine own_step st3 ?_
  show own_Fin p e below s _ _ _ (T3.setTop (mkF m 18 #[.val (.ref s_AA)] [(.ref s_CR), (.ref s_AA)]))
  refine own_step (fun _ k => Jvm.RoadKit.acmp (g := (mkF m 18 #[.val (.ref s_AA)] [(.ref s_CR), (.ref s_AA)])) X3 hx rfl rfl rfl (pc0 := 18) (pc' := 25) (same := false) rfl (hb hby own_d7_18) rfl (decide_eq_false fun q => ne_s_AA_s_CR (Value.ref.inj q)) (by decide) (by decide) k) ?_
  show own_Fin p e below s _ _ _ (T3.setTop (mkF m 25 #[.val (.ref s_AA)] []))
  refine own_step (fun _ k => XS.iconst X3.here hx rfl (hb hby own_d7_25) k) ?_
  show own_Fin p e below s _ _ _ (T3.setTop (mkF m 26 #[.val (.ref s_AA)] [(.int (0 : Int32))]))
  exact own_ret X3 hlk (v := some (.int (0 : Int32))) (fun h => by rw [Bd.returns] at h; cases h) (by decide) (by decide) (by show own_Q7 Z s_AA s_CA s_CE s_CR h0 n0 _ T3.heap _; rw [e3]; exact ⟨rfl, N0, rfl⟩) (fun fs hr => retN X3 hx (t := .boolean) Bd.returns (by simp) (hb hby own_d7_26) hr)

theorem own_d8_0 : decode prog_2_method_7_code 0 = .ok (.aload_n 0, 1) := by decide +kernel
theorem own_d8_1 : decode prog_2_method_7_code 1 = .ok (.getstatic 13, 3) := by decide +kernel
theorem own_d8_4 : decode prog_2_method_7_code 4 = .ok (.if_acmp .eq 17, 3) := by decide +kernel
theorem own_d8_7 : decode prog_2_method_7_code 7 = .ok (.aload_n 0, 1) := by decide +kernel
theorem own_d8_8 : decode prog_2_method_7_code 8 = .ok (.getstatic 16, 3) := by decide +kernel
theorem own_d8_11 : decode prog_2_method_7_code 11 = .ok (.if_acmp .eq 10, 3) := by decide +kernel
theorem own_d8_14 : decode prog_2_method_7_code 14 = .ok (.aload_n 0, 1) := by decide +kernel
theorem own_d8_15 : decode prog_2_method_7_code 15 = .ok (.getstatic 19, 3) := by decide +kernel
theorem own_d8_18 : decode prog_2_method_7_code 18 = .ok (.if_acmp .ne 7, 3) := by decide +kernel
theorem own_d8_25 : decode prog_2_method_7_code 25 = .ok (.iconst 0, 1) := by decide +kernel
theorem own_d8_26 : decode prog_2_method_7_code 26 = .ok (.ireturn, 1) := by decide +kernel
theorem own_ef8 (m : MethodId) (s_AE : Addr) : entryFrame m #[(.ref s_AE)] 1 = mkF m 0 #[.val (.ref s_AE)] [] := by first | (simp [entryFrame, mkF, argsToLocals, Value.category]; done) | rfl
def own_Q8 (Z : State) (s_AE : Addr) (s_CA : Addr) (s_CE : Addr) (s_CR : Addr) (h0 : Heap) (n0 : Nat) (v : Option Value) (h : Heap) (L : List Loc) : Prop := v = some (.int (0 : Int32)) ∧ Fr n0 L ∧ h = h0
set_option maxRecDepth 65536 in
set_option maxHeartbeats 40000000 in
theorem own_rm8 (l : Launch) (Z : State) (a0 : Array Value) (hw : ∀ d ∈ tables_1, d.before a0 Z = true) (ws : List Jvm.Cond) (s_AE : Addr) (s_CA : Addr) (s_CE : Addr) (s_CR : Addr) (h0 : Heap) (n0 : Nat) (Z0 : n0 ≤ h0.size) (S_CA : Sta Z h0 "com/example/pipehat/pipehat/Acknowledgment$Code" "CA" "Lcom/example/pipehat/pipehat/Acknowledgment$Code;" (.ref s_CA)) (ne_s_AE_s_CA : s_AE ≠ s_CA) (S_CE : Sta Z h0 "com/example/pipehat/pipehat/Acknowledgment$Code" "CE" "Lcom/example/pipehat/pipehat/Acknowledgment$Code;" (.ref s_CE)) (ne_s_AE_s_CE : s_AE ≠ s_CE) (S_CR : Sta Z h0 "com/example/pipehat/pipehat/Acknowledgment$Code" "CR" "Lcom/example/pipehat/pipehat/Acknowledgment$Code;" (.ref s_CR)) (ne_s_AE_s_CR : s_AE ≠ s_CR) :
    MetFree l (⟨"com/example/pipehat/pipehat/Acknowledgment$Code", "isEnhanced", "()Z"⟩ : MethodName) (head1 (Jvm.Cond.code (⟨"com/example/pipehat/pipehat/Acknowledgment$Code", "isEnhanced", "()Z"⟩ : MethodName) prog_2_method_7_code 1 (some .boolean) :: ws) ({ frames := 0, cells := 0, slots := 0, locals := 0 } : Room)) (fun a U => a = #[(.ref s_AE)] ∧ Z.Warmed39 U.vm ∧ U.heap = h0) (fun _ _ _ _ _ => True) (fun _ U o U' => ∃ v L, o = .returned v ∧ own_Q8 Z s_AE s_CA s_CE s_CR h0 n0 v U'.heap L ∧ FrameEnd U o U' L ({ frames := 0, cells := 0, slots := 0, locals := 0 } : Room).cells ({ frames := 0, cells := 0, slots := 0, locals := 0 } : Room).slots) := by
  refine MetFree.of_bodySF (plainFor_of_name own_pn1) hisR ?_
  intro p e s m args below meth c s₁ Bd hml0 hP hK
  obtain ⟨rfl, hZ, hh⟩ := hP
  have hx := Bd.exec
  have hby := Bd.bytes
  have hlk := Bd.notSynchronized
  have hml : c.maxLocals = 1 := hml0
  have hown : s.vm.findClass "com/example/pipehat/pipehat/Acknowledgment$Code" = some m.cls := findClass_of_methodNamed Bd.named
  have hnm := (name_of_methodNamed Bd.named Bd.method).1
  have X0 : Stand p l e ({ frames := 0, cells := 0, slots := 0, locals := 0 } : Room) s m #[(.ref s_AE)] below meth c s₁ [] 0 0 := Stand.of_body Bd
  have e0 : s₁.heap = h0 := by rw [← hh, Bd.state]; rfl
  have N0 := Fr.nil n0
  have KR : Keep h0 h0 [] := Keep.refl _ _
  show own_Fin p e below s ({ frames := 0, cells := 0, slots := 0, locals := 0 } : Room).cells ({ frames := 0, cells := 0, slots := 0, locals := 0 } : Room).slots (own_Q8 Z s_AE s_CA s_CE s_CR h0 n0) (s₁.setTop (entryFrame m #[(.ref s_AE)] 1))
  refine own_cast (own_ef8 m s_AE) ?_
  refine own_step (fun _ k => XS.aloadN X0.here hx rfl (hb hby own_d8_0) rfl rfl k) ?_
  show own_Fin p e below s _ _ _ (s₁.setTop (mkF m 1 #[.val (.ref s_AE)] [(.ref s_AE)]))
  obtain ⟨T1, X1, e1, st1⟩ := getS2 X0 hx hZ hown (host := "") (Or.inl (own_w hw 13 rfl)) Via.refl e0 S_CA (g := (mkF m 1 #[.val (.ref s_AE)] [(.ref s_AE)])) rfl (hb hby own_d8_1)
  refine own_step st1 ?_
  show own_Fin p e below s _ _ _ (T1.setTop (mkF m 4 #[.val (.ref s_AE)] [(.ref s_CA), (.ref s_AE)]))
  refine own_step (fun _ k => Jvm.RoadKit.acmp (g := (mkF m 4 #[.val (.ref s_AE)] [(.ref s_CA), (.ref s_AE)])) X1 hx rfl rfl rfl (pc0 := 4) (pc' := 7) (same := false) rfl (hb hby own_d8_4) rfl (decide_eq_false fun q => ne_s_AE_s_CA (Value.ref.inj q)) (by decide) (by decide) k) ?_
  show own_Fin p e below s _ _ _ (T1.setTop (mkF m 7 #[.val (.ref s_AE)] []))
  refine own_step (fun _ k => XS.aloadN X1.here hx rfl (hb hby own_d8_7) rfl rfl k) ?_
  show own_Fin p e below s _ _ _ (T1.setTop (mkF m 8 #[.val (.ref s_AE)] [(.ref s_AE)]))
  obtain ⟨T2, X2, e2, st2⟩ := getS2 X1 hx hZ hown (host := "") (Or.inl (own_w hw 15 rfl)) Via.refl e1 S_CE (g := (mkF m 8 #[.val (.ref s_AE)] [(.ref s_AE)])) rfl (hb hby own_d8_8)
  refine own_step st2 ?_
  show own_Fin p e below s _ _ _ (T2.setTop (mkF m 11 #[.val (.ref s_AE)] [(.ref s_CE), (.ref s_AE)]))
  refine own_step (fun _ k => Jvm.RoadKit.acmp (g := (mkF m 11 #[.val (.ref s_AE)] [(.ref s_CE), (.ref s_AE)])) X2 hx rfl rfl rfl (pc0 := 11) (pc' := 14) (same := false) rfl (hb hby own_d8_11) rfl (decide_eq_false fun q => ne_s_AE_s_CE (Value.ref.inj q)) (by decide) (by decide) k) ?_
  show own_Fin p e below s _ _ _ (T2.setTop (mkF m 14 #[.val (.ref s_AE)] []))
  refine own_step (fun _ k => XS.aloadN X2.here hx rfl (hb hby own_d8_14) rfl rfl k) ?_
  show own_Fin p e below s _ _ _ (T2.setTop (mkF m 15 #[.val (.ref s_AE)] [(.ref s_AE)]))
  obtain ⟨T3, X3, e3, st3⟩ := getS2 X2 hx hZ hown (host := "") (Or.inl (own_w hw 17 rfl)) Via.refl e2 S_CR (g := (mkF m 15 #[.val (.ref s_AE)] [(.ref s_AE)])) rfl (hb hby own_d8_15)
  refine own_step st3 ?_
  show own_Fin p e below s _ _ _ (T3.setTop (mkF m 18 #[.val (.ref s_AE)] [(.ref s_CR), (.ref s_AE)]))
  refine own_step (fun _ k => Jvm.RoadKit.acmp (g := (mkF m 18 #[.val (.ref s_AE)] [(.ref s_CR), (.ref s_AE)])) X3 hx rfl rfl rfl (pc0 := 18) (pc' := 25) (same := false) rfl (hb hby own_d8_18) rfl (decide_eq_false fun q => ne_s_AE_s_CR (Value.ref.inj q)) (by decide) (by decide) k) ?_
  show own_Fin p e below s _ _ _ (T3.setTop (mkF m 25 #[.val (.ref s_AE)] []))
  refine own_step (fun _ k => XS.iconst X3.here hx rfl (hb hby own_d8_25) k) ?_
  show own_Fin p e below s _ _ _ (T3.setTop (mkF m 26 #[.val (.ref s_AE)] [(.int (0 : Int32))]))
  exact own_ret X3 hlk (v := some (.int (0 : Int32))) (fun h => by rw [Bd.returns] at h; cases h) (by decide) (by decide) (by show own_Q8 Z s_AE s_CA s_CE s_CR h0 n0 _ T3.heap _; rw [e3]; exact ⟨rfl, N0, rfl⟩) (fun fs hr => retN X3 hx (t := .boolean) Bd.returns (by simp) (hb hby own_d8_26) hr)

theorem own_d9_0 : decode prog_2_method_7_code 0 = .ok (.aload_n 0, 1) := by decide +kernel
theorem own_d9_1 : decode prog_2_method_7_code 1 = .ok (.getstatic 13, 3) := by decide +kernel
theorem own_d9_4 : decode prog_2_method_7_code 4 = .ok (.if_acmp .eq 17, 3) := by decide +kernel
theorem own_d9_7 : decode prog_2_method_7_code 7 = .ok (.aload_n 0, 1) := by decide +kernel
theorem own_d9_8 : decode prog_2_method_7_code 8 = .ok (.getstatic 16, 3) := by decide +kernel
theorem own_d9_11 : decode prog_2_method_7_code 11 = .ok (.if_acmp .eq 10, 3) := by decide +kernel
theorem own_d9_14 : decode prog_2_method_7_code 14 = .ok (.aload_n 0, 1) := by decide +kernel
theorem own_d9_15 : decode prog_2_method_7_code 15 = .ok (.getstatic 19, 3) := by decide +kernel
theorem own_d9_18 : decode prog_2_method_7_code 18 = .ok (.if_acmp .ne 7, 3) := by decide +kernel
theorem own_d9_25 : decode prog_2_method_7_code 25 = .ok (.iconst 0, 1) := by decide +kernel
theorem own_d9_26 : decode prog_2_method_7_code 26 = .ok (.ireturn, 1) := by decide +kernel
theorem own_ef9 (m : MethodId) (s_AR : Addr) : entryFrame m #[(.ref s_AR)] 1 = mkF m 0 #[.val (.ref s_AR)] [] := by first | (simp [entryFrame, mkF, argsToLocals, Value.category]; done) | rfl
def own_Q9 (Z : State) (s_AR : Addr) (s_CA : Addr) (s_CE : Addr) (s_CR : Addr) (h0 : Heap) (n0 : Nat) (v : Option Value) (h : Heap) (L : List Loc) : Prop := v = some (.int (0 : Int32)) ∧ Fr n0 L ∧ h = h0
set_option maxRecDepth 65536 in
set_option maxHeartbeats 40000000 in
theorem own_rm9 (l : Launch) (Z : State) (a0 : Array Value) (hw : ∀ d ∈ tables_1, d.before a0 Z = true) (ws : List Jvm.Cond) (s_AR : Addr) (s_CA : Addr) (s_CE : Addr) (s_CR : Addr) (h0 : Heap) (n0 : Nat) (Z0 : n0 ≤ h0.size) (S_CA : Sta Z h0 "com/example/pipehat/pipehat/Acknowledgment$Code" "CA" "Lcom/example/pipehat/pipehat/Acknowledgment$Code;" (.ref s_CA)) (ne_s_AR_s_CA : s_AR ≠ s_CA) (S_CE : Sta Z h0 "com/example/pipehat/pipehat/Acknowledgment$Code" "CE" "Lcom/example/pipehat/pipehat/Acknowledgment$Code;" (.ref s_CE)) (ne_s_AR_s_CE : s_AR ≠ s_CE) (S_CR : Sta Z h0 "com/example/pipehat/pipehat/Acknowledgment$Code" "CR" "Lcom/example/pipehat/pipehat/Acknowledgment$Code;" (.ref s_CR)) (ne_s_AR_s_CR : s_AR ≠ s_CR) :
    MetFree l (⟨"com/example/pipehat/pipehat/Acknowledgment$Code", "isEnhanced", "()Z"⟩ : MethodName) (head1 (Jvm.Cond.code (⟨"com/example/pipehat/pipehat/Acknowledgment$Code", "isEnhanced", "()Z"⟩ : MethodName) prog_2_method_7_code 1 (some .boolean) :: ws) ({ frames := 0, cells := 0, slots := 0, locals := 0 } : Room)) (fun a U => a = #[(.ref s_AR)] ∧ Z.Warmed39 U.vm ∧ U.heap = h0) (fun _ _ _ _ _ => True) (fun _ U o U' => ∃ v L, o = .returned v ∧ own_Q9 Z s_AR s_CA s_CE s_CR h0 n0 v U'.heap L ∧ FrameEnd U o U' L ({ frames := 0, cells := 0, slots := 0, locals := 0 } : Room).cells ({ frames := 0, cells := 0, slots := 0, locals := 0 } : Room).slots) := by
  refine MetFree.of_bodySF (plainFor_of_name own_pn1) hisR ?_
  intro p e s m args below meth c s₁ Bd hml0 hP hK
  obtain ⟨rfl, hZ, hh⟩ := hP
  have hx := Bd.exec
  have hby := Bd.bytes
  have hlk := Bd.notSynchronized
  have hml : c.maxLocals = 1 := hml0
  have hown : s.vm.findClass "com/example/pipehat/pipehat/Acknowledgment$Code" = some m.cls := findClass_of_methodNamed Bd.named
  have hnm := (name_of_methodNamed Bd.named Bd.method).1
  have X0 : Stand p l e ({ frames := 0, cells := 0, slots := 0, locals := 0 } : Room) s m #[(.ref s_AR)] below meth c s₁ [] 0 0 := Stand.of_body Bd
  have e0 : s₁.heap = h0 := by rw [← hh, Bd.state]; rfl
  have N0 := Fr.nil n0
  have KR : Keep h0 h0 [] := Keep.refl _ _
  show own_Fin p e below s ({ frames := 0, cells := 0, slots := 0, locals := 0 } : Room).cells ({ frames := 0, cells := 0, slots := 0, locals := 0 } : Room).slots (own_Q9 Z s_AR s_CA s_CE s_CR h0 n0) (s₁.setTop (entryFrame m #[(.ref s_AR)] 1))
  refine own_cast (own_ef9 m s_AR) ?_
  refine own_step (fun _ k => XS.aloadN X0.here hx rfl (hb hby own_d9_0) rfl rfl k) ?_
  show own_Fin p e below s _ _ _ (s₁.setTop (mkF m 1 #[.val (.ref s_AR)] [(.ref s_AR)]))
  obtain ⟨T1, X1, e1, st1⟩ := getS2 X0 hx hZ hown (host := "") (Or.inl (own_w hw 13 rfl)) Via.refl e0 S_CA (g := (mkF m 1 #[.val (.ref s_AR)] [(.ref s_AR)])) rfl (hb hby own_d9_1)
  refine own_step st1 ?_
  show own_Fin p e below s _ _ _ (T1.setTop (mkF m 4 #[.val (.ref s_AR)] [(.ref s_CA), (.ref s_AR)]))
  refine own_step (fun _ k => Jvm.RoadKit.acmp (g := (mkF m 4 #[.val (.ref s_AR)] [(.ref s_CA), (.ref s_AR)])) X1 hx rfl rfl rfl (pc0 := 4) (pc' := 7) (same := false) rfl (hb hby own_d9_4) rfl (decide_eq_false fun q => ne_s_AR_s_CA (Value.ref.inj q)) (by decide) (by decide) k) ?_
  show own_Fin p e below s _ _ _ (T1.setTop (mkF m 7 #[.val (.ref s_AR)] []))
  refine own_step (fun _ k => XS.aloadN X1.here hx rfl (hb hby own_d9_7) rfl rfl k) ?_
  show own_Fin p e below s _ _ _ (T1.setTop (mkF m 8 #[.val (.ref s_AR)] [(.ref s_AR)]))
  obtain ⟨T2, X2, e2, st2⟩ := getS2 X1 hx hZ hown (host := "") (Or.inl (own_w hw 15 rfl)) Via.refl e1 S_CE (g := (mkF m 8 #[.val (.ref s_AR)] [(.ref s_AR)])) rfl (hb hby own_d9_8)
  refine own_step st2 ?_
  show own_Fin p e below s _ _ _ (T2.setTop (mkF m 11 #[.val (.ref s_AR)] [(.ref s_CE), (.ref s_AR)]))
  refine own_step (fun _ k => Jvm.RoadKit.acmp (g := (mkF m 11 #[.val (.ref s_AR)] [(.ref s_CE), (.ref s_AR)])) X2 hx rfl rfl rfl (pc0 := 11) (pc' := 14) (same := false) rfl (hb hby own_d9_11) rfl (decide_eq_false fun q => ne_s_AR_s_CE (Value.ref.inj q)) (by decide) (by decide) k) ?_
  show own_Fin p e below s _ _ _ (T2.setTop (mkF m 14 #[.val (.ref s_AR)] []))
  refine own_step (fun _ k => XS.aloadN X2.here hx rfl (hb hby own_d9_14) rfl rfl k) ?_
  show own_Fin p e below s _ _ _ (T2.setTop (mkF m 15 #[.val (.ref s_AR)] [(.ref s_AR)]))
  obtain ⟨T3, X3, e3, st3⟩ := getS2 X2 hx hZ hown (host := "") (Or.inl (own_w hw 17 rfl)) Via.refl e2 S_CR (g := (mkF m 15 #[.val (.ref s_AR)] [(.ref s_AR)])) rfl (hb hby own_d9_15)
  refine own_step st3 ?_
  show own_Fin p e below s _ _ _ (T3.setTop (mkF m 18 #[.val (.ref s_AR)] [(.ref s_CR), (.ref s_AR)]))
  refine own_step (fun _ k => Jvm.RoadKit.acmp (g := (mkF m 18 #[.val (.ref s_AR)] [(.ref s_CR), (.ref s_AR)])) X3 hx rfl rfl rfl (pc0 := 18) (pc' := 25) (same := false) rfl (hb hby own_d9_18) rfl (decide_eq_false fun q => ne_s_AR_s_CR (Value.ref.inj q)) (by decide) (by decide) k) ?_
  show own_Fin p e below s _ _ _ (T3.setTop (mkF m 25 #[.val (.ref s_AR)] []))
  refine own_step (fun _ k => XS.iconst X3.here hx rfl (hb hby own_d9_25) k) ?_
  show own_Fin p e below s _ _ _ (T3.setTop (mkF m 26 #[.val (.ref s_AR)] [(.int (0 : Int32))]))
  exact own_ret X3 hlk (v := some (.int (0 : Int32))) (fun h => by rw [Bd.returns] at h; cases h) (by decide) (by decide) (by show own_Q9 Z s_AR s_CA s_CE s_CR h0 n0 _ T3.heap _; rw [e3]; exact ⟨rfl, N0, rfl⟩) (fun fs hr => retN X3 hx (t := .boolean) Bd.returns (by simp) (hb hby own_d9_26) hr)

theorem own_d10_0 : decode prog_2_method_7_code 0 = .ok (.aload_n 0, 1) := by decide +kernel
theorem own_d10_1 : decode prog_2_method_7_code 1 = .ok (.getstatic 13, 3) := by decide +kernel
theorem own_d10_4 : decode prog_2_method_7_code 4 = .ok (.if_acmp .eq 17, 3) := by decide +kernel
theorem own_d10_21 : decode prog_2_method_7_code 21 = .ok (.iconst 1, 1) := by decide +kernel
theorem own_d10_22 : decode prog_2_method_7_code 22 = .ok (.goto 4, 3) := by decide +kernel
theorem own_d10_26 : decode prog_2_method_7_code 26 = .ok (.ireturn, 1) := by decide +kernel
theorem own_ef10 (m : MethodId) (s_CA : Addr) : entryFrame m #[(.ref s_CA)] 1 = mkF m 0 #[.val (.ref s_CA)] [] := by first | (simp [entryFrame, mkF, argsToLocals, Value.category]; done) | rfl
def own_Q10 (Z : State) (s_CA : Addr) (h0 : Heap) (n0 : Nat) (v : Option Value) (h : Heap) (L : List Loc) : Prop := v = some (.int (1 : Int32)) ∧ Fr n0 L ∧ h = h0
set_option maxRecDepth 65536 in
set_option maxHeartbeats 40000000 in
theorem own_rm10 (l : Launch) (Z : State) (a0 : Array Value) (hw : ∀ d ∈ tables_1, d.before a0 Z = true) (ws : List Jvm.Cond) (s_CA : Addr) (h0 : Heap) (n0 : Nat) (Z0 : n0 ≤ h0.size) (S_CA : Sta Z h0 "com/example/pipehat/pipehat/Acknowledgment$Code" "CA" "Lcom/example/pipehat/pipehat/Acknowledgment$Code;" (.ref s_CA)) :
    MetFree l (⟨"com/example/pipehat/pipehat/Acknowledgment$Code", "isEnhanced", "()Z"⟩ : MethodName) (head1 (Jvm.Cond.code (⟨"com/example/pipehat/pipehat/Acknowledgment$Code", "isEnhanced", "()Z"⟩ : MethodName) prog_2_method_7_code 1 (some .boolean) :: ws) ({ frames := 0, cells := 0, slots := 0, locals := 0 } : Room)) (fun a U => a = #[(.ref s_CA)] ∧ Z.Warmed39 U.vm ∧ U.heap = h0) (fun _ _ _ _ _ => True) (fun _ U o U' => ∃ v L, o = .returned v ∧ own_Q10 Z s_CA h0 n0 v U'.heap L ∧ FrameEnd U o U' L ({ frames := 0, cells := 0, slots := 0, locals := 0 } : Room).cells ({ frames := 0, cells := 0, slots := 0, locals := 0 } : Room).slots) := by
  refine MetFree.of_bodySF (plainFor_of_name own_pn1) hisR ?_
  intro p e s m args below meth c s₁ Bd hml0 hP hK
  obtain ⟨rfl, hZ, hh⟩ := hP
  have hx := Bd.exec
  have hby := Bd.bytes
  have hlk := Bd.notSynchronized
  have hml : c.maxLocals = 1 := hml0
  have hown : s.vm.findClass "com/example/pipehat/pipehat/Acknowledgment$Code" = some m.cls := findClass_of_methodNamed Bd.named
  have hnm := (name_of_methodNamed Bd.named Bd.method).1
  have X0 : Stand p l e ({ frames := 0, cells := 0, slots := 0, locals := 0 } : Room) s m #[(.ref s_CA)] below meth c s₁ [] 0 0 := Stand.of_body Bd
  have e0 : s₁.heap = h0 := by rw [← hh, Bd.state]; rfl
  have N0 := Fr.nil n0
  have KR : Keep h0 h0 [] := Keep.refl _ _
  show own_Fin p e below s ({ frames := 0, cells := 0, slots := 0, locals := 0 } : Room).cells ({ frames := 0, cells := 0, slots := 0, locals := 0 } : Room).slots (own_Q10 Z s_CA h0 n0) (s₁.setTop (entryFrame m #[(.ref s_CA)] 1))
  refine own_cast (own_ef10 m s_CA) ?_
  refine own_step (fun _ k => XS.aloadN X0.here hx rfl (hb hby own_d10_0) rfl rfl k) ?_
  show own_Fin p e below s _ _ _ (s₁.setTop (mkF m 1 #[.val (.ref s_CA)] [(.ref s_CA)]))
  obtain ⟨T1, X1, e1, st1⟩ := getS2 X0 hx hZ hown (host := "") (Or.inl (own_w hw 13 rfl)) Via.refl e0 S_CA (g := (mkF m 1 #[.val (.ref s_CA)] [(.ref s_CA)])) rfl (hb hby own_d10_1)
  refine own_step st1 ?_
  show own_Fin p e below s _ _ _ (T1.setTop (mkF m 4 #[.val (.ref s_CA)] [(.ref s_CA), (.ref s_CA)]))
  refine own_step (fun _ k => Jvm.RoadKit.acmp (g := (mkF m 4 #[.val (.ref s_CA)] [(.ref s_CA), (.ref s_CA)])) X1 hx rfl rfl rfl (pc0 := 4) (pc' := 21) (same := true) rfl (hb hby own_d10_4) rfl (decide_eq_true rfl) (by decide) (by decide) k) ?_
  show own_Fin p e below s _ _ _ (T1.setTop (mkF m 21 #[.val (.ref s_CA)] []))
  refine own_step (fun _ k => XS.iconst X1.here hx rfl (hb hby own_d10_21) k) ?_
  show own_Fin p e below s _ _ _ (T1.setTop (mkF m 22 #[.val (.ref s_CA)] [(.int (1 : Int32))]))
  refine own_step (fun _ k => XS.goto X1.here hx rfl (pc0 := 22) (pc' := 26) rfl (hb hby own_d10_22) (by decide) (by decide) k) ?_
  show own_Fin p e below s _ _ _ (T1.setTop (mkF m 26 #[.val (.ref s_CA)] [(.int (1 : Int32))]))
  exact own_ret X1 hlk (v := some (.int (1 : Int32))) (fun h => by rw [Bd.returns] at h; cases h) (by decide) (by decide) (by show own_Q10 Z s_CA h0 n0 _ T1.heap _; rw [e1]; exact ⟨rfl, N0, rfl⟩) (fun fs hr => retN X1 hx (t := .boolean) Bd.returns (by simp) (hb hby own_d10_26) hr)

theorem own_d11_0 : decode prog_2_method_7_code 0 = .ok (.aload_n 0, 1) := by decide +kernel
theorem own_d11_1 : decode prog_2_method_7_code 1 = .ok (.getstatic 13, 3) := by decide +kernel
theorem own_d11_4 : decode prog_2_method_7_code 4 = .ok (.if_acmp .eq 17, 3) := by decide +kernel
theorem own_d11_7 : decode prog_2_method_7_code 7 = .ok (.aload_n 0, 1) := by decide +kernel
theorem own_d11_8 : decode prog_2_method_7_code 8 = .ok (.getstatic 16, 3) := by decide +kernel
theorem own_d11_11 : decode prog_2_method_7_code 11 = .ok (.if_acmp .eq 10, 3) := by decide +kernel
theorem own_d11_21 : decode prog_2_method_7_code 21 = .ok (.iconst 1, 1) := by decide +kernel
theorem own_d11_22 : decode prog_2_method_7_code 22 = .ok (.goto 4, 3) := by decide +kernel
theorem own_d11_26 : decode prog_2_method_7_code 26 = .ok (.ireturn, 1) := by decide +kernel
theorem own_ef11 (m : MethodId) (s_CE : Addr) : entryFrame m #[(.ref s_CE)] 1 = mkF m 0 #[.val (.ref s_CE)] [] := by first | (simp [entryFrame, mkF, argsToLocals, Value.category]; done) | rfl
def own_Q11 (Z : State) (s_CE : Addr) (s_CA : Addr) (h0 : Heap) (n0 : Nat) (v : Option Value) (h : Heap) (L : List Loc) : Prop := v = some (.int (1 : Int32)) ∧ Fr n0 L ∧ h = h0
set_option maxRecDepth 65536 in
set_option maxHeartbeats 40000000 in
theorem own_rm11 (l : Launch) (Z : State) (a0 : Array Value) (hw : ∀ d ∈ tables_1, d.before a0 Z = true) (ws : List Jvm.Cond) (s_CE : Addr) (s_CA : Addr) (h0 : Heap) (n0 : Nat) (Z0 : n0 ≤ h0.size) (S_CA : Sta Z h0 "com/example/pipehat/pipehat/Acknowledgment$Code" "CA" "Lcom/example/pipehat/pipehat/Acknowledgment$Code;" (.ref s_CA)) (ne_s_CE_s_CA : s_CE ≠ s_CA) (S_CE : Sta Z h0 "com/example/pipehat/pipehat/Acknowledgment$Code" "CE" "Lcom/example/pipehat/pipehat/Acknowledgment$Code;" (.ref s_CE)) :
    MetFree l (⟨"com/example/pipehat/pipehat/Acknowledgment$Code", "isEnhanced", "()Z"⟩ : MethodName) (head1 (Jvm.Cond.code (⟨"com/example/pipehat/pipehat/Acknowledgment$Code", "isEnhanced", "()Z"⟩ : MethodName) prog_2_method_7_code 1 (some .boolean) :: ws) ({ frames := 0, cells := 0, slots := 0, locals := 0 } : Room)) (fun a U => a = #[(.ref s_CE)] ∧ Z.Warmed39 U.vm ∧ U.heap = h0) (fun _ _ _ _ _ => True) (fun _ U o U' => ∃ v L, o = .returned v ∧ own_Q11 Z s_CE s_CA h0 n0 v U'.heap L ∧ FrameEnd U o U' L ({ frames := 0, cells := 0, slots := 0, locals := 0 } : Room).cells ({ frames := 0, cells := 0, slots := 0, locals := 0 } : Room).slots) := by
  refine MetFree.of_bodySF (plainFor_of_name own_pn1) hisR ?_
  intro p e s m args below meth c s₁ Bd hml0 hP hK
  obtain ⟨rfl, hZ, hh⟩ := hP
  have hx := Bd.exec
  have hby := Bd.bytes
  have hlk := Bd.notSynchronized
  have hml : c.maxLocals = 1 := hml0
  have hown : s.vm.findClass "com/example/pipehat/pipehat/Acknowledgment$Code" = some m.cls := findClass_of_methodNamed Bd.named
  have hnm := (name_of_methodNamed Bd.named Bd.method).1
  have X0 : Stand p l e ({ frames := 0, cells := 0, slots := 0, locals := 0 } : Room) s m #[(.ref s_CE)] below meth c s₁ [] 0 0 := Stand.of_body Bd
  have e0 : s₁.heap = h0 := by rw [← hh, Bd.state]; rfl
  have N0 := Fr.nil n0
  have KR : Keep h0 h0 [] := Keep.refl _ _
  show own_Fin p e below s ({ frames := 0, cells := 0, slots := 0, locals := 0 } : Room).cells ({ frames := 0, cells := 0, slots := 0, locals := 0 } : Room).slots (own_Q11 Z s_CE s_CA h0 n0) (s₁.setTop (entryFrame m #[(.ref s_CE)] 1))
  refine own_cast (own_ef11 m s_CE) ?_
  refine own_step (fun _ k => XS.aloadN X0.here hx rfl (hb hby own_d11_0) rfl rfl k) ?_
  show own_Fin p e below s _ _ _ (s₁.setTop (mkF m 1 #[.val (.ref s_CE)] [(.ref s_CE)]))
  obtain ⟨T1, X1, e1, st1⟩ := getS2 X0 hx hZ hown (host := "") (Or.inl (own_w hw 13 rfl)) Via.refl e0 S_CA (g := (mkF m 1 #[.val (.ref s_CE)] [(.ref s_CE)])) rfl (hb hby own_d11_1)
  refine own_step st1 ?_
  show own_Fin p e below s _ _ _ (T1.setTop (mkF m 4 #[.val (.ref s_CE)] [(.ref s_CA), (.ref s_CE)]))
  refine own_step (fun _ k => Jvm.RoadKit.acmp (g := (mkF m 4 #[.val (.ref s_CE)] [(.ref s_CA), (.ref s_CE)])) X1 hx rfl rfl rfl (pc0 := 4) (pc' := 7) (same := false) rfl (hb hby own_d11_4) rfl (decide_eq_false fun q => ne_s_CE_s_CA (Value.ref.inj q)) (by decide) (by decide) k) ?_
  show own_Fin p e below s _ _ _ (T1.setTop (mkF m 7 #[.val (.ref s_CE)] []))
  refine own_step (fun _ k => XS.aloadN X1.here hx rfl (hb hby own_d11_7) rfl rfl k) ?_
  show own_Fin p e below s _ _ _ (T1.setTop (mkF m 8 #[.val (.ref s_CE)] [(.ref s_CE)]))
  obtain ⟨T2, X2, e2, st2⟩ := getS2 X1 hx hZ hown (host := "") (Or.inl (own_w hw 15 rfl)) Via.refl e1 S_CE (g := (mkF m 8 #[.val (.ref s_CE)] [(.ref s_CE)])) rfl (hb hby own_d11_8)
  refine own_step st2 ?_
  show own_Fin p e below s _ _ _ (T2.setTop (mkF m 11 #[.val (.ref s_CE)] [(.ref s_CE), (.ref s_CE)]))
  refine own_step (fun _ k => Jvm.RoadKit.acmp (g := (mkF m 11 #[.val (.ref s_CE)] [(.ref s_CE), (.ref s_CE)])) X2 hx rfl rfl rfl (pc0 := 11) (pc' := 21) (same := true) rfl (hb hby own_d11_11) rfl (decide_eq_true rfl) (by decide) (by decide) k) ?_
  show own_Fin p e below s _ _ _ (T2.setTop (mkF m 21 #[.val (.ref s_CE)] []))
  refine own_step (fun _ k => XS.iconst X2.here hx rfl (hb hby own_d11_21) k) ?_
  show own_Fin p e below s _ _ _ (T2.setTop (mkF m 22 #[.val (.ref s_CE)] [(.int (1 : Int32))]))
  refine own_step (fun _ k => XS.goto X2.here hx rfl (pc0 := 22) (pc' := 26) rfl (hb hby own_d11_22) (by decide) (by decide) k) ?_
  show own_Fin p e below s _ _ _ (T2.setTop (mkF m 26 #[.val (.ref s_CE)] [(.int (1 : Int32))]))
  exact own_ret X2 hlk (v := some (.int (1 : Int32))) (fun h => by rw [Bd.returns] at h; cases h) (by decide) (by decide) (by show own_Q11 Z s_CE s_CA h0 n0 _ T2.heap _; rw [e2]; exact ⟨rfl, N0, rfl⟩) (fun fs hr => retN X2 hx (t := .boolean) Bd.returns (by simp) (hb hby own_d11_26) hr)

theorem own_d12_0 : decode prog_2_method_7_code 0 = .ok (.aload_n 0, 1) := by decide +kernel
theorem own_d12_1 : decode prog_2_method_7_code 1 = .ok (.getstatic 13, 3) := by decide +kernel
theorem own_d12_4 : decode prog_2_method_7_code 4 = .ok (.if_acmp .eq 17, 3) := by decide +kernel
theorem own_d12_7 : decode prog_2_method_7_code 7 = .ok (.aload_n 0, 1) := by decide +kernel
theorem own_d12_8 : decode prog_2_method_7_code 8 = .ok (.getstatic 16, 3) := by decide +kernel
theorem own_d12_11 : decode prog_2_method_7_code 11 = .ok (.if_acmp .eq 10, 3) := by decide +kernel
theorem own_d12_14 : decode prog_2_method_7_code 14 = .ok (.aload_n 0, 1) := by decide +kernel
theorem own_d12_15 : decode prog_2_method_7_code 15 = .ok (.getstatic 19, 3) := by decide +kernel
theorem own_d12_18 : decode prog_2_method_7_code 18 = .ok (.if_acmp .ne 7, 3) := by decide +kernel
theorem own_d12_21 : decode prog_2_method_7_code 21 = .ok (.iconst 1, 1) := by decide +kernel
theorem own_d12_22 : decode prog_2_method_7_code 22 = .ok (.goto 4, 3) := by decide +kernel
theorem own_d12_26 : decode prog_2_method_7_code 26 = .ok (.ireturn, 1) := by decide +kernel
theorem own_ef12 (m : MethodId) (s_CR : Addr) : entryFrame m #[(.ref s_CR)] 1 = mkF m 0 #[.val (.ref s_CR)] [] := by first | (simp [entryFrame, mkF, argsToLocals, Value.category]; done) | rfl
def own_Q12 (Z : State) (s_CR : Addr) (s_CA : Addr) (s_CE : Addr) (h0 : Heap) (n0 : Nat) (v : Option Value) (h : Heap) (L : List Loc) : Prop := v = some (.int (1 : Int32)) ∧ Fr n0 L ∧ h = h0
set_option maxRecDepth 65536 in
set_option maxHeartbeats 40000000 in
theorem own_rm12 (l : Launch) (Z : State) (a0 : Array Value) (hw : ∀ d ∈ tables_1, d.before a0 Z = true) (ws : List Jvm.Cond) (s_CR : Addr) (s_CA : Addr) (s_CE : Addr) (h0 : Heap) (n0 : Nat) (Z0 : n0 ≤ h0.size) (S_CA : Sta Z h0 "com/example/pipehat/pipehat/Acknowledgment$Code" "CA" "Lcom/example/pipehat/pipehat/Acknowledgment$Code;" (.ref s_CA)) (ne_s_CR_s_CA : s_CR ≠ s_CA) (S_CE : Sta Z h0 "com/example/pipehat/pipehat/Acknowledgment$Code" "CE" "Lcom/example/pipehat/pipehat/Acknowledgment$Code;" (.ref s_CE)) (ne_s_CR_s_CE : s_CR ≠ s_CE) (S_CR : Sta Z h0 "com/example/pipehat/pipehat/Acknowledgment$Code" "CR" "Lcom/example/pipehat/pipehat/Acknowledgment$Code;" (.ref s_CR)) :
    MetFree l (⟨"com/example/pipehat/pipehat/Acknowledgment$Code", "isEnhanced", "()Z"⟩ : MethodName) (head1 (Jvm.Cond.code (⟨"com/example/pipehat/pipehat/Acknowledgment$Code", "isEnhanced", "()Z"⟩ : MethodName) prog_2_method_7_code 1 (some .boolean) :: ws) ({ frames := 0, cells := 0, slots := 0, locals := 0 } : Room)) (fun a U => a = #[(.ref s_CR)] ∧ Z.Warmed39 U.vm ∧ U.heap = h0) (fun _ _ _ _ _ => True) (fun _ U o U' => ∃ v L, o = .returned v ∧ own_Q12 Z s_CR s_CA s_CE h0 n0 v U'.heap L ∧ FrameEnd U o U' L ({ frames := 0, cells := 0, slots := 0, locals := 0 } : Room).cells ({ frames := 0, cells := 0, slots := 0, locals := 0 } : Room).slots) := by
  refine MetFree.of_bodySF (plainFor_of_name own_pn1) hisR ?_
  intro p e s m args below meth c s₁ Bd hml0 hP hK
  obtain ⟨rfl, hZ, hh⟩ := hP
  have hx := Bd.exec
  have hby := Bd.bytes
  have hlk := Bd.notSynchronized
  have hml : c.maxLocals = 1 := hml0
  have hown : s.vm.findClass "com/example/pipehat/pipehat/Acknowledgment$Code" = some m.cls := findClass_of_methodNamed Bd.named
  have hnm := (name_of_methodNamed Bd.named Bd.method).1
  have X0 : Stand p l e ({ frames := 0, cells := 0, slots := 0, locals := 0 } : Room) s m #[(.ref s_CR)] below meth c s₁ [] 0 0 := Stand.of_body Bd
  have e0 : s₁.heap = h0 := by rw [← hh, Bd.state]; rfl
  have N0 := Fr.nil n0
  have KR : Keep h0 h0 [] := Keep.refl _ _
  show own_Fin p e below s ({ frames := 0, cells := 0, slots := 0, locals := 0 } : Room).cells ({ frames := 0, cells := 0, slots := 0, locals := 0 } : Room).slots (own_Q12 Z s_CR s_CA s_CE h0 n0) (s₁.setTop (entryFrame m #[(.ref s_CR)] 1))
  refine own_cast (own_ef12 m s_CR) ?_
  refine own_step (fun _ k => XS.aloadN X0.here hx rfl (hb hby own_d12_0) rfl rfl k) ?_
  show own_Fin p e below s _ _ _ (s₁.setTop (mkF m 1 #[.val (.ref s_CR)] [(.ref s_CR)]))
  obtain ⟨T1, X1, e1, st1⟩ := getS2 X0 hx hZ hown (host := "") (Or.inl (own_w hw 13 rfl)) Via.refl e0 S_CA (g := (mkF m 1 #[.val (.ref s_CR)] [(.ref s_CR)])) rfl (hb hby own_d12_1)
  refine own_step st1 ?_
  show own_Fin p e below s _ _ _ (T1.setTop (mkF m 4 #[.val (.ref s_CR)] [(.ref s_CA), (.ref s_CR)]))
  refine own_step (fun _ k => Jvm.RoadKit.acmp (g := (mkF m 4 #[.val (.ref s_CR)] [(.ref s_CA), (.ref s_CR)])) X1 hx rfl rfl rfl (pc0 := 4) (pc' := 7) (same := false) rfl (hb hby own_d12_4) rfl (decide_eq_false fun q => ne_s_CR_s_CA (Value.ref.inj q)) (by decide) (by decide) k) ?_
  show own_Fin p e below s _ _ _ (T1.setTop (mkF m 7 #[.val (.ref s_CR)] []))
  refine own_step (fun _ k => XS.aloadN X1.here hx rfl (hb hby own_d12_7) rfl rfl k) ?_
  show own_Fin p e below s _ _ _ (T1.setTop (mkF m 8 #[.val (.ref s_CR)] [(.ref s_CR)]))
  obtain ⟨T2, X2, e2, st2⟩ := getS2 X1 hx hZ hown (host := "") (Or.inl (own_w hw 15 rfl)) Via.refl e1 S_CE (g := (mkF m 8 #[.val (.ref s_CR)] [(.ref s_CR)])) rfl (hb hby own_d12_8)
  refine own_step st2 ?_
  show own_Fin p e below s _ _ _ (T2.setTop (mkF m 11 #[.val (.ref s_CR)] [(.ref s_CE), (.ref s_CR)]))
  refine own_step (fun _ k => Jvm.RoadKit.acmp (g := (mkF m 11 #[.val (.ref s_CR)] [(.ref s_CE), (.ref s_CR)])) X2 hx rfl rfl rfl (pc0 := 11) (pc' := 14) (same := false) rfl (hb hby own_d12_11) rfl (decide_eq_false fun q => ne_s_CR_s_CE (Value.ref.inj q)) (by decide) (by decide) k) ?_
  show own_Fin p e below s _ _ _ (T2.setTop (mkF m 14 #[.val (.ref s_CR)] []))
  refine own_step (fun _ k => XS.aloadN X2.here hx rfl (hb hby own_d12_14) rfl rfl k) ?_
  show own_Fin p e below s _ _ _ (T2.setTop (mkF m 15 #[.val (.ref s_CR)] [(.ref s_CR)]))
  obtain ⟨T3, X3, e3, st3⟩ := getS2 X2 hx hZ hown (host := "") (Or.inl (own_w hw 17 rfl)) Via.refl e2 S_CR (g := (mkF m 15 #[.val (.ref s_CR)] [(.ref s_CR)])) rfl (hb hby own_d12_15)
  refine own_step st3 ?_
  show own_Fin p e below s _ _ _ (T3.setTop (mkF m 18 #[.val (.ref s_CR)] [(.ref s_CR), (.ref s_CR)]))
  refine own_step (fun _ k => Jvm.RoadKit.acmp (g := (mkF m 18 #[.val (.ref s_CR)] [(.ref s_CR), (.ref s_CR)])) X3 hx rfl rfl rfl (pc0 := 18) (pc' := 21) (same := true) rfl (hb hby own_d12_18) rfl (decide_eq_true rfl) (by decide) (by decide) k) ?_
  show own_Fin p e below s _ _ _ (T3.setTop (mkF m 21 #[.val (.ref s_CR)] []))
  refine own_step (fun _ k => XS.iconst X3.here hx rfl (hb hby own_d12_21) k) ?_
  show own_Fin p e below s _ _ _ (T3.setTop (mkF m 22 #[.val (.ref s_CR)] [(.int (1 : Int32))]))
  refine own_step (fun _ k => XS.goto X3.here hx rfl (pc0 := 22) (pc' := 26) rfl (hb hby own_d12_22) (by decide) (by decide) k) ?_
  show own_Fin p e below s _ _ _ (T3.setTop (mkF m 26 #[.val (.ref s_CR)] [(.int (1 : Int32))]))
  exact own_ret X3 hlk (v := some (.int (1 : Int32))) (fun h => by rw [Bd.returns] at h; cases h) (by decide) (by decide) (by show own_Q12 Z s_CR s_CA s_CE h0 n0 _ T3.heap _; rw [e3]; exact ⟨rfl, N0, rfl⟩) (fun fs hr => retN X3 hx (t := .boolean) Bd.returns (by simp) (hb hby own_d12_26) hr)

theorem own_pd0 : parseMethodDescriptor "(I)Lcom/example/pipehat/pipehat/Acknowledgment$Code;" = some ⟨[.int], some (.object "com/example/pipehat/pipehat/Acknowledgment$Code")⟩ := by decide +kernel
abbrev own_y0 : MethodName := (⟨"com/example/pipehat/pipehat/CodeIsEnhancedPinLaw", "pick", "(I)Lcom/example/pipehat/pipehat/Acknowledgment$Code;"⟩ : MethodName)
theorem own_pd1 : parseMethodDescriptor "()Z" = some ⟨[], some .boolean⟩ := by decide +kernel
abbrev own_y1 : MethodName := (⟨"com/example/pipehat/pipehat/Acknowledgment$Code", "isEnhanced", "()Z"⟩ : MethodName)
theorem own_ef13 (m : MethodId) (p0 : Int32) : entryFrame m #[(.int p0)] maxLocals = mkF m 0 #[.val (.int p0), .unset, .unset, .unset] [] := by first | (simp [entryFrame, mkF, argsToLocals, Value.category, maxLocals]; done) | rfl
def own_Q13 (Z : State) (p0 : Int32) (s_AA : Addr) (s_CA : Addr) (s_CE : Addr) (s_CR : Addr) (s_AE : Addr) (s_AR : Addr) (h0 : Heap) (n0 : Nat) (v : Option Value) (h : Heap) (L : List Loc) : Prop := v = some (.int 1) ∧ Fr n0 L
set_option maxRecDepth 65536 in
set_option maxHeartbeats 40000000 in
theorem own_rm13 (l : Launch) (Z : State) (a0 : Array Value) (hw : ∀ d ∈ tables_1, d.before a0 Z = true) (ws : List Jvm.Cond) (p0 : Int32) (s_AA : Addr) (s_CA : Addr) (s_CE : Addr) (s_CR : Addr) (s_AE : Addr) (s_AR : Addr) (h0 : Heap) (n0 : Nat) (Z0 : n0 ≤ h0.size) (S_AA : Sta Z h0 "com/example/pipehat/pipehat/Acknowledgment$Code" "AA" "Lcom/example/pipehat/pipehat/Acknowledgment$Code;" (.ref s_AA)) (E_s_AA : Exa Z h0 s_AA "com/example/pipehat/pipehat/Acknowledgment$Code") (S_CA : Sta Z h0 "com/example/pipehat/pipehat/Acknowledgment$Code" "CA" "Lcom/example/pipehat/pipehat/Acknowledgment$Code;" (.ref s_CA)) (S_CE : Sta Z h0 "com/example/pipehat/pipehat/Acknowledgment$Code" "CE" "Lcom/example/pipehat/pipehat/Acknowledgment$Code;" (.ref s_CE)) (S_CR : Sta Z h0 "com/example/pipehat/pipehat/Acknowledgment$Code" "CR" "Lcom/example/pipehat/pipehat/Acknowledgment$Code;" (.ref s_CR)) (ne_s_AA_s_CA : s_AA ≠ s_CA) (ne_s_AA_s_CE : s_AA ≠ s_CE) (ne_s_AA_s_CR : s_AA ≠ s_CR) (S_AE : Sta Z h0 "com/example/pipehat/pipehat/Acknowledgment$Code" "AE" "Lcom/example/pipehat/pipehat/Acknowledgment$Code;" (.ref s_AE)) (E_s_AE : Exa Z h0 s_AE "com/example/pipehat/pipehat/Acknowledgment$Code") (ne_s_AE_s_CA : s_AE ≠ s_CA) (ne_s_AE_s_CE : s_AE ≠ s_CE) (ne_s_AE_s_CR : s_AE ≠ s_CR) (S_AR : Sta Z h0 "com/example/pipehat/pipehat/Acknowledgment$Code" "AR" "Lcom/example/pipehat/pipehat/Acknowledgment$Code;" (.ref s_AR)) (E_s_AR : Exa Z h0 s_AR "com/example/pipehat/pipehat/Acknowledgment$Code") (ne_s_AR_s_CA : s_AR ≠ s_CA) (ne_s_AR_s_CE : s_AR ≠ s_CE) (ne_s_AR_s_CR : s_AR ≠ s_CR) (E_s_CA : Exa Z h0 s_CA "com/example/pipehat/pipehat/Acknowledgment$Code") (E_s_CE : Exa Z h0 s_CE "com/example/pipehat/pipehat/Acknowledgment$Code") (ne_s_CE_s_CA : s_CE ≠ s_CA) (E_s_CR : Exa Z h0 s_CR "com/example/pipehat/pipehat/Acknowledgment$Code") (ne_s_CR_s_CA : s_CR ≠ s_CA) (ne_s_CR_s_CE : s_CR ≠ s_CE) :
    MetFree l x (head1 (Jvm.Cond.code x code maxLocals ret :: ws) room_1) (fun a U => a = #[(.int p0)] ∧ Z.Warmed39 U.vm ∧ U.heap = h0) (fun _ _ _ _ _ => True) (fun _ U o U' => ∃ v L, o = .returned v ∧ own_Q13 Z p0 s_AA s_CA s_CE s_CR s_AE s_AR h0 n0 v U'.heap L ∧ FrameEnd U o U' L room_1.cells room_1.slots) := by
  refine MetFree.of_bodySF (plainFor_of_name own_pn0) hisR ?_
  intro p e s m args below meth c s₁ Bd hml0 hP hK
  obtain ⟨rfl, hZ, hh⟩ := hP
  have hx := Bd.exec
  have hby := Bd.bytes
  have hlk := Bd.notSynchronized
  have hml : c.maxLocals = 4 := hml0
  have hown : s.vm.findClass "com/example/pipehat/pipehat/CodeIsEnhancedPinLaw" = some m.cls := findClass_of_methodNamed Bd.named
  have hnm := (name_of_methodNamed Bd.named Bd.method).1
  have X0 : Stand p l e room_1 s m #[(.int p0)] below meth c s₁ [] 0 0 := Stand.of_body Bd
  have e0 : s₁.heap = h0 := by rw [← hh, Bd.state]; rfl
  have N0 := Fr.nil n0
  have KR : Keep h0 h0 [] := Keep.refl _ _
  show own_Fin p e below s room_1.cells room_1.slots (own_Q13 Z p0 s_AA s_CA s_CE s_CR s_AE s_AR h0 n0) (s₁.setTop (entryFrame m #[(.int p0)] maxLocals))
  refine own_cast (own_ef13 m p0) ?_
  refine own_step (fun _ k => XS.iloadN X0.here hx rfl (hb hby at_0) rfl k) ?_
  show own_Fin p e below s _ _ _ (s₁.setTop (mkF m 1 #[.val (.int p0), .unset, .unset, .unset] [(.int p0)]))
  refine own_step (fun _ k => X0.ldcInt hx hown (mvT hZ (own_w hw 0 rfl)) (g := (mkF m 1 #[.val (.int p0), .unset, .unset, .unset] [(.int p0)])) rfl (hb hby at_1) _ k) ?_
  show own_Fin p e below s _ _ _ (s₁.setTop (mkF m 3 #[.val (.int p0), .unset, .unset, .unset] [(.int (2147483647 : Int32)), (.int p0)]))
  refine own_step (fun _ k => XS.iand X0.here hx rfl (hb hby at_3) rfl k) ?_
  show own_Fin p e below s _ _ _ (s₁.setTop (mkF m 4 #[.val (.int p0), .unset, .unset, .unset] [(.int (p0 &&& (2147483647 : Int32)))]))
  refine own_step (fun _ k => XS.bipush X0.here hx rfl (hb hby at_4) k) ?_
  show own_Fin p e below s _ _ _ (s₁.setTop (mkF m 6 #[.val (.int p0), .unset, .unset, .unset] [(.int (6 : Int32)), (.int (p0 &&& (2147483647 : Int32)))]))
  refine own_step (fun _ k => iremM (g := (mkF m 6 #[.val (.int p0), .unset, .unset, .unset] [(.int (6 : Int32)), (.int (p0 &&& (2147483647 : Int32)))])) X0 hx rfl (hb hby at_6) rfl (by decide) k) ?_
  show own_Fin p e below s _ _ _ (s₁.setTop (mkF m 7 #[.val (.int p0), .unset, .unset, .unset] [(.int ((p0 &&& (2147483647 : Int32)) % (6 : Int32)))]))
  refine own_step (fun _ k => XS.istoreN X0.here hx rfl (hb hby at_7) rfl (l' := #[.val (.int p0), .val (.int ((p0 &&& (2147483647 : Int32)) % (6 : Int32))), .unset, .unset]) rfl k) ?_
  show own_Fin p e below s _ _ _ (s₁.setTop (mkF m 8 #[.val (.int p0), .val (.int ((p0 &&& (2147483647 : Int32)) % (6 : Int32))), .unset, .unset] []))
  rcases own_k p0 with hk1 | hk2 | hk3 | hk4 | hk5 | hk6
  · rw [hk1]
    show own_Fin p e below s _ _ _ (s₁.setTop (mkF m 8 #[.val (.int p0), .val (.int (0 : Int32)), .unset, .unset] []))
    refine own_step (fun _ k => XS.iloadN X0.here hx rfl (hb hby at_8) rfl k) ?_
    show own_Fin p e below s _ _ _ (s₁.setTop (mkF m 9 #[.val (.int p0), .val (.int (0 : Int32)), .unset, .unset] [(.int (0 : Int32))]))
    obtain ⟨_, _, ⟨T7, L7, k7, n7⟩, -, X7, ⟨Lc7, hQ7, l7, y7, z7⟩, st7⟩ := Jvm.LawKit.callS X0 hx (y := own_y0) hown (mvT hZ (own_w hw 1 rfl)) (mvT hZ (own_w hw 2 rfl)) (mvT hZ (own_w hw 3 rfl)) (mvT hZ (own_w hw 4 rfl)) (by decide) (backOf (W := 0) (own_rm1 l Z a0 hw [] s_AA h0 n0 Z0 S_AA) hZ (own_w hw 4 rfl) (own_w hw 3 rfl) (by decide) (by decide)) (g := (mkF m 9 #[.val (.int p0), .val (.int (0 : Int32)), .unset, .unset] [(.int (0 : Int32))])) rfl (by rw [hml]; rfl) (argsL := [(.int (0 : Int32))]) (rest := []) (lenOf own_pd0 rfl) rfl (by show 2 * 0 + _ ≤ _; exact Nat.le_of_eq rfl) (hb hby at_9) (fun _ _ => ⟨rfl, e0, (by decide : 0 + 0 ≤ _), (by decide : 0 + 0 ≤ _)⟩)
    dsimp only [Pt.U, Pt.locs, Pt.cells, Pt.slots] at X7 l7 y7 z7 st7 hQ7
    subst l7 y7 z7
    obtain ⟨rfl, N7q, e7⟩ := hQ7
    have N7 := Fr.app N0 N7q
    refine own_step (fun _ k => st7 _ k) ?_
    show own_Fin p e below s _ _ _ (T7.setTop (mkF m 12 #[.val (.int p0), .val (.int (0 : Int32)), .unset, .unset] [(.ref s_AA)]))
    refine own_step (fun _ k => XS.astoreN X7.here hx rfl (hb hby at_12) rfl rfl (l' := #[.val (.int p0), .val (.int (0 : Int32)), .val (.ref s_AA), .unset]) rfl k) ?_
    show own_Fin p e below s _ _ _ (T7.setTop (mkF m 13 #[.val (.int p0), .val (.int (0 : Int32)), .val (.ref s_AA), .unset] []))
    refine own_step (fun _ k => XS.iloadN X7.here hx rfl (hb hby at_13) rfl k) ?_
    show own_Fin p e below s _ _ _ (T7.setTop (mkF m 14 #[.val (.int p0), .val (.int (0 : Int32)), .val (.ref s_AA), .unset] [(.int (0 : Int32))]))
    refine own_step (fun _ k => XS.iconst X7.here hx rfl (hb hby at_14) k) ?_
    show own_Fin p e below s _ _ _ (T7.setTop (mkF m 15 #[.val (.int p0), .val (.int (0 : Int32)), .val (.ref s_AA), .unset] [(.int (3 : Int32)), (.int (0 : Int32))]))
    refine own_step (fun _ k => XS.icmpYes X7.here hx rfl (pc0 := 15) (pc' := 22) rfl (hb hby at_15) rfl (tlt (by decide : (0 : Int32) < (3 : Int32))).1 (by decide) (by decide) k) ?_
    show own_Fin p e below s _ _ _ (T7.setTop (mkF m 22 #[.val (.int p0), .val (.int (0 : Int32)), .val (.ref s_AA), .unset] []))
    refine own_step (fun _ k => XS.iconst X7.here hx rfl (hb hby at_22) k) ?_
    show own_Fin p e below s _ _ _ (T7.setTop (mkF m 23 #[.val (.int p0), .val (.int (0 : Int32)), .val (.ref s_AA), .unset] [(.int (0 : Int32))]))
    refine own_step (fun _ k => XS.istoreN X7.here hx rfl (hb hby at_23) rfl (l' := #[.val (.int p0), .val (.int (0 : Int32)), .val (.ref s_AA), .val (.int (0 : Int32))]) rfl k) ?_
    show own_Fin p e below s _ _ _ (T7.setTop (mkF m 24 #[.val (.int p0), .val (.int (0 : Int32)), .val (.ref s_AA), .val (.int (0 : Int32))] []))
    refine own_step (fun _ k => XS.aloadN X7.here hx rfl (hb hby at_24) rfl rfl k) ?_
    show own_Fin p e below s _ _ _ (T7.setTop (mkF m 25 #[.val (.int p0), .val (.int (0 : Int32)), .val (.ref s_AA), .val (.int (0 : Int32))] [(.ref s_AA)]))
    obtain ⟨cq8, kq8, q8a, q8b, q8c⟩ := isOf hZ e7 E_s_AA
    obtain ⟨_, _, ⟨T8, L8, k8, n8⟩, -, X8, ⟨Lc8, hQ8, l8, y8, z8⟩, st8⟩ := X7.virtualBack hx (y := own_y1) (z := own_y1) hown (mvT hZ (own_w hw 8 rfl)) (mvT hZ (own_w hw 9 rfl)) (notFace_of_selects (args := #[]) (mvT hZ (own_w hw 11 rfl))) (mvT hZ (own_w hw 11 rfl)) (mvT hZ (own_w hw 10 rfl)) (by decide) (backOf (W := 0) (own_rm7 l Z a0 hw [] s_AA s_CA s_CE s_CR h0 n0 Z0 S_CA ne_s_AA_s_CA S_CE ne_s_AA_s_CE S_CR ne_s_AA_s_CR) hZ (own_w hw 12 rfl) (own_w hw 6 rfl) (by decide) (by decide)) q8a q8c (g := (mkF m 25 #[.val (.int p0), .val (.int (0 : Int32)), .val (.ref s_AA), .val (.int (0 : Int32))] [(.ref s_AA)])) rfl (by rw [hml]; rfl) (Steps.refl _) (argsL := []) (rest := []) (lenOf own_pd1 rfl) rfl (by show 2 * 0 + _ ≤ _; exact Nat.le_of_eq rfl) (hb hby at_25) (fun _ _ => ⟨rfl, e7, (by decide : 0 + 0 ≤ _), (by decide : 0 + 0 ≤ _)⟩)
    dsimp only [Pt.U, Pt.locs, Pt.cells, Pt.slots] at X8 l8 y8 z8 st8 hQ8
    subst l8 y8 z8
    obtain ⟨rfl, N8q, e8⟩ := hQ8
    have N8 := Fr.app N7 N8q
    refine own_step (fun _ k => st8.trans k) ?_
    show own_Fin p e below s _ _ _ (T8.setTop (mkF m 28 #[.val (.int p0), .val (.int (0 : Int32)), .val (.ref s_AA), .val (.int (0 : Int32))] [(.int (0 : Int32))]))
    refine own_step (fun _ k => XS.iloadN X8.here hx rfl (hb hby at_28) rfl k) ?_
    show own_Fin p e below s _ _ _ (T8.setTop (mkF m 29 #[.val (.int p0), .val (.int (0 : Int32)), .val (.ref s_AA), .val (.int (0 : Int32))] [(.int (0 : Int32)), (.int (0 : Int32))]))
    refine own_step (fun _ k => XS.icmpNo X8.here hx rfl (hb hby at_29) rfl (teq (by decide : (0 : Int32) = (0 : Int32))).2 k) ?_
    show own_Fin p e below s _ _ _ (T8.setTop (mkF m 32 #[.val (.int p0), .val (.int (0 : Int32)), .val (.ref s_AA), .val (.int (0 : Int32))] []))
    refine own_step (fun _ k => XS.iconst X8.here hx rfl (hb hby at_32) k) ?_
    show own_Fin p e below s _ _ _ (T8.setTop (mkF m 33 #[.val (.int p0), .val (.int (0 : Int32)), .val (.ref s_AA), .val (.int (0 : Int32))] [(.int (1 : Int32))]))
    refine own_step (fun _ k => XS.goto X8.here hx rfl (pc0 := 33) (pc' := 37) rfl (hb hby at_33) (by decide) (by decide) k) ?_
    show own_Fin p e below s _ _ _ (T8.setTop (mkF m 37 #[.val (.int p0), .val (.int (0 : Int32)), .val (.ref s_AA), .val (.int (0 : Int32))] [(.int (1 : Int32))]))
    exact own_ret X8 hlk (v := some (.int (1 : Int32))) (fun h => by rw [Bd.returns] at h; cases h) (by decide) (by decide) (by show own_Q13 Z p0 s_AA s_CA s_CE s_CR s_AE s_AR h0 n0 _ T8.heap _; rw [e8]; exact ⟨rfl, N8⟩) (fun fs hr => retN X8 hx (t := .boolean) Bd.returns (by simp) (hb hby at_37) hr)
  · rw [hk2]
    show own_Fin p e below s _ _ _ (s₁.setTop (mkF m 8 #[.val (.int p0), .val (.int (1 : Int32)), .unset, .unset] []))
    refine own_step (fun _ k => XS.iloadN X0.here hx rfl (hb hby at_8) rfl k) ?_
    show own_Fin p e below s _ _ _ (s₁.setTop (mkF m 9 #[.val (.int p0), .val (.int (1 : Int32)), .unset, .unset] [(.int (1 : Int32))]))
    obtain ⟨_, _, ⟨T9, L9, k9, n9⟩, -, X9, ⟨Lc9, hQ9, l9, y9, z9⟩, st9⟩ := Jvm.LawKit.callS X0 hx (y := own_y0) hown (mvT hZ (own_w hw 1 rfl)) (mvT hZ (own_w hw 2 rfl)) (mvT hZ (own_w hw 3 rfl)) (mvT hZ (own_w hw 4 rfl)) (by decide) (backOf (W := 0) (own_rm2 l Z a0 hw [] s_AE h0 n0 Z0 S_AE) hZ (own_w hw 4 rfl) (own_w hw 3 rfl) (by decide) (by decide)) (g := (mkF m 9 #[.val (.int p0), .val (.int (1 : Int32)), .unset, .unset] [(.int (1 : Int32))])) rfl (by rw [hml]; rfl) (argsL := [(.int (1 : Int32))]) (rest := []) (lenOf own_pd0 rfl) rfl (by show 2 * 0 + _ ≤ _; exact Nat.le_of_eq rfl) (hb hby at_9) (fun _ _ => ⟨rfl, e0, (by decide : 0 + 0 ≤ _), (by decide : 0 + 0 ≤ _)⟩)
    dsimp only [Pt.U, Pt.locs, Pt.cells, Pt.slots] at X9 l9 y9 z9 st9 hQ9
    subst l9 y9 z9
    obtain ⟨rfl, N9q, e9⟩ := hQ9
    have N9 := Fr.app N0 N9q
    refine own_step (fun _ k => st9 _ k) ?_
    show own_Fin p e below s _ _ _ (T9.setTop (mkF m 12 #[.val (.int p0), .val (.int (1 : Int32)), .unset, .unset] [(.ref s_AE)]))
    refine own_step (fun _ k => XS.astoreN X9.here hx rfl (hb hby at_12) rfl rfl (l' := #[.val (.int p0), .val (.int (1 : Int32)), .val (.ref s_AE), .unset]) rfl k) ?_
    show own_Fin p e below s _ _ _ (T9.setTop (mkF m 13 #[.val (.int p0), .val (.int (1 : Int32)), .val (.ref s_AE), .unset] []))
    refine own_step (fun _ k => XS.iloadN X9.here hx rfl (hb hby at_13) rfl k) ?_
    show own_Fin p e below s _ _ _ (T9.setTop (mkF m 14 #[.val (.int p0), .val (.int (1 : Int32)), .val (.ref s_AE), .unset] [(.int (1 : Int32))]))
    refine own_step (fun _ k => XS.iconst X9.here hx rfl (hb hby at_14) k) ?_
    show own_Fin p e below s _ _ _ (T9.setTop (mkF m 15 #[.val (.int p0), .val (.int (1 : Int32)), .val (.ref s_AE), .unset] [(.int (3 : Int32)), (.int (1 : Int32))]))
    refine own_step (fun _ k => XS.icmpYes X9.here hx rfl (pc0 := 15) (pc' := 22) rfl (hb hby at_15) rfl (tlt (by decide : (1 : Int32) < (3 : Int32))).1 (by decide) (by decide) k) ?_
    show own_Fin p e below s _ _ _ (T9.setTop (mkF m 22 #[.val (.int p0), .val (.int (1 : Int32)), .val (.ref s_AE), .unset] []))
    refine own_step (fun _ k => XS.iconst X9.here hx rfl (hb hby at_22) k) ?_
    show own_Fin p e below s _ _ _ (T9.setTop (mkF m 23 #[.val (.int p0), .val (.int (1 : Int32)), .val (.ref s_AE), .unset] [(.int (0 : Int32))]))
    refine own_step (fun _ k => XS.istoreN X9.here hx rfl (hb hby at_23) rfl (l' := #[.val (.int p0), .val (.int (1 : Int32)), .val (.ref s_AE), .val (.int (0 : Int32))]) rfl k) ?_
    show own_Fin p e below s _ _ _ (T9.setTop (mkF m 24 #[.val (.int p0), .val (.int (1 : Int32)), .val (.ref s_AE), .val (.int (0 : Int32))] []))
    refine own_step (fun _ k => XS.aloadN X9.here hx rfl (hb hby at_24) rfl rfl k) ?_
    show own_Fin p e below s _ _ _ (T9.setTop (mkF m 25 #[.val (.int p0), .val (.int (1 : Int32)), .val (.ref s_AE), .val (.int (0 : Int32))] [(.ref s_AE)]))
    obtain ⟨cq10, kq10, q10a, q10b, q10c⟩ := isOf hZ e9 E_s_AE
    obtain ⟨_, _, ⟨T10, L10, k10, n10⟩, -, X10, ⟨Lc10, hQ10, l10, y10, z10⟩, st10⟩ := X9.virtualBack hx (y := own_y1) (z := own_y1) hown (mvT hZ (own_w hw 8 rfl)) (mvT hZ (own_w hw 9 rfl)) (notFace_of_selects (args := #[]) (mvT hZ (own_w hw 11 rfl))) (mvT hZ (own_w hw 11 rfl)) (mvT hZ (own_w hw 10 rfl)) (by decide) (backOf (W := 0) (own_rm8 l Z a0 hw [] s_AE s_CA s_CE s_CR h0 n0 Z0 S_CA ne_s_AE_s_CA S_CE ne_s_AE_s_CE S_CR ne_s_AE_s_CR) hZ (own_w hw 12 rfl) (own_w hw 6 rfl) (by decide) (by decide)) q10a q10c (g := (mkF m 25 #[.val (.int p0), .val (.int (1 : Int32)), .val (.ref s_AE), .val (.int (0 : Int32))] [(.ref s_AE)])) rfl (by rw [hml]; rfl) (Steps.refl _) (argsL := []) (rest := []) (lenOf own_pd1 rfl) rfl (by show 2 * 0 + _ ≤ _; exact Nat.le_of_eq rfl) (hb hby at_25) (fun _ _ => ⟨rfl, e9, (by decide : 0 + 0 ≤ _), (by decide : 0 + 0 ≤ _)⟩)
    dsimp only [Pt.U, Pt.locs, Pt.cells, Pt.slots] at X10 l10 y10 z10 st10 hQ10
    subst l10 y10 z10
    obtain ⟨rfl, N10q, e10⟩ := hQ10
    have N10 := Fr.app N9 N10q
    refine own_step (fun _ k => st10.trans k) ?_
    show own_Fin p e below s _ _ _ (T10.setTop (mkF m 28 #[.val (.int p0), .val (.int (1 : Int32)), .val (.ref s_AE), .val (.int (0 : Int32))] [(.int (0 : Int32))]))
    refine own_step (fun _ k => XS.iloadN X10.here hx rfl (hb hby at_28) rfl k) ?_
    show own_Fin p e below s _ _ _ (T10.setTop (mkF m 29 #[.val (.int p0), .val (.int (1 : Int32)), .val (.ref s_AE), .val (.int (0 : Int32))] [(.int (0 : Int32)), (.int (0 : Int32))]))
    refine own_step (fun _ k => XS.icmpNo X10.here hx rfl (hb hby at_29) rfl (teq (by decide : (0 : Int32) = (0 : Int32))).2 k) ?_
    show own_Fin p e below s _ _ _ (T10.setTop (mkF m 32 #[.val (.int p0), .val (.int (1 : Int32)), .val (.ref s_AE), .val (.int (0 : Int32))] []))
    refine own_step (fun _ k => XS.iconst X10.here hx rfl (hb hby at_32) k) ?_
    show own_Fin p e below s _ _ _ (T10.setTop (mkF m 33 #[.val (.int p0), .val (.int (1 : Int32)), .val (.ref s_AE), .val (.int (0 : Int32))] [(.int (1 : Int32))]))
    refine own_step (fun _ k => XS.goto X10.here hx rfl (pc0 := 33) (pc' := 37) rfl (hb hby at_33) (by decide) (by decide) k) ?_
    show own_Fin p e below s _ _ _ (T10.setTop (mkF m 37 #[.val (.int p0), .val (.int (1 : Int32)), .val (.ref s_AE), .val (.int (0 : Int32))] [(.int (1 : Int32))]))
    exact own_ret X10 hlk (v := some (.int (1 : Int32))) (fun h => by rw [Bd.returns] at h; cases h) (by decide) (by decide) (by show own_Q13 Z p0 s_AA s_CA s_CE s_CR s_AE s_AR h0 n0 _ T10.heap _; rw [e10]; exact ⟨rfl, N10⟩) (fun fs hr => retN X10 hx (t := .boolean) Bd.returns (by simp) (hb hby at_37) hr)
  · rw [hk3]
    show own_Fin p e below s _ _ _ (s₁.setTop (mkF m 8 #[.val (.int p0), .val (.int (2 : Int32)), .unset, .unset] []))
    refine own_step (fun _ k => XS.iloadN X0.here hx rfl (hb hby at_8) rfl k) ?_
    show own_Fin p e below s _ _ _ (s₁.setTop (mkF m 9 #[.val (.int p0), .val (.int (2 : Int32)), .unset, .unset] [(.int (2 : Int32))]))
    obtain ⟨_, _, ⟨T11, L11, k11, n11⟩, -, X11, ⟨Lc11, hQ11, l11, y11, z11⟩, st11⟩ := Jvm.LawKit.callS X0 hx (y := own_y0) hown (mvT hZ (own_w hw 1 rfl)) (mvT hZ (own_w hw 2 rfl)) (mvT hZ (own_w hw 3 rfl)) (mvT hZ (own_w hw 4 rfl)) (by decide) (backOf (W := 0) (own_rm3 l Z a0 hw [] s_AR h0 n0 Z0 S_AR) hZ (own_w hw 4 rfl) (own_w hw 3 rfl) (by decide) (by decide)) (g := (mkF m 9 #[.val (.int p0), .val (.int (2 : Int32)), .unset, .unset] [(.int (2 : Int32))])) rfl (by rw [hml]; rfl) (argsL := [(.int (2 : Int32))]) (rest := []) (lenOf own_pd0 rfl) rfl (by show 2 * 0 + _ ≤ _; exact Nat.le_of_eq rfl) (hb hby at_9) (fun _ _ => ⟨rfl, e0, (by decide : 0 + 0 ≤ _), (by decide : 0 + 0 ≤ _)⟩)
    dsimp only [Pt.U, Pt.locs, Pt.cells, Pt.slots] at X11 l11 y11 z11 st11 hQ11
    subst l11 y11 z11
    obtain ⟨rfl, N11q, e11⟩ := hQ11
    have N11 := Fr.app N0 N11q
    refine own_step (fun _ k => st11 _ k) ?_
    show own_Fin p e below s _ _ _ (T11.setTop (mkF m 12 #[.val (.int p0), .val (.int (2 : Int32)), .unset, .unset] [(.ref s_AR)]))
    refine own_step (fun _ k => XS.astoreN X11.here hx rfl (hb hby at_12) rfl rfl (l' := #[.val (.int p0), .val (.int (2 : Int32)), .val (.ref s_AR), .unset]) rfl k) ?_
    show own_Fin p e below s _ _ _ (T11.setTop (mkF m 13 #[.val (.int p0), .val (.int (2 : Int32)), .val (.ref s_AR), .unset] []))
    refine own_step (fun _ k => XS.iloadN X11.here hx rfl (hb hby at_13) rfl k) ?_
    show own_Fin p e below s _ _ _ (T11.setTop (mkF m 14 #[.val (.int p0), .val (.int (2 : Int32)), .val (.ref s_AR), .unset] [(.int (2 : Int32))]))
    refine own_step (fun _ k => XS.iconst X11.here hx rfl (hb hby at_14) k) ?_
    show own_Fin p e below s _ _ _ (T11.setTop (mkF m 15 #[.val (.int p0), .val (.int (2 : Int32)), .val (.ref s_AR), .unset] [(.int (3 : Int32)), (.int (2 : Int32))]))
    refine own_step (fun _ k => XS.icmpYes X11.here hx rfl (pc0 := 15) (pc' := 22) rfl (hb hby at_15) rfl (tlt (by decide : (2 : Int32) < (3 : Int32))).1 (by decide) (by decide) k) ?_
    show own_Fin p e below s _ _ _ (T11.setTop (mkF m 22 #[.val (.int p0), .val (.int (2 : Int32)), .val (.ref s_AR), .unset] []))
    refine own_step (fun _ k => XS.iconst X11.here hx rfl (hb hby at_22) k) ?_
    show own_Fin p e below s _ _ _ (T11.setTop (mkF m 23 #[.val (.int p0), .val (.int (2 : Int32)), .val (.ref s_AR), .unset] [(.int (0 : Int32))]))
    refine own_step (fun _ k => XS.istoreN X11.here hx rfl (hb hby at_23) rfl (l' := #[.val (.int p0), .val (.int (2 : Int32)), .val (.ref s_AR), .val (.int (0 : Int32))]) rfl k) ?_
    show own_Fin p e below s _ _ _ (T11.setTop (mkF m 24 #[.val (.int p0), .val (.int (2 : Int32)), .val (.ref s_AR), .val (.int (0 : Int32))] []))
    refine own_step (fun _ k => XS.aloadN X11.here hx rfl (hb hby at_24) rfl rfl k) ?_
    show own_Fin p e below s _ _ _ (T11.setTop (mkF m 25 #[.val (.int p0), .val (.int (2 : Int32)), .val (.ref s_AR), .val (.int (0 : Int32))] [(.ref s_AR)]))
    obtain ⟨cq12, kq12, q12a, q12b, q12c⟩ := isOf hZ e11 E_s_AR
    obtain ⟨_, _, ⟨T12, L12, k12, n12⟩, -, X12, ⟨Lc12, hQ12, l12, y12, z12⟩, st12⟩ := X11.virtualBack hx (y := own_y1) (z := own_y1) hown (mvT hZ (own_w hw 8 rfl)) (mvT hZ (own_w hw 9 rfl)) (notFace_of_selects (args := #[]) (mvT hZ (own_w hw 11 rfl))) (mvT hZ (own_w hw 11 rfl)) (mvT hZ (own_w hw 10 rfl)) (by decide) (backOf (W := 0) (own_rm9 l Z a0 hw [] s_AR s_CA s_CE s_CR h0 n0 Z0 S_CA ne_s_AR_s_CA S_CE ne_s_AR_s_CE S_CR ne_s_AR_s_CR) hZ (own_w hw 12 rfl) (own_w hw 6 rfl) (by decide) (by decide)) q12a q12c (g := (mkF m 25 #[.val (.int p0), .val (.int (2 : Int32)), .val (.ref s_AR), .val (.int (0 : Int32))] [(.ref s_AR)])) rfl (by rw [hml]; rfl) (Steps.refl _) (argsL := []) (rest := []) (lenOf own_pd1 rfl) rfl (by show 2 * 0 + _ ≤ _; exact Nat.le_of_eq rfl) (hb hby at_25) (fun _ _ => ⟨rfl, e11, (by decide : 0 + 0 ≤ _), (by decide : 0 + 0 ≤ _)⟩)
    dsimp only [Pt.U, Pt.locs, Pt.cells, Pt.slots] at X12 l12 y12 z12 st12 hQ12
    subst l12 y12 z12
    obtain ⟨rfl, N12q, e12⟩ := hQ12
    have N12 := Fr.app N11 N12q
    refine own_step (fun _ k => st12.trans k) ?_
    show own_Fin p e below s _ _ _ (T12.setTop (mkF m 28 #[.val (.int p0), .val (.int (2 : Int32)), .val (.ref s_AR), .val (.int (0 : Int32))] [(.int (0 : Int32))]))
    refine own_step (fun _ k => XS.iloadN X12.here hx rfl (hb hby at_28) rfl k) ?_
    show own_Fin p e below s _ _ _ (T12.setTop (mkF m 29 #[.val (.int p0), .val (.int (2 : Int32)), .val (.ref s_AR), .val (.int (0 : Int32))] [(.int (0 : Int32)), (.int (0 : Int32))]))
    refine own_step (fun _ k => XS.icmpNo X12.here hx rfl (hb hby at_29) rfl (teq (by decide : (0 : Int32) = (0 : Int32))).2 k) ?_
    show own_Fin p e below s _ _ _ (T12.setTop (mkF m 32 #[.val (.int p0), .val (.int (2 : Int32)), .val (.ref s_AR), .val (.int (0 : Int32))] []))
    refine own_step (fun _ k => XS.iconst X12.here hx rfl (hb hby at_32) k) ?_
    show own_Fin p e below s _ _ _ (T12.setTop (mkF m 33 #[.val (.int p0), .val (.int (2 : Int32)), .val (.ref s_AR), .val (.int (0 : Int32))] [(.int (1 : Int32))]))
    refine own_step (fun _ k => XS.goto X12.here hx rfl (pc0 := 33) (pc' := 37) rfl (hb hby at_33) (by decide) (by decide) k) ?_
    show own_Fin p e below s _ _ _ (T12.setTop (mkF m 37 #[.val (.int p0), .val (.int (2 : Int32)), .val (.ref s_AR), .val (.int (0 : Int32))] [(.int (1 : Int32))]))
    exact own_ret X12 hlk (v := some (.int (1 : Int32))) (fun h => by rw [Bd.returns] at h; cases h) (by decide) (by decide) (by show own_Q13 Z p0 s_AA s_CA s_CE s_CR s_AE s_AR h0 n0 _ T12.heap _; rw [e12]; exact ⟨rfl, N12⟩) (fun fs hr => retN X12 hx (t := .boolean) Bd.returns (by simp) (hb hby at_37) hr)
  · rw [hk4]
    show own_Fin p e below s _ _ _ (s₁.setTop (mkF m 8 #[.val (.int p0), .val (.int (3 : Int32)), .unset, .unset] []))
    refine own_step (fun _ k => XS.iloadN X0.here hx rfl (hb hby at_8) rfl k) ?_
    show own_Fin p e below s _ _ _ (s₁.setTop (mkF m 9 #[.val (.int p0), .val (.int (3 : Int32)), .unset, .unset] [(.int (3 : Int32))]))
    obtain ⟨_, _, ⟨T13, L13, k13, n13⟩, -, X13, ⟨Lc13, hQ13, l13, y13, z13⟩, st13⟩ := Jvm.LawKit.callS X0 hx (y := own_y0) hown (mvT hZ (own_w hw 1 rfl)) (mvT hZ (own_w hw 2 rfl)) (mvT hZ (own_w hw 3 rfl)) (mvT hZ (own_w hw 4 rfl)) (by decide) (backOf (W := 0) (own_rm4 l Z a0 hw [] s_CA h0 n0 Z0 S_CA) hZ (own_w hw 4 rfl) (own_w hw 3 rfl) (by decide) (by decide)) (g := (mkF m 9 #[.val (.int p0), .val (.int (3 : Int32)), .unset, .unset] [(.int (3 : Int32))])) rfl (by rw [hml]; rfl) (argsL := [(.int (3 : Int32))]) (rest := []) (lenOf own_pd0 rfl) rfl (by show 2 * 0 + _ ≤ _; exact Nat.le_of_eq rfl) (hb hby at_9) (fun _ _ => ⟨rfl, e0, (by decide : 0 + 0 ≤ _), (by decide : 0 + 0 ≤ _)⟩)
    dsimp only [Pt.U, Pt.locs, Pt.cells, Pt.slots] at X13 l13 y13 z13 st13 hQ13
    subst l13 y13 z13
    obtain ⟨rfl, N13q, e13⟩ := hQ13
    have N13 := Fr.app N0 N13q
    refine own_step (fun _ k => st13 _ k) ?_
    show own_Fin p e below s _ _ _ (T13.setTop (mkF m 12 #[.val (.int p0), .val (.int (3 : Int32)), .unset, .unset] [(.ref s_CA)]))
    refine own_step (fun _ k => XS.astoreN X13.here hx rfl (hb hby at_12) rfl rfl (l' := #[.val (.int p0), .val (.int (3 : Int32)), .val (.ref s_CA), .unset]) rfl k) ?_
    show own_Fin p e below s _ _ _ (T13.setTop (mkF m 13 #[.val (.int p0), .val (.int (3 : Int32)), .val (.ref s_CA), .unset] []))
    refine own_step (fun _ k => XS.iloadN X13.here hx rfl (hb hby at_13) rfl k) ?_
    show own_Fin p e below s _ _ _ (T13.setTop (mkF m 14 #[.val (.int p0), .val (.int (3 : Int32)), .val (.ref s_CA), .unset] [(.int (3 : Int32))]))
    refine own_step (fun _ k => XS.iconst X13.here hx rfl (hb hby at_14) k) ?_
    show own_Fin p e below s _ _ _ (T13.setTop (mkF m 15 #[.val (.int p0), .val (.int (3 : Int32)), .val (.ref s_CA), .unset] [(.int (3 : Int32)), (.int (3 : Int32))]))
    refine own_step (fun _ k => XS.icmpNo X13.here hx rfl (hb hby at_15) rfl (flt (by decide : ¬ ((3 : Int32) < (3 : Int32)))).1 k) ?_
    show own_Fin p e below s _ _ _ (T13.setTop (mkF m 18 #[.val (.int p0), .val (.int (3 : Int32)), .val (.ref s_CA), .unset] []))
    refine own_step (fun _ k => XS.iconst X13.here hx rfl (hb hby at_18) k) ?_
    show own_Fin p e below s _ _ _ (T13.setTop (mkF m 19 #[.val (.int p0), .val (.int (3 : Int32)), .val (.ref s_CA), .unset] [(.int (1 : Int32))]))
    refine own_step (fun _ k => XS.goto X13.here hx rfl (pc0 := 19) (pc' := 23) rfl (hb hby at_19) (by decide) (by decide) k) ?_
    show own_Fin p e below s _ _ _ (T13.setTop (mkF m 23 #[.val (.int p0), .val (.int (3 : Int32)), .val (.ref s_CA), .unset] [(.int (1 : Int32))]))
    refine own_step (fun _ k => XS.istoreN X13.here hx rfl (hb hby at_23) rfl (l' := #[.val (.int p0), .val (.int (3 : Int32)), .val (.ref s_CA), .val (.int (1 : Int32))]) rfl k) ?_
    show own_Fin p e below s _ _ _ (T13.setTop (mkF m 24 #[.val (.int p0), .val (.int (3 : Int32)), .val (.ref s_CA), .val (.int (1 : Int32))] []))
    refine own_step (fun _ k => XS.aloadN X13.here hx rfl (hb hby at_24) rfl rfl k) ?_
    show own_Fin p e below s _ _ _ (T13.setTop (mkF m 25 #[.val (.int p0), .val (.int (3 : Int32)), .val (.ref s_CA), .val (.int (1 : Int32))] [(.ref s_CA)]))
    obtain ⟨cq14, kq14, q14a, q14b, q14c⟩ := isOf hZ e13 E_s_CA
    obtain ⟨_, _, ⟨T14, L14, k14, n14⟩, -, X14, ⟨Lc14, hQ14, l14, y14, z14⟩, st14⟩ := X13.virtualBack hx (y := own_y1) (z := own_y1) hown (mvT hZ (own_w hw 8 rfl)) (mvT hZ (own_w hw 9 rfl)) (notFace_of_selects (args := #[]) (mvT hZ (own_w hw 11 rfl))) (mvT hZ (own_w hw 11 rfl)) (mvT hZ (own_w hw 10 rfl)) (by decide) (backOf (W := 0) (own_rm10 l Z a0 hw [] s_CA h0 n0 Z0 S_CA) hZ (own_w hw 12 rfl) (own_w hw 6 rfl) (by decide) (by decide)) q14a q14c (g := (mkF m 25 #[.val (.int p0), .val (.int (3 : Int32)), .val (.ref s_CA), .val (.int (1 : Int32))] [(.ref s_CA)])) rfl (by rw [hml]; rfl) (Steps.refl _) (argsL := []) (rest := []) (lenOf own_pd1 rfl) rfl (by show 2 * 0 + _ ≤ _; exact Nat.le_of_eq rfl) (hb hby at_25) (fun _ _ => ⟨rfl, e13, (by decide : 0 + 0 ≤ _), (by decide : 0 + 0 ≤ _)⟩)
    dsimp only [Pt.U, Pt.locs, Pt.cells, Pt.slots] at X14 l14 y14 z14 st14 hQ14
    subst l14 y14 z14
    obtain ⟨rfl, N14q, e14⟩ := hQ14
    have N14 := Fr.app N13 N14q
    refine own_step (fun _ k => st14.trans k) ?_
    show own_Fin p e below s _ _ _ (T14.setTop (mkF m 28 #[.val (.int p0), .val (.int (3 : Int32)), .val (.ref s_CA), .val (.int (1 : Int32))] [(.int (1 : Int32))]))
    refine own_step (fun _ k => XS.iloadN X14.here hx rfl (hb hby at_28) rfl k) ?_
    show own_Fin p e below s _ _ _ (T14.setTop (mkF m 29 #[.val (.int p0), .val (.int (3 : Int32)), .val (.ref s_CA), .val (.int (1 : Int32))] [(.int (1 : Int32)), (.int (1 : Int32))]))
    refine own_step (fun _ k => XS.icmpNo X14.here hx rfl (hb hby at_29) rfl (teq (by decide : (1 : Int32) = (1 : Int32))).2 k) ?_
    show own_Fin p e below s _ _ _ (T14.setTop (mkF m 32 #[.val (.int p0), .val (.int (3 : Int32)), .val (.ref s_CA), .val (.int (1 : Int32))] []))
    refine own_step (fun _ k => XS.iconst X14.here hx rfl (hb hby at_32) k) ?_
    show own_Fin p e below s _ _ _ (T14.setTop (mkF m 33 #[.val (.int p0), .val (.int (3 : Int32)), .val (.ref s_CA), .val (.int (1 : Int32))] [(.int (1 : Int32))]))
    refine own_step (fun _ k => XS.goto X14.here hx rfl (pc0 := 33) (pc' := 37) rfl (hb hby at_33) (by decide) (by decide) k) ?_
    show own_Fin p e below s _ _ _ (T14.setTop (mkF m 37 #[.val (.int p0), .val (.int (3 : Int32)), .val (.ref s_CA), .val (.int (1 : Int32))] [(.int (1 : Int32))]))
    exact own_ret X14 hlk (v := some (.int (1 : Int32))) (fun h => by rw [Bd.returns] at h; cases h) (by decide) (by decide) (by show own_Q13 Z p0 s_AA s_CA s_CE s_CR s_AE s_AR h0 n0 _ T14.heap _; rw [e14]; exact ⟨rfl, N14⟩) (fun fs hr => retN X14 hx (t := .boolean) Bd.returns (by simp) (hb hby at_37) hr)
  · rw [hk5]
    show own_Fin p e below s _ _ _ (s₁.setTop (mkF m 8 #[.val (.int p0), .val (.int (4 : Int32)), .unset, .unset] []))
    refine own_step (fun _ k => XS.iloadN X0.here hx rfl (hb hby at_8) rfl k) ?_
    show own_Fin p e below s _ _ _ (s₁.setTop (mkF m 9 #[.val (.int p0), .val (.int (4 : Int32)), .unset, .unset] [(.int (4 : Int32))]))
    obtain ⟨_, _, ⟨T15, L15, k15, n15⟩, -, X15, ⟨Lc15, hQ15, l15, y15, z15⟩, st15⟩ := Jvm.LawKit.callS X0 hx (y := own_y0) hown (mvT hZ (own_w hw 1 rfl)) (mvT hZ (own_w hw 2 rfl)) (mvT hZ (own_w hw 3 rfl)) (mvT hZ (own_w hw 4 rfl)) (by decide) (backOf (W := 0) (own_rm5 l Z a0 hw [] s_CE h0 n0 Z0 S_CE) hZ (own_w hw 4 rfl) (own_w hw 3 rfl) (by decide) (by decide)) (g := (mkF m 9 #[.val (.int p0), .val (.int (4 : Int32)), .unset, .unset] [(.int (4 : Int32))])) rfl (by rw [hml]; rfl) (argsL := [(.int (4 : Int32))]) (rest := []) (lenOf own_pd0 rfl) rfl (by show 2 * 0 + _ ≤ _; exact Nat.le_of_eq rfl) (hb hby at_9) (fun _ _ => ⟨rfl, e0, (by decide : 0 + 0 ≤ _), (by decide : 0 + 0 ≤ _)⟩)
    dsimp only [Pt.U, Pt.locs, Pt.cells, Pt.slots] at X15 l15 y15 z15 st15 hQ15
    subst l15 y15 z15
    obtain ⟨rfl, N15q, e15⟩ := hQ15
    have N15 := Fr.app N0 N15q
    refine own_step (fun _ k => st15 _ k) ?_
    show own_Fin p e below s _ _ _ (T15.setTop (mkF m 12 #[.val (.int p0), .val (.int (4 : Int32)), .unset, .unset] [(.ref s_CE)]))
    refine own_step (fun _ k => XS.astoreN X15.here hx rfl (hb hby at_12) rfl rfl (l' := #[.val (.int p0), .val (.int (4 : Int32)), .val (.ref s_CE), .unset]) rfl k) ?_
    show own_Fin p e below s _ _ _ (T15.setTop (mkF m 13 #[.val (.int p0), .val (.int (4 : Int32)), .val (.ref s_CE), .unset] []))
    refine own_step (fun _ k => XS.iloadN X15.here hx rfl (hb hby at_13) rfl k) ?_
    show own_Fin p e below s _ _ _ (T15.setTop (mkF m 14 #[.val (.int p0), .val (.int (4 : Int32)), .val (.ref s_CE), .unset] [(.int (4 : Int32))]))
    refine own_step (fun _ k => XS.iconst X15.here hx rfl (hb hby at_14) k) ?_
    show own_Fin p e below s _ _ _ (T15.setTop (mkF m 15 #[.val (.int p0), .val (.int (4 : Int32)), .val (.ref s_CE), .unset] [(.int (3 : Int32)), (.int (4 : Int32))]))
    refine own_step (fun _ k => XS.icmpNo X15.here hx rfl (hb hby at_15) rfl (flt (by decide : ¬ ((4 : Int32) < (3 : Int32)))).1 k) ?_
    show own_Fin p e below s _ _ _ (T15.setTop (mkF m 18 #[.val (.int p0), .val (.int (4 : Int32)), .val (.ref s_CE), .unset] []))
    refine own_step (fun _ k => XS.iconst X15.here hx rfl (hb hby at_18) k) ?_
    show own_Fin p e below s _ _ _ (T15.setTop (mkF m 19 #[.val (.int p0), .val (.int (4 : Int32)), .val (.ref s_CE), .unset] [(.int (1 : Int32))]))
    refine own_step (fun _ k => XS.goto X15.here hx rfl (pc0 := 19) (pc' := 23) rfl (hb hby at_19) (by decide) (by decide) k) ?_
    show own_Fin p e below s _ _ _ (T15.setTop (mkF m 23 #[.val (.int p0), .val (.int (4 : Int32)), .val (.ref s_CE), .unset] [(.int (1 : Int32))]))
    refine own_step (fun _ k => XS.istoreN X15.here hx rfl (hb hby at_23) rfl (l' := #[.val (.int p0), .val (.int (4 : Int32)), .val (.ref s_CE), .val (.int (1 : Int32))]) rfl k) ?_
    show own_Fin p e below s _ _ _ (T15.setTop (mkF m 24 #[.val (.int p0), .val (.int (4 : Int32)), .val (.ref s_CE), .val (.int (1 : Int32))] []))
    refine own_step (fun _ k => XS.aloadN X15.here hx rfl (hb hby at_24) rfl rfl k) ?_
    show own_Fin p e below s _ _ _ (T15.setTop (mkF m 25 #[.val (.int p0), .val (.int (4 : Int32)), .val (.ref s_CE), .val (.int (1 : Int32))] [(.ref s_CE)]))
    obtain ⟨cq16, kq16, q16a, q16b, q16c⟩ := isOf hZ e15 E_s_CE
    obtain ⟨_, _, ⟨T16, L16, k16, n16⟩, -, X16, ⟨Lc16, hQ16, l16, y16, z16⟩, st16⟩ := X15.virtualBack hx (y := own_y1) (z := own_y1) hown (mvT hZ (own_w hw 8 rfl)) (mvT hZ (own_w hw 9 rfl)) (notFace_of_selects (args := #[]) (mvT hZ (own_w hw 11 rfl))) (mvT hZ (own_w hw 11 rfl)) (mvT hZ (own_w hw 10 rfl)) (by decide) (backOf (W := 0) (own_rm11 l Z a0 hw [] s_CE s_CA h0 n0 Z0 S_CA ne_s_CE_s_CA S_CE) hZ (own_w hw 12 rfl) (own_w hw 6 rfl) (by decide) (by decide)) q16a q16c (g := (mkF m 25 #[.val (.int p0), .val (.int (4 : Int32)), .val (.ref s_CE), .val (.int (1 : Int32))] [(.ref s_CE)])) rfl (by rw [hml]; rfl) (Steps.refl _) (argsL := []) (rest := []) (lenOf own_pd1 rfl) rfl (by show 2 * 0 + _ ≤ _; exact Nat.le_of_eq rfl) (hb hby at_25) (fun _ _ => ⟨rfl, e15, (by decide : 0 + 0 ≤ _), (by decide : 0 + 0 ≤ _)⟩)
    dsimp only [Pt.U, Pt.locs, Pt.cells, Pt.slots] at X16 l16 y16 z16 st16 hQ16
    subst l16 y16 z16
    obtain ⟨rfl, N16q, e16⟩ := hQ16
    have N16 := Fr.app N15 N16q
    refine own_step (fun _ k => st16.trans k) ?_
    show own_Fin p e below s _ _ _ (T16.setTop (mkF m 28 #[.val (.int p0), .val (.int (4 : Int32)), .val (.ref s_CE), .val (.int (1 : Int32))] [(.int (1 : Int32))]))
    refine own_step (fun _ k => XS.iloadN X16.here hx rfl (hb hby at_28) rfl k) ?_
    show own_Fin p e below s _ _ _ (T16.setTop (mkF m 29 #[.val (.int p0), .val (.int (4 : Int32)), .val (.ref s_CE), .val (.int (1 : Int32))] [(.int (1 : Int32)), (.int (1 : Int32))]))
    refine own_step (fun _ k => XS.icmpNo X16.here hx rfl (hb hby at_29) rfl (teq (by decide : (1 : Int32) = (1 : Int32))).2 k) ?_
    show own_Fin p e below s _ _ _ (T16.setTop (mkF m 32 #[.val (.int p0), .val (.int (4 : Int32)), .val (.ref s_CE), .val (.int (1 : Int32))] []))
    refine own_step (fun _ k => XS.iconst X16.here hx rfl (hb hby at_32) k) ?_
    show own_Fin p e below s _ _ _ (T16.setTop (mkF m 33 #[.val (.int p0), .val (.int (4 : Int32)), .val (.ref s_CE), .val (.int (1 : Int32))] [(.int (1 : Int32))]))
    refine own_step (fun _ k => XS.goto X16.here hx rfl (pc0 := 33) (pc' := 37) rfl (hb hby at_33) (by decide) (by decide) k) ?_
    show own_Fin p e below s _ _ _ (T16.setTop (mkF m 37 #[.val (.int p0), .val (.int (4 : Int32)), .val (.ref s_CE), .val (.int (1 : Int32))] [(.int (1 : Int32))]))
    exact own_ret X16 hlk (v := some (.int (1 : Int32))) (fun h => by rw [Bd.returns] at h; cases h) (by decide) (by decide) (by show own_Q13 Z p0 s_AA s_CA s_CE s_CR s_AE s_AR h0 n0 _ T16.heap _; rw [e16]; exact ⟨rfl, N16⟩) (fun fs hr => retN X16 hx (t := .boolean) Bd.returns (by simp) (hb hby at_37) hr)
  · rw [hk6]
    show own_Fin p e below s _ _ _ (s₁.setTop (mkF m 8 #[.val (.int p0), .val (.int (5 : Int32)), .unset, .unset] []))
    refine own_step (fun _ k => XS.iloadN X0.here hx rfl (hb hby at_8) rfl k) ?_
    show own_Fin p e below s _ _ _ (s₁.setTop (mkF m 9 #[.val (.int p0), .val (.int (5 : Int32)), .unset, .unset] [(.int (5 : Int32))]))
    obtain ⟨_, _, ⟨T17, L17, k17, n17⟩, -, X17, ⟨Lc17, hQ17, l17, y17, z17⟩, st17⟩ := Jvm.LawKit.callS X0 hx (y := own_y0) hown (mvT hZ (own_w hw 1 rfl)) (mvT hZ (own_w hw 2 rfl)) (mvT hZ (own_w hw 3 rfl)) (mvT hZ (own_w hw 4 rfl)) (by decide) (backOf (W := 0) (own_rm6 l Z a0 hw [] s_CR h0 n0 Z0 S_CR) hZ (own_w hw 4 rfl) (own_w hw 3 rfl) (by decide) (by decide)) (g := (mkF m 9 #[.val (.int p0), .val (.int (5 : Int32)), .unset, .unset] [(.int (5 : Int32))])) rfl (by rw [hml]; rfl) (argsL := [(.int (5 : Int32))]) (rest := []) (lenOf own_pd0 rfl) rfl (by show 2 * 0 + _ ≤ _; exact Nat.le_of_eq rfl) (hb hby at_9) (fun _ _ => ⟨rfl, e0, (by decide : 0 + 0 ≤ _), (by decide : 0 + 0 ≤ _)⟩)
    dsimp only [Pt.U, Pt.locs, Pt.cells, Pt.slots] at X17 l17 y17 z17 st17 hQ17
    subst l17 y17 z17
    obtain ⟨rfl, N17q, e17⟩ := hQ17
    have N17 := Fr.app N0 N17q
    refine own_step (fun _ k => st17 _ k) ?_
    show own_Fin p e below s _ _ _ (T17.setTop (mkF m 12 #[.val (.int p0), .val (.int (5 : Int32)), .unset, .unset] [(.ref s_CR)]))
    refine own_step (fun _ k => XS.astoreN X17.here hx rfl (hb hby at_12) rfl rfl (l' := #[.val (.int p0), .val (.int (5 : Int32)), .val (.ref s_CR), .unset]) rfl k) ?_
    show own_Fin p e below s _ _ _ (T17.setTop (mkF m 13 #[.val (.int p0), .val (.int (5 : Int32)), .val (.ref s_CR), .unset] []))
    refine own_step (fun _ k => XS.iloadN X17.here hx rfl (hb hby at_13) rfl k) ?_
    show own_Fin p e below s _ _ _ (T17.setTop (mkF m 14 #[.val (.int p0), .val (.int (5 : Int32)), .val (.ref s_CR), .unset] [(.int (5 : Int32))]))
    refine own_step (fun _ k => XS.iconst X17.here hx rfl (hb hby at_14) k) ?_
    show own_Fin p e below s _ _ _ (T17.setTop (mkF m 15 #[.val (.int p0), .val (.int (5 : Int32)), .val (.ref s_CR), .unset] [(.int (3 : Int32)), (.int (5 : Int32))]))
    refine own_step (fun _ k => XS.icmpNo X17.here hx rfl (hb hby at_15) rfl (flt (by decide : ¬ ((5 : Int32) < (3 : Int32)))).1 k) ?_
    show own_Fin p e below s _ _ _ (T17.setTop (mkF m 18 #[.val (.int p0), .val (.int (5 : Int32)), .val (.ref s_CR), .unset] []))
    refine own_step (fun _ k => XS.iconst X17.here hx rfl (hb hby at_18) k) ?_
    show own_Fin p e below s _ _ _ (T17.setTop (mkF m 19 #[.val (.int p0), .val (.int (5 : Int32)), .val (.ref s_CR), .unset] [(.int (1 : Int32))]))
    refine own_step (fun _ k => XS.goto X17.here hx rfl (pc0 := 19) (pc' := 23) rfl (hb hby at_19) (by decide) (by decide) k) ?_
    show own_Fin p e below s _ _ _ (T17.setTop (mkF m 23 #[.val (.int p0), .val (.int (5 : Int32)), .val (.ref s_CR), .unset] [(.int (1 : Int32))]))
    refine own_step (fun _ k => XS.istoreN X17.here hx rfl (hb hby at_23) rfl (l' := #[.val (.int p0), .val (.int (5 : Int32)), .val (.ref s_CR), .val (.int (1 : Int32))]) rfl k) ?_
    show own_Fin p e below s _ _ _ (T17.setTop (mkF m 24 #[.val (.int p0), .val (.int (5 : Int32)), .val (.ref s_CR), .val (.int (1 : Int32))] []))
    refine own_step (fun _ k => XS.aloadN X17.here hx rfl (hb hby at_24) rfl rfl k) ?_
    show own_Fin p e below s _ _ _ (T17.setTop (mkF m 25 #[.val (.int p0), .val (.int (5 : Int32)), .val (.ref s_CR), .val (.int (1 : Int32))] [(.ref s_CR)]))
    obtain ⟨cq18, kq18, q18a, q18b, q18c⟩ := isOf hZ e17 E_s_CR
    obtain ⟨_, _, ⟨T18, L18, k18, n18⟩, -, X18, ⟨Lc18, hQ18, l18, y18, z18⟩, st18⟩ := X17.virtualBack hx (y := own_y1) (z := own_y1) hown (mvT hZ (own_w hw 8 rfl)) (mvT hZ (own_w hw 9 rfl)) (notFace_of_selects (args := #[]) (mvT hZ (own_w hw 11 rfl))) (mvT hZ (own_w hw 11 rfl)) (mvT hZ (own_w hw 10 rfl)) (by decide) (backOf (W := 0) (own_rm12 l Z a0 hw [] s_CR s_CA s_CE h0 n0 Z0 S_CA ne_s_CR_s_CA S_CE ne_s_CR_s_CE S_CR) hZ (own_w hw 12 rfl) (own_w hw 6 rfl) (by decide) (by decide)) q18a q18c (g := (mkF m 25 #[.val (.int p0), .val (.int (5 : Int32)), .val (.ref s_CR), .val (.int (1 : Int32))] [(.ref s_CR)])) rfl (by rw [hml]; rfl) (Steps.refl _) (argsL := []) (rest := []) (lenOf own_pd1 rfl) rfl (by show 2 * 0 + _ ≤ _; exact Nat.le_of_eq rfl) (hb hby at_25) (fun _ _ => ⟨rfl, e17, (by decide : 0 + 0 ≤ _), (by decide : 0 + 0 ≤ _)⟩)
    dsimp only [Pt.U, Pt.locs, Pt.cells, Pt.slots] at X18 l18 y18 z18 st18 hQ18
    subst l18 y18 z18
    obtain ⟨rfl, N18q, e18⟩ := hQ18
    have N18 := Fr.app N17 N18q
    refine own_step (fun _ k => st18.trans k) ?_
    show own_Fin p e below s _ _ _ (T18.setTop (mkF m 28 #[.val (.int p0), .val (.int (5 : Int32)), .val (.ref s_CR), .val (.int (1 : Int32))] [(.int (1 : Int32))]))
    refine own_step (fun _ k => XS.iloadN X18.here hx rfl (hb hby at_28) rfl k) ?_
    show own_Fin p e below s _ _ _ (T18.setTop (mkF m 29 #[.val (.int p0), .val (.int (5 : Int32)), .val (.ref s_CR), .val (.int (1 : Int32))] [(.int (1 : Int32)), (.int (1 : Int32))]))
    refine own_step (fun _ k => XS.icmpNo X18.here hx rfl (hb hby at_29) rfl (teq (by decide : (1 : Int32) = (1 : Int32))).2 k) ?_
    show own_Fin p e below s _ _ _ (T18.setTop (mkF m 32 #[.val (.int p0), .val (.int (5 : Int32)), .val (.ref s_CR), .val (.int (1 : Int32))] []))
    refine own_step (fun _ k => XS.iconst X18.here hx rfl (hb hby at_32) k) ?_
    show own_Fin p e below s _ _ _ (T18.setTop (mkF m 33 #[.val (.int p0), .val (.int (5 : Int32)), .val (.ref s_CR), .val (.int (1 : Int32))] [(.int (1 : Int32))]))
    refine own_step (fun _ k => XS.goto X18.here hx rfl (pc0 := 33) (pc' := 37) rfl (hb hby at_33) (by decide) (by decide) k) ?_
    show own_Fin p e below s _ _ _ (T18.setTop (mkF m 37 #[.val (.int p0), .val (.int (5 : Int32)), .val (.ref s_CR), .val (.int (1 : Int32))] [(.int (1 : Int32))]))
    exact own_ret X18 hlk (v := some (.int (1 : Int32))) (fun h => by rw [Bd.returns] at h; cases h) (by decide) (by decide) (by show own_Q13 Z p0 s_AA s_CA s_CE s_CR s_AE s_AR h0 n0 _ T18.heap _; rw [e18]; exact ⟨rfl, N18⟩) (fun fs hr => retN X18 hx (t := .boolean) Bd.returns (by simp) (hb hby at_37) hr)

set_option maxRecDepth 65536 in
set_option maxHeartbeats 40000000 in
theorem comes_1 {Post : Tables → Env → Array Value → State → Outcome → State → Prop} (hpost : ∀ tb e args s v u, (limb_1_1.after args s (.returned v) u = true ∧ limb_1_2.after args s (.returned v) u = true ∧ True) → FrameEnd s (.returned v) u (Jvm.fieldLocs frame_1_writes args s ++ Jvm.arrayLocs frame_1_arrays args s ++ Jvm.staticLocs frame_1_statics s) 0 0 → Post tb e args s (.returned v) u) :
    ArmFor flags0 classFile x code maxLocals ret World_1 tables_1 room_1 Calls_1 rest_1 Pre_1 Post := by
  intro l hfl _ _ p e ha hc hk s m args below hf hA hF happ hP
  obtain ⟨hcalls, hrest, hpre⟩ := hP
  obtain ⟨-, -, -, hnamed, -, -, -, hat⟩ := (Spec.applies_iff hf).mp happ
  obtain ⟨hg, hn⟩ := and_e (Cond.before_iff.mp (show (Jvm.Cond.and given_1 narrow_1).before args s = true from hpre))
  obtain ⟨cj1a, cj1b⟩ := and_e hg
  obtain ⟨w0, rfl⟩ : ∃ w0 : Value, args = #[w0] := by
    have hs : args.size = 1 := by simpa [Cond.value, given_1] using cj1a
    obtain ⟨L⟩ := args
    match L, hs with
    | [w0], _ => exact ⟨w0, rfl⟩
  have hw := fun d (hd : d ∈ tables_1) => atoms_spec (ws := Jvm.Cond.code x code maxLocals ret :: tables_1) hat d (List.mem_cons_of_mem _ hd)
  have hfit : Fit s := fun {y c} hc i hi => by
    obtain ⟨ha, rfl⟩ := Array.getElem?_eq_some_iff.mp hc
    have q := List.all_eq_true.mp ((Array.all_eq_true_iff_forall_mem.mp hF) _ (Array.getElem_mem ha)) i (List.mem_range.mpr hi)
    simpa [Array.getElem?_eq_getElem hi] using q
  obtain ⟨i0, ei0⟩ := is_v cj1b
  obtain rfl : w0 = (.int i0) := Option.some.inj ei0
  obtain ⟨cj2a, cj2b⟩ := and_e hn
  obtain ⟨cj3a, cj3b⟩ := and_e cj2b
  obtain ⟨cj4a, cj4b⟩ := and_e cj3b
  obtain ⟨cj5a, cj5b⟩ := and_e cj4b
  obtain ⟨cj6a, cj6b⟩ := and_e cj5b
  obtain ⟨cj7a, cj7b⟩ := and_e cj6b
  obtain ⟨cj8a, cj8b⟩ := and_e cj7b
  obtain ⟨cj9a, cj9b⟩ := and_e cj8b
  obtain ⟨cj10a, cj10b⟩ := and_e cj9b
  obtain ⟨cj11a, cj11b⟩ := and_e cj10b
  obtain ⟨cj12a, cj12b⟩ := and_e cj11b
  obtain ⟨s_AA, ev_s_AA⟩ := exa_v cj2a
  have S_AA : Sta s s.heap "com/example/pipehat/pipehat/Acknowledgment$Code" "AA" "Lcom/example/pipehat/pipehat/Acknowledgment$Code;" (.ref s_AA) := Sta.start ev_s_AA (Or.inr ⟨(own_w hw 6 rfl), (own_w hw 7 rfl)⟩)
  have E_s_AA : Exa s s.heap s_AA "com/example/pipehat/pipehat/Acknowledgment$Code" := Exa.start ev_s_AA cj2a
  obtain ⟨s_CA, ev_s_CA⟩ := exa_v cj3a
  have S_CA : Sta s s.heap "com/example/pipehat/pipehat/Acknowledgment$Code" "CA" "Lcom/example/pipehat/pipehat/Acknowledgment$Code;" (.ref s_CA) := Sta.start ev_s_CA (Or.inr ⟨(own_w hw 6 rfl), (own_w hw 14 rfl)⟩)
  have E_s_CA : Exa s s.heap s_CA "com/example/pipehat/pipehat/Acknowledgment$Code" := Exa.start ev_s_CA cj3a
  obtain ⟨s_CE, ev_s_CE⟩ := exa_v cj6a
  have S_CE : Sta s s.heap "com/example/pipehat/pipehat/Acknowledgment$Code" "CE" "Lcom/example/pipehat/pipehat/Acknowledgment$Code;" (.ref s_CE) := Sta.start ev_s_CE (Or.inr ⟨(own_w hw 6 rfl), (own_w hw 16 rfl)⟩)
  have E_s_CE : Exa s s.heap s_CE "com/example/pipehat/pipehat/Acknowledgment$Code" := Exa.start ev_s_CE cj6a
  obtain ⟨s_CR, ev_s_CR⟩ := exa_v cj8a
  have S_CR : Sta s s.heap "com/example/pipehat/pipehat/Acknowledgment$Code" "CR" "Lcom/example/pipehat/pipehat/Acknowledgment$Code;" (.ref s_CR) := Sta.start ev_s_CR (Or.inr ⟨(own_w hw 6 rfl), (own_w hw 18 rfl)⟩)
  have E_s_CR : Exa s s.heap s_CR "com/example/pipehat/pipehat/Acknowledgment$Code" := Exa.start ev_s_CR cj8a
  obtain ⟨s_AR, ev_s_AR⟩ := exa_v cj10a
  have S_AR : Sta s s.heap "com/example/pipehat/pipehat/Acknowledgment$Code" "AR" "Lcom/example/pipehat/pipehat/Acknowledgment$Code;" (.ref s_AR) := Sta.start ev_s_AR (Or.inr ⟨(own_w hw 6 rfl), (own_w hw 21 rfl)⟩)
  have E_s_AR : Exa s s.heap s_AR "com/example/pipehat/pipehat/Acknowledgment$Code" := Exa.start ev_s_AR cj10a
  obtain ⟨s_AE, ev_s_AE⟩ := exa_v cj12a
  have S_AE : Sta s s.heap "com/example/pipehat/pipehat/Acknowledgment$Code" "AE" "Lcom/example/pipehat/pipehat/Acknowledgment$Code;" (.ref s_AE) := Sta.start ev_s_AE (Or.inr ⟨(own_w hw 6 rfl), (own_w hw 23 rfl)⟩)
  have E_s_AE : Exa s s.heap s_AE "com/example/pipehat/pipehat/Acknowledgment$Code" := Exa.start ev_s_AE cj12a
  have ev_wordinal_s_AA := eqv_i rfl cj4a
  have F_ordinal_s_AA : Fld s s.heap s_AA "java/lang/Enum" "ordinal" "I" (.int (0 : Int32)) := own_fldV ev_s_AA ev_wordinal_s_AA
  have ev_wordinal_s_CA := eqv_i rfl cj5a
  have F_ordinal_s_CA : Fld s s.heap s_CA "java/lang/Enum" "ordinal" "I" (.int (3 : Int32)) := own_fldV ev_s_CA ev_wordinal_s_CA
  have ev_wordinal_s_CE := eqv_i rfl cj7a
  have F_ordinal_s_CE : Fld s s.heap s_CE "java/lang/Enum" "ordinal" "I" (.int (4 : Int32)) := own_fldV ev_s_CE ev_wordinal_s_CE
  have ev_wordinal_s_CR := eqv_i rfl cj9a
  have F_ordinal_s_CR : Fld s s.heap s_CR "java/lang/Enum" "ordinal" "I" (.int (5 : Int32)) := own_fldV ev_s_CR ev_wordinal_s_CR
  have ev_wordinal_s_AR := eqv_i rfl cj11a
  have F_ordinal_s_AR : Fld s s.heap s_AR "java/lang/Enum" "ordinal" "I" (.int (2 : Int32)) := own_fldV ev_s_AR ev_wordinal_s_AR
  have ev_wordinal_s_AE := eqv_i rfl cj12b
  have F_ordinal_s_AE : Fld s s.heap s_AE "java/lang/Enum" "ordinal" "I" (.int (1 : Int32)) := own_fldV ev_s_AE ev_wordinal_s_AE
  obtain ⟨n, o, h1, h2, h3, _, L, rfl, ⟨rfl, N⟩, hq⟩ := own_rm13 l s _ hw tables_1 i0 s_AA s_CA s_CE s_CR s_AE s_AR s.heap s.heap.size (Nat.le_refl _) S_AA E_s_AA S_CA S_CE S_CR (Fld.ne F_ordinal_s_AA F_ordinal_s_CA (fun q => absurd (Value.int.inj q) (by decide))) (Fld.ne F_ordinal_s_AA F_ordinal_s_CE (fun q => absurd (Value.int.inj q) (by decide))) (Fld.ne F_ordinal_s_AA F_ordinal_s_CR (fun q => absurd (Value.int.inj q) (by decide))) S_AE E_s_AE (Fld.ne F_ordinal_s_AE F_ordinal_s_CA (fun q => absurd (Value.int.inj q) (by decide))) (Fld.ne F_ordinal_s_AE F_ordinal_s_CE (fun q => absurd (Value.int.inj q) (by decide))) (Fld.ne F_ordinal_s_AE F_ordinal_s_CR (fun q => absurd (Value.int.inj q) (by decide))) S_AR E_s_AR (Fld.ne F_ordinal_s_AR F_ordinal_s_CA (fun q => absurd (Value.int.inj q) (by decide))) (Fld.ne F_ordinal_s_AR F_ordinal_s_CE (fun q => absurd (Value.int.inj q) (by decide))) (Fld.ne F_ordinal_s_AR F_ordinal_s_CR (fun q => absurd (Value.int.inj q) (by decide))) E_s_CA E_s_CE (Fld.ne F_ordinal_s_CE F_ordinal_s_CA (fun q => absurd (Value.int.inj q) (by decide))) E_s_CR (Fld.ne F_ordinal_s_CR F_ordinal_s_CA (fun q => absurd (Value.int.inj q) (by decide))) (Fld.ne F_ordinal_s_CR F_ordinal_s_CE (fun q => absurd (Value.int.inj q) (by decide))) p e ha hc hk s m _ below hf ((Spec.applies_iff_loose hf).mp happ).1 ⟨rfl, State.Warmed39.refl s, rfl⟩ trivial
  refine ⟨n, _, h1, h2, h3, hpost _ _ _ _ _ _ ⟨Cond.after_iff.mpr rfl, Cond.after_iff.mpr (eq_i res_at (Term.int_eval (1)) rfl), trivial⟩ ⟨hq.1, hq.2.1, (hq.2.2.sift fun y hy => Or.inr (N y hy)).mono (by decide) (by decide)⟩⟩
theorem main_1_1 : Claimed_1_1 := comes_1 fun _ _ _ _ _ _ h hF => ⟨h.1, hF⟩
theorem main_1_2 : Claimed_1_2 := comes_1 fun _ _ _ _ _ _ h hF => ⟨h.2.1, hF⟩
end Jvm.Pilot.@@N@@
namespace Jvm.Pilot.@@N@@
open Jvm Jvm.ClassFile Sem Op Lib Jvm.Free Jvm.Stand Jvm.Pilot.@@N@@.Jvm.D
/-! MADE BY PROGRAM (witnessworld.py) out of the Statement's table words and the real class files: 12 classes; the members and pool entries that the words name. The judged class is class 1, her method 2. -/
namespace start1
open Jvm.ClassFile
def u (s : String) : CpInfo := .utf8 (stringToUtf16 s)
/-- a pool by its gaps: so many unusable entries, then the entry; so many at the end -/
def gap : Nat → List CpInfo → List CpInfo
  | 0, r => r
  | n + 1, r => .unusable :: gap n r
def poolList (es : List (Nat × CpInfo)) (last : Nat) : List CpInfo := es.foldr (fun e r => gap e.1 (e.2 :: r)) (gap last [])
def pool (es : List (Nat × CpInfo)) (last : Nat) : Array CpInfo := ⟨poolList es last⟩
def fileOf (pool : Array CpInfo) (this : Nat) (attrs : Array Attribute := #[]) (ms : Array MethodInfo := #[]) (fl : Nat := 33) (sup : Nat := 0) (ifs : Array Nat := #[]) (fds : Array FieldInfo := #[]) : ClassFile where
  minorVersion := 0
  majorVersion := 65
  constantPool := pool
  accessFlags := fl
  thisClass := this
  superClass := sup
  interfaces := ifs
  fields := fds
  methods := ms
  attributes := attrs
def plain (name : String) (sup : Option ClassId) : Class where
  name := name
  kind := .ordinary
  loader := none
  accessFlags := 33
  super := sup
  interfaces := #[]
  cf := none
  fields := #[]
  methods := #[]
  instanceTypes := #[]
  staticTypes := #[]
  resolved := #[]
  callSites := []
  init := .initialized
  statics := none
  mirror := none

def pool0 : Array CpInfo := pool [(5, u "<init>"), (0, u "()V"), (1, .class_ 10), (1, u "java/lang/Object")] 113

def k0m0 : Method := { name := "<init>", desc := "()V", sig := { parameters := [], returnType := none }, accessFlags := 1, code := none }
/-- java/lang/Object -/
def k0 : Class := { plain "java/lang/Object" none with
  accessFlags := 33
  interfaces := #[]
  cf := some (fileOf pool0 8 #[] #[{ accessFlags := 1, nameIndex := 5, descriptorIndex := 6, attributes := #[] }] 33 0 #[] #[])
  fields := #[]
  methods := #[k0m0]
  instanceTypes := #[]
  staticTypes := #[]
  resolved := Array.replicate 124 none
  statics := none }

def pool1 : Array CpInfo := pool [(2, .class_ 4), (1, u "java/lang/Object"), (0, u "<init>"), (0, u "()V"), (0, .fieldref 8 9), (0, .class_ 10), (0, .nameAndType 11 12), (0, u "com/example/pipehat/pipehat/Acknowledgment$Code"), (0, u "AA"), (0, u "Lcom/example/pipehat/pipehat/Acknowledgment$Code;"), (0, .fieldref 8 14), (0, .nameAndType 15 12), (0, u "AE"), (0, .fieldref 8 17), (0, .nameAndType 18 12), (0, u "AR"), (0, .fieldref 8 20), (0, .nameAndType 21 12), (0, u "CA"), (0, .fieldref 8 23), (0, .nameAndType 24 12), (0, u "CE"), (0, .fieldref 8 26), (0, .nameAndType 27 12), (0, u "CR"), (0, .integer 2147483647), (0, .methodref 30 31), (0, .class_ 32), (0, .nameAndType 33 34), (0, u "com/example/pipehat/pipehat/CodeIsEnhancedPinLaw"), (0, u "pick"), (0, u "(I)Lcom/example/pipehat/pipehat/Acknowledgment$Code;"), (0, .methodref 8 36), (0, .nameAndType 37 38), (0, u "isEnhanced"), (0, u "()Z"), (3, u "law"), (0, u "(I)Z")] 5

def k1m0 : Method := { name := "<init>", desc := "()V", sig := { parameters := [], returnType := none }, accessFlags := 2, code := none }
def k1c1 : Code := { maxStack := 2, maxLocals := 1, code := method_2_code, exceptionTable := #[], attributes := #[] }
def k1m1 : Method := { name := "pick", desc := "(I)Lcom/example/pipehat/pipehat/Acknowledgment$Code;", sig := { parameters := [.int], returnType := some (.object "com/example/pipehat/pipehat/Acknowledgment$Code") }, accessFlags := 10, code := some k1c1 }
def k1c2 : Code := { maxStack := 2, maxLocals := 4, code := code, exceptionTable := #[], attributes := #[] }
def k1m2 : Method := { name := "law", desc := "(I)Z", sig := { parameters := [.int], returnType := some .boolean }, accessFlags := 9, code := some k1c2 }
/-- com/example/pipehat/pipehat/CodeIsEnhancedPinLaw -/
def k1 : Class := { plain "com/example/pipehat/pipehat/CodeIsEnhancedPinLaw" (some 0) with
  accessFlags := 49
  interfaces := #[]
  cf := some (fileOf pool1 30 #[] #[{ accessFlags := 2, nameIndex := 5, descriptorIndex := 6, attributes := #[] }, { accessFlags := 10, nameIndex := 33, descriptorIndex := 34, attributes := #[] }, { accessFlags := 9, nameIndex := 42, descriptorIndex := 43, attributes := #[] }] 49 2 #[] #[])
  fields := #[]
  methods := #[k1m0, k1m1, k1m2]
  instanceTypes := #[]
  staticTypes := #[]
  resolved := Array.replicate 49 none
  statics := none }

def pool2 : Array CpInfo := pool [(1, .class_ 2), (0, u "java/lang/constant/Constable"), (0, .class_ 4), (0, u "java/lang/Object")] 6

/-- java/lang/constant/Constable -/
def k2 : Class := { plain "java/lang/constant/Constable" (some 0) with
  accessFlags := 1537
  interfaces := #[]
  cf := some (fileOf pool2 1 #[] #[] 1537 3 #[] #[])
  fields := #[]
  methods := #[]
  instanceTypes := #[]
  staticTypes := #[]
  resolved := Array.replicate 11 none
  statics := none }

def pool3 : Array CpInfo := pool [(1, .class_ 2), (0, u "java/lang/Comparable"), (0, .class_ 4), (0, u "java/lang/Object")] 7

/-- java/lang/Comparable -/
def k3 : Class := { plain "java/lang/Comparable" (some 0) with
  accessFlags := 1537
  interfaces := #[]
  cf := some (fileOf pool3 1 #[] #[] 1537 3 #[] #[])
  fields := #[]
  methods := #[]
  instanceTypes := #[]
  staticTypes := #[]
  resolved := Array.replicate 12 none
  statics := none }

def pool4 : Array CpInfo := pool [(1, .class_ 2), (0, u "java/io/Serializable"), (0, .class_ 4), (0, u "java/lang/Object")] 2

/-- java/io/Serializable -/
def k4 : Class := { plain "java/io/Serializable" (some 0) with
  accessFlags := 1537
  interfaces := #[]
  cf := some (fileOf pool4 1 #[] #[] 1537 3 #[] #[])
  fields := #[]
  methods := #[]
  instanceTypes := #[]
  staticTypes := #[]
  resolved := Array.replicate 7 none
  statics := none }

def pool5 : Array CpInfo := pool [(2, .class_ 4), (1, u "java/lang/Enum"), (0, u "name"), (0, u "Ljava/lang/String;"), (2, u "ordinal"), (0, u "I"), (1, .class_ 14), (1, u "java/lang/Object"), (4, u "hash"), (86, .class_ 108), (1, u "java/lang/Enum$EnumDesc"), (2, .class_ 112), (0, u "java/lang/constant/Constable"), (0, .class_ 114), (0, u "java/lang/Comparable"), (0, .class_ 116), (0, u "java/io/Serializable")] 87

/-- java/lang/Enum -/
def k5 : Class := { plain "java/lang/Enum" (some 0) with
  accessFlags := 1057
  interfaces := #[2, 3, 4]
  cf := some (fileOf pool5 2 #[.nestMembers #[106]] #[] 1057 12 #[111, 113, 115] #[{ accessFlags := 18, nameIndex := 5, descriptorIndex := 6, attributes := #[] }, { accessFlags := 18, nameIndex := 9, descriptorIndex := 10, attributes := #[] }, { accessFlags := 2, nameIndex := 19, descriptorIndex := 10, attributes := #[] }])
  fields := #[{ name := "name", type := (.object "java/lang/String"), accessFlags := 18, slot := 0, constantValue := 0 }, { name := "ordinal", type := .int, accessFlags := 18, slot := 1, constantValue := 0 }, { name := "hash", type := .int, accessFlags := 2, slot := 2, constantValue := 0 }]
  methods := #[]
  instanceTypes := #[(.object "java/lang/String"), .int, .int]
  staticTypes := #[]
  resolved := Array.replicate 204 none
  statics := none }

def pool6 : Array CpInfo := pool [(1, .class_ 2), (0, u "com/example/pipehat/pipehat/Acknowledgment$Code"), (2, u "AA"), (0, u "Lcom/example/pipehat/pipehat/Acknowledgment$Code;"), (2, u "AE"), (2, u "AR"), (0, .fieldref 1 14), (0, .nameAndType 15 6), (0, u "CA"), (0, .fieldref 1 17), (0, .nameAndType 18 6), (0, u "CE"), (0, .fieldref 1 20), (0, .nameAndType 21 6), (0, u "CR"), (2, u "$VALUES"), (0, u "[Lcom/example/pipehat/pipehat/Acknowledgment$Code;"), (6, .class_ 34), (1, u "java/lang/Enum"), (25, u "()Z"), (3, u "isEnhanced"), (5, .class_ 71), (0, u "com/example/pipehat/pipehat/Acknowledgment")] 1

def k6c0 : Code := { maxStack := 2, maxLocals := 1, code := prog_2_method_7_code, exceptionTable := #[], attributes := #[] }
def k6m0 : Method := { name := "isEnhanced", desc := "()Z", sig := { parameters := [], returnType := some .boolean }, accessFlags := 1, code := some k6c0 }
/-- com/example/pipehat/pipehat/Acknowledgment$Code -/
def k6 : Class := { plain "com/example/pipehat/pipehat/Acknowledgment$Code" (some 5) with
  accessFlags := 16433
  interfaces := #[]
  cf := some (fileOf pool6 1 #[.nestHost 70] #[{ accessFlags := 1, nameIndex := 64, descriptorIndex := 60, attributes := #[] }] 16433 32 #[] #[{ accessFlags := 16409, nameIndex := 5, descriptorIndex := 6, attributes := #[] }, { accessFlags := 16409, nameIndex := 9, descriptorIndex := 6, attributes := #[] }, { accessFlags := 16409, nameIndex := 12, descriptorIndex := 6, attributes := #[] }, { accessFlags := 16409, nameIndex := 15, descriptorIndex := 6, attributes := #[] }, { accessFlags := 16409, nameIndex := 18, descriptorIndex := 6, attributes := #[] }, { accessFlags := 16409, nameIndex := 21, descriptorIndex := 6, attributes := #[] }, { accessFlags := 4122, nameIndex := 24, descriptorIndex := 25, attributes := #[] }])
  fields := #[{ name := "AA", type := (.object "com/example/pipehat/pipehat/Acknowledgment$Code"), accessFlags := 16409, slot := 0, constantValue := 0 }, { name := "AE", type := (.object "com/example/pipehat/pipehat/Acknowledgment$Code"), accessFlags := 16409, slot := 1, constantValue := 0 }, { name := "AR", type := (.object "com/example/pipehat/pipehat/Acknowledgment$Code"), accessFlags := 16409, slot := 2, constantValue := 0 }, { name := "CA", type := (.object "com/example/pipehat/pipehat/Acknowledgment$Code"), accessFlags := 16409, slot := 3, constantValue := 0 }, { name := "CE", type := (.object "com/example/pipehat/pipehat/Acknowledgment$Code"), accessFlags := 16409, slot := 4, constantValue := 0 }, { name := "CR", type := (.object "com/example/pipehat/pipehat/Acknowledgment$Code"), accessFlags := 16409, slot := 5, constantValue := 0 }, { name := "$VALUES", type := (.array (.object "com/example/pipehat/pipehat/Acknowledgment$Code")), accessFlags := 4122, slot := 6, constantValue := 0 }]
  methods := #[k6m0]
  instanceTypes := #[(.object "java/lang/String"), .int, .int]
  staticTypes := #[(.object "com/example/pipehat/pipehat/Acknowledgment$Code"), (.object "com/example/pipehat/pipehat/Acknowledgment$Code"), (.object "com/example/pipehat/pipehat/Acknowledgment$Code"), (.object "com/example/pipehat/pipehat/Acknowledgment$Code"), (.object "com/example/pipehat/pipehat/Acknowledgment$Code"), (.object "com/example/pipehat/pipehat/Acknowledgment$Code"), (.array (.object "com/example/pipehat/pipehat/Acknowledgment$Code"))]
  resolved := Array.replicate 73 none
  statics := some 0 }

def pool7 : Array CpInfo := pool [(1, u "java/lang/Cloneable"), (0, .class_ 1), (0, u "java/lang/Object"), (0, .class_ 3)] 3

/-- java/lang/Cloneable -/
def k7 : Class := { plain "java/lang/Cloneable" (some 0) with
  accessFlags := 1537
  interfaces := #[]
  cf := some (fileOf pool7 2 #[] #[] 1537 4 #[] #[])
  fields := #[]
  methods := #[]
  instanceTypes := #[]
  staticTypes := #[]
  resolved := Array.replicate 8 none
  statics := none }

/-- the primitive byte -/
def k8 : Class := { plain "byte" none with kind := .primitive 'B', accessFlags := 0x411 }
/-- [B -/
def k9 : Class := { plain "[B" (some 0) with kind := .array 8 .byte, interfaces := #[7, 4], accessFlags := 1041 }

/-- the primitive int -/
def k10 : Class := { plain "int" none with kind := .primitive 'I', accessFlags := 0x411 }
/-- [I -/
def k11 : Class := { plain "[I" (some 0) with kind := .array 10 .int, interfaces := #[7, 4], accessFlags := 1041 }

def heap : Heap := #[{ cls := 6, slots := #[.ref 1, .ref 6, .ref 5, .ref 2, .ref 3, .ref 4, .null], vm := .statics 6 },
  { cls := 6, slots := #[.null, .int 0, .int 0], vm := .none },
  { cls := 6, slots := #[.null, .int 3, .int 0], vm := .none },
  { cls := 6, slots := #[.null, .int 4, .int 0], vm := .none },
  { cls := 6, slots := #[.null, .int 5, .int 0], vm := .none },
  { cls := 6, slots := #[.null, .int 2, .int 0], vm := .none },
  { cls := 6, slots := #[.null, .int 1, .int 0], vm := .none }]
def classes : Array Class := #[k0, k1, k2, k3, k4, k5, k6, k7, k8, k9, k10, k11]
def interned : List (Array UInt16 × Addr) := []
def slotsUsed : Nat := 25
def theMethod : MethodId := ⟨1, 2⟩
def args0 : Array Value := #[.int 1]
def aboutOver (below : List Frame) : State where
  vm := { classes := classes, interned := interned.toArray }
  heap := heap
  slotsUsed := slotsUsed
  threads := #[{ frames := .invoking theMethod args0 :: below }]
def below0 : List Frame := [.native { method := ⟨0, 0⟩, args := #[] }]
def about1 : State := aboutOver below0
def p0 : Program := .bare "" "" ""
def e0 : Env := launch0.env 0 0 0
theorem w_frames : about1.frames = Frame.invoking theMethod args0 :: below0 := rfl
set_option maxRecDepth 65536 in
theorem w_args : argsFit about1.vm theMethod args0 = true := by decide +kernel
set_option maxRecDepth 65536 in
theorem w_heap : heapFits about1 = true := by decide +kernel
set_option maxRecDepth 65536 in
theorem w_runnable : about1.curStatus? = some .runnable := by decide +kernel
set_option maxRecDepth 65536 in
theorem w_alone : about1.alone = true := by decide +kernel
set_option maxRecDepth 65536 in
theorem w_named : about1.methodNamed? x = some theMethod := by decide +kernel
set_option maxRecDepth 65536 in
theorem w_hears : about1.hears theMethod below0 = true := by decide +kernel
set_option maxRecDepth 65536 in
theorem w_ripe : about1.ripe theMethod args0 below0 = true := by decide +kernel
theorem w_running : about1.status = .running := rfl
set_option maxRecDepth 65536 in
theorem w_room : about1.hasRoom e0.platform room_1 = true :=
  launch0.hasRoom_least _ room_1 (by decide +kernel) (by decide +kernel) (by decide +kernel) (by decide +kernel) (by decide +kernel) (by decide +kernel)
theorem allAtoms_all (ts : List Jvm.Cond) (a : Array Jvm.Value) (st : Jvm.State) : (allAtoms ts).before a st = ts.all (fun c => c.before a st) := by
  induction ts with
  | nil => rfl
  | cons c t ih =>
    show (Jvm.Cond.and c (allAtoms t)).before a st = _
    rw [Jvm.Cond.before_and, ih, List.all_cons]
def words1 : List Jvm.Cond := Jvm.Cond.code x code maxLocals ret :: tables_1
/-- a 'code' word, met by the world's own term for the bytes: nothing is compared byte by byte -/
theorem code_word {y : MethodName} {bytes : ByteArray} {mx : Nat} {rt : Option FieldType} {a : Array Value} {s : State} {m : MethodId} {meth : Method} {c : Code} (h1 : s.methodNamed? y = some m) (h2 : s.vm.method? m = some meth) (h3 : meth.code = some c) (h4 : c.code = bytes)
    (h5 : (c.maxLocals == mx && c.exceptionTable.isEmpty && decide (c.maxStack ≤ mostOperands) && decide (meth.sig.returnType = rt) && !meth.locks && decide (parseMethodDescriptor y.desc = some meth.sig)) = true) : (Jvm.Cond.code y bytes mx rt).before a s = true := by
  simp only [Bool.and_eq_true, beq_iff_eq, Bool.not_eq_true', decide_eq_true_eq] at h5
  obtain ⟨⟨⟨⟨⟨g1, g2⟩, g3⟩, g4⟩, g5⟩, g6⟩ := h5
  simp [Cond.before, Cond.holds, Cond.value, h1, h2, h3, h4, g1, g2, g3, g4, g5, g6]
def isCode : Jvm.Cond → Bool
  | .code _ _ _ _ => true
  | _ => false
theorem all_split {L : List Jvm.Cond} {P : Jvm.Cond → Bool} (h1 : L.all (fun c => isCode c || P c) = true) (h2 : ∀ c ∈ L.filter isCode, P c = true) : L.all P = true := by
  refine List.all_eq_true.mpr fun c hc => ?_
  have h := List.all_eq_true.mp h1 c hc
  rcases Bool.eq_false_or_eq_true (isCode c) with hi | hi
  · exact h2 c (List.mem_filter.mpr ⟨hc, hi⟩)
  · simpa [hi] using h
set_option maxRecDepth 65536 in
theorem w_c0 : (Jvm.Cond.code x code maxLocals ret).before args0 about1 = true := code_word (m := ⟨1, 2⟩) (meth := k1m2) (c := k1c2) (by decide +kernel) rfl rfl rfl (by decide +kernel)
set_option maxRecDepth 65536 in
theorem w_c1 : (Jvm.Cond.code ({ cls := "com/example/pipehat/pipehat/CodeIsEnhancedPinLaw", name := "pick", desc := "(I)Lcom/example/pipehat/pipehat/Acknowledgment$Code;" } : Jvm.MethodName) method_2_code (1 : Nat) (Option.some (Jvm.ClassFile.FieldType.object "com/example/pipehat/pipehat/Acknowledgment$Code"))).before args0 about1 = true := code_word (m := ⟨1, 1⟩) (meth := k1m1) (c := k1c1) (by decide +kernel) rfl rfl rfl (by decide +kernel)
set_option maxRecDepth 65536 in
theorem w_c2 : (Jvm.Cond.code ({ cls := "com/example/pipehat/pipehat/Acknowledgment$Code", name := "isEnhanced", desc := "()Z" } : Jvm.MethodName) prog_2_method_7_code (1 : Nat) (Option.some Jvm.ClassFile.FieldType.boolean)).before args0 about1 = true := code_word (m := ⟨6, 0⟩) (meth := k6m0) (c := k6c0) (by decide +kernel) rfl rfl rfl (by decide +kernel)
def codes1 : List Jvm.Cond := [Jvm.Cond.code x code maxLocals ret, Jvm.Cond.code ({ cls := "com/example/pipehat/pipehat/CodeIsEnhancedPinLaw", name := "pick", desc := "(I)Lcom/example/pipehat/pipehat/Acknowledgment$Code;" } : Jvm.MethodName) method_2_code (1 : Nat) (Option.some (Jvm.ClassFile.FieldType.object "com/example/pipehat/pipehat/Acknowledgment$Code")), Jvm.Cond.code ({ cls := "com/example/pipehat/pipehat/Acknowledgment$Code", name := "isEnhanced", desc := "()Z" } : Jvm.MethodName) prog_2_method_7_code (1 : Nat) (Option.some Jvm.ClassFile.FieldType.boolean)]
set_option maxRecDepth 65536 in
theorem codes_eq : words1.filter isCode = codes1 := rfl
theorem w_codes : ∀ c ∈ words1.filter isCode, c.before args0 about1 = true := by
  rw [codes_eq]
  intro c hc
  simp only [codes1, List.mem_cons, List.not_mem_nil, or_false] at hc
  rcases hc with rfl | rfl | rfl
  · exact w_c0
  · exact w_c1
  · exact w_c2
set_option maxRecDepth 65536 in
theorem w_t1 : (words1.take 24).all (fun c => isCode c || c.before args0 about1) = true := by decide +kernel
set_option maxRecDepth 65536 in
theorem w_t2 : (words1.drop 24).all (fun c => isCode c || c.before args0 about1) = true := by decide +kernel
theorem w_tables : (allAtoms (Jvm.Cond.code x code maxLocals ret :: tables_1)).before args0 about1 = true := by
  rw [allAtoms_all]
  show words1.all (fun c => c.before args0 about1) = true
  refine all_split ?_ w_codes
  rw [← List.take_append_drop 24 words1, List.all_append, w_t1, w_t2]
  rfl
set_option maxRecDepth 65536 in
theorem w_case : (Jvm.Cond.and given_1 narrow_1).before args0 about1 = true := by decide +kernel
theorem w_applies : (headSpec (Jvm.Cond.code x code maxLocals ret :: tables_1) room_1).applies x e0.platform about1 = true :=
  (Spec.applies_iff w_frames).mpr ⟨w_running, w_runnable, w_alone, w_named, w_hears, w_ripe, w_room, w_tables⟩
theorem atStart : AtStart classFile x code maxLocals ret World_1 tables_1 room_1 Calls_1 rest_1 Pre_1 launch0 p0 e0 about1 theMethod args0 below0 :=
  ⟨lists_1, trivial, launch0.admits_env _ _ _, launch0.least_env, fairChoices_fair.cas, fairChoices_fair.clock, w_frames, w_args, w_heap, w_applies, trivial, trivial, w_case⟩
end start1
theorem witness_1 : WitnessClaimed_1 := ⟨start1.p0, start1.e0, start1.about1, start1.theMethod, start1.args0, start1.below0, start1.atStart⟩
end Jvm.Pilot.@@N@@
