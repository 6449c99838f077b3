import JvmDerived
import JvmDerived.Pilot.@@N@@Statement
import JvmDerived.Pilot.@@N@@Code
set_option linter.unusedVariables false
set_option linter.unusedSimpArgs false
namespace Jvm.RoadKit
open Sem ClassFile Op Lib Jvm.Stand Jvm.Free Jvm.LawKit
section Own
variable {p : Program} {l : Launch} {e : Env} {R : Room} {s : State} {m : MethodId} {args : Array Value} {below : List Frame} {meth : Method} {c : Code} {T : State} {locs : List Loc} {cells slots : Nat} {Q : Option Value → Heap → List Loc → Prop} {kc ks : Nat}
/-- the run from S comes to its end and leaves what Q says -/
def own_Fin (p : Program) (e : Env) (below : List Frame) (s : State) (kc ks : Nat) (Q : Option Value → Heap → List Loc → Prop) (S : State) : Prop :=
  ∃ U o, Steps p.tables e below S U ∧ U.status = .running ∧ Ended U below o ∧ ∃ v L, o = .returned v ∧ Q v U.heap L ∧ FrameEnd s o U L kc ks
theorem own_step {S S' : State} (h : ∀ t, Steps p.tables e below S' t → Steps p.tables e below S t) (k : own_Fin p e below s kc ks Q S') : own_Fin p e below s kc ks Q S := by
  obtain ⟨U, o, h1, r⟩ := k
  exact ⟨U, o, h _ h1, r⟩
theorem own_ret (X : Stand p l e R s m args below meth c T locs cells slots) (hlk : meth.locks = false) {v : Option Value} (hv : meth.sig.returnType = none → v = none) (hc : cells ≤ kc) (hs : slots ≤ ks) (hQ : Q v T.heap locs) {S : State}
    (hst : ∀ fs, (∀ (f : JFrame) (acts : List Action), f.method = m → f.locked = none → f.entered = [] → (doReturn e (T.setTop f) acts v).1 = T.setFrames fs) → Steps p.tables e below S (T.setFrames fs)) : own_Fin p e below s kc ks Q S := by
  obtain ⟨fs, hr, hrun, hended, hW, hsame⟩ := X.leave (v := v) hv hlk
  exact ⟨_, _, hst fs hr, hrun, hended, _, _, rfl, hQ, ⟨_, rfl⟩, hW, hsame.mono hc hs⟩
def own_FinW (p : Program) (e : Env) (below : List Frame) (s : State) (kc ks : Nat) (Q : Option Value → Heap → List Loc → Prop) (S : State) : Prop :=
  ∃ U o, Steps p.tables e below S U ∧ U.status = .running ∧ Ended U below o ∧ ∃ v L, o = .returned v ∧ Q v U.heap L ∧ ReturnedEndW s o U L kc ks
theorem own_stepW {S S' : State} (h : ∀ t, Steps p.tables e below S' t → Steps p.tables e below S t) (k : own_FinW p e below s kc ks Q S') : own_FinW p e below s kc ks Q S := by
  obtain ⟨U, o, h1, r⟩ := k
  exact ⟨U, o, h _ h1, r⟩
theorem own_retW {vm1 : Vm} (X : Stand p l e R (s.setVm vm1) m args below meth c T locs cells slots) (hlk : meth.locks = false) {n : Nat} (hS : s.Since vm1 n) {h : Heap} (eT : T.heap = h) (hn : n ≤ h.size) {v : Option Value} (hv : meth.sig.returnType = none → v = none) (hc : cells ≤ kc) (hs : slots ≤ ks) (hQ : Q v T.heap locs) {S : State}
    (hst : ∀ fs, (∀ (f : JFrame) (acts : List Action), f.method = m → f.locked = none → f.entered = [] → (doReturn e (T.setTop f) acts v).1 = T.setFrames fs) → Steps p.tables e below S (T.setFrames fs)) : own_FinW p e below s kc ks Q S := by
  obtain ⟨fs, hr, hrun, hended, hE⟩ := X.leaveW hS (by rw [eT]; exact hn) (v := v) hv hlk
  exact ⟨_, _, hst fs hr, hrun, hended, _, _, rfl, hQ, hE.1, hE.2.1, hE.2.2.1, hE.2.2.2.mono hc hs⟩
theorem own_castW {g g' : JFrame} (q : g = g') (k : own_FinW p e below s kc ks Q (T.setTop g')) : own_FinW p e below s kc ks Q (T.setTop g) := q ▸ k
theorem own_m0 : Jvm.Free.Fl.Mag64 1 FP.dconst0 := by unfold Jvm.Free.Fl.Mag64; decide
theorem own_mz : Jvm.Free.Fl.Mag64 1 (0 : UInt64) := by unfold Jvm.Free.Fl.Mag64; decide
theorem own_m1 : Jvm.Free.Fl.Mag64 1024 FP.dconst1 := by unfold Jvm.Free.Fl.Mag64; decide
/-- roads that meet again: what lies behind the meeting is walked once -/
theorem own_join {G : Prop} {F : State → Prop} (X : Stand p l e R s m args below meth c T locs cells slots) {h : Heap} (eT : T.heap = h) {β : Type} (g : β → JFrame) (hyp : β → Prop)
    (body : ∀ Tj : State, Stand p l e R s m args below meth c Tj locs cells slots → Tj.heap = h → ∀ b, hyp b → F (Tj.setTop (g b)))
    (cont : (∀ Tj : State, Stand p l e R s m args below meth c Tj locs cells slots → Tj.heap = h → ∀ b, hyp b → F (Tj.setTop (g b))) → G) : G := cont body
theorem own_ltn {n k j : Int32} (h : ¬ n < k) (q : j < k) : j < n := by
  rw [Int32.lt_iff_toInt_lt] at *
  omega
theorem own_cast {g g' : JFrame} (q : g = g') (k : own_Fin p e below s kc ks Q (T.setTop g')) : own_Fin p e below s kc ks Q (T.setTop g) := q ▸ k
theorem own_getJ {cl : Cell} {vs : List Int64} {j : Int32} (H : Has cl (vs.map Value.long) (.long 0)) (q : ¬ (j < 0 ∨ cl.slots.size ≤ j.toNatClampNeg)) : cl.slots[j.toNatClampNeg]? = some (.long (vs.getD j.toNatClampNeg 0)) := by
  refine Has.at H q ?_
  simp only [List.getD_eq_getElem?_getD, List.getElem?_map]
  cases vs[j.toNatClampNeg]? <;> rfl
def own_Nst (h : Heap) (x : Addr) : Prop := ∃ c : Cell, h[x]? = some c ∧ c.vm.isStatics = false
theorem own_nst_exa {Z : State} {h : Heap} {a : Addr} {C : String} (F : Exa Z h a C) : own_Nst h a := by
  obtain ⟨c, _, h1, _, _, h4, _⟩ := F
  exact ⟨c, h1, h4⟩
theorem own_nst_arv {Z : State} {h : Heap} {a : Addr} {k : ClassId} {ty : FieldType} {n : Int32} {vs : List Value} {d : Value} (F : Arv Z h a k ty n vs d) : own_Nst h a := by
  obtain ⟨c, A, _⟩ := F
  exact ⟨c, A.1, A.plain⟩
theorem own_sta_keep {Z : State} {h h' : Heap} {C n d : String} {v : Value} {ws : List Addr} (F : Sta Z h C n d v) (K : Keep h h' ws) (q : ∀ x ∈ ws, own_Nst h x) : Sta Z h' C n d v := by
  obtain ⟨cf, i, k, f, st, cell, h1, h2, h3, h4, h5, h6, h7⟩ := F
  refine ⟨cf, i, k, f, st, cell, h1, h2, h3, h4, K.2.1 _ _ h5 (fun z => ?_), h6, h7⟩
  obtain ⟨c, e1, e2⟩ := q _ z
  cases h5.symm.trans e1
  rw [h6] at e2
  cases e2
theorem own_sta_keep0 {Z : State} {h h' : Heap} {C n d : String} {v : Value} (F : Sta Z h C n d v) (K : Keep h h' []) : Sta Z h' C n d v := own_sta_keep F K (fun _ z => nomatch z)
end Own
section OwnStart
variable {args : Array Value} {Z : State} {t : Term} {a : Addr} {O n d : String}
theorem own_fldV {v : Value} (ev : t.eval args Z none [] Z = some (.ref a)) (h : (Term.field t O n d).eval args Z none [] Z = some v) : Fld Z Z.heap a O n d v := Fld.start ((fld_at ev).symm.trans h)
theorem own_len {cl : Cell} {ty : FieldType} {k : Int32} (ev : t.eval args Z none [] Z = some (.ref a)) (A : Arr Z Z.heap a cl ty) (h : (Cond.eq (.length t) (.int k)).value args Z none Z [] = some true) : cl.slots.size < 2 ^ 31 ∧ cl.slots.size.toInt32 = k := by
  have e := eqv_i (y := k) rfl h
  have ha := A.fin (Vm.Alike.refl _)
  by_cases q : cl.slots.size < 2 ^ 31
  · exact ⟨q, Value.int.inj (Option.some.inj ((len_f ev ha q).symm.trans e))⟩
  · simp [Term.eval, ev, ha, q] at e
theorem own_elI {cl : Cell} {ty : FieldType} {i k : Int32} (ev : t.eval args Z none [] Z = some (.ref a)) (A : Arr Z Z.heap a cl ty) (hi : ¬ i < 0) (h : (Cond.eq (.elem t (.int i)) (.int k)).value args Z none Z [] = some true) : cl.slots[i.toNatClampNeg]? = some (.int k) :=
  (elem_f ev rfl (A.fin (Vm.Alike.refl _)) hi).symm.trans (eqv_i (y := k) rfl h)
theorem own_elJ {cl : Cell} {ty : FieldType} {i : Int32} {k : Int64} (ev : t.eval args Z none [] Z = some (.ref a)) (A : Arr Z Z.heap a cl ty) (hi : ¬ i < 0) (h : (Cond.eq (.elem t (.int i)) (.long k)).value args Z none Z [] = some true) : cl.slots[i.toNatClampNeg]? = some (.long k) :=
  (elem_f ev rfl (A.fin (Vm.Alike.refl _)) hi).symm.trans (eqv_l (y := k) rfl h)
end OwnStart
end Jvm.RoadKit
namespace Jvm.Pilot.@@N@@
open Jvm Jvm.ClassFile Sem Op Lib Jvm.Free Jvm.Stand Jvm.LawKit Jvm.RoadKit Bundle Jvm.Pilot.@@N@@.Jvm.D
theorem own_w {ts : List Jvm.Cond} {Z : State} {a0 : Array Value} (hw : ∀ d ∈ ts, d.before a0 Z = true) (i : Nat) {d : Jvm.Cond} (h : ts[i]? = some d) : d.before a0 Z = true := hw d (List.mem_of_getElem? h)
theorem own_k (x : Int32) : ((x &&& (2147483647 : Int32)) % (3 : Int32)) = (0 : Int32) ∨ ((x &&& (2147483647 : Int32)) % (3 : Int32)) = (1 : Int32) ∨ ((x &&& (2147483647 : Int32)) % (3 : Int32)) = (2 : Int32) := by
  have h1 : (x &&& (2147483647 : Int32)).toInt = x.toInt % 2147483648 := c_mask x _ 31 (by decide) (by decide)
  have h2 := (c_irem (x &&& (2147483647 : Int32)) (3 : Int32) 3 (by decide)).1 (by omega)
  have h3 : ((x &&& (2147483647 : Int32)) % (3 : Int32)).toInt = 0 ∨ ((x &&& (2147483647 : Int32)) % (3 : Int32)).toInt = 1 ∨ ((x &&& (2147483647 : Int32)) % (3 : Int32)).toInt = 2 := by omega
  rcases h3 with h | h | h
  · exact Or.inl (Int32.toInt_inj.mp (h.trans (by decide)))
  · exact Or.inr (Or.inl (Int32.toInt_inj.mp (h.trans (by decide))))
  · exact Or.inr (Or.inr (Int32.toInt_inj.mp (h.trans (by decide))))
theorem own_d1_0 : decode method_2_code 0 = .ok (.iload_n 0, 1) := by decide +kernel
theorem own_d1_1 : decode method_2_code 1 = .ok (.ifCond .ne 7, 3) := by decide +kernel
theorem own_d1_4 : decode method_2_code 4 = .ok (.getstatic 7, 3) := by decide +kernel
theorem own_d1_7 : decode method_2_code 7 = .ok (.areturn, 1) := by decide +kernel
theorem own_pn0 : plainName "com/example/nearfield/nearfield/OperatorWritesPinLaw" = true := by first | (simp [plainName, overriddenIn]; done) | decide +kernel
theorem own_ef1 (m : MethodId)  : entryFrame m #[(.int (0 : Int32))] 1 = mkF m 0 #[.val (.int (0 : Int32))] [] := by first | (simp [entryFrame, mkF, argsToLocals, Value.category]; done) | rfl
def own_Q1 (Z : State) (s_INPUT : Addr) (h0 : Heap) (n0 : Nat) (v : Option Value) (h : Heap) (L : List Loc) : Prop := v = some (.ref s_INPUT) ∧ Fr n0 L ∧ h = h0
set_option maxRecDepth 65536 in
set_option maxHeartbeats 40000000 in
theorem own_rm1 (l : Launch) (Z : State) (a0 : Array Value) (hw : ∀ d ∈ tables_1, d.before a0 Z = true) (hs : ∀ d ∈ jdkStatics_1, d.before a0 Z = true) (ws : List Jvm.Cond) (s_INPUT : Addr) (h0 : Heap) (n0 : Nat) (Z0 : n0 ≤ h0.size) (S_INPUT : Sta Z h0 "com/example/nearfield/nearfield/Redirection$Operator" "INPUT" "Lcom/example/nearfield/nearfield/Redirection$Operator;" (.ref s_INPUT)) :
    MetFree l (⟨"com/example/nearfield/nearfield/OperatorWritesPinLaw", "pick", "(I)Lcom/example/nearfield/nearfield/Redirection$Operator;"⟩ : MethodName) (head1 (Jvm.Cond.code (⟨"com/example/nearfield/nearfield/OperatorWritesPinLaw", "pick", "(I)Lcom/example/nearfield/nearfield/Redirection$Operator;"⟩ : MethodName) method_2_code 1 (some (.object "com/example/nearfield/nearfield/Redirection$Operator")) :: ws) ({ frames := 0, cells := 0, slots := 0, locals := 0 } : Room)) (fun a U => a = #[(.int (0 : Int32))] ∧ Z.Warmed39 U.vm ∧ U.heap = h0) (fun _ _ _ _ _ => True) (fun _ U o U' => ∃ v L, o = .returned v ∧ own_Q1 Z s_INPUT h0 n0 v U'.heap L ∧ FrameEnd U o U' L ({ frames := 0, cells := 0, slots := 0, locals := 0 } : Room).cells ({ frames := 0, cells := 0, slots := 0, locals := 0 } : Room).slots) := by
  refine MetFree.of_bodySF (plainFor_of_name own_pn0) hisR ?_
  intro p e s m args below meth c s₁ Bd hml0 hP hK
  obtain ⟨rfl, hZ, hh⟩ := hP
  have hx := Bd.exec
  have hby := Bd.bytes
  have hlk := Bd.notSynchronized
  have hml : c.maxLocals = 1 := hml0
  have hown : s.vm.findClass "com/example/nearfield/nearfield/OperatorWritesPinLaw" = some m.cls := findClass_of_methodNamed Bd.named
  have hnm := (name_of_methodNamed Bd.named Bd.method).1
  have X0 : Stand p l e ({ frames := 0, cells := 0, slots := 0, locals := 0 } : Room) s m #[(.int (0 : Int32))] below meth c s₁ [] 0 0 := Stand.of_body Bd
  have e0 : s₁.heap = h0 := by rw [← hh, Bd.state]; rfl
  have N0 := Fr.nil n0
  have KR : Keep h0 h0 [] := Keep.refl _ _
  show own_Fin p e below s ({ frames := 0, cells := 0, slots := 0, locals := 0 } : Room).cells ({ frames := 0, cells := 0, slots := 0, locals := 0 } : Room).slots (own_Q1 Z s_INPUT h0 n0) (s₁.setTop (entryFrame m #[(.int (0 : Int32))] 1))
  refine own_cast (own_ef1 m ) ?_
  refine own_step (fun _ k => XS.iloadN X0.here hx rfl (hb hby own_d1_0) rfl k) ?_
  show own_Fin p e below s _ _ _ (s₁.setTop (mkF m 1 #[.val (.int (0 : Int32))] [(.int (0 : Int32))]))
  refine own_step (fun _ k => XS.ifNo X0.here hx rfl (hb hby own_d1_1) rfl ((if0 _ _).trans (teq (by decide : (0 : Int32) = (0 : Int32))).2) k) ?_
  show own_Fin p e below s _ _ _ (s₁.setTop (mkF m 4 #[.val (.int (0 : Int32))] []))
  obtain ⟨T1, X1, e1, st1⟩ := getS2 X0 hx hZ hown (host := "") (Or.inl (own_w hw 5 rfl)) Via.refl e0 S_INPUT (g := (mkF m 4 #[.val (.int (0 : Int32))] [])) rfl (hb hby own_d1_4)
  refine own_step st1 ?_
  show own_Fin p e below s _ _ _ (T1.setTop (mkF m 7 #[.val (.int (0 : Int32))] [(.ref s_INPUT)]))
  exact own_ret X1 hlk (v := some (.ref s_INPUT)) (fun h => by rw [Bd.returns] at h; cases h) (by decide) (by decide) (by show own_Q1 Z s_INPUT h0 n0 _ T1.heap _; rw [e1]; exact ⟨rfl, N0, rfl⟩) (fun fs hr => retOut X1 hx Bd.returns rfl (Or.inr (Or.inr (Or.inr (Or.inr ⟨rfl, rfl, rfl⟩)))) (hb hby own_d1_7) hr)

theorem own_d2_0 : decode method_2_code 0 = .ok (.iload_n 0, 1) := by decide +kernel
theorem own_d2_1 : decode method_2_code 1 = .ok (.ifCond .ne 7, 3) := by decide +kernel
theorem own_d2_8 : decode method_2_code 8 = .ok (.iload_n 0, 1) := by decide +kernel
theorem own_d2_9 : decode method_2_code 9 = .ok (.iconst 1, 1) := by decide +kernel
theorem own_d2_10 : decode method_2_code 10 = .ok (.if_icmp .ne 7, 3) := by decide +kernel
theorem own_d2_13 : decode method_2_code 13 = .ok (.getstatic 13, 3) := by decide +kernel
theorem own_d2_16 : decode method_2_code 16 = .ok (.areturn, 1) := by decide +kernel
theorem own_ef2 (m : MethodId)  : entryFrame m #[(.int (1 : Int32))] 1 = mkF m 0 #[.val (.int (1 : Int32))] [] := by first | (simp [entryFrame, mkF, argsToLocals, Value.category]; done) | rfl
def own_Q2 (Z : State) (s_OUTPUT : Addr) (h0 : Heap) (n0 : Nat) (v : Option Value) (h : Heap) (L : List Loc) : Prop := v = some (.ref s_OUTPUT) ∧ Fr n0 L ∧ h = h0
set_option maxRecDepth 65536 in
set_option maxHeartbeats 40000000 in
theorem own_rm2 (l : Launch) (Z : State) (a0 : Array Value) (hw : ∀ d ∈ tables_1, d.before a0 Z = true) (hs : ∀ d ∈ jdkStatics_1, d.before a0 Z = true) (ws : List Jvm.Cond) (s_OUTPUT : Addr) (h0 : Heap) (n0 : Nat) (Z0 : n0 ≤ h0.size) (S_OUTPUT : Sta Z h0 "com/example/nearfield/nearfield/Redirection$Operator" "OUTPUT" "Lcom/example/nearfield/nearfield/Redirection$Operator;" (.ref s_OUTPUT)) :
    MetFree l (⟨"com/example/nearfield/nearfield/OperatorWritesPinLaw", "pick", "(I)Lcom/example/nearfield/nearfield/Redirection$Operator;"⟩ : MethodName) (head1 (Jvm.Cond.code (⟨"com/example/nearfield/nearfield/OperatorWritesPinLaw", "pick", "(I)Lcom/example/nearfield/nearfield/Redirection$Operator;"⟩ : MethodName) method_2_code 1 (some (.object "com/example/nearfield/nearfield/Redirection$Operator")) :: ws) ({ frames := 0, cells := 0, slots := 0, locals := 0 } : Room)) (fun a U => a = #[(.int (1 : Int32))] ∧ Z.Warmed39 U.vm ∧ U.heap = h0) (fun _ _ _ _ _ => True) (fun _ U o U' => ∃ v L, o = .returned v ∧ own_Q2 Z s_OUTPUT h0 n0 v U'.heap L ∧ FrameEnd U o U' L ({ frames := 0, cells := 0, slots := 0, locals := 0 } : Room).cells ({ frames := 0, cells := 0, slots := 0, locals := 0 } : Room).slots) := by
  refine MetFree.of_bodySF (plainFor_of_name own_pn0) hisR ?_
  intro p e s m args below meth c s₁ Bd hml0 hP hK
  obtain ⟨rfl, hZ, hh⟩ := hP
  have hx := Bd.exec
  have hby := Bd.bytes
  have hlk := Bd.notSynchronized
  have hml : c.maxLocals = 1 := hml0
  have hown : s.vm.findClass "com/example/nearfield/nearfield/OperatorWritesPinLaw" = some m.cls := findClass_of_methodNamed Bd.named
  have hnm := (name_of_methodNamed Bd.named Bd.method).1
  have X0 : Stand p l e ({ frames := 0, cells := 0, slots := 0, locals := 0 } : Room) s m #[(.int (1 : Int32))] below meth c s₁ [] 0 0 := Stand.of_body Bd
  have e0 : s₁.heap = h0 := by rw [← hh, Bd.state]; rfl
  have N0 := Fr.nil n0
  have KR : Keep h0 h0 [] := Keep.refl _ _
  show own_Fin p e below s ({ frames := 0, cells := 0, slots := 0, locals := 0 } : Room).cells ({ frames := 0, cells := 0, slots := 0, locals := 0 } : Room).slots (own_Q2 Z s_OUTPUT h0 n0) (s₁.setTop (entryFrame m #[(.int (1 : Int32))] 1))
  refine own_cast (own_ef2 m ) ?_
  refine own_step (fun _ k => XS.iloadN X0.here hx rfl (hb hby own_d2_0) rfl k) ?_
  show own_Fin p e below s _ _ _ (s₁.setTop (mkF m 1 #[.val (.int (1 : Int32))] [(.int (1 : Int32))]))
  refine own_step (fun _ k => XS.ifYes X0.here hx rfl (pc0 := 1) (pc' := 8) rfl (hb hby own_d2_1) rfl ((if0 _ _).trans (feq (by decide : ¬ ((1 : Int32) = (0 : Int32)))).2) (by decide) (by decide) k) ?_
  show own_Fin p e below s _ _ _ (s₁.setTop (mkF m 8 #[.val (.int (1 : Int32))] []))
  refine own_step (fun _ k => XS.iloadN X0.here hx rfl (hb hby own_d2_8) rfl k) ?_
  show own_Fin p e below s _ _ _ (s₁.setTop (mkF m 9 #[.val (.int (1 : Int32))] [(.int (1 : Int32))]))
  refine own_step (fun _ k => XS.iconst X0.here hx rfl (hb hby own_d2_9) k) ?_
  show own_Fin p e below s _ _ _ (s₁.setTop (mkF m 10 #[.val (.int (1 : Int32))] [(.int (1 : Int32)), (.int (1 : Int32))]))
  refine own_step (fun _ k => XS.icmpNo X0.here hx rfl (hb hby own_d2_10) rfl (teq (by decide : (1 : Int32) = (1 : Int32))).2 k) ?_
  show own_Fin p e below s _ _ _ (s₁.setTop (mkF m 13 #[.val (.int (1 : Int32))] []))
  obtain ⟨T1, X1, e1, st1⟩ := getS2 X0 hx hZ hown (host := "") (Or.inl (own_w hw 61 rfl)) Via.refl e0 S_OUTPUT (g := (mkF m 13 #[.val (.int (1 : Int32))] [])) rfl (hb hby own_d2_13)
  refine own_step st1 ?_
  show own_Fin p e below s _ _ _ (T1.setTop (mkF m 16 #[.val (.int (1 : Int32))] [(.ref s_OUTPUT)]))
  exact own_ret X1 hlk (v := some (.ref s_OUTPUT)) (fun h => by rw [Bd.returns] at h; cases h) (by decide) (by decide) (by show own_Q2 Z s_OUTPUT h0 n0 _ T1.heap _; rw [e1]; exact ⟨rfl, N0, rfl⟩) (fun fs hr => retOut X1 hx Bd.returns rfl (Or.inr (Or.inr (Or.inr (Or.inr ⟨rfl, rfl, rfl⟩)))) (hb hby own_d2_16) hr)

theorem own_d3_0 : decode method_2_code 0 = .ok (.iload_n 0, 1) := by decide +kernel
theorem own_d3_1 : decode method_2_code 1 = .ok (.ifCond .ne 7, 3) := by decide +kernel
theorem own_d3_8 : decode method_2_code 8 = .ok (.iload_n 0, 1) := by decide +kernel
theorem own_d3_9 : decode method_2_code 9 = .ok (.iconst 1, 1) := by decide +kernel
theorem own_d3_10 : decode method_2_code 10 = .ok (.if_icmp .ne 7, 3) := by decide +kernel
theorem own_d3_17 : decode method_2_code 17 = .ok (.getstatic 16, 3) := by decide +kernel
theorem own_d3_20 : decode method_2_code 20 = .ok (.areturn, 1) := by decide +kernel
theorem own_ef3 (m : MethodId)  : entryFrame m #[(.int (2 : Int32))] 1 = mkF m 0 #[.val (.int (2 : Int32))] [] := by first | (simp [entryFrame, mkF, argsToLocals, Value.category]; done) | rfl
def own_Q3 (Z : State) (s_APPEND : Addr) (h0 : Heap) (n0 : Nat) (v : Option Value) (h : Heap) (L : List Loc) : Prop := v = some (.ref s_APPEND) ∧ Fr n0 L ∧ h = h0
set_option maxRecDepth 65536 in
set_option maxHeartbeats 40000000 in
theorem own_rm3 (l : Launch) (Z : State) (a0 : Array Value) (hw : ∀ d ∈ tables_1, d.before a0 Z = true) (hs : ∀ d ∈ jdkStatics_1, d.before a0 Z = true) (ws : List Jvm.Cond) (s_APPEND : Addr) (h0 : Heap) (n0 : Nat) (Z0 : n0 ≤ h0.size) (S_APPEND : Sta Z h0 "com/example/nearfield/nearfield/Redirection$Operator" "APPEND" "Lcom/example/nearfield/nearfield/Redirection$Operator;" (.ref s_APPEND)) :
    MetFree l (⟨"com/example/nearfield/nearfield/OperatorWritesPinLaw", "pick", "(I)Lcom/example/nearfield/nearfield/Redirection$Operator;"⟩ : MethodName) (head1 (Jvm.Cond.code (⟨"com/example/nearfield/nearfield/OperatorWritesPinLaw", "pick", "(I)Lcom/example/nearfield/nearfield/Redirection$Operator;"⟩ : MethodName) method_2_code 1 (some (.object "com/example/nearfield/nearfield/Redirection$Operator")) :: ws) ({ frames := 0, cells := 0, slots := 0, locals := 0 } : Room)) (fun a U => a = #[(.int (2 : Int32))] ∧ Z.Warmed39 U.vm ∧ U.heap = h0) (fun _ _ _ _ _ => True) (fun _ U o U' => ∃ v L, o = .returned v ∧ own_Q3 Z s_APPEND h0 n0 v U'.heap L ∧ FrameEnd U o U' L ({ frames := 0, cells := 0, slots := 0, locals := 0 } : Room).cells ({ frames := 0, cells := 0, slots := 0, locals := 0 } : Room).slots) := by
  refine MetFree.of_bodySF (plainFor_of_name own_pn0) hisR ?_
  intro p e s m args below meth c s₁ Bd hml0 hP hK
  obtain ⟨rfl, hZ, hh⟩ := hP
  have hx := Bd.exec
  have hby := Bd.bytes
  have hlk := Bd.notSynchronized
  have hml : c.maxLocals = 1 := hml0
  have hown : s.vm.findClass "com/example/nearfield/nearfield/OperatorWritesPinLaw" = some m.cls := findClass_of_methodNamed Bd.named
  have hnm := (name_of_methodNamed Bd.named Bd.method).1
  have X0 : Stand p l e ({ frames := 0, cells := 0, slots := 0, locals := 0 } : Room) s m #[(.int (2 : Int32))] below meth c s₁ [] 0 0 := Stand.of_body Bd
  have e0 : s₁.heap = h0 := by rw [← hh, Bd.state]; rfl
  have N0 := Fr.nil n0
  have KR : Keep h0 h0 [] := Keep.refl _ _
  show own_Fin p e below s ({ frames := 0, cells := 0, slots := 0, locals := 0 } : Room).cells ({ frames := 0, cells := 0, slots := 0, locals := 0 } : Room).slots (own_Q3 Z s_APPEND h0 n0) (s₁.setTop (entryFrame m #[(.int (2 : Int32))] 1))
  refine own_cast (own_ef3 m ) ?_
  refine own_step (fun _ k => XS.iloadN X0.here hx rfl (hb hby own_d3_0) rfl k) ?_
  show own_Fin p e below s _ _ _ (s₁.setTop (mkF m 1 #[.val (.int (2 : Int32))] [(.int (2 : Int32))]))
  refine own_step (fun _ k => XS.ifYes X0.here hx rfl (pc0 := 1) (pc' := 8) rfl (hb hby own_d3_1) rfl ((if0 _ _).trans (feq (by decide : ¬ ((2 : Int32) = (0 : Int32)))).2) (by decide) (by decide) k) ?_
  show own_Fin p e below s _ _ _ (s₁.setTop (mkF m 8 #[.val (.int (2 : Int32))] []))
  refine own_step (fun _ k => XS.iloadN X0.here hx rfl (hb hby own_d3_8) rfl k) ?_
  show own_Fin p e below s _ _ _ (s₁.setTop (mkF m 9 #[.val (.int (2 : Int32))] [(.int (2 : Int32))]))
  refine own_step (fun _ k => XS.iconst X0.here hx rfl (hb hby own_d3_9) k) ?_
  show own_Fin p e below s _ _ _ (s₁.setTop (mkF m 10 #[.val (.int (2 : Int32))] [(.int (1 : Int32)), (.int (2 : Int32))]))
  refine own_step (fun _ k => XS.icmpYes X0.here hx rfl (pc0 := 10) (pc' := 17) rfl (hb hby own_d3_10) rfl (feq (by decide : ¬ ((2 : Int32) = (1 : Int32)))).2 (by decide) (by decide) k) ?_
  show own_Fin p e below s _ _ _ (s₁.setTop (mkF m 17 #[.val (.int (2 : Int32))] []))
  obtain ⟨T1, X1, e1, st1⟩ := getS2 X0 hx hZ hown (host := "") (Or.inl (own_w hw 59 rfl)) Via.refl e0 S_APPEND (g := (mkF m 17 #[.val (.int (2 : Int32))] [])) rfl (hb hby own_d3_17)
  refine own_step st1 ?_
  show own_Fin p e below s _ _ _ (T1.setTop (mkF m 20 #[.val (.int (2 : Int32))] [(.ref s_APPEND)]))
  exact own_ret X1 hlk (v := some (.ref s_APPEND)) (fun h => by rw [Bd.returns] at h; cases h) (by decide) (by decide) (by show own_Q3 Z s_APPEND h0 n0 _ T1.heap _; rw [e1]; exact ⟨rfl, N0, rfl⟩) (fun fs hr => retOut X1 hx Bd.returns rfl (Or.inr (Or.inr (Or.inr (Or.inr ⟨rfl, rfl, rfl⟩)))) (hb hby own_d3_20) hr)

theorem own_d4_0 : decode prog_22_method_6_code 0 = .ok (.aload_n 0, 1) := by decide +kernel
theorem own_d4_1 : decode prog_22_method_6_code 1 = .ok (.getstatic 3, 3) := by decide +kernel
theorem own_d4_4 : decode prog_22_method_6_code 4 = .ok (.if_acmp .eq 7, 3) := by decide +kernel
theorem own_d4_11 : decode prog_22_method_6_code 11 = .ok (.iconst 0, 1) := by decide +kernel
theorem own_d4_12 : decode prog_22_method_6_code 12 = .ok (.ireturn, 1) := by decide +kernel
theorem own_pn1 : plainName "com/example/nearfield/nearfield/Redirection$Operator" = true := by first | (simp [plainName, overriddenIn]; done) | decide +kernel
theorem own_ef4 (m : MethodId) (s_INPUT : Addr) : entryFrame m #[(.ref s_INPUT)] 1 = mkF m 0 #[.val (.ref s_INPUT)] [] := by first | (simp [entryFrame, mkF, argsToLocals, Value.category]; done) | rfl
def own_Q4 (Z : State) (s_INPUT : Addr) (h0 : Heap) (n0 : Nat) (v : Option Value) (h : Heap) (L : List Loc) : Prop := v = some (.int (0 : Int32)) ∧ Fr n0 L ∧ h = h0
set_option maxRecDepth 65536 in
set_option maxHeartbeats 40000000 in
theorem own_rm4 (l : Launch) (Z : State) (a0 : Array Value) (hw : ∀ d ∈ tables_1, d.before a0 Z = true) (hs : ∀ d ∈ jdkStatics_1, d.before a0 Z = true) (ws : List Jvm.Cond) (s_INPUT : Addr) (h0 : Heap) (n0 : Nat) (Z0 : n0 ≤ h0.size) (S_INPUT : Sta Z h0 "com/example/nearfield/nearfield/Redirection$Operator" "INPUT" "Lcom/example/nearfield/nearfield/Redirection$Operator;" (.ref s_INPUT)) :
    MetFree l (⟨"com/example/nearfield/nearfield/Redirection$Operator", "writes", "()Z"⟩ : MethodName) (head1 (Jvm.Cond.code (⟨"com/example/nearfield/nearfield/Redirection$Operator", "writes", "()Z"⟩ : MethodName) prog_22_method_6_code 1 (some .boolean) :: ws) ({ frames := 0, cells := 0, slots := 0, locals := 0 } : Room)) (fun a U => a = #[(.ref s_INPUT)] ∧ Z.Warmed39 U.vm ∧ U.heap = h0) (fun _ _ _ _ _ => True) (fun _ U o U' => ∃ v L, o = .returned v ∧ own_Q4 Z s_INPUT h0 n0 v U'.heap L ∧ FrameEnd U o U' L ({ frames := 0, cells := 0, slots := 0, locals := 0 } : Room).cells ({ frames := 0, cells := 0, slots := 0, locals := 0 } : Room).slots) := by
  refine MetFree.of_bodySF (plainFor_of_name own_pn1) hisR ?_
  intro p e s m args below meth c s₁ Bd hml0 hP hK
  obtain ⟨rfl, hZ, hh⟩ := hP
  have hx := Bd.exec
  have hby := Bd.bytes
  have hlk := Bd.notSynchronized
  have hml : c.maxLocals = 1 := hml0
  have hown : s.vm.findClass "com/example/nearfield/nearfield/Redirection$Operator" = some m.cls := findClass_of_methodNamed Bd.named
  have hnm := (name_of_methodNamed Bd.named Bd.method).1
  have X0 : Stand p l e ({ frames := 0, cells := 0, slots := 0, locals := 0 } : Room) s m #[(.ref s_INPUT)] below meth c s₁ [] 0 0 := Stand.of_body Bd
  have e0 : s₁.heap = h0 := by rw [← hh, Bd.state]; rfl
  have N0 := Fr.nil n0
  have KR : Keep h0 h0 [] := Keep.refl _ _
  show own_Fin p e below s ({ frames := 0, cells := 0, slots := 0, locals := 0 } : Room).cells ({ frames := 0, cells := 0, slots := 0, locals := 0 } : Room).slots (own_Q4 Z s_INPUT h0 n0) (s₁.setTop (entryFrame m #[(.ref s_INPUT)] 1))
  refine own_cast (own_ef4 m s_INPUT) ?_
  refine own_step (fun _ k => XS.aloadN X0.here hx rfl (hb hby own_d4_0) rfl rfl k) ?_
  show own_Fin p e below s _ _ _ (s₁.setTop (mkF m 1 #[.val (.ref s_INPUT)] [(.ref s_INPUT)]))
  obtain ⟨T1, X1, e1, st1⟩ := getS2 X0 hx hZ hown (host := "") (Or.inl (own_w hw 13 rfl)) Via.refl e0 S_INPUT (g := (mkF m 1 #[.val (.ref s_INPUT)] [(.ref s_INPUT)])) rfl (hb hby own_d4_1)
  refine own_step st1 ?_
  show own_Fin p e below s _ _ _ (T1.setTop (mkF m 4 #[.val (.ref s_INPUT)] [(.ref s_INPUT), (.ref s_INPUT)]))
  refine own_step (fun _ k => Jvm.RoadKit.acmp (g := (mkF m 4 #[.val (.ref s_INPUT)] [(.ref s_INPUT), (.ref s_INPUT)])) X1 hx rfl rfl rfl (pc0 := 4) (pc' := 11) (same := true) rfl (hb hby own_d4_4) rfl (decide_eq_true rfl) (by decide) (by decide) k) ?_
  show own_Fin p e below s _ _ _ (T1.setTop (mkF m 11 #[.val (.ref s_INPUT)] []))
  refine own_step (fun _ k => XS.iconst X1.here hx rfl (hb hby own_d4_11) k) ?_
  show own_Fin p e below s _ _ _ (T1.setTop (mkF m 12 #[.val (.ref s_INPUT)] [(.int (0 : Int32))]))
  exact own_ret X1 hlk (v := some (.int (0 : Int32))) (fun h => by rw [Bd.returns] at h; cases h) (by decide) (by decide) (by show own_Q4 Z s_INPUT h0 n0 _ T1.heap _; rw [e1]; exact ⟨rfl, N0, rfl⟩) (fun fs hr => retN X1 hx (t := .boolean) Bd.returns (by simp) (hb hby own_d4_12) hr)

theorem own_d5_0 : decode prog_22_method_6_code 0 = .ok (.aload_n 0, 1) := by decide +kernel
theorem own_d5_1 : decode prog_22_method_6_code 1 = .ok (.getstatic 3, 3) := by decide +kernel
theorem own_d5_4 : decode prog_22_method_6_code 4 = .ok (.if_acmp .eq 7, 3) := by decide +kernel
theorem own_d5_7 : decode prog_22_method_6_code 7 = .ok (.iconst 1, 1) := by decide +kernel
theorem own_d5_8 : decode prog_22_method_6_code 8 = .ok (.goto 4, 3) := by decide +kernel
theorem own_d5_12 : decode prog_22_method_6_code 12 = .ok (.ireturn, 1) := by decide +kernel
theorem own_ef5 (m : MethodId) (s_OUTPUT : Addr) : entryFrame m #[(.ref s_OUTPUT)] 1 = mkF m 0 #[.val (.ref s_OUTPUT)] [] := by first | (simp [entryFrame, mkF, argsToLocals, Value.category]; done) | rfl
def own_Q5 (Z : State) (s_OUTPUT : Addr) (s_INPUT : Addr) (h0 : Heap) (n0 : Nat) (v : Option Value) (h : Heap) (L : List Loc) : Prop := v = some (.int (1 : Int32)) ∧ Fr n0 L ∧ h = h0
set_option maxRecDepth 65536 in
set_option maxHeartbeats 40000000 in
theorem own_rm5 (l : Launch) (Z : State) (a0 : Array Value) (hw : ∀ d ∈ tables_1, d.before a0 Z = true) (hs : ∀ d ∈ jdkStatics_1, d.before a0 Z = true) (ws : List Jvm.Cond) (s_OUTPUT : Addr) (s_INPUT : Addr) (h0 : Heap) (n0 : Nat) (Z0 : n0 ≤ h0.size) (S_INPUT : Sta Z h0 "com/example/nearfield/nearfield/Redirection$Operator" "INPUT" "Lcom/example/nearfield/nearfield/Redirection$Operator;" (.ref s_INPUT)) (ne_s_OUTPUT_s_INPUT : s_OUTPUT ≠ s_INPUT) :
    MetFree l (⟨"com/example/nearfield/nearfield/Redirection$Operator", "writes", "()Z"⟩ : MethodName) (head1 (Jvm.Cond.code (⟨"com/example/nearfield/nearfield/Redirection$Operator", "writes", "()Z"⟩ : MethodName) prog_22_method_6_code 1 (some .boolean) :: ws) ({ frames := 0, cells := 0, slots := 0, locals := 0 } : Room)) (fun a U => a = #[(.ref s_OUTPUT)] ∧ Z.Warmed39 U.vm ∧ U.heap = h0) (fun _ _ _ _ _ => True) (fun _ U o U' => ∃ v L, o = .returned v ∧ own_Q5 Z s_OUTPUT s_INPUT h0 n0 v U'.heap L ∧ FrameEnd U o U' L ({ frames := 0, cells := 0, slots := 0, locals := 0 } : Room).cells ({ frames := 0, cells := 0, slots := 0, locals := 0 } : Room).slots) := by
  refine MetFree.of_bodySF (plainFor_of_name own_pn1) hisR ?_
  intro p e s m args below meth c s₁ Bd hml0 hP hK
  obtain ⟨rfl, hZ, hh⟩ := hP
  have hx := Bd.exec
  have hby := Bd.bytes
  have hlk := Bd.notSynchronized
  have hml : c.maxLocals = 1 := hml0
  have hown : s.vm.findClass "com/example/nearfield/nearfield/Redirection$Operator" = some m.cls := findClass_of_methodNamed Bd.named
  have hnm := (name_of_methodNamed Bd.named Bd.method).1
  have X0 : Stand p l e ({ frames := 0, cells := 0, slots := 0, locals := 0 } : Room) s m #[(.ref s_OUTPUT)] below meth c s₁ [] 0 0 := Stand.of_body Bd
  have e0 : s₁.heap = h0 := by rw [← hh, Bd.state]; rfl
  have N0 := Fr.nil n0
  have KR : Keep h0 h0 [] := Keep.refl _ _
  show own_Fin p e below s ({ frames := 0, cells := 0, slots := 0, locals := 0 } : Room).cells ({ frames := 0, cells := 0, slots := 0, locals := 0 } : Room).slots (own_Q5 Z s_OUTPUT s_INPUT h0 n0) (s₁.setTop (entryFrame m #[(.ref s_OUTPUT)] 1))
  refine own_cast (own_ef5 m s_OUTPUT) ?_
  refine own_step (fun _ k => XS.aloadN X0.here hx rfl (hb hby own_d5_0) rfl rfl k) ?_
  show own_Fin p e below s _ _ _ (s₁.setTop (mkF m 1 #[.val (.ref s_OUTPUT)] [(.ref s_OUTPUT)]))
  obtain ⟨T1, X1, e1, st1⟩ := getS2 X0 hx hZ hown (host := "") (Or.inl (own_w hw 13 rfl)) Via.refl e0 S_INPUT (g := (mkF m 1 #[.val (.ref s_OUTPUT)] [(.ref s_OUTPUT)])) rfl (hb hby own_d5_1)
  refine own_step st1 ?_
  show own_Fin p e below s _ _ _ (T1.setTop (mkF m 4 #[.val (.ref s_OUTPUT)] [(.ref s_INPUT), (.ref s_OUTPUT)]))
  refine own_step (fun _ k => Jvm.RoadKit.acmp (g := (mkF m 4 #[.val (.ref s_OUTPUT)] [(.ref s_INPUT), (.ref s_OUTPUT)])) X1 hx rfl rfl rfl (pc0 := 4) (pc' := 7) (same := false) rfl (hb hby own_d5_4) rfl (decide_eq_false fun q => ne_s_OUTPUT_s_INPUT (Value.ref.inj q)) (by decide) (by decide) k) ?_
  show own_Fin p e below s _ _ _ (T1.setTop (mkF m 7 #[.val (.ref s_OUTPUT)] []))
  refine own_step (fun _ k => XS.iconst X1.here hx rfl (hb hby own_d5_7) k) ?_
  show own_Fin p e below s _ _ _ (T1.setTop (mkF m 8 #[.val (.ref s_OUTPUT)] [(.int (1 : Int32))]))
  refine own_step (fun _ k => XS.goto X1.here hx rfl (pc0 := 8) (pc' := 12) rfl (hb hby own_d5_8) (by decide) (by decide) k) ?_
  show own_Fin p e below s _ _ _ (T1.setTop (mkF m 12 #[.val (.ref s_OUTPUT)] [(.int (1 : Int32))]))
  exact own_ret X1 hlk (v := some (.int (1 : Int32))) (fun h => by rw [Bd.returns] at h; cases h) (by decide) (by decide) (by show own_Q5 Z s_OUTPUT s_INPUT h0 n0 _ T1.heap _; rw [e1]; exact ⟨rfl, N0, rfl⟩) (fun fs hr => retN X1 hx (t := .boolean) Bd.returns (by simp) (hb hby own_d5_12) hr)

theorem own_d6_0 : decode prog_22_method_6_code 0 = .ok (.aload_n 0, 1) := by decide +kernel
theorem own_d6_1 : decode prog_22_method_6_code 1 = .ok (.getstatic 3, 3) := by decide +kernel
theorem own_d6_4 : decode prog_22_method_6_code 4 = .ok (.if_acmp .eq 7, 3) := by decide +kernel
theorem own_d6_7 : decode prog_22_method_6_code 7 = .ok (.iconst 1, 1) := by decide +kernel
theorem own_d6_8 : decode prog_22_method_6_code 8 = .ok (.goto 4, 3) := by decide +kernel
theorem own_d6_12 : decode prog_22_method_6_code 12 = .ok (.ireturn, 1) := by decide +kernel
theorem own_ef6 (m : MethodId) (s_APPEND : Addr) : entryFrame m #[(.ref s_APPEND)] 1 = mkF m 0 #[.val (.ref s_APPEND)] [] := by first | (simp [entryFrame, mkF, argsToLocals, Value.category]; done) | rfl
def own_Q6 (Z : State) (s_APPEND : Addr) (s_INPUT : Addr) (h0 : Heap) (n0 : Nat) (v : Option Value) (h : Heap) (L : List Loc) : Prop := v = some (.int (1 : Int32)) ∧ Fr n0 L ∧ h = h0
set_option maxRecDepth 65536 in
set_option maxHeartbeats 40000000 in
theorem own_rm6 (l : Launch) (Z : State) (a0 : Array Value) (hw : ∀ d ∈ tables_1, d.before a0 Z = true) (hs : ∀ d ∈ jdkStatics_1, d.before a0 Z = true) (ws : List Jvm.Cond) (s_APPEND : Addr) (s_INPUT : Addr) (h0 : Heap) (n0 : Nat) (Z0 : n0 ≤ h0.size) (S_INPUT : Sta Z h0 "com/example/nearfield/nearfield/Redirection$Operator" "INPUT" "Lcom/example/nearfield/nearfield/Redirection$Operator;" (.ref s_INPUT)) (ne_s_APPEND_s_INPUT : s_APPEND ≠ s_INPUT) :
    MetFree l (⟨"com/example/nearfield/nearfield/Redirection$Operator", "writes", "()Z"⟩ : MethodName) (head1 (Jvm.Cond.code (⟨"com/example/nearfield/nearfield/Redirection$Operator", "writes", "()Z"⟩ : MethodName) prog_22_method_6_code 1 (some .boolean) :: ws) ({ frames := 0, cells := 0, slots := 0, locals := 0 } : Room)) (fun a U => a = #[(.ref s_APPEND)] ∧ Z.Warmed39 U.vm ∧ U.heap = h0) (fun _ _ _ _ _ => True) (fun _ U o U' => ∃ v L, o = .returned v ∧ own_Q6 Z s_APPEND s_INPUT h0 n0 v U'.heap L ∧ FrameEnd U o U' L ({ frames := 0, cells := 0, slots := 0, locals := 0 } : Room).cells ({ frames := 0, cells := 0, slots := 0, locals := 0 } : Room).slots) := by
  refine MetFree.of_bodySF (plainFor_of_name own_pn1) hisR ?_
  intro p e s m args below meth c s₁ Bd hml0 hP hK
  obtain ⟨rfl, hZ, hh⟩ := hP
  have hx := Bd.exec
  have hby := Bd.bytes
  have hlk := Bd.notSynchronized
  have hml : c.maxLocals = 1 := hml0
  have hown : s.vm.findClass "com/example/nearfield/nearfield/Redirection$Operator" = some m.cls := findClass_of_methodNamed Bd.named
  have hnm := (name_of_methodNamed Bd.named Bd.method).1
  have X0 : Stand p l e ({ frames := 0, cells := 0, slots := 0, locals := 0 } : Room) s m #[(.ref s_APPEND)] below meth c s₁ [] 0 0 := Stand.of_body Bd
  have e0 : s₁.heap = h0 := by rw [← hh, Bd.state]; rfl
  have N0 := Fr.nil n0
  have KR : Keep h0 h0 [] := Keep.refl _ _
  show own_Fin p e below s ({ frames := 0, cells := 0, slots := 0, locals := 0 } : Room).cells ({ frames := 0, cells := 0, slots := 0, locals := 0 } : Room).slots (own_Q6 Z s_APPEND s_INPUT h0 n0) (s₁.setTop (entryFrame m #[(.ref s_APPEND)] 1))
  refine own_cast (own_ef6 m s_APPEND) ?_
  refine own_step (fun _ k => XS.aloadN X0.here hx rfl (hb hby own_d6_0) rfl rfl k) ?_
  show own_Fin p e below s _ _ _ (s₁.setTop (mkF m 1 #[.val (.ref s_APPEND)] [(.ref s_APPEND)]))
  obtain ⟨T1, X1, e1, st1⟩ := getS2 X0 hx hZ hown (host := "") (Or.inl (own_w hw 13 rfl)) Via.refl e0 S_INPUT (g := (mkF m 1 #[.val (.ref s_APPEND)] [(.ref s_APPEND)])) rfl (hb hby own_d6_1)
  refine own_step st1 ?_
  show own_Fin p e below s _ _ _ (T1.setTop (mkF m 4 #[.val (.ref s_APPEND)] [(.ref s_INPUT), (.ref s_APPEND)]))
  refine own_step (fun _ k => Jvm.RoadKit.acmp (g := (mkF m 4 #[.val (.ref s_APPEND)] [(.ref s_INPUT), (.ref s_APPEND)])) X1 hx rfl rfl rfl (pc0 := 4) (pc' := 7) (same := false) rfl (hb hby own_d6_4) rfl (decide_eq_false fun q => ne_s_APPEND_s_INPUT (Value.ref.inj q)) (by decide) (by decide) k) ?_
  show own_Fin p e below s _ _ _ (T1.setTop (mkF m 7 #[.val (.ref s_APPEND)] []))
  refine own_step (fun _ k => XS.iconst X1.here hx rfl (hb hby own_d6_7) k) ?_
  show own_Fin p e below s _ _ _ (T1.setTop (mkF m 8 #[.val (.ref s_APPEND)] [(.int (1 : Int32))]))
  refine own_step (fun _ k => XS.goto X1.here hx rfl (pc0 := 8) (pc' := 12) rfl (hb hby own_d6_8) (by decide) (by decide) k) ?_
  show own_Fin p e below s _ _ _ (T1.setTop (mkF m 12 #[.val (.ref s_APPEND)] [(.int (1 : Int32))]))
  exact own_ret X1 hlk (v := some (.int (1 : Int32))) (fun h => by rw [Bd.returns] at h; cases h) (by decide) (by decide) (by show own_Q6 Z s_APPEND s_INPUT h0 n0 _ T1.heap _; rw [e1]; exact ⟨rfl, N0, rfl⟩) (fun fs hr => retN X1 hx (t := .boolean) Bd.returns (by simp) (hb hby own_d6_12) hr)

theorem own_d7_0 : decode prog_22_method_4_code 0 = .ok (.aload_n 0, 1) := by decide +kernel
theorem own_d7_1 : decode prog_22_method_4_code 1 = .ok (.getfield 32, 3) := by decide +kernel
theorem own_d7_4 : decode prog_22_method_4_code 4 = .ok (.areturn, 1) := by decide +kernel
theorem own_ef7 (m : MethodId) (ad0 : Addr) : entryFrame m #[(.ref ad0)] 1 = mkF m 0 #[.val (.ref ad0)] [] := by first | (simp [entryFrame, mkF, argsToLocals, Value.category]; done) | rfl
def own_Q7 (Z : State) (ad0 : Addr) (wsymbol_ad0 : Addr) (h0 : Heap) (n0 : Nat) (v : Option Value) (h : Heap) (L : List Loc) : Prop := v = some (.ref wsymbol_ad0) ∧ Fr n0 L ∧ h = h0
set_option maxRecDepth 65536 in
set_option maxHeartbeats 40000000 in
theorem own_rm7 (l : Launch) (Z : State) (a0 : Array Value) (hw : ∀ d ∈ tables_1, d.before a0 Z = true) (hs : ∀ d ∈ jdkStatics_1, d.before a0 Z = true) (ws : List Jvm.Cond) (ad0 : Addr) (wsymbol_ad0 : Addr) (h0 : Heap) (n0 : Nat) (Z0 : n0 ≤ h0.size) (F_symbol_ad0 : Fld Z h0 ad0 "com/example/nearfield/nearfield/Redirection$Operator" "symbol" "Ljava/lang/String;" (.ref wsymbol_ad0)) :
    MetFree l (⟨"com/example/nearfield/nearfield/Redirection$Operator", "symbol", "()Ljava/lang/String;"⟩ : MethodName) (head1 (Jvm.Cond.code (⟨"com/example/nearfield/nearfield/Redirection$Operator", "symbol", "()Ljava/lang/String;"⟩ : MethodName) prog_22_method_4_code 1 (some (.object "java/lang/String")) :: ws) ({ frames := 0, cells := 0, slots := 0, locals := 0 } : Room)) (fun a U => a = #[(.ref ad0)] ∧ Z.Warmed39 U.vm ∧ U.heap = h0) (fun _ _ _ _ _ => True) (fun _ U o U' => ∃ v L, o = .returned v ∧ own_Q7 Z ad0 wsymbol_ad0 h0 n0 v U'.heap L ∧ FrameEnd U o U' L ({ frames := 0, cells := 0, slots := 0, locals := 0 } : Room).cells ({ frames := 0, cells := 0, slots := 0, locals := 0 } : Room).slots) := by
  refine MetFree.of_bodySF (plainFor_of_name own_pn1) hisR ?_
  intro p e s m args below meth c s₁ Bd hml0 hP hK
  obtain ⟨rfl, hZ, hh⟩ := hP
  have hx := Bd.exec
  have hby := Bd.bytes
  have hlk := Bd.notSynchronized
  have hml : c.maxLocals = 1 := hml0
  have hown : s.vm.findClass "com/example/nearfield/nearfield/Redirection$Operator" = some m.cls := findClass_of_methodNamed Bd.named
  have hnm := (name_of_methodNamed Bd.named Bd.method).1
  have X0 : Stand p l e ({ frames := 0, cells := 0, slots := 0, locals := 0 } : Room) s m #[(.ref ad0)] below meth c s₁ [] 0 0 := Stand.of_body Bd
  have e0 : s₁.heap = h0 := by rw [← hh, Bd.state]; rfl
  have N0 := Fr.nil n0
  have KR : Keep h0 h0 [] := Keep.refl _ _
  show own_Fin p e below s ({ frames := 0, cells := 0, slots := 0, locals := 0 } : Room).cells ({ frames := 0, cells := 0, slots := 0, locals := 0 } : Room).slots (own_Q7 Z ad0 wsymbol_ad0 h0 n0) (s₁.setTop (entryFrame m #[(.ref ad0)] 1))
  refine own_cast (own_ef7 m ad0) ?_
  refine own_step (fun _ k => XS.aloadN X0.here hx rfl (hb hby own_d7_0) rfl rfl k) ?_
  show own_Fin p e below s _ _ _ (s₁.setTop (mkF m 1 #[.val (.ref ad0)] [(.ref ad0)]))
  obtain ⟨T1, X1, e1, st1⟩ := getF X0 hx hZ hown (host := "") (Or.inl (own_w hw 19 rfl)) Via.refl e0 F_symbol_ad0 (g := (mkF m 1 #[.val (.ref ad0)] [(.ref ad0)])) rfl rfl (hb hby own_d7_1)
  refine own_step st1 ?_
  show own_Fin p e below s _ _ _ (T1.setTop (mkF m 4 #[.val (.ref ad0)] [(.ref wsymbol_ad0)]))
  exact own_ret X1 hlk (v := some (.ref wsymbol_ad0)) (fun h => by rw [Bd.returns] at h; cases h) (by decide) (by decide) (by show own_Q7 Z ad0 wsymbol_ad0 h0 n0 _ T1.heap _; rw [e1]; exact ⟨rfl, N0, rfl⟩) (fun fs hr => retOut X1 hx Bd.returns rfl (Or.inr (Or.inr (Or.inr (Or.inr ⟨rfl, rfl, rfl⟩)))) (hb hby own_d7_4) hr)

theorem own_d8_0 : decode jdk_42_method_152_code 0 = .ok (.getstatic 38, 3) := by decide +kernel
theorem own_d8_3 : decode jdk_42_method_152_code 3 = .ok (.ifCond .eq 10, 3) := by decide +kernel
theorem own_d8_6 : decode jdk_42_method_152_code 6 = .ok (.aload_n 0, 1) := by decide +kernel
theorem own_d8_7 : decode jdk_42_method_152_code 7 = .ok (.getfield 15, 3) := by decide +kernel
theorem own_d8_10 : decode jdk_42_method_152_code 10 = .ok (.goto 4, 3) := by decide +kernel
theorem own_d8_14 : decode jdk_42_method_152_code 14 = .ok (.ireturn, 1) := by decide +kernel
theorem own_pn2 : plainName "java/lang/String" = true := by first | (simp [plainName, overriddenIn]; done) | decide +kernel
theorem own_ef8 (m : MethodId) (ad0 : Addr) : entryFrame m #[(.ref ad0)] 1 = mkF m 0 #[.val (.ref ad0)] [] := by first | (simp [entryFrame, mkF, argsToLocals, Value.category]; done) | rfl
def own_Q8 (Z : State) (ad0 : Addr) (s_COMPACT_STRINGS : Int32) (h0 : Heap) (n0 : Nat) (v : Option Value) (h : Heap) (L : List Loc) : Prop := v = some (.int (0 : Int32)) ∧ Fr n0 L ∧ h = h0
set_option maxRecDepth 65536 in
set_option maxHeartbeats 40000000 in
theorem own_rm8 (l : Launch) (Z : State) (a0 : Array Value) (hw : ∀ d ∈ tables_1, d.before a0 Z = true) (hs : ∀ d ∈ jdkStatics_1, d.before a0 Z = true) (ws : List Jvm.Cond) (ad0 : Addr) (s_COMPACT_STRINGS : Int32) (h0 : Heap) (n0 : Nat) (Z0 : n0 ≤ h0.size) (S_COMPACT_STRINGS : Sta Z h0 "java/lang/String" "COMPACT_STRINGS" "Z" (.int s_COMPACT_STRINGS)) (hc3 : ¬ (s_COMPACT_STRINGS = (0 : Int32))) (F_coder_ad0 : Fld Z h0 ad0 "java/lang/String" "coder" "B" (.int (0 : Int32))) :
    MetFree l (⟨"java/lang/String", "coder", "()B"⟩ : MethodName) (head1 (Jvm.Cond.code (⟨"java/lang/String", "coder", "()B"⟩ : MethodName) jdk_42_method_152_code 1 (some .byte) :: ws) ({ frames := 0, cells := 0, slots := 0, locals := 0 } : Room)) (fun a U => a = #[(.ref ad0)] ∧ Z.Warmed39 U.vm ∧ U.heap = h0) (fun _ _ _ _ _ => True) (fun _ U o U' => ∃ v L, o = .returned v ∧ own_Q8 Z ad0 s_COMPACT_STRINGS h0 n0 v U'.heap L ∧ FrameEnd U o U' L ({ frames := 0, cells := 0, slots := 0, locals := 0 } : Room).cells ({ frames := 0, cells := 0, slots := 0, locals := 0 } : Room).slots) := by
  refine MetFree.of_bodySF (plainFor_of_name own_pn2) hisR ?_
  intro p e s m args below meth c s₁ Bd hml0 hP hK
  obtain ⟨rfl, hZ, hh⟩ := hP
  have hx := Bd.exec
  have hby := Bd.bytes
  have hlk := Bd.notSynchronized
  have hml : c.maxLocals = 1 := hml0
  have hown : s.vm.findClass "java/lang/String" = some m.cls := findClass_of_methodNamed Bd.named
  have hnm := (name_of_methodNamed Bd.named Bd.method).1
  have X0 : Stand p l e ({ frames := 0, cells := 0, slots := 0, locals := 0 } : Room) s m #[(.ref ad0)] below meth c s₁ [] 0 0 := Stand.of_body Bd
  have e0 : s₁.heap = h0 := by rw [← hh, Bd.state]; rfl
  have N0 := Fr.nil n0
  have KR : Keep h0 h0 [] := Keep.refl _ _
  show own_Fin p e below s ({ frames := 0, cells := 0, slots := 0, locals := 0 } : Room).cells ({ frames := 0, cells := 0, slots := 0, locals := 0 } : Room).slots (own_Q8 Z ad0 s_COMPACT_STRINGS h0 n0) (s₁.setTop (entryFrame m #[(.ref ad0)] 1))
  refine own_cast (own_ef8 m ad0) ?_
  obtain ⟨T1, X1, e1, st1⟩ := getS2 X0 hx hZ hown (host := "") (Or.inl (own_w hw 34 rfl)) Via.refl e0 S_COMPACT_STRINGS (g := (mkF m 0 #[.val (.ref ad0)] [])) rfl (hb hby own_d8_0)
  refine own_step st1 ?_
  show own_Fin p e below s _ _ _ (T1.setTop (mkF m 3 #[.val (.ref ad0)] [(.int s_COMPACT_STRINGS)]))
  refine own_step (fun _ k => XS.ifNo X1.here hx rfl (hb hby own_d8_3) rfl ((if0 _ _).trans (feq hc3).1) k) ?_
  show own_Fin p e below s _ _ _ (T1.setTop (mkF m 6 #[.val (.ref ad0)] []))
  refine own_step (fun _ k => XS.aloadN X1.here hx rfl (hb hby own_d8_6) rfl rfl k) ?_
  show own_Fin p e below s _ _ _ (T1.setTop (mkF m 7 #[.val (.ref ad0)] [(.ref ad0)]))
  obtain ⟨T2, X2, e2, st2⟩ := getF X1 hx hZ hown (host := "") (Or.inl (own_w hw 35 rfl)) Via.refl e1 F_coder_ad0 (g := (mkF m 7 #[.val (.ref ad0)] [(.ref ad0)])) rfl rfl (hb hby own_d8_7)
  refine own_step st2 ?_
  show own_Fin p e below s _ _ _ (T2.setTop (mkF m 10 #[.val (.ref ad0)] [(.int (0 : Int32))]))
  refine own_step (fun _ k => XS.goto X2.here hx rfl (pc0 := 10) (pc' := 14) rfl (hb hby own_d8_10) (by decide) (by decide) k) ?_
  show own_Fin p e below s _ _ _ (T2.setTop (mkF m 14 #[.val (.ref ad0)] [(.int (0 : Int32))]))
  exact own_ret X2 hlk (v := some (.int (0 : Int32))) (fun h => by rw [Bd.returns] at h; cases h) (by decide) (by decide) (by show own_Q8 Z ad0 s_COMPACT_STRINGS h0 n0 _ T2.heap _; rw [e2]; exact ⟨rfl, N0, rfl⟩) (fun fs hr => retN X2 hx (t := .byte) Bd.returns (by simp) (hb hby own_d8_14) hr)

theorem own_d9_0 : decode jdk_42_method_154_code 0 = .ok (.getstatic 38, 3) := by decide +kernel
theorem own_d9_3 : decode jdk_42_method_154_code 3 = .ok (.ifCond .eq 14, 3) := by decide +kernel
theorem own_d9_6 : decode jdk_42_method_154_code 6 = .ok (.aload_n 0, 1) := by decide +kernel
theorem own_d9_7 : decode jdk_42_method_154_code 7 = .ok (.getfield 15, 3) := by decide +kernel
theorem own_d9_10 : decode jdk_42_method_154_code 10 = .ok (.ifCond .ne 7, 3) := by decide +kernel
theorem own_d9_13 : decode jdk_42_method_154_code 13 = .ok (.iconst 1, 1) := by decide +kernel
theorem own_d9_14 : decode jdk_42_method_154_code 14 = .ok (.goto 4, 3) := by decide +kernel
theorem own_d9_18 : decode jdk_42_method_154_code 18 = .ok (.ireturn, 1) := by decide +kernel
theorem own_ef9 (m : MethodId) (ad0 : Addr) : entryFrame m #[(.ref ad0)] 1 = mkF m 0 #[.val (.ref ad0)] [] := by first | (simp [entryFrame, mkF, argsToLocals, Value.category]; done) | rfl
def own_Q9 (Z : State) (ad0 : Addr) (s_COMPACT_STRINGS : Int32) (h0 : Heap) (n0 : Nat) (v : Option Value) (h : Heap) (L : List Loc) : Prop := v = some (.int (1 : Int32)) ∧ Fr n0 L ∧ h = h0
set_option maxRecDepth 65536 in
set_option maxHeartbeats 40000000 in
theorem own_rm9 (l : Launch) (Z : State) (a0 : Array Value) (hw : ∀ d ∈ tables_1, d.before a0 Z = true) (hs : ∀ d ∈ jdkStatics_1, d.before a0 Z = true) (ws : List Jvm.Cond) (ad0 : Addr) (s_COMPACT_STRINGS : Int32) (h0 : Heap) (n0 : Nat) (Z0 : n0 ≤ h0.size) (S_COMPACT_STRINGS : Sta Z h0 "java/lang/String" "COMPACT_STRINGS" "Z" (.int s_COMPACT_STRINGS)) (hc3 : ¬ (s_COMPACT_STRINGS = (0 : Int32))) (F_coder_ad0 : Fld Z h0 ad0 "java/lang/String" "coder" "B" (.int (0 : Int32))) :
    MetFree l (⟨"java/lang/String", "isLatin1", "()Z"⟩ : MethodName) (head1 (Jvm.Cond.code (⟨"java/lang/String", "isLatin1", "()Z"⟩ : MethodName) jdk_42_method_154_code 1 (some .boolean) :: ws) ({ frames := 0, cells := 0, slots := 0, locals := 0 } : Room)) (fun a U => a = #[(.ref ad0)] ∧ Z.Warmed39 U.vm ∧ U.heap = h0) (fun _ _ _ _ _ => True) (fun _ U o U' => ∃ v L, o = .returned v ∧ own_Q9 Z ad0 s_COMPACT_STRINGS h0 n0 v U'.heap L ∧ FrameEnd U o U' L ({ frames := 0, cells := 0, slots := 0, locals := 0 } : Room).cells ({ frames := 0, cells := 0, slots := 0, locals := 0 } : Room).slots) := by
  refine MetFree.of_bodySF (plainFor_of_name own_pn2) hisR ?_
  intro p e s m args below meth c s₁ Bd hml0 hP hK
  obtain ⟨rfl, hZ, hh⟩ := hP
  have hx := Bd.exec
  have hby := Bd.bytes
  have hlk := Bd.notSynchronized
  have hml : c.maxLocals = 1 := hml0
  have hown : s.vm.findClass "java/lang/String" = some m.cls := findClass_of_methodNamed Bd.named
  have hnm := (name_of_methodNamed Bd.named Bd.method).1
  have X0 : Stand p l e ({ frames := 0, cells := 0, slots := 0, locals := 0 } : Room) s m #[(.ref ad0)] below meth c s₁ [] 0 0 := Stand.of_body Bd
  have e0 : s₁.heap = h0 := by rw [← hh, Bd.state]; rfl
  have N0 := Fr.nil n0
  have KR : Keep h0 h0 [] := Keep.refl _ _
  show own_Fin p e below s ({ frames := 0, cells := 0, slots := 0, locals := 0 } : Room).cells ({ frames := 0, cells := 0, slots := 0, locals := 0 } : Room).slots (own_Q9 Z ad0 s_COMPACT_STRINGS h0 n0) (s₁.setTop (entryFrame m #[(.ref ad0)] 1))
  refine own_cast (own_ef9 m ad0) ?_
  obtain ⟨T1, X1, e1, st1⟩ := getS2 X0 hx hZ hown (host := "") (Or.inl (own_w hw 34 rfl)) Via.refl e0 S_COMPACT_STRINGS (g := (mkF m 0 #[.val (.ref ad0)] [])) rfl (hb hby own_d9_0)
  refine own_step st1 ?_
  show own_Fin p e below s _ _ _ (T1.setTop (mkF m 3 #[.val (.ref ad0)] [(.int s_COMPACT_STRINGS)]))
  refine own_step (fun _ k => XS.ifNo X1.here hx rfl (hb hby own_d9_3) rfl ((if0 _ _).trans (feq hc3).1) k) ?_
  show own_Fin p e below s _ _ _ (T1.setTop (mkF m 6 #[.val (.ref ad0)] []))
  refine own_step (fun _ k => XS.aloadN X1.here hx rfl (hb hby own_d9_6) rfl rfl k) ?_
  show own_Fin p e below s _ _ _ (T1.setTop (mkF m 7 #[.val (.ref ad0)] [(.ref ad0)]))
  obtain ⟨T2, X2, e2, st2⟩ := getF X1 hx hZ hown (host := "") (Or.inl (own_w hw 35 rfl)) Via.refl e1 F_coder_ad0 (g := (mkF m 7 #[.val (.ref ad0)] [(.ref ad0)])) rfl rfl (hb hby own_d9_7)
  refine own_step st2 ?_
  show own_Fin p e below s _ _ _ (T2.setTop (mkF m 10 #[.val (.ref ad0)] [(.int (0 : Int32))]))
  refine own_step (fun _ k => XS.ifNo X2.here hx rfl (hb hby own_d9_10) rfl ((if0 _ _).trans (teq (by decide : (0 : Int32) = (0 : Int32))).2) k) ?_
  show own_Fin p e below s _ _ _ (T2.setTop (mkF m 13 #[.val (.ref ad0)] []))
  refine own_step (fun _ k => XS.iconst X2.here hx rfl (hb hby own_d9_13) k) ?_
  show own_Fin p e below s _ _ _ (T2.setTop (mkF m 14 #[.val (.ref ad0)] [(.int (1 : Int32))]))
  refine own_step (fun _ k => XS.goto X2.here hx rfl (pc0 := 14) (pc' := 18) rfl (hb hby own_d9_14) (by decide) (by decide) k) ?_
  show own_Fin p e below s _ _ _ (T2.setTop (mkF m 18 #[.val (.ref ad0)] [(.int (1 : Int32))]))
  exact own_ret X2 hlk (v := some (.int (1 : Int32))) (fun h => by rw [Bd.returns] at h; cases h) (by decide) (by decide) (by show own_Q9 Z ad0 s_COMPACT_STRINGS h0 n0 _ T2.heap _; rw [e2]; exact ⟨rfl, N0, rfl⟩) (fun fs hr => retN X2 hx (t := .boolean) Bd.returns (by simp) (hb hby own_d9_18) hr)

theorem own_pd0 : parseMethodDescriptor "()B" = some ⟨[], some .byte⟩ := by decide +kernel
abbrev own_y0 : MethodName := (⟨"java/lang/String", "coder", "()B"⟩ : MethodName)
theorem own_d10_0 : decode jdk_42_method_54_code 0 = .ok (.aload_n 0, 1) := by decide +kernel
theorem own_d10_1 : decode jdk_42_method_54_code 1 = .ok (.getfield 9, 3) := by decide +kernel
theorem own_d10_4 : decode jdk_42_method_54_code 4 = .ok (.arraylength, 1) := by decide +kernel
theorem own_d10_5 : decode jdk_42_method_54_code 5 = .ok (.aload_n 0, 1) := by decide +kernel
theorem own_d10_6 : decode jdk_42_method_54_code 6 = .ok (.invokevirtual 335, 3) := by decide +kernel
theorem own_d10_9 : decode jdk_42_method_54_code 9 = .ok (.ishr, 1) := by decide +kernel
theorem own_d10_10 : decode jdk_42_method_54_code 10 = .ok (.ireturn, 1) := by decide +kernel
theorem own_ef10 (m : MethodId) (ad0 : Addr) : entryFrame m #[(.ref ad0)] 1 = mkF m 0 #[.val (.ref ad0)] [] := by first | (simp [entryFrame, mkF, argsToLocals, Value.category]; done) | rfl
def own_Q10 (Z : State) (ad0 : Addr) (wvalue_ad0 : Addr) (k_wvalue_ad0 : ClassId) (wvalue_ad0_0 : Int32) (s_COMPACT_STRINGS : Int32) (h0 : Heap) (n0 : Nat) (v : Option Value) (h : Heap) (L : List Loc) : Prop := v = some (.int ((1 : Int32) >>> ((0 : Int32) &&& 31))) ∧ Fr n0 L ∧ h = h0
set_option maxRecDepth 65536 in
set_option maxHeartbeats 40000000 in
theorem own_rm10 (l : Launch) (Z : State) (a0 : Array Value) (hw : ∀ d ∈ tables_1, d.before a0 Z = true) (hs : ∀ d ∈ jdkStatics_1, d.before a0 Z = true) (ws : List Jvm.Cond) (ad0 : Addr) (wvalue_ad0 : Addr) (k_wvalue_ad0 : ClassId) (wvalue_ad0_0 : Int32) (s_COMPACT_STRINGS : Int32) (h0 : Heap) (n0 : Nat) (Z0 : n0 ≤ h0.size) (F_value_ad0 : Fld Z h0 ad0 "java/lang/String" "value" "[B" (.ref wvalue_ad0)) (A_wvalue_ad0 : Arv Z h0 wvalue_ad0 k_wvalue_ad0 .byte (1 : Int32) [(.int wvalue_ad0_0)] (.int (0 : Int32))) (E_ad0 : Exa Z h0 ad0 "java/lang/String") (S_COMPACT_STRINGS : Sta Z h0 "java/lang/String" "COMPACT_STRINGS" "Z" (.int s_COMPACT_STRINGS)) (F_coder_ad0 : Fld Z h0 ad0 "java/lang/String" "coder" "B" (.int (0 : Int32))) (hc3_6 : ¬ (s_COMPACT_STRINGS = (0 : Int32))) :
    MetFree l (⟨"java/lang/String", "length", "()I"⟩ : MethodName) (head1 (Jvm.Cond.code (⟨"java/lang/String", "length", "()I"⟩ : MethodName) jdk_42_method_54_code 1 (some .int) :: ws) ({ frames := 1, cells := 0, slots := 0, locals := 13 } : Room)) (fun a U => a = #[(.ref ad0)] ∧ Z.Warmed39 U.vm ∧ U.heap = h0) (fun _ _ _ _ _ => True) (fun _ U o U' => ∃ v L, o = .returned v ∧ own_Q10 Z ad0 wvalue_ad0 k_wvalue_ad0 wvalue_ad0_0 s_COMPACT_STRINGS h0 n0 v U'.heap L ∧ FrameEnd U o U' L ({ frames := 1, cells := 0, slots := 0, locals := 13 } : Room).cells ({ frames := 1, cells := 0, slots := 0, locals := 13 } : Room).slots) := by
  refine MetFree.of_bodySF (plainFor_of_name own_pn2) hisR ?_
  intro p e s m args below meth c s₁ Bd hml0 hP hK
  obtain ⟨rfl, hZ, hh⟩ := hP
  have hx := Bd.exec
  have hby := Bd.bytes
  have hlk := Bd.notSynchronized
  have hml : c.maxLocals = 1 := hml0
  have hown : s.vm.findClass "java/lang/String" = some m.cls := findClass_of_methodNamed Bd.named
  have hnm := (name_of_methodNamed Bd.named Bd.method).1
  have X0 : Stand p l e ({ frames := 1, cells := 0, slots := 0, locals := 13 } : Room) s m #[(.ref ad0)] below meth c s₁ [] 0 0 := Stand.of_body Bd
  have e0 : s₁.heap = h0 := by rw [← hh, Bd.state]; rfl
  have N0 := Fr.nil n0
  have KR : Keep h0 h0 [] := Keep.refl _ _
  show own_Fin p e below s ({ frames := 1, cells := 0, slots := 0, locals := 13 } : Room).cells ({ frames := 1, cells := 0, slots := 0, locals := 13 } : Room).slots (own_Q10 Z ad0 wvalue_ad0 k_wvalue_ad0 wvalue_ad0_0 s_COMPACT_STRINGS h0 n0) (s₁.setTop (entryFrame m #[(.ref ad0)] 1))
  refine own_cast (own_ef10 m ad0) ?_
  refine own_step (fun _ k => XS.aloadN X0.here hx rfl (hb hby own_d10_0) rfl rfl k) ?_
  show own_Fin p e below s _ _ _ (s₁.setTop (mkF m 1 #[.val (.ref ad0)] [(.ref ad0)]))
  obtain ⟨T1, X1, e1, st1⟩ := getF X0 hx hZ hown (host := "") (Or.inl (own_w hw 27 rfl)) Via.refl e0 F_value_ad0 (g := (mkF m 1 #[.val (.ref ad0)] [(.ref ad0)])) rfl rfl (hb hby own_d10_1)
  refine own_step st1 ?_
  show own_Fin p e below s _ _ _ (T1.setTop (mkF m 4 #[.val (.ref ad0)] [(.ref wvalue_ad0)]))
  obtain ⟨cl2, Ar2, q2, Sz2, Ng2, Hs2, Gf2⟩ := id A_wvalue_ad0
  refine own_step (fun _ k => X1.arraylength hx (by rw [e1]; exact Ar2.1) (State.isArrayOf_alike hZ.alike Ar2.2.1) (g := (mkF m 4 #[.val (.ref ad0)] [(.ref wvalue_ad0)])) rfl rfl (hb hby own_d10_4) _ k) ?_
  rw [len_of Sz2 Ng2]
  show own_Fin p e below s _ _ _ (T1.setTop (mkF m 5 #[.val (.ref ad0)] [(.int (1 : Int32))]))
  refine own_step (fun _ k => XS.aloadN X1.here hx rfl (hb hby own_d10_5) rfl rfl k) ?_
  show own_Fin p e below s _ _ _ (T1.setTop (mkF m 6 #[.val (.ref ad0)] [(.ref ad0), (.int (1 : Int32))]))
  obtain ⟨cq3, kq3, q3a, q3b, q3c⟩ := isOf hZ e1 E_ad0
  obtain ⟨_, _, ⟨T3, L3, k3, n3⟩, -, X3, ⟨Lc3, hQ3, l3, y3, z3⟩, st3⟩ := X1.virtualBack hx (y := own_y0) (z := own_y0) hown (mvT hZ (own_w hw 29 rfl)) (mvT hZ (own_w hw 30 rfl)) (notFace_of_selects (args := #[]) (mvT hZ (own_w hw 32 rfl))) (mvT hZ (own_w hw 32 rfl)) (mvT hZ (own_w hw 31 rfl)) (by decide) (backOf (W := 1) (own_rm8 l Z a0 hw hs [] ad0 s_COMPACT_STRINGS h0 n0 Z0 S_COMPACT_STRINGS (show ¬ (s_COMPACT_STRINGS = (0 : Int32)) from hc3_6) F_coder_ad0) hZ (own_w hw 33 rfl) (own_w hw 25 rfl) (by decide) (by decide)) q3a q3c (g := (mkF m 6 #[.val (.ref ad0)] [(.ref ad0), (.int (1 : Int32))])) rfl (by rw [hml]; rfl) (Steps.refl _) (argsL := []) (rest := [(.int (1 : Int32))]) (lenOf own_pd0 rfl) rfl (by show 2 * 0 + _ ≤ _; exact Nat.le_of_eq rfl) (hb hby own_d10_6) (fun _ _ => ⟨rfl, e1, (by decide : 0 + 0 ≤ _), (by decide : 0 + 0 ≤ _)⟩)
  dsimp only [Pt.U, Pt.locs, Pt.cells, Pt.slots] at X3 l3 y3 z3 st3 hQ3
  subst l3 y3 z3
  obtain ⟨rfl, N3q, e3⟩ := hQ3
  have N3 := Fr.app N0 N3q
  refine own_step (fun _ k => st3.trans k) ?_
  show own_Fin p e below s _ _ _ (T3.setTop (mkF m 9 #[.val (.ref ad0)] [(.int (0 : Int32)), (.int (1 : Int32))]))
  refine own_step (fun _ k => XS.ishr X3.here hx rfl (hb hby own_d10_9) rfl k) ?_
  show own_Fin p e below s _ _ _ (T3.setTop (mkF m 10 #[.val (.ref ad0)] [(.int ((1 : Int32) >>> ((0 : Int32) &&& 31)))]))
  exact own_ret X3 hlk (v := some (.int ((1 : Int32) >>> ((0 : Int32) &&& 31)))) (fun h => by rw [Bd.returns] at h; cases h) (by decide) (by decide) (by show own_Q10 Z ad0 wvalue_ad0 k_wvalue_ad0 wvalue_ad0_0 s_COMPACT_STRINGS h0 n0 _ T3.heap _; rw [e3]; exact ⟨rfl, N3, rfl⟩) (fun fs hr => retOut X3 hx Bd.returns rfl (Or.inl ⟨rfl, Or.inl rfl, _, rfl⟩) (hb hby own_d10_10) hr)

theorem own_d11_0 : decode jdk_42_method_54_code 0 = .ok (.aload_n 0, 1) := by decide +kernel
theorem own_d11_1 : decode jdk_42_method_54_code 1 = .ok (.getfield 9, 3) := by decide +kernel
theorem own_d11_4 : decode jdk_42_method_54_code 4 = .ok (.arraylength, 1) := by decide +kernel
theorem own_d11_5 : decode jdk_42_method_54_code 5 = .ok (.aload_n 0, 1) := by decide +kernel
theorem own_d11_6 : decode jdk_42_method_54_code 6 = .ok (.invokevirtual 335, 3) := by decide +kernel
theorem own_d11_9 : decode jdk_42_method_54_code 9 = .ok (.ishr, 1) := by decide +kernel
theorem own_d11_10 : decode jdk_42_method_54_code 10 = .ok (.ireturn, 1) := by decide +kernel
theorem own_ef11 (m : MethodId) (ad0 : Addr) : entryFrame m #[(.ref ad0)] 1 = mkF m 0 #[.val (.ref ad0)] [] := by first | (simp [entryFrame, mkF, argsToLocals, Value.category]; done) | rfl
def own_Q11 (Z : State) (ad0 : Addr) (wvalue_ad0 : Addr) (k_wvalue_ad0 : ClassId) (wvalue_ad0_0 : Int32) (wvalue_ad0_1 : Int32) (s_COMPACT_STRINGS : Int32) (h0 : Heap) (n0 : Nat) (v : Option Value) (h : Heap) (L : List Loc) : Prop := v = some (.int ((2 : Int32) >>> ((0 : Int32) &&& 31))) ∧ Fr n0 L ∧ h = h0
set_option maxRecDepth 65536 in
set_option maxHeartbeats 40000000 in
theorem own_rm11 (l : Launch) (Z : State) (a0 : Array Value) (hw : ∀ d ∈ tables_1, d.before a0 Z = true) (hs : ∀ d ∈ jdkStatics_1, d.before a0 Z = true) (ws : List Jvm.Cond) (ad0 : Addr) (wvalue_ad0 : Addr) (k_wvalue_ad0 : ClassId) (wvalue_ad0_0 : Int32) (wvalue_ad0_1 : Int32) (s_COMPACT_STRINGS : Int32) (h0 : Heap) (n0 : Nat) (Z0 : n0 ≤ h0.size) (F_value_ad0 : Fld Z h0 ad0 "java/lang/String" "value" "[B" (.ref wvalue_ad0)) (A_wvalue_ad0 : Arv Z h0 wvalue_ad0 k_wvalue_ad0 .byte (2 : Int32) [(.int wvalue_ad0_0), (.int wvalue_ad0_1)] (.int (0 : Int32))) (E_ad0 : Exa Z h0 ad0 "java/lang/String") (S_COMPACT_STRINGS : Sta Z h0 "java/lang/String" "COMPACT_STRINGS" "Z" (.int s_COMPACT_STRINGS)) (F_coder_ad0 : Fld Z h0 ad0 "java/lang/String" "coder" "B" (.int (0 : Int32))) (hc3_6 : ¬ (s_COMPACT_STRINGS = (0 : Int32))) :
    MetFree l (⟨"java/lang/String", "length", "()I"⟩ : MethodName) (head1 (Jvm.Cond.code (⟨"java/lang/String", "length", "()I"⟩ : MethodName) jdk_42_method_54_code 1 (some .int) :: ws) ({ frames := 1, cells := 0, slots := 0, locals := 13 } : Room)) (fun a U => a = #[(.ref ad0)] ∧ Z.Warmed39 U.vm ∧ U.heap = h0) (fun _ _ _ _ _ => True) (fun _ U o U' => ∃ v L, o = .returned v ∧ own_Q11 Z ad0 wvalue_ad0 k_wvalue_ad0 wvalue_ad0_0 wvalue_ad0_1 s_COMPACT_STRINGS h0 n0 v U'.heap L ∧ FrameEnd U o U' L ({ frames := 1, cells := 0, slots := 0, locals := 13 } : Room).cells ({ frames := 1, cells := 0, slots := 0, locals := 13 } : Room).slots) := by
  refine MetFree.of_bodySF (plainFor_of_name own_pn2) hisR ?_
  intro p e s m args below meth c s₁ Bd hml0 hP hK
  obtain ⟨rfl, hZ, hh⟩ := hP
  have hx := Bd.exec
  have hby := Bd.bytes
  have hlk := Bd.notSynchronized
  have hml : c.maxLocals = 1 := hml0
  have hown : s.vm.findClass "java/lang/String" = some m.cls := findClass_of_methodNamed Bd.named
  have hnm := (name_of_methodNamed Bd.named Bd.method).1
  have X0 : Stand p l e ({ frames := 1, cells := 0, slots := 0, locals := 13 } : Room) s m #[(.ref ad0)] below meth c s₁ [] 0 0 := Stand.of_body Bd
  have e0 : s₁.heap = h0 := by rw [← hh, Bd.state]; rfl
  have N0 := Fr.nil n0
  have KR : Keep h0 h0 [] := Keep.refl _ _
  show own_Fin p e below s ({ frames := 1, cells := 0, slots := 0, locals := 13 } : Room).cells ({ frames := 1, cells := 0, slots := 0, locals := 13 } : Room).slots (own_Q11 Z ad0 wvalue_ad0 k_wvalue_ad0 wvalue_ad0_0 wvalue_ad0_1 s_COMPACT_STRINGS h0 n0) (s₁.setTop (entryFrame m #[(.ref ad0)] 1))
  refine own_cast (own_ef11 m ad0) ?_
  refine own_step (fun _ k => XS.aloadN X0.here hx rfl (hb hby own_d11_0) rfl rfl k) ?_
  show own_Fin p e below s _ _ _ (s₁.setTop (mkF m 1 #[.val (.ref ad0)] [(.ref ad0)]))
  obtain ⟨T1, X1, e1, st1⟩ := getF X0 hx hZ hown (host := "") (Or.inl (own_w hw 27 rfl)) Via.refl e0 F_value_ad0 (g := (mkF m 1 #[.val (.ref ad0)] [(.ref ad0)])) rfl rfl (hb hby own_d11_1)
  refine own_step st1 ?_
  show own_Fin p e below s _ _ _ (T1.setTop (mkF m 4 #[.val (.ref ad0)] [(.ref wvalue_ad0)]))
  obtain ⟨cl2, Ar2, q2, Sz2, Ng2, Hs2, Gf2⟩ := id A_wvalue_ad0
  refine own_step (fun _ k => X1.arraylength hx (by rw [e1]; exact Ar2.1) (State.isArrayOf_alike hZ.alike Ar2.2.1) (g := (mkF m 4 #[.val (.ref ad0)] [(.ref wvalue_ad0)])) rfl rfl (hb hby own_d11_4) _ k) ?_
  rw [len_of Sz2 Ng2]
  show own_Fin p e below s _ _ _ (T1.setTop (mkF m 5 #[.val (.ref ad0)] [(.int (2 : Int32))]))
  refine own_step (fun _ k => XS.aloadN X1.here hx rfl (hb hby own_d11_5) rfl rfl k) ?_
  show own_Fin p e below s _ _ _ (T1.setTop (mkF m 6 #[.val (.ref ad0)] [(.ref ad0), (.int (2 : Int32))]))
  obtain ⟨cq3, kq3, q3a, q3b, q3c⟩ := isOf hZ e1 E_ad0
  obtain ⟨_, _, ⟨T3, L3, k3, n3⟩, -, X3, ⟨Lc3, hQ3, l3, y3, z3⟩, st3⟩ := X1.virtualBack hx (y := own_y0) (z := own_y0) hown (mvT hZ (own_w hw 29 rfl)) (mvT hZ (own_w hw 30 rfl)) (notFace_of_selects (args := #[]) (mvT hZ (own_w hw 32 rfl))) (mvT hZ (own_w hw 32 rfl)) (mvT hZ (own_w hw 31 rfl)) (by decide) (backOf (W := 1) (own_rm8 l Z a0 hw hs [] ad0 s_COMPACT_STRINGS h0 n0 Z0 S_COMPACT_STRINGS (show ¬ (s_COMPACT_STRINGS = (0 : Int32)) from hc3_6) F_coder_ad0) hZ (own_w hw 33 rfl) (own_w hw 25 rfl) (by decide) (by decide)) q3a q3c (g := (mkF m 6 #[.val (.ref ad0)] [(.ref ad0), (.int (2 : Int32))])) rfl (by rw [hml]; rfl) (Steps.refl _) (argsL := []) (rest := [(.int (2 : Int32))]) (lenOf own_pd0 rfl) rfl (by show 2 * 0 + _ ≤ _; exact Nat.le_of_eq rfl) (hb hby own_d11_6) (fun _ _ => ⟨rfl, e1, (by decide : 0 + 0 ≤ _), (by decide : 0 + 0 ≤ _)⟩)
  dsimp only [Pt.U, Pt.locs, Pt.cells, Pt.slots] at X3 l3 y3 z3 st3 hQ3
  subst l3 y3 z3
  obtain ⟨rfl, N3q, e3⟩ := hQ3
  have N3 := Fr.app N0 N3q
  refine own_step (fun _ k => st3.trans k) ?_
  show own_Fin p e below s _ _ _ (T3.setTop (mkF m 9 #[.val (.ref ad0)] [(.int (0 : Int32)), (.int (2 : Int32))]))
  refine own_step (fun _ k => XS.ishr X3.here hx rfl (hb hby own_d11_9) rfl k) ?_
  show own_Fin p e below s _ _ _ (T3.setTop (mkF m 10 #[.val (.ref ad0)] [(.int ((2 : Int32) >>> ((0 : Int32) &&& 31)))]))
  exact own_ret X3 hlk (v := some (.int ((2 : Int32) >>> ((0 : Int32) &&& 31)))) (fun h => by rw [Bd.returns] at h; cases h) (by decide) (by decide) (by show own_Q11 Z ad0 wvalue_ad0 k_wvalue_ad0 wvalue_ad0_0 wvalue_ad0_1 s_COMPACT_STRINGS h0 n0 _ T3.heap _; rw [e3]; exact ⟨rfl, N3, rfl⟩) (fun fs hr => retOut X3 hx Bd.returns rfl (Or.inl ⟨rfl, Or.inl rfl, _, rfl⟩) (hb hby own_d11_10) hr)

theorem own_d12_0 : decode jdk_41_method_11_code 0 = .ok (.iload_n 0, 1) := by decide +kernel
theorem own_d12_1 : decode jdk_41_method_11_code 1 = .ok (.ifCond .lt 8, 3) := by decide +kernel
theorem own_d12_4 : decode jdk_41_method_11_code 4 = .ok (.iload_n 0, 1) := by decide +kernel
theorem own_d12_5 : decode jdk_41_method_11_code 5 = .ok (.iload_n 1, 1) := by decide +kernel
theorem own_d12_6 : decode jdk_41_method_11_code 6 = .ok (.if_icmp .lt 10, 3) := by decide +kernel
theorem own_d12_16 : decode jdk_41_method_11_code 16 = .ok (.iload_n 0, 1) := by decide +kernel
theorem own_d12_17 : decode jdk_41_method_11_code 17 = .ok (.ireturn, 1) := by decide +kernel
theorem own_pn3 : plainName "jdk/internal/util/Preconditions" = true := by first | (simp [plainName, overriddenIn]; done) | decide +kernel
theorem own_ef12 (m : MethodId) (p0 : Int32) (p1 : Int32) (v2 : Value) (hr_v2 : v2.isRef = true) : entryFrame m #[(.int p0), (.int p1), v2] 3 = mkF m 0 #[.val (.int p0), .val (.int p1), .val v2] [] := by rcases ref_cases hr_v2 with rfl | ⟨_, rfl⟩ <;> first | (simp [entryFrame, mkF, argsToLocals, Value.category]; done) | rfl
def own_Q12 (Z : State) (p0 : Int32) (p1 : Int32) (v2 : Value) (h0 : Heap) (n0 : Nat) (v : Option Value) (h : Heap) (L : List Loc) : Prop := v = some (.int p0) ∧ Fr n0 L ∧ h = h0
set_option maxRecDepth 65536 in
set_option maxHeartbeats 40000000 in
theorem own_rm12 (l : Launch) (Z : State) (a0 : Array Value) (hw : ∀ d ∈ tables_1, d.before a0 Z = true) (hs : ∀ d ∈ jdkStatics_1, d.before a0 Z = true) (ws : List Jvm.Cond) (p0 : Int32) (p1 : Int32) (v2 : Value) (h0 : Heap) (n0 : Nat) (Z0 : n0 ≤ h0.size) (hr_v2 : v2.isRef = true) (hc1 : ¬ (p0 < (0 : Int32))) (hc6 : p0 < p1) :
    MetFree l (⟨"jdk/internal/util/Preconditions", "checkIndex", "(IILjava/util/function/BiFunction;)I"⟩ : MethodName) (head1 (Jvm.Cond.code (⟨"jdk/internal/util/Preconditions", "checkIndex", "(IILjava/util/function/BiFunction;)I"⟩ : MethodName) jdk_41_method_11_code 3 (some .int) :: ws) ({ frames := 0, cells := 0, slots := 0, locals := 0 } : Room)) (fun a U => a = #[(.int p0), (.int p1), v2] ∧ Z.Warmed39 U.vm ∧ U.heap = h0) (fun _ _ _ _ _ => True) (fun _ U o U' => ∃ v L, o = .returned v ∧ own_Q12 Z p0 p1 v2 h0 n0 v U'.heap L ∧ FrameEnd U o U' L ({ frames := 0, cells := 0, slots := 0, locals := 0 } : Room).cells ({ frames := 0, cells := 0, slots := 0, locals := 0 } : Room).slots) := by
  refine MetFree.of_bodySF (plainFor_of_name own_pn3) hisR ?_
  intro p e s m args below meth c s₁ Bd hml0 hP hK
  obtain ⟨rfl, hZ, hh⟩ := hP
  have hx := Bd.exec
  have hby := Bd.bytes
  have hlk := Bd.notSynchronized
  have hml : c.maxLocals = 3 := hml0
  have hown : s.vm.findClass "jdk/internal/util/Preconditions" = some m.cls := findClass_of_methodNamed Bd.named
  have hnm := (name_of_methodNamed Bd.named Bd.method).1
  have X0 : Stand p l e ({ frames := 0, cells := 0, slots := 0, locals := 0 } : Room) s m #[(.int p0), (.int p1), v2] below meth c s₁ [] 0 0 := Stand.of_body Bd
  have e0 : s₁.heap = h0 := by rw [← hh, Bd.state]; rfl
  have N0 := Fr.nil n0
  have KR : Keep h0 h0 [] := Keep.refl _ _
  show own_Fin p e below s ({ frames := 0, cells := 0, slots := 0, locals := 0 } : Room).cells ({ frames := 0, cells := 0, slots := 0, locals := 0 } : Room).slots (own_Q12 Z p0 p1 v2 h0 n0) (s₁.setTop (entryFrame m #[(.int p0), (.int p1), v2] 3))
  refine own_cast (own_ef12 m p0 p1 v2 hr_v2) ?_
  refine own_step (fun _ k => XS.iloadN X0.here hx rfl (hb hby own_d12_0) rfl k) ?_
  show own_Fin p e below s _ _ _ (s₁.setTop (mkF m 1 #[.val (.int p0), .val (.int p1), .val v2] [(.int p0)]))
  refine own_step (fun _ k => XS.ifNo X0.here hx rfl (hb hby own_d12_1) rfl ((if0 _ _).trans (flt hc1).1) k) ?_
  show own_Fin p e below s _ _ _ (s₁.setTop (mkF m 4 #[.val (.int p0), .val (.int p1), .val v2] []))
  refine own_step (fun _ k => XS.iloadN X0.here hx rfl (hb hby own_d12_4) rfl k) ?_
  show own_Fin p e below s _ _ _ (s₁.setTop (mkF m 5 #[.val (.int p0), .val (.int p1), .val v2] [(.int p0)]))
  refine own_step (fun _ k => XS.iloadN X0.here hx rfl (hb hby own_d12_5) rfl k) ?_
  show own_Fin p e below s _ _ _ (s₁.setTop (mkF m 6 #[.val (.int p0), .val (.int p1), .val v2] [(.int p1), (.int p0)]))
  refine own_step (fun _ k => XS.icmpYes X0.here hx rfl (pc0 := 6) (pc' := 16) rfl (hb hby own_d12_6) rfl (tlt hc6).1 (by decide) (by decide) k) ?_
  show own_Fin p e below s _ _ _ (s₁.setTop (mkF m 16 #[.val (.int p0), .val (.int p1), .val v2] []))
  refine own_step (fun _ k => XS.iloadN X0.here hx rfl (hb hby own_d12_16) rfl k) ?_
  show own_Fin p e below s _ _ _ (s₁.setTop (mkF m 17 #[.val (.int p0), .val (.int p1), .val v2] [(.int p0)]))
  exact own_ret X0 hlk (v := some (.int p0)) (fun h => by rw [Bd.returns] at h; cases h) (by decide) (by decide) (by show own_Q12 Z p0 p1 v2 h0 n0 _ s₁.heap _; rw [e0]; exact ⟨rfl, N0, rfl⟩) (fun fs hr => retOut X0 hx Bd.returns rfl (Or.inl ⟨rfl, Or.inl rfl, _, rfl⟩) (hb hby own_d12_17) hr)

theorem own_pd1 : parseMethodDescriptor "(IILjava/util/function/BiFunction;)I" = some ⟨[.int, .int, (.object "java/util/function/BiFunction")], some .int⟩ := by decide +kernel
abbrev own_y1 : MethodName := (⟨"jdk/internal/util/Preconditions", "checkIndex", "(IILjava/util/function/BiFunction;)I"⟩ : MethodName)
theorem own_d13_0 : decode jdk_42_method_155_code 0 = .ok (.iload_n 0, 1) := by decide +kernel
theorem own_d13_1 : decode jdk_42_method_155_code 1 = .ok (.iload_n 1, 1) := by decide +kernel
theorem own_d13_2 : decode jdk_42_method_155_code 2 = .ok (.getstatic 1053, 3) := by decide +kernel
theorem own_d13_5 : decode jdk_42_method_155_code 5 = .ok (.invokestatic 1059, 3) := by decide +kernel
theorem own_d13_8 : decode jdk_42_method_155_code 8 = .ok (.pop, 1) := by decide +kernel
theorem own_d13_9 : decode jdk_42_method_155_code 9 = .ok (.return_, 1) := by decide +kernel
theorem own_ef13 (m : MethodId) (p0 : Int32) (p1 : Int32) : entryFrame m #[(.int p0), (.int p1)] 2 = mkF m 0 #[.val (.int p0), .val (.int p1)] [] := by first | (simp [entryFrame, mkF, argsToLocals, Value.category]; done) | rfl
def own_Q13 (Z : State) (p0 : Int32) (p1 : Int32) (s_SIOOBE_FORMATTER : Value) (h0 : Heap) (n0 : Nat) (v : Option Value) (h : Heap) (L : List Loc) : Prop := v = none ∧ Fr n0 L ∧ h = h0
set_option maxRecDepth 65536 in
set_option maxHeartbeats 40000000 in
theorem own_rm13 (l : Launch) (Z : State) (a0 : Array Value) (hw : ∀ d ∈ tables_1, d.before a0 Z = true) (hs : ∀ d ∈ jdkStatics_1, d.before a0 Z = true) (ws : List Jvm.Cond) (p0 : Int32) (p1 : Int32) (s_SIOOBE_FORMATTER : Value) (h0 : Heap) (n0 : Nat) (Z0 : n0 ≤ h0.size) (hr_s_SIOOBE_FORMATTER : s_SIOOBE_FORMATTER.isRef = true) (S_SIOOBE_FORMATTER : Sta Z h0 "jdk/internal/util/Preconditions" "SIOOBE_FORMATTER" "Ljava/util/function/BiFunction;" s_SIOOBE_FORMATTER) (hc1_5 : ¬ (p0 < (0 : Int32))) (hc6_5 : p0 < p1) :
    MetFree l (⟨"java/lang/String", "checkIndex", "(II)V"⟩ : MethodName) (head1 (Jvm.Cond.code (⟨"java/lang/String", "checkIndex", "(II)V"⟩ : MethodName) jdk_42_method_155_code 2 none :: ws) ({ frames := 1, cells := 0, slots := 0, locals := 14 } : Room)) (fun a U => a = #[(.int p0), (.int p1)] ∧ Z.Warmed39 U.vm ∧ U.heap = h0) (fun _ _ _ _ _ => True) (fun _ U o U' => ∃ v L, o = .returned v ∧ own_Q13 Z p0 p1 s_SIOOBE_FORMATTER h0 n0 v U'.heap L ∧ FrameEnd U o U' L ({ frames := 1, cells := 0, slots := 0, locals := 14 } : Room).cells ({ frames := 1, cells := 0, slots := 0, locals := 14 } : Room).slots) := by
  refine MetFree.of_bodySF (plainFor_of_name own_pn2) hisR ?_
  intro p e s m args below meth c s₁ Bd hml0 hP hK
  obtain ⟨rfl, hZ, hh⟩ := hP
  have hx := Bd.exec
  have hby := Bd.bytes
  have hlk := Bd.notSynchronized
  have hml : c.maxLocals = 2 := hml0
  have hown : s.vm.findClass "java/lang/String" = some m.cls := findClass_of_methodNamed Bd.named
  have hnm := (name_of_methodNamed Bd.named Bd.method).1
  have X0 : Stand p l e ({ frames := 1, cells := 0, slots := 0, locals := 14 } : Room) s m #[(.int p0), (.int p1)] below meth c s₁ [] 0 0 := Stand.of_body Bd
  have e0 : s₁.heap = h0 := by rw [← hh, Bd.state]; rfl
  have N0 := Fr.nil n0
  have KR : Keep h0 h0 [] := Keep.refl _ _
  show own_Fin p e below s ({ frames := 1, cells := 0, slots := 0, locals := 14 } : Room).cells ({ frames := 1, cells := 0, slots := 0, locals := 14 } : Room).slots (own_Q13 Z p0 p1 s_SIOOBE_FORMATTER h0 n0) (s₁.setTop (entryFrame m #[(.int p0), (.int p1)] 2))
  refine own_cast (own_ef13 m p0 p1) ?_
  refine own_step (fun _ k => XS.iloadN X0.here hx rfl (hb hby own_d13_0) rfl k) ?_
  show own_Fin p e below s _ _ _ (s₁.setTop (mkF m 1 #[.val (.int p0), .val (.int p1)] [(.int p0)]))
  refine own_step (fun _ k => XS.iloadN X0.here hx rfl (hb hby own_d13_1) rfl k) ?_
  show own_Fin p e below s _ _ _ (s₁.setTop (mkF m 2 #[.val (.int p0), .val (.int p1)] [(.int p1), (.int p0)]))
  obtain ⟨T1, X1, e1, st1⟩ := getS2 X0 hx hZ hown (host := "") (Or.inl (own_w hw 54 rfl)) Via.refl e0 S_SIOOBE_FORMATTER (g := (mkF m 2 #[.val (.int p0), .val (.int p1)] [(.int p1), (.int p0)])) rfl (hb hby own_d13_2)
  refine own_step st1 ?_
  show own_Fin p e below s _ _ _ (T1.setTop (mkF m 5 #[.val (.int p0), .val (.int p1)] [s_SIOOBE_FORMATTER, (.int p1), (.int p0)]))
  obtain ⟨_, _, ⟨T2, L2, k2, n2⟩, -, X2, ⟨Lc2, hQ2, l2, y2, z2⟩, st2⟩ := Jvm.LawKit.callS X1 hx (y := own_y1) hown (mvT hZ (own_w hw 56 rfl)) (mvT hZ (own_w hw 57 rfl)) (mvT hZ (own_w hw 55 rfl)) (mvT hZ (own_w hw 58 rfl)) (by decide) (backOf (W := 0) (own_rm12 l Z a0 hw hs [] p0 p1 s_SIOOBE_FORMATTER h0 n0 Z0 hr_s_SIOOBE_FORMATTER (show ¬ (p0 < (0 : Int32)) from hc1_5) (show p0 < p1 from hc6_5)) hZ (own_w hw 58 rfl) (own_w hw 55 rfl) (by decide) (by decide)) (g := (mkF m 5 #[.val (.int p0), .val (.int p1)] [s_SIOOBE_FORMATTER, (.int p1), (.int p0)])) rfl (by rw [hml]; rfl) (argsL := [(.int p0), (.int p1), s_SIOOBE_FORMATTER]) (rest := []) (lenOf own_pd1 rfl) rfl (by show 2 * 0 + _ ≤ _; exact Nat.le_of_eq rfl) (hb hby own_d13_5) (fun _ _ => ⟨rfl, e1, (by decide : 0 + 0 ≤ _), (by decide : 0 + 0 ≤ _)⟩)
  dsimp only [Pt.U, Pt.locs, Pt.cells, Pt.slots] at X2 l2 y2 z2 st2 hQ2
  subst l2 y2 z2
  obtain ⟨rfl, N2q, e2⟩ := hQ2
  have N2 := Fr.app N0 N2q
  refine own_step (fun _ k => st2 _ k) ?_
  show own_Fin p e below s _ _ _ (T2.setTop (mkF m 8 #[.val (.int p0), .val (.int p1)] [(.int p0)]))
  refine own_step (fun _ k => XS.pop X2.here hx rfl (hb hby own_d13_8) rfl rfl k) ?_
  show own_Fin p e below s _ _ _ (T2.setTop (mkF m 9 #[.val (.int p0), .val (.int p1)] []))
  exact own_ret X2 hlk (v := none) (fun _ => rfl) (by decide) (by decide) (by show own_Q13 Z p0 p1 s_SIOOBE_FORMATTER h0 n0 _ T2.heap _; rw [e2]; exact ⟨rfl, N2, rfl⟩) (fun fs hr => X2.returnOut hx Bd.returns (hb hby own_d13_9) hr)

theorem own_pd2 : parseMethodDescriptor "(II)V" = some ⟨[.int, .int], none⟩ := by decide +kernel
abbrev own_y2 : MethodName := (⟨"java/lang/String", "checkIndex", "(II)V"⟩ : MethodName)
theorem own_d14_0 : decode jdk_43_method_2_code 0 = .ok (.iload_n 1, 1) := by decide +kernel
theorem own_d14_1 : decode jdk_43_method_2_code 1 = .ok (.aload_n 0, 1) := by decide +kernel
theorem own_d14_2 : decode jdk_43_method_2_code 2 = .ok (.arraylength, 1) := by decide +kernel
theorem own_d14_3 : decode jdk_43_method_2_code 3 = .ok (.invokestatic 9, 3) := by decide +kernel
theorem own_d14_6 : decode jdk_43_method_2_code 6 = .ok (.aload_n 0, 1) := by decide +kernel
theorem own_d14_7 : decode jdk_43_method_2_code 7 = .ok (.iload_n 1, 1) := by decide +kernel
theorem own_d14_8 : decode jdk_43_method_2_code 8 = .ok (.baload, 1) := by decide +kernel
theorem own_d14_9 : decode jdk_43_method_2_code 9 = .ok (.sipush 255, 3) := by decide +kernel
theorem own_d14_12 : decode jdk_43_method_2_code 12 = .ok (.iand, 1) := by decide +kernel
theorem own_d14_13 : decode jdk_43_method_2_code 13 = .ok (.i2c, 1) := by decide +kernel
theorem own_d14_14 : decode jdk_43_method_2_code 14 = .ok (.ireturn, 1) := by decide +kernel
theorem own_pn4 : plainName "java/lang/StringLatin1" = true := by first | (simp [plainName, overriddenIn]; done) | decide +kernel
theorem own_ef14 (m : MethodId) (ad0 : Addr) : entryFrame m #[(.ref ad0), (.int (0 : Int32))] 2 = mkF m 0 #[.val (.ref ad0), .val (.int (0 : Int32))] [] := by first | (simp [entryFrame, mkF, argsToLocals, Value.category]; done) | rfl
def own_Q14 (Z : State) (ad0 : Addr) (k_ad0 : ClassId) (ad0_0 : Int32) (s_SIOOBE_FORMATTER : Value) (h0 : Heap) (n0 : Nat) (v : Option Value) (h : Heap) (L : List Loc) : Prop := v = some (.int (nar .char ((ad0_0 &&& (255 : Int32)).toUInt32.toUInt16.toUInt32.toInt32))) ∧ Fr n0 L ∧ h = h0
set_option maxRecDepth 65536 in
set_option maxHeartbeats 40000000 in
theorem own_rm14 (l : Launch) (Z : State) (a0 : Array Value) (hw : ∀ d ∈ tables_1, d.before a0 Z = true) (hs : ∀ d ∈ jdkStatics_1, d.before a0 Z = true) (ws : List Jvm.Cond) (ad0 : Addr) (k_ad0 : ClassId) (ad0_0 : Int32) (s_SIOOBE_FORMATTER : Value) (h0 : Heap) (n0 : Nat) (Z0 : n0 ≤ h0.size) (A_ad0 : Arv Z h0 ad0 k_ad0 .byte (1 : Int32) [(.int ad0_0)] (.int (0 : Int32))) (hr_s_SIOOBE_FORMATTER : s_SIOOBE_FORMATTER.isRef = true) (S_SIOOBE_FORMATTER : Sta Z h0 "jdk/internal/util/Preconditions" "SIOOBE_FORMATTER" "Ljava/util/function/BiFunction;" s_SIOOBE_FORMATTER) :
    MetFree l (⟨"java/lang/StringLatin1", "charAt", "([BI)C"⟩ : MethodName) (head1 (Jvm.Cond.code (⟨"java/lang/StringLatin1", "charAt", "([BI)C"⟩ : MethodName) jdk_43_method_2_code 2 (some .char) :: ws) ({ frames := 2, cells := 0, slots := 0, locals := 27 } : Room)) (fun a U => a = #[(.ref ad0), (.int (0 : Int32))] ∧ Z.Warmed39 U.vm ∧ U.heap = h0) (fun _ _ _ _ _ => True) (fun _ U o U' => ∃ v L, o = .returned v ∧ own_Q14 Z ad0 k_ad0 ad0_0 s_SIOOBE_FORMATTER h0 n0 v U'.heap L ∧ FrameEnd U o U' L ({ frames := 2, cells := 0, slots := 0, locals := 27 } : Room).cells ({ frames := 2, cells := 0, slots := 0, locals := 27 } : Room).slots) := by
  refine MetFree.of_bodySF (plainFor_of_name own_pn4) hisR ?_
  intro p e s m args below meth c s₁ Bd hml0 hP hK
  obtain ⟨rfl, hZ, hh⟩ := hP
  have hx := Bd.exec
  have hby := Bd.bytes
  have hlk := Bd.notSynchronized
  have hml : c.maxLocals = 2 := hml0
  have hown : s.vm.findClass "java/lang/StringLatin1" = some m.cls := findClass_of_methodNamed Bd.named
  have hnm := (name_of_methodNamed Bd.named Bd.method).1
  have X0 : Stand p l e ({ frames := 2, cells := 0, slots := 0, locals := 27 } : Room) s m #[(.ref ad0), (.int (0 : Int32))] below meth c s₁ [] 0 0 := Stand.of_body Bd
  have e0 : s₁.heap = h0 := by rw [← hh, Bd.state]; rfl
  have N0 := Fr.nil n0
  have KR : Keep h0 h0 [] := Keep.refl _ _
  show own_Fin p e below s ({ frames := 2, cells := 0, slots := 0, locals := 27 } : Room).cells ({ frames := 2, cells := 0, slots := 0, locals := 27 } : Room).slots (own_Q14 Z ad0 k_ad0 ad0_0 s_SIOOBE_FORMATTER h0 n0) (s₁.setTop (entryFrame m #[(.ref ad0), (.int (0 : Int32))] 2))
  refine own_cast (own_ef14 m ad0) ?_
  refine own_step (fun _ k => XS.iloadN X0.here hx rfl (hb hby own_d14_0) rfl k) ?_
  show own_Fin p e below s _ _ _ (s₁.setTop (mkF m 1 #[.val (.ref ad0), .val (.int (0 : Int32))] [(.int (0 : Int32))]))
  refine own_step (fun _ k => XS.aloadN X0.here hx rfl (hb hby own_d14_1) rfl rfl k) ?_
  show own_Fin p e below s _ _ _ (s₁.setTop (mkF m 2 #[.val (.ref ad0), .val (.int (0 : Int32))] [(.ref ad0), (.int (0 : Int32))]))
  obtain ⟨cl1, Ar1, q1, Sz1, Ng1, Hs1, Gf1⟩ := id A_ad0
  refine own_step (fun _ k => X0.arraylength hx (by rw [e0]; exact Ar1.1) (State.isArrayOf_alike hZ.alike Ar1.2.1) (g := (mkF m 2 #[.val (.ref ad0), .val (.int (0 : Int32))] [(.ref ad0), (.int (0 : Int32))])) rfl rfl (hb hby own_d14_2) _ k) ?_
  rw [len_of Sz1 Ng1]
  show own_Fin p e below s _ _ _ (s₁.setTop (mkF m 3 #[.val (.ref ad0), .val (.int (0 : Int32))] [(.int (1 : Int32)), (.int (0 : Int32))]))
  obtain ⟨_, _, ⟨T2, L2, k2, n2⟩, -, X2, ⟨Lc2, hQ2, l2, y2, z2⟩, st2⟩ := Jvm.LawKit.callS X0 hx (y := own_y2) hown (mvT hZ (own_w hw 51 rfl)) (mvT hZ (own_w hw 52 rfl)) (mvT hZ (own_w hw 25 rfl)) (mvT hZ (own_w hw 53 rfl)) (by decide) (backOf (W := 0) (own_rm13 l Z a0 hw hs [] ((0 : Int32)) ((1 : Int32)) s_SIOOBE_FORMATTER h0 n0 Z0 hr_s_SIOOBE_FORMATTER S_SIOOBE_FORMATTER (show ¬ ((0 : Int32) < (0 : Int32)) from (by first | decide | assumption)) (show (0 : Int32) < (1 : Int32) from (by first | decide | assumption))) hZ (own_w hw 53 rfl) (own_w hw 25 rfl) (by decide) (by decide)) (g := (mkF m 3 #[.val (.ref ad0), .val (.int (0 : Int32))] [(.int (1 : Int32)), (.int (0 : Int32))])) rfl (by rw [hml]; rfl) (argsL := [(.int (0 : Int32)), (.int (1 : Int32))]) (rest := []) (lenOf own_pd2 rfl) rfl (by show 2 * 0 + _ ≤ _; exact Nat.le_of_eq rfl) (hb hby own_d14_3) (fun _ _ => ⟨rfl, e0, (by decide : 0 + 0 ≤ _), (by decide : 0 + 0 ≤ _)⟩)
  dsimp only [Pt.U, Pt.locs, Pt.cells, Pt.slots] at X2 l2 y2 z2 st2 hQ2
  subst l2 y2 z2
  obtain ⟨rfl, N2q, e2⟩ := hQ2
  have N2 := Fr.app N0 N2q
  refine own_step (fun _ k => st2 _ k) ?_
  show own_Fin p e below s _ _ _ (T2.setTop (mkF m 6 #[.val (.ref ad0), .val (.int (0 : Int32))] []))
  refine own_step (fun _ k => XS.aloadN X2.here hx rfl (hb hby own_d14_6) rfl rfl k) ?_
  show own_Fin p e below s _ _ _ (T2.setTop (mkF m 7 #[.val (.ref ad0), .val (.int (0 : Int32))] [(.ref ad0)]))
  refine own_step (fun _ k => XS.iloadN X2.here hx rfl (hb hby own_d14_7) rfl k) ?_
  show own_Fin p e below s _ _ _ (T2.setTop (mkF m 8 #[.val (.ref ad0), .val (.int (0 : Int32))] [(.int (0 : Int32)), (.ref ad0)]))
  obtain ⟨cl3, Ar3, q3, Sz3, Ng3, Hs3, Gf3⟩ := id A_ad0
  have hin3 : ¬ ((0 : Int32) < 0 ∨ cl3.slots.size ≤ ((0 : Int32)).toNatClampNeg) := inb_of Sz3 ⟨by decide, by decide⟩
  refine own_step (fun _ k => X2.baloadBytes hx (j := (0 : Int32)) (v := (.int ad0_0)) (by rw [e2]; exact Ar3.1) (State.isArrayOf_alike hZ.alike Ar3.2.1) Ar3.2.2 hin3 (Has.at Hs3 hin3 rfl) (g := (mkF m 8 #[.val (.ref ad0), .val (.int (0 : Int32))] [(.int (0 : Int32)), (.ref ad0)])) rfl rfl (hb hby own_d14_8) _ k) ?_
  show own_Fin p e below s _ _ _ (T2.setTop (mkF m 9 #[.val (.ref ad0), .val (.int (0 : Int32))] [(.int ad0_0)]))
  refine own_step (fun _ k => XS.sipush X2.here hx rfl (hb hby own_d14_9) k) ?_
  show own_Fin p e below s _ _ _ (T2.setTop (mkF m 12 #[.val (.ref ad0), .val (.int (0 : Int32))] [(.int (255 : Int32)), (.int ad0_0)]))
  refine own_step (fun _ k => XS.iand X2.here hx rfl (hb hby own_d14_12) rfl k) ?_
  show own_Fin p e below s _ _ _ (T2.setTop (mkF m 13 #[.val (.ref ad0), .val (.int (0 : Int32))] [(.int (ad0_0 &&& (255 : Int32)))]))
  refine own_step (fun _ k => XS.i2c X2.here hx rfl (hb hby own_d14_13) rfl k) ?_
  show own_Fin p e below s _ _ _ (T2.setTop (mkF m 14 #[.val (.ref ad0), .val (.int (0 : Int32))] [(.int ((ad0_0 &&& (255 : Int32)).toUInt32.toUInt16.toUInt32.toInt32))]))
  exact own_ret X2 hlk (v := some (.int (nar .char ((ad0_0 &&& (255 : Int32)).toUInt32.toUInt16.toUInt32.toInt32)))) (fun h => by rw [Bd.returns] at h; cases h) (by decide) (by decide) (by show own_Q14 Z ad0 k_ad0 ad0_0 s_SIOOBE_FORMATTER h0 n0 _ T2.heap _; rw [e2]; exact ⟨rfl, N2, rfl⟩) (fun fs hr => retN X2 hx (t := .char) Bd.returns (by simp) (hb hby own_d14_14) hr)

theorem own_d15_0 : decode jdk_43_method_2_code 0 = .ok (.iload_n 1, 1) := by decide +kernel
theorem own_d15_1 : decode jdk_43_method_2_code 1 = .ok (.aload_n 0, 1) := by decide +kernel
theorem own_d15_2 : decode jdk_43_method_2_code 2 = .ok (.arraylength, 1) := by decide +kernel
theorem own_d15_3 : decode jdk_43_method_2_code 3 = .ok (.invokestatic 9, 3) := by decide +kernel
theorem own_d15_6 : decode jdk_43_method_2_code 6 = .ok (.aload_n 0, 1) := by decide +kernel
theorem own_d15_7 : decode jdk_43_method_2_code 7 = .ok (.iload_n 1, 1) := by decide +kernel
theorem own_d15_8 : decode jdk_43_method_2_code 8 = .ok (.baload, 1) := by decide +kernel
theorem own_d15_9 : decode jdk_43_method_2_code 9 = .ok (.sipush 255, 3) := by decide +kernel
theorem own_d15_12 : decode jdk_43_method_2_code 12 = .ok (.iand, 1) := by decide +kernel
theorem own_d15_13 : decode jdk_43_method_2_code 13 = .ok (.i2c, 1) := by decide +kernel
theorem own_d15_14 : decode jdk_43_method_2_code 14 = .ok (.ireturn, 1) := by decide +kernel
theorem own_ef15 (m : MethodId) (ad0 : Addr) : entryFrame m #[(.ref ad0), (.int (0 : Int32))] 2 = mkF m 0 #[.val (.ref ad0), .val (.int (0 : Int32))] [] := by first | (simp [entryFrame, mkF, argsToLocals, Value.category]; done) | rfl
def own_Q15 (Z : State) (ad0 : Addr) (k_ad0 : ClassId) (ad0_0 : Int32) (ad0_1 : Int32) (s_SIOOBE_FORMATTER : Value) (h0 : Heap) (n0 : Nat) (v : Option Value) (h : Heap) (L : List Loc) : Prop := v = some (.int (nar .char ((ad0_0 &&& (255 : Int32)).toUInt32.toUInt16.toUInt32.toInt32))) ∧ Fr n0 L ∧ h = h0
set_option maxRecDepth 65536 in
set_option maxHeartbeats 40000000 in
theorem own_rm15 (l : Launch) (Z : State) (a0 : Array Value) (hw : ∀ d ∈ tables_1, d.before a0 Z = true) (hs : ∀ d ∈ jdkStatics_1, d.before a0 Z = true) (ws : List Jvm.Cond) (ad0 : Addr) (k_ad0 : ClassId) (ad0_0 : Int32) (ad0_1 : Int32) (s_SIOOBE_FORMATTER : Value) (h0 : Heap) (n0 : Nat) (Z0 : n0 ≤ h0.size) (A_ad0 : Arv Z h0 ad0 k_ad0 .byte (2 : Int32) [(.int ad0_0), (.int ad0_1)] (.int (0 : Int32))) (hr_s_SIOOBE_FORMATTER : s_SIOOBE_FORMATTER.isRef = true) (S_SIOOBE_FORMATTER : Sta Z h0 "jdk/internal/util/Preconditions" "SIOOBE_FORMATTER" "Ljava/util/function/BiFunction;" s_SIOOBE_FORMATTER) :
    MetFree l (⟨"java/lang/StringLatin1", "charAt", "([BI)C"⟩ : MethodName) (head1 (Jvm.Cond.code (⟨"java/lang/StringLatin1", "charAt", "([BI)C"⟩ : MethodName) jdk_43_method_2_code 2 (some .char) :: ws) ({ frames := 2, cells := 0, slots := 0, locals := 27 } : Room)) (fun a U => a = #[(.ref ad0), (.int (0 : Int32))] ∧ Z.Warmed39 U.vm ∧ U.heap = h0) (fun _ _ _ _ _ => True) (fun _ U o U' => ∃ v L, o = .returned v ∧ own_Q15 Z ad0 k_ad0 ad0_0 ad0_1 s_SIOOBE_FORMATTER h0 n0 v U'.heap L ∧ FrameEnd U o U' L ({ frames := 2, cells := 0, slots := 0, locals := 27 } : Room).cells ({ frames := 2, cells := 0, slots := 0, locals := 27 } : Room).slots) := by
  refine MetFree.of_bodySF (plainFor_of_name own_pn4) hisR ?_
  intro p e s m args below meth c s₁ Bd hml0 hP hK
  obtain ⟨rfl, hZ, hh⟩ := hP
  have hx := Bd.exec
  have hby := Bd.bytes
  have hlk := Bd.notSynchronized
  have hml : c.maxLocals = 2 := hml0
  have hown : s.vm.findClass "java/lang/StringLatin1" = some m.cls := findClass_of_methodNamed Bd.named
  have hnm := (name_of_methodNamed Bd.named Bd.method).1
  have X0 : Stand p l e ({ frames := 2, cells := 0, slots := 0, locals := 27 } : Room) s m #[(.ref ad0), (.int (0 : Int32))] below meth c s₁ [] 0 0 := Stand.of_body Bd
  have e0 : s₁.heap = h0 := by rw [← hh, Bd.state]; rfl
  have N0 := Fr.nil n0
  have KR : Keep h0 h0 [] := Keep.refl _ _
  show own_Fin p e below s ({ frames := 2, cells := 0, slots := 0, locals := 27 } : Room).cells ({ frames := 2, cells := 0, slots := 0, locals := 27 } : Room).slots (own_Q15 Z ad0 k_ad0 ad0_0 ad0_1 s_SIOOBE_FORMATTER h0 n0) (s₁.setTop (entryFrame m #[(.ref ad0), (.int (0 : Int32))] 2))
  refine own_cast (own_ef15 m ad0) ?_
  refine own_step (fun _ k => XS.iloadN X0.here hx rfl (hb hby own_d15_0) rfl k) ?_
  show own_Fin p e below s _ _ _ (s₁.setTop (mkF m 1 #[.val (.ref ad0), .val (.int (0 : Int32))] [(.int (0 : Int32))]))
  refine own_step (fun _ k => XS.aloadN X0.here hx rfl (hb hby own_d15_1) rfl rfl k) ?_
  show own_Fin p e below s _ _ _ (s₁.setTop (mkF m 2 #[.val (.ref ad0), .val (.int (0 : Int32))] [(.ref ad0), (.int (0 : Int32))]))
  obtain ⟨cl1, Ar1, q1, Sz1, Ng1, Hs1, Gf1⟩ := id A_ad0
  refine own_step (fun _ k => X0.arraylength hx (by rw [e0]; exact Ar1.1) (State.isArrayOf_alike hZ.alike Ar1.2.1) (g := (mkF m 2 #[.val (.ref ad0), .val (.int (0 : Int32))] [(.ref ad0), (.int (0 : Int32))])) rfl rfl (hb hby own_d15_2) _ k) ?_
  rw [len_of Sz1 Ng1]
  show own_Fin p e below s _ _ _ (s₁.setTop (mkF m 3 #[.val (.ref ad0), .val (.int (0 : Int32))] [(.int (2 : Int32)), (.int (0 : Int32))]))
  obtain ⟨_, _, ⟨T2, L2, k2, n2⟩, -, X2, ⟨Lc2, hQ2, l2, y2, z2⟩, st2⟩ := Jvm.LawKit.callS X0 hx (y := own_y2) hown (mvT hZ (own_w hw 51 rfl)) (mvT hZ (own_w hw 52 rfl)) (mvT hZ (own_w hw 25 rfl)) (mvT hZ (own_w hw 53 rfl)) (by decide) (backOf (W := 0) (own_rm13 l Z a0 hw hs [] ((0 : Int32)) ((2 : Int32)) s_SIOOBE_FORMATTER h0 n0 Z0 hr_s_SIOOBE_FORMATTER S_SIOOBE_FORMATTER (show ¬ ((0 : Int32) < (0 : Int32)) from (by first | decide | assumption)) (show (0 : Int32) < (2 : Int32) from (by first | decide | assumption))) hZ (own_w hw 53 rfl) (own_w hw 25 rfl) (by decide) (by decide)) (g := (mkF m 3 #[.val (.ref ad0), .val (.int (0 : Int32))] [(.int (2 : Int32)), (.int (0 : Int32))])) rfl (by rw [hml]; rfl) (argsL := [(.int (0 : Int32)), (.int (2 : Int32))]) (rest := []) (lenOf own_pd2 rfl) rfl (by show 2 * 0 + _ ≤ _; exact Nat.le_of_eq rfl) (hb hby own_d15_3) (fun _ _ => ⟨rfl, e0, (by decide : 0 + 0 ≤ _), (by decide : 0 + 0 ≤ _)⟩)
  dsimp only [Pt.U, Pt.locs, Pt.cells, Pt.slots] at X2 l2 y2 z2 st2 hQ2
  subst l2 y2 z2
  obtain ⟨rfl, N2q, e2⟩ := hQ2
  have N2 := Fr.app N0 N2q
  refine own_step (fun _ k => st2 _ k) ?_
  show own_Fin p e below s _ _ _ (T2.setTop (mkF m 6 #[.val (.ref ad0), .val (.int (0 : Int32))] []))
  refine own_step (fun _ k => XS.aloadN X2.here hx rfl (hb hby own_d15_6) rfl rfl k) ?_
  show own_Fin p e below s _ _ _ (T2.setTop (mkF m 7 #[.val (.ref ad0), .val (.int (0 : Int32))] [(.ref ad0)]))
  refine own_step (fun _ k => XS.iloadN X2.here hx rfl (hb hby own_d15_7) rfl k) ?_
  show own_Fin p e below s _ _ _ (T2.setTop (mkF m 8 #[.val (.ref ad0), .val (.int (0 : Int32))] [(.int (0 : Int32)), (.ref ad0)]))
  obtain ⟨cl3, Ar3, q3, Sz3, Ng3, Hs3, Gf3⟩ := id A_ad0
  have hin3 : ¬ ((0 : Int32) < 0 ∨ cl3.slots.size ≤ ((0 : Int32)).toNatClampNeg) := inb_of Sz3 ⟨by decide, by decide⟩
  refine own_step (fun _ k => X2.baloadBytes hx (j := (0 : Int32)) (v := (.int ad0_0)) (by rw [e2]; exact Ar3.1) (State.isArrayOf_alike hZ.alike Ar3.2.1) Ar3.2.2 hin3 (Has.at Hs3 hin3 rfl) (g := (mkF m 8 #[.val (.ref ad0), .val (.int (0 : Int32))] [(.int (0 : Int32)), (.ref ad0)])) rfl rfl (hb hby own_d15_8) _ k) ?_
  show own_Fin p e below s _ _ _ (T2.setTop (mkF m 9 #[.val (.ref ad0), .val (.int (0 : Int32))] [(.int ad0_0)]))
  refine own_step (fun _ k => XS.sipush X2.here hx rfl (hb hby own_d15_9) k) ?_
  show own_Fin p e below s _ _ _ (T2.setTop (mkF m 12 #[.val (.ref ad0), .val (.int (0 : Int32))] [(.int (255 : Int32)), (.int ad0_0)]))
  refine own_step (fun _ k => XS.iand X2.here hx rfl (hb hby own_d15_12) rfl k) ?_
  show own_Fin p e below s _ _ _ (T2.setTop (mkF m 13 #[.val (.ref ad0), .val (.int (0 : Int32))] [(.int (ad0_0 &&& (255 : Int32)))]))
  refine own_step (fun _ k => XS.i2c X2.here hx rfl (hb hby own_d15_13) rfl k) ?_
  show own_Fin p e below s _ _ _ (T2.setTop (mkF m 14 #[.val (.ref ad0), .val (.int (0 : Int32))] [(.int ((ad0_0 &&& (255 : Int32)).toUInt32.toUInt16.toUInt32.toInt32))]))
  exact own_ret X2 hlk (v := some (.int (nar .char ((ad0_0 &&& (255 : Int32)).toUInt32.toUInt16.toUInt32.toInt32)))) (fun h => by rw [Bd.returns] at h; cases h) (by decide) (by decide) (by show own_Q15 Z ad0 k_ad0 ad0_0 ad0_1 s_SIOOBE_FORMATTER h0 n0 _ T2.heap _; rw [e2]; exact ⟨rfl, N2, rfl⟩) (fun fs hr => retN X2 hx (t := .char) Bd.returns (by simp) (hb hby own_d15_14) hr)

theorem own_pd3 : parseMethodDescriptor "()Z" = some ⟨[], some .boolean⟩ := by decide +kernel
abbrev own_y3 : MethodName := (⟨"java/lang/String", "isLatin1", "()Z"⟩ : MethodName)
theorem own_pd4 : parseMethodDescriptor "([BI)C" = some ⟨[(.array .byte), .int], some .char⟩ := by decide +kernel
abbrev own_y4 : MethodName := (⟨"java/lang/StringLatin1", "charAt", "([BI)C"⟩ : MethodName)
theorem own_d16_0 : decode jdk_42_method_56_code 0 = .ok (.aload_n 0, 1) := by decide +kernel
theorem own_d16_1 : decode jdk_42_method_56_code 1 = .ok (.invokevirtual 492, 3) := by decide +kernel
theorem own_d16_4 : decode jdk_42_method_56_code 4 = .ok (.ifCond .eq 12, 3) := by decide +kernel
theorem own_d16_7 : decode jdk_42_method_56_code 7 = .ok (.aload_n 0, 1) := by decide +kernel
theorem own_d16_8 : decode jdk_42_method_56_code 8 = .ok (.getfield 9, 3) := by decide +kernel
theorem own_d16_11 : decode jdk_42_method_56_code 11 = .ok (.iload_n 1, 1) := by decide +kernel
theorem own_d16_12 : decode jdk_42_method_56_code 12 = .ok (.invokestatic 495, 3) := by decide +kernel
theorem own_d16_15 : decode jdk_42_method_56_code 15 = .ok (.ireturn, 1) := by decide +kernel
theorem own_ef16 (m : MethodId) (ad0 : Addr) : entryFrame m #[(.ref ad0), (.int (0 : Int32))] 2 = mkF m 0 #[.val (.ref ad0), .val (.int (0 : Int32))] [] := by first | (simp [entryFrame, mkF, argsToLocals, Value.category]; done) | rfl
def own_Q16 (Z : State) (ad0 : Addr) (s_COMPACT_STRINGS : Int32) (wvalue_ad0 : Addr) (k_wvalue_ad0 : ClassId) (wvalue_ad0_0 : Int32) (s_SIOOBE_FORMATTER : Value) (h0 : Heap) (n0 : Nat) (v : Option Value) (h : Heap) (L : List Loc) : Prop := v = some (.int (nar .char (nar .char ((wvalue_ad0_0 &&& (255 : Int32)).toUInt32.toUInt16.toUInt32.toInt32)))) ∧ Fr n0 L ∧ h = h0
set_option maxRecDepth 65536 in
set_option maxHeartbeats 40000000 in
theorem own_rm16 (l : Launch) (Z : State) (a0 : Array Value) (hw : ∀ d ∈ tables_1, d.before a0 Z = true) (hs : ∀ d ∈ jdkStatics_1, d.before a0 Z = true) (ws : List Jvm.Cond) (ad0 : Addr) (s_COMPACT_STRINGS : Int32) (wvalue_ad0 : Addr) (k_wvalue_ad0 : ClassId) (wvalue_ad0_0 : Int32) (s_SIOOBE_FORMATTER : Value) (h0 : Heap) (n0 : Nat) (Z0 : n0 ≤ h0.size) (E_ad0 : Exa Z h0 ad0 "java/lang/String") (S_COMPACT_STRINGS : Sta Z h0 "java/lang/String" "COMPACT_STRINGS" "Z" (.int s_COMPACT_STRINGS)) (F_coder_ad0 : Fld Z h0 ad0 "java/lang/String" "coder" "B" (.int (0 : Int32))) (hc3_1 : ¬ (s_COMPACT_STRINGS = (0 : Int32))) (F_value_ad0 : Fld Z h0 ad0 "java/lang/String" "value" "[B" (.ref wvalue_ad0)) (A_wvalue_ad0 : Arv Z h0 wvalue_ad0 k_wvalue_ad0 .byte (1 : Int32) [(.int wvalue_ad0_0)] (.int (0 : Int32))) (hr_s_SIOOBE_FORMATTER : s_SIOOBE_FORMATTER.isRef = true) (S_SIOOBE_FORMATTER : Sta Z h0 "jdk/internal/util/Preconditions" "SIOOBE_FORMATTER" "Ljava/util/function/BiFunction;" s_SIOOBE_FORMATTER) :
    MetFree l (⟨"java/lang/String", "charAt", "(I)C"⟩ : MethodName) (head1 (Jvm.Cond.code (⟨"java/lang/String", "charAt", "(I)C"⟩ : MethodName) jdk_42_method_56_code 2 (some .char) :: ws) ({ frames := 3, cells := 0, slots := 0, locals := 40 } : Room)) (fun a U => a = #[(.ref ad0), (.int (0 : Int32))] ∧ Z.Warmed39 U.vm ∧ U.heap = h0) (fun _ _ _ _ _ => True) (fun _ U o U' => ∃ v L, o = .returned v ∧ own_Q16 Z ad0 s_COMPACT_STRINGS wvalue_ad0 k_wvalue_ad0 wvalue_ad0_0 s_SIOOBE_FORMATTER h0 n0 v U'.heap L ∧ FrameEnd U o U' L ({ frames := 3, cells := 0, slots := 0, locals := 40 } : Room).cells ({ frames := 3, cells := 0, slots := 0, locals := 40 } : Room).slots) := by
  refine MetFree.of_bodySF (plainFor_of_name own_pn2) hisR ?_
  intro p e s m args below meth c s₁ Bd hml0 hP hK
  obtain ⟨rfl, hZ, hh⟩ := hP
  have hx := Bd.exec
  have hby := Bd.bytes
  have hlk := Bd.notSynchronized
  have hml : c.maxLocals = 2 := hml0
  have hown : s.vm.findClass "java/lang/String" = some m.cls := findClass_of_methodNamed Bd.named
  have hnm := (name_of_methodNamed Bd.named Bd.method).1
  have X0 : Stand p l e ({ frames := 3, cells := 0, slots := 0, locals := 40 } : Room) s m #[(.ref ad0), (.int (0 : Int32))] below meth c s₁ [] 0 0 := Stand.of_body Bd
  have e0 : s₁.heap = h0 := by rw [← hh, Bd.state]; rfl
  have N0 := Fr.nil n0
  have KR : Keep h0 h0 [] := Keep.refl _ _
  show own_Fin p e below s ({ frames := 3, cells := 0, slots := 0, locals := 40 } : Room).cells ({ frames := 3, cells := 0, slots := 0, locals := 40 } : Room).slots (own_Q16 Z ad0 s_COMPACT_STRINGS wvalue_ad0 k_wvalue_ad0 wvalue_ad0_0 s_SIOOBE_FORMATTER h0 n0) (s₁.setTop (entryFrame m #[(.ref ad0), (.int (0 : Int32))] 2))
  refine own_cast (own_ef16 m ad0) ?_
  refine own_step (fun _ k => XS.aloadN X0.here hx rfl (hb hby own_d16_0) rfl rfl k) ?_
  show own_Fin p e below s _ _ _ (s₁.setTop (mkF m 1 #[.val (.ref ad0), .val (.int (0 : Int32))] [(.ref ad0)]))
  obtain ⟨cq1, kq1, q1a, q1b, q1c⟩ := isOf hZ e0 E_ad0
  obtain ⟨_, _, ⟨T1, L1, k1, n1⟩, -, X1, ⟨Lc1, hQ1, l1, y1, z1⟩, st1⟩ := X0.virtualBack hx (y := own_y3) (z := own_y3) hown (mvT hZ (own_w hw 42 rfl)) (mvT hZ (own_w hw 43 rfl)) (notFace_of_selects (args := #[]) (mvT hZ (own_w hw 45 rfl))) (mvT hZ (own_w hw 45 rfl)) (mvT hZ (own_w hw 44 rfl)) (by decide) (backOf (W := 0) (own_rm9 l Z a0 hw hs [] ad0 s_COMPACT_STRINGS h0 n0 Z0 S_COMPACT_STRINGS (show ¬ (s_COMPACT_STRINGS = (0 : Int32)) from hc3_1) F_coder_ad0) hZ (own_w hw 46 rfl) (own_w hw 25 rfl) (by decide) (by decide)) q1a q1c (g := (mkF m 1 #[.val (.ref ad0), .val (.int (0 : Int32))] [(.ref ad0)])) rfl (by rw [hml]; rfl) (Steps.refl _) (argsL := []) (rest := []) (lenOf own_pd3 rfl) rfl (by show 2 * 0 + _ ≤ _; exact Nat.le_of_eq rfl) (hb hby own_d16_1) (fun _ _ => ⟨rfl, e0, (by decide : 0 + 0 ≤ _), (by decide : 0 + 0 ≤ _)⟩)
  dsimp only [Pt.U, Pt.locs, Pt.cells, Pt.slots] at X1 l1 y1 z1 st1 hQ1
  subst l1 y1 z1
  obtain ⟨rfl, N1q, e1⟩ := hQ1
  have N1 := Fr.app N0 N1q
  refine own_step (fun _ k => st1.trans k) ?_
  show own_Fin p e below s _ _ _ (T1.setTop (mkF m 4 #[.val (.ref ad0), .val (.int (0 : Int32))] [(.int (1 : Int32))]))
  refine own_step (fun _ k => XS.ifNo X1.here hx rfl (hb hby own_d16_4) rfl ((if0 _ _).trans (feq (by decide : ¬ ((1 : Int32) = (0 : Int32)))).1) k) ?_
  show own_Fin p e below s _ _ _ (T1.setTop (mkF m 7 #[.val (.ref ad0), .val (.int (0 : Int32))] []))
  refine own_step (fun _ k => XS.aloadN X1.here hx rfl (hb hby own_d16_7) rfl rfl k) ?_
  show own_Fin p e below s _ _ _ (T1.setTop (mkF m 8 #[.val (.ref ad0), .val (.int (0 : Int32))] [(.ref ad0)]))
  obtain ⟨T2, X2, e2, st2⟩ := getF X1 hx hZ hown (host := "") (Or.inl (own_w hw 27 rfl)) Via.refl e1 F_value_ad0 (g := (mkF m 8 #[.val (.ref ad0), .val (.int (0 : Int32))] [(.ref ad0)])) rfl rfl (hb hby own_d16_8)
  refine own_step st2 ?_
  show own_Fin p e below s _ _ _ (T2.setTop (mkF m 11 #[.val (.ref ad0), .val (.int (0 : Int32))] [(.ref wvalue_ad0)]))
  refine own_step (fun _ k => XS.iloadN X2.here hx rfl (hb hby own_d16_11) rfl k) ?_
  show own_Fin p e below s _ _ _ (T2.setTop (mkF m 12 #[.val (.ref ad0), .val (.int (0 : Int32))] [(.int (0 : Int32)), (.ref wvalue_ad0)]))
  obtain ⟨_, _, ⟨T3, L3, k3, n3⟩, -, X3, ⟨Lc3, hQ3, l3, y3, z3⟩, st3⟩ := Jvm.LawKit.callS X2 hx (y := own_y4) hown (mvT hZ (own_w hw 47 rfl)) (mvT hZ (own_w hw 48 rfl)) (mvT hZ (own_w hw 49 rfl)) (mvT hZ (own_w hw 50 rfl)) (by decide) (backOf (W := 0) (own_rm14 l Z a0 hw hs [] wvalue_ad0 k_wvalue_ad0 wvalue_ad0_0 s_SIOOBE_FORMATTER h0 n0 Z0 A_wvalue_ad0 hr_s_SIOOBE_FORMATTER S_SIOOBE_FORMATTER) hZ (own_w hw 50 rfl) (own_w hw 49 rfl) (by decide) (by decide)) (g := (mkF m 12 #[.val (.ref ad0), .val (.int (0 : Int32))] [(.int (0 : Int32)), (.ref wvalue_ad0)])) rfl (by rw [hml]; rfl) (argsL := [(.ref wvalue_ad0), (.int (0 : Int32))]) (rest := []) (lenOf own_pd4 rfl) rfl (by show 2 * 0 + _ ≤ _; exact Nat.le_of_eq rfl) (hb hby own_d16_12) (fun _ _ => ⟨rfl, e2, (by decide : 0 + 0 ≤ _), (by decide : 0 + 0 ≤ _)⟩)
  dsimp only [Pt.U, Pt.locs, Pt.cells, Pt.slots] at X3 l3 y3 z3 st3 hQ3
  subst l3 y3 z3
  obtain ⟨rfl, N3q, e3⟩ := hQ3
  have N3 := Fr.app N1 N3q
  refine own_step (fun _ k => st3 _ k) ?_
  show own_Fin p e below s _ _ _ (T3.setTop (mkF m 15 #[.val (.ref ad0), .val (.int (0 : Int32))] [(.int (nar .char ((wvalue_ad0_0 &&& (255 : Int32)).toUInt32.toUInt16.toUInt32.toInt32)))]))
  exact own_ret X3 hlk (v := some (.int (nar .char (nar .char ((wvalue_ad0_0 &&& (255 : Int32)).toUInt32.toUInt16.toUInt32.toInt32))))) (fun h => by rw [Bd.returns] at h; cases h) (by decide) (by decide) (by show own_Q16 Z ad0 s_COMPACT_STRINGS wvalue_ad0 k_wvalue_ad0 wvalue_ad0_0 s_SIOOBE_FORMATTER h0 n0 _ T3.heap _; rw [e3]; exact ⟨rfl, N3, rfl⟩) (fun fs hr => retN X3 hx (t := .char) Bd.returns (by simp) (hb hby own_d16_15) hr)

theorem own_d17_0 : decode jdk_42_method_56_code 0 = .ok (.aload_n 0, 1) := by decide +kernel
theorem own_d17_1 : decode jdk_42_method_56_code 1 = .ok (.invokevirtual 492, 3) := by decide +kernel
theorem own_d17_4 : decode jdk_42_method_56_code 4 = .ok (.ifCond .eq 12, 3) := by decide +kernel
theorem own_d17_7 : decode jdk_42_method_56_code 7 = .ok (.aload_n 0, 1) := by decide +kernel
theorem own_d17_8 : decode jdk_42_method_56_code 8 = .ok (.getfield 9, 3) := by decide +kernel
theorem own_d17_11 : decode jdk_42_method_56_code 11 = .ok (.iload_n 1, 1) := by decide +kernel
theorem own_d17_12 : decode jdk_42_method_56_code 12 = .ok (.invokestatic 495, 3) := by decide +kernel
theorem own_d17_15 : decode jdk_42_method_56_code 15 = .ok (.ireturn, 1) := by decide +kernel
theorem own_ef17 (m : MethodId) (ad0 : Addr) : entryFrame m #[(.ref ad0), (.int (0 : Int32))] 2 = mkF m 0 #[.val (.ref ad0), .val (.int (0 : Int32))] [] := by first | (simp [entryFrame, mkF, argsToLocals, Value.category]; done) | rfl
def own_Q17 (Z : State) (ad0 : Addr) (s_COMPACT_STRINGS : Int32) (wvalue_ad0 : Addr) (k_wvalue_ad0 : ClassId) (wvalue_ad0_0 : Int32) (wvalue_ad0_1 : Int32) (s_SIOOBE_FORMATTER : Value) (h0 : Heap) (n0 : Nat) (v : Option Value) (h : Heap) (L : List Loc) : Prop := v = some (.int (nar .char (nar .char ((wvalue_ad0_0 &&& (255 : Int32)).toUInt32.toUInt16.toUInt32.toInt32)))) ∧ Fr n0 L ∧ h = h0
set_option maxRecDepth 65536 in
set_option maxHeartbeats 40000000 in
theorem own_rm17 (l : Launch) (Z : State) (a0 : Array Value) (hw : ∀ d ∈ tables_1, d.before a0 Z = true) (hs : ∀ d ∈ jdkStatics_1, d.before a0 Z = true) (ws : List Jvm.Cond) (ad0 : Addr) (s_COMPACT_STRINGS : Int32) (wvalue_ad0 : Addr) (k_wvalue_ad0 : ClassId) (wvalue_ad0_0 : Int32) (wvalue_ad0_1 : Int32) (s_SIOOBE_FORMATTER : Value) (h0 : Heap) (n0 : Nat) (Z0 : n0 ≤ h0.size) (E_ad0 : Exa Z h0 ad0 "java/lang/String") (S_COMPACT_STRINGS : Sta Z h0 "java/lang/String" "COMPACT_STRINGS" "Z" (.int s_COMPACT_STRINGS)) (F_coder_ad0 : Fld Z h0 ad0 "java/lang/String" "coder" "B" (.int (0 : Int32))) (hc3_1 : ¬ (s_COMPACT_STRINGS = (0 : Int32))) (F_value_ad0 : Fld Z h0 ad0 "java/lang/String" "value" "[B" (.ref wvalue_ad0)) (A_wvalue_ad0 : Arv Z h0 wvalue_ad0 k_wvalue_ad0 .byte (2 : Int32) [(.int wvalue_ad0_0), (.int wvalue_ad0_1)] (.int (0 : Int32))) (hr_s_SIOOBE_FORMATTER : s_SIOOBE_FORMATTER.isRef = true) (S_SIOOBE_FORMATTER : Sta Z h0 "jdk/internal/util/Preconditions" "SIOOBE_FORMATTER" "Ljava/util/function/BiFunction;" s_SIOOBE_FORMATTER) :
    MetFree l (⟨"java/lang/String", "charAt", "(I)C"⟩ : MethodName) (head1 (Jvm.Cond.code (⟨"java/lang/String", "charAt", "(I)C"⟩ : MethodName) jdk_42_method_56_code 2 (some .char) :: ws) ({ frames := 3, cells := 0, slots := 0, locals := 40 } : Room)) (fun a U => a = #[(.ref ad0), (.int (0 : Int32))] ∧ Z.Warmed39 U.vm ∧ U.heap = h0) (fun _ _ _ _ _ => True) (fun _ U o U' => ∃ v L, o = .returned v ∧ own_Q17 Z ad0 s_COMPACT_STRINGS wvalue_ad0 k_wvalue_ad0 wvalue_ad0_0 wvalue_ad0_1 s_SIOOBE_FORMATTER h0 n0 v U'.heap L ∧ FrameEnd U o U' L ({ frames := 3, cells := 0, slots := 0, locals := 40 } : Room).cells ({ frames := 3, cells := 0, slots := 0, locals := 40 } : Room).slots) := by
  refine MetFree.of_bodySF (plainFor_of_name own_pn2) hisR ?_
  intro p e s m args below meth c s₁ Bd hml0 hP hK
  obtain ⟨rfl, hZ, hh⟩ := hP
  have hx := Bd.exec
  have hby := Bd.bytes
  have hlk := Bd.notSynchronized
  have hml : c.maxLocals = 2 := hml0
  have hown : s.vm.findClass "java/lang/String" = some m.cls := findClass_of_methodNamed Bd.named
  have hnm := (name_of_methodNamed Bd.named Bd.method).1
  have X0 : Stand p l e ({ frames := 3, cells := 0, slots := 0, locals := 40 } : Room) s m #[(.ref ad0), (.int (0 : Int32))] below meth c s₁ [] 0 0 := Stand.of_body Bd
  have e0 : s₁.heap = h0 := by rw [← hh, Bd.state]; rfl
  have N0 := Fr.nil n0
  have KR : Keep h0 h0 [] := Keep.refl _ _
  show own_Fin p e below s ({ frames := 3, cells := 0, slots := 0, locals := 40 } : Room).cells ({ frames := 3, cells := 0, slots := 0, locals := 40 } : Room).slots (own_Q17 Z ad0 s_COMPACT_STRINGS wvalue_ad0 k_wvalue_ad0 wvalue_ad0_0 wvalue_ad0_1 s_SIOOBE_FORMATTER h0 n0) (s₁.setTop (entryFrame m #[(.ref ad0), (.int (0 : Int32))] 2))
  refine own_cast (own_ef17 m ad0) ?_
  refine own_step (fun _ k => XS.aloadN X0.here hx rfl (hb hby own_d17_0) rfl rfl k) ?_
  show own_Fin p e below s _ _ _ (s₁.setTop (mkF m 1 #[.val (.ref ad0), .val (.int (0 : Int32))] [(.ref ad0)]))
  obtain ⟨cq1, kq1, q1a, q1b, q1c⟩ := isOf hZ e0 E_ad0
  obtain ⟨_, _, ⟨T1, L1, k1, n1⟩, -, X1, ⟨Lc1, hQ1, l1, y1, z1⟩, st1⟩ := X0.virtualBack hx (y := own_y3) (z := own_y3) hown (mvT hZ (own_w hw 42 rfl)) (mvT hZ (own_w hw 43 rfl)) (notFace_of_selects (args := #[]) (mvT hZ (own_w hw 45 rfl))) (mvT hZ (own_w hw 45 rfl)) (mvT hZ (own_w hw 44 rfl)) (by decide) (backOf (W := 0) (own_rm9 l Z a0 hw hs [] ad0 s_COMPACT_STRINGS h0 n0 Z0 S_COMPACT_STRINGS (show ¬ (s_COMPACT_STRINGS = (0 : Int32)) from hc3_1) F_coder_ad0) hZ (own_w hw 46 rfl) (own_w hw 25 rfl) (by decide) (by decide)) q1a q1c (g := (mkF m 1 #[.val (.ref ad0), .val (.int (0 : Int32))] [(.ref ad0)])) rfl (by rw [hml]; rfl) (Steps.refl _) (argsL := []) (rest := []) (lenOf own_pd3 rfl) rfl (by show 2 * 0 + _ ≤ _; exact Nat.le_of_eq rfl) (hb hby own_d17_1) (fun _ _ => ⟨rfl, e0, (by decide : 0 + 0 ≤ _), (by decide : 0 + 0 ≤ _)⟩)
  dsimp only [Pt.U, Pt.locs, Pt.cells, Pt.slots] at X1 l1 y1 z1 st1 hQ1
  subst l1 y1 z1
  obtain ⟨rfl, N1q, e1⟩ := hQ1
  have N1 := Fr.app N0 N1q
  refine own_step (fun _ k => st1.trans k) ?_
  show own_Fin p e below s _ _ _ (T1.setTop (mkF m 4 #[.val (.ref ad0), .val (.int (0 : Int32))] [(.int (1 : Int32))]))
  refine own_step (fun _ k => XS.ifNo X1.here hx rfl (hb hby own_d17_4) rfl ((if0 _ _).trans (feq (by decide : ¬ ((1 : Int32) = (0 : Int32)))).1) k) ?_
  show own_Fin p e below s _ _ _ (T1.setTop (mkF m 7 #[.val (.ref ad0), .val (.int (0 : Int32))] []))
  refine own_step (fun _ k => XS.aloadN X1.here hx rfl (hb hby own_d17_7) rfl rfl k) ?_
  show own_Fin p e below s _ _ _ (T1.setTop (mkF m 8 #[.val (.ref ad0), .val (.int (0 : Int32))] [(.ref ad0)]))
  obtain ⟨T2, X2, e2, st2⟩ := getF X1 hx hZ hown (host := "") (Or.inl (own_w hw 27 rfl)) Via.refl e1 F_value_ad0 (g := (mkF m 8 #[.val (.ref ad0), .val (.int (0 : Int32))] [(.ref ad0)])) rfl rfl (hb hby own_d17_8)
  refine own_step st2 ?_
  show own_Fin p e below s _ _ _ (T2.setTop (mkF m 11 #[.val (.ref ad0), .val (.int (0 : Int32))] [(.ref wvalue_ad0)]))
  refine own_step (fun _ k => XS.iloadN X2.here hx rfl (hb hby own_d17_11) rfl k) ?_
  show own_Fin p e below s _ _ _ (T2.setTop (mkF m 12 #[.val (.ref ad0), .val (.int (0 : Int32))] [(.int (0 : Int32)), (.ref wvalue_ad0)]))
  obtain ⟨_, _, ⟨T3, L3, k3, n3⟩, -, X3, ⟨Lc3, hQ3, l3, y3, z3⟩, st3⟩ := Jvm.LawKit.callS X2 hx (y := own_y4) hown (mvT hZ (own_w hw 47 rfl)) (mvT hZ (own_w hw 48 rfl)) (mvT hZ (own_w hw 49 rfl)) (mvT hZ (own_w hw 50 rfl)) (by decide) (backOf (W := 0) (own_rm15 l Z a0 hw hs [] wvalue_ad0 k_wvalue_ad0 wvalue_ad0_0 wvalue_ad0_1 s_SIOOBE_FORMATTER h0 n0 Z0 A_wvalue_ad0 hr_s_SIOOBE_FORMATTER S_SIOOBE_FORMATTER) hZ (own_w hw 50 rfl) (own_w hw 49 rfl) (by decide) (by decide)) (g := (mkF m 12 #[.val (.ref ad0), .val (.int (0 : Int32))] [(.int (0 : Int32)), (.ref wvalue_ad0)])) rfl (by rw [hml]; rfl) (argsL := [(.ref wvalue_ad0), (.int (0 : Int32))]) (rest := []) (lenOf own_pd4 rfl) rfl (by show 2 * 0 + _ ≤ _; exact Nat.le_of_eq rfl) (hb hby own_d17_12) (fun _ _ => ⟨rfl, e2, (by decide : 0 + 0 ≤ _), (by decide : 0 + 0 ≤ _)⟩)
  dsimp only [Pt.U, Pt.locs, Pt.cells, Pt.slots] at X3 l3 y3 z3 st3 hQ3
  subst l3 y3 z3
  obtain ⟨rfl, N3q, e3⟩ := hQ3
  have N3 := Fr.app N1 N3q
  refine own_step (fun _ k => st3 _ k) ?_
  show own_Fin p e below s _ _ _ (T3.setTop (mkF m 15 #[.val (.ref ad0), .val (.int (0 : Int32))] [(.int (nar .char ((wvalue_ad0_0 &&& (255 : Int32)).toUInt32.toUInt16.toUInt32.toInt32)))]))
  exact own_ret X3 hlk (v := some (.int (nar .char (nar .char ((wvalue_ad0_0 &&& (255 : Int32)).toUInt32.toUInt16.toUInt32.toInt32))))) (fun h => by rw [Bd.returns] at h; cases h) (by decide) (by decide) (by show own_Q17 Z ad0 s_COMPACT_STRINGS wvalue_ad0 k_wvalue_ad0 wvalue_ad0_0 wvalue_ad0_1 s_SIOOBE_FORMATTER h0 n0 _ T3.heap _; rw [e3]; exact ⟨rfl, N3, rfl⟩) (fun fs hr => retN X3 hx (t := .char) Bd.returns (by simp) (hb hby own_d17_15) hr)

theorem own_pd5 : parseMethodDescriptor "(I)Lcom/example/nearfield/nearfield/Redirection$Operator;" = some ⟨[.int], some (.object "com/example/nearfield/nearfield/Redirection$Operator")⟩ := by decide +kernel
abbrev own_y5 : MethodName := (⟨"com/example/nearfield/nearfield/OperatorWritesPinLaw", "pick", "(I)Lcom/example/nearfield/nearfield/Redirection$Operator;"⟩ : MethodName)
abbrev own_y6 : MethodName := (⟨"com/example/nearfield/nearfield/Redirection$Operator", "writes", "()Z"⟩ : MethodName)
theorem own_pd6 : parseMethodDescriptor "()Ljava/lang/String;" = some ⟨[], some (.object "java/lang/String")⟩ := by decide +kernel
abbrev own_y7 : MethodName := (⟨"com/example/nearfield/nearfield/Redirection$Operator", "symbol", "()Ljava/lang/String;"⟩ : MethodName)
theorem own_pd7 : parseMethodDescriptor "()I" = some ⟨[], some .int⟩ := by decide +kernel
abbrev own_y8 : MethodName := (⟨"java/lang/String", "length", "()I"⟩ : MethodName)
theorem own_pd8 : parseMethodDescriptor "(I)C" = some ⟨[.int], some .char⟩ := by decide +kernel
abbrev own_y9 : MethodName := (⟨"java/lang/String", "charAt", "(I)C"⟩ : MethodName)
theorem own_ef18 (m : MethodId) (p0 : Int32) : entryFrame m #[(.int p0)] maxLocals = mkF m 0 #[.val (.int p0), .unset, .unset, .unset, .unset, .unset, .unset] [] := by first | (simp [entryFrame, mkF, argsToLocals, Value.category, maxLocals]; done) | rfl
def own_Q18 (Z : State) (p0 : Int32) (s_COMPACT_STRINGS : Int32) (s_INPUT : Addr) (wsymbol_s_INPUT : Addr) (wvalue_wsymbol_s_INPUT : Addr) (k_wvalue_wsymbol_s_INPUT : ClassId) (s_SIOOBE_FORMATTER : Value) (s_OUTPUT : Addr) (wsymbol_s_OUTPUT : Addr) (wvalue_wsymbol_s_OUTPUT : Addr) (k_wvalue_wsymbol_s_OUTPUT : ClassId) (s_APPEND : Addr) (wsymbol_s_APPEND : Addr) (wvalue_wsymbol_s_APPEND : Addr) (k_wvalue_wsymbol_s_APPEND : ClassId) (h0 : Heap) (n0 : Nat) (v : Option Value) (h : Heap) (L : List Loc) : Prop := v = some (.int 1) ∧ Fr n0 L
set_option maxRecDepth 65536 in
set_option maxHeartbeats 40000000 in
theorem own_rm18 (l : Launch) (Z : State) (a0 : Array Value) (hw : ∀ d ∈ tables_1, d.before a0 Z = true) (hs : ∀ d ∈ jdkStatics_1, d.before a0 Z = true) (ws : List Jvm.Cond) (p0 : Int32) (s_COMPACT_STRINGS : Int32) (s_INPUT : Addr) (wsymbol_s_INPUT : Addr) (wvalue_wsymbol_s_INPUT : Addr) (k_wvalue_wsymbol_s_INPUT : ClassId) (s_SIOOBE_FORMATTER : Value) (s_OUTPUT : Addr) (wsymbol_s_OUTPUT : Addr) (wvalue_wsymbol_s_OUTPUT : Addr) (k_wvalue_wsymbol_s_OUTPUT : ClassId) (s_APPEND : Addr) (wsymbol_s_APPEND : Addr) (wvalue_wsymbol_s_APPEND : Addr) (k_wvalue_wsymbol_s_APPEND : ClassId) (h0 : Heap) (n0 : Nat) (Z0 : n0 ≤ h0.size) (S_COMPACT_STRINGS : Sta Z h0 "java/lang/String" "COMPACT_STRINGS" "Z" (.int s_COMPACT_STRINGS)) (hcs : ¬ (s_COMPACT_STRINGS = (0 : Int32))) (S_INPUT : Sta Z h0 "com/example/nearfield/nearfield/Redirection$Operator" "INPUT" "Lcom/example/nearfield/nearfield/Redirection$Operator;" (.ref s_INPUT)) (E_s_INPUT : Exa Z h0 s_INPUT "com/example/nearfield/nearfield/Redirection$Operator") (F_symbol_s_INPUT : Fld Z h0 s_INPUT "com/example/nearfield/nearfield/Redirection$Operator" "symbol" "Ljava/lang/String;" (.ref wsymbol_s_INPUT)) (E_wsymbol_s_INPUT : Exa Z h0 wsymbol_s_INPUT "java/lang/String") (F_value_wsymbol_s_INPUT : Fld Z h0 wsymbol_s_INPUT "java/lang/String" "value" "[B" (.ref wvalue_wsymbol_s_INPUT)) (A_wvalue_wsymbol_s_INPUT : Arv Z h0 wvalue_wsymbol_s_INPUT k_wvalue_wsymbol_s_INPUT .byte (1 : Int32) [(.int (60 : Int32))] (.int (0 : Int32))) (F_coder_wsymbol_s_INPUT : Fld Z h0 wsymbol_s_INPUT "java/lang/String" "coder" "B" (.int (0 : Int32))) (hr_s_SIOOBE_FORMATTER : s_SIOOBE_FORMATTER.isRef = true) (S_SIOOBE_FORMATTER : Sta Z h0 "jdk/internal/util/Preconditions" "SIOOBE_FORMATTER" "Ljava/util/function/BiFunction;" s_SIOOBE_FORMATTER) (S_OUTPUT : Sta Z h0 "com/example/nearfield/nearfield/Redirection$Operator" "OUTPUT" "Lcom/example/nearfield/nearfield/Redirection$Operator;" (.ref s_OUTPUT)) (E_s_OUTPUT : Exa Z h0 s_OUTPUT "com/example/nearfield/nearfield/Redirection$Operator") (ne_s_OUTPUT_s_INPUT : s_OUTPUT ≠ s_INPUT) (F_symbol_s_OUTPUT : Fld Z h0 s_OUTPUT "com/example/nearfield/nearfield/Redirection$Operator" "symbol" "Ljava/lang/String;" (.ref wsymbol_s_OUTPUT)) (E_wsymbol_s_OUTPUT : Exa Z h0 wsymbol_s_OUTPUT "java/lang/String") (F_value_wsymbol_s_OUTPUT : Fld Z h0 wsymbol_s_OUTPUT "java/lang/String" "value" "[B" (.ref wvalue_wsymbol_s_OUTPUT)) (A_wvalue_wsymbol_s_OUTPUT : Arv Z h0 wvalue_wsymbol_s_OUTPUT k_wvalue_wsymbol_s_OUTPUT .byte (1 : Int32) [(.int (62 : Int32))] (.int (0 : Int32))) (F_coder_wsymbol_s_OUTPUT : Fld Z h0 wsymbol_s_OUTPUT "java/lang/String" "coder" "B" (.int (0 : Int32))) (S_APPEND : Sta Z h0 "com/example/nearfield/nearfield/Redirection$Operator" "APPEND" "Lcom/example/nearfield/nearfield/Redirection$Operator;" (.ref s_APPEND)) (E_s_APPEND : Exa Z h0 s_APPEND "com/example/nearfield/nearfield/Redirection$Operator") (ne_s_APPEND_s_INPUT : s_APPEND ≠ s_INPUT) (F_symbol_s_APPEND : Fld Z h0 s_APPEND "com/example/nearfield/nearfield/Redirection$Operator" "symbol" "Ljava/lang/String;" (.ref wsymbol_s_APPEND)) (E_wsymbol_s_APPEND : Exa Z h0 wsymbol_s_APPEND "java/lang/String") (F_value_wsymbol_s_APPEND : Fld Z h0 wsymbol_s_APPEND "java/lang/String" "value" "[B" (.ref wvalue_wsymbol_s_APPEND)) (A_wvalue_wsymbol_s_APPEND : Arv Z h0 wvalue_wsymbol_s_APPEND k_wvalue_wsymbol_s_APPEND .byte (2 : Int32) [(.int (62 : Int32)), (.int (62 : Int32))] (.int (0 : Int32))) (F_coder_wsymbol_s_APPEND : Fld Z h0 wsymbol_s_APPEND "java/lang/String" "coder" "B" (.int (0 : Int32))) :
    MetFree l x (head1 (Jvm.Cond.code x code maxLocals ret :: ws) room_1) (fun a U => a = #[(.int p0)] ∧ Z.Warmed39 U.vm ∧ U.heap = h0) (fun _ _ _ _ _ => True) (fun _ U o U' => ∃ v L, o = .returned v ∧ own_Q18 Z p0 s_COMPACT_STRINGS s_INPUT wsymbol_s_INPUT wvalue_wsymbol_s_INPUT k_wvalue_wsymbol_s_INPUT s_SIOOBE_FORMATTER s_OUTPUT wsymbol_s_OUTPUT wvalue_wsymbol_s_OUTPUT k_wvalue_wsymbol_s_OUTPUT s_APPEND wsymbol_s_APPEND wvalue_wsymbol_s_APPEND k_wvalue_wsymbol_s_APPEND h0 n0 v U'.heap L ∧ FrameEnd U o U' L room_1.cells room_1.slots) := by
  refine MetFree.of_bodySF (plainFor_of_name own_pn0) hisR ?_
  intro p e s m args below meth c s₁ Bd hml0 hP hK
  obtain ⟨rfl, hZ, hh⟩ := hP
  have hx := Bd.exec
  have hby := Bd.bytes
  have hlk := Bd.notSynchronized
  have hml : c.maxLocals = 7 := hml0
  have hown : s.vm.findClass "com/example/nearfield/nearfield/OperatorWritesPinLaw" = some m.cls := findClass_of_methodNamed Bd.named
  have hnm := (name_of_methodNamed Bd.named Bd.method).1
  have X0 : Stand p l e room_1 s m #[(.int p0)] below meth c s₁ [] 0 0 := Stand.of_body Bd
  have e0 : s₁.heap = h0 := by rw [← hh, Bd.state]; rfl
  have N0 := Fr.nil n0
  have KR : Keep h0 h0 [] := Keep.refl _ _
  show own_Fin p e below s room_1.cells room_1.slots (own_Q18 Z p0 s_COMPACT_STRINGS s_INPUT wsymbol_s_INPUT wvalue_wsymbol_s_INPUT k_wvalue_wsymbol_s_INPUT s_SIOOBE_FORMATTER s_OUTPUT wsymbol_s_OUTPUT wvalue_wsymbol_s_OUTPUT k_wvalue_wsymbol_s_OUTPUT s_APPEND wsymbol_s_APPEND wvalue_wsymbol_s_APPEND k_wvalue_wsymbol_s_APPEND h0 n0) (s₁.setTop (entryFrame m #[(.int p0)] maxLocals))
  refine own_cast (own_ef18 m p0) ?_
  refine own_step (fun _ k => XS.iloadN X0.here hx rfl (hb hby at_0) rfl k) ?_
  show own_Fin p e below s _ _ _ (s₁.setTop (mkF m 1 #[.val (.int p0), .unset, .unset, .unset, .unset, .unset, .unset] [(.int p0)]))
  refine own_step (fun _ k => X0.ldcInt hx hown (mvT hZ (own_w hw 0 rfl)) (g := (mkF m 1 #[.val (.int p0), .unset, .unset, .unset, .unset, .unset, .unset] [(.int p0)])) rfl (hb hby at_1) _ k) ?_
  show own_Fin p e below s _ _ _ (s₁.setTop (mkF m 3 #[.val (.int p0), .unset, .unset, .unset, .unset, .unset, .unset] [(.int (2147483647 : Int32)), (.int p0)]))
  refine own_step (fun _ k => XS.iand X0.here hx rfl (hb hby at_3) rfl k) ?_
  show own_Fin p e below s _ _ _ (s₁.setTop (mkF m 4 #[.val (.int p0), .unset, .unset, .unset, .unset, .unset, .unset] [(.int (p0 &&& (2147483647 : Int32)))]))
  refine own_step (fun _ k => XS.iconst X0.here hx rfl (hb hby at_4) k) ?_
  show own_Fin p e below s _ _ _ (s₁.setTop (mkF m 5 #[.val (.int p0), .unset, .unset, .unset, .unset, .unset, .unset] [(.int (3 : Int32)), (.int (p0 &&& (2147483647 : Int32)))]))
  refine own_step (fun _ k => iremM (g := (mkF m 5 #[.val (.int p0), .unset, .unset, .unset, .unset, .unset, .unset] [(.int (3 : Int32)), (.int (p0 &&& (2147483647 : Int32)))])) X0 hx rfl (hb hby at_5) rfl (by decide) k) ?_
  show own_Fin p e below s _ _ _ (s₁.setTop (mkF m 6 #[.val (.int p0), .unset, .unset, .unset, .unset, .unset, .unset] [(.int ((p0 &&& (2147483647 : Int32)) % (3 : Int32)))]))
  refine own_step (fun _ k => XS.istoreN X0.here hx rfl (hb hby at_6) rfl (l' := #[.val (.int p0), .val (.int ((p0 &&& (2147483647 : Int32)) % (3 : Int32))), .unset, .unset, .unset, .unset, .unset]) rfl k) ?_
  show own_Fin p e below s _ _ _ (s₁.setTop (mkF m 7 #[.val (.int p0), .val (.int ((p0 &&& (2147483647 : Int32)) % (3 : Int32))), .unset, .unset, .unset, .unset, .unset] []))
  rcases own_k p0 with hk1 | hk2 | hk3
  · rw [hk1]
    show own_Fin p e below s _ _ _ (s₁.setTop (mkF m 7 #[.val (.int p0), .val (.int (0 : Int32)), .unset, .unset, .unset, .unset, .unset] []))
    refine own_step (fun _ k => XS.iloadN X0.here hx rfl (hb hby at_7) rfl k) ?_
    show own_Fin p e below s _ _ _ (s₁.setTop (mkF m 8 #[.val (.int p0), .val (.int (0 : Int32)), .unset, .unset, .unset, .unset, .unset] [(.int (0 : Int32))]))
    obtain ⟨_, _, ⟨T4, L4, k4, n4⟩, -, X4, ⟨Lc4, hQ4, l4, y4, z4⟩, st4⟩ := Jvm.LawKit.callS X0 hx (y := own_y5) hown (mvT hZ (own_w hw 1 rfl)) (mvT hZ (own_w hw 2 rfl)) (mvT hZ (own_w hw 3 rfl)) (mvT hZ (own_w hw 4 rfl)) (by decide) (backOf (W := 0) (own_rm1 l Z a0 hw hs [] s_INPUT h0 n0 Z0 S_INPUT) hZ (own_w hw 4 rfl) (own_w hw 3 rfl) (by decide) (by decide)) (g := (mkF m 8 #[.val (.int p0), .val (.int (0 : Int32)), .unset, .unset, .unset, .unset, .unset] [(.int (0 : Int32))])) rfl (by rw [hml]; rfl) (argsL := [(.int (0 : Int32))]) (rest := []) (lenOf own_pd5 rfl) rfl (by show 2 * 0 + _ ≤ _; exact Nat.le_of_eq rfl) (hb hby at_8) (fun _ _ => ⟨rfl, e0, (by decide : 0 + 0 ≤ _), (by decide : 0 + 0 ≤ _)⟩)
    dsimp only [Pt.U, Pt.locs, Pt.cells, Pt.slots] at X4 l4 y4 z4 st4 hQ4
    subst l4 y4 z4
    obtain ⟨rfl, N4q, e4⟩ := hQ4
    have N4 := Fr.app N0 N4q
    refine own_step (fun _ k => st4 _ k) ?_
    show own_Fin p e below s _ _ _ (T4.setTop (mkF m 11 #[.val (.int p0), .val (.int (0 : Int32)), .unset, .unset, .unset, .unset, .unset] [(.ref s_INPUT)]))
    refine own_step (fun _ k => XS.astoreN X4.here hx rfl (hb hby at_11) rfl rfl (l' := #[.val (.int p0), .val (.int (0 : Int32)), .val (.ref s_INPUT), .unset, .unset, .unset, .unset]) rfl k) ?_
    show own_Fin p e below s _ _ _ (T4.setTop (mkF m 12 #[.val (.int p0), .val (.int (0 : Int32)), .val (.ref s_INPUT), .unset, .unset, .unset, .unset] []))
    refine own_step (fun _ k => XS.iloadN X4.here hx rfl (hb hby at_12) rfl k) ?_
    show own_Fin p e below s _ _ _ (T4.setTop (mkF m 13 #[.val (.int p0), .val (.int (0 : Int32)), .val (.ref s_INPUT), .unset, .unset, .unset, .unset] [(.int (0 : Int32))]))
    refine own_step (fun _ k => XS.ifNo X4.here hx rfl (hb hby at_13) rfl ((if0 _ _).trans (teq (by decide : (0 : Int32) = (0 : Int32))).2) k) ?_
    show own_Fin p e below s _ _ _ (T4.setTop (mkF m 16 #[.val (.int p0), .val (.int (0 : Int32)), .val (.ref s_INPUT), .unset, .unset, .unset, .unset] []))
    refine own_step (fun _ k => XS.iconst X4.here hx rfl (hb hby at_16) k) ?_
    show own_Fin p e below s _ _ _ (T4.setTop (mkF m 17 #[.val (.int p0), .val (.int (0 : Int32)), .val (.ref s_INPUT), .unset, .unset, .unset, .unset] [(.int (0 : Int32))]))
    refine own_step (fun _ k => XS.istoreN X4.here hx rfl (hb hby at_17) rfl (l' := #[.val (.int p0), .val (.int (0 : Int32)), .val (.ref s_INPUT), .val (.int (0 : Int32)), .unset, .unset, .unset]) rfl k) ?_
    show own_Fin p e below s _ _ _ (T4.setTop (mkF m 18 #[.val (.int p0), .val (.int (0 : Int32)), .val (.ref s_INPUT), .val (.int (0 : Int32)), .unset, .unset, .unset] []))
    refine own_step (fun _ k => XS.goto X4.here hx rfl (pc0 := 18) (pc' := 33) rfl (hb hby at_18) (by decide) (by decide) k) ?_
    show own_Fin p e below s _ _ _ (T4.setTop (mkF m 33 #[.val (.int p0), .val (.int (0 : Int32)), .val (.ref s_INPUT), .val (.int (0 : Int32)), .unset, .unset, .unset] []))
    refine own_step (fun _ k => XS.aloadN X4.here hx rfl (hb hby at_33) rfl rfl k) ?_
    show own_Fin p e below s _ _ _ (T4.setTop (mkF m 34 #[.val (.int p0), .val (.int (0 : Int32)), .val (.ref s_INPUT), .val (.int (0 : Int32)), .unset, .unset, .unset] [(.ref s_INPUT)]))
    obtain ⟨cq5, kq5, q5a, q5b, q5c⟩ := isOf hZ e4 E_s_INPUT
    obtain ⟨_, _, ⟨T5, L5, k5, n5⟩, -, X5, ⟨Lc5, hQ5, l5, y5, z5⟩, st5⟩ := X4.virtualBack hx (y := own_y6) (z := own_y6) hown (mvT hZ (own_w hw 8 rfl)) (mvT hZ (own_w hw 9 rfl)) (notFace_of_selects (args := #[]) (mvT hZ (own_w hw 11 rfl))) (mvT hZ (own_w hw 11 rfl)) (mvT hZ (own_w hw 10 rfl)) (by decide) (backOf (W := 0) (own_rm4 l Z a0 hw hs [] s_INPUT h0 n0 Z0 S_INPUT) hZ (own_w hw 12 rfl) (own_w hw 6 rfl) (by decide) (by decide)) q5a q5c (g := (mkF m 34 #[.val (.int p0), .val (.int (0 : Int32)), .val (.ref s_INPUT), .val (.int (0 : Int32)), .unset, .unset, .unset] [(.ref s_INPUT)])) rfl (by rw [hml]; rfl) (Steps.refl _) (argsL := []) (rest := []) (lenOf own_pd3 rfl) rfl (by show 2 * 0 + _ ≤ _; exact Nat.le_of_eq rfl) (hb hby at_34) (fun _ _ => ⟨rfl, e4, (by decide : 0 + 0 ≤ _), (by decide : 0 + 0 ≤ _)⟩)
    dsimp only [Pt.U, Pt.locs, Pt.cells, Pt.slots] at X5 l5 y5 z5 st5 hQ5
    subst l5 y5 z5
    obtain ⟨rfl, N5q, e5⟩ := hQ5
    have N5 := Fr.app N4 N5q
    refine own_step (fun _ k => st5.trans k) ?_
    show own_Fin p e below s _ _ _ (T5.setTop (mkF m 37 #[.val (.int p0), .val (.int (0 : Int32)), .val (.ref s_INPUT), .val (.int (0 : Int32)), .unset, .unset, .unset] [(.int (0 : Int32))]))
    refine own_step (fun _ k => XS.istore X5.here hx rfl (hb hby at_37) rfl (l' := #[.val (.int p0), .val (.int (0 : Int32)), .val (.ref s_INPUT), .val (.int (0 : Int32)), .val (.int (0 : Int32)), .unset, .unset]) rfl k) ?_
    show own_Fin p e below s _ _ _ (T5.setTop (mkF m 39 #[.val (.int p0), .val (.int (0 : Int32)), .val (.ref s_INPUT), .val (.int (0 : Int32)), .val (.int (0 : Int32)), .unset, .unset] []))
    refine own_step (fun _ k => XS.aloadN X5.here hx rfl (hb hby at_39) rfl rfl k) ?_
    show own_Fin p e below s _ _ _ (T5.setTop (mkF m 40 #[.val (.int p0), .val (.int (0 : Int32)), .val (.ref s_INPUT), .val (.int (0 : Int32)), .val (.int (0 : Int32)), .unset, .unset] [(.ref s_INPUT)]))
    obtain ⟨cq6, kq6, q6a, q6b, q6c⟩ := isOf hZ e5 E_s_INPUT
    obtain ⟨_, _, ⟨T6, L6, k6, n6⟩, -, X6, ⟨Lc6, hQ6, l6, y6, z6⟩, st6⟩ := X5.virtualBack hx (y := own_y7) (z := own_y7) hown (mvT hZ (own_w hw 14 rfl)) (mvT hZ (own_w hw 15 rfl)) (notFace_of_selects (args := #[]) (mvT hZ (own_w hw 17 rfl))) (mvT hZ (own_w hw 17 rfl)) (mvT hZ (own_w hw 16 rfl)) (by decide) (backOf (W := 0) (own_rm7 l Z a0 hw hs [] s_INPUT wsymbol_s_INPUT h0 n0 Z0 F_symbol_s_INPUT) hZ (own_w hw 18 rfl) (own_w hw 6 rfl) (by decide) (by decide)) q6a q6c (g := (mkF m 40 #[.val (.int p0), .val (.int (0 : Int32)), .val (.ref s_INPUT), .val (.int (0 : Int32)), .val (.int (0 : Int32)), .unset, .unset] [(.ref s_INPUT)])) rfl (by rw [hml]; rfl) (Steps.refl _) (argsL := []) (rest := []) (lenOf own_pd6 rfl) rfl (by show 2 * 0 + _ ≤ _; exact Nat.le_of_eq rfl) (hb hby at_40) (fun _ _ => ⟨rfl, e5, (by decide : 0 + 0 ≤ _), (by decide : 0 + 0 ≤ _)⟩)
    dsimp only [Pt.U, Pt.locs, Pt.cells, Pt.slots] at X6 l6 y6 z6 st6 hQ6
    subst l6 y6 z6
    obtain ⟨rfl, N6q, e6⟩ := hQ6
    have N6 := Fr.app N5 N6q
    refine own_step (fun _ k => st6.trans k) ?_
    show own_Fin p e below s _ _ _ (T6.setTop (mkF m 43 #[.val (.int p0), .val (.int (0 : Int32)), .val (.ref s_INPUT), .val (.int (0 : Int32)), .val (.int (0 : Int32)), .unset, .unset] [(.ref wsymbol_s_INPUT)]))
    refine own_step (fun _ k => XS.astore X6.here hx rfl (hb hby at_43) rfl rfl (l' := #[.val (.int p0), .val (.int (0 : Int32)), .val (.ref s_INPUT), .val (.int (0 : Int32)), .val (.int (0 : Int32)), .val (.ref wsymbol_s_INPUT), .unset]) rfl k) ?_
    show own_Fin p e below s _ _ _ (T6.setTop (mkF m 45 #[.val (.int p0), .val (.int (0 : Int32)), .val (.ref s_INPUT), .val (.int (0 : Int32)), .val (.int (0 : Int32)), .val (.ref wsymbol_s_INPUT), .unset] []))
    refine own_step (fun _ k => XS.aload X6.here hx rfl (hb hby at_45) rfl rfl k) ?_
    show own_Fin p e below s _ _ _ (T6.setTop (mkF m 47 #[.val (.int p0), .val (.int (0 : Int32)), .val (.ref s_INPUT), .val (.int (0 : Int32)), .val (.int (0 : Int32)), .val (.ref wsymbol_s_INPUT), .unset] [(.ref wsymbol_s_INPUT)]))
    obtain ⟨cq7, kq7, q7a, q7b, q7c⟩ := isOf hZ e6 E_wsymbol_s_INPUT
    obtain ⟨_, _, ⟨T7, L7, k7, n7⟩, -, X7, ⟨Lc7, hQ7, l7, y7, z7⟩, st7⟩ := X6.virtualBack hx (y := own_y8) (z := own_y8) hown (mvT hZ (own_w hw 21 rfl)) (mvT hZ (own_w hw 22 rfl)) (notFace_of_selects (args := #[]) (mvT hZ (own_w hw 24 rfl))) (mvT hZ (own_w hw 24 rfl)) (mvT hZ (own_w hw 23 rfl)) (by decide) (backOf (W := 0) (own_rm10 l Z a0 hw hs [] wsymbol_s_INPUT wvalue_wsymbol_s_INPUT k_wvalue_wsymbol_s_INPUT ((60 : Int32)) s_COMPACT_STRINGS h0 n0 Z0 F_value_wsymbol_s_INPUT A_wvalue_wsymbol_s_INPUT E_wsymbol_s_INPUT S_COMPACT_STRINGS F_coder_wsymbol_s_INPUT (show ¬ (s_COMPACT_STRINGS = (0 : Int32)) from hcs)) hZ (own_w hw 26 rfl) (own_w hw 25 rfl) (by decide) (by decide)) q7a q7c (g := (mkF m 47 #[.val (.int p0), .val (.int (0 : Int32)), .val (.ref s_INPUT), .val (.int (0 : Int32)), .val (.int (0 : Int32)), .val (.ref wsymbol_s_INPUT), .unset] [(.ref wsymbol_s_INPUT)])) rfl (by rw [hml]; rfl) (Steps.refl _) (argsL := []) (rest := []) (lenOf own_pd7 rfl) rfl (by show 2 * 0 + _ ≤ _; exact Nat.le_of_eq rfl) (hb hby at_47) (fun _ _ => ⟨rfl, e6, (by decide : 0 + 0 ≤ _), (by decide : 0 + 0 ≤ _)⟩)
    dsimp only [Pt.U, Pt.locs, Pt.cells, Pt.slots] at X7 l7 y7 z7 st7 hQ7
    subst l7 y7 z7
    obtain ⟨rfl, N7q, e7⟩ := hQ7
    have N7 := Fr.app N6 N7q
    refine own_step (fun _ k => st7.trans k) ?_
    show own_Fin p e below s _ _ _ (T7.setTop (mkF m 50 #[.val (.int p0), .val (.int (0 : Int32)), .val (.ref s_INPUT), .val (.int (0 : Int32)), .val (.int (0 : Int32)), .val (.ref wsymbol_s_INPUT), .unset] [(.int ((1 : Int32) >>> ((0 : Int32) &&& 31)))]))
    have hf8 : (0 : Int32) < ((1 : Int32) >>> ((0 : Int32) &&& 31)) := by decide
    refine own_step (fun _ k => XS.ifNo X7.here hx rfl (hb hby at_50) rfl ((if0 _ _).trans (tlt hf8).2.2.2) k) ?_
    show own_Fin p e below s _ _ _ (T7.setTop (mkF m 53 #[.val (.int p0), .val (.int (0 : Int32)), .val (.ref s_INPUT), .val (.int (0 : Int32)), .val (.int (0 : Int32)), .val (.ref wsymbol_s_INPUT), .unset] []))
    refine own_step (fun _ k => XS.aload X7.here hx rfl (hb hby at_53) rfl rfl k) ?_
    show own_Fin p e below s _ _ _ (T7.setTop (mkF m 55 #[.val (.int p0), .val (.int (0 : Int32)), .val (.ref s_INPUT), .val (.int (0 : Int32)), .val (.int (0 : Int32)), .val (.ref wsymbol_s_INPUT), .unset] [(.ref wsymbol_s_INPUT)]))
    refine own_step (fun _ k => XS.iconst X7.here hx rfl (hb hby at_55) k) ?_
    show own_Fin p e below s _ _ _ (T7.setTop (mkF m 56 #[.val (.int p0), .val (.int (0 : Int32)), .val (.ref s_INPUT), .val (.int (0 : Int32)), .val (.int (0 : Int32)), .val (.ref wsymbol_s_INPUT), .unset] [(.int (0 : Int32)), (.ref wsymbol_s_INPUT)]))
    obtain ⟨cq9, kq9, q9a, q9b, q9c⟩ := isOf hZ e7 E_wsymbol_s_INPUT
    obtain ⟨_, _, ⟨T9, L9, k9, n9⟩, -, X9, ⟨Lc9, hQ9, l9, y9, z9⟩, st9⟩ := X7.virtualBack hx (y := own_y9) (z := own_y9) hown (mvT hZ (own_w hw 37 rfl)) (mvT hZ (own_w hw 38 rfl)) (notFace_of_selects (args := #[]) (mvT hZ (own_w hw 40 rfl))) (mvT hZ (own_w hw 40 rfl)) (mvT hZ (own_w hw 39 rfl)) (by decide) (backOf (W := 0) (own_rm16 l Z a0 hw hs [] wsymbol_s_INPUT s_COMPACT_STRINGS wvalue_wsymbol_s_INPUT k_wvalue_wsymbol_s_INPUT ((60 : Int32)) s_SIOOBE_FORMATTER h0 n0 Z0 E_wsymbol_s_INPUT S_COMPACT_STRINGS F_coder_wsymbol_s_INPUT (show ¬ (s_COMPACT_STRINGS = (0 : Int32)) from hcs) F_value_wsymbol_s_INPUT A_wvalue_wsymbol_s_INPUT hr_s_SIOOBE_FORMATTER S_SIOOBE_FORMATTER) hZ (own_w hw 41 rfl) (own_w hw 25 rfl) (by decide) (by decide)) q9a q9c (g := (mkF m 56 #[.val (.int p0), .val (.int (0 : Int32)), .val (.ref s_INPUT), .val (.int (0 : Int32)), .val (.int (0 : Int32)), .val (.ref wsymbol_s_INPUT), .unset] [(.int (0 : Int32)), (.ref wsymbol_s_INPUT)])) rfl (by rw [hml]; rfl) (Steps.refl _) (argsL := [(.int (0 : Int32))]) (rest := []) (lenOf own_pd8 rfl) rfl (by show 2 * 0 + _ ≤ _; exact Nat.le_of_eq rfl) (hb hby at_56) (fun _ _ => ⟨rfl, e7, (by decide : 0 + 0 ≤ _), (by decide : 0 + 0 ≤ _)⟩)
    dsimp only [Pt.U, Pt.locs, Pt.cells, Pt.slots] at X9 l9 y9 z9 st9 hQ9
    subst l9 y9 z9
    obtain ⟨rfl, N9q, e9⟩ := hQ9
    have N9 := Fr.app N7 N9q
    refine own_step (fun _ k => st9.trans k) ?_
    show own_Fin p e below s _ _ _ (T9.setTop (mkF m 59 #[.val (.int p0), .val (.int (0 : Int32)), .val (.ref s_INPUT), .val (.int (0 : Int32)), .val (.int (0 : Int32)), .val (.ref wsymbol_s_INPUT), .unset] [(.int (nar .char (nar .char (((60 : Int32) &&& (255 : Int32)).toUInt32.toUInt16.toUInt32.toInt32))))]))
    refine own_step (fun _ k => XS.bipush X9.here hx rfl (hb hby at_59) k) ?_
    show own_Fin p e below s _ _ _ (T9.setTop (mkF m 61 #[.val (.int p0), .val (.int (0 : Int32)), .val (.ref s_INPUT), .val (.int (0 : Int32)), .val (.int (0 : Int32)), .val (.ref wsymbol_s_INPUT), .unset] [(.int (62 : Int32)), (.int (nar .char (nar .char (((60 : Int32) &&& (255 : Int32)).toUInt32.toUInt16.toUInt32.toInt32))))]))
    have hf10 : ¬ ((nar .char (nar .char (((60 : Int32) &&& (255 : Int32)).toUInt32.toUInt16.toUInt32.toInt32))) = (62 : Int32)) := by decide
    refine own_step (fun _ k => XS.icmpYes X9.here hx rfl (pc0 := 61) (pc' := 68) rfl (hb hby at_61) rfl (feq hf10).2 (by decide) (by decide) k) ?_
    show own_Fin p e below s _ _ _ (T9.setTop (mkF m 68 #[.val (.int p0), .val (.int (0 : Int32)), .val (.ref s_INPUT), .val (.int (0 : Int32)), .val (.int (0 : Int32)), .val (.ref wsymbol_s_INPUT), .unset] []))
    refine own_step (fun _ k => XS.iconst X9.here hx rfl (hb hby at_68) k) ?_
    show own_Fin p e below s _ _ _ (T9.setTop (mkF m 69 #[.val (.int p0), .val (.int (0 : Int32)), .val (.ref s_INPUT), .val (.int (0 : Int32)), .val (.int (0 : Int32)), .val (.ref wsymbol_s_INPUT), .unset] [(.int (0 : Int32))]))
    refine own_step (fun _ k => XS.istore X9.here hx rfl (hb hby at_69) rfl (l' := #[.val (.int p0), .val (.int (0 : Int32)), .val (.ref s_INPUT), .val (.int (0 : Int32)), .val (.int (0 : Int32)), .val (.ref wsymbol_s_INPUT), .val (.int (0 : Int32))]) rfl k) ?_
    show own_Fin p e below s _ _ _ (T9.setTop (mkF m 71 #[.val (.int p0), .val (.int (0 : Int32)), .val (.ref s_INPUT), .val (.int (0 : Int32)), .val (.int (0 : Int32)), .val (.ref wsymbol_s_INPUT), .val (.int (0 : Int32))] []))
    refine own_step (fun _ k => XS.iload X9.here hx rfl (hb hby at_71) rfl k) ?_
    show own_Fin p e below s _ _ _ (T9.setTop (mkF m 73 #[.val (.int p0), .val (.int (0 : Int32)), .val (.ref s_INPUT), .val (.int (0 : Int32)), .val (.int (0 : Int32)), .val (.ref wsymbol_s_INPUT), .val (.int (0 : Int32))] [(.int (0 : Int32))]))
    refine own_step (fun _ k => XS.iloadN X9.here hx rfl (hb hby at_73) rfl k) ?_
    show own_Fin p e below s _ _ _ (T9.setTop (mkF m 74 #[.val (.int p0), .val (.int (0 : Int32)), .val (.ref s_INPUT), .val (.int (0 : Int32)), .val (.int (0 : Int32)), .val (.ref wsymbol_s_INPUT), .val (.int (0 : Int32))] [(.int (0 : Int32)), (.int (0 : Int32))]))
    refine own_step (fun _ k => XS.icmpNo X9.here hx rfl (hb hby at_74) rfl (teq (by decide : (0 : Int32) = (0 : Int32))).2 k) ?_
    show own_Fin p e below s _ _ _ (T9.setTop (mkF m 77 #[.val (.int p0), .val (.int (0 : Int32)), .val (.ref s_INPUT), .val (.int (0 : Int32)), .val (.int (0 : Int32)), .val (.ref wsymbol_s_INPUT), .val (.int (0 : Int32))] []))
    refine own_step (fun _ k => XS.iload X9.here hx rfl (hb hby at_77) rfl k) ?_
    show own_Fin p e below s _ _ _ (T9.setTop (mkF m 79 #[.val (.int p0), .val (.int (0 : Int32)), .val (.ref s_INPUT), .val (.int (0 : Int32)), .val (.int (0 : Int32)), .val (.ref wsymbol_s_INPUT), .val (.int (0 : Int32))] [(.int (0 : Int32))]))
    refine own_step (fun _ k => XS.iload X9.here hx rfl (hb hby at_79) rfl k) ?_
    show own_Fin p e below s _ _ _ (T9.setTop (mkF m 81 #[.val (.int p0), .val (.int (0 : Int32)), .val (.ref s_INPUT), .val (.int (0 : Int32)), .val (.int (0 : Int32)), .val (.ref wsymbol_s_INPUT), .val (.int (0 : Int32))] [(.int (0 : Int32)), (.int (0 : Int32))]))
    refine own_step (fun _ k => XS.icmpNo X9.here hx rfl (hb hby at_81) rfl (teq (by decide : (0 : Int32) = (0 : Int32))).2 k) ?_
    show own_Fin p e below s _ _ _ (T9.setTop (mkF m 84 #[.val (.int p0), .val (.int (0 : Int32)), .val (.ref s_INPUT), .val (.int (0 : Int32)), .val (.int (0 : Int32)), .val (.ref wsymbol_s_INPUT), .val (.int (0 : Int32))] []))
    refine own_step (fun _ k => XS.iconst X9.here hx rfl (hb hby at_84) k) ?_
    show own_Fin p e below s _ _ _ (T9.setTop (mkF m 85 #[.val (.int p0), .val (.int (0 : Int32)), .val (.ref s_INPUT), .val (.int (0 : Int32)), .val (.int (0 : Int32)), .val (.ref wsymbol_s_INPUT), .val (.int (0 : Int32))] [(.int (1 : Int32))]))
    refine own_step (fun _ k => XS.goto X9.here hx rfl (pc0 := 85) (pc' := 89) rfl (hb hby at_85) (by decide) (by decide) k) ?_
    show own_Fin p e below s _ _ _ (T9.setTop (mkF m 89 #[.val (.int p0), .val (.int (0 : Int32)), .val (.ref s_INPUT), .val (.int (0 : Int32)), .val (.int (0 : Int32)), .val (.ref wsymbol_s_INPUT), .val (.int (0 : Int32))] [(.int (1 : Int32))]))
    exact own_ret X9 hlk (v := some (.int (1 : Int32))) (fun h => by rw [Bd.returns] at h; cases h) (by decide) (by decide) (by show own_Q18 Z p0 s_COMPACT_STRINGS s_INPUT wsymbol_s_INPUT wvalue_wsymbol_s_INPUT k_wvalue_wsymbol_s_INPUT s_SIOOBE_FORMATTER s_OUTPUT wsymbol_s_OUTPUT wvalue_wsymbol_s_OUTPUT k_wvalue_wsymbol_s_OUTPUT s_APPEND wsymbol_s_APPEND wvalue_wsymbol_s_APPEND k_wvalue_wsymbol_s_APPEND h0 n0 _ T9.heap _; rw [e9]; exact ⟨rfl, N9⟩) (fun fs hr => retN X9 hx (t := .boolean) Bd.returns (by simp) (hb hby at_89) hr)
  · rw [hk2]
    show own_Fin p e below s _ _ _ (s₁.setTop (mkF m 7 #[.val (.int p0), .val (.int (1 : Int32)), .unset, .unset, .unset, .unset, .unset] []))
    refine own_step (fun _ k => XS.iloadN X0.here hx rfl (hb hby at_7) rfl k) ?_
    show own_Fin p e below s _ _ _ (s₁.setTop (mkF m 8 #[.val (.int p0), .val (.int (1 : Int32)), .unset, .unset, .unset, .unset, .unset] [(.int (1 : Int32))]))
    obtain ⟨_, _, ⟨T11, L11, k11, n11⟩, -, X11, ⟨Lc11, hQ11, l11, y11, z11⟩, st11⟩ := Jvm.LawKit.callS X0 hx (y := own_y5) hown (mvT hZ (own_w hw 1 rfl)) (mvT hZ (own_w hw 2 rfl)) (mvT hZ (own_w hw 3 rfl)) (mvT hZ (own_w hw 4 rfl)) (by decide) (backOf (W := 0) (own_rm2 l Z a0 hw hs [] s_OUTPUT h0 n0 Z0 S_OUTPUT) hZ (own_w hw 4 rfl) (own_w hw 3 rfl) (by decide) (by decide)) (g := (mkF m 8 #[.val (.int p0), .val (.int (1 : Int32)), .unset, .unset, .unset, .unset, .unset] [(.int (1 : Int32))])) rfl (by rw [hml]; rfl) (argsL := [(.int (1 : Int32))]) (rest := []) (lenOf own_pd5 rfl) rfl (by show 2 * 0 + _ ≤ _; exact Nat.le_of_eq rfl) (hb hby at_8) (fun _ _ => ⟨rfl, e0, (by decide : 0 + 0 ≤ _), (by decide : 0 + 0 ≤ _)⟩)
    dsimp only [Pt.U, Pt.locs, Pt.cells, Pt.slots] at X11 l11 y11 z11 st11 hQ11
    subst l11 y11 z11
    obtain ⟨rfl, N11q, e11⟩ := hQ11
    have N11 := Fr.app N0 N11q
    refine own_step (fun _ k => st11 _ k) ?_
    show own_Fin p e below s _ _ _ (T11.setTop (mkF m 11 #[.val (.int p0), .val (.int (1 : Int32)), .unset, .unset, .unset, .unset, .unset] [(.ref s_OUTPUT)]))
    refine own_step (fun _ k => XS.astoreN X11.here hx rfl (hb hby at_11) rfl rfl (l' := #[.val (.int p0), .val (.int (1 : Int32)), .val (.ref s_OUTPUT), .unset, .unset, .unset, .unset]) rfl k) ?_
    show own_Fin p e below s _ _ _ (T11.setTop (mkF m 12 #[.val (.int p0), .val (.int (1 : Int32)), .val (.ref s_OUTPUT), .unset, .unset, .unset, .unset] []))
    refine own_step (fun _ k => XS.iloadN X11.here hx rfl (hb hby at_12) rfl k) ?_
    show own_Fin p e below s _ _ _ (T11.setTop (mkF m 13 #[.val (.int p0), .val (.int (1 : Int32)), .val (.ref s_OUTPUT), .unset, .unset, .unset, .unset] [(.int (1 : Int32))]))
    refine own_step (fun _ k => XS.ifYes X11.here hx rfl (pc0 := 13) (pc' := 21) rfl (hb hby at_13) rfl ((if0 _ _).trans (feq (by decide : ¬ ((1 : Int32) = (0 : Int32)))).2) (by decide) (by decide) k) ?_
    show own_Fin p e below s _ _ _ (T11.setTop (mkF m 21 #[.val (.int p0), .val (.int (1 : Int32)), .val (.ref s_OUTPUT), .unset, .unset, .unset, .unset] []))
    refine own_step (fun _ k => XS.iloadN X11.here hx rfl (hb hby at_21) rfl k) ?_
    show own_Fin p e below s _ _ _ (T11.setTop (mkF m 22 #[.val (.int p0), .val (.int (1 : Int32)), .val (.ref s_OUTPUT), .unset, .unset, .unset, .unset] [(.int (1 : Int32))]))
    refine own_step (fun _ k => XS.iconst X11.here hx rfl (hb hby at_22) k) ?_
    show own_Fin p e below s _ _ _ (T11.setTop (mkF m 23 #[.val (.int p0), .val (.int (1 : Int32)), .val (.ref s_OUTPUT), .unset, .unset, .unset, .unset] [(.int (1 : Int32)), (.int (1 : Int32))]))
    refine own_step (fun _ k => XS.icmpNo X11.here hx rfl (hb hby at_23) rfl (teq (by decide : (1 : Int32) = (1 : Int32))).2 k) ?_
    show own_Fin p e below s _ _ _ (T11.setTop (mkF m 26 #[.val (.int p0), .val (.int (1 : Int32)), .val (.ref s_OUTPUT), .unset, .unset, .unset, .unset] []))
    refine own_step (fun _ k => XS.iconst X11.here hx rfl (hb hby at_26) k) ?_
    show own_Fin p e below s _ _ _ (T11.setTop (mkF m 27 #[.val (.int p0), .val (.int (1 : Int32)), .val (.ref s_OUTPUT), .unset, .unset, .unset, .unset] [(.int (1 : Int32))]))
    refine own_step (fun _ k => XS.istoreN X11.here hx rfl (hb hby at_27) rfl (l' := #[.val (.int p0), .val (.int (1 : Int32)), .val (.ref s_OUTPUT), .val (.int (1 : Int32)), .unset, .unset, .unset]) rfl k) ?_
    show own_Fin p e below s _ _ _ (T11.setTop (mkF m 28 #[.val (.int p0), .val (.int (1 : Int32)), .val (.ref s_OUTPUT), .val (.int (1 : Int32)), .unset, .unset, .unset] []))
    refine own_step (fun _ k => XS.goto X11.here hx rfl (pc0 := 28) (pc' := 33) rfl (hb hby at_28) (by decide) (by decide) k) ?_
    show own_Fin p e below s _ _ _ (T11.setTop (mkF m 33 #[.val (.int p0), .val (.int (1 : Int32)), .val (.ref s_OUTPUT), .val (.int (1 : Int32)), .unset, .unset, .unset] []))
    refine own_step (fun _ k => XS.aloadN X11.here hx rfl (hb hby at_33) rfl rfl k) ?_
    show own_Fin p e below s _ _ _ (T11.setTop (mkF m 34 #[.val (.int p0), .val (.int (1 : Int32)), .val (.ref s_OUTPUT), .val (.int (1 : Int32)), .unset, .unset, .unset] [(.ref s_OUTPUT)]))
    obtain ⟨cq12, kq12, q12a, q12b, q12c⟩ := isOf hZ e11 E_s_OUTPUT
    obtain ⟨_, _, ⟨T12, L12, k12, n12⟩, -, X12, ⟨Lc12, hQ12, l12, y12, z12⟩, st12⟩ := X11.virtualBack hx (y := own_y6) (z := own_y6) hown (mvT hZ (own_w hw 8 rfl)) (mvT hZ (own_w hw 9 rfl)) (notFace_of_selects (args := #[]) (mvT hZ (own_w hw 11 rfl))) (mvT hZ (own_w hw 11 rfl)) (mvT hZ (own_w hw 10 rfl)) (by decide) (backOf (W := 0) (own_rm5 l Z a0 hw hs [] s_OUTPUT s_INPUT h0 n0 Z0 S_INPUT ne_s_OUTPUT_s_INPUT) hZ (own_w hw 12 rfl) (own_w hw 6 rfl) (by decide) (by decide)) q12a q12c (g := (mkF m 34 #[.val (.int p0), .val (.int (1 : Int32)), .val (.ref s_OUTPUT), .val (.int (1 : Int32)), .unset, .unset, .unset] [(.ref s_OUTPUT)])) rfl (by rw [hml]; rfl) (Steps.refl _) (argsL := []) (rest := []) (lenOf own_pd3 rfl) rfl (by show 2 * 0 + _ ≤ _; exact Nat.le_of_eq rfl) (hb hby at_34) (fun _ _ => ⟨rfl, e11, (by decide : 0 + 0 ≤ _), (by decide : 0 + 0 ≤ _)⟩)
    dsimp only [Pt.U, Pt.locs, Pt.cells, Pt.slots] at X12 l12 y12 z12 st12 hQ12
    subst l12 y12 z12
    obtain ⟨rfl, N12q, e12⟩ := hQ12
    have N12 := Fr.app N11 N12q
    refine own_step (fun _ k => st12.trans k) ?_
    show own_Fin p e below s _ _ _ (T12.setTop (mkF m 37 #[.val (.int p0), .val (.int (1 : Int32)), .val (.ref s_OUTPUT), .val (.int (1 : Int32)), .unset, .unset, .unset] [(.int (1 : Int32))]))
    refine own_step (fun _ k => XS.istore X12.here hx rfl (hb hby at_37) rfl (l' := #[.val (.int p0), .val (.int (1 : Int32)), .val (.ref s_OUTPUT), .val (.int (1 : Int32)), .val (.int (1 : Int32)), .unset, .unset]) rfl k) ?_
    show own_Fin p e below s _ _ _ (T12.setTop (mkF m 39 #[.val (.int p0), .val (.int (1 : Int32)), .val (.ref s_OUTPUT), .val (.int (1 : Int32)), .val (.int (1 : Int32)), .unset, .unset] []))
    refine own_step (fun _ k => XS.aloadN X12.here hx rfl (hb hby at_39) rfl rfl k) ?_
    show own_Fin p e below s _ _ _ (T12.setTop (mkF m 40 #[.val (.int p0), .val (.int (1 : Int32)), .val (.ref s_OUTPUT), .val (.int (1 : Int32)), .val (.int (1 : Int32)), .unset, .unset] [(.ref s_OUTPUT)]))
    obtain ⟨cq13, kq13, q13a, q13b, q13c⟩ := isOf hZ e12 E_s_OUTPUT
    obtain ⟨_, _, ⟨T13, L13, k13, n13⟩, -, X13, ⟨Lc13, hQ13, l13, y13, z13⟩, st13⟩ := X12.virtualBack hx (y := own_y7) (z := own_y7) hown (mvT hZ (own_w hw 14 rfl)) (mvT hZ (own_w hw 15 rfl)) (notFace_of_selects (args := #[]) (mvT hZ (own_w hw 17 rfl))) (mvT hZ (own_w hw 17 rfl)) (mvT hZ (own_w hw 16 rfl)) (by decide) (backOf (W := 0) (own_rm7 l Z a0 hw hs [] s_OUTPUT wsymbol_s_OUTPUT h0 n0 Z0 F_symbol_s_OUTPUT) hZ (own_w hw 18 rfl) (own_w hw 6 rfl) (by decide) (by decide)) q13a q13c (g := (mkF m 40 #[.val (.int p0), .val (.int (1 : Int32)), .val (.ref s_OUTPUT), .val (.int (1 : Int32)), .val (.int (1 : Int32)), .unset, .unset] [(.ref s_OUTPUT)])) rfl (by rw [hml]; rfl) (Steps.refl _) (argsL := []) (rest := []) (lenOf own_pd6 rfl) rfl (by show 2 * 0 + _ ≤ _; exact Nat.le_of_eq rfl) (hb hby at_40) (fun _ _ => ⟨rfl, e12, (by decide : 0 + 0 ≤ _), (by decide : 0 + 0 ≤ _)⟩)
    dsimp only [Pt.U, Pt.locs, Pt.cells, Pt.slots] at X13 l13 y13 z13 st13 hQ13
    subst l13 y13 z13
    obtain ⟨rfl, N13q, e13⟩ := hQ13
    have N13 := Fr.app N12 N13q
    refine own_step (fun _ k => st13.trans k) ?_
    show own_Fin p e below s _ _ _ (T13.setTop (mkF m 43 #[.val (.int p0), .val (.int (1 : Int32)), .val (.ref s_OUTPUT), .val (.int (1 : Int32)), .val (.int (1 : Int32)), .unset, .unset] [(.ref wsymbol_s_OUTPUT)]))
    refine own_step (fun _ k => XS.astore X13.here hx rfl (hb hby at_43) rfl rfl (l' := #[.val (.int p0), .val (.int (1 : Int32)), .val (.ref s_OUTPUT), .val (.int (1 : Int32)), .val (.int (1 : Int32)), .val (.ref wsymbol_s_OUTPUT), .unset]) rfl k) ?_
    show own_Fin p e below s _ _ _ (T13.setTop (mkF m 45 #[.val (.int p0), .val (.int (1 : Int32)), .val (.ref s_OUTPUT), .val (.int (1 : Int32)), .val (.int (1 : Int32)), .val (.ref wsymbol_s_OUTPUT), .unset] []))
    refine own_step (fun _ k => XS.aload X13.here hx rfl (hb hby at_45) rfl rfl k) ?_
    show own_Fin p e below s _ _ _ (T13.setTop (mkF m 47 #[.val (.int p0), .val (.int (1 : Int32)), .val (.ref s_OUTPUT), .val (.int (1 : Int32)), .val (.int (1 : Int32)), .val (.ref wsymbol_s_OUTPUT), .unset] [(.ref wsymbol_s_OUTPUT)]))
    obtain ⟨cq14, kq14, q14a, q14b, q14c⟩ := isOf hZ e13 E_wsymbol_s_OUTPUT
    obtain ⟨_, _, ⟨T14, L14, k14, n14⟩, -, X14, ⟨Lc14, hQ14, l14, y14, z14⟩, st14⟩ := X13.virtualBack hx (y := own_y8) (z := own_y8) hown (mvT hZ (own_w hw 21 rfl)) (mvT hZ (own_w hw 22 rfl)) (notFace_of_selects (args := #[]) (mvT hZ (own_w hw 24 rfl))) (mvT hZ (own_w hw 24 rfl)) (mvT hZ (own_w hw 23 rfl)) (by decide) (backOf (W := 0) (own_rm10 l Z a0 hw hs [] wsymbol_s_OUTPUT wvalue_wsymbol_s_OUTPUT k_wvalue_wsymbol_s_OUTPUT ((62 : Int32)) s_COMPACT_STRINGS h0 n0 Z0 F_value_wsymbol_s_OUTPUT A_wvalue_wsymbol_s_OUTPUT E_wsymbol_s_OUTPUT S_COMPACT_STRINGS F_coder_wsymbol_s_OUTPUT (show ¬ (s_COMPACT_STRINGS = (0 : Int32)) from hcs)) hZ (own_w hw 26 rfl) (own_w hw 25 rfl) (by decide) (by decide)) q14a q14c (g := (mkF m 47 #[.val (.int p0), .val (.int (1 : Int32)), .val (.ref s_OUTPUT), .val (.int (1 : Int32)), .val (.int (1 : Int32)), .val (.ref wsymbol_s_OUTPUT), .unset] [(.ref wsymbol_s_OUTPUT)])) rfl (by rw [hml]; rfl) (Steps.refl _) (argsL := []) (rest := []) (lenOf own_pd7 rfl) rfl (by show 2 * 0 + _ ≤ _; exact Nat.le_of_eq rfl) (hb hby at_47) (fun _ _ => ⟨rfl, e13, (by decide : 0 + 0 ≤ _), (by decide : 0 + 0 ≤ _)⟩)
    dsimp only [Pt.U, Pt.locs, Pt.cells, Pt.slots] at X14 l14 y14 z14 st14 hQ14
    subst l14 y14 z14
    obtain ⟨rfl, N14q, e14⟩ := hQ14
    have N14 := Fr.app N13 N14q
    refine own_step (fun _ k => st14.trans k) ?_
    show own_Fin p e below s _ _ _ (T14.setTop (mkF m 50 #[.val (.int p0), .val (.int (1 : Int32)), .val (.ref s_OUTPUT), .val (.int (1 : Int32)), .val (.int (1 : Int32)), .val (.ref wsymbol_s_OUTPUT), .unset] [(.int ((1 : Int32) >>> ((0 : Int32) &&& 31)))]))
    have hf15 : (0 : Int32) < ((1 : Int32) >>> ((0 : Int32) &&& 31)) := by decide
    refine own_step (fun _ k => XS.ifNo X14.here hx rfl (hb hby at_50) rfl ((if0 _ _).trans (tlt hf15).2.2.2) k) ?_
    show own_Fin p e below s _ _ _ (T14.setTop (mkF m 53 #[.val (.int p0), .val (.int (1 : Int32)), .val (.ref s_OUTPUT), .val (.int (1 : Int32)), .val (.int (1 : Int32)), .val (.ref wsymbol_s_OUTPUT), .unset] []))
    refine own_step (fun _ k => XS.aload X14.here hx rfl (hb hby at_53) rfl rfl k) ?_
    show own_Fin p e below s _ _ _ (T14.setTop (mkF m 55 #[.val (.int p0), .val (.int (1 : Int32)), .val (.ref s_OUTPUT), .val (.int (1 : Int32)), .val (.int (1 : Int32)), .val (.ref wsymbol_s_OUTPUT), .unset] [(.ref wsymbol_s_OUTPUT)]))
    refine own_step (fun _ k => XS.iconst X14.here hx rfl (hb hby at_55) k) ?_
    show own_Fin p e below s _ _ _ (T14.setTop (mkF m 56 #[.val (.int p0), .val (.int (1 : Int32)), .val (.ref s_OUTPUT), .val (.int (1 : Int32)), .val (.int (1 : Int32)), .val (.ref wsymbol_s_OUTPUT), .unset] [(.int (0 : Int32)), (.ref wsymbol_s_OUTPUT)]))
    obtain ⟨cq16, kq16, q16a, q16b, q16c⟩ := isOf hZ e14 E_wsymbol_s_OUTPUT
    obtain ⟨_, _, ⟨T16, L16, k16, n16⟩, -, X16, ⟨Lc16, hQ16, l16, y16, z16⟩, st16⟩ := X14.virtualBack hx (y := own_y9) (z := own_y9) hown (mvT hZ (own_w hw 37 rfl)) (mvT hZ (own_w hw 38 rfl)) (notFace_of_selects (args := #[]) (mvT hZ (own_w hw 40 rfl))) (mvT hZ (own_w hw 40 rfl)) (mvT hZ (own_w hw 39 rfl)) (by decide) (backOf (W := 0) (own_rm16 l Z a0 hw hs [] wsymbol_s_OUTPUT s_COMPACT_STRINGS wvalue_wsymbol_s_OUTPUT k_wvalue_wsymbol_s_OUTPUT ((62 : Int32)) s_SIOOBE_FORMATTER h0 n0 Z0 E_wsymbol_s_OUTPUT S_COMPACT_STRINGS F_coder_wsymbol_s_OUTPUT (show ¬ (s_COMPACT_STRINGS = (0 : Int32)) from hcs) F_value_wsymbol_s_OUTPUT A_wvalue_wsymbol_s_OUTPUT hr_s_SIOOBE_FORMATTER S_SIOOBE_FORMATTER) hZ (own_w hw 41 rfl) (own_w hw 25 rfl) (by decide) (by decide)) q16a q16c (g := (mkF m 56 #[.val (.int p0), .val (.int (1 : Int32)), .val (.ref s_OUTPUT), .val (.int (1 : Int32)), .val (.int (1 : Int32)), .val (.ref wsymbol_s_OUTPUT), .unset] [(.int (0 : Int32)), (.ref wsymbol_s_OUTPUT)])) rfl (by rw [hml]; rfl) (Steps.refl _) (argsL := [(.int (0 : Int32))]) (rest := []) (lenOf own_pd8 rfl) rfl (by show 2 * 0 + _ ≤ _; exact Nat.le_of_eq rfl) (hb hby at_56) (fun _ _ => ⟨rfl, e14, (by decide : 0 + 0 ≤ _), (by decide : 0 + 0 ≤ _)⟩)
    dsimp only [Pt.U, Pt.locs, Pt.cells, Pt.slots] at X16 l16 y16 z16 st16 hQ16
    subst l16 y16 z16
    obtain ⟨rfl, N16q, e16⟩ := hQ16
    have N16 := Fr.app N14 N16q
    refine own_step (fun _ k => st16.trans k) ?_
    show own_Fin p e below s _ _ _ (T16.setTop (mkF m 59 #[.val (.int p0), .val (.int (1 : Int32)), .val (.ref s_OUTPUT), .val (.int (1 : Int32)), .val (.int (1 : Int32)), .val (.ref wsymbol_s_OUTPUT), .unset] [(.int (nar .char (nar .char (((62 : Int32) &&& (255 : Int32)).toUInt32.toUInt16.toUInt32.toInt32))))]))
    refine own_step (fun _ k => XS.bipush X16.here hx rfl (hb hby at_59) k) ?_
    show own_Fin p e below s _ _ _ (T16.setTop (mkF m 61 #[.val (.int p0), .val (.int (1 : Int32)), .val (.ref s_OUTPUT), .val (.int (1 : Int32)), .val (.int (1 : Int32)), .val (.ref wsymbol_s_OUTPUT), .unset] [(.int (62 : Int32)), (.int (nar .char (nar .char (((62 : Int32) &&& (255 : Int32)).toUInt32.toUInt16.toUInt32.toInt32))))]))
    have hf17 : (nar .char (nar .char (((62 : Int32) &&& (255 : Int32)).toUInt32.toUInt16.toUInt32.toInt32))) = (62 : Int32) := by decide
    refine own_step (fun _ k => XS.icmpNo X16.here hx rfl (hb hby at_61) rfl (teq hf17).2 k) ?_
    show own_Fin p e below s _ _ _ (T16.setTop (mkF m 64 #[.val (.int p0), .val (.int (1 : Int32)), .val (.ref s_OUTPUT), .val (.int (1 : Int32)), .val (.int (1 : Int32)), .val (.ref wsymbol_s_OUTPUT), .unset] []))
    refine own_step (fun _ k => XS.iconst X16.here hx rfl (hb hby at_64) k) ?_
    show own_Fin p e below s _ _ _ (T16.setTop (mkF m 65 #[.val (.int p0), .val (.int (1 : Int32)), .val (.ref s_OUTPUT), .val (.int (1 : Int32)), .val (.int (1 : Int32)), .val (.ref wsymbol_s_OUTPUT), .unset] [(.int (1 : Int32))]))
    refine own_step (fun _ k => XS.goto X16.here hx rfl (pc0 := 65) (pc' := 69) rfl (hb hby at_65) (by decide) (by decide) k) ?_
    show own_Fin p e below s _ _ _ (T16.setTop (mkF m 69 #[.val (.int p0), .val (.int (1 : Int32)), .val (.ref s_OUTPUT), .val (.int (1 : Int32)), .val (.int (1 : Int32)), .val (.ref wsymbol_s_OUTPUT), .unset] [(.int (1 : Int32))]))
    refine own_step (fun _ k => XS.istore X16.here hx rfl (hb hby at_69) rfl (l' := #[.val (.int p0), .val (.int (1 : Int32)), .val (.ref s_OUTPUT), .val (.int (1 : Int32)), .val (.int (1 : Int32)), .val (.ref wsymbol_s_OUTPUT), .val (.int (1 : Int32))]) rfl k) ?_
    show own_Fin p e below s _ _ _ (T16.setTop (mkF m 71 #[.val (.int p0), .val (.int (1 : Int32)), .val (.ref s_OUTPUT), .val (.int (1 : Int32)), .val (.int (1 : Int32)), .val (.ref wsymbol_s_OUTPUT), .val (.int (1 : Int32))] []))
    refine own_step (fun _ k => XS.iload X16.here hx rfl (hb hby at_71) rfl k) ?_
    show own_Fin p e below s _ _ _ (T16.setTop (mkF m 73 #[.val (.int p0), .val (.int (1 : Int32)), .val (.ref s_OUTPUT), .val (.int (1 : Int32)), .val (.int (1 : Int32)), .val (.ref wsymbol_s_OUTPUT), .val (.int (1 : Int32))] [(.int (1 : Int32))]))
    refine own_step (fun _ k => XS.iloadN X16.here hx rfl (hb hby at_73) rfl k) ?_
    show own_Fin p e below s _ _ _ (T16.setTop (mkF m 74 #[.val (.int p0), .val (.int (1 : Int32)), .val (.ref s_OUTPUT), .val (.int (1 : Int32)), .val (.int (1 : Int32)), .val (.ref wsymbol_s_OUTPUT), .val (.int (1 : Int32))] [(.int (1 : Int32)), (.int (1 : Int32))]))
    refine own_step (fun _ k => XS.icmpNo X16.here hx rfl (hb hby at_74) rfl (teq (by decide : (1 : Int32) = (1 : Int32))).2 k) ?_
    show own_Fin p e below s _ _ _ (T16.setTop (mkF m 77 #[.val (.int p0), .val (.int (1 : Int32)), .val (.ref s_OUTPUT), .val (.int (1 : Int32)), .val (.int (1 : Int32)), .val (.ref wsymbol_s_OUTPUT), .val (.int (1 : Int32))] []))
    refine own_step (fun _ k => XS.iload X16.here hx rfl (hb hby at_77) rfl k) ?_
    show own_Fin p e below s _ _ _ (T16.setTop (mkF m 79 #[.val (.int p0), .val (.int (1 : Int32)), .val (.ref s_OUTPUT), .val (.int (1 : Int32)), .val (.int (1 : Int32)), .val (.ref wsymbol_s_OUTPUT), .val (.int (1 : Int32))] [(.int (1 : Int32))]))
    refine own_step (fun _ k => XS.iload X16.here hx rfl (hb hby at_79) rfl k) ?_
    show own_Fin p e below s _ _ _ (T16.setTop (mkF m 81 #[.val (.int p0), .val (.int (1 : Int32)), .val (.ref s_OUTPUT), .val (.int (1 : Int32)), .val (.int (1 : Int32)), .val (.ref wsymbol_s_OUTPUT), .val (.int (1 : Int32))] [(.int (1 : Int32)), (.int (1 : Int32))]))
    refine own_step (fun _ k => XS.icmpNo X16.here hx rfl (hb hby at_81) rfl (teq (by decide : (1 : Int32) = (1 : Int32))).2 k) ?_
    show own_Fin p e below s _ _ _ (T16.setTop (mkF m 84 #[.val (.int p0), .val (.int (1 : Int32)), .val (.ref s_OUTPUT), .val (.int (1 : Int32)), .val (.int (1 : Int32)), .val (.ref wsymbol_s_OUTPUT), .val (.int (1 : Int32))] []))
    refine own_step (fun _ k => XS.iconst X16.here hx rfl (hb hby at_84) k) ?_
    show own_Fin p e below s _ _ _ (T16.setTop (mkF m 85 #[.val (.int p0), .val (.int (1 : Int32)), .val (.ref s_OUTPUT), .val (.int (1 : Int32)), .val (.int (1 : Int32)), .val (.ref wsymbol_s_OUTPUT), .val (.int (1 : Int32))] [(.int (1 : Int32))]))
    refine own_step (fun _ k => XS.goto X16.here hx rfl (pc0 := 85) (pc' := 89) rfl (hb hby at_85) (by decide) (by decide) k) ?_
    show own_Fin p e below s _ _ _ (T16.setTop (mkF m 89 #[.val (.int p0), .val (.int (1 : Int32)), .val (.ref s_OUTPUT), .val (.int (1 : Int32)), .val (.int (1 : Int32)), .val (.ref wsymbol_s_OUTPUT), .val (.int (1 : Int32))] [(.int (1 : Int32))]))
    exact own_ret X16 hlk (v := some (.int (1 : Int32))) (fun h => by rw [Bd.returns] at h; cases h) (by decide) (by decide) (by show own_Q18 Z p0 s_COMPACT_STRINGS s_INPUT wsymbol_s_INPUT wvalue_wsymbol_s_INPUT k_wvalue_wsymbol_s_INPUT s_SIOOBE_FORMATTER s_OUTPUT wsymbol_s_OUTPUT wvalue_wsymbol_s_OUTPUT k_wvalue_wsymbol_s_OUTPUT s_APPEND wsymbol_s_APPEND wvalue_wsymbol_s_APPEND k_wvalue_wsymbol_s_APPEND h0 n0 _ T16.heap _; rw [e16]; exact ⟨rfl, N16⟩) (fun fs hr => retN X16 hx (t := .boolean) Bd.returns (by simp) (hb hby at_89) hr)
  · rw [hk3]
    show own_Fin p e below s _ _ _ (s₁.setTop (mkF m 7 #[.val (.int p0), .val (.int (2 : Int32)), .unset, .unset, .unset, .unset, .unset] []))
    refine own_step (fun _ k => XS.iloadN X0.here hx rfl (hb hby at_7) rfl k) ?_
    show own_Fin p e below s _ _ _ (s₁.setTop (mkF m 8 #[.val (.int p0), .val (.int (2 : Int32)), .unset, .unset, .unset, .unset, .unset] [(.int (2 : Int32))]))
    obtain ⟨_, _, ⟨T18, L18, k18, n18⟩, -, X18, ⟨Lc18, hQ18, l18, y18, z18⟩, st18⟩ := Jvm.LawKit.callS X0 hx (y := own_y5) hown (mvT hZ (own_w hw 1 rfl)) (mvT hZ (own_w hw 2 rfl)) (mvT hZ (own_w hw 3 rfl)) (mvT hZ (own_w hw 4 rfl)) (by decide) (backOf (W := 0) (own_rm3 l Z a0 hw hs [] s_APPEND h0 n0 Z0 S_APPEND) hZ (own_w hw 4 rfl) (own_w hw 3 rfl) (by decide) (by decide)) (g := (mkF m 8 #[.val (.int p0), .val (.int (2 : Int32)), .unset, .unset, .unset, .unset, .unset] [(.int (2 : Int32))])) rfl (by rw [hml]; rfl) (argsL := [(.int (2 : Int32))]) (rest := []) (lenOf own_pd5 rfl) rfl (by show 2 * 0 + _ ≤ _; exact Nat.le_of_eq rfl) (hb hby at_8) (fun _ _ => ⟨rfl, e0, (by decide : 0 + 0 ≤ _), (by decide : 0 + 0 ≤ _)⟩)
    dsimp only [Pt.U, Pt.locs, Pt.cells, Pt.slots] at X18 l18 y18 z18 st18 hQ18
    subst l18 y18 z18
    obtain ⟨rfl, N18q, e18⟩ := hQ18
    have N18 := Fr.app N0 N18q
    refine own_step (fun _ k => st18 _ k) ?_
    show own_Fin p e below s _ _ _ (T18.setTop (mkF m 11 #[.val (.int p0), .val (.int (2 : Int32)), .unset, .unset, .unset, .unset, .unset] [(.ref s_APPEND)]))
    refine own_step (fun _ k => XS.astoreN X18.here hx rfl (hb hby at_11) rfl rfl (l' := #[.val (.int p0), .val (.int (2 : Int32)), .val (.ref s_APPEND), .unset, .unset, .unset, .unset]) rfl k) ?_
    show own_Fin p e below s _ _ _ (T18.setTop (mkF m 12 #[.val (.int p0), .val (.int (2 : Int32)), .val (.ref s_APPEND), .unset, .unset, .unset, .unset] []))
    refine own_step (fun _ k => XS.iloadN X18.here hx rfl (hb hby at_12) rfl k) ?_
    show own_Fin p e below s _ _ _ (T18.setTop (mkF m 13 #[.val (.int p0), .val (.int (2 : Int32)), .val (.ref s_APPEND), .unset, .unset, .unset, .unset] [(.int (2 : Int32))]))
    refine own_step (fun _ k => XS.ifYes X18.here hx rfl (pc0 := 13) (pc' := 21) rfl (hb hby at_13) rfl ((if0 _ _).trans (feq (by decide : ¬ ((2 : Int32) = (0 : Int32)))).2) (by decide) (by decide) k) ?_
    show own_Fin p e below s _ _ _ (T18.setTop (mkF m 21 #[.val (.int p0), .val (.int (2 : Int32)), .val (.ref s_APPEND), .unset, .unset, .unset, .unset] []))
    refine own_step (fun _ k => XS.iloadN X18.here hx rfl (hb hby at_21) rfl k) ?_
    show own_Fin p e below s _ _ _ (T18.setTop (mkF m 22 #[.val (.int p0), .val (.int (2 : Int32)), .val (.ref s_APPEND), .unset, .unset, .unset, .unset] [(.int (2 : Int32))]))
    refine own_step (fun _ k => XS.iconst X18.here hx rfl (hb hby at_22) k) ?_
    show own_Fin p e below s _ _ _ (T18.setTop (mkF m 23 #[.val (.int p0), .val (.int (2 : Int32)), .val (.ref s_APPEND), .unset, .unset, .unset, .unset] [(.int (1 : Int32)), (.int (2 : Int32))]))
    refine own_step (fun _ k => XS.icmpYes X18.here hx rfl (pc0 := 23) (pc' := 31) rfl (hb hby at_23) rfl (feq (by decide : ¬ ((2 : Int32) = (1 : Int32)))).2 (by decide) (by decide) k) ?_
    show own_Fin p e below s _ _ _ (T18.setTop (mkF m 31 #[.val (.int p0), .val (.int (2 : Int32)), .val (.ref s_APPEND), .unset, .unset, .unset, .unset] []))
    refine own_step (fun _ k => XS.iconst X18.here hx rfl (hb hby at_31) k) ?_
    show own_Fin p e below s _ _ _ (T18.setTop (mkF m 32 #[.val (.int p0), .val (.int (2 : Int32)), .val (.ref s_APPEND), .unset, .unset, .unset, .unset] [(.int (1 : Int32))]))
    refine own_step (fun _ k => XS.istoreN X18.here hx rfl (hb hby at_32) rfl (l' := #[.val (.int p0), .val (.int (2 : Int32)), .val (.ref s_APPEND), .val (.int (1 : Int32)), .unset, .unset, .unset]) rfl k) ?_
    show own_Fin p e below s _ _ _ (T18.setTop (mkF m 33 #[.val (.int p0), .val (.int (2 : Int32)), .val (.ref s_APPEND), .val (.int (1 : Int32)), .unset, .unset, .unset] []))
    refine own_step (fun _ k => XS.aloadN X18.here hx rfl (hb hby at_33) rfl rfl k) ?_
    show own_Fin p e below s _ _ _ (T18.setTop (mkF m 34 #[.val (.int p0), .val (.int (2 : Int32)), .val (.ref s_APPEND), .val (.int (1 : Int32)), .unset, .unset, .unset] [(.ref s_APPEND)]))
    obtain ⟨cq19, kq19, q19a, q19b, q19c⟩ := isOf hZ e18 E_s_APPEND
    obtain ⟨_, _, ⟨T19, L19, k19, n19⟩, -, X19, ⟨Lc19, hQ19, l19, y19, z19⟩, st19⟩ := X18.virtualBack hx (y := own_y6) (z := own_y6) hown (mvT hZ (own_w hw 8 rfl)) (mvT hZ (own_w hw 9 rfl)) (notFace_of_selects (args := #[]) (mvT hZ (own_w hw 11 rfl))) (mvT hZ (own_w hw 11 rfl)) (mvT hZ (own_w hw 10 rfl)) (by decide) (backOf (W := 0) (own_rm6 l Z a0 hw hs [] s_APPEND s_INPUT h0 n0 Z0 S_INPUT ne_s_APPEND_s_INPUT) hZ (own_w hw 12 rfl) (own_w hw 6 rfl) (by decide) (by decide)) q19a q19c (g := (mkF m 34 #[.val (.int p0), .val (.int (2 : Int32)), .val (.ref s_APPEND), .val (.int (1 : Int32)), .unset, .unset, .unset] [(.ref s_APPEND)])) rfl (by rw [hml]; rfl) (Steps.refl _) (argsL := []) (rest := []) (lenOf own_pd3 rfl) rfl (by show 2 * 0 + _ ≤ _; exact Nat.le_of_eq rfl) (hb hby at_34) (fun _ _ => ⟨rfl, e18, (by decide : 0 + 0 ≤ _), (by decide : 0 + 0 ≤ _)⟩)
    dsimp only [Pt.U, Pt.locs, Pt.cells, Pt.slots] at X19 l19 y19 z19 st19 hQ19
    subst l19 y19 z19
    obtain ⟨rfl, N19q, e19⟩ := hQ19
    have N19 := Fr.app N18 N19q
    refine own_step (fun _ k => st19.trans k) ?_
    show own_Fin p e below s _ _ _ (T19.setTop (mkF m 37 #[.val (.int p0), .val (.int (2 : Int32)), .val (.ref s_APPEND), .val (.int (1 : Int32)), .unset, .unset, .unset] [(.int (1 : Int32))]))
    refine own_step (fun _ k => XS.istore X19.here hx rfl (hb hby at_37) rfl (l' := #[.val (.int p0), .val (.int (2 : Int32)), .val (.ref s_APPEND), .val (.int (1 : Int32)), .val (.int (1 : Int32)), .unset, .unset]) rfl k) ?_
    show own_Fin p e below s _ _ _ (T19.setTop (mkF m 39 #[.val (.int p0), .val (.int (2 : Int32)), .val (.ref s_APPEND), .val (.int (1 : Int32)), .val (.int (1 : Int32)), .unset, .unset] []))
    refine own_step (fun _ k => XS.aloadN X19.here hx rfl (hb hby at_39) rfl rfl k) ?_
    show own_Fin p e below s _ _ _ (T19.setTop (mkF m 40 #[.val (.int p0), .val (.int (2 : Int32)), .val (.ref s_APPEND), .val (.int (1 : Int32)), .val (.int (1 : Int32)), .unset, .unset] [(.ref s_APPEND)]))
    obtain ⟨cq20, kq20, q20a, q20b, q20c⟩ := isOf hZ e19 E_s_APPEND
    obtain ⟨_, _, ⟨T20, L20, k20, n20⟩, -, X20, ⟨Lc20, hQ20, l20, y20, z20⟩, st20⟩ := X19.virtualBack hx (y := own_y7) (z := own_y7) hown (mvT hZ (own_w hw 14 rfl)) (mvT hZ (own_w hw 15 rfl)) (notFace_of_selects (args := #[]) (mvT hZ (own_w hw 17 rfl))) (mvT hZ (own_w hw 17 rfl)) (mvT hZ (own_w hw 16 rfl)) (by decide) (backOf (W := 0) (own_rm7 l Z a0 hw hs [] s_APPEND wsymbol_s_APPEND h0 n0 Z0 F_symbol_s_APPEND) hZ (own_w hw 18 rfl) (own_w hw 6 rfl) (by decide) (by decide)) q20a q20c (g := (mkF m 40 #[.val (.int p0), .val (.int (2 : Int32)), .val (.ref s_APPEND), .val (.int (1 : Int32)), .val (.int (1 : Int32)), .unset, .unset] [(.ref s_APPEND)])) rfl (by rw [hml]; rfl) (Steps.refl _) (argsL := []) (rest := []) (lenOf own_pd6 rfl) rfl (by show 2 * 0 + _ ≤ _; exact Nat.le_of_eq rfl) (hb hby at_40) (fun _ _ => ⟨rfl, e19, (by decide : 0 + 0 ≤ _), (by decide : 0 + 0 ≤ _)⟩)
    dsimp only [Pt.U, Pt.locs, Pt.cells, Pt.slots] at X20 l20 y20 z20 st20 hQ20
    subst l20 y20 z20
    obtain ⟨rfl, N20q, e20⟩ := hQ20
    have N20 := Fr.app N19 N20q
    refine own_step (fun _ k => st20.trans k) ?_
    show own_Fin p e below s _ _ _ (T20.setTop (mkF m 43 #[.val (.int p0), .val (.int (2 : Int32)), .val (.ref s_APPEND), .val (.int (1 : Int32)), .val (.int (1 : Int32)), .unset, .unset] [(.ref wsymbol_s_APPEND)]))
    refine own_step (fun _ k => XS.astore X20.here hx rfl (hb hby at_43) rfl rfl (l' := #[.val (.int p0), .val (.int (2 : Int32)), .val (.ref s_APPEND), .val (.int (1 : Int32)), .val (.int (1 : Int32)), .val (.ref wsymbol_s_APPEND), .unset]) rfl k) ?_
    show own_Fin p e below s _ _ _ (T20.setTop (mkF m 45 #[.val (.int p0), .val (.int (2 : Int32)), .val (.ref s_APPEND), .val (.int (1 : Int32)), .val (.int (1 : Int32)), .val (.ref wsymbol_s_APPEND), .unset] []))
    refine own_step (fun _ k => XS.aload X20.here hx rfl (hb hby at_45) rfl rfl k) ?_
    show own_Fin p e below s _ _ _ (T20.setTop (mkF m 47 #[.val (.int p0), .val (.int (2 : Int32)), .val (.ref s_APPEND), .val (.int (1 : Int32)), .val (.int (1 : Int32)), .val (.ref wsymbol_s_APPEND), .unset] [(.ref wsymbol_s_APPEND)]))
    obtain ⟨cq21, kq21, q21a, q21b, q21c⟩ := isOf hZ e20 E_wsymbol_s_APPEND
    obtain ⟨_, _, ⟨T21, L21, k21, n21⟩, -, X21, ⟨Lc21, hQ21, l21, y21, z21⟩, st21⟩ := X20.virtualBack hx (y := own_y8) (z := own_y8) hown (mvT hZ (own_w hw 21 rfl)) (mvT hZ (own_w hw 22 rfl)) (notFace_of_selects (args := #[]) (mvT hZ (own_w hw 24 rfl))) (mvT hZ (own_w hw 24 rfl)) (mvT hZ (own_w hw 23 rfl)) (by decide) (backOf (W := 0) (own_rm11 l Z a0 hw hs [] wsymbol_s_APPEND wvalue_wsymbol_s_APPEND k_wvalue_wsymbol_s_APPEND ((62 : Int32)) ((62 : Int32)) s_COMPACT_STRINGS h0 n0 Z0 F_value_wsymbol_s_APPEND A_wvalue_wsymbol_s_APPEND E_wsymbol_s_APPEND S_COMPACT_STRINGS F_coder_wsymbol_s_APPEND (show ¬ (s_COMPACT_STRINGS = (0 : Int32)) from hcs)) hZ (own_w hw 26 rfl) (own_w hw 25 rfl) (by decide) (by decide)) q21a q21c (g := (mkF m 47 #[.val (.int p0), .val (.int (2 : Int32)), .val (.ref s_APPEND), .val (.int (1 : Int32)), .val (.int (1 : Int32)), .val (.ref wsymbol_s_APPEND), .unset] [(.ref wsymbol_s_APPEND)])) rfl (by rw [hml]; rfl) (Steps.refl _) (argsL := []) (rest := []) (lenOf own_pd7 rfl) rfl (by show 2 * 0 + _ ≤ _; exact Nat.le_of_eq rfl) (hb hby at_47) (fun _ _ => ⟨rfl, e20, (by decide : 0 + 0 ≤ _), (by decide : 0 + 0 ≤ _)⟩)
    dsimp only [Pt.U, Pt.locs, Pt.cells, Pt.slots] at X21 l21 y21 z21 st21 hQ21
    subst l21 y21 z21
    obtain ⟨rfl, N21q, e21⟩ := hQ21
    have N21 := Fr.app N20 N21q
    refine own_step (fun _ k => st21.trans k) ?_
    show own_Fin p e below s _ _ _ (T21.setTop (mkF m 50 #[.val (.int p0), .val (.int (2 : Int32)), .val (.ref s_APPEND), .val (.int (1 : Int32)), .val (.int (1 : Int32)), .val (.ref wsymbol_s_APPEND), .unset] [(.int ((2 : Int32) >>> ((0 : Int32) &&& 31)))]))
    have hf22 : (0 : Int32) < ((2 : Int32) >>> ((0 : Int32) &&& 31)) := by decide
    refine own_step (fun _ k => XS.ifNo X21.here hx rfl (hb hby at_50) rfl ((if0 _ _).trans (tlt hf22).2.2.2) k) ?_
    show own_Fin p e below s _ _ _ (T21.setTop (mkF m 53 #[.val (.int p0), .val (.int (2 : Int32)), .val (.ref s_APPEND), .val (.int (1 : Int32)), .val (.int (1 : Int32)), .val (.ref wsymbol_s_APPEND), .unset] []))
    refine own_step (fun _ k => XS.aload X21.here hx rfl (hb hby at_53) rfl rfl k) ?_
    show own_Fin p e below s _ _ _ (T21.setTop (mkF m 55 #[.val (.int p0), .val (.int (2 : Int32)), .val (.ref s_APPEND), .val (.int (1 : Int32)), .val (.int (1 : Int32)), .val (.ref wsymbol_s_APPEND), .unset] [(.ref wsymbol_s_APPEND)]))
    refine own_step (fun _ k => XS.iconst X21.here hx rfl (hb hby at_55) k) ?_
    show own_Fin p e below s _ _ _ (T21.setTop (mkF m 56 #[.val (.int p0), .val (.int (2 : Int32)), .val (.ref s_APPEND), .val (.int (1 : Int32)), .val (.int (1 : Int32)), .val (.ref wsymbol_s_APPEND), .unset] [(.int (0 : Int32)), (.ref wsymbol_s_APPEND)]))
    obtain ⟨cq23, kq23, q23a, q23b, q23c⟩ := isOf hZ e21 E_wsymbol_s_APPEND
    obtain ⟨_, _, ⟨T23, L23, k23, n23⟩, -, X23, ⟨Lc23, hQ23, l23, y23, z23⟩, st23⟩ := X21.virtualBack hx (y := own_y9) (z := own_y9) hown (mvT hZ (own_w hw 37 rfl)) (mvT hZ (own_w hw 38 rfl)) (notFace_of_selects (args := #[]) (mvT hZ (own_w hw 40 rfl))) (mvT hZ (own_w hw 40 rfl)) (mvT hZ (own_w hw 39 rfl)) (by decide) (backOf (W := 0) (own_rm17 l Z a0 hw hs [] wsymbol_s_APPEND s_COMPACT_STRINGS wvalue_wsymbol_s_APPEND k_wvalue_wsymbol_s_APPEND ((62 : Int32)) ((62 : Int32)) s_SIOOBE_FORMATTER h0 n0 Z0 E_wsymbol_s_APPEND S_COMPACT_STRINGS F_coder_wsymbol_s_APPEND (show ¬ (s_COMPACT_STRINGS = (0 : Int32)) from hcs) F_value_wsymbol_s_APPEND A_wvalue_wsymbol_s_APPEND hr_s_SIOOBE_FORMATTER S_SIOOBE_FORMATTER) hZ (own_w hw 41 rfl) (own_w hw 25 rfl) (by decide) (by decide)) q23a q23c (g := (mkF m 56 #[.val (.int p0), .val (.int (2 : Int32)), .val (.ref s_APPEND), .val (.int (1 : Int32)), .val (.int (1 : Int32)), .val (.ref wsymbol_s_APPEND), .unset] [(.int (0 : Int32)), (.ref wsymbol_s_APPEND)])) rfl (by rw [hml]; rfl) (Steps.refl _) (argsL := [(.int (0 : Int32))]) (rest := []) (lenOf own_pd8 rfl) rfl (by show 2 * 0 + _ ≤ _; exact Nat.le_of_eq rfl) (hb hby at_56) (fun _ _ => ⟨rfl, e21, (by decide : 0 + 0 ≤ _), (by decide : 0 + 0 ≤ _)⟩)
    dsimp only [Pt.U, Pt.locs, Pt.cells, Pt.slots] at X23 l23 y23 z23 st23 hQ23
    subst l23 y23 z23
    obtain ⟨rfl, N23q, e23⟩ := hQ23
    have N23 := Fr.app N21 N23q
    refine own_step (fun _ k => st23.trans k) ?_
    show own_Fin p e below s _ _ _ (T23.setTop (mkF m 59 #[.val (.int p0), .val (.int (2 : Int32)), .val (.ref s_APPEND), .val (.int (1 : Int32)), .val (.int (1 : Int32)), .val (.ref wsymbol_s_APPEND), .unset] [(.int (nar .char (nar .char (((62 : Int32) &&& (255 : Int32)).toUInt32.toUInt16.toUInt32.toInt32))))]))
    refine own_step (fun _ k => XS.bipush X23.here hx rfl (hb hby at_59) k) ?_
    show own_Fin p e below s _ _ _ (T23.setTop (mkF m 61 #[.val (.int p0), .val (.int (2 : Int32)), .val (.ref s_APPEND), .val (.int (1 : Int32)), .val (.int (1 : Int32)), .val (.ref wsymbol_s_APPEND), .unset] [(.int (62 : Int32)), (.int (nar .char (nar .char (((62 : Int32) &&& (255 : Int32)).toUInt32.toUInt16.toUInt32.toInt32))))]))
    have hf24 : (nar .char (nar .char (((62 : Int32) &&& (255 : Int32)).toUInt32.toUInt16.toUInt32.toInt32))) = (62 : Int32) := by decide
    refine own_step (fun _ k => XS.icmpNo X23.here hx rfl (hb hby at_61) rfl (teq hf24).2 k) ?_
    show own_Fin p e below s _ _ _ (T23.setTop (mkF m 64 #[.val (.int p0), .val (.int (2 : Int32)), .val (.ref s_APPEND), .val (.int (1 : Int32)), .val (.int (1 : Int32)), .val (.ref wsymbol_s_APPEND), .unset] []))
    refine own_step (fun _ k => XS.iconst X23.here hx rfl (hb hby at_64) k) ?_
    show own_Fin p e below s _ _ _ (T23.setTop (mkF m 65 #[.val (.int p0), .val (.int (2 : Int32)), .val (.ref s_APPEND), .val (.int (1 : Int32)), .val (.int (1 : Int32)), .val (.ref wsymbol_s_APPEND), .unset] [(.int (1 : Int32))]))
    refine own_step (fun _ k => XS.goto X23.here hx rfl (pc0 := 65) (pc' := 69) rfl (hb hby at_65) (by decide) (by decide) k) ?_
    show own_Fin p e below s _ _ _ (T23.setTop (mkF m 69 #[.val (.int p0), .val (.int (2 : Int32)), .val (.ref s_APPEND), .val (.int (1 : Int32)), .val (.int (1 : Int32)), .val (.ref wsymbol_s_APPEND), .unset] [(.int (1 : Int32))]))
    refine own_step (fun _ k => XS.istore X23.here hx rfl (hb hby at_69) rfl (l' := #[.val (.int p0), .val (.int (2 : Int32)), .val (.ref s_APPEND), .val (.int (1 : Int32)), .val (.int (1 : Int32)), .val (.ref wsymbol_s_APPEND), .val (.int (1 : Int32))]) rfl k) ?_
    show own_Fin p e below s _ _ _ (T23.setTop (mkF m 71 #[.val (.int p0), .val (.int (2 : Int32)), .val (.ref s_APPEND), .val (.int (1 : Int32)), .val (.int (1 : Int32)), .val (.ref wsymbol_s_APPEND), .val (.int (1 : Int32))] []))
    refine own_step (fun _ k => XS.iload X23.here hx rfl (hb hby at_71) rfl k) ?_
    show own_Fin p e below s _ _ _ (T23.setTop (mkF m 73 #[.val (.int p0), .val (.int (2 : Int32)), .val (.ref s_APPEND), .val (.int (1 : Int32)), .val (.int (1 : Int32)), .val (.ref wsymbol_s_APPEND), .val (.int (1 : Int32))] [(.int (1 : Int32))]))
    refine own_step (fun _ k => XS.iloadN X23.here hx rfl (hb hby at_73) rfl k) ?_
    show own_Fin p e below s _ _ _ (T23.setTop (mkF m 74 #[.val (.int p0), .val (.int (2 : Int32)), .val (.ref s_APPEND), .val (.int (1 : Int32)), .val (.int (1 : Int32)), .val (.ref wsymbol_s_APPEND), .val (.int (1 : Int32))] [(.int (1 : Int32)), (.int (1 : Int32))]))
    refine own_step (fun _ k => XS.icmpNo X23.here hx rfl (hb hby at_74) rfl (teq (by decide : (1 : Int32) = (1 : Int32))).2 k) ?_
    show own_Fin p e below s _ _ _ (T23.setTop (mkF m 77 #[.val (.int p0), .val (.int (2 : Int32)), .val (.ref s_APPEND), .val (.int (1 : Int32)), .val (.int (1 : Int32)), .val (.ref wsymbol_s_APPEND), .val (.int (1 : Int32))] []))
    refine own_step (fun _ k => XS.iload X23.here hx rfl (hb hby at_77) rfl k) ?_
    show own_Fin p e below s _ _ _ (T23.setTop (mkF m 79 #[.val (.int p0), .val (.int (2 : Int32)), .val (.ref s_APPEND), .val (.int (1 : Int32)), .val (.int (1 : Int32)), .val (.ref wsymbol_s_APPEND), .val (.int (1 : Int32))] [(.int (1 : Int32))]))
    refine own_step (fun _ k => XS.iload X23.here hx rfl (hb hby at_79) rfl k) ?_
    show own_Fin p e below s _ _ _ (T23.setTop (mkF m 81 #[.val (.int p0), .val (.int (2 : Int32)), .val (.ref s_APPEND), .val (.int (1 : Int32)), .val (.int (1 : Int32)), .val (.ref wsymbol_s_APPEND), .val (.int (1 : Int32))] [(.int (1 : Int32)), (.int (1 : Int32))]))
    refine own_step (fun _ k => XS.icmpNo X23.here hx rfl (hb hby at_81) rfl (teq (by decide : (1 : Int32) = (1 : Int32))).2 k) ?_
    show own_Fin p e below s _ _ _ (T23.setTop (mkF m 84 #[.val (.int p0), .val (.int (2 : Int32)), .val (.ref s_APPEND), .val (.int (1 : Int32)), .val (.int (1 : Int32)), .val (.ref wsymbol_s_APPEND), .val (.int (1 : Int32))] []))
    refine own_step (fun _ k => XS.iconst X23.here hx rfl (hb hby at_84) k) ?_
    show own_Fin p e below s _ _ _ (T23.setTop (mkF m 85 #[.val (.int p0), .val (.int (2 : Int32)), .val (.ref s_APPEND), .val (.int (1 : Int32)), .val (.int (1 : Int32)), .val (.ref wsymbol_s_APPEND), .val (.int (1 : Int32))] [(.int (1 : Int32))]))
    refine own_step (fun _ k => XS.goto X23.here hx rfl (pc0 := 85) (pc' := 89) rfl (hb hby at_85) (by decide) (by decide) k) ?_
    show own_Fin p e below s _ _ _ (T23.setTop (mkF m 89 #[.val (.int p0), .val (.int (2 : Int32)), .val (.ref s_APPEND), .val (.int (1 : Int32)), .val (.int (1 : Int32)), .val (.ref wsymbol_s_APPEND), .val (.int (1 : Int32))] [(.int (1 : Int32))]))
    exact own_ret X23 hlk (v := some (.int (1 : Int32))) (fun h => by rw [Bd.returns] at h; cases h) (by decide) (by decide) (by show own_Q18 Z p0 s_COMPACT_STRINGS s_INPUT wsymbol_s_INPUT wvalue_wsymbol_s_INPUT k_wvalue_wsymbol_s_INPUT s_SIOOBE_FORMATTER s_OUTPUT wsymbol_s_OUTPUT wvalue_wsymbol_s_OUTPUT k_wvalue_wsymbol_s_OUTPUT s_APPEND wsymbol_s_APPEND wvalue_wsymbol_s_APPEND k_wvalue_wsymbol_s_APPEND h0 n0 _ T23.heap _; rw [e23]; exact ⟨rfl, N23⟩) (fun fs hr => retN X23 hx (t := .boolean) Bd.returns (by simp) (hb hby at_89) hr)

set_option maxRecDepth 65536 in
set_option maxHeartbeats 40000000 in
theorem comes_1 {Post : Tables → Env → Array Value → State → Outcome → State → Prop} (hpost : ∀ tb e args s v u, (limb_1_1.after args s (.returned v) u = true ∧ limb_1_2.after args s (.returned v) u = true ∧ True) → FrameEnd s (.returned v) u (Jvm.fieldLocs frame_1_writes args s ++ Jvm.arrayLocs frame_1_arrays args s ++ Jvm.staticLocs frame_1_statics s) 0 0 → Post tb e args s (.returned v) u) :
    ArmFor flags0 classFile x code maxLocals ret World_1 tables_1 room_1 Calls_1 rest_1 Pre_1 Post := by
  intro l hfl _ _ p e ha hc hk s m args below hf hA hF happ hP
  obtain ⟨hcalls, hrest, hpre⟩ := hP
  obtain ⟨-, -, -, hnamed, -, -, -, hat⟩ := (Spec.applies_iff hf).mp happ
  obtain ⟨hg, hn⟩ := and_e (Cond.before_iff.mp (show (Jvm.Cond.and given_1 narrow_1).before args s = true from hpre))
  obtain ⟨cj1a, cj1b⟩ := and_e hg
  obtain ⟨w0, rfl⟩ : ∃ w0 : Value, args = #[w0] := by
    have hs : args.size = 1 := by simpa [Cond.value, given_1] using cj1a
    obtain ⟨L⟩ := args
    match L, hs with
    | [w0], _ => exact ⟨w0, rfl⟩
  have hw := fun d (hd : d ∈ tables_1) => atoms_spec (ws := Jvm.Cond.code x code maxLocals ret :: tables_1) hat d (List.mem_cons_of_mem _ hd)
  have hfit : Fit s := fun {y c} hc i hi => by
    obtain ⟨ha, rfl⟩ := Array.getElem?_eq_some_iff.mp hc
    have q := List.all_eq_true.mp ((Array.all_eq_true_iff_forall_mem.mp hF) _ (Array.getElem_mem ha)) i (List.mem_range.mpr hi)
    simpa [Array.getElem?_eq_getElem hi] using q
  obtain ⟨hs, hown0⟩ := atoms_of _ (rest_1_c_eq ▸ (show rest_1_c.before _ s = true from hrest))
  have hr0 := Cond.before_iff.mp hown0
  obtain ⟨i0, ei0⟩ := is_v cj1b
  obtain rfl : w0 = (.int i0) := Option.some.inj ei0
  obtain ⟨cj2a, cj2b⟩ := and_e hn
  obtain ⟨cj3a, cj3b⟩ := and_e cj2b
  obtain ⟨cj4a, cj4b⟩ := and_e cj3b
  obtain ⟨cj5a, cj5b⟩ := and_e cj4b
  obtain ⟨cj6a, cj6b⟩ := and_e cj5b
  obtain ⟨cj7a, cj7b⟩ := and_e cj6b
  obtain ⟨cj8a, cj8b⟩ := and_e cj7b
  obtain ⟨cj9a, cj9b⟩ := and_e cj8b
  obtain ⟨cj10a, cj10b⟩ := and_e cj9b
  obtain ⟨cj11a, cj11b⟩ := and_e cj10b
  obtain ⟨cj12a, cj12b⟩ := and_e cj11b
  obtain ⟨cj13a, cj13b⟩ := and_e cj12b
  obtain ⟨cj14a, cj14b⟩ := and_e cj13b
  obtain ⟨cj15a, cj15b⟩ := and_e cj14b
  obtain ⟨cj16a, cj16b⟩ := and_e cj15b
  obtain ⟨cj17a, cj17b⟩ := and_e cj16b
  obtain ⟨cj18a, cj18b⟩ := and_e cj17b
  obtain ⟨cj19a, cj19b⟩ := and_e cj18b
  obtain ⟨cj20a, cj20b⟩ := and_e cj19b
  obtain ⟨cj21a, cj21b⟩ := and_e cj20b
  obtain ⟨cj22a, cj22b⟩ := and_e cj21b
  obtain ⟨s_INPUT, ev_s_INPUT⟩ := exa_v cj2a
  have S_INPUT : Sta s s.heap "com/example/nearfield/nearfield/Redirection$Operator" "INPUT" "Lcom/example/nearfield/nearfield/Redirection$Operator;" (.ref s_INPUT) := Sta.start ev_s_INPUT (Or.inr ⟨(own_w hw 6 rfl), (own_w hw 7 rfl)⟩)
  have E_s_INPUT : Exa s s.heap s_INPUT "com/example/nearfield/nearfield/Redirection$Operator" := Exa.start ev_s_INPUT cj2a
  obtain ⟨s_APPEND, ev_s_APPEND⟩ := exa_v cj8a
  have S_APPEND : Sta s s.heap "com/example/nearfield/nearfield/Redirection$Operator" "APPEND" "Lcom/example/nearfield/nearfield/Redirection$Operator;" (.ref s_APPEND) := Sta.start ev_s_APPEND (Or.inr ⟨(own_w hw 6 rfl), (own_w hw 60 rfl)⟩)
  have E_s_APPEND : Exa s s.heap s_APPEND "com/example/nearfield/nearfield/Redirection$Operator" := Exa.start ev_s_APPEND cj8a
  obtain ⟨s_OUTPUT, ev_s_OUTPUT⟩ := exa_v cj16a
  have S_OUTPUT : Sta s s.heap "com/example/nearfield/nearfield/Redirection$Operator" "OUTPUT" "Lcom/example/nearfield/nearfield/Redirection$Operator;" (.ref s_OUTPUT) := Sta.start ev_s_OUTPUT (Or.inr ⟨(own_w hw 6 rfl), (own_w hw 62 rfl)⟩)
  have E_s_OUTPUT : Exa s s.heap s_OUTPUT "com/example/nearfield/nearfield/Redirection$Operator" := Exa.start ev_s_OUTPUT cj16a
  obtain ⟨s_COMPACT_STRINGS, ev_s_COMPACT_STRINGS⟩ := is_v (Cond.before_iff.mp (hs _ (List.mem_of_getElem? (i := 1) rfl)))
  have S_COMPACT_STRINGS : Sta s s.heap "java/lang/String" "COMPACT_STRINGS" "Z" (.int s_COMPACT_STRINGS) := Sta.start ev_s_COMPACT_STRINGS (Or.inl (own_w hs 0 rfl))
  obtain ⟨s_SIOOBE_FORMATTER, ev_s_SIOOBE_FORMATTER, ir_s_SIOOBE_FORMATTER⟩ := isR_v (Cond.before_iff.mp (hs _ (List.mem_of_getElem? (i := 8) rfl)))
  have S_SIOOBE_FORMATTER : Sta s s.heap "jdk/internal/util/Preconditions" "SIOOBE_FORMATTER" "Ljava/util/function/BiFunction;" s_SIOOBE_FORMATTER := Sta.start ev_s_SIOOBE_FORMATTER (Or.inl (own_w hs 7 rfl))
  have hr_s_SIOOBE_FORMATTER := ir_s_SIOOBE_FORMATTER
  obtain ⟨wsymbol_s_INPUT, ev_wsymbol_s_INPUT⟩ := exa_v cj3a
  have F_symbol_s_INPUT : Fld s s.heap s_INPUT "com/example/nearfield/nearfield/Redirection$Operator" "symbol" "Ljava/lang/String;" (.ref wsymbol_s_INPUT) := own_fldV ev_s_INPUT ev_wsymbol_s_INPUT
  have E_wsymbol_s_INPUT : Exa s s.heap wsymbol_s_INPUT "java/lang/String" := Exa.start ev_wsymbol_s_INPUT cj3a
  have ev_wordinal_s_APPEND := eqv_i rfl cj9a
  have F_ordinal_s_APPEND : Fld s s.heap s_APPEND "java/lang/Enum" "ordinal" "I" (.int (2 : Int32)) := own_fldV ev_s_APPEND ev_wordinal_s_APPEND
  have ev_wordinal_s_INPUT := eqv_i rfl cj10a
  have F_ordinal_s_INPUT : Fld s s.heap s_INPUT "java/lang/Enum" "ordinal" "I" (.int (0 : Int32)) := own_fldV ev_s_INPUT ev_wordinal_s_INPUT
  obtain ⟨wsymbol_s_APPEND, ev_wsymbol_s_APPEND⟩ := exa_v cj11a
  have F_symbol_s_APPEND : Fld s s.heap s_APPEND "com/example/nearfield/nearfield/Redirection$Operator" "symbol" "Ljava/lang/String;" (.ref wsymbol_s_APPEND) := own_fldV ev_s_APPEND ev_wsymbol_s_APPEND
  have E_wsymbol_s_APPEND : Exa s s.heap wsymbol_s_APPEND "java/lang/String" := Exa.start ev_wsymbol_s_APPEND cj11a
  have ev_wordinal_s_OUTPUT := eqv_i rfl cj17a
  have F_ordinal_s_OUTPUT : Fld s s.heap s_OUTPUT "java/lang/Enum" "ordinal" "I" (.int (1 : Int32)) := own_fldV ev_s_OUTPUT ev_wordinal_s_OUTPUT
  obtain ⟨wsymbol_s_OUTPUT, ev_wsymbol_s_OUTPUT⟩ := exa_v cj18a
  have F_symbol_s_OUTPUT : Fld s s.heap s_OUTPUT "com/example/nearfield/nearfield/Redirection$Operator" "symbol" "Ljava/lang/String;" (.ref wsymbol_s_OUTPUT) := own_fldV ev_s_OUTPUT ev_wsymbol_s_OUTPUT
  have E_wsymbol_s_OUTPUT : Exa s s.heap wsymbol_s_OUTPUT "java/lang/String" := Exa.start ev_wsymbol_s_OUTPUT cj18a
  have hnz_s_COMPACT_STRINGS : ¬ (s_COMPACT_STRINGS = (0 : Int32)) := of_decide_eq_false (Option.some.inj ((Cond.eq_ints ev_s_COMPACT_STRINGS rfl).symm.trans (not_v (Cond.before_iff.mp (hs _ (List.mem_of_getElem? (i := 2) rfl))))))
  obtain ⟨wvalue_wsymbol_s_INPUT, ev_wvalue_wsymbol_s_INPUT⟩ := arr_v cj4a
  have F_value_wsymbol_s_INPUT : Fld s s.heap wsymbol_s_INPUT "java/lang/String" "value" "[B" (.ref wvalue_wsymbol_s_INPUT) := own_fldV ev_wsymbol_s_INPUT ev_wvalue_wsymbol_s_INPUT
  obtain ⟨cl_wvalue_wsymbol_s_INPUT, Ar_wvalue_wsymbol_s_INPUT⟩ := Arr.start ev_wvalue_wsymbol_s_INPUT cj4a
  have ev_wcoder_wsymbol_s_INPUT := eqv_i rfl cj6a
  have F_coder_wsymbol_s_INPUT : Fld s s.heap wsymbol_s_INPUT "java/lang/String" "coder" "B" (.int (0 : Int32)) := own_fldV ev_wsymbol_s_INPUT ev_wcoder_wsymbol_s_INPUT
  obtain ⟨wvalue_wsymbol_s_APPEND, ev_wvalue_wsymbol_s_APPEND⟩ := arr_v cj12a
  have F_value_wsymbol_s_APPEND : Fld s s.heap wsymbol_s_APPEND "java/lang/String" "value" "[B" (.ref wvalue_wsymbol_s_APPEND) := own_fldV ev_wsymbol_s_APPEND ev_wvalue_wsymbol_s_APPEND
  obtain ⟨cl_wvalue_wsymbol_s_APPEND, Ar_wvalue_wsymbol_s_APPEND⟩ := Arr.start ev_wvalue_wsymbol_s_APPEND cj12a
  have ev_wcoder_wsymbol_s_APPEND := eqv_i rfl cj14a
  have F_coder_wsymbol_s_APPEND : Fld s s.heap wsymbol_s_APPEND "java/lang/String" "coder" "B" (.int (0 : Int32)) := own_fldV ev_wsymbol_s_APPEND ev_wcoder_wsymbol_s_APPEND
  obtain ⟨wvalue_wsymbol_s_OUTPUT, ev_wvalue_wsymbol_s_OUTPUT⟩ := arr_v cj19a
  have F_value_wsymbol_s_OUTPUT : Fld s s.heap wsymbol_s_OUTPUT "java/lang/String" "value" "[B" (.ref wvalue_wsymbol_s_OUTPUT) := own_fldV ev_wsymbol_s_OUTPUT ev_wvalue_wsymbol_s_OUTPUT
  obtain ⟨cl_wvalue_wsymbol_s_OUTPUT, Ar_wvalue_wsymbol_s_OUTPUT⟩ := Arr.start ev_wvalue_wsymbol_s_OUTPUT cj19a
  have ev_wcoder_wsymbol_s_OUTPUT := eqv_i rfl cj21a
  have F_coder_wsymbol_s_OUTPUT : Fld s s.heap wsymbol_s_OUTPUT "java/lang/String" "coder" "B" (.int (0 : Int32)) := own_fldV ev_wsymbol_s_OUTPUT ev_wcoder_wsymbol_s_OUTPUT
  obtain ⟨lb_wvalue_wsymbol_s_INPUT, le_wvalue_wsymbol_s_INPUT⟩ := own_len ev_wvalue_wsymbol_s_INPUT Ar_wvalue_wsymbol_s_INPUT cj5a
  have A_wvalue_wsymbol_s_INPUT : Arv s s.heap wvalue_wsymbol_s_INPUT cl_wvalue_wsymbol_s_INPUT.cls .byte (1 : Int32) [(.int (60 : Int32))] (.int (0 : Int32)) := Arv.start hfit Ar_wvalue_wsymbol_s_INPUT lb_wvalue_wsymbol_s_INPUT le_wvalue_wsymbol_s_INPUT (by decide) (by decide) ⟨own_elI ev_wvalue_wsymbol_s_INPUT Ar_wvalue_wsymbol_s_INPUT (by decide) cj7a, trivial⟩
  obtain ⟨lb_wvalue_wsymbol_s_APPEND, le_wvalue_wsymbol_s_APPEND⟩ := own_len ev_wvalue_wsymbol_s_APPEND Ar_wvalue_wsymbol_s_APPEND cj13a
  have A_wvalue_wsymbol_s_APPEND : Arv s s.heap wvalue_wsymbol_s_APPEND cl_wvalue_wsymbol_s_APPEND.cls .byte (2 : Int32) [(.int (62 : Int32)), (.int (62 : Int32))] (.int (0 : Int32)) := Arv.start hfit Ar_wvalue_wsymbol_s_APPEND lb_wvalue_wsymbol_s_APPEND le_wvalue_wsymbol_s_APPEND (by decide) (by decide) ⟨own_elI ev_wvalue_wsymbol_s_APPEND Ar_wvalue_wsymbol_s_APPEND (by decide) cj15a, own_elI ev_wvalue_wsymbol_s_APPEND Ar_wvalue_wsymbol_s_APPEND (by decide) cj22b, trivial⟩
  obtain ⟨lb_wvalue_wsymbol_s_OUTPUT, le_wvalue_wsymbol_s_OUTPUT⟩ := own_len ev_wvalue_wsymbol_s_OUTPUT Ar_wvalue_wsymbol_s_OUTPUT cj20a
  have A_wvalue_wsymbol_s_OUTPUT : Arv s s.heap wvalue_wsymbol_s_OUTPUT cl_wvalue_wsymbol_s_OUTPUT.cls .byte (1 : Int32) [(.int (62 : Int32))] (.int (0 : Int32)) := Arv.start hfit Ar_wvalue_wsymbol_s_OUTPUT lb_wvalue_wsymbol_s_OUTPUT le_wvalue_wsymbol_s_OUTPUT (by decide) (by decide) ⟨own_elI ev_wvalue_wsymbol_s_OUTPUT Ar_wvalue_wsymbol_s_OUTPUT (by decide) cj22a, trivial⟩
  obtain ⟨n, o, h1, h2, h3, _, L, rfl, ⟨rfl, N⟩, hq⟩ := own_rm18 l s _ hw hs tables_1 i0 s_COMPACT_STRINGS s_INPUT wsymbol_s_INPUT wvalue_wsymbol_s_INPUT cl_wvalue_wsymbol_s_INPUT.cls s_SIOOBE_FORMATTER s_OUTPUT wsymbol_s_OUTPUT wvalue_wsymbol_s_OUTPUT cl_wvalue_wsymbol_s_OUTPUT.cls s_APPEND wsymbol_s_APPEND wvalue_wsymbol_s_APPEND cl_wvalue_wsymbol_s_APPEND.cls s.heap s.heap.size (Nat.le_refl _) S_COMPACT_STRINGS hnz_s_COMPACT_STRINGS S_INPUT E_s_INPUT F_symbol_s_INPUT E_wsymbol_s_INPUT F_value_wsymbol_s_INPUT A_wvalue_wsymbol_s_INPUT F_coder_wsymbol_s_INPUT hr_s_SIOOBE_FORMATTER S_SIOOBE_FORMATTER S_OUTPUT E_s_OUTPUT (Fld.ne F_ordinal_s_OUTPUT F_ordinal_s_INPUT (fun q => absurd (Value.int.inj q) (by decide))) F_symbol_s_OUTPUT E_wsymbol_s_OUTPUT F_value_wsymbol_s_OUTPUT A_wvalue_wsymbol_s_OUTPUT F_coder_wsymbol_s_OUTPUT S_APPEND E_s_APPEND (Fld.ne F_ordinal_s_APPEND F_ordinal_s_INPUT (fun q => absurd (Value.int.inj q) (by decide))) F_symbol_s_APPEND E_wsymbol_s_APPEND F_value_wsymbol_s_APPEND A_wvalue_wsymbol_s_APPEND F_coder_wsymbol_s_APPEND p e ha hc hk s m _ below hf ((Spec.applies_iff_loose hf).mp happ).1 ⟨rfl, State.Warmed39.refl s, rfl⟩ trivial
  refine ⟨n, _, h1, h2, h3, hpost _ _ _ _ _ _ ⟨Cond.after_iff.mpr rfl, Cond.after_iff.mpr (eq_i res_at (Term.int_eval (1)) rfl), trivial⟩ ⟨hq.1, hq.2.1, (hq.2.2.sift fun y hy => Or.inr (N y hy)).mono (by decide) (by decide)⟩⟩
theorem main_1_1 : Claimed_1_1 := comes_1 fun _ _ _ _ _ _ h hF => ⟨h.1, hF⟩
theorem main_1_2 : Claimed_1_2 := comes_1 fun _ _ _ _ _ _ h hF => ⟨h.2.1, hF⟩
end Jvm.Pilot.@@N@@
namespace Jvm.Pilot.@@N@@
open Jvm Jvm.ClassFile Sem Op Lib Jvm.Free Jvm.Stand Jvm.Pilot.@@N@@.Jvm.D
/-! MADE BY PROGRAM (witnessworld.py) out of the Statement's table words and the real class files: 18 classes; the members and pool entries that the words name. The judged class is class 1, her method 2. -/
namespace start1
open Jvm.ClassFile
def u (s : String) : CpInfo := .utf8 (stringToUtf16 s)
/-- a pool by its gaps: so many unusable entries, then the entry; so many at the end -/
def gap : Nat → List CpInfo → List CpInfo
  | 0, r => r
  | n + 1, r => .unusable :: gap n r
def poolList (es : List (Nat × CpInfo)) (last : Nat) : List CpInfo := es.foldr (fun e r => gap e.1 (e.2 :: r)) (gap last [])
def pool (es : List (Nat × CpInfo)) (last : Nat) : Array CpInfo := ⟨poolList es last⟩
def fileOf (pool : Array CpInfo) (this : Nat) (attrs : Array Attribute := #[]) (ms : Array MethodInfo := #[]) (fl : Nat := 33) (sup : Nat := 0) (ifs : Array Nat := #[]) (fds : Array FieldInfo := #[]) : ClassFile where
  minorVersion := 0
  majorVersion := 65
  constantPool := pool
  accessFlags := fl
  thisClass := this
  superClass := sup
  interfaces := ifs
  fields := fds
  methods := ms
  attributes := attrs
def plain (name : String) (sup : Option ClassId) : Class where
  name := name
  kind := .ordinary
  loader := none
  accessFlags := 33
  super := sup
  interfaces := #[]
  cf := none
  fields := #[]
  methods := #[]
  instanceTypes := #[]
  staticTypes := #[]
  resolved := #[]
  callSites := []
  init := .initialized
  statics := none
  mirror := none

def pool0 : Array CpInfo := pool [(5, u "<init>"), (0, u "()V"), (1, .class_ 10), (1, u "java/lang/Object")] 113

def k0m0 : Method := { name := "<init>", desc := "()V", sig := { parameters := [], returnType := none }, accessFlags := 1, code := none }
/-- java/lang/Object -/
def k0 : Class := { plain "java/lang/Object" none with
  accessFlags := 33
  interfaces := #[]
  cf := some (fileOf pool0 8 #[] #[{ accessFlags := 1, nameIndex := 5, descriptorIndex := 6, attributes := #[] }] 33 0 #[] #[])
  fields := #[]
  methods := #[k0m0]
  instanceTypes := #[]
  staticTypes := #[]
  resolved := Array.replicate 124 none
  statics := none }

def pool1 : Array CpInfo := pool [(2, .class_ 4), (1, u "java/lang/Object"), (0, u "<init>"), (0, u "()V"), (0, .fieldref 8 9), (0, .class_ 10), (0, .nameAndType 11 12), (0, u "com/example/nearfield/nearfield/Redirection$Operator"), (0, u "INPUT"), (0, u "Lcom/example/nearfield/nearfield/Redirection$Operator;"), (0, .fieldref 8 14), (0, .nameAndType 15 12), (0, u "OUTPUT"), (0, .fieldref 8 17), (0, .nameAndType 18 12), (0, u "APPEND"), (0, .integer 2147483647), (0, .methodref 21 22), (0, .class_ 23), (0, .nameAndType 24 25), (0, u "com/example/nearfield/nearfield/OperatorWritesPinLaw"), (0, u "pick"), (0, u "(I)Lcom/example/nearfield/nearfield/Redirection$Operator;"), (0, .methodref 8 27), (0, .nameAndType 28 29), (0, u "writes"), (0, u "()Z"), (0, .methodref 8 31), (0, .nameAndType 32 33), (0, u "symbol"), (0, u "()Ljava/lang/String;"), (0, .methodref 35 36), (0, .class_ 37), (0, .nameAndType 38 39), (0, u "java/lang/String"), (0, u "length"), (0, u "()I"), (0, .methodref 35 41), (0, .nameAndType 42 43), (0, u "charAt"), (0, u "(I)C"), (3, u "law"), (0, u "(I)Z")] 6

def k1m0 : Method := { name := "<init>", desc := "()V", sig := { parameters := [], returnType := none }, accessFlags := 1, code := none }
def k1c1 : Code := { maxStack := 2, maxLocals := 1, code := method_2_code, exceptionTable := #[], attributes := #[] }
def k1m1 : Method := { name := "pick", desc := "(I)Lcom/example/nearfield/nearfield/Redirection$Operator;", sig := { parameters := [.int], returnType := some (.object "com/example/nearfield/nearfield/Redirection$Operator") }, accessFlags := 10, code := some k1c1 }
def k1c2 : Code := { maxStack := 2, maxLocals := 7, code := code, exceptionTable := #[], attributes := #[] }
def k1m2 : Method := { name := "law", desc := "(I)Z", sig := { parameters := [.int], returnType := some .boolean }, accessFlags := 9, code := some k1c2 }
/-- com/example/nearfield/nearfield/OperatorWritesPinLaw -/
def k1 : Class := { plain "com/example/nearfield/nearfield/OperatorWritesPinLaw" (some 0) with
  accessFlags := 49
  interfaces := #[]
  cf := some (fileOf pool1 21 #[] #[{ accessFlags := 1, nameIndex := 5, descriptorIndex := 6, attributes := #[] }, { accessFlags := 10, nameIndex := 24, descriptorIndex := 25, attributes := #[] }, { accessFlags := 9, nameIndex := 47, descriptorIndex := 48, attributes := #[] }] 49 2 #[] #[])
  fields := #[]
  methods := #[k1m0, k1m1, k1m2]
  instanceTypes := #[]
  staticTypes := #[]
  resolved := Array.replicate 55 none
  statics := none }

def pool2 : Array CpInfo := pool [(1, .class_ 2), (0, u "java/lang/constant/Constable"), (0, .class_ 4), (0, u "java/lang/Object")] 6

/-- java/lang/constant/Constable -/
def k2 : Class := { plain "java/lang/constant/Constable" (some 0) with
  accessFlags := 1537
  interfaces := #[]
  cf := some (fileOf pool2 1 #[] #[] 1537 3 #[] #[])
  fields := #[]
  methods := #[]
  instanceTypes := #[]
  staticTypes := #[]
  resolved := Array.replicate 11 none
  statics := none }

def pool3 : Array CpInfo := pool [(1, .class_ 2), (0, u "java/lang/Comparable"), (0, .class_ 4), (0, u "java/lang/Object")] 7

/-- java/lang/Comparable -/
def k3 : Class := { plain "java/lang/Comparable" (some 0) with
  accessFlags := 1537
  interfaces := #[]
  cf := some (fileOf pool3 1 #[] #[] 1537 3 #[] #[])
  fields := #[]
  methods := #[]
  instanceTypes := #[]
  staticTypes := #[]
  resolved := Array.replicate 12 none
  statics := none }

def pool4 : Array CpInfo := pool [(1, .class_ 2), (0, u "java/io/Serializable"), (0, .class_ 4), (0, u "java/lang/Object")] 2

/-- java/io/Serializable -/
def k4 : Class := { plain "java/io/Serializable" (some 0) with
  accessFlags := 1537
  interfaces := #[]
  cf := some (fileOf pool4 1 #[] #[] 1537 3 #[] #[])
  fields := #[]
  methods := #[]
  instanceTypes := #[]
  staticTypes := #[]
  resolved := Array.replicate 7 none
  statics := none }

def pool5 : Array CpInfo := pool [(2, .class_ 4), (1, u "java/lang/Enum"), (0, u "name"), (0, u "Ljava/lang/String;"), (2, u "ordinal"), (0, u "I"), (1, .class_ 14), (1, u "java/lang/Object"), (4, u "hash"), (86, .class_ 108), (1, u "java/lang/Enum$EnumDesc"), (2, .class_ 112), (0, u "java/lang/constant/Constable"), (0, .class_ 114), (0, u "java/lang/Comparable"), (0, .class_ 116), (0, u "java/io/Serializable")] 87

/-- java/lang/Enum -/
def k5 : Class := { plain "java/lang/Enum" (some 0) with
  accessFlags := 1057
  interfaces := #[2, 3, 4]
  cf := some (fileOf pool5 2 #[.nestMembers #[106]] #[] 1057 12 #[111, 113, 115] #[{ accessFlags := 18, nameIndex := 5, descriptorIndex := 6, attributes := #[] }, { accessFlags := 18, nameIndex := 9, descriptorIndex := 10, attributes := #[] }, { accessFlags := 2, nameIndex := 19, descriptorIndex := 10, attributes := #[] }])
  fields := #[{ name := "name", type := (.object "java/lang/String"), accessFlags := 18, slot := 0, constantValue := 0 }, { name := "ordinal", type := .int, accessFlags := 18, slot := 1, constantValue := 0 }, { name := "hash", type := .int, accessFlags := 2, slot := 2, constantValue := 0 }]
  methods := #[]
  instanceTypes := #[(.object "java/lang/String"), .int, .int]
  staticTypes := #[]
  resolved := Array.replicate 204 none
  statics := none }

def pool6 : Array CpInfo := pool [(1, .class_ 2), (0, u "com/example/nearfield/nearfield/Redirection$Operator"), (0, .fieldref 1 4), (0, .nameAndType 5 6), (0, u "INPUT"), (0, u "Lcom/example/nearfield/nearfield/Redirection$Operator;"), (2, u "OUTPUT"), (2, u "APPEND"), (2, u "$VALUES"), (0, u "[Lcom/example/nearfield/nearfield/Redirection$Operator;"), (6, .class_ 25), (1, u "java/lang/Enum"), (6, .fieldref 1 33), (0, .nameAndType 34 35), (0, u "symbol"), (0, u "Ljava/lang/String;"), (31, u "()Ljava/lang/String;"), (1, u "()Z"), (1, u "writes"), (7, .class_ 80), (0, u "com/example/nearfield/nearfield/Redirection")] 2

def k6c0 : Code := { maxStack := 1, maxLocals := 1, code := prog_22_method_4_code, exceptionTable := #[], attributes := #[] }
def k6m0 : Method := { name := "symbol", desc := "()Ljava/lang/String;", sig := { parameters := [], returnType := some (.object "java/lang/String") }, accessFlags := 0, code := some k6c0 }
def k6c1 : Code := { maxStack := 2, maxLocals := 1, code := prog_22_method_6_code, exceptionTable := #[], attributes := #[] }
def k6m1 : Method := { name := "writes", desc := "()Z", sig := { parameters := [], returnType := some .boolean }, accessFlags := 0, code := some k6c1 }
/-- com/example/nearfield/nearfield/Redirection$Operator -/
def k6 : Class := { plain "com/example/nearfield/nearfield/Redirection$Operator" (some 5) with
  accessFlags := 16432
  interfaces := #[]
  cf := some (fileOf pool6 1 #[.nestHost 79] #[{ accessFlags := 0, nameIndex := 34, descriptorIndex := 67, attributes := #[] }, { accessFlags := 0, nameIndex := 71, descriptorIndex := 69, attributes := #[] }] 16432 23 #[] #[{ accessFlags := 16409, nameIndex := 5, descriptorIndex := 6, attributes := #[] }, { accessFlags := 16409, nameIndex := 9, descriptorIndex := 6, attributes := #[] }, { accessFlags := 16409, nameIndex := 12, descriptorIndex := 6, attributes := #[] }, { accessFlags := 18, nameIndex := 34, descriptorIndex := 35, attributes := #[] }, { accessFlags := 4122, nameIndex := 15, descriptorIndex := 16, attributes := #[] }])
  fields := #[{ name := "INPUT", type := (.object "com/example/nearfield/nearfield/Redirection$Operator"), accessFlags := 16409, slot := 0, constantValue := 0 }, { name := "OUTPUT", type := (.object "com/example/nearfield/nearfield/Redirection$Operator"), accessFlags := 16409, slot := 1, constantValue := 0 }, { name := "APPEND", type := (.object "com/example/nearfield/nearfield/Redirection$Operator"), accessFlags := 16409, slot := 2, constantValue := 0 }, { name := "symbol", type := (.object "java/lang/String"), accessFlags := 18, slot := 3, constantValue := 0 }, { name := "$VALUES", type := (.array (.object "com/example/nearfield/nearfield/Redirection$Operator")), accessFlags := 4122, slot := 3, constantValue := 0 }]
  methods := #[k6m0, k6m1]
  instanceTypes := #[(.object "java/lang/String"), .int, .int, (.object "java/lang/String")]
  staticTypes := #[(.object "com/example/nearfield/nearfield/Redirection$Operator"), (.object "com/example/nearfield/nearfield/Redirection$Operator"), (.object "com/example/nearfield/nearfield/Redirection$Operator"), (.array (.object "com/example/nearfield/nearfield/Redirection$Operator"))]
  resolved := Array.replicate 83 none
  statics := some 0 }

def pool7 : Array CpInfo := pool [(2, .class_ 4), (1, u "java/lang/CharSequence"), (42, .class_ 48), (0, u "java/lang/CharSequence$1CodePointIterator"), (10, .class_ 60), (0, u "java/lang/CharSequence$1CharIterator"), (5, .class_ 67), (0, u "java/lang/Object")] 63

/-- java/lang/CharSequence -/
def k7 : Class := { plain "java/lang/CharSequence" (some 0) with
  accessFlags := 1537
  interfaces := #[]
  cf := some (fileOf pool7 2 #[.nestMembers #[47, 59]] #[] 1537 66 #[] #[])
  fields := #[]
  methods := #[]
  instanceTypes := #[]
  staticTypes := #[]
  resolved := Array.replicate 131 none
  statics := none }

def pool8 : Array CpInfo := pool [(1, .class_ 2), (0, u "java/lang/constant/ConstantDesc"), (0, .class_ 4), (0, u "java/lang/Object")] 32

/-- java/lang/constant/ConstantDesc -/
def k8 : Class := { plain "java/lang/constant/ConstantDesc" (some 0) with
  accessFlags := 1537
  interfaces := #[]
  cf := some (fileOf pool8 1 #[] #[] 1537 3 #[] #[])
  fields := #[]
  methods := #[]
  instanceTypes := #[]
  staticTypes := #[]
  resolved := Array.replicate 37 none
  statics := none }

def pool9 : Array CpInfo := pool [(2, .class_ 4), (1, u "java/lang/Object"), (0, u "<init>"), (0, u "()V"), (2, .fieldref 10 11), (0, .class_ 12), (0, .nameAndType 13 14), (0, u "java/lang/String"), (0, u "value"), (0, u "[B"), (0, .fieldref 10 16), (0, .nameAndType 17 18), (0, u "coder"), (0, u "B"), (2, u "hash"), (0, u "I"), (2, u "hashIsZero"), (0, u "Z"), (11, .fieldref 10 39), (0, .nameAndType 40 26), (0, u "COMPACT_STRINGS"), (66, .class_ 109), (1, u "java/lang/StringLatin1"), (32, u "()Z"), (191, u "()I"), (0, .methodref 10 336), (0, .nameAndType 17 337), (0, u "()B"), (25, u "([BI)C"), (27, u "(II)V"), (35, u "(I)C"), (64, .methodref 10 493), (0, .nameAndType 494 142), (0, u "isLatin1"), (0, .methodref 107 496), (0, .nameAndType 497 363), (0, u "charAt"), (3, u "checkIndex"), (5, u "length"), (67, .class_ 576), (0, u "java/lang/CharSequence"), (22, u "CASE_INSENSITIVE_ORDER"), (0, u "Ljava/util/Comparator;"), (452, .fieldref 1054 1055), (0, .class_ 1056), (0, .nameAndType 1057 1058), (0, u "jdk/internal/util/Preconditions"), (0, u "SIOOBE_FORMATTER"), (0, u "Ljava/util/function/BiFunction;"), (0, .methodref 1054 1060), (0, .nameAndType 501 1061), (0, u "(IILjava/util/function/BiFunction;)I"), (39, u "serialPersistentFields"), (0, u "[Ljava/io/ObjectStreamField;"), (0, .class_ 1104), (0, u "java/lang/String$CaseInsensitiveComparator"), (1, .class_ 1107), (0, u "java/io/Serializable"), (0, .class_ 1109), (0, u "java/lang/Comparable"), (0, .class_ 1111), (0, u "java/lang/constant/Constable"), (0, .class_ 1113), (0, u "java/lang/constant/ConstantDesc"), (2, u "serialVersionUID"), (0, u "J"), (3, u "REPL"), (0, u "C"), (2, u "LATIN1"), (1, u "UTF16")] 323

def k9m0 : Method := { name := "<init>", desc := "()V", sig := { parameters := [], returnType := none }, accessFlags := 1, code := none }
def k9c1 : Code := { maxStack := 2, maxLocals := 1, code := jdk_42_method_54_code, exceptionTable := #[], attributes := #[] }
def k9m1 : Method := { name := "length", desc := "()I", sig := { parameters := [], returnType := some .int }, accessFlags := 1, code := some k9c1 }
def k9c2 : Code := { maxStack := 2, maxLocals := 2, code := jdk_42_method_56_code, exceptionTable := #[], attributes := #[] }
def k9m2 : Method := { name := "charAt", desc := "(I)C", sig := { parameters := [.int], returnType := some .char }, accessFlags := 1, code := some k9c2 }
def k9c3 : Code := { maxStack := 1, maxLocals := 1, code := jdk_42_method_152_code, exceptionTable := #[], attributes := #[] }
def k9m3 : Method := { name := "coder", desc := "()B", sig := { parameters := [], returnType := some .byte }, accessFlags := 0, code := some k9c3 }
def k9c4 : Code := { maxStack := 1, maxLocals := 1, code := jdk_42_method_154_code, exceptionTable := #[], attributes := #[] }
def k9m4 : Method := { name := "isLatin1", desc := "()Z", sig := { parameters := [], returnType := some .boolean }, accessFlags := 0, code := some k9c4 }
def k9c5 : Code := { maxStack := 3, maxLocals := 2, code := jdk_42_method_155_code, exceptionTable := #[], attributes := #[] }
def k9m5 : Method := { name := "checkIndex", desc := "(II)V", sig := { parameters := [.int, .int], returnType := none }, accessFlags := 8, code := some k9c5 }
/-- java/lang/String -/
def k9 : Class := { plain "java/lang/String" (some 0) with
  accessFlags := 49
  interfaces := #[4, 3, 7, 2, 8]
  cf := some (fileOf pool9 10 #[.nestMembers #[1103]] #[{ accessFlags := 1, nameIndex := 5, descriptorIndex := 6, attributes := #[] }, { accessFlags := 1, nameIndex := 507, descriptorIndex := 334, attributes := #[] }, { accessFlags := 1, nameIndex := 497, descriptorIndex := 427, attributes := #[] }, { accessFlags := 0, nameIndex := 17, descriptorIndex := 337, attributes := #[] }, { accessFlags := 0, nameIndex := 494, descriptorIndex := 142, attributes := #[] }, { accessFlags := 8, nameIndex := 501, descriptorIndex := 391, attributes := #[] }] 49 2 #[1106, 1108, 575, 1110, 1112] #[{ accessFlags := 18, nameIndex := 13, descriptorIndex := 14, attributes := #[] }, { accessFlags := 18, nameIndex := 17, descriptorIndex := 18, attributes := #[] }, { accessFlags := 2, nameIndex := 21, descriptorIndex := 22, attributes := #[] }, { accessFlags := 2, nameIndex := 25, descriptorIndex := 26, attributes := #[] }, { accessFlags := 26, nameIndex := 1116, descriptorIndex := 1117, attributes := #[] }, { accessFlags := 24, nameIndex := 40, descriptorIndex := 26, attributes := #[] }, { accessFlags := 26, nameIndex := 1101, descriptorIndex := 1102, attributes := #[] }, { accessFlags := 26, nameIndex := 1121, descriptorIndex := 1122, attributes := #[] }, { accessFlags := 25, nameIndex := 599, descriptorIndex := 600, attributes := #[] }, { accessFlags := 24, nameIndex := 1125, descriptorIndex := 18, attributes := #[] }, { accessFlags := 24, nameIndex := 1127, descriptorIndex := 18, attributes := #[] }])
  fields := #[{ name := "value", type := (.array .byte), accessFlags := 18, slot := 0, constantValue := 0 }, { name := "coder", type := .byte, accessFlags := 18, slot := 1, constantValue := 0 }, { name := "hash", type := .int, accessFlags := 2, slot := 2, constantValue := 0 }, { name := "hashIsZero", type := .boolean, accessFlags := 2, slot := 3, constantValue := 0 }, { name := "serialVersionUID", type := .long, accessFlags := 26, slot := 0, constantValue := 0 }, { name := "COMPACT_STRINGS", type := .boolean, accessFlags := 24, slot := 1, constantValue := 0 }, { name := "serialPersistentFields", type := (.array (.object "java/io/ObjectStreamField")), accessFlags := 26, slot := 2, constantValue := 0 }, { name := "REPL", type := .char, accessFlags := 26, slot := 3, constantValue := 0 }, { name := "CASE_INSENSITIVE_ORDER", type := (.object "java/util/Comparator"), accessFlags := 25, slot := 4, constantValue := 0 }, { name := "LATIN1", type := .byte, accessFlags := 24, slot := 5, constantValue := 0 }, { name := "UTF16", type := .byte, accessFlags := 24, slot := 6, constantValue := 0 }]
  methods := #[k9m0, k9m1, k9m2, k9m3, k9m4, k9m5]
  instanceTypes := #[(.array .byte), .byte, .int, .boolean]
  staticTypes := #[.long, .boolean, (.array (.object "java/io/ObjectStreamField")), .char, (.object "java/util/Comparator"), .byte, .byte]
  resolved := Array.replicate 1451 none
  statics := some 1 }

def pool10 : Array CpInfo := pool [(1, .class_ 2), (0, u "java/lang/String"), (1, .class_ 6), (1, u "java/lang/Object"), (0, u "<init>"), (0, u "()V"), (0, .methodref 1 10), (0, .nameAndType 11 12), (0, u "checkIndex"), (0, u "(II)V"), (1, .class_ 16), (1, u "java/lang/StringLatin1"), (36, u "([BI)C"), (67, u "$assertionsDisabled"), (0, u "Z"), (98, .class_ 223), (1, u "java/lang/StringLatin1$LinesSpliterator"), (28, u "charAt"), (137, .class_ 391), (0, u "java/lang/StringLatin1$CharsSpliterator")] 3

def k10m0 : Method := { name := "<init>", desc := "()V", sig := { parameters := [], returnType := none }, accessFlags := 0, code := none }
def k10c1 : Code := { maxStack := 2, maxLocals := 2, code := jdk_43_method_2_code, exceptionTable := #[], attributes := #[] }
def k10m1 : Method := { name := "charAt", desc := "([BI)C", sig := { parameters := [(.array .byte), .int], returnType := some .char }, accessFlags := 9, code := some k10c1 }
/-- java/lang/StringLatin1 -/
def k10 : Class := { plain "java/lang/StringLatin1" (some 0) with
  accessFlags := 48
  interfaces := #[]
  cf := some (fileOf pool10 14 #[.nestMembers #[390, 221]] #[{ accessFlags := 0, nameIndex := 7, descriptorIndex := 8, attributes := #[] }, { accessFlags := 9, nameIndex := 252, descriptorIndex := 53, attributes := #[] }] 48 4 #[] #[{ accessFlags := 4120, nameIndex := 121, descriptorIndex := 122, attributes := #[] }])
  fields := #[{ name := "$assertionsDisabled", type := .boolean, accessFlags := 4120, slot := 0, constantValue := 0 }]
  methods := #[k10m0, k10m1]
  instanceTypes := #[]
  staticTypes := #[.boolean]
  resolved := Array.replicate 395 none
  statics := none }

def pool11 : Array CpInfo := pool [(2, .class_ 4), (1, u "java/lang/Object"), (0, u "<init>"), (0, u "()V"), (17, .class_ 26), (1, u "jdk/internal/util/Preconditions"), (6, u "checkIndex"), (21, .class_ 56), (0, u "jdk/internal/util/Preconditions$4"), (57, .class_ 115), (0, u "jdk/internal/util/Preconditions$1"), (7, u "SIOOBE_FORMATTER"), (0, u "Ljava/util/function/BiFunction;"), (0, .class_ 126), (0, u "jdk/internal/util/Preconditions$2"), (3, u "AIOOBE_FORMATTER"), (0, .class_ 132), (0, u "jdk/internal/util/Preconditions$3"), (3, u "IOOBE_FORMATTER"), (41, u "(IILjava/util/function/BiFunction;)I")] 15

def k11m0 : Method := { name := "<init>", desc := "()V", sig := { parameters := [], returnType := none }, accessFlags := 1, code := none }
def k11c1 : Code := { maxStack := 3, maxLocals := 3, code := jdk_41_method_11_code, exceptionTable := #[], attributes := #[] }
def k11m1 : Method := { name := "checkIndex", desc := "(IILjava/util/function/BiFunction;)I", sig := { parameters := [.int, .int, (.object "java/util/function/BiFunction")], returnType := some .int }, accessFlags := 9, code := some k11c1 }
/-- jdk/internal/util/Preconditions -/
def k11 : Class := { plain "jdk/internal/util/Preconditions" (some 0) with
  accessFlags := 33
  interfaces := #[]
  cf := some (fileOf pool11 24 #[.nestMembers #[55, 131, 125, 114]] #[{ accessFlags := 1, nameIndex := 5, descriptorIndex := 6, attributes := #[] }, { accessFlags := 9, nameIndex := 33, descriptorIndex := 178, attributes := #[] }] 33 2 #[] #[{ accessFlags := 25, nameIndex := 123, descriptorIndex := 124, attributes := #[] }, { accessFlags := 25, nameIndex := 130, descriptorIndex := 124, attributes := #[] }, { accessFlags := 25, nameIndex := 136, descriptorIndex := 124, attributes := #[] }])
  fields := #[{ name := "SIOOBE_FORMATTER", type := (.object "java/util/function/BiFunction"), accessFlags := 25, slot := 0, constantValue := 0 }, { name := "AIOOBE_FORMATTER", type := (.object "java/util/function/BiFunction"), accessFlags := 25, slot := 1, constantValue := 0 }, { name := "IOOBE_FORMATTER", type := (.object "java/util/function/BiFunction"), accessFlags := 25, slot := 2, constantValue := 0 }]
  methods := #[k11m0, k11m1]
  instanceTypes := #[]
  staticTypes := #[(.object "java/util/function/BiFunction"), (.object "java/util/function/BiFunction"), (.object "java/util/function/BiFunction")]
  resolved := Array.replicate 194 none
  statics := some 2 }

def pool12 : Array CpInfo := pool [(9, u "<init>"), (6, .class_ 18), (1, u "java/lang/Object"), (0, u "()V"), (1, .class_ 23), (1, u "jdk/internal/util/ArraysSupport"), (0, u "LOG2_ARRAY_LONG_INDEX_SCALE"), (0, u "I"), (2, u "U"), (0, u "Ljdk/internal/misc/Unsafe;"), (8, u "BIG_ENDIAN"), (0, u "Z"), (8, u "LOG2_BYTE_BIT_SIZE"), (4, u "LOG2_ARRAY_INT_INDEX_SCALE"), (54, u "JLA"), (0, u "Ljdk/internal/access/JavaLangAccess;"), (11, u "LOG2_ARRAY_BOOLEAN_INDEX_SCALE"), (9, u "LOG2_ARRAY_BYTE_INDEX_SCALE"), (5, u "LOG2_ARRAY_CHAR_INDEX_SCALE"), (5, u "LOG2_ARRAY_SHORT_INDEX_SCALE"), (18, u "LOG2_ARRAY_FLOAT_INDEX_SCALE"), (24, u "LOG2_ARRAY_DOUBLE_INDEX_SCALE"), (89, u "T_BOOLEAN"), (2, u "T_CHAR"), (1, u "T_FLOAT"), (1, u "T_DOUBLE"), (1, u "T_BYTE"), (1, u "T_SHORT"), (1, u "T_INT"), (1, u "T_LONG"), (1, u "SOFT_MAX_ARRAY_LENGTH")] 83

def k12m0 : Method := { name := "<init>", desc := "()V", sig := { parameters := [], returnType := none }, accessFlags := 2, code := none }
/-- jdk/internal/util/ArraysSupport -/
def k12 : Class := { plain "jdk/internal/util/ArraysSupport" (some 0) with
  accessFlags := 33
  interfaces := #[]
  cf := some (fileOf pool12 21 #[] #[{ accessFlags := 2, nameIndex := 9, descriptorIndex := 19, attributes := #[] }] 33 16 #[] #[{ accessFlags := 24, nameIndex := 28, descriptorIndex := 29, attributes := #[] }, { accessFlags := 26, nameIndex := 38, descriptorIndex := 39, attributes := #[] }, { accessFlags := 25, nameIndex := 121, descriptorIndex := 25, attributes := #[] }, { accessFlags := 25, nameIndex := 131, descriptorIndex := 25, attributes := #[] }, { accessFlags := 25, nameIndex := 137, descriptorIndex := 25, attributes := #[] }, { accessFlags := 25, nameIndex := 143, descriptorIndex := 25, attributes := #[] }, { accessFlags := 25, nameIndex := 53, descriptorIndex := 25, attributes := #[] }, { accessFlags := 25, nameIndex := 24, descriptorIndex := 25, attributes := #[] }, { accessFlags := 25, nameIndex := 162, descriptorIndex := 25, attributes := #[] }, { accessFlags := 25, nameIndex := 187, descriptorIndex := 25, attributes := #[] }, { accessFlags := 26, nameIndex := 48, descriptorIndex := 25, attributes := #[] }, { accessFlags := 25, nameIndex := 277, descriptorIndex := 25, attributes := #[] }, { accessFlags := 25, nameIndex := 280, descriptorIndex := 25, attributes := #[] }, { accessFlags := 25, nameIndex := 282, descriptorIndex := 25, attributes := #[] }, { accessFlags := 25, nameIndex := 284, descriptorIndex := 25, attributes := #[] }, { accessFlags := 25, nameIndex := 286, descriptorIndex := 25, attributes := #[] }, { accessFlags := 25, nameIndex := 288, descriptorIndex := 25, attributes := #[] }, { accessFlags := 25, nameIndex := 290, descriptorIndex := 25, attributes := #[] }, { accessFlags := 25, nameIndex := 292, descriptorIndex := 25, attributes := #[] }, { accessFlags := 26, nameIndex := 108, descriptorIndex := 109, attributes := #[] }, { accessFlags := 25, nameIndex := 294, descriptorIndex := 25, attributes := #[] }])
  fields := #[{ name := "U", type := (.object "jdk/internal/misc/Unsafe"), accessFlags := 24, slot := 0, constantValue := 0 }, { name := "BIG_ENDIAN", type := .boolean, accessFlags := 26, slot := 1, constantValue := 0 }, { name := "LOG2_ARRAY_BOOLEAN_INDEX_SCALE", type := .int, accessFlags := 25, slot := 2, constantValue := 0 }, { name := "LOG2_ARRAY_BYTE_INDEX_SCALE", type := .int, accessFlags := 25, slot := 3, constantValue := 0 }, { name := "LOG2_ARRAY_CHAR_INDEX_SCALE", type := .int, accessFlags := 25, slot := 4, constantValue := 0 }, { name := "LOG2_ARRAY_SHORT_INDEX_SCALE", type := .int, accessFlags := 25, slot := 5, constantValue := 0 }, { name := "LOG2_ARRAY_INT_INDEX_SCALE", type := .int, accessFlags := 25, slot := 6, constantValue := 0 }, { name := "LOG2_ARRAY_LONG_INDEX_SCALE", type := .int, accessFlags := 25, slot := 7, constantValue := 0 }, { name := "LOG2_ARRAY_FLOAT_INDEX_SCALE", type := .int, accessFlags := 25, slot := 8, constantValue := 0 }, { name := "LOG2_ARRAY_DOUBLE_INDEX_SCALE", type := .int, accessFlags := 25, slot := 9, constantValue := 0 }, { name := "LOG2_BYTE_BIT_SIZE", type := .int, accessFlags := 26, slot := 10, constantValue := 0 }, { name := "T_BOOLEAN", type := .int, accessFlags := 25, slot := 11, constantValue := 0 }, { name := "T_CHAR", type := .int, accessFlags := 25, slot := 12, constantValue := 0 }, { name := "T_FLOAT", type := .int, accessFlags := 25, slot := 13, constantValue := 0 }, { name := "T_DOUBLE", type := .int, accessFlags := 25, slot := 14, constantValue := 0 }, { name := "T_BYTE", type := .int, accessFlags := 25, slot := 15, constantValue := 0 }, { name := "T_SHORT", type := .int, accessFlags := 25, slot := 16, constantValue := 0 }, { name := "T_INT", type := .int, accessFlags := 25, slot := 17, constantValue := 0 }, { name := "T_LONG", type := .int, accessFlags := 25, slot := 18, constantValue := 0 }, { name := "JLA", type := (.object "jdk/internal/access/JavaLangAccess"), accessFlags := 26, slot := 19, constantValue := 0 }, { name := "SOFT_MAX_ARRAY_LENGTH", type := .int, accessFlags := 25, slot := 20, constantValue := 0 }]
  methods := #[k12m0]
  instanceTypes := #[]
  staticTypes := #[(.object "jdk/internal/misc/Unsafe"), .boolean, .int, .int, .int, .int, .int, .int, .int, .int, .int, .int, .int, .int, .int, .int, .int, .int, .int, (.object "jdk/internal/access/JavaLangAccess"), .int]
  resolved := Array.replicate 378 none
  statics := none }

def pool13 : Array CpInfo := pool [(1, u "java/lang/Cloneable"), (0, .class_ 1), (0, u "java/lang/Object"), (0, .class_ 3)] 3

/-- java/lang/Cloneable -/
def k13 : Class := { plain "java/lang/Cloneable" (some 0) with
  accessFlags := 1537
  interfaces := #[]
  cf := some (fileOf pool13 2 #[] #[] 1537 4 #[] #[])
  fields := #[]
  methods := #[]
  instanceTypes := #[]
  staticTypes := #[]
  resolved := Array.replicate 8 none
  statics := none }

/-- the primitive byte -/
def k14 : Class := { plain "byte" none with kind := .primitive 'B', accessFlags := 0x411 }
/-- [B -/
def k15 : Class := { plain "[B" (some 0) with kind := .array 14 .byte, interfaces := #[13, 4], accessFlags := 1041 }

/-- the primitive int -/
def k16 : Class := { plain "int" none with kind := .primitive 'I', accessFlags := 0x411 }
/-- [I -/
def k17 : Class := { plain "[I" (some 0) with kind := .array 16 .int, interfaces := #[13, 4], accessFlags := 1041 }

def heap : Heap := #[{ cls := 6, slots := #[.ref 3, .ref 9, .ref 6, .null], vm := .statics 6 },
  { cls := 9, slots := #[.long 0, .int 1, .null, .int 0, .null, .int 0, .int 0], vm := .statics 9 },
  { cls := 11, slots := #[.null, .null, .null], vm := .statics 11 },
  { cls := 6, slots := #[.null, .int 0, .int 0, .ref 4], vm := .none },
  { cls := 9, slots := #[.ref 5, .int 0, .int 0, .int 0], vm := .none },
  { cls := 15, slots := #[.int 60], vm := .none },
  { cls := 6, slots := #[.null, .int 2, .int 0, .ref 7], vm := .none },
  { cls := 9, slots := #[.ref 8, .int 0, .int 0, .int 0], vm := .none },
  { cls := 15, slots := #[.int 62, .int 62], vm := .none },
  { cls := 6, slots := #[.null, .int 1, .int 0, .ref 10], vm := .none },
  { cls := 9, slots := #[.ref 11, .int 0, .int 0, .int 0], vm := .none },
  { cls := 15, slots := #[.int 62], vm := .none }]
def classes : Array Class := #[k0, k1, k2, k3, k4, k5, k6, k7, k8, k9, k10, k11, k12, k13, k14, k15, k16, k17]
def interned : List (Array UInt16 × Addr) := []
def slotsUsed : Nat := 42
def theMethod : MethodId := ⟨1, 2⟩
def args0 : Array Value := #[.int 1]
def aboutOver (below : List Frame) : State where
  vm := { classes := classes, interned := interned.toArray }
  heap := heap
  slotsUsed := slotsUsed
  threads := #[{ frames := .invoking theMethod args0 :: below }]
def below0 : List Frame := [.native { method := ⟨0, 0⟩, args := #[] }]
def about1 : State := aboutOver below0
def p0 : Program := .bare "" "" ""
def e0 : Env := launch0.env 0 0 0
theorem w_frames : about1.frames = Frame.invoking theMethod args0 :: below0 := rfl
set_option maxRecDepth 65536 in
theorem w_args : argsFit about1.vm theMethod args0 = true := by decide +kernel
set_option maxRecDepth 65536 in
theorem w_heap : heapFits about1 = true := by decide +kernel
set_option maxRecDepth 65536 in
theorem w_runnable : about1.curStatus? = some .runnable := by decide +kernel
set_option maxRecDepth 65536 in
theorem w_alone : about1.alone = true := by decide +kernel
set_option maxRecDepth 65536 in
theorem w_named : about1.methodNamed? x = some theMethod := by decide +kernel
set_option maxRecDepth 65536 in
theorem w_hears : about1.hears theMethod below0 = true := by decide +kernel
set_option maxRecDepth 65536 in
theorem w_ripe : about1.ripe theMethod args0 below0 = true := by decide +kernel
theorem w_running : about1.status = .running := rfl
set_option maxRecDepth 65536 in
theorem w_room : about1.hasRoom e0.platform room_1 = true :=
  launch0.hasRoom_least _ room_1 (by decide +kernel) (by decide +kernel) (by decide +kernel) (by decide +kernel) (by decide +kernel) (by decide +kernel)
theorem allAtoms_all (ts : List Jvm.Cond) (a : Array Jvm.Value) (st : Jvm.State) : (allAtoms ts).before a st = ts.all (fun c => c.before a st) := by
  induction ts with
  | nil => rfl
  | cons c t ih =>
    show (Jvm.Cond.and c (allAtoms t)).before a st = _
    rw [Jvm.Cond.before_and, ih, List.all_cons]
def words1 : List Jvm.Cond := Jvm.Cond.code x code maxLocals ret :: tables_1
/-- a 'code' word, met by the world's own term for the bytes: nothing is compared byte by byte -/
theorem code_word {y : MethodName} {bytes : ByteArray} {mx : Nat} {rt : Option FieldType} {a : Array Value} {s : State} {m : MethodId} {meth : Method} {c : Code} (h1 : s.methodNamed? y = some m) (h2 : s.vm.method? m = some meth) (h3 : meth.code = some c) (h4 : c.code = bytes)
    (h5 : (c.maxLocals == mx && c.exceptionTable.isEmpty && decide (c.maxStack ≤ mostOperands) && decide (meth.sig.returnType = rt) && !meth.locks && decide (parseMethodDescriptor y.desc = some meth.sig)) = true) : (Jvm.Cond.code y bytes mx rt).before a s = true := by
  simp only [Bool.and_eq_true, beq_iff_eq, Bool.not_eq_true', decide_eq_true_eq] at h5
  obtain ⟨⟨⟨⟨⟨g1, g2⟩, g3⟩, g4⟩, g5⟩, g6⟩ := h5
  simp [Cond.before, Cond.holds, Cond.value, h1, h2, h3, h4, g1, g2, g3, g4, g5, g6]
def isCode : Jvm.Cond → Bool
  | .code _ _ _ _ => true
  | _ => false
theorem all_split {L : List Jvm.Cond} {P : Jvm.Cond → Bool} (h1 : L.all (fun c => isCode c || P c) = true) (h2 : ∀ c ∈ L.filter isCode, P c = true) : L.all P = true := by
  refine List.all_eq_true.mpr fun c hc => ?_
  have h := List.all_eq_true.mp h1 c hc
  rcases Bool.eq_false_or_eq_true (isCode c) with hi | hi
  · exact h2 c (List.mem_filter.mpr ⟨hc, hi⟩)
  · simpa [hi] using h
set_option maxRecDepth 65536 in
theorem w_c0 : (Jvm.Cond.code x code maxLocals ret).before args0 about1 = true := code_word (m := ⟨1, 2⟩) (meth := k1m2) (c := k1c2) (by decide +kernel) rfl rfl rfl (by decide +kernel)
set_option maxRecDepth 65536 in
theorem w_c1 : (Jvm.Cond.code ({ cls := "com/example/nearfield/nearfield/OperatorWritesPinLaw", name := "pick", desc := "(I)Lcom/example/nearfield/nearfield/Redirection$Operator;" } : Jvm.MethodName) method_2_code (1 : Nat) (Option.some (Jvm.ClassFile.FieldType.object "com/example/nearfield/nearfield/Redirection$Operator"))).before args0 about1 = true := code_word (m := ⟨1, 1⟩) (meth := k1m1) (c := k1c1) (by decide +kernel) rfl rfl rfl (by decide +kernel)
set_option maxRecDepth 65536 in
theorem w_c2 : (Jvm.Cond.code ({ cls := "com/example/nearfield/nearfield/Redirection$Operator", name := "writes", desc := "()Z" } : Jvm.MethodName) prog_22_method_6_code (1 : Nat) (Option.some Jvm.ClassFile.FieldType.boolean)).before args0 about1 = true := code_word (m := ⟨6, 1⟩) (meth := k6m1) (c := k6c1) (by decide +kernel) rfl rfl rfl (by decide +kernel)
set_option maxRecDepth 65536 in
theorem w_c3 : (Jvm.Cond.code ({ cls := "com/example/nearfield/nearfield/Redirection$Operator", name := "symbol", desc := "()Ljava/lang/String;" } : Jvm.MethodName) prog_22_method_4_code (1 : Nat) (Option.some (Jvm.ClassFile.FieldType.object "java/lang/String"))).before args0 about1 = true := code_word (m := ⟨6, 0⟩) (meth := k6m0) (c := k6c0) (by decide +kernel) rfl rfl rfl (by decide +kernel)
set_option maxRecDepth 65536 in
theorem w_c4 : (Jvm.Cond.code ({ cls := "java/lang/String", name := "length", desc := "()I" } : Jvm.MethodName) jdk_42_method_54_code (1 : Nat) (Option.some Jvm.ClassFile.FieldType.int)).before args0 about1 = true := code_word (m := ⟨9, 1⟩) (meth := k9m1) (c := k9c1) (by decide +kernel) rfl rfl rfl (by decide +kernel)
set_option maxRecDepth 65536 in
theorem w_c5 : (Jvm.Cond.code ({ cls := "java/lang/String", name := "coder", desc := "()B" } : Jvm.MethodName) jdk_42_method_152_code (1 : Nat) (Option.some Jvm.ClassFile.FieldType.byte)).before args0 about1 = true := code_word (m := ⟨9, 3⟩) (meth := k9m3) (c := k9c3) (by decide +kernel) rfl rfl rfl (by decide +kernel)
set_option maxRecDepth 65536 in
theorem w_c6 : (Jvm.Cond.code ({ cls := "java/lang/String", name := "charAt", desc := "(I)C" } : Jvm.MethodName) jdk_42_method_56_code (2 : Nat) (Option.some Jvm.ClassFile.FieldType.char)).before args0 about1 = true := code_word (m := ⟨9, 2⟩) (meth := k9m2) (c := k9c2) (by decide +kernel) rfl rfl rfl (by decide +kernel)
set_option maxRecDepth 65536 in
theorem w_c7 : (Jvm.Cond.code ({ cls := "java/lang/String", name := "isLatin1", desc := "()Z" } : Jvm.MethodName) jdk_42_method_154_code (1 : Nat) (Option.some Jvm.ClassFile.FieldType.boolean)).before args0 about1 = true := code_word (m := ⟨9, 4⟩) (meth := k9m4) (c := k9c4) (by decide +kernel) rfl rfl rfl (by decide +kernel)
set_option maxRecDepth 65536 in
theorem w_c8 : (Jvm.Cond.code ({ cls := "java/lang/StringLatin1", name := "charAt", desc := "([BI)C" } : Jvm.MethodName) jdk_43_method_2_code (2 : Nat) (Option.some Jvm.ClassFile.FieldType.char)).before args0 about1 = true := code_word (m := ⟨10, 1⟩) (meth := k10m1) (c := k10c1) (by decide +kernel) rfl rfl rfl (by decide +kernel)
set_option maxRecDepth 65536 in
theorem w_c9 : (Jvm.Cond.code ({ cls := "java/lang/String", name := "checkIndex", desc := "(II)V" } : Jvm.MethodName) jdk_42_method_155_code (2 : Nat) (Option.none : Option Jvm.ClassFile.FieldType)).before args0 about1 = true := code_word (m := ⟨9, 5⟩) (meth := k9m5) (c := k9c5) (by decide +kernel) rfl rfl rfl (by decide +kernel)
set_option maxRecDepth 65536 in
theorem w_c10 : (Jvm.Cond.code ({ cls := "jdk/internal/util/Preconditions", name := "checkIndex", desc := "(IILjava/util/function/BiFunction;)I" } : Jvm.MethodName) jdk_41_method_11_code (3 : Nat) (Option.some Jvm.ClassFile.FieldType.int)).before args0 about1 = true := code_word (m := ⟨11, 1⟩) (meth := k11m1) (c := k11c1) (by decide +kernel) rfl rfl rfl (by decide +kernel)
def codes1 : List Jvm.Cond := [Jvm.Cond.code x code maxLocals ret, Jvm.Cond.code ({ cls := "com/example/nearfield/nearfield/OperatorWritesPinLaw", name := "pick", desc := "(I)Lcom/example/nearfield/nearfield/Redirection$Operator;" } : Jvm.MethodName) method_2_code (1 : Nat) (Option.some (Jvm.ClassFile.FieldType.object "com/example/nearfield/nearfield/Redirection$Operator")), Jvm.Cond.code ({ cls := "com/example/nearfield/nearfield/Redirection$Operator", name := "writes", desc := "()Z" } : Jvm.MethodName) prog_22_method_6_code (1 : Nat) (Option.some Jvm.ClassFile.FieldType.boolean), Jvm.Cond.code ({ cls := "com/example/nearfield/nearfield/Redirection$Operator", name := "symbol", desc := "()Ljava/lang/String;" } : Jvm.MethodName) prog_22_method_4_code (1 : Nat) (Option.some (Jvm.ClassFile.FieldType.object "java/lang/String")), Jvm.Cond.code ({ cls := "java/lang/String", name := "length", desc := "()I" } : Jvm.MethodName) jdk_42_method_54_code (1 : Nat) (Option.some Jvm.ClassFile.FieldType.int), Jvm.Cond.code ({ cls := "java/lang/String", name := "coder", desc := "()B" } : Jvm.MethodName) jdk_42_method_152_code (1 : Nat) (Option.some Jvm.ClassFile.FieldType.byte), Jvm.Cond.code ({ cls := "java/lang/String", name := "charAt", desc := "(I)C" } : Jvm.MethodName) jdk_42_method_56_code (2 : Nat) (Option.some Jvm.ClassFile.FieldType.char), Jvm.Cond.code ({ cls := "java/lang/String", name := "isLatin1", desc := "()Z" } : Jvm.MethodName) jdk_42_method_154_code (1 : Nat) (Option.some Jvm.ClassFile.FieldType.boolean), Jvm.Cond.code ({ cls := "java/lang/StringLatin1", name := "charAt", desc := "([BI)C" } : Jvm.MethodName) jdk_43_method_2_code (2 : Nat) (Option.some Jvm.ClassFile.FieldType.char), Jvm.Cond.code ({ cls := "java/lang/String", name := "checkIndex", desc := "(II)V" } : Jvm.MethodName) jdk_42_method_155_code (2 : Nat) (Option.none : Option Jvm.ClassFile.FieldType), Jvm.Cond.code ({ cls := "jdk/internal/util/Preconditions", name := "checkIndex", desc := "(IILjava/util/function/BiFunction;)I" } : Jvm.MethodName) jdk_41_method_11_code (3 : Nat) (Option.some Jvm.ClassFile.FieldType.int)]
set_option maxRecDepth 65536 in
theorem codes_eq : words1.filter isCode = codes1 := rfl
theorem w_codes : ∀ c ∈ words1.filter isCode, c.before args0 about1 = true := by
  rw [codes_eq]
  intro c hc
  simp only [codes1, List.mem_cons, List.not_mem_nil, or_false] at hc
  rcases hc with rfl | rfl | rfl | rfl | rfl | rfl | rfl | rfl | rfl | rfl | rfl
  · exact w_c0
  · exact w_c1
  · exact w_c2
  · exact w_c3
  · exact w_c4
  · exact w_c5
  · exact w_c6
  · exact w_c7
  · exact w_c8
  · exact w_c9
  · exact w_c10
set_option maxRecDepth 65536 in
theorem w_t1 : (words1.take 24).all (fun c => isCode c || c.before args0 about1) = true := by decide +kernel
set_option maxRecDepth 65536 in
theorem w_t2 : ((words1.drop 24).take 24).all (fun c => isCode c || c.before args0 about1) = true := by decide +kernel
set_option maxRecDepth 65536 in
theorem w_t3 : ((words1.drop 24).drop 24).all (fun c => isCode c || c.before args0 about1) = true := by decide +kernel
theorem w_tables : (allAtoms (Jvm.Cond.code x code maxLocals ret :: tables_1)).before args0 about1 = true := by
  rw [allAtoms_all]
  show words1.all (fun c => c.before args0 about1) = true
  refine all_split ?_ w_codes
  rw [← List.take_append_drop 24 words1, List.all_append, w_t1, ← List.take_append_drop 24 (words1.drop 24), List.all_append, w_t2, w_t3]
  rfl
set_option maxRecDepth 65536 in
theorem w_rest : rest_1_c.before args0 about1 = true := by decide +kernel
set_option maxRecDepth 65536 in
theorem w_case : (Jvm.Cond.and given_1 narrow_1).before args0 about1 = true := by decide +kernel
theorem w_applies : (headSpec (Jvm.Cond.code x code maxLocals ret :: tables_1) room_1).applies x e0.platform about1 = true :=
  (Spec.applies_iff w_frames).mpr ⟨w_running, w_runnable, w_alone, w_named, w_hears, w_ripe, w_room, w_tables⟩
theorem atStart : AtStart classFile x code maxLocals ret World_1 tables_1 room_1 Calls_1 rest_1 Pre_1 launch0 p0 e0 about1 theMethod args0 below0 :=
  ⟨lists_1, trivial, launch0.admits_env _ _ _, launch0.least_env, fairChoices_fair.cas, fairChoices_fair.clock, w_frames, w_args, w_heap, w_applies, trivial, w_rest, w_case⟩
end start1
theorem witness_1 : WitnessClaimed_1 := ⟨start1.p0, start1.e0, start1.about1, start1.theMethod, start1.args0, start1.below0, start1.atStart⟩
end Jvm.Pilot.@@N@@
