import JvmDerived
import JvmDerived.Pilot.@@N@@Statement
import JvmDerived.Pilot.@@N@@Code
set_option linter.unusedVariables false
set_option linter.unusedSimpArgs false
namespace Jvm.RoadKit
open Sem ClassFile Op Lib Jvm.Stand Jvm.Free Jvm.LawKit
section Own
variable {p : Program} {l : Launch} {e : Env} {R : Room} {s : State} {m : MethodId} {args : Array Value} {below : List Frame} {meth : Method} {c : Code} {T : State} {locs : List Loc} {cells slots : Nat} {Q : Option Value → Heap → List Loc → Prop} {kc ks : Nat}
/-- the run from S comes to its end and leaves what Q says -/
def own_Fin (p : Program) (e : Env) (below : List Frame) (s : State) (kc ks : Nat) (Q : Option Value → Heap → List Loc → Prop) (S : State) : Prop :=
  ∃ U o, Steps p.tables e below S U ∧ U.status = .running ∧ Ended U below o ∧ ∃ v L, o = .returned v ∧ Q v U.heap L ∧ FrameEnd s o U L kc ks
theorem own_step {S S' : State} (h : ∀ t, Steps p.tables e below S' t → Steps p.tables e below S t) (k : own_Fin p e below s kc ks Q S') : own_Fin p e below s kc ks Q S := by
  obtain ⟨U, o, h1, r⟩ := k
  exact ⟨U, o, h _ h1, r⟩
theorem own_ret (X : Stand p l e R s m args below meth c T locs cells slots) (hlk : meth.locks = false) {v : Option Value} (hv : meth.sig.returnType = none → v = none) (hc : cells ≤ kc) (hs : slots ≤ ks) (hQ : Q v T.heap locs) {S : State}
    (hst : ∀ fs, (∀ (f : JFrame) (acts : List Action), f.method = m → f.locked = none → f.entered = [] → (doReturn e (T.setTop f) acts v).1 = T.setFrames fs) → Steps p.tables e below S (T.setFrames fs)) : own_Fin p e below s kc ks Q S := by
  obtain ⟨fs, hr, hrun, hended, hW, hsame⟩ := X.leave (v := v) hv hlk
  exact ⟨_, _, hst fs hr, hrun, hended, _, _, rfl, hQ, ⟨_, rfl⟩, hW, hsame.mono hc hs⟩
def own_FinW (p : Program) (e : Env) (below : List Frame) (s : State) (kc ks : Nat) (Q : Option Value → Heap → List Loc → Prop) (S : State) : Prop :=
  ∃ U o, Steps p.tables e below S U ∧ U.status = .running ∧ Ended U below o ∧ ∃ v L, o = .returned v ∧ Q v U.heap L ∧ ReturnedEndW s o U L kc ks
theorem own_stepW {S S' : State} (h : ∀ t, Steps p.tables e below S' t → Steps p.tables e below S t) (k : own_FinW p e below s kc ks Q S') : own_FinW p e below s kc ks Q S := by
  obtain ⟨U, o, h1, r⟩ := k
  exact ⟨U, o, h _ h1, r⟩
theorem own_retW {vm1 : Vm} (X : Stand p l e R (s.setVm vm1) m args below meth c T locs cells slots) (hlk : meth.locks = false) {n : Nat} (hS : s.Since vm1 n) {h : Heap} (eT : T.heap = h) (hn : n ≤ h.size) {v : Option Value} (hv : meth.sig.returnType = none → v = none) (hc : cells ≤ kc) (hs : slots ≤ ks) (hQ : Q v T.heap locs) {S : State}
    (hst : ∀ fs, (∀ (f : JFrame) (acts : List Action), f.method = m → f.locked = none → f.entered = [] → (doReturn e (T.setTop f) acts v).1 = T.setFrames fs) → Steps p.tables e below S (T.setFrames fs)) : own_FinW p e below s kc ks Q S := by
  obtain ⟨fs, hr, hrun, hended, hE⟩ := X.leaveW hS (by rw [eT]; exact hn) (v := v) hv hlk
  exact ⟨_, _, hst fs hr, hrun, hended, _, _, rfl, hQ, hE.1, hE.2.1, hE.2.2.1, hE.2.2.2.mono hc hs⟩
theorem own_castW {g g' : JFrame} (q : g = g') (k : own_FinW p e below s kc ks Q (T.setTop g')) : own_FinW p e below s kc ks Q (T.setTop g) := q ▸ k
theorem own_m0 : Jvm.Free.Fl.Mag64 1 FP.dconst0 := by unfold Jvm.Free.Fl.Mag64; decide
theorem own_mz : Jvm.Free.Fl.Mag64 1 (0 : UInt64) := by unfold Jvm.Free.Fl.Mag64; decide
theorem own_m1 : Jvm.Free.Fl.Mag64 1024 FP.dconst1 := by unfold Jvm.Free.Fl.Mag64; decide
/-- roads that meet again: what lies behind the meeting is walked once -/
theorem own_join {G : Prop} {F : State → Prop} (X : Stand p l e R s m args below meth c T locs cells slots) {h : Heap} (eT : T.heap = h) {β : Type} (g : β → JFrame) (hyp : β → Prop)
    (body : ∀ Tj : State, Stand p l e R s m args below meth c Tj locs cells slots → Tj.heap = h → ∀ b, hyp b → F (Tj.setTop (g b)))
    (cont : (∀ Tj : State, Stand p l e R s m args below meth c Tj locs cells slots → Tj.heap = h → ∀ b, hyp b → F (Tj.setTop (g b))) → G) : G := cont body
theorem own_ltn {n k j : Int32} (h : ¬ n < k) (q : j < k) : j < n := by
  rw [Int32.lt_iff_toInt_lt] at *
  omega
theorem own_cast {g g' : JFrame} (q : g = g') (k : own_Fin p e below s kc ks Q (T.setTop g')) : own_Fin p e below s kc ks Q (T.setTop g) := q ▸ k
theorem own_getJ {cl : Cell} {vs : List Int64} {j : Int32} (H : Has cl (vs.map Value.long) (.long 0)) (q : ¬ (j < 0 ∨ cl.slots.size ≤ j.toNatClampNeg)) : cl.slots[j.toNatClampNeg]? = some (.long (vs.getD j.toNatClampNeg 0)) := by
  refine Has.at H q ?_
  simp only [List.getD_eq_getElem?_getD, List.getElem?_map]
  cases vs[j.toNatClampNeg]? <;> rfl
def own_Nst (h : Heap) (x : Addr) : Prop := ∃ c : Cell, h[x]? = some c ∧ c.vm.isStatics = false
theorem own_nst_exa {Z : State} {h : Heap} {a : Addr} {C : String} (F : Exa Z h a C) : own_Nst h a := by
  obtain ⟨c, _, h1, _, _, h4, _⟩ := F
  exact ⟨c, h1, h4⟩
theorem own_nst_arv {Z : State} {h : Heap} {a : Addr} {k : ClassId} {ty : FieldType} {n : Int32} {vs : List Value} {d : Value} (F : Arv Z h a k ty n vs d) : own_Nst h a := by
  obtain ⟨c, A, _⟩ := F
  exact ⟨c, A.1, A.plain⟩
theorem own_sta_keep {Z : State} {h h' : Heap} {C n d : String} {v : Value} {ws : List Addr} (F : Sta Z h C n d v) (K : Keep h h' ws) (q : ∀ x ∈ ws, own_Nst h x) : Sta Z h' C n d v := by
  obtain ⟨cf, i, k, f, st, cell, h1, h2, h3, h4, h5, h6, h7⟩ := F
  refine ⟨cf, i, k, f, st, cell, h1, h2, h3, h4, K.2.1 _ _ h5 (fun z => ?_), h6, h7⟩
  obtain ⟨c, e1, e2⟩ := q _ z
  cases h5.symm.trans e1
  rw [h6] at e2
  cases e2
theorem own_sta_keep0 {Z : State} {h h' : Heap} {C n d : String} {v : Value} (F : Sta Z h C n d v) (K : Keep h h' []) : Sta Z h' C n d v := own_sta_keep F K (fun _ z => nomatch z)
end Own
section OwnStart
variable {args : Array Value} {Z : State} {t : Term} {a : Addr} {O n d : String}
theorem own_fldV {v : Value} (ev : t.eval args Z none [] Z = some (.ref a)) (h : (Term.field t O n d).eval args Z none [] Z = some v) : Fld Z Z.heap a O n d v := Fld.start ((fld_at ev).symm.trans h)
theorem own_len {cl : Cell} {ty : FieldType} {k : Int32} (ev : t.eval args Z none [] Z = some (.ref a)) (A : Arr Z Z.heap a cl ty) (h : (Cond.eq (.length t) (.int k)).value args Z none Z [] = some true) : cl.slots.size < 2 ^ 31 ∧ cl.slots.size.toInt32 = k := by
  have e := eqv_i (y := k) rfl h
  have ha := A.fin (Vm.Alike.refl _)
  by_cases q : cl.slots.size < 2 ^ 31
  · exact ⟨q, Value.int.inj (Option.some.inj ((len_f ev ha q).symm.trans e))⟩
  · simp [Term.eval, ev, ha, q] at e
theorem own_elI {cl : Cell} {ty : FieldType} {i k : Int32} (ev : t.eval args Z none [] Z = some (.ref a)) (A : Arr Z Z.heap a cl ty) (hi : ¬ i < 0) (h : (Cond.eq (.elem t (.int i)) (.int k)).value args Z none Z [] = some true) : cl.slots[i.toNatClampNeg]? = some (.int k) :=
  (elem_f ev rfl (A.fin (Vm.Alike.refl _)) hi).symm.trans (eqv_i (y := k) rfl h)
theorem own_elJ {cl : Cell} {ty : FieldType} {i : Int32} {k : Int64} (ev : t.eval args Z none [] Z = some (.ref a)) (A : Arr Z Z.heap a cl ty) (hi : ¬ i < 0) (h : (Cond.eq (.elem t (.int i)) (.long k)).value args Z none Z [] = some true) : cl.slots[i.toNatClampNeg]? = some (.long k) :=
  (elem_f ev rfl (A.fin (Vm.Alike.refl _)) hi).symm.trans (eqv_l (y := k) rfl h)
end OwnStart
end Jvm.RoadKit
namespace Jvm.Pilot.@@N@@
open Jvm Jvm.ClassFile Sem Op Lib Jvm.Free Jvm.Stand Jvm.LawKit Jvm.RoadKit Bundle Jvm.Pilot.@@N@@.Jvm.D
theorem own_w {ts : List Jvm.Cond} {Z : State} {a0 : Array Value} (hw : ∀ d ∈ ts, d.before a0 Z = true) (i : Nat) {d : Jvm.Cond} (h : ts[i]? = some d) : d.before a0 Z = true := hw d (List.mem_of_getElem? h)
theorem own_k (x : Int32) : ((x &&& (2147483647 : Int32)) % (3 : Int32)) = (0 : Int32) ∨ ((x &&& (2147483647 : Int32)) % (3 : Int32)) = (1 : Int32) ∨ ((x &&& (2147483647 : Int32)) % (3 : Int32)) = (2 : Int32) := by
  have h1 : (x &&& (2147483647 : Int32)).toInt = x.toInt % 2147483648 := c_mask x _ 31 (by decide) (by decide)
  have h2 := (c_irem (x &&& (2147483647 : Int32)) (3 : Int32) 3 (by decide)).1 (by omega)
  have h3 : ((x &&& (2147483647 : Int32)) % (3 : Int32)).toInt = 0 ∨ ((x &&& (2147483647 : Int32)) % (3 : Int32)).toInt = 1 ∨ ((x &&& (2147483647 : Int32)) % (3 : Int32)).toInt = 2 := by omega
  rcases h3 with h | h | h
  · exact Or.inl (Int32.toInt_inj.mp (h.trans (by decide)))
  · exact Or.inr (Or.inl (Int32.toInt_inj.mp (h.trans (by decide))))
  · exact Or.inr (Or.inr (Int32.toInt_inj.mp (h.trans (by decide))))
theorem own_d1_0 : decode prog_22_method_5_code 0 = .ok (.aload_n 0, 1) := by decide +kernel
theorem own_d1_1 : decode prog_22_method_5_code 1 = .ok (.getstatic 7, 3) := by decide +kernel
theorem own_d1_4 : decode prog_22_method_5_code 4 = .ok (.if_acmp .eq 7, 3) := by decide +kernel
theorem own_d1_7 : decode prog_22_method_5_code 7 = .ok (.iconst 1, 1) := by decide +kernel
theorem own_d1_8 : decode prog_22_method_5_code 8 = .ok (.goto 4, 3) := by decide +kernel
theorem own_d1_12 : decode prog_22_method_5_code 12 = .ok (.ireturn, 1) := by decide +kernel
theorem own_pn0 : plainName "com/example/nearfield/nearfield/Redirection$Operator" = true := by first | (simp [plainName, overriddenIn]; done) | decide +kernel
theorem own_ef1 (m : MethodId) (s_INPUT : Addr) : entryFrame m #[(.ref s_INPUT)] 1 = mkF m 0 #[.val (.ref s_INPUT)] [] := by first | (simp [entryFrame, mkF, argsToLocals, Value.category]; done) | rfl
def own_Q1 (Z : State) (s_INPUT : Addr) (s_OUTPUT : Addr) (h0 : Heap) (n0 : Nat) (v : Option Value) (h : Heap) (L : List Loc) : Prop := v = some (.int (1 : Int32)) ∧ Fr n0 L ∧ h = h0
set_option maxRecDepth 65536 in
set_option maxHeartbeats 40000000 in
theorem own_rm1 (l : Launch) (Z : State) (a0 : Array Value) (hw : ∀ d ∈ tables_1, d.before a0 Z = true) (ws : List Jvm.Cond) (s_INPUT : Addr) (s_OUTPUT : Addr) (h0 : Heap) (n0 : Nat) (Z0 : n0 ≤ h0.size) (S_OUTPUT : Sta Z h0 "com/example/nearfield/nearfield/Redirection$Operator" "OUTPUT" "Lcom/example/nearfield/nearfield/Redirection$Operator;" (.ref s_OUTPUT)) (ne_s_INPUT_s_OUTPUT : s_INPUT ≠ s_OUTPUT) :
    MetFree l (⟨"com/example/nearfield/nearfield/Redirection$Operator", "reads", "()Z"⟩ : MethodName) (head1 (Jvm.Cond.code (⟨"com/example/nearfield/nearfield/Redirection$Operator", "reads", "()Z"⟩ : MethodName) prog_22_method_5_code 1 (some .boolean) :: ws) ({ frames := 0, cells := 0, slots := 0, locals := 0 } : Room)) (fun a U => a = #[(.ref s_INPUT)] ∧ Z.Warmed39 U.vm ∧ U.heap = h0) (fun _ _ _ _ _ => True) (fun _ U o U' => ∃ v L, o = .returned v ∧ own_Q1 Z s_INPUT s_OUTPUT h0 n0 v U'.heap L ∧ FrameEnd U o U' L ({ frames := 0, cells := 0, slots := 0, locals := 0 } : Room).cells ({ frames := 0, cells := 0, slots := 0, locals := 0 } : Room).slots) := by
  refine MetFree.of_bodySF (plainFor_of_name own_pn0) hisR ?_
  intro p e s m args below meth c s₁ Bd hml0 hP hK
  obtain ⟨rfl, hZ, hh⟩ := hP
  have hx := Bd.exec
  have hby := Bd.bytes
  have hlk := Bd.notSynchronized
  have hml : c.maxLocals = 1 := hml0
  have hown : s.vm.findClass "com/example/nearfield/nearfield/Redirection$Operator" = some m.cls := findClass_of_methodNamed Bd.named
  have hnm := (name_of_methodNamed Bd.named Bd.method).1
  have X0 : Stand p l e ({ frames := 0, cells := 0, slots := 0, locals := 0 } : Room) s m #[(.ref s_INPUT)] below meth c s₁ [] 0 0 := Stand.of_body Bd
  have e0 : s₁.heap = h0 := by rw [← hh, Bd.state]; rfl
  have N0 := Fr.nil n0
  have KR : Keep h0 h0 [] := Keep.refl _ _
  show own_Fin p e below s ({ frames := 0, cells := 0, slots := 0, locals := 0 } : Room).cells ({ frames := 0, cells := 0, slots := 0, locals := 0 } : Room).slots (own_Q1 Z s_INPUT s_OUTPUT h0 n0) (s₁.setTop (entryFrame m #[(.ref s_INPUT)] 1))
  refine own_cast (own_ef1 m s_INPUT) ?_
  refine own_step (fun _ k => XS.aloadN X0.here hx rfl (hb hby own_d1_0) rfl rfl k) ?_
  show own_Fin p e below s _ _ _ (s₁.setTop (mkF m 1 #[.val (.ref s_INPUT)] [(.ref s_INPUT)]))
  obtain ⟨T1, X1, e1, st1⟩ := getS2 X0 hx hZ hown (host := "") (Or.inl (own_w hw 9 rfl)) Via.refl e0 S_OUTPUT (g := (mkF m 1 #[.val (.ref s_INPUT)] [(.ref s_INPUT)])) rfl (hb hby own_d1_1)
  refine own_step st1 ?_
  show own_Fin p e below s _ _ _ (T1.setTop (mkF m 4 #[.val (.ref s_INPUT)] [(.ref s_OUTPUT), (.ref s_INPUT)]))
  refine own_step (fun _ k => Jvm.RoadKit.acmp (g := (mkF m 4 #[.val (.ref s_INPUT)] [(.ref s_OUTPUT), (.ref s_INPUT)])) X1 hx rfl rfl rfl (pc0 := 4) (pc' := 7) (same := false) rfl (hb hby own_d1_4) rfl (decide_eq_false fun q => ne_s_INPUT_s_OUTPUT (Value.ref.inj q)) (by decide) (by decide) k) ?_
  show own_Fin p e below s _ _ _ (T1.setTop (mkF m 7 #[.val (.ref s_INPUT)] []))
  refine own_step (fun _ k => XS.iconst X1.here hx rfl (hb hby own_d1_7) k) ?_
  show own_Fin p e below s _ _ _ (T1.setTop (mkF m 8 #[.val (.ref s_INPUT)] [(.int (1 : Int32))]))
  refine own_step (fun _ k => XS.goto X1.here hx rfl (pc0 := 8) (pc' := 12) rfl (hb hby own_d1_8) (by decide) (by decide) k) ?_
  show own_Fin p e below s _ _ _ (T1.setTop (mkF m 12 #[.val (.ref s_INPUT)] [(.int (1 : Int32))]))
  exact own_ret X1 hlk (v := some (.int (1 : Int32))) (fun h => by rw [Bd.returns] at h; cases h) (by decide) (by decide) (by show own_Q1 Z s_INPUT s_OUTPUT h0 n0 _ T1.heap _; rw [e1]; exact ⟨rfl, N0, rfl⟩) (fun fs hr => retN X1 hx (t := .boolean) Bd.returns (by simp) (hb hby own_d1_12) hr)

theorem own_d2_0 : decode prog_22_method_5_code 0 = .ok (.aload_n 0, 1) := by decide +kernel
theorem own_d2_1 : decode prog_22_method_5_code 1 = .ok (.getstatic 7, 3) := by decide +kernel
theorem own_d2_4 : decode prog_22_method_5_code 4 = .ok (.if_acmp .eq 7, 3) := by decide +kernel
theorem own_d2_11 : decode prog_22_method_5_code 11 = .ok (.iconst 0, 1) := by decide +kernel
theorem own_d2_12 : decode prog_22_method_5_code 12 = .ok (.ireturn, 1) := by decide +kernel
theorem own_ef2 (m : MethodId) (s_OUTPUT : Addr) : entryFrame m #[(.ref s_OUTPUT)] 1 = mkF m 0 #[.val (.ref s_OUTPUT)] [] := by first | (simp [entryFrame, mkF, argsToLocals, Value.category]; done) | rfl
def own_Q2 (Z : State) (s_OUTPUT : Addr) (h0 : Heap) (n0 : Nat) (v : Option Value) (h : Heap) (L : List Loc) : Prop := v = some (.int (0 : Int32)) ∧ Fr n0 L ∧ h = h0
set_option maxRecDepth 65536 in
set_option maxHeartbeats 40000000 in
theorem own_rm2 (l : Launch) (Z : State) (a0 : Array Value) (hw : ∀ d ∈ tables_1, d.before a0 Z = true) (ws : List Jvm.Cond) (s_OUTPUT : Addr) (h0 : Heap) (n0 : Nat) (Z0 : n0 ≤ h0.size) (S_OUTPUT : Sta Z h0 "com/example/nearfield/nearfield/Redirection$Operator" "OUTPUT" "Lcom/example/nearfield/nearfield/Redirection$Operator;" (.ref s_OUTPUT)) :
    MetFree l (⟨"com/example/nearfield/nearfield/Redirection$Operator", "reads", "()Z"⟩ : MethodName) (head1 (Jvm.Cond.code (⟨"com/example/nearfield/nearfield/Redirection$Operator", "reads", "()Z"⟩ : MethodName) prog_22_method_5_code 1 (some .boolean) :: ws) ({ frames := 0, cells := 0, slots := 0, locals := 0 } : Room)) (fun a U => a = #[(.ref s_OUTPUT)] ∧ Z.Warmed39 U.vm ∧ U.heap = h0) (fun _ _ _ _ _ => True) (fun _ U o U' => ∃ v L, o = .returned v ∧ own_Q2 Z s_OUTPUT h0 n0 v U'.heap L ∧ FrameEnd U o U' L ({ frames := 0, cells := 0, slots := 0, locals := 0 } : Room).cells ({ frames := 0, cells := 0, slots := 0, locals := 0 } : Room).slots) := by
  refine MetFree.of_bodySF (plainFor_of_name own_pn0) hisR ?_
  intro p e s m args below meth c s₁ Bd hml0 hP hK
  obtain ⟨rfl, hZ, hh⟩ := hP
  have hx := Bd.exec
  have hby := Bd.bytes
  have hlk := Bd.notSynchronized
  have hml : c.maxLocals = 1 := hml0
  have hown : s.vm.findClass "com/example/nearfield/nearfield/Redirection$Operator" = some m.cls := findClass_of_methodNamed Bd.named
  have hnm := (name_of_methodNamed Bd.named Bd.method).1
  have X0 : Stand p l e ({ frames := 0, cells := 0, slots := 0, locals := 0 } : Room) s m #[(.ref s_OUTPUT)] below meth c s₁ [] 0 0 := Stand.of_body Bd
  have e0 : s₁.heap = h0 := by rw [← hh, Bd.state]; rfl
  have N0 := Fr.nil n0
  have KR : Keep h0 h0 [] := Keep.refl _ _
  show own_Fin p e below s ({ frames := 0, cells := 0, slots := 0, locals := 0 } : Room).cells ({ frames := 0, cells := 0, slots := 0, locals := 0 } : Room).slots (own_Q2 Z s_OUTPUT h0 n0) (s₁.setTop (entryFrame m #[(.ref s_OUTPUT)] 1))
  refine own_cast (own_ef2 m s_OUTPUT) ?_
  refine own_step (fun _ k => XS.aloadN X0.here hx rfl (hb hby own_d2_0) rfl rfl k) ?_
  show own_Fin p e below s _ _ _ (s₁.setTop (mkF m 1 #[.val (.ref s_OUTPUT)] [(.ref s_OUTPUT)]))
  obtain ⟨T1, X1, e1, st1⟩ := getS2 X0 hx hZ hown (host := "") (Or.inl (own_w hw 9 rfl)) Via.refl e0 S_OUTPUT (g := (mkF m 1 #[.val (.ref s_OUTPUT)] [(.ref s_OUTPUT)])) rfl (hb hby own_d2_1)
  refine own_step st1 ?_
  show own_Fin p e below s _ _ _ (T1.setTop (mkF m 4 #[.val (.ref s_OUTPUT)] [(.ref s_OUTPUT), (.ref s_OUTPUT)]))
  refine own_step (fun _ k => Jvm.RoadKit.acmp (g := (mkF m 4 #[.val (.ref s_OUTPUT)] [(.ref s_OUTPUT), (.ref s_OUTPUT)])) X1 hx rfl rfl rfl (pc0 := 4) (pc' := 11) (same := true) rfl (hb hby own_d2_4) rfl (decide_eq_true rfl) (by decide) (by decide) k) ?_
  show own_Fin p e below s _ _ _ (T1.setTop (mkF m 11 #[.val (.ref s_OUTPUT)] []))
  refine own_step (fun _ k => XS.iconst X1.here hx rfl (hb hby own_d2_11) k) ?_
  show own_Fin p e below s _ _ _ (T1.setTop (mkF m 12 #[.val (.ref s_OUTPUT)] [(.int (0 : Int32))]))
  exact own_ret X1 hlk (v := some (.int (0 : Int32))) (fun h => by rw [Bd.returns] at h; cases h) (by decide) (by decide) (by show own_Q2 Z s_OUTPUT h0 n0 _ T1.heap _; rw [e1]; exact ⟨rfl, N0, rfl⟩) (fun fs hr => retN X1 hx (t := .boolean) Bd.returns (by simp) (hb hby own_d2_12) hr)

theorem own_d3_0 : decode prog_22_method_5_code 0 = .ok (.aload_n 0, 1) := by decide +kernel
theorem own_d3_1 : decode prog_22_method_5_code 1 = .ok (.getstatic 7, 3) := by decide +kernel
theorem own_d3_4 : decode prog_22_method_5_code 4 = .ok (.if_acmp .eq 7, 3) := by decide +kernel
theorem own_d3_7 : decode prog_22_method_5_code 7 = .ok (.iconst 1, 1) := by decide +kernel
theorem own_d3_8 : decode prog_22_method_5_code 8 = .ok (.goto 4, 3) := by decide +kernel
theorem own_d3_12 : decode prog_22_method_5_code 12 = .ok (.ireturn, 1) := by decide +kernel
theorem own_ef3 (m : MethodId) (s_APPEND : Addr) : entryFrame m #[(.ref s_APPEND)] 1 = mkF m 0 #[.val (.ref s_APPEND)] [] := by first | (simp [entryFrame, mkF, argsToLocals, Value.category]; done) | rfl
def own_Q3 (Z : State) (s_APPEND : Addr) (s_OUTPUT : Addr) (h0 : Heap) (n0 : Nat) (v : Option Value) (h : Heap) (L : List Loc) : Prop := v = some (.int (1 : Int32)) ∧ Fr n0 L ∧ h = h0
set_option maxRecDepth 65536 in
set_option maxHeartbeats 40000000 in
theorem own_rm3 (l : Launch) (Z : State) (a0 : Array Value) (hw : ∀ d ∈ tables_1, d.before a0 Z = true) (ws : List Jvm.Cond) (s_APPEND : Addr) (s_OUTPUT : Addr) (h0 : Heap) (n0 : Nat) (Z0 : n0 ≤ h0.size) (S_OUTPUT : Sta Z h0 "com/example/nearfield/nearfield/Redirection$Operator" "OUTPUT" "Lcom/example/nearfield/nearfield/Redirection$Operator;" (.ref s_OUTPUT)) (ne_s_APPEND_s_OUTPUT : s_APPEND ≠ s_OUTPUT) :
    MetFree l (⟨"com/example/nearfield/nearfield/Redirection$Operator", "reads", "()Z"⟩ : MethodName) (head1 (Jvm.Cond.code (⟨"com/example/nearfield/nearfield/Redirection$Operator", "reads", "()Z"⟩ : MethodName) prog_22_method_5_code 1 (some .boolean) :: ws) ({ frames := 0, cells := 0, slots := 0, locals := 0 } : Room)) (fun a U => a = #[(.ref s_APPEND)] ∧ Z.Warmed39 U.vm ∧ U.heap = h0) (fun _ _ _ _ _ => True) (fun _ U o U' => ∃ v L, o = .returned v ∧ own_Q3 Z s_APPEND s_OUTPUT h0 n0 v U'.heap L ∧ FrameEnd U o U' L ({ frames := 0, cells := 0, slots := 0, locals := 0 } : Room).cells ({ frames := 0, cells := 0, slots := 0, locals := 0 } : Room).slots) := by
  refine MetFree.of_bodySF (plainFor_of_name own_pn0) hisR ?_
  intro p e s m args below meth c s₁ Bd hml0 hP hK
  obtain ⟨rfl, hZ, hh⟩ := hP
  have hx := Bd.exec
  have hby := Bd.bytes
  have hlk := Bd.notSynchronized
  have hml : c.maxLocals = 1 := hml0
  have hown : s.vm.findClass "com/example/nearfield/nearfield/Redirection$Operator" = some m.cls := findClass_of_methodNamed Bd.named
  have hnm := (name_of_methodNamed Bd.named Bd.method).1
  have X0 : Stand p l e ({ frames := 0, cells := 0, slots := 0, locals := 0 } : Room) s m #[(.ref s_APPEND)] below meth c s₁ [] 0 0 := Stand.of_body Bd
  have e0 : s₁.heap = h0 := by rw [← hh, Bd.state]; rfl
  have N0 := Fr.nil n0
  have KR : Keep h0 h0 [] := Keep.refl _ _
  show own_Fin p e below s ({ frames := 0, cells := 0, slots := 0, locals := 0 } : Room).cells ({ frames := 0, cells := 0, slots := 0, locals := 0 } : Room).slots (own_Q3 Z s_APPEND s_OUTPUT h0 n0) (s₁.setTop (entryFrame m #[(.ref s_APPEND)] 1))
  refine own_cast (own_ef3 m s_APPEND) ?_
  refine own_step (fun _ k => XS.aloadN X0.here hx rfl (hb hby own_d3_0) rfl rfl k) ?_
  show own_Fin p e below s _ _ _ (s₁.setTop (mkF m 1 #[.val (.ref s_APPEND)] [(.ref s_APPEND)]))
  obtain ⟨T1, X1, e1, st1⟩ := getS2 X0 hx hZ hown (host := "") (Or.inl (own_w hw 9 rfl)) Via.refl e0 S_OUTPUT (g := (mkF m 1 #[.val (.ref s_APPEND)] [(.ref s_APPEND)])) rfl (hb hby own_d3_1)
  refine own_step st1 ?_
  show own_Fin p e below s _ _ _ (T1.setTop (mkF m 4 #[.val (.ref s_APPEND)] [(.ref s_OUTPUT), (.ref s_APPEND)]))
  refine own_step (fun _ k => Jvm.RoadKit.acmp (g := (mkF m 4 #[.val (.ref s_APPEND)] [(.ref s_OUTPUT), (.ref s_APPEND)])) X1 hx rfl rfl rfl (pc0 := 4) (pc' := 7) (same := false) rfl (hb hby own_d3_4) rfl (decide_eq_false fun q => ne_s_APPEND_s_OUTPUT (Value.ref.inj q)) (by decide) (by decide) k) ?_
  show own_Fin p e below s _ _ _ (T1.setTop (mkF m 7 #[.val (.ref s_APPEND)] []))
  refine own_step (fun _ k => XS.iconst X1.here hx rfl (hb hby own_d3_7) k) ?_
  show own_Fin p e below s _ _ _ (T1.setTop (mkF m 8 #[.val (.ref s_APPEND)] [(.int (1 : Int32))]))
  refine own_step (fun _ k => XS.goto X1.here hx rfl (pc0 := 8) (pc' := 12) rfl (hb hby own_d3_8) (by decide) (by decide) k) ?_
  show own_Fin p e below s _ _ _ (T1.setTop (mkF m 12 #[.val (.ref s_APPEND)] [(.int (1 : Int32))]))
  exact own_ret X1 hlk (v := some (.int (1 : Int32))) (fun h => by rw [Bd.returns] at h; cases h) (by decide) (by decide) (by show own_Q3 Z s_APPEND s_OUTPUT h0 n0 _ T1.heap _; rw [e1]; exact ⟨rfl, N0, rfl⟩) (fun fs hr => retN X1 hx (t := .boolean) Bd.returns (by simp) (hb hby own_d3_12) hr)

theorem own_pd0 : parseMethodDescriptor "()Z" = some ⟨[], some .boolean⟩ := by decide +kernel
abbrev own_y0 : MethodName := (⟨"com/example/nearfield/nearfield/Redirection$Operator", "reads", "()Z"⟩ : MethodName)
theorem own_pn1 : plainName "com/example/nearfield/nearfield/OperatorReadsPinLaw" = true := by first | (simp [plainName, overriddenIn]; done) | decide +kernel
theorem own_ef4 (m : MethodId) (p0 : Int32) : entryFrame m #[(.int p0)] maxLocals = mkF m 0 #[.val (.int p0), .unset, .unset, .unset] [] := by first | (simp [entryFrame, mkF, argsToLocals, Value.category, maxLocals]; done) | rfl
def own_Q4 (Z : State) (p0 : Int32) (s_INPUT : Addr) (s_OUTPUT : Addr) (s_APPEND : Addr) (h0 : Heap) (n0 : Nat) (v : Option Value) (h : Heap) (L : List Loc) : Prop := v = some (.int 1) ∧ Fr n0 L
set_option maxRecDepth 65536 in
set_option maxHeartbeats 40000000 in
theorem own_rm4 (l : Launch) (Z : State) (a0 : Array Value) (hw : ∀ d ∈ tables_1, d.before a0 Z = true) (ws : List Jvm.Cond) (p0 : Int32) (s_INPUT : Addr) (s_OUTPUT : Addr) (s_APPEND : Addr) (h0 : Heap) (n0 : Nat) (Z0 : n0 ≤ h0.size) (S_INPUT : Sta Z h0 "com/example/nearfield/nearfield/Redirection$Operator" "INPUT" "Lcom/example/nearfield/nearfield/Redirection$Operator;" (.ref s_INPUT)) (E_s_INPUT : Exa Z h0 s_INPUT "com/example/nearfield/nearfield/Redirection$Operator") (S_OUTPUT : Sta Z h0 "com/example/nearfield/nearfield/Redirection$Operator" "OUTPUT" "Lcom/example/nearfield/nearfield/Redirection$Operator;" (.ref s_OUTPUT)) (ne_s_INPUT_s_OUTPUT : s_INPUT ≠ s_OUTPUT) (E_s_OUTPUT : Exa Z h0 s_OUTPUT "com/example/nearfield/nearfield/Redirection$Operator") (S_APPEND : Sta Z h0 "com/example/nearfield/nearfield/Redirection$Operator" "APPEND" "Lcom/example/nearfield/nearfield/Redirection$Operator;" (.ref s_APPEND)) (E_s_APPEND : Exa Z h0 s_APPEND "com/example/nearfield/nearfield/Redirection$Operator") (ne_s_APPEND_s_OUTPUT : s_APPEND ≠ s_OUTPUT) :
    MetFree l x (head1 (Jvm.Cond.code x code maxLocals ret :: ws) room_1) (fun a U => a = #[(.int p0)] ∧ Z.Warmed39 U.vm ∧ U.heap = h0) (fun _ _ _ _ _ => True) (fun _ U o U' => ∃ v L, o = .returned v ∧ own_Q4 Z p0 s_INPUT s_OUTPUT s_APPEND h0 n0 v U'.heap L ∧ FrameEnd U o U' L room_1.cells room_1.slots) := by
  refine MetFree.of_bodySF (plainFor_of_name own_pn1) hisR ?_
  intro p e s m args below meth c s₁ Bd hml0 hP hK
  obtain ⟨rfl, hZ, hh⟩ := hP
  have hx := Bd.exec
  have hby := Bd.bytes
  have hlk := Bd.notSynchronized
  have hml : c.maxLocals = 4 := hml0
  have hown : s.vm.findClass "com/example/nearfield/nearfield/OperatorReadsPinLaw" = some m.cls := findClass_of_methodNamed Bd.named
  have hnm := (name_of_methodNamed Bd.named Bd.method).1
  have X0 : Stand p l e room_1 s m #[(.int p0)] below meth c s₁ [] 0 0 := Stand.of_body Bd
  have e0 : s₁.heap = h0 := by rw [← hh, Bd.state]; rfl
  have N0 := Fr.nil n0
  have KR : Keep h0 h0 [] := Keep.refl _ _
  show own_Fin p e below s room_1.cells room_1.slots (own_Q4 Z p0 s_INPUT s_OUTPUT s_APPEND h0 n0) (s₁.setTop (entryFrame m #[(.int p0)] maxLocals))
  refine own_cast (own_ef4 m p0) ?_
  refine own_step (fun _ k => XS.iloadN X0.here hx rfl (hb hby at_0) rfl k) ?_
  show own_Fin p e below s _ _ _ (s₁.setTop (mkF m 1 #[.val (.int p0), .unset, .unset, .unset] [(.int p0)]))
  refine own_step (fun _ k => X0.ldcInt hx hown (mvT hZ (own_w hw 0 rfl)) (g := (mkF m 1 #[.val (.int p0), .unset, .unset, .unset] [(.int p0)])) rfl (hb hby at_1) _ k) ?_
  show own_Fin p e below s _ _ _ (s₁.setTop (mkF m 3 #[.val (.int p0), .unset, .unset, .unset] [(.int (2147483647 : Int32)), (.int p0)]))
  refine own_step (fun _ k => XS.iand X0.here hx rfl (hb hby at_3) rfl k) ?_
  show own_Fin p e below s _ _ _ (s₁.setTop (mkF m 4 #[.val (.int p0), .unset, .unset, .unset] [(.int (p0 &&& (2147483647 : Int32)))]))
  refine own_step (fun _ k => XS.iconst X0.here hx rfl (hb hby at_4) k) ?_
  show own_Fin p e below s _ _ _ (s₁.setTop (mkF m 5 #[.val (.int p0), .unset, .unset, .unset] [(.int (3 : Int32)), (.int (p0 &&& (2147483647 : Int32)))]))
  refine own_step (fun _ k => iremM (g := (mkF m 5 #[.val (.int p0), .unset, .unset, .unset] [(.int (3 : Int32)), (.int (p0 &&& (2147483647 : Int32)))])) X0 hx rfl (hb hby at_5) rfl (by decide) k) ?_
  show own_Fin p e below s _ _ _ (s₁.setTop (mkF m 6 #[.val (.int p0), .unset, .unset, .unset] [(.int ((p0 &&& (2147483647 : Int32)) % (3 : Int32)))]))
  refine own_step (fun _ k => XS.istoreN X0.here hx rfl (hb hby at_6) rfl (l' := #[.val (.int p0), .val (.int ((p0 &&& (2147483647 : Int32)) % (3 : Int32))), .unset, .unset]) rfl k) ?_
  show own_Fin p e below s _ _ _ (s₁.setTop (mkF m 7 #[.val (.int p0), .val (.int ((p0 &&& (2147483647 : Int32)) % (3 : Int32))), .unset, .unset] []))
  rcases own_k p0 with hk1 | hk2 | hk3
  · rw [hk1]
    show own_Fin p e below s _ _ _ (s₁.setTop (mkF m 7 #[.val (.int p0), .val (.int (0 : Int32)), .unset, .unset] []))
    refine own_step (fun _ k => XS.iloadN X0.here hx rfl (hb hby at_7) rfl k) ?_
    show own_Fin p e below s _ _ _ (s₁.setTop (mkF m 8 #[.val (.int p0), .val (.int (0 : Int32)), .unset, .unset] [(.int (0 : Int32))]))
    refine own_step (fun _ k => XS.ifNo X0.here hx rfl (hb hby at_8) rfl ((if0 _ _).trans (teq (by decide : (0 : Int32) = (0 : Int32))).2) k) ?_
    show own_Fin p e below s _ _ _ (s₁.setTop (mkF m 11 #[.val (.int p0), .val (.int (0 : Int32)), .unset, .unset] []))
    obtain ⟨T4, X4, e4, st4⟩ := getS2 X0 hx hZ hown (host := "") (Or.inl (own_w hw 1 rfl)) Via.refl e0 S_INPUT (g := (mkF m 11 #[.val (.int p0), .val (.int (0 : Int32)), .unset, .unset] [])) rfl (hb hby at_11)
    refine own_step st4 ?_
    show own_Fin p e below s _ _ _ (T4.setTop (mkF m 14 #[.val (.int p0), .val (.int (0 : Int32)), .unset, .unset] [(.ref s_INPUT)]))
    refine own_step (fun _ k => XS.astoreN X4.here hx rfl (hb hby at_14) rfl rfl (l' := #[.val (.int p0), .val (.int (0 : Int32)), .val (.ref s_INPUT), .unset]) rfl k) ?_
    show own_Fin p e below s _ _ _ (T4.setTop (mkF m 15 #[.val (.int p0), .val (.int (0 : Int32)), .val (.ref s_INPUT), .unset] []))
    refine own_step (fun _ k => XS.iconst X4.here hx rfl (hb hby at_15) k) ?_
    show own_Fin p e below s _ _ _ (T4.setTop (mkF m 16 #[.val (.int p0), .val (.int (0 : Int32)), .val (.ref s_INPUT), .unset] [(.int (1 : Int32))]))
    refine own_step (fun _ k => XS.istoreN X4.here hx rfl (hb hby at_16) rfl (l' := #[.val (.int p0), .val (.int (0 : Int32)), .val (.ref s_INPUT), .val (.int (1 : Int32))]) rfl k) ?_
    show own_Fin p e below s _ _ _ (T4.setTop (mkF m 17 #[.val (.int p0), .val (.int (0 : Int32)), .val (.ref s_INPUT), .val (.int (1 : Int32))] []))
    refine own_step (fun _ k => XS.goto X4.here hx rfl (pc0 := 17) (pc' := 40) rfl (hb hby at_17) (by decide) (by decide) k) ?_
    show own_Fin p e below s _ _ _ (T4.setTop (mkF m 40 #[.val (.int p0), .val (.int (0 : Int32)), .val (.ref s_INPUT), .val (.int (1 : Int32))] []))
    refine own_step (fun _ k => XS.aloadN X4.here hx rfl (hb hby at_40) rfl rfl k) ?_
    show own_Fin p e below s _ _ _ (T4.setTop (mkF m 41 #[.val (.int p0), .val (.int (0 : Int32)), .val (.ref s_INPUT), .val (.int (1 : Int32))] [(.ref s_INPUT)]))
    obtain ⟨cq5, kq5, q5a, q5b, q5c⟩ := isOf hZ e4 E_s_INPUT
    obtain ⟨_, _, ⟨T5, L5, k5, n5⟩, -, X5, ⟨Lc5, hQ5, l5, y5, z5⟩, st5⟩ := X4.virtualBack hx (y := own_y0) (z := own_y0) hown (mvT hZ (own_w hw 4 rfl)) (mvT hZ (own_w hw 5 rfl)) (notFace_of_selects (args := #[]) (mvT hZ (own_w hw 7 rfl))) (mvT hZ (own_w hw 7 rfl)) (mvT hZ (own_w hw 6 rfl)) (by decide) (backOf (W := 0) (own_rm1 l Z a0 hw [] s_INPUT s_OUTPUT h0 n0 Z0 S_OUTPUT ne_s_INPUT_s_OUTPUT) hZ (own_w hw 8 rfl) (own_w hw 2 rfl) (by decide) (by decide)) q5a q5c (g := (mkF m 41 #[.val (.int p0), .val (.int (0 : Int32)), .val (.ref s_INPUT), .val (.int (1 : Int32))] [(.ref s_INPUT)])) rfl (by rw [hml]; rfl) (Steps.refl _) (argsL := []) (rest := []) (lenOf own_pd0 rfl) rfl (by show 2 * 0 + _ ≤ _; exact Nat.le_of_eq rfl) (hb hby at_41) (fun _ _ => ⟨rfl, e4, (by decide : 0 + 0 ≤ _), (by decide : 0 + 0 ≤ _)⟩)
    dsimp only [Pt.U, Pt.locs, Pt.cells, Pt.slots] at X5 l5 y5 z5 st5 hQ5
    subst l5 y5 z5
    obtain ⟨rfl, N5q, e5⟩ := hQ5
    have N5 := Fr.app N0 N5q
    refine own_step (fun _ k => st5.trans k) ?_
    show own_Fin p e below s _ _ _ (T5.setTop (mkF m 44 #[.val (.int p0), .val (.int (0 : Int32)), .val (.ref s_INPUT), .val (.int (1 : Int32))] [(.int (1 : Int32))]))
    refine own_step (fun _ k => XS.iloadN X5.here hx rfl (hb hby at_44) rfl k) ?_
    show own_Fin p e below s _ _ _ (T5.setTop (mkF m 45 #[.val (.int p0), .val (.int (0 : Int32)), .val (.ref s_INPUT), .val (.int (1 : Int32))] [(.int (1 : Int32)), (.int (1 : Int32))]))
    refine own_step (fun _ k => XS.icmpNo X5.here hx rfl (hb hby at_45) rfl (teq (by decide : (1 : Int32) = (1 : Int32))).2 k) ?_
    show own_Fin p e below s _ _ _ (T5.setTop (mkF m 48 #[.val (.int p0), .val (.int (0 : Int32)), .val (.ref s_INPUT), .val (.int (1 : Int32))] []))
    refine own_step (fun _ k => XS.iconst X5.here hx rfl (hb hby at_48) k) ?_
    show own_Fin p e below s _ _ _ (T5.setTop (mkF m 49 #[.val (.int p0), .val (.int (0 : Int32)), .val (.ref s_INPUT), .val (.int (1 : Int32))] [(.int (1 : Int32))]))
    refine own_step (fun _ k => XS.goto X5.here hx rfl (pc0 := 49) (pc' := 53) rfl (hb hby at_49) (by decide) (by decide) k) ?_
    show own_Fin p e below s _ _ _ (T5.setTop (mkF m 53 #[.val (.int p0), .val (.int (0 : Int32)), .val (.ref s_INPUT), .val (.int (1 : Int32))] [(.int (1 : Int32))]))
    exact own_ret X5 hlk (v := some (.int (1 : Int32))) (fun h => by rw [Bd.returns] at h; cases h) (by decide) (by decide) (by show own_Q4 Z p0 s_INPUT s_OUTPUT s_APPEND h0 n0 _ T5.heap _; rw [e5]; exact ⟨rfl, N5⟩) (fun fs hr => retN X5 hx (t := .boolean) Bd.returns (by simp) (hb hby at_53) hr)
  · rw [hk2]
    show own_Fin p e below s _ _ _ (s₁.setTop (mkF m 7 #[.val (.int p0), .val (.int (1 : Int32)), .unset, .unset] []))
    refine own_step (fun _ k => XS.iloadN X0.here hx rfl (hb hby at_7) rfl k) ?_
    show own_Fin p e below s _ _ _ (s₁.setTop (mkF m 8 #[.val (.int p0), .val (.int (1 : Int32)), .unset, .unset] [(.int (1 : Int32))]))
    refine own_step (fun _ k => XS.ifYes X0.here hx rfl (pc0 := 8) (pc' := 20) rfl (hb hby at_8) rfl ((if0 _ _).trans (feq (by decide : ¬ ((1 : Int32) = (0 : Int32)))).2) (by decide) (by decide) k) ?_
    show own_Fin p e below s _ _ _ (s₁.setTop (mkF m 20 #[.val (.int p0), .val (.int (1 : Int32)), .unset, .unset] []))
    refine own_step (fun _ k => XS.iloadN X0.here hx rfl (hb hby at_20) rfl k) ?_
    show own_Fin p e below s _ _ _ (s₁.setTop (mkF m 21 #[.val (.int p0), .val (.int (1 : Int32)), .unset, .unset] [(.int (1 : Int32))]))
    refine own_step (fun _ k => XS.iconst X0.here hx rfl (hb hby at_21) k) ?_
    show own_Fin p e below s _ _ _ (s₁.setTop (mkF m 22 #[.val (.int p0), .val (.int (1 : Int32)), .unset, .unset] [(.int (1 : Int32)), (.int (1 : Int32))]))
    refine own_step (fun _ k => XS.icmpNo X0.here hx rfl (hb hby at_22) rfl (teq (by decide : (1 : Int32) = (1 : Int32))).2 k) ?_
    show own_Fin p e below s _ _ _ (s₁.setTop (mkF m 25 #[.val (.int p0), .val (.int (1 : Int32)), .unset, .unset] []))
    obtain ⟨T6, X6, e6, st6⟩ := getS2 X0 hx hZ hown (host := "") (Or.inl (own_w hw 13 rfl)) Via.refl e0 S_OUTPUT (g := (mkF m 25 #[.val (.int p0), .val (.int (1 : Int32)), .unset, .unset] [])) rfl (hb hby at_25)
    refine own_step st6 ?_
    show own_Fin p e below s _ _ _ (T6.setTop (mkF m 28 #[.val (.int p0), .val (.int (1 : Int32)), .unset, .unset] [(.ref s_OUTPUT)]))
    refine own_step (fun _ k => XS.astoreN X6.here hx rfl (hb hby at_28) rfl rfl (l' := #[.val (.int p0), .val (.int (1 : Int32)), .val (.ref s_OUTPUT), .unset]) rfl k) ?_
    show own_Fin p e below s _ _ _ (T6.setTop (mkF m 29 #[.val (.int p0), .val (.int (1 : Int32)), .val (.ref s_OUTPUT), .unset] []))
    refine own_step (fun _ k => XS.iconst X6.here hx rfl (hb hby at_29) k) ?_
    show own_Fin p e below s _ _ _ (T6.setTop (mkF m 30 #[.val (.int p0), .val (.int (1 : Int32)), .val (.ref s_OUTPUT), .unset] [(.int (0 : Int32))]))
    refine own_step (fun _ k => XS.istoreN X6.here hx rfl (hb hby at_30) rfl (l' := #[.val (.int p0), .val (.int (1 : Int32)), .val (.ref s_OUTPUT), .val (.int (0 : Int32))]) rfl k) ?_
    show own_Fin p e below s _ _ _ (T6.setTop (mkF m 31 #[.val (.int p0), .val (.int (1 : Int32)), .val (.ref s_OUTPUT), .val (.int (0 : Int32))] []))
    refine own_step (fun _ k => XS.goto X6.here hx rfl (pc0 := 31) (pc' := 40) rfl (hb hby at_31) (by decide) (by decide) k) ?_
    show own_Fin p e below s _ _ _ (T6.setTop (mkF m 40 #[.val (.int p0), .val (.int (1 : Int32)), .val (.ref s_OUTPUT), .val (.int (0 : Int32))] []))
    refine own_step (fun _ k => XS.aloadN X6.here hx rfl (hb hby at_40) rfl rfl k) ?_
    show own_Fin p e below s _ _ _ (T6.setTop (mkF m 41 #[.val (.int p0), .val (.int (1 : Int32)), .val (.ref s_OUTPUT), .val (.int (0 : Int32))] [(.ref s_OUTPUT)]))
    obtain ⟨cq7, kq7, q7a, q7b, q7c⟩ := isOf hZ e6 E_s_OUTPUT
    obtain ⟨_, _, ⟨T7, L7, k7, n7⟩, -, X7, ⟨Lc7, hQ7, l7, y7, z7⟩, st7⟩ := X6.virtualBack hx (y := own_y0) (z := own_y0) hown (mvT hZ (own_w hw 4 rfl)) (mvT hZ (own_w hw 5 rfl)) (notFace_of_selects (args := #[]) (mvT hZ (own_w hw 7 rfl))) (mvT hZ (own_w hw 7 rfl)) (mvT hZ (own_w hw 6 rfl)) (by decide) (backOf (W := 0) (own_rm2 l Z a0 hw [] s_OUTPUT h0 n0 Z0 S_OUTPUT) hZ (own_w hw 8 rfl) (own_w hw 2 rfl) (by decide) (by decide)) q7a q7c (g := (mkF m 41 #[.val (.int p0), .val (.int (1 : Int32)), .val (.ref s_OUTPUT), .val (.int (0 : Int32))] [(.ref s_OUTPUT)])) rfl (by rw [hml]; rfl) (Steps.refl _) (argsL := []) (rest := []) (lenOf own_pd0 rfl) rfl (by show 2 * 0 + _ ≤ _; exact Nat.le_of_eq rfl) (hb hby at_41) (fun _ _ => ⟨rfl, e6, (by decide : 0 + 0 ≤ _), (by decide : 0 + 0 ≤ _)⟩)
    dsimp only [Pt.U, Pt.locs, Pt.cells, Pt.slots] at X7 l7 y7 z7 st7 hQ7
    subst l7 y7 z7
    obtain ⟨rfl, N7q, e7⟩ := hQ7
    have N7 := Fr.app N0 N7q
    refine own_step (fun _ k => st7.trans k) ?_
    show own_Fin p e below s _ _ _ (T7.setTop (mkF m 44 #[.val (.int p0), .val (.int (1 : Int32)), .val (.ref s_OUTPUT), .val (.int (0 : Int32))] [(.int (0 : Int32))]))
    refine own_step (fun _ k => XS.iloadN X7.here hx rfl (hb hby at_44) rfl k) ?_
    show own_Fin p e below s _ _ _ (T7.setTop (mkF m 45 #[.val (.int p0), .val (.int (1 : Int32)), .val (.ref s_OUTPUT), .val (.int (0 : Int32))] [(.int (0 : Int32)), (.int (0 : Int32))]))
    refine own_step (fun _ k => XS.icmpNo X7.here hx rfl (hb hby at_45) rfl (teq (by decide : (0 : Int32) = (0 : Int32))).2 k) ?_
    show own_Fin p e below s _ _ _ (T7.setTop (mkF m 48 #[.val (.int p0), .val (.int (1 : Int32)), .val (.ref s_OUTPUT), .val (.int (0 : Int32))] []))
    refine own_step (fun _ k => XS.iconst X7.here hx rfl (hb hby at_48) k) ?_
    show own_Fin p e below s _ _ _ (T7.setTop (mkF m 49 #[.val (.int p0), .val (.int (1 : Int32)), .val (.ref s_OUTPUT), .val (.int (0 : Int32))] [(.int (1 : Int32))]))
    refine own_step (fun _ k => XS.goto X7.here hx rfl (pc0 := 49) (pc' := 53) rfl (hb hby at_49) (by decide) (by decide) k) ?_
    show own_Fin p e below s _ _ _ (T7.setTop (mkF m 53 #[.val (.int p0), .val (.int (1 : Int32)), .val (.ref s_OUTPUT), .val (.int (0 : Int32))] [(.int (1 : Int32))]))
    exact own_ret X7 hlk (v := some (.int (1 : Int32))) (fun h => by rw [Bd.returns] at h; cases h) (by decide) (by decide) (by show own_Q4 Z p0 s_INPUT s_OUTPUT s_APPEND h0 n0 _ T7.heap _; rw [e7]; exact ⟨rfl, N7⟩) (fun fs hr => retN X7 hx (t := .boolean) Bd.returns (by simp) (hb hby at_53) hr)
  · rw [hk3]
    show own_Fin p e below s _ _ _ (s₁.setTop (mkF m 7 #[.val (.int p0), .val (.int (2 : Int32)), .unset, .unset] []))
    refine own_step (fun _ k => XS.iloadN X0.here hx rfl (hb hby at_7) rfl k) ?_
    show own_Fin p e below s _ _ _ (s₁.setTop (mkF m 8 #[.val (.int p0), .val (.int (2 : Int32)), .unset, .unset] [(.int (2 : Int32))]))
    refine own_step (fun _ k => XS.ifYes X0.here hx rfl (pc0 := 8) (pc' := 20) rfl (hb hby at_8) rfl ((if0 _ _).trans (feq (by decide : ¬ ((2 : Int32) = (0 : Int32)))).2) (by decide) (by decide) k) ?_
    show own_Fin p e below s _ _ _ (s₁.setTop (mkF m 20 #[.val (.int p0), .val (.int (2 : Int32)), .unset, .unset] []))
    refine own_step (fun _ k => XS.iloadN X0.here hx rfl (hb hby at_20) rfl k) ?_
    show own_Fin p e below s _ _ _ (s₁.setTop (mkF m 21 #[.val (.int p0), .val (.int (2 : Int32)), .unset, .unset] [(.int (2 : Int32))]))
    refine own_step (fun _ k => XS.iconst X0.here hx rfl (hb hby at_21) k) ?_
    show own_Fin p e below s _ _ _ (s₁.setTop (mkF m 22 #[.val (.int p0), .val (.int (2 : Int32)), .unset, .unset] [(.int (1 : Int32)), (.int (2 : Int32))]))
    refine own_step (fun _ k => XS.icmpYes X0.here hx rfl (pc0 := 22) (pc' := 34) rfl (hb hby at_22) rfl (feq (by decide : ¬ ((2 : Int32) = (1 : Int32)))).2 (by decide) (by decide) k) ?_
    show own_Fin p e below s _ _ _ (s₁.setTop (mkF m 34 #[.val (.int p0), .val (.int (2 : Int32)), .unset, .unset] []))
    obtain ⟨T8, X8, e8, st8⟩ := getS2 X0 hx hZ hown (host := "") (Or.inl (own_w hw 11 rfl)) Via.refl e0 S_APPEND (g := (mkF m 34 #[.val (.int p0), .val (.int (2 : Int32)), .unset, .unset] [])) rfl (hb hby at_34)
    refine own_step st8 ?_
    show own_Fin p e below s _ _ _ (T8.setTop (mkF m 37 #[.val (.int p0), .val (.int (2 : Int32)), .unset, .unset] [(.ref s_APPEND)]))
    refine own_step (fun _ k => XS.astoreN X8.here hx rfl (hb hby at_37) rfl rfl (l' := #[.val (.int p0), .val (.int (2 : Int32)), .val (.ref s_APPEND), .unset]) rfl k) ?_
    show own_Fin p e below s _ _ _ (T8.setTop (mkF m 38 #[.val (.int p0), .val (.int (2 : Int32)), .val (.ref s_APPEND), .unset] []))
    refine own_step (fun _ k => XS.iconst X8.here hx rfl (hb hby at_38) k) ?_
    show own_Fin p e below s _ _ _ (T8.setTop (mkF m 39 #[.val (.int p0), .val (.int (2 : Int32)), .val (.ref s_APPEND), .unset] [(.int (1 : Int32))]))
    refine own_step (fun _ k => XS.istoreN X8.here hx rfl (hb hby at_39) rfl (l' := #[.val (.int p0), .val (.int (2 : Int32)), .val (.ref s_APPEND), .val (.int (1 : Int32))]) rfl k) ?_
    show own_Fin p e below s _ _ _ (T8.setTop (mkF m 40 #[.val (.int p0), .val (.int (2 : Int32)), .val (.ref s_APPEND), .val (.int (1 : Int32))] []))
    refine own_step (fun _ k => XS.aloadN X8.here hx rfl (hb hby at_40) rfl rfl k) ?_
    show own_Fin p e below s _ _ _ (T8.setTop (mkF m 41 #[.val (.int p0), .val (.int (2 : Int32)), .val (.ref s_APPEND), .val (.int (1 : Int32))] [(.ref s_APPEND)]))
    obtain ⟨cq9, kq9, q9a, q9b, q9c⟩ := isOf hZ e8 E_s_APPEND
    obtain ⟨_, _, ⟨T9, L9, k9, n9⟩, -, X9, ⟨Lc9, hQ9, l9, y9, z9⟩, st9⟩ := X8.virtualBack hx (y := own_y0) (z := own_y0) hown (mvT hZ (own_w hw 4 rfl)) (mvT hZ (own_w hw 5 rfl)) (notFace_of_selects (args := #[]) (mvT hZ (own_w hw 7 rfl))) (mvT hZ (own_w hw 7 rfl)) (mvT hZ (own_w hw 6 rfl)) (by decide) (backOf (W := 0) (own_rm3 l Z a0 hw [] s_APPEND s_OUTPUT h0 n0 Z0 S_OUTPUT ne_s_APPEND_s_OUTPUT) hZ (own_w hw 8 rfl) (own_w hw 2 rfl) (by decide) (by decide)) q9a q9c (g := (mkF m 41 #[.val (.int p0), .val (.int (2 : Int32)), .val (.ref s_APPEND), .val (.int (1 : Int32))] [(.ref s_APPEND)])) rfl (by rw [hml]; rfl) (Steps.refl _) (argsL := []) (rest := []) (lenOf own_pd0 rfl) rfl (by show 2 * 0 + _ ≤ _; exact Nat.le_of_eq rfl) (hb hby at_41) (fun _ _ => ⟨rfl, e8, (by decide : 0 + 0 ≤ _), (by decide : 0 + 0 ≤ _)⟩)
    dsimp only [Pt.U, Pt.locs, Pt.cells, Pt.slots] at X9 l9 y9 z9 st9 hQ9
    subst l9 y9 z9
    obtain ⟨rfl, N9q, e9⟩ := hQ9
    have N9 := Fr.app N0 N9q
    refine own_step (fun _ k => st9.trans k) ?_
    show own_Fin p e below s _ _ _ (T9.setTop (mkF m 44 #[.val (.int p0), .val (.int (2 : Int32)), .val (.ref s_APPEND), .val (.int (1 : Int32))] [(.int (1 : Int32))]))
    refine own_step (fun _ k => XS.iloadN X9.here hx rfl (hb hby at_44) rfl k) ?_
    show own_Fin p e below s _ _ _ (T9.setTop (mkF m 45 #[.val (.int p0), .val (.int (2 : Int32)), .val (.ref s_APPEND), .val (.int (1 : Int32))] [(.int (1 : Int32)), (.int (1 : Int32))]))
    refine own_step (fun _ k => XS.icmpNo X9.here hx rfl (hb hby at_45) rfl (teq (by decide : (1 : Int32) = (1 : Int32))).2 k) ?_
    show own_Fin p e below s _ _ _ (T9.setTop (mkF m 48 #[.val (.int p0), .val (.int (2 : Int32)), .val (.ref s_APPEND), .val (.int (1 : Int32))] []))
    refine own_step (fun _ k => XS.iconst X9.here hx rfl (hb hby at_48) k) ?_
    show own_Fin p e below s _ _ _ (T9.setTop (mkF m 49 #[.val (.int p0), .val (.int (2 : Int32)), .val (.ref s_APPEND), .val (.int (1 : Int32))] [(.int (1 : Int32))]))
    refine own_step (fun _ k => XS.goto X9.here hx rfl (pc0 := 49) (pc' := 53) rfl (hb hby at_49) (by decide) (by decide) k) ?_
    show own_Fin p e below s _ _ _ (T9.setTop (mkF m 53 #[.val (.int p0), .val (.int (2 : Int32)), .val (.ref s_APPEND), .val (.int (1 : Int32))] [(.int (1 : Int32))]))
    exact own_ret X9 hlk (v := some (.int (1 : Int32))) (fun h => by rw [Bd.returns] at h; cases h) (by decide) (by decide) (by show own_Q4 Z p0 s_INPUT s_OUTPUT s_APPEND h0 n0 _ T9.heap _; rw [e9]; exact ⟨rfl, N9⟩) (fun fs hr => retN X9 hx (t := .boolean) Bd.returns (by simp) (hb hby at_53) hr)

set_option maxRecDepth 65536 in
set_option maxHeartbeats 40000000 in
theorem comes_1 {Post : Tables → Env → Array Value → State → Outcome → State → Prop} (hpost : ∀ tb e args s v u, (limb_1_1.after args s (.returned v) u = true ∧ limb_1_2.after args s (.returned v) u = true ∧ True) → FrameEnd s (.returned v) u (Jvm.fieldLocs frame_1_writes args s ++ Jvm.arrayLocs frame_1_arrays args s ++ Jvm.staticLocs frame_1_statics s) 0 0 → Post tb e args s (.returned v) u) :
    ArmFor flags0 classFile x code maxLocals ret World_1 tables_1 room_1 Calls_1 rest_1 Pre_1 Post := by
  intro l hfl _ _ p e ha hc hk s m args below hf hA hF happ hP
  obtain ⟨hcalls, hrest, hpre⟩ := hP
  obtain ⟨-, -, -, hnamed, -, -, -, hat⟩ := (Spec.applies_iff hf).mp happ
  obtain ⟨hg, hn⟩ := and_e (Cond.before_iff.mp (show (Jvm.Cond.and given_1 narrow_1).before args s = true from hpre))
  obtain ⟨cj1a, cj1b⟩ := and_e hg
  obtain ⟨w0, rfl⟩ : ∃ w0 : Value, args = #[w0] := by
    have hs : args.size = 1 := by simpa [Cond.value, given_1] using cj1a
    obtain ⟨L⟩ := args
    match L, hs with
    | [w0], _ => exact ⟨w0, rfl⟩
  have hw := fun d (hd : d ∈ tables_1) => atoms_spec (ws := Jvm.Cond.code x code maxLocals ret :: tables_1) hat d (List.mem_cons_of_mem _ hd)
  have hfit : Fit s := fun {y c} hc i hi => by
    obtain ⟨ha, rfl⟩ := Array.getElem?_eq_some_iff.mp hc
    have q := List.all_eq_true.mp ((Array.all_eq_true_iff_forall_mem.mp hF) _ (Array.getElem_mem ha)) i (List.mem_range.mpr hi)
    simpa [Array.getElem?_eq_getElem hi] using q
  obtain ⟨i0, ei0⟩ := is_v cj1b
  obtain rfl : w0 = (.int i0) := Option.some.inj ei0
  obtain ⟨cj2a, cj2b⟩ := and_e hn
  obtain ⟨cj3a, cj3b⟩ := and_e cj2b
  obtain ⟨cj4a, cj4b⟩ := and_e cj3b
  obtain ⟨cj5a, cj5b⟩ := and_e cj4b
  obtain ⟨cj6a, cj6b⟩ := and_e cj5b
  obtain ⟨s_INPUT, ev_s_INPUT⟩ := exa_v cj2a
  have S_INPUT : Sta s s.heap "com/example/nearfield/nearfield/Redirection$Operator" "INPUT" "Lcom/example/nearfield/nearfield/Redirection$Operator;" (.ref s_INPUT) := Sta.start ev_s_INPUT (Or.inr ⟨(own_w hw 2 rfl), (own_w hw 3 rfl)⟩)
  have E_s_INPUT : Exa s s.heap s_INPUT "com/example/nearfield/nearfield/Redirection$Operator" := Exa.start ev_s_INPUT cj2a
  obtain ⟨s_OUTPUT, ev_s_OUTPUT⟩ := exa_v cj3a
  have S_OUTPUT : Sta s s.heap "com/example/nearfield/nearfield/Redirection$Operator" "OUTPUT" "Lcom/example/nearfield/nearfield/Redirection$Operator;" (.ref s_OUTPUT) := Sta.start ev_s_OUTPUT (Or.inr ⟨(own_w hw 2 rfl), (own_w hw 10 rfl)⟩)
  have E_s_OUTPUT : Exa s s.heap s_OUTPUT "com/example/nearfield/nearfield/Redirection$Operator" := Exa.start ev_s_OUTPUT cj3a
  obtain ⟨s_APPEND, ev_s_APPEND⟩ := exa_v cj6a
  have S_APPEND : Sta s s.heap "com/example/nearfield/nearfield/Redirection$Operator" "APPEND" "Lcom/example/nearfield/nearfield/Redirection$Operator;" (.ref s_APPEND) := Sta.start ev_s_APPEND (Or.inr ⟨(own_w hw 2 rfl), (own_w hw 12 rfl)⟩)
  have E_s_APPEND : Exa s s.heap s_APPEND "com/example/nearfield/nearfield/Redirection$Operator" := Exa.start ev_s_APPEND cj6a
  have ev_wordinal_s_INPUT := eqv_i rfl cj4a
  have F_ordinal_s_INPUT : Fld s s.heap s_INPUT "java/lang/Enum" "ordinal" "I" (.int (0 : Int32)) := own_fldV ev_s_INPUT ev_wordinal_s_INPUT
  have ev_wordinal_s_OUTPUT := eqv_i rfl cj5a
  have F_ordinal_s_OUTPUT : Fld s s.heap s_OUTPUT "java/lang/Enum" "ordinal" "I" (.int (1 : Int32)) := own_fldV ev_s_OUTPUT ev_wordinal_s_OUTPUT
  have ev_wordinal_s_APPEND := eqv_i rfl cj6b
  have F_ordinal_s_APPEND : Fld s s.heap s_APPEND "java/lang/Enum" "ordinal" "I" (.int (2 : Int32)) := own_fldV ev_s_APPEND ev_wordinal_s_APPEND
  obtain ⟨n, o, h1, h2, h3, _, L, rfl, ⟨rfl, N⟩, hq⟩ := own_rm4 l s _ hw tables_1 i0 s_INPUT s_OUTPUT s_APPEND s.heap s.heap.size (Nat.le_refl _) S_INPUT E_s_INPUT S_OUTPUT (Fld.ne F_ordinal_s_INPUT F_ordinal_s_OUTPUT (fun q => absurd (Value.int.inj q) (by decide))) E_s_OUTPUT S_APPEND E_s_APPEND (Fld.ne F_ordinal_s_APPEND F_ordinal_s_OUTPUT (fun q => absurd (Value.int.inj q) (by decide))) p e ha hc hk s m _ below hf ((Spec.applies_iff_loose hf).mp happ).1 ⟨rfl, State.Warmed39.refl s, rfl⟩ trivial
  refine ⟨n, _, h1, h2, h3, hpost _ _ _ _ _ _ ⟨Cond.after_iff.mpr rfl, Cond.after_iff.mpr (eq_i res_at (Term.int_eval (1)) rfl), trivial⟩ ⟨hq.1, hq.2.1, (hq.2.2.sift fun y hy => Or.inr (N y hy)).mono (by decide) (by decide)⟩⟩
theorem main_1_1 : Claimed_1_1 := comes_1 fun _ _ _ _ _ _ h hF => ⟨h.1, hF⟩
theorem main_1_2 : Claimed_1_2 := comes_1 fun _ _ _ _ _ _ h hF => ⟨h.2.1, hF⟩
end Jvm.Pilot.@@N@@
namespace Jvm.Pilot.@@N@@
open Jvm Jvm.ClassFile Sem Op Lib Jvm.Free Jvm.Stand Jvm.Pilot.@@N@@.Jvm.D
/-! MADE BY PROGRAM (witnessworld.py) out of the Statement's table words and the real class files: 12 classes; the members and pool entries that the words name. The judged class is class 1, her method 1. -/
namespace start1
open Jvm.ClassFile
def u (s : String) : CpInfo := .utf8 (stringToUtf16 s)
/-- a pool by its gaps: so many unusable entries, then the entry; so many at the end -/
def gap : Nat → List CpInfo → List CpInfo
  | 0, r => r
  | n + 1, r => .unusable :: gap n r
def poolList (es : List (Nat × CpInfo)) (last : Nat) : List CpInfo := es.foldr (fun e r => gap e.1 (e.2 :: r)) (gap last [])
def pool (es : List (Nat × CpInfo)) (last : Nat) : Array CpInfo := ⟨poolList es last⟩
def fileOf (pool : Array CpInfo) (this : Nat) (attrs : Array Attribute := #[]) (ms : Array MethodInfo := #[]) (fl : Nat := 33) (sup : Nat := 0) (ifs : Array Nat := #[]) (fds : Array FieldInfo := #[]) : ClassFile where
  minorVersion := 0
  majorVersion := 65
  constantPool := pool
  accessFlags := fl
  thisClass := this
  superClass := sup
  interfaces := ifs
  fields := fds
  methods := ms
  attributes := attrs
def plain (name : String) (sup : Option ClassId) : Class where
  name := name
  kind := .ordinary
  loader := none
  accessFlags := 33
  super := sup
  interfaces := #[]
  cf := none
  fields := #[]
  methods := #[]
  instanceTypes := #[]
  staticTypes := #[]
  resolved := #[]
  callSites := []
  init := .initialized
  statics := none
  mirror := none

def pool0 : Array CpInfo := pool [(5, u "<init>"), (0, u "()V"), (1, .class_ 10), (1, u "java/lang/Object")] 113

def k0m0 : Method := { name := "<init>", desc := "()V", sig := { parameters := [], returnType := none }, accessFlags := 1, code := none }
/-- java/lang/Object -/
def k0 : Class := { plain "java/lang/Object" none with
  accessFlags := 33
  interfaces := #[]
  cf := some (fileOf pool0 8 #[] #[{ accessFlags := 1, nameIndex := 5, descriptorIndex := 6, attributes := #[] }] 33 0 #[] #[])
  fields := #[]
  methods := #[k0m0]
  instanceTypes := #[]
  staticTypes := #[]
  resolved := Array.replicate 124 none
  statics := none }

def pool1 : Array CpInfo := pool [(2, .class_ 4), (1, u "java/lang/Object"), (0, u "<init>"), (0, u "()V"), (0, .integer 2147483647), (0, .fieldref 9 10), (0, .class_ 11), (0, .nameAndType 12 13), (0, u "com/example/nearfield/nearfield/Redirection$Operator"), (0, u "INPUT"), (0, u "Lcom/example/nearfield/nearfield/Redirection$Operator;"), (0, .fieldref 9 15), (0, .nameAndType 16 13), (0, u "OUTPUT"), (0, .fieldref 9 18), (0, .nameAndType 19 13), (0, u "APPEND"), (0, .methodref 9 21), (0, .nameAndType 22 23), (0, u "reads"), (0, u "()Z"), (0, .class_ 25), (0, u "com/example/nearfield/nearfield/OperatorReadsPinLaw"), (2, u "law"), (0, u "(I)Z")] 7

def k1m0 : Method := { name := "<init>", desc := "()V", sig := { parameters := [], returnType := none }, accessFlags := 1, code := none }
def k1c1 : Code := { maxStack := 2, maxLocals := 4, code := code, exceptionTable := #[], attributes := #[] }
def k1m1 : Method := { name := "law", desc := "(I)Z", sig := { parameters := [.int], returnType := some .boolean }, accessFlags := 9, code := some k1c1 }
/-- com/example/nearfield/nearfield/OperatorReadsPinLaw -/
def k1 : Class := { plain "com/example/nearfield/nearfield/OperatorReadsPinLaw" (some 0) with
  accessFlags := 49
  interfaces := #[]
  cf := some (fileOf pool1 24 #[] #[{ accessFlags := 1, nameIndex := 5, descriptorIndex := 6, attributes := #[] }, { accessFlags := 9, nameIndex := 28, descriptorIndex := 29, attributes := #[] }] 49 2 #[] #[])
  fields := #[]
  methods := #[k1m0, k1m1]
  instanceTypes := #[]
  staticTypes := #[]
  resolved := Array.replicate 37 none
  statics := none }

def pool2 : Array CpInfo := pool [(1, .class_ 2), (0, u "java/lang/constant/Constable"), (0, .class_ 4), (0, u "java/lang/Object")] 6

/-- java/lang/constant/Constable -/
def k2 : Class := { plain "java/lang/constant/Constable" (some 0) with
  accessFlags := 1537
  interfaces := #[]
  cf := some (fileOf pool2 1 #[] #[] 1537 3 #[] #[])
  fields := #[]
  methods := #[]
  instanceTypes := #[]
  staticTypes := #[]
  resolved := Array.replicate 11 none
  statics := none }

def pool3 : Array CpInfo := pool [(1, .class_ 2), (0, u "java/lang/Comparable"), (0, .class_ 4), (0, u "java/lang/Object")] 7

/-- java/lang/Comparable -/
def k3 : Class := { plain "java/lang/Comparable" (some 0) with
  accessFlags := 1537
  interfaces := #[]
  cf := some (fileOf pool3 1 #[] #[] 1537 3 #[] #[])
  fields := #[]
  methods := #[]
  instanceTypes := #[]
  staticTypes := #[]
  resolved := Array.replicate 12 none
  statics := none }

def pool4 : Array CpInfo := pool [(1, .class_ 2), (0, u "java/io/Serializable"), (0, .class_ 4), (0, u "java/lang/Object")] 2

/-- java/io/Serializable -/
def k4 : Class := { plain "java/io/Serializable" (some 0) with
  accessFlags := 1537
  interfaces := #[]
  cf := some (fileOf pool4 1 #[] #[] 1537 3 #[] #[])
  fields := #[]
  methods := #[]
  instanceTypes := #[]
  staticTypes := #[]
  resolved := Array.replicate 7 none
  statics := none }

def pool5 : Array CpInfo := pool [(2, .class_ 4), (1, u "java/lang/Enum"), (0, u "name"), (0, u "Ljava/lang/String;"), (2, u "ordinal"), (0, u "I"), (1, .class_ 14), (1, u "java/lang/Object"), (4, u "hash"), (86, .class_ 108), (1, u "java/lang/Enum$EnumDesc"), (2, .class_ 112), (0, u "java/lang/constant/Constable"), (0, .class_ 114), (0, u "java/lang/Comparable"), (0, .class_ 116), (0, u "java/io/Serializable")] 87

/-- java/lang/Enum -/
def k5 : Class := { plain "java/lang/Enum" (some 0) with
  accessFlags := 1057
  interfaces := #[2, 3, 4]
  cf := some (fileOf pool5 2 #[.nestMembers #[106]] #[] 1057 12 #[111, 113, 115] #[{ accessFlags := 18, nameIndex := 5, descriptorIndex := 6, attributes := #[] }, { accessFlags := 18, nameIndex := 9, descriptorIndex := 10, attributes := #[] }, { accessFlags := 2, nameIndex := 19, descriptorIndex := 10, attributes := #[] }])
  fields := #[{ name := "name", type := (.object "java/lang/String"), accessFlags := 18, slot := 0, constantValue := 0 }, { name := "ordinal", type := .int, accessFlags := 18, slot := 1, constantValue := 0 }, { name := "hash", type := .int, accessFlags := 2, slot := 2, constantValue := 0 }]
  methods := #[]
  instanceTypes := #[(.object "java/lang/String"), .int, .int]
  staticTypes := #[]
  resolved := Array.replicate 204 none
  statics := none }

def pool6 : Array CpInfo := pool [(1, .class_ 2), (0, u "com/example/nearfield/nearfield/Redirection$Operator"), (2, u "INPUT"), (0, u "Lcom/example/nearfield/nearfield/Redirection$Operator;"), (0, .fieldref 1 8), (0, .nameAndType 9 6), (0, u "OUTPUT"), (2, u "APPEND"), (2, u "$VALUES"), (0, u "[Lcom/example/nearfield/nearfield/Redirection$Operator;"), (6, .class_ 25), (1, u "java/lang/Enum"), (8, u "symbol"), (0, u "Ljava/lang/String;"), (32, u "reads"), (0, u "()Z"), (9, .class_ 80), (0, u "com/example/nearfield/nearfield/Redirection")] 2

def k6c0 : Code := { maxStack := 2, maxLocals := 1, code := prog_22_method_5_code, exceptionTable := #[], attributes := #[] }
def k6m0 : Method := { name := "reads", desc := "()Z", sig := { parameters := [], returnType := some .boolean }, accessFlags := 0, code := some k6c0 }
/-- com/example/nearfield/nearfield/Redirection$Operator -/
def k6 : Class := { plain "com/example/nearfield/nearfield/Redirection$Operator" (some 5) with
  accessFlags := 16432
  interfaces := #[]
  cf := some (fileOf pool6 1 #[.nestHost 79] #[{ accessFlags := 0, nameIndex := 68, descriptorIndex := 69, attributes := #[] }] 16432 23 #[] #[{ accessFlags := 16409, nameIndex := 5, descriptorIndex := 6, attributes := #[] }, { accessFlags := 16409, nameIndex := 9, descriptorIndex := 6, attributes := #[] }, { accessFlags := 16409, nameIndex := 12, descriptorIndex := 6, attributes := #[] }, { accessFlags := 18, nameIndex := 34, descriptorIndex := 35, attributes := #[] }, { accessFlags := 4122, nameIndex := 15, descriptorIndex := 16, attributes := #[] }])
  fields := #[{ name := "INPUT", type := (.object "com/example/nearfield/nearfield/Redirection$Operator"), accessFlags := 16409, slot := 0, constantValue := 0 }, { name := "OUTPUT", type := (.object "com/example/nearfield/nearfield/Redirection$Operator"), accessFlags := 16409, slot := 1, constantValue := 0 }, { name := "APPEND", type := (.object "com/example/nearfield/nearfield/Redirection$Operator"), accessFlags := 16409, slot := 2, constantValue := 0 }, { name := "symbol", type := (.object "java/lang/String"), accessFlags := 18, slot := 3, constantValue := 0 }, { name := "$VALUES", type := (.array (.object "com/example/nearfield/nearfield/Redirection$Operator")), accessFlags := 4122, slot := 3, constantValue := 0 }]
  methods := #[k6m0]
  instanceTypes := #[(.object "java/lang/String"), .int, .int, (.object "java/lang/String")]
  staticTypes := #[(.object "com/example/nearfield/nearfield/Redirection$Operator"), (.object "com/example/nearfield/nearfield/Redirection$Operator"), (.object "com/example/nearfield/nearfield/Redirection$Operator"), (.array (.object "com/example/nearfield/nearfield/Redirection$Operator"))]
  resolved := Array.replicate 83 none
  statics := some 0 }

def pool7 : Array CpInfo := pool [(1, u "java/lang/Cloneable"), (0, .class_ 1), (0, u "java/lang/Object"), (0, .class_ 3)] 3

/-- java/lang/Cloneable -/
def k7 : Class := { plain "java/lang/Cloneable" (some 0) with
  accessFlags := 1537
  interfaces := #[]
  cf := some (fileOf pool7 2 #[] #[] 1537 4 #[] #[])
  fields := #[]
  methods := #[]
  instanceTypes := #[]
  staticTypes := #[]
  resolved := Array.replicate 8 none
  statics := none }

/-- the primitive byte -/
def k8 : Class := { plain "byte" none with kind := .primitive 'B', accessFlags := 0x411 }
/-- [B -/
def k9 : Class := { plain "[B" (some 0) with kind := .array 8 .byte, interfaces := #[7, 4], accessFlags := 1041 }

/-- the primitive int -/
def k10 : Class := { plain "int" none with kind := .primitive 'I', accessFlags := 0x411 }
/-- [I -/
def k11 : Class := { plain "[I" (some 0) with kind := .array 10 .int, interfaces := #[7, 4], accessFlags := 1041 }

def heap : Heap := #[{ cls := 6, slots := #[.ref 1, .ref 2, .ref 3, .null], vm := .statics 6 },
  { cls := 6, slots := #[.null, .int 0, .int 0, .null], vm := .none },
  { cls := 6, slots := #[.null, .int 1, .int 0, .null], vm := .none },
  { cls := 6, slots := #[.null, .int 2, .int 0, .null], vm := .none }]
def classes : Array Class := #[k0, k1, k2, k3, k4, k5, k6, k7, k8, k9, k10, k11]
def interned : List (Array UInt16 × Addr) := []
def slotsUsed : Nat := 16
def theMethod : MethodId := ⟨1, 1⟩
def args0 : Array Value := #[.int 1]
def aboutOver (below : List Frame) : State where
  vm := { classes := classes, interned := interned.toArray }
  heap := heap
  slotsUsed := slotsUsed
  threads := #[{ frames := .invoking theMethod args0 :: below }]
def below0 : List Frame := [.native { method := ⟨0, 0⟩, args := #[] }]
def about1 : State := aboutOver below0
def p0 : Program := .bare "" "" ""
def e0 : Env := launch0.env 0 0 0
theorem w_frames : about1.frames = Frame.invoking theMethod args0 :: below0 := rfl
set_option maxRecDepth 65536 in
theorem w_args : argsFit about1.vm theMethod args0 = true := by decide +kernel
set_option maxRecDepth 65536 in
theorem w_heap : heapFits about1 = true := by decide +kernel
set_option maxRecDepth 65536 in
theorem w_runnable : about1.curStatus? = some .runnable := by decide +kernel
set_option maxRecDepth 65536 in
theorem w_alone : about1.alone = true := by decide +kernel
set_option maxRecDepth 65536 in
theorem w_named : about1.methodNamed? x = some theMethod := by decide +kernel
set_option maxRecDepth 65536 in
theorem w_hears : about1.hears theMethod below0 = true := by decide +kernel
set_option maxRecDepth 65536 in
theorem w_ripe : about1.ripe theMethod args0 below0 = true := by decide +kernel
theorem w_running : about1.status = .running := rfl
set_option maxRecDepth 65536 in
theorem w_room : about1.hasRoom e0.platform room_1 = true :=
  launch0.hasRoom_least _ room_1 (by decide +kernel) (by decide +kernel) (by decide +kernel) (by decide +kernel) (by decide +kernel) (by decide +kernel)
theorem allAtoms_all (ts : List Jvm.Cond) (a : Array Jvm.Value) (st : Jvm.State) : (allAtoms ts).before a st = ts.all (fun c => c.before a st) := by
  induction ts with
  | nil => rfl
  | cons c t ih =>
    show (Jvm.Cond.and c (allAtoms t)).before a st = _
    rw [Jvm.Cond.before_and, ih, List.all_cons]
def words1 : List Jvm.Cond := Jvm.Cond.code x code maxLocals ret :: tables_1
/-- a 'code' word, met by the world's own term for the bytes: nothing is compared byte by byte -/
theorem code_word {y : MethodName} {bytes : ByteArray} {mx : Nat} {rt : Option FieldType} {a : Array Value} {s : State} {m : MethodId} {meth : Method} {c : Code} (h1 : s.methodNamed? y = some m) (h2 : s.vm.method? m = some meth) (h3 : meth.code = some c) (h4 : c.code = bytes)
    (h5 : (c.maxLocals == mx && c.exceptionTable.isEmpty && decide (c.maxStack ≤ mostOperands) && decide (meth.sig.returnType = rt) && !meth.locks && decide (parseMethodDescriptor y.desc = some meth.sig)) = true) : (Jvm.Cond.code y bytes mx rt).before a s = true := by
  simp only [Bool.and_eq_true, beq_iff_eq, Bool.not_eq_true', decide_eq_true_eq] at h5
  obtain ⟨⟨⟨⟨⟨g1, g2⟩, g3⟩, g4⟩, g5⟩, g6⟩ := h5
  simp [Cond.before, Cond.holds, Cond.value, h1, h2, h3, h4, g1, g2, g3, g4, g5, g6]
def isCode : Jvm.Cond → Bool
  | .code _ _ _ _ => true
  | _ => false
theorem all_split {L : List Jvm.Cond} {P : Jvm.Cond → Bool} (h1 : L.all (fun c => isCode c || P c) = true) (h2 : ∀ c ∈ L.filter isCode, P c = true) : L.all P = true := by
  refine List.all_eq_true.mpr fun c hc => ?_
  have h := List.all_eq_true.mp h1 c hc
  rcases Bool.eq_false_or_eq_true (isCode c) with hi | hi
  · exact h2 c (List.mem_filter.mpr ⟨hc, hi⟩)
  · simpa [hi] using h
set_option maxRecDepth 65536 in
theorem w_c0 : (Jvm.Cond.code x code maxLocals ret).before args0 about1 = true := code_word (m := ⟨1, 1⟩) (meth := k1m1) (c := k1c1) (by decide +kernel) rfl rfl rfl (by decide +kernel)
set_option maxRecDepth 65536 in
theorem w_c1 : (Jvm.Cond.code ({ cls := "com/example/nearfield/nearfield/Redirection$Operator", name := "reads", desc := "()Z" } : Jvm.MethodName) prog_22_method_5_code (1 : Nat) (Option.some Jvm.ClassFile.FieldType.boolean)).before args0 about1 = true := code_word (m := ⟨6, 0⟩) (meth := k6m0) (c := k6c0) (by decide +kernel) rfl rfl rfl (by decide +kernel)
def codes1 : List Jvm.Cond := [Jvm.Cond.code x code maxLocals ret, Jvm.Cond.code ({ cls := "com/example/nearfield/nearfield/Redirection$Operator", name := "reads", desc := "()Z" } : Jvm.MethodName) prog_22_method_5_code (1 : Nat) (Option.some Jvm.ClassFile.FieldType.boolean)]
set_option maxRecDepth 65536 in
theorem codes_eq : words1.filter isCode = codes1 := rfl
theorem w_codes : ∀ c ∈ words1.filter isCode, c.before args0 about1 = true := by
  rw [codes_eq]
  intro c hc
  simp only [codes1, List.mem_cons, List.not_mem_nil, or_false] at hc
  rcases hc with rfl | rfl
  · exact w_c0
  · exact w_c1
set_option maxRecDepth 65536 in
theorem w_t1 : words1.all (fun c => isCode c || c.before args0 about1) = true := by decide +kernel
theorem w_tables : (allAtoms (Jvm.Cond.code x code maxLocals ret :: tables_1)).before args0 about1 = true := by
  rw [allAtoms_all]
  show words1.all (fun c => c.before args0 about1) = true
  refine all_split ?_ w_codes
  rw [w_t1]
set_option maxRecDepth 65536 in
theorem w_case : (Jvm.Cond.and given_1 narrow_1).before args0 about1 = true := by decide +kernel
theorem w_applies : (headSpec (Jvm.Cond.code x code maxLocals ret :: tables_1) room_1).applies x e0.platform about1 = true :=
  (Spec.applies_iff w_frames).mpr ⟨w_running, w_runnable, w_alone, w_named, w_hears, w_ripe, w_room, w_tables⟩
theorem atStart : AtStart classFile x code maxLocals ret World_1 tables_1 room_1 Calls_1 rest_1 Pre_1 launch0 p0 e0 about1 theMethod args0 below0 :=
  ⟨lists_1, trivial, launch0.admits_env _ _ _, launch0.least_env, fairChoices_fair.cas, fairChoices_fair.clock, w_frames, w_args, w_heap, w_applies, trivial, trivial, w_case⟩
end start1
theorem witness_1 : WitnessClaimed_1 := ⟨start1.p0, start1.e0, start1.about1, start1.theMethod, start1.args0, start1.below0, start1.atStart⟩
end Jvm.Pilot.@@N@@
