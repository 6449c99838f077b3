import JvmDerived
import JvmDerived.Pilot.@@N@@Statement
import JvmDerived.Pilot.@@N@@Code
set_option linter.unusedVariables false
set_option linter.unusedSimpArgs false
namespace Jvm.RoadKit
open Sem ClassFile Op Lib Jvm.Stand Jvm.Free Jvm.LawKit
section Own
variable {p : Program} {l : Launch} {e : Env} {R : Room} {s : State} {m : MethodId} {args : Array Value} {below : List Frame} {meth : Method} {c : Code} {T : State} {locs : List Loc} {cells slots : Nat} {Q : Option Value → Heap → List Loc → Prop} {kc ks : Nat}
/-- the run from S comes to its end and leaves what Q says -/
def own_Fin (p : Program) (e : Env) (below : List Frame) (s : State) (kc ks : Nat) (Q : Option Value → Heap → List Loc → Prop) (S : State) : Prop :=
  ∃ U o, Steps p.tables e below S U ∧ U.status = .running ∧ Ended U below o ∧ ∃ v L, o = .returned v ∧ Q v U.heap L ∧ FrameEnd s o U L kc ks
theorem own_step {S S' : State} (h : ∀ t, Steps p.tables e below S' t → Steps p.tables e below S t) (k : own_Fin p e below s kc ks Q S') : own_Fin p e below s kc ks Q S := by
  obtain ⟨U, o, h1, r⟩ := k
  exact ⟨U, o, h _ h1, r⟩
theorem own_ret (X : Stand p l e R s m args below meth c T locs cells slots) (hlk : meth.locks = false) {v : Option Value} (hv : meth.sig.returnType = none → v = none) (hc : cells ≤ kc) (hs : slots ≤ ks) (hQ : Q v T.heap locs) {S : State}
    (hst : ∀ fs, (∀ (f : JFrame) (acts : List Action), f.method = m → f.locked = none → f.entered = [] → (doReturn e (T.setTop f) acts v).1 = T.setFrames fs) → Steps p.tables e below S (T.setFrames fs)) : own_Fin p e below s kc ks Q S := by
  obtain ⟨fs, hr, hrun, hended, hW, hsame⟩ := X.leave (v := v) hv hlk
  exact ⟨_, _, hst fs hr, hrun, hended, _, _, rfl, hQ, ⟨_, rfl⟩, hW, hsame.mono hc hs⟩
def own_FinW (p : Program) (e : Env) (below : List Frame) (s : State) (kc ks : Nat) (Q : Option Value → Heap → List Loc → Prop) (S : State) : Prop :=
  ∃ U o, Steps p.tables e below S U ∧ U.status = .running ∧ Ended U below o ∧ ∃ v L, o = .returned v ∧ Q v U.heap L ∧ ReturnedEndW s o U L kc ks
theorem own_stepW {S S' : State} (h : ∀ t, Steps p.tables e below S' t → Steps p.tables e below S t) (k : own_FinW p e below s kc ks Q S') : own_FinW p e below s kc ks Q S := by
  obtain ⟨U, o, h1, r⟩ := k
  exact ⟨U, o, h _ h1, r⟩
theorem own_retW {vm1 : Vm} (X : Stand p l e R (s.setVm vm1) m args below meth c T locs cells slots) (hlk : meth.locks = false) {n : Nat} (hS : s.Since vm1 n) {h : Heap} (eT : T.heap = h) (hn : n ≤ h.size) {v : Option Value} (hv : meth.sig.returnType = none → v = none) (hc : cells ≤ kc) (hs : slots ≤ ks) (hQ : Q v T.heap locs) {S : State}
    (hst : ∀ fs, (∀ (f : JFrame) (acts : List Action), f.method = m → f.locked = none → f.entered = [] → (doReturn e (T.setTop f) acts v).1 = T.setFrames fs) → Steps p.tables e below S (T.setFrames fs)) : own_FinW p e below s kc ks Q S := by
  obtain ⟨fs, hr, hrun, hended, hE⟩ := X.leaveW hS (by rw [eT]; exact hn) (v := v) hv hlk
  exact ⟨_, _, hst fs hr, hrun, hended, _, _, rfl, hQ, hE.1, hE.2.1, hE.2.2.1, hE.2.2.2.mono hc hs⟩
theorem own_castW {g g' : JFrame} (q : g = g') (k : own_FinW p e below s kc ks Q (T.setTop g')) : own_FinW p e below s kc ks Q (T.setTop g) := q ▸ k
theorem own_m0 : Jvm.Free.Fl.Mag64 1 FP.dconst0 := by unfold Jvm.Free.Fl.Mag64; decide
theorem own_mz : Jvm.Free.Fl.Mag64 1 (0 : UInt64) := by unfold Jvm.Free.Fl.Mag64; decide
theorem own_m1 : Jvm.Free.Fl.Mag64 1024 FP.dconst1 := by unfold Jvm.Free.Fl.Mag64; decide
/-- roads that meet again: what lies behind the meeting is walked once -/
theorem own_join {G : Prop} {F : State → Prop} (X : Stand p l e R s m args below meth c T locs cells slots) {h : Heap} (eT : T.heap = h) {β : Type} (g : β → JFrame) (hyp : β → Prop)
    (body : ∀ Tj : State, Stand p l e R s m args below meth c Tj locs cells slots → Tj.heap = h → ∀ b, hyp b → F (Tj.setTop (g b)))
    (cont : (∀ Tj : State, Stand p l e R s m args below meth c Tj locs cells slots → Tj.heap = h → ∀ b, hyp b → F (Tj.setTop (g b))) → G) : G := cont body
theorem own_ltn {n k j : Int32} (h : ¬ n < k) (q : j < k) : j < n := by
  rw [Int32.lt_iff_toInt_lt] at *
  omega
theorem own_cast {g g' : JFrame} (q : g = g') (k : own_Fin p e below s kc ks Q (T.setTop g')) : own_Fin p e below s kc ks Q (T.setTop g) := q ▸ k
theorem own_getJ {cl : Cell} {vs : List Int64} {j : Int32} (H : Has cl (vs.map Value.long) (.long 0)) (q : ¬ (j < 0 ∨ cl.slots.size ≤ j.toNatClampNeg)) : cl.slots[j.toNatClampNeg]? = some (.long (vs.getD j.toNatClampNeg 0)) := by
  refine Has.at H q ?_
  simp only [List.getD_eq_getElem?_getD, List.getElem?_map]
  cases vs[j.toNatClampNeg]? <;> rfl
def own_Nst (h : Heap) (x : Addr) : Prop := ∃ c : Cell, h[x]? = some c ∧ c.vm.isStatics = false
theorem own_nst_exa {Z : State} {h : Heap} {a : Addr} {C : String} (F : Exa Z h a C) : own_Nst h a := by
  obtain ⟨c, _, h1, _, _, h4, _⟩ := F
  exact ⟨c, h1, h4⟩
theorem own_nst_arv {Z : State} {h : Heap} {a : Addr} {k : ClassId} {ty : FieldType} {n : Int32} {vs : List Value} {d : Value} (F : Arv Z h a k ty n vs d) : own_Nst h a := by
  obtain ⟨c, A, _⟩ := F
  exact ⟨c, A.1, A.plain⟩
theorem own_sta_keep {Z : State} {h h' : Heap} {C n d : String} {v : Value} {ws : List Addr} (F : Sta Z h C n d v) (K : Keep h h' ws) (q : ∀ x ∈ ws, own_Nst h x) : Sta Z h' C n d v := by
  obtain ⟨cf, i, k, f, st, cell, h1, h2, h3, h4, h5, h6, h7⟩ := F
  refine ⟨cf, i, k, f, st, cell, h1, h2, h3, h4, K.2.1 _ _ h5 (fun z => ?_), h6, h7⟩
  obtain ⟨c, e1, e2⟩ := q _ z
  cases h5.symm.trans e1
  rw [h6] at e2
  cases e2
theorem own_sta_keep0 {Z : State} {h h' : Heap} {C n d : String} {v : Value} (F : Sta Z h C n d v) (K : Keep h h' []) : Sta Z h' C n d v := own_sta_keep F K (fun _ z => nomatch z)
end Own
section OwnStart
variable {args : Array Value} {Z : State} {t : Term} {a : Addr} {O n d : String}
theorem own_fldV {v : Value} (ev : t.eval args Z none [] Z = some (.ref a)) (h : (Term.field t O n d).eval args Z none [] Z = some v) : Fld Z Z.heap a O n d v := Fld.start ((fld_at ev).symm.trans h)
theorem own_len {cl : Cell} {ty : FieldType} {k : Int32} (ev : t.eval args Z none [] Z = some (.ref a)) (A : Arr Z Z.heap a cl ty) (h : (Cond.eq (.length t) (.int k)).value args Z none Z [] = some true) : cl.slots.size < 2 ^ 31 ∧ cl.slots.size.toInt32 = k := by
  have e := eqv_i (y := k) rfl h
  have ha := A.fin (Vm.Alike.refl _)
  by_cases q : cl.slots.size < 2 ^ 31
  · exact ⟨q, Value.int.inj (Option.some.inj ((len_f ev ha q).symm.trans e))⟩
  · simp [Term.eval, ev, ha, q] at e
theorem own_elI {cl : Cell} {ty : FieldType} {i k : Int32} (ev : t.eval args Z none [] Z = some (.ref a)) (A : Arr Z Z.heap a cl ty) (hi : ¬ i < 0) (h : (Cond.eq (.elem t (.int i)) (.int k)).value args Z none Z [] = some true) : cl.slots[i.toNatClampNeg]? = some (.int k) :=
  (elem_f ev rfl (A.fin (Vm.Alike.refl _)) hi).symm.trans (eqv_i (y := k) rfl h)
theorem own_elJ {cl : Cell} {ty : FieldType} {i : Int32} {k : Int64} (ev : t.eval args Z none [] Z = some (.ref a)) (A : Arr Z Z.heap a cl ty) (hi : ¬ i < 0) (h : (Cond.eq (.elem t (.int i)) (.long k)).value args Z none Z [] = some true) : cl.slots[i.toNatClampNeg]? = some (.long k) :=
  (elem_f ev rfl (A.fin (Vm.Alike.refl _)) hi).symm.trans (eqv_l (y := k) rfl h)
end OwnStart
end Jvm.RoadKit
namespace Jvm.Pilot.@@N@@
open Jvm Jvm.ClassFile Sem Op Lib Jvm.Free Jvm.Stand Jvm.LawKit Jvm.RoadKit Bundle Jvm.Pilot.@@N@@.Jvm.D
theorem own_w {ts : List Jvm.Cond} {Z : State} {a0 : Array Value} (hw : ∀ d ∈ ts, d.before a0 Z = true) (i : Nat) {d : Jvm.Cond} (h : ts[i]? = some d) : d.before a0 Z = true := hw d (List.mem_of_getElem? h)
theorem own_k (x : Int32) : ((x &&& (2147483647 : Int32)) % (3 : Int32)) = (0 : Int32) ∨ ((x &&& (2147483647 : Int32)) % (3 : Int32)) = (1 : Int32) ∨ ((x &&& (2147483647 : Int32)) % (3 : Int32)) = (2 : Int32) := by
  have h1 : (x &&& (2147483647 : Int32)).toInt = x.toInt % 2147483648 := c_mask x _ 31 (by decide) (by decide)
  have h2 := (c_irem (x &&& (2147483647 : Int32)) (3 : Int32) 3 (by decide)).1 (by omega)
  have h3 : ((x &&& (2147483647 : Int32)) % (3 : Int32)).toInt = 0 ∨ ((x &&& (2147483647 : Int32)) % (3 : Int32)).toInt = 1 ∨ ((x &&& (2147483647 : Int32)) % (3 : Int32)).toInt = 2 := by omega
  rcases h3 with h | h | h
  · exact Or.inl (Int32.toInt_inj.mp (h.trans (by decide)))
  · exact Or.inr (Or.inl (Int32.toInt_inj.mp (h.trans (by decide))))
  · exact Or.inr (Or.inr (Int32.toInt_inj.mp (h.trans (by decide))))
theorem own_d1_0 : decode prog_20_method_2_code 0 = .ok (.aload_n 0, 1) := by decide +kernel
theorem own_d1_1 : decode prog_20_method_2_code 1 = .ok (.iload_n 1, 1) := by decide +kernel
theorem own_d1_2 : decode prog_20_method_2_code 2 = .ok (.baload, 1) := by decide +kernel
theorem own_d1_3 : decode prog_20_method_2_code 3 = .ok (.sipush 255, 3) := by decide +kernel
theorem own_d1_6 : decode prog_20_method_2_code 6 = .ok (.iand, 1) := by decide +kernel
theorem own_d1_7 : decode prog_20_method_2_code 7 = .ok (.bipush 16, 2) := by decide +kernel
theorem own_d1_9 : decode prog_20_method_2_code 9 = .ok (.ishl, 1) := by decide +kernel
theorem own_d1_10 : decode prog_20_method_2_code 10 = .ok (.aload_n 0, 1) := by decide +kernel
theorem own_d1_11 : decode prog_20_method_2_code 11 = .ok (.iload_n 1, 1) := by decide +kernel
theorem own_d1_12 : decode prog_20_method_2_code 12 = .ok (.iconst 1, 1) := by decide +kernel
theorem own_d1_13 : decode prog_20_method_2_code 13 = .ok (.iadd, 1) := by decide +kernel
theorem own_d1_14 : decode prog_20_method_2_code 14 = .ok (.baload, 1) := by decide +kernel
theorem own_d1_15 : decode prog_20_method_2_code 15 = .ok (.sipush 255, 3) := by decide +kernel
theorem own_d1_18 : decode prog_20_method_2_code 18 = .ok (.iand, 1) := by decide +kernel
theorem own_d1_19 : decode prog_20_method_2_code 19 = .ok (.bipush 8, 2) := by decide +kernel
theorem own_d1_21 : decode prog_20_method_2_code 21 = .ok (.ishl, 1) := by decide +kernel
theorem own_d1_22 : decode prog_20_method_2_code 22 = .ok (.ior, 1) := by decide +kernel
theorem own_d1_23 : decode prog_20_method_2_code 23 = .ok (.aload_n 0, 1) := by decide +kernel
theorem own_d1_24 : decode prog_20_method_2_code 24 = .ok (.iload_n 1, 1) := by decide +kernel
theorem own_d1_25 : decode prog_20_method_2_code 25 = .ok (.iconst 2, 1) := by decide +kernel
theorem own_d1_26 : decode prog_20_method_2_code 26 = .ok (.iadd, 1) := by decide +kernel
theorem own_d1_27 : decode prog_20_method_2_code 27 = .ok (.baload, 1) := by decide +kernel
theorem own_d1_28 : decode prog_20_method_2_code 28 = .ok (.sipush 255, 3) := by decide +kernel
theorem own_d1_31 : decode prog_20_method_2_code 31 = .ok (.iand, 1) := by decide +kernel
theorem own_d1_32 : decode prog_20_method_2_code 32 = .ok (.ior, 1) := by decide +kernel
theorem own_d1_33 : decode prog_20_method_2_code 33 = .ok (.ireturn, 1) := by decide +kernel
theorem own_pn0 : plainName "com/example/pipehat/pipehat/Occurrences" = true := by first | (simp [plainName, overriddenIn]; done) | decide +kernel
theorem own_ef1 (m : MethodId) (ad0 : Addr) : entryFrame m #[(.ref ad0), (.int (0 : Int32))] 2 = mkF m 0 #[.val (.ref ad0), .val (.int (0 : Int32))] [] := by first | (simp [entryFrame, mkF, argsToLocals, Value.category]; done) | rfl
def own_Q1 (Z : State) (ad0 : Addr) (k_ad0 : ClassId) (ad0_0 : Int32) (ad0_1 : Int32) (ad0_2 : Int32) (ad0_3 : Int32) (ad0_4 : Int32) (h0 : Heap) (n0 : Nat) (v : Option Value) (h : Heap) (L : List Loc) : Prop := v = some (.int ((((ad0_0 &&& (255 : Int32)) <<< ((16 : Int32) &&& 31)) ||| ((ad0_1 &&& (255 : Int32)) <<< ((8 : Int32) &&& 31))) ||| (ad0_2 &&& (255 : Int32)))) ∧ Fr n0 L ∧ h = h0
set_option maxRecDepth 65536 in
set_option maxHeartbeats 40000000 in
theorem own_rm1 (l : Launch) (Z : State) (a0 : Array Value) (hw : ∀ d ∈ tables_1, d.before a0 Z = true) (ws : List Jvm.Cond) (ad0 : Addr) (k_ad0 : ClassId) (ad0_0 : Int32) (ad0_1 : Int32) (ad0_2 : Int32) (ad0_3 : Int32) (ad0_4 : Int32) (h0 : Heap) (n0 : Nat) (Z0 : n0 ≤ h0.size) (A_ad0 : Arv Z h0 ad0 k_ad0 .byte (5 : Int32) [(.int ad0_0), (.int ad0_1), (.int ad0_2), (.int ad0_3), (.int ad0_4)] (.int (0 : Int32))) :
    MetFree l (⟨"com/example/pipehat/pipehat/Occurrences", "pack", "([BI)I"⟩ : MethodName) (head1 (Jvm.Cond.code (⟨"com/example/pipehat/pipehat/Occurrences", "pack", "([BI)I"⟩ : MethodName) prog_20_method_2_code 2 (some .int) :: ws) ({ frames := 0, cells := 0, slots := 0, locals := 0 } : Room)) (fun a U => a = #[(.ref ad0), (.int (0 : Int32))] ∧ Z.Warmed39 U.vm ∧ U.heap = h0) (fun _ _ _ _ _ => True) (fun _ U o U' => ∃ v L, o = .returned v ∧ own_Q1 Z ad0 k_ad0 ad0_0 ad0_1 ad0_2 ad0_3 ad0_4 h0 n0 v U'.heap L ∧ FrameEnd U o U' L ({ frames := 0, cells := 0, slots := 0, locals := 0 } : Room).cells ({ frames := 0, cells := 0, slots := 0, locals := 0 } : Room).slots) := by
  refine MetFree.of_bodySF (plainFor_of_name own_pn0) hisR ?_
  intro p e s m args below meth c s₁ Bd hml0 hP hK
  obtain ⟨rfl, hZ, hh⟩ := hP
  have hx := Bd.exec
  have hby := Bd.bytes
  have hlk := Bd.notSynchronized
  have hml : c.maxLocals = 2 := hml0
  have hown : s.vm.findClass "com/example/pipehat/pipehat/Occurrences" = some m.cls := findClass_of_methodNamed Bd.named
  have hnm := (name_of_methodNamed Bd.named Bd.method).1
  have X0 : Stand p l e ({ frames := 0, cells := 0, slots := 0, locals := 0 } : Room) s m #[(.ref ad0), (.int (0 : Int32))] below meth c s₁ [] 0 0 := Stand.of_body Bd
  have e0 : s₁.heap = h0 := by rw [← hh, Bd.state]; rfl
  have N0 := Fr.nil n0
  have KR : Keep h0 h0 [] := Keep.refl _ _
  show own_Fin p e below s ({ frames := 0, cells := 0, slots := 0, locals := 0 } : Room).cells ({ frames := 0, cells := 0, slots := 0, locals := 0 } : Room).slots (own_Q1 Z ad0 k_ad0 ad0_0 ad0_1 ad0_2 ad0_3 ad0_4 h0 n0) (s₁.setTop (entryFrame m #[(.ref ad0), (.int (0 : Int32))] 2))
  refine own_cast (own_ef1 m ad0) ?_
  refine own_step (fun _ k => XS.aloadN X0.here hx rfl (hb hby own_d1_0) rfl rfl k) ?_
  show own_Fin p e below s _ _ _ (s₁.setTop (mkF m 1 #[.val (.ref ad0), .val (.int (0 : Int32))] [(.ref ad0)]))
  refine own_step (fun _ k => XS.iloadN X0.here hx rfl (hb hby own_d1_1) rfl k) ?_
  show own_Fin p e below s _ _ _ (s₁.setTop (mkF m 2 #[.val (.ref ad0), .val (.int (0 : Int32))] [(.int (0 : Int32)), (.ref ad0)]))
  obtain ⟨cl1, Ar1, q1, Sz1, Ng1, Hs1, Gf1⟩ := id A_ad0
  have hin1 : ¬ ((0 : Int32) < 0 ∨ cl1.slots.size ≤ ((0 : Int32)).toNatClampNeg) := inb_of Sz1 ⟨by decide, by decide⟩
  refine own_step (fun _ k => X0.baloadBytes hx (j := (0 : Int32)) (v := (.int ad0_0)) (by rw [e0]; exact Ar1.1) (State.isArrayOf_alike hZ.alike Ar1.2.1) Ar1.2.2 hin1 (Has.at Hs1 hin1 rfl) (g := (mkF m 2 #[.val (.ref ad0), .val (.int (0 : Int32))] [(.int (0 : Int32)), (.ref ad0)])) rfl rfl (hb hby own_d1_2) _ k) ?_
  show own_Fin p e below s _ _ _ (s₁.setTop (mkF m 3 #[.val (.ref ad0), .val (.int (0 : Int32))] [(.int ad0_0)]))
  refine own_step (fun _ k => XS.sipush X0.here hx rfl (hb hby own_d1_3) k) ?_
  show own_Fin p e below s _ _ _ (s₁.setTop (mkF m 6 #[.val (.ref ad0), .val (.int (0 : Int32))] [(.int (255 : Int32)), (.int ad0_0)]))
  refine own_step (fun _ k => XS.iand X0.here hx rfl (hb hby own_d1_6) rfl k) ?_
  show own_Fin p e below s _ _ _ (s₁.setTop (mkF m 7 #[.val (.ref ad0), .val (.int (0 : Int32))] [(.int (ad0_0 &&& (255 : Int32)))]))
  refine own_step (fun _ k => XS.bipush X0.here hx rfl (hb hby own_d1_7) k) ?_
  show own_Fin p e below s _ _ _ (s₁.setTop (mkF m 9 #[.val (.ref ad0), .val (.int (0 : Int32))] [(.int (16 : Int32)), (.int (ad0_0 &&& (255 : Int32)))]))
  refine own_step (fun _ k => XS.ishl X0.here hx rfl (hb hby own_d1_9) rfl k) ?_
  show own_Fin p e below s _ _ _ (s₁.setTop (mkF m 10 #[.val (.ref ad0), .val (.int (0 : Int32))] [(.int ((ad0_0 &&& (255 : Int32)) <<< ((16 : Int32) &&& 31)))]))
  refine own_step (fun _ k => XS.aloadN X0.here hx rfl (hb hby own_d1_10) rfl rfl k) ?_
  show own_Fin p e below s _ _ _ (s₁.setTop (mkF m 11 #[.val (.ref ad0), .val (.int (0 : Int32))] [(.ref ad0), (.int ((ad0_0 &&& (255 : Int32)) <<< ((16 : Int32) &&& 31)))]))
  refine own_step (fun _ k => XS.iloadN X0.here hx rfl (hb hby own_d1_11) rfl k) ?_
  show own_Fin p e below s _ _ _ (s₁.setTop (mkF m 12 #[.val (.ref ad0), .val (.int (0 : Int32))] [(.int (0 : Int32)), (.ref ad0), (.int ((ad0_0 &&& (255 : Int32)) <<< ((16 : Int32) &&& 31)))]))
  refine own_step (fun _ k => XS.iconst X0.here hx rfl (hb hby own_d1_12) k) ?_
  show own_Fin p e below s _ _ _ (s₁.setTop (mkF m 13 #[.val (.ref ad0), .val (.int (0 : Int32))] [(.int (1 : Int32)), (.int (0 : Int32)), (.ref ad0), (.int ((ad0_0 &&& (255 : Int32)) <<< ((16 : Int32) &&& 31)))]))
  refine own_step (fun _ k => XS.iadd X0.here hx rfl (hb hby own_d1_13) rfl k) ?_
  show own_Fin p e below s _ _ _ (s₁.setTop (mkF m 14 #[.val (.ref ad0), .val (.int (0 : Int32))] [(.int ((0 : Int32) + (1 : Int32))), (.ref ad0), (.int ((ad0_0 &&& (255 : Int32)) <<< ((16 : Int32) &&& 31)))]))
  rw [show ((0 : Int32) + (1 : Int32)) = (1 : Int32) from by decide]
  show own_Fin p e below s _ _ _ (s₁.setTop (mkF m 14 #[.val (.ref ad0), .val (.int (0 : Int32))] [(.int (1 : Int32)), (.ref ad0), (.int ((ad0_0 &&& (255 : Int32)) <<< ((16 : Int32) &&& 31)))]))
  obtain ⟨cl2, Ar2, q2, Sz2, Ng2, Hs2, Gf2⟩ := id A_ad0
  have hin2 : ¬ ((1 : Int32) < 0 ∨ cl2.slots.size ≤ ((1 : Int32)).toNatClampNeg) := inb_of Sz2 ⟨by decide, by decide⟩
  refine own_step (fun _ k => X0.baloadBytes hx (j := (1 : Int32)) (v := (.int ad0_1)) (by rw [e0]; exact Ar2.1) (State.isArrayOf_alike hZ.alike Ar2.2.1) Ar2.2.2 hin2 (Has.at Hs2 hin2 rfl) (g := (mkF m 14 #[.val (.ref ad0), .val (.int (0 : Int32))] [(.int (1 : Int32)), (.ref ad0), (.int ((ad0_0 &&& (255 : Int32)) <<< ((16 : Int32) &&& 31)))])) rfl rfl (hb hby own_d1_14) _ k) ?_
  show own_Fin p e below s _ _ _ (s₁.setTop (mkF m 15 #[.val (.ref ad0), .val (.int (0 : Int32))] [(.int ad0_1), (.int ((ad0_0 &&& (255 : Int32)) <<< ((16 : Int32) &&& 31)))]))
  refine own_step (fun _ k => XS.sipush X0.here hx rfl (hb hby own_d1_15) k) ?_
  show own_Fin p e below s _ _ _ (s₁.setTop (mkF m 18 #[.val (.ref ad0), .val (.int (0 : Int32))] [(.int (255 : Int32)), (.int ad0_1), (.int ((ad0_0 &&& (255 : Int32)) <<< ((16 : Int32) &&& 31)))]))
  refine own_step (fun _ k => XS.iand X0.here hx rfl (hb hby own_d1_18) rfl k) ?_
  show own_Fin p e below s _ _ _ (s₁.setTop (mkF m 19 #[.val (.ref ad0), .val (.int (0 : Int32))] [(.int (ad0_1 &&& (255 : Int32))), (.int ((ad0_0 &&& (255 : Int32)) <<< ((16 : Int32) &&& 31)))]))
  refine own_step (fun _ k => XS.bipush X0.here hx rfl (hb hby own_d1_19) k) ?_
  show own_Fin p e below s _ _ _ (s₁.setTop (mkF m 21 #[.val (.ref ad0), .val (.int (0 : Int32))] [(.int (8 : Int32)), (.int (ad0_1 &&& (255 : Int32))), (.int ((ad0_0 &&& (255 : Int32)) <<< ((16 : Int32) &&& 31)))]))
  refine own_step (fun _ k => XS.ishl X0.here hx rfl (hb hby own_d1_21) rfl k) ?_
  show own_Fin p e below s _ _ _ (s₁.setTop (mkF m 22 #[.val (.ref ad0), .val (.int (0 : Int32))] [(.int ((ad0_1 &&& (255 : Int32)) <<< ((8 : Int32) &&& 31))), (.int ((ad0_0 &&& (255 : Int32)) <<< ((16 : Int32) &&& 31)))]))
  refine own_step (fun _ k => XS.ior X0.here hx rfl (hb hby own_d1_22) rfl k) ?_
  show own_Fin p e below s _ _ _ (s₁.setTop (mkF m 23 #[.val (.ref ad0), .val (.int (0 : Int32))] [(.int (((ad0_0 &&& (255 : Int32)) <<< ((16 : Int32) &&& 31)) ||| ((ad0_1 &&& (255 : Int32)) <<< ((8 : Int32) &&& 31))))]))
  refine own_step (fun _ k => XS.aloadN X0.here hx rfl (hb hby own_d1_23) rfl rfl k) ?_
  show own_Fin p e below s _ _ _ (s₁.setTop (mkF m 24 #[.val (.ref ad0), .val (.int (0 : Int32))] [(.ref ad0), (.int (((ad0_0 &&& (255 : Int32)) <<< ((16 : Int32) &&& 31)) ||| ((ad0_1 &&& (255 : Int32)) <<< ((8 : Int32) &&& 31))))]))
  refine own_step (fun _ k => XS.iloadN X0.here hx rfl (hb hby own_d1_24) rfl k) ?_
  show own_Fin p e below s _ _ _ (s₁.setTop (mkF m 25 #[.val (.ref ad0), .val (.int (0 : Int32))] [(.int (0 : Int32)), (.ref ad0), (.int (((ad0_0 &&& (255 : Int32)) <<< ((16 : Int32) &&& 31)) ||| ((ad0_1 &&& (255 : Int32)) <<< ((8 : Int32) &&& 31))))]))
  refine own_step (fun _ k => XS.iconst X0.here hx rfl (hb hby own_d1_25) k) ?_
  show own_Fin p e below s _ _ _ (s₁.setTop (mkF m 26 #[.val (.ref ad0), .val (.int (0 : Int32))] [(.int (2 : Int32)), (.int (0 : Int32)), (.ref ad0), (.int (((ad0_0 &&& (255 : Int32)) <<< ((16 : Int32) &&& 31)) ||| ((ad0_1 &&& (255 : Int32)) <<< ((8 : Int32) &&& 31))))]))
  refine own_step (fun _ k => XS.iadd X0.here hx rfl (hb hby own_d1_26) rfl k) ?_
  show own_Fin p e below s _ _ _ (s₁.setTop (mkF m 27 #[.val (.ref ad0), .val (.int (0 : Int32))] [(.int ((0 : Int32) + (2 : Int32))), (.ref ad0), (.int (((ad0_0 &&& (255 : Int32)) <<< ((16 : Int32) &&& 31)) ||| ((ad0_1 &&& (255 : Int32)) <<< ((8 : Int32) &&& 31))))]))
  rw [show ((0 : Int32) + (2 : Int32)) = (2 : Int32) from by decide]
  show own_Fin p e below s _ _ _ (s₁.setTop (mkF m 27 #[.val (.ref ad0), .val (.int (0 : Int32))] [(.int (2 : Int32)), (.ref ad0), (.int (((ad0_0 &&& (255 : Int32)) <<< ((16 : Int32) &&& 31)) ||| ((ad0_1 &&& (255 : Int32)) <<< ((8 : Int32) &&& 31))))]))
  obtain ⟨cl3, Ar3, q3, Sz3, Ng3, Hs3, Gf3⟩ := id A_ad0
  have hin3 : ¬ ((2 : Int32) < 0 ∨ cl3.slots.size ≤ ((2 : Int32)).toNatClampNeg) := inb_of Sz3 ⟨by decide, by decide⟩
  refine own_step (fun _ k => X0.baloadBytes hx (j := (2 : Int32)) (v := (.int ad0_2)) (by rw [e0]; exact Ar3.1) (State.isArrayOf_alike hZ.alike Ar3.2.1) Ar3.2.2 hin3 (Has.at Hs3 hin3 rfl) (g := (mkF m 27 #[.val (.ref ad0), .val (.int (0 : Int32))] [(.int (2 : Int32)), (.ref ad0), (.int (((ad0_0 &&& (255 : Int32)) <<< ((16 : Int32) &&& 31)) ||| ((ad0_1 &&& (255 : Int32)) <<< ((8 : Int32) &&& 31))))])) rfl rfl (hb hby own_d1_27) _ k) ?_
  show own_Fin p e below s _ _ _ (s₁.setTop (mkF m 28 #[.val (.ref ad0), .val (.int (0 : Int32))] [(.int ad0_2), (.int (((ad0_0 &&& (255 : Int32)) <<< ((16 : Int32) &&& 31)) ||| ((ad0_1 &&& (255 : Int32)) <<< ((8 : Int32) &&& 31))))]))
  refine own_step (fun _ k => XS.sipush X0.here hx rfl (hb hby own_d1_28) k) ?_
  show own_Fin p e below s _ _ _ (s₁.setTop (mkF m 31 #[.val (.ref ad0), .val (.int (0 : Int32))] [(.int (255 : Int32)), (.int ad0_2), (.int (((ad0_0 &&& (255 : Int32)) <<< ((16 : Int32) &&& 31)) ||| ((ad0_1 &&& (255 : Int32)) <<< ((8 : Int32) &&& 31))))]))
  refine own_step (fun _ k => XS.iand X0.here hx rfl (hb hby own_d1_31) rfl k) ?_
  show own_Fin p e below s _ _ _ (s₁.setTop (mkF m 32 #[.val (.ref ad0), .val (.int (0 : Int32))] [(.int (ad0_2 &&& (255 : Int32))), (.int (((ad0_0 &&& (255 : Int32)) <<< ((16 : Int32) &&& 31)) ||| ((ad0_1 &&& (255 : Int32)) <<< ((8 : Int32) &&& 31))))]))
  refine own_step (fun _ k => XS.ior X0.here hx rfl (hb hby own_d1_32) rfl k) ?_
  show own_Fin p e below s _ _ _ (s₁.setTop (mkF m 33 #[.val (.ref ad0), .val (.int (0 : Int32))] [(.int ((((ad0_0 &&& (255 : Int32)) <<< ((16 : Int32) &&& 31)) ||| ((ad0_1 &&& (255 : Int32)) <<< ((8 : Int32) &&& 31))) ||| (ad0_2 &&& (255 : Int32))))]))
  exact own_ret X0 hlk (v := some (.int ((((ad0_0 &&& (255 : Int32)) <<< ((16 : Int32) &&& 31)) ||| ((ad0_1 &&& (255 : Int32)) <<< ((8 : Int32) &&& 31))) ||| (ad0_2 &&& (255 : Int32))))) (fun h => by rw [Bd.returns] at h; cases h) (by decide) (by decide) (by show own_Q1 Z ad0 k_ad0 ad0_0 ad0_1 ad0_2 ad0_3 ad0_4 h0 n0 _ s₁.heap _; rw [e0]; exact ⟨rfl, N0, rfl⟩) (fun fs hr => retOut X0 hx Bd.returns rfl (Or.inl ⟨rfl, Or.inl rfl, _, rfl⟩) (hb hby own_d1_33) hr)

theorem own_d2_0 : decode prog_20_method_2_code 0 = .ok (.aload_n 0, 1) := by decide +kernel
theorem own_d2_1 : decode prog_20_method_2_code 1 = .ok (.iload_n 1, 1) := by decide +kernel
theorem own_d2_2 : decode prog_20_method_2_code 2 = .ok (.baload, 1) := by decide +kernel
theorem own_d2_3 : decode prog_20_method_2_code 3 = .ok (.sipush 255, 3) := by decide +kernel
theorem own_d2_6 : decode prog_20_method_2_code 6 = .ok (.iand, 1) := by decide +kernel
theorem own_d2_7 : decode prog_20_method_2_code 7 = .ok (.bipush 16, 2) := by decide +kernel
theorem own_d2_9 : decode prog_20_method_2_code 9 = .ok (.ishl, 1) := by decide +kernel
theorem own_d2_10 : decode prog_20_method_2_code 10 = .ok (.aload_n 0, 1) := by decide +kernel
theorem own_d2_11 : decode prog_20_method_2_code 11 = .ok (.iload_n 1, 1) := by decide +kernel
theorem own_d2_12 : decode prog_20_method_2_code 12 = .ok (.iconst 1, 1) := by decide +kernel
theorem own_d2_13 : decode prog_20_method_2_code 13 = .ok (.iadd, 1) := by decide +kernel
theorem own_d2_14 : decode prog_20_method_2_code 14 = .ok (.baload, 1) := by decide +kernel
theorem own_d2_15 : decode prog_20_method_2_code 15 = .ok (.sipush 255, 3) := by decide +kernel
theorem own_d2_18 : decode prog_20_method_2_code 18 = .ok (.iand, 1) := by decide +kernel
theorem own_d2_19 : decode prog_20_method_2_code 19 = .ok (.bipush 8, 2) := by decide +kernel
theorem own_d2_21 : decode prog_20_method_2_code 21 = .ok (.ishl, 1) := by decide +kernel
theorem own_d2_22 : decode prog_20_method_2_code 22 = .ok (.ior, 1) := by decide +kernel
theorem own_d2_23 : decode prog_20_method_2_code 23 = .ok (.aload_n 0, 1) := by decide +kernel
theorem own_d2_24 : decode prog_20_method_2_code 24 = .ok (.iload_n 1, 1) := by decide +kernel
theorem own_d2_25 : decode prog_20_method_2_code 25 = .ok (.iconst 2, 1) := by decide +kernel
theorem own_d2_26 : decode prog_20_method_2_code 26 = .ok (.iadd, 1) := by decide +kernel
theorem own_d2_27 : decode prog_20_method_2_code 27 = .ok (.baload, 1) := by decide +kernel
theorem own_d2_28 : decode prog_20_method_2_code 28 = .ok (.sipush 255, 3) := by decide +kernel
theorem own_d2_31 : decode prog_20_method_2_code 31 = .ok (.iand, 1) := by decide +kernel
theorem own_d2_32 : decode prog_20_method_2_code 32 = .ok (.ior, 1) := by decide +kernel
theorem own_d2_33 : decode prog_20_method_2_code 33 = .ok (.ireturn, 1) := by decide +kernel
theorem own_ef2 (m : MethodId) (ad0 : Addr) : entryFrame m #[(.ref ad0), (.int (1 : Int32))] 2 = mkF m 0 #[.val (.ref ad0), .val (.int (1 : Int32))] [] := by first | (simp [entryFrame, mkF, argsToLocals, Value.category]; done) | rfl
def own_Q2 (Z : State) (ad0 : Addr) (k_ad0 : ClassId) (ad0_0 : Int32) (ad0_1 : Int32) (ad0_2 : Int32) (ad0_3 : Int32) (ad0_4 : Int32) (h0 : Heap) (n0 : Nat) (v : Option Value) (h : Heap) (L : List Loc) : Prop := v = some (.int ((((ad0_1 &&& (255 : Int32)) <<< ((16 : Int32) &&& 31)) ||| ((ad0_2 &&& (255 : Int32)) <<< ((8 : Int32) &&& 31))) ||| (ad0_3 &&& (255 : Int32)))) ∧ Fr n0 L ∧ h = h0
set_option maxRecDepth 65536 in
set_option maxHeartbeats 40000000 in
theorem own_rm2 (l : Launch) (Z : State) (a0 : Array Value) (hw : ∀ d ∈ tables_1, d.before a0 Z = true) (ws : List Jvm.Cond) (ad0 : Addr) (k_ad0 : ClassId) (ad0_0 : Int32) (ad0_1 : Int32) (ad0_2 : Int32) (ad0_3 : Int32) (ad0_4 : Int32) (h0 : Heap) (n0 : Nat) (Z0 : n0 ≤ h0.size) (A_ad0 : Arv Z h0 ad0 k_ad0 .byte (5 : Int32) [(.int ad0_0), (.int ad0_1), (.int ad0_2), (.int ad0_3), (.int ad0_4)] (.int (0 : Int32))) :
    MetFree l (⟨"com/example/pipehat/pipehat/Occurrences", "pack", "([BI)I"⟩ : MethodName) (head1 (Jvm.Cond.code (⟨"com/example/pipehat/pipehat/Occurrences", "pack", "([BI)I"⟩ : MethodName) prog_20_method_2_code 2 (some .int) :: ws) ({ frames := 0, cells := 0, slots := 0, locals := 0 } : Room)) (fun a U => a = #[(.ref ad0), (.int (1 : Int32))] ∧ Z.Warmed39 U.vm ∧ U.heap = h0) (fun _ _ _ _ _ => True) (fun _ U o U' => ∃ v L, o = .returned v ∧ own_Q2 Z ad0 k_ad0 ad0_0 ad0_1 ad0_2 ad0_3 ad0_4 h0 n0 v U'.heap L ∧ FrameEnd U o U' L ({ frames := 0, cells := 0, slots := 0, locals := 0 } : Room).cells ({ frames := 0, cells := 0, slots := 0, locals := 0 } : Room).slots) := by
  refine MetFree.of_bodySF (plainFor_of_name own_pn0) hisR ?_
  intro p e s m args below meth c s₁ Bd hml0 hP hK
  obtain ⟨rfl, hZ, hh⟩ := hP
  have hx := Bd.exec
  have hby := Bd.bytes
  have hlk := Bd.notSynchronized
  have hml : c.maxLocals = 2 := hml0
  have hown : s.vm.findClass "com/example/pipehat/pipehat/Occurrences" = some m.cls := findClass_of_methodNamed Bd.named
  have hnm := (name_of_methodNamed Bd.named Bd.method).1
  have X0 : Stand p l e ({ frames := 0, cells := 0, slots := 0, locals := 0 } : Room) s m #[(.ref ad0), (.int (1 : Int32))] below meth c s₁ [] 0 0 := Stand.of_body Bd
  have e0 : s₁.heap = h0 := by rw [← hh, Bd.state]; rfl
  have N0 := Fr.nil n0
  have KR : Keep h0 h0 [] := Keep.refl _ _
  show own_Fin p e below s ({ frames := 0, cells := 0, slots := 0, locals := 0 } : Room).cells ({ frames := 0, cells := 0, slots := 0, locals := 0 } : Room).slots (own_Q2 Z ad0 k_ad0 ad0_0 ad0_1 ad0_2 ad0_3 ad0_4 h0 n0) (s₁.setTop (entryFrame m #[(.ref ad0), (.int (1 : Int32))] 2))
  refine own_cast (own_ef2 m ad0) ?_
  refine own_step (fun _ k => XS.aloadN X0.here hx rfl (hb hby own_d2_0) rfl rfl k) ?_
  show own_Fin p e below s _ _ _ (s₁.setTop (mkF m 1 #[.val (.ref ad0), .val (.int (1 : Int32))] [(.ref ad0)]))
  refine own_step (fun _ k => XS.iloadN X0.here hx rfl (hb hby own_d2_1) rfl k) ?_
  show own_Fin p e below s _ _ _ (s₁.setTop (mkF m 2 #[.val (.ref ad0), .val (.int (1 : Int32))] [(.int (1 : Int32)), (.ref ad0)]))
  obtain ⟨cl1, Ar1, q1, Sz1, Ng1, Hs1, Gf1⟩ := id A_ad0
  have hin1 : ¬ ((1 : Int32) < 0 ∨ cl1.slots.size ≤ ((1 : Int32)).toNatClampNeg) := inb_of Sz1 ⟨by decide, by decide⟩
  refine own_step (fun _ k => X0.baloadBytes hx (j := (1 : Int32)) (v := (.int ad0_1)) (by rw [e0]; exact Ar1.1) (State.isArrayOf_alike hZ.alike Ar1.2.1) Ar1.2.2 hin1 (Has.at Hs1 hin1 rfl) (g := (mkF m 2 #[.val (.ref ad0), .val (.int (1 : Int32))] [(.int (1 : Int32)), (.ref ad0)])) rfl rfl (hb hby own_d2_2) _ k) ?_
  show own_Fin p e below s _ _ _ (s₁.setTop (mkF m 3 #[.val (.ref ad0), .val (.int (1 : Int32))] [(.int ad0_1)]))
  refine own_step (fun _ k => XS.sipush X0.here hx rfl (hb hby own_d2_3) k) ?_
  show own_Fin p e below s _ _ _ (s₁.setTop (mkF m 6 #[.val (.ref ad0), .val (.int (1 : Int32))] [(.int (255 : Int32)), (.int ad0_1)]))
  refine own_step (fun _ k => XS.iand X0.here hx rfl (hb hby own_d2_6) rfl k) ?_
  show own_Fin p e below s _ _ _ (s₁.setTop (mkF m 7 #[.val (.ref ad0), .val (.int (1 : Int32))] [(.int (ad0_1 &&& (255 : Int32)))]))
  refine own_step (fun _ k => XS.bipush X0.here hx rfl (hb hby own_d2_7) k) ?_
  show own_Fin p e below s _ _ _ (s₁.setTop (mkF m 9 #[.val (.ref ad0), .val (.int (1 : Int32))] [(.int (16 : Int32)), (.int (ad0_1 &&& (255 : Int32)))]))
  refine own_step (fun _ k => XS.ishl X0.here hx rfl (hb hby own_d2_9) rfl k) ?_
  show own_Fin p e below s _ _ _ (s₁.setTop (mkF m 10 #[.val (.ref ad0), .val (.int (1 : Int32))] [(.int ((ad0_1 &&& (255 : Int32)) <<< ((16 : Int32) &&& 31)))]))
  refine own_step (fun _ k => XS.aloadN X0.here hx rfl (hb hby own_d2_10) rfl rfl k) ?_
  show own_Fin p e below s _ _ _ (s₁.setTop (mkF m 11 #[.val (.ref ad0), .val (.int (1 : Int32))] [(.ref ad0), (.int ((ad0_1 &&& (255 : Int32)) <<< ((16 : Int32) &&& 31)))]))
  refine own_step (fun _ k => XS.iloadN X0.here hx rfl (hb hby own_d2_11) rfl k) ?_
  show own_Fin p e below s _ _ _ (s₁.setTop (mkF m 12 #[.val (.ref ad0), .val (.int (1 : Int32))] [(.int (1 : Int32)), (.ref ad0), (.int ((ad0_1 &&& (255 : Int32)) <<< ((16 : Int32) &&& 31)))]))
  refine own_step (fun _ k => XS.iconst X0.here hx rfl (hb hby own_d2_12) k) ?_
  show own_Fin p e below s _ _ _ (s₁.setTop (mkF m 13 #[.val (.ref ad0), .val (.int (1 : Int32))] [(.int (1 : Int32)), (.int (1 : Int32)), (.ref ad0), (.int ((ad0_1 &&& (255 : Int32)) <<< ((16 : Int32) &&& 31)))]))
  refine own_step (fun _ k => XS.iadd X0.here hx rfl (hb hby own_d2_13) rfl k) ?_
  show own_Fin p e below s _ _ _ (s₁.setTop (mkF m 14 #[.val (.ref ad0), .val (.int (1 : Int32))] [(.int ((1 : Int32) + (1 : Int32))), (.ref ad0), (.int ((ad0_1 &&& (255 : Int32)) <<< ((16 : Int32) &&& 31)))]))
  rw [show ((1 : Int32) + (1 : Int32)) = (2 : Int32) from by decide]
  show own_Fin p e below s _ _ _ (s₁.setTop (mkF m 14 #[.val (.ref ad0), .val (.int (1 : Int32))] [(.int (2 : Int32)), (.ref ad0), (.int ((ad0_1 &&& (255 : Int32)) <<< ((16 : Int32) &&& 31)))]))
  obtain ⟨cl2, Ar2, q2, Sz2, Ng2, Hs2, Gf2⟩ := id A_ad0
  have hin2 : ¬ ((2 : Int32) < 0 ∨ cl2.slots.size ≤ ((2 : Int32)).toNatClampNeg) := inb_of Sz2 ⟨by decide, by decide⟩
  refine own_step (fun _ k => X0.baloadBytes hx (j := (2 : Int32)) (v := (.int ad0_2)) (by rw [e0]; exact Ar2.1) (State.isArrayOf_alike hZ.alike Ar2.2.1) Ar2.2.2 hin2 (Has.at Hs2 hin2 rfl) (g := (mkF m 14 #[.val (.ref ad0), .val (.int (1 : Int32))] [(.int (2 : Int32)), (.ref ad0), (.int ((ad0_1 &&& (255 : Int32)) <<< ((16 : Int32) &&& 31)))])) rfl rfl (hb hby own_d2_14) _ k) ?_
  show own_Fin p e below s _ _ _ (s₁.setTop (mkF m 15 #[.val (.ref ad0), .val (.int (1 : Int32))] [(.int ad0_2), (.int ((ad0_1 &&& (255 : Int32)) <<< ((16 : Int32) &&& 31)))]))
  refine own_step (fun _ k => XS.sipush X0.here hx rfl (hb hby own_d2_15) k) ?_
  show own_Fin p e below s _ _ _ (s₁.setTop (mkF m 18 #[.val (.ref ad0), .val (.int (1 : Int32))] [(.int (255 : Int32)), (.int ad0_2), (.int ((ad0_1 &&& (255 : Int32)) <<< ((16 : Int32) &&& 31)))]))
  refine own_step (fun _ k => XS.iand X0.here hx rfl (hb hby own_d2_18) rfl k) ?_
  show own_Fin p e below s _ _ _ (s₁.setTop (mkF m 19 #[.val (.ref ad0), .val (.int (1 : Int32))] [(.int (ad0_2 &&& (255 : Int32))), (.int ((ad0_1 &&& (255 : Int32)) <<< ((16 : Int32) &&& 31)))]))
  refine own_step (fun _ k => XS.bipush X0.here hx rfl (hb hby own_d2_19) k) ?_
  show own_Fin p e below s _ _ _ (s₁.setTop (mkF m 21 #[.val (.ref ad0), .val (.int (1 : Int32))] [(.int (8 : Int32)), (.int (ad0_2 &&& (255 : Int32))), (.int ((ad0_1 &&& (255 : Int32)) <<< ((16 : Int32) &&& 31)))]))
  refine own_step (fun _ k => XS.ishl X0.here hx rfl (hb hby own_d2_21) rfl k) ?_
  show own_Fin p e below s _ _ _ (s₁.setTop (mkF m 22 #[.val (.ref ad0), .val (.int (1 : Int32))] [(.int ((ad0_2 &&& (255 : Int32)) <<< ((8 : Int32) &&& 31))), (.int ((ad0_1 &&& (255 : Int32)) <<< ((16 : Int32) &&& 31)))]))
  refine own_step (fun _ k => XS.ior X0.here hx rfl (hb hby own_d2_22) rfl k) ?_
  show own_Fin p e below s _ _ _ (s₁.setTop (mkF m 23 #[.val (.ref ad0), .val (.int (1 : Int32))] [(.int (((ad0_1 &&& (255 : Int32)) <<< ((16 : Int32) &&& 31)) ||| ((ad0_2 &&& (255 : Int32)) <<< ((8 : Int32) &&& 31))))]))
  refine own_step (fun _ k => XS.aloadN X0.here hx rfl (hb hby own_d2_23) rfl rfl k) ?_
  show own_Fin p e below s _ _ _ (s₁.setTop (mkF m 24 #[.val (.ref ad0), .val (.int (1 : Int32))] [(.ref ad0), (.int (((ad0_1 &&& (255 : Int32)) <<< ((16 : Int32) &&& 31)) ||| ((ad0_2 &&& (255 : Int32)) <<< ((8 : Int32) &&& 31))))]))
  refine own_step (fun _ k => XS.iloadN X0.here hx rfl (hb hby own_d2_24) rfl k) ?_
  show own_Fin p e below s _ _ _ (s₁.setTop (mkF m 25 #[.val (.ref ad0), .val (.int (1 : Int32))] [(.int (1 : Int32)), (.ref ad0), (.int (((ad0_1 &&& (255 : Int32)) <<< ((16 : Int32) &&& 31)) ||| ((ad0_2 &&& (255 : Int32)) <<< ((8 : Int32) &&& 31))))]))
  refine own_step (fun _ k => XS.iconst X0.here hx rfl (hb hby own_d2_25) k) ?_
  show own_Fin p e below s _ _ _ (s₁.setTop (mkF m 26 #[.val (.ref ad0), .val (.int (1 : Int32))] [(.int (2 : Int32)), (.int (1 : Int32)), (.ref ad0), (.int (((ad0_1 &&& (255 : Int32)) <<< ((16 : Int32) &&& 31)) ||| ((ad0_2 &&& (255 : Int32)) <<< ((8 : Int32) &&& 31))))]))
  refine own_step (fun _ k => XS.iadd X0.here hx rfl (hb hby own_d2_26) rfl k) ?_
  show own_Fin p e below s _ _ _ (s₁.setTop (mkF m 27 #[.val (.ref ad0), .val (.int (1 : Int32))] [(.int ((1 : Int32) + (2 : Int32))), (.ref ad0), (.int (((ad0_1 &&& (255 : Int32)) <<< ((16 : Int32) &&& 31)) ||| ((ad0_2 &&& (255 : Int32)) <<< ((8 : Int32) &&& 31))))]))
  rw [show ((1 : Int32) + (2 : Int32)) = (3 : Int32) from by decide]
  show own_Fin p e below s _ _ _ (s₁.setTop (mkF m 27 #[.val (.ref ad0), .val (.int (1 : Int32))] [(.int (3 : Int32)), (.ref ad0), (.int (((ad0_1 &&& (255 : Int32)) <<< ((16 : Int32) &&& 31)) ||| ((ad0_2 &&& (255 : Int32)) <<< ((8 : Int32) &&& 31))))]))
  obtain ⟨cl3, Ar3, q3, Sz3, Ng3, Hs3, Gf3⟩ := id A_ad0
  have hin3 : ¬ ((3 : Int32) < 0 ∨ cl3.slots.size ≤ ((3 : Int32)).toNatClampNeg) := inb_of Sz3 ⟨by decide, by decide⟩
  refine own_step (fun _ k => X0.baloadBytes hx (j := (3 : Int32)) (v := (.int ad0_3)) (by rw [e0]; exact Ar3.1) (State.isArrayOf_alike hZ.alike Ar3.2.1) Ar3.2.2 hin3 (Has.at Hs3 hin3 rfl) (g := (mkF m 27 #[.val (.ref ad0), .val (.int (1 : Int32))] [(.int (3 : Int32)), (.ref ad0), (.int (((ad0_1 &&& (255 : Int32)) <<< ((16 : Int32) &&& 31)) ||| ((ad0_2 &&& (255 : Int32)) <<< ((8 : Int32) &&& 31))))])) rfl rfl (hb hby own_d2_27) _ k) ?_
  show own_Fin p e below s _ _ _ (s₁.setTop (mkF m 28 #[.val (.ref ad0), .val (.int (1 : Int32))] [(.int ad0_3), (.int (((ad0_1 &&& (255 : Int32)) <<< ((16 : Int32) &&& 31)) ||| ((ad0_2 &&& (255 : Int32)) <<< ((8 : Int32) &&& 31))))]))
  refine own_step (fun _ k => XS.sipush X0.here hx rfl (hb hby own_d2_28) k) ?_
  show own_Fin p e below s _ _ _ (s₁.setTop (mkF m 31 #[.val (.ref ad0), .val (.int (1 : Int32))] [(.int (255 : Int32)), (.int ad0_3), (.int (((ad0_1 &&& (255 : Int32)) <<< ((16 : Int32) &&& 31)) ||| ((ad0_2 &&& (255 : Int32)) <<< ((8 : Int32) &&& 31))))]))
  refine own_step (fun _ k => XS.iand X0.here hx rfl (hb hby own_d2_31) rfl k) ?_
  show own_Fin p e below s _ _ _ (s₁.setTop (mkF m 32 #[.val (.ref ad0), .val (.int (1 : Int32))] [(.int (ad0_3 &&& (255 : Int32))), (.int (((ad0_1 &&& (255 : Int32)) <<< ((16 : Int32) &&& 31)) ||| ((ad0_2 &&& (255 : Int32)) <<< ((8 : Int32) &&& 31))))]))
  refine own_step (fun _ k => XS.ior X0.here hx rfl (hb hby own_d2_32) rfl k) ?_
  show own_Fin p e below s _ _ _ (s₁.setTop (mkF m 33 #[.val (.ref ad0), .val (.int (1 : Int32))] [(.int ((((ad0_1 &&& (255 : Int32)) <<< ((16 : Int32) &&& 31)) ||| ((ad0_2 &&& (255 : Int32)) <<< ((8 : Int32) &&& 31))) ||| (ad0_3 &&& (255 : Int32))))]))
  exact own_ret X0 hlk (v := some (.int ((((ad0_1 &&& (255 : Int32)) <<< ((16 : Int32) &&& 31)) ||| ((ad0_2 &&& (255 : Int32)) <<< ((8 : Int32) &&& 31))) ||| (ad0_3 &&& (255 : Int32))))) (fun h => by rw [Bd.returns] at h; cases h) (by decide) (by decide) (by show own_Q2 Z ad0 k_ad0 ad0_0 ad0_1 ad0_2 ad0_3 ad0_4 h0 n0 _ s₁.heap _; rw [e0]; exact ⟨rfl, N0, rfl⟩) (fun fs hr => retOut X0 hx Bd.returns rfl (Or.inl ⟨rfl, Or.inl rfl, _, rfl⟩) (hb hby own_d2_33) hr)

theorem own_d3_0 : decode prog_20_method_2_code 0 = .ok (.aload_n 0, 1) := by decide +kernel
theorem own_d3_1 : decode prog_20_method_2_code 1 = .ok (.iload_n 1, 1) := by decide +kernel
theorem own_d3_2 : decode prog_20_method_2_code 2 = .ok (.baload, 1) := by decide +kernel
theorem own_d3_3 : decode prog_20_method_2_code 3 = .ok (.sipush 255, 3) := by decide +kernel
theorem own_d3_6 : decode prog_20_method_2_code 6 = .ok (.iand, 1) := by decide +kernel
theorem own_d3_7 : decode prog_20_method_2_code 7 = .ok (.bipush 16, 2) := by decide +kernel
theorem own_d3_9 : decode prog_20_method_2_code 9 = .ok (.ishl, 1) := by decide +kernel
theorem own_d3_10 : decode prog_20_method_2_code 10 = .ok (.aload_n 0, 1) := by decide +kernel
theorem own_d3_11 : decode prog_20_method_2_code 11 = .ok (.iload_n 1, 1) := by decide +kernel
theorem own_d3_12 : decode prog_20_method_2_code 12 = .ok (.iconst 1, 1) := by decide +kernel
theorem own_d3_13 : decode prog_20_method_2_code 13 = .ok (.iadd, 1) := by decide +kernel
theorem own_d3_14 : decode prog_20_method_2_code 14 = .ok (.baload, 1) := by decide +kernel
theorem own_d3_15 : decode prog_20_method_2_code 15 = .ok (.sipush 255, 3) := by decide +kernel
theorem own_d3_18 : decode prog_20_method_2_code 18 = .ok (.iand, 1) := by decide +kernel
theorem own_d3_19 : decode prog_20_method_2_code 19 = .ok (.bipush 8, 2) := by decide +kernel
theorem own_d3_21 : decode prog_20_method_2_code 21 = .ok (.ishl, 1) := by decide +kernel
theorem own_d3_22 : decode prog_20_method_2_code 22 = .ok (.ior, 1) := by decide +kernel
theorem own_d3_23 : decode prog_20_method_2_code 23 = .ok (.aload_n 0, 1) := by decide +kernel
theorem own_d3_24 : decode prog_20_method_2_code 24 = .ok (.iload_n 1, 1) := by decide +kernel
theorem own_d3_25 : decode prog_20_method_2_code 25 = .ok (.iconst 2, 1) := by decide +kernel
theorem own_d3_26 : decode prog_20_method_2_code 26 = .ok (.iadd, 1) := by decide +kernel
theorem own_d3_27 : decode prog_20_method_2_code 27 = .ok (.baload, 1) := by decide +kernel
theorem own_d3_28 : decode prog_20_method_2_code 28 = .ok (.sipush 255, 3) := by decide +kernel
theorem own_d3_31 : decode prog_20_method_2_code 31 = .ok (.iand, 1) := by decide +kernel
theorem own_d3_32 : decode prog_20_method_2_code 32 = .ok (.ior, 1) := by decide +kernel
theorem own_d3_33 : decode prog_20_method_2_code 33 = .ok (.ireturn, 1) := by decide +kernel
theorem own_ef3 (m : MethodId) (ad0 : Addr) : entryFrame m #[(.ref ad0), (.int (2 : Int32))] 2 = mkF m 0 #[.val (.ref ad0), .val (.int (2 : Int32))] [] := by first | (simp [entryFrame, mkF, argsToLocals, Value.category]; done) | rfl
def own_Q3 (Z : State) (ad0 : Addr) (k_ad0 : ClassId) (ad0_0 : Int32) (ad0_1 : Int32) (ad0_2 : Int32) (ad0_3 : Int32) (ad0_4 : Int32) (h0 : Heap) (n0 : Nat) (v : Option Value) (h : Heap) (L : List Loc) : Prop := v = some (.int ((((ad0_2 &&& (255 : Int32)) <<< ((16 : Int32) &&& 31)) ||| ((ad0_3 &&& (255 : Int32)) <<< ((8 : Int32) &&& 31))) ||| (ad0_4 &&& (255 : Int32)))) ∧ Fr n0 L ∧ h = h0
set_option maxRecDepth 65536 in
set_option maxHeartbeats 40000000 in
theorem own_rm3 (l : Launch) (Z : State) (a0 : Array Value) (hw : ∀ d ∈ tables_1, d.before a0 Z = true) (ws : List Jvm.Cond) (ad0 : Addr) (k_ad0 : ClassId) (ad0_0 : Int32) (ad0_1 : Int32) (ad0_2 : Int32) (ad0_3 : Int32) (ad0_4 : Int32) (h0 : Heap) (n0 : Nat) (Z0 : n0 ≤ h0.size) (A_ad0 : Arv Z h0 ad0 k_ad0 .byte (5 : Int32) [(.int ad0_0), (.int ad0_1), (.int ad0_2), (.int ad0_3), (.int ad0_4)] (.int (0 : Int32))) :
    MetFree l (⟨"com/example/pipehat/pipehat/Occurrences", "pack", "([BI)I"⟩ : MethodName) (head1 (Jvm.Cond.code (⟨"com/example/pipehat/pipehat/Occurrences", "pack", "([BI)I"⟩ : MethodName) prog_20_method_2_code 2 (some .int) :: ws) ({ frames := 0, cells := 0, slots := 0, locals := 0 } : Room)) (fun a U => a = #[(.ref ad0), (.int (2 : Int32))] ∧ Z.Warmed39 U.vm ∧ U.heap = h0) (fun _ _ _ _ _ => True) (fun _ U o U' => ∃ v L, o = .returned v ∧ own_Q3 Z ad0 k_ad0 ad0_0 ad0_1 ad0_2 ad0_3 ad0_4 h0 n0 v U'.heap L ∧ FrameEnd U o U' L ({ frames := 0, cells := 0, slots := 0, locals := 0 } : Room).cells ({ frames := 0, cells := 0, slots := 0, locals := 0 } : Room).slots) := by
  refine MetFree.of_bodySF (plainFor_of_name own_pn0) hisR ?_
  intro p e s m args below meth c s₁ Bd hml0 hP hK
  obtain ⟨rfl, hZ, hh⟩ := hP
  have hx := Bd.exec
  have hby := Bd.bytes
  have hlk := Bd.notSynchronized
  have hml : c.maxLocals = 2 := hml0
  have hown : s.vm.findClass "com/example/pipehat/pipehat/Occurrences" = some m.cls := findClass_of_methodNamed Bd.named
  have hnm := (name_of_methodNamed Bd.named Bd.method).1
  have X0 : Stand p l e ({ frames := 0, cells := 0, slots := 0, locals := 0 } : Room) s m #[(.ref ad0), (.int (2 : Int32))] below meth c s₁ [] 0 0 := Stand.of_body Bd
  have e0 : s₁.heap = h0 := by rw [← hh, Bd.state]; rfl
  have N0 := Fr.nil n0
  have KR : Keep h0 h0 [] := Keep.refl _ _
  show own_Fin p e below s ({ frames := 0, cells := 0, slots := 0, locals := 0 } : Room).cells ({ frames := 0, cells := 0, slots := 0, locals := 0 } : Room).slots (own_Q3 Z ad0 k_ad0 ad0_0 ad0_1 ad0_2 ad0_3 ad0_4 h0 n0) (s₁.setTop (entryFrame m #[(.ref ad0), (.int (2 : Int32))] 2))
  refine own_cast (own_ef3 m ad0) ?_
  refine own_step (fun _ k => XS.aloadN X0.here hx rfl (hb hby own_d3_0) rfl rfl k) ?_
  show own_Fin p e below s _ _ _ (s₁.setTop (mkF m 1 #[.val (.ref ad0), .val (.int (2 : Int32))] [(.ref ad0)]))
  refine own_step (fun _ k => XS.iloadN X0.here hx rfl (hb hby own_d3_1) rfl k) ?_
  show own_Fin p e below s _ _ _ (s₁.setTop (mkF m 2 #[.val (.ref ad0), .val (.int (2 : Int32))] [(.int (2 : Int32)), (.ref ad0)]))
  obtain ⟨cl1, Ar1, q1, Sz1, Ng1, Hs1, Gf1⟩ := id A_ad0
  have hin1 : ¬ ((2 : Int32) < 0 ∨ cl1.slots.size ≤ ((2 : Int32)).toNatClampNeg) := inb_of Sz1 ⟨by decide, by decide⟩
  refine own_step (fun _ k => X0.baloadBytes hx (j := (2 : Int32)) (v := (.int ad0_2)) (by rw [e0]; exact Ar1.1) (State.isArrayOf_alike hZ.alike Ar1.2.1) Ar1.2.2 hin1 (Has.at Hs1 hin1 rfl) (g := (mkF m 2 #[.val (.ref ad0), .val (.int (2 : Int32))] [(.int (2 : Int32)), (.ref ad0)])) rfl rfl (hb hby own_d3_2) _ k) ?_
  show own_Fin p e below s _ _ _ (s₁.setTop (mkF m 3 #[.val (.ref ad0), .val (.int (2 : Int32))] [(.int ad0_2)]))
  refine own_step (fun _ k => XS.sipush X0.here hx rfl (hb hby own_d3_3) k) ?_
  show own_Fin p e below s _ _ _ (s₁.setTop (mkF m 6 #[.val (.ref ad0), .val (.int (2 : Int32))] [(.int (255 : Int32)), (.int ad0_2)]))
  refine own_step (fun _ k => XS.iand X0.here hx rfl (hb hby own_d3_6) rfl k) ?_
  show own_Fin p e below s _ _ _ (s₁.setTop (mkF m 7 #[.val (.ref ad0), .val (.int (2 : Int32))] [(.int (ad0_2 &&& (255 : Int32)))]))
  refine own_step (fun _ k => XS.bipush X0.here hx rfl (hb hby own_d3_7) k) ?_
  show own_Fin p e below s _ _ _ (s₁.setTop (mkF m 9 #[.val (.ref ad0), .val (.int (2 : Int32))] [(.int (16 : Int32)), (.int (ad0_2 &&& (255 : Int32)))]))
  refine own_step (fun _ k => XS.ishl X0.here hx rfl (hb hby own_d3_9) rfl k) ?_
  show own_Fin p e below s _ _ _ (s₁.setTop (mkF m 10 #[.val (.ref ad0), .val (.int (2 : Int32))] [(.int ((ad0_2 &&& (255 : Int32)) <<< ((16 : Int32) &&& 31)))]))
  refine own_step (fun _ k => XS.aloadN X0.here hx rfl (hb hby own_d3_10) rfl rfl k) ?_
  show own_Fin p e below s _ _ _ (s₁.setTop (mkF m 11 #[.val (.ref ad0), .val (.int (2 : Int32))] [(.ref ad0), (.int ((ad0_2 &&& (255 : Int32)) <<< ((16 : Int32) &&& 31)))]))
  refine own_step (fun _ k => XS.iloadN X0.here hx rfl (hb hby own_d3_11) rfl k) ?_
  show own_Fin p e below s _ _ _ (s₁.setTop (mkF m 12 #[.val (.ref ad0), .val (.int (2 : Int32))] [(.int (2 : Int32)), (.ref ad0), (.int ((ad0_2 &&& (255 : Int32)) <<< ((16 : Int32) &&& 31)))]))
  refine own_step (fun _ k => XS.iconst X0.here hx rfl (hb hby own_d3_12) k) ?_
  show own_Fin p e below s _ _ _ (s₁.setTop (mkF m 13 #[.val (.ref ad0), .val (.int (2 : Int32))] [(.int (1 : Int32)), (.int (2 : Int32)), (.ref ad0), (.int ((ad0_2 &&& (255 : Int32)) <<< ((16 : Int32) &&& 31)))]))
  refine own_step (fun _ k => XS.iadd X0.here hx rfl (hb hby own_d3_13) rfl k) ?_
  show own_Fin p e below s _ _ _ (s₁.setTop (mkF m 14 #[.val (.ref ad0), .val (.int (2 : Int32))] [(.int ((2 : Int32) + (1 : Int32))), (.ref ad0), (.int ((ad0_2 &&& (255 : Int32)) <<< ((16 : Int32) &&& 31)))]))
  rw [show ((2 : Int32) + (1 : Int32)) = (3 : Int32) from by decide]
  show own_Fin p e below s _ _ _ (s₁.setTop (mkF m 14 #[.val (.ref ad0), .val (.int (2 : Int32))] [(.int (3 : Int32)), (.ref ad0), (.int ((ad0_2 &&& (255 : Int32)) <<< ((16 : Int32) &&& 31)))]))
  obtain ⟨cl2, Ar2, q2, Sz2, Ng2, Hs2, Gf2⟩ := id A_ad0
  have hin2 : ¬ ((3 : Int32) < 0 ∨ cl2.slots.size ≤ ((3 : Int32)).toNatClampNeg) := inb_of Sz2 ⟨by decide, by decide⟩
  refine own_step (fun _ k => X0.baloadBytes hx (j := (3 : Int32)) (v := (.int ad0_3)) (by rw [e0]; exact Ar2.1) (State.isArrayOf_alike hZ.alike Ar2.2.1) Ar2.2.2 hin2 (Has.at Hs2 hin2 rfl) (g := (mkF m 14 #[.val (.ref ad0), .val (.int (2 : Int32))] [(.int (3 : Int32)), (.ref ad0), (.int ((ad0_2 &&& (255 : Int32)) <<< ((16 : Int32) &&& 31)))])) rfl rfl (hb hby own_d3_14) _ k) ?_
  show own_Fin p e below s _ _ _ (s₁.setTop (mkF m 15 #[.val (.ref ad0), .val (.int (2 : Int32))] [(.int ad0_3), (.int ((ad0_2 &&& (255 : Int32)) <<< ((16 : Int32) &&& 31)))]))
  refine own_step (fun _ k => XS.sipush X0.here hx rfl (hb hby own_d3_15) k) ?_
  show own_Fin p e below s _ _ _ (s₁.setTop (mkF m 18 #[.val (.ref ad0), .val (.int (2 : Int32))] [(.int (255 : Int32)), (.int ad0_3), (.int ((ad0_2 &&& (255 : Int32)) <<< ((16 : Int32) &&& 31)))]))
  refine own_step (fun _ k => XS.iand X0.here hx rfl (hb hby own_d3_18) rfl k) ?_
  show own_Fin p e below s _ _ _ (s₁.setTop (mkF m 19 #[.val (.ref ad0), .val (.int (2 : Int32))] [(.int (ad0_3 &&& (255 : Int32))), (.int ((ad0_2 &&& (255 : Int32)) <<< ((16 : Int32) &&& 31)))]))
  refine own_step (fun _ k => XS.bipush X0.here hx rfl (hb hby own_d3_19) k) ?_
  show own_Fin p e below s _ _ _ (s₁.setTop (mkF m 21 #[.val (.ref ad0), .val (.int (2 : Int32))] [(.int (8 : Int32)), (.int (ad0_3 &&& (255 : Int32))), (.int ((ad0_2 &&& (255 : Int32)) <<< ((16 : Int32) &&& 31)))]))
  refine own_step (fun _ k => XS.ishl X0.here hx rfl (hb hby own_d3_21) rfl k) ?_
  show own_Fin p e below s _ _ _ (s₁.setTop (mkF m 22 #[.val (.ref ad0), .val (.int (2 : Int32))] [(.int ((ad0_3 &&& (255 : Int32)) <<< ((8 : Int32) &&& 31))), (.int ((ad0_2 &&& (255 : Int32)) <<< ((16 : Int32) &&& 31)))]))
  refine own_step (fun _ k => XS.ior X0.here hx rfl (hb hby own_d3_22) rfl k) ?_
  show own_Fin p e below s _ _ _ (s₁.setTop (mkF m 23 #[.val (.ref ad0), .val (.int (2 : Int32))] [(.int (((ad0_2 &&& (255 : Int32)) <<< ((16 : Int32) &&& 31)) ||| ((ad0_3 &&& (255 : Int32)) <<< ((8 : Int32) &&& 31))))]))
  refine own_step (fun _ k => XS.aloadN X0.here hx rfl (hb hby own_d3_23) rfl rfl k) ?_
  show own_Fin p e below s _ _ _ (s₁.setTop (mkF m 24 #[.val (.ref ad0), .val (.int (2 : Int32))] [(.ref ad0), (.int (((ad0_2 &&& (255 : Int32)) <<< ((16 : Int32) &&& 31)) ||| ((ad0_3 &&& (255 : Int32)) <<< ((8 : Int32) &&& 31))))]))
  refine own_step (fun _ k => XS.iloadN X0.here hx rfl (hb hby own_d3_24) rfl k) ?_
  show own_Fin p e below s _ _ _ (s₁.setTop (mkF m 25 #[.val (.ref ad0), .val (.int (2 : Int32))] [(.int (2 : Int32)), (.ref ad0), (.int (((ad0_2 &&& (255 : Int32)) <<< ((16 : Int32) &&& 31)) ||| ((ad0_3 &&& (255 : Int32)) <<< ((8 : Int32) &&& 31))))]))
  refine own_step (fun _ k => XS.iconst X0.here hx rfl (hb hby own_d3_25) k) ?_
  show own_Fin p e below s _ _ _ (s₁.setTop (mkF m 26 #[.val (.ref ad0), .val (.int (2 : Int32))] [(.int (2 : Int32)), (.int (2 : Int32)), (.ref ad0), (.int (((ad0_2 &&& (255 : Int32)) <<< ((16 : Int32) &&& 31)) ||| ((ad0_3 &&& (255 : Int32)) <<< ((8 : Int32) &&& 31))))]))
  refine own_step (fun _ k => XS.iadd X0.here hx rfl (hb hby own_d3_26) rfl k) ?_
  show own_Fin p e below s _ _ _ (s₁.setTop (mkF m 27 #[.val (.ref ad0), .val (.int (2 : Int32))] [(.int ((2 : Int32) + (2 : Int32))), (.ref ad0), (.int (((ad0_2 &&& (255 : Int32)) <<< ((16 : Int32) &&& 31)) ||| ((ad0_3 &&& (255 : Int32)) <<< ((8 : Int32) &&& 31))))]))
  rw [show ((2 : Int32) + (2 : Int32)) = (4 : Int32) from by decide]
  show own_Fin p e below s _ _ _ (s₁.setTop (mkF m 27 #[.val (.ref ad0), .val (.int (2 : Int32))] [(.int (4 : Int32)), (.ref ad0), (.int (((ad0_2 &&& (255 : Int32)) <<< ((16 : Int32) &&& 31)) ||| ((ad0_3 &&& (255 : Int32)) <<< ((8 : Int32) &&& 31))))]))
  obtain ⟨cl3, Ar3, q3, Sz3, Ng3, Hs3, Gf3⟩ := id A_ad0
  have hin3 : ¬ ((4 : Int32) < 0 ∨ cl3.slots.size ≤ ((4 : Int32)).toNatClampNeg) := inb_of Sz3 ⟨by decide, by decide⟩
  refine own_step (fun _ k => X0.baloadBytes hx (j := (4 : Int32)) (v := (.int ad0_4)) (by rw [e0]; exact Ar3.1) (State.isArrayOf_alike hZ.alike Ar3.2.1) Ar3.2.2 hin3 (Has.at Hs3 hin3 rfl) (g := (mkF m 27 #[.val (.ref ad0), .val (.int (2 : Int32))] [(.int (4 : Int32)), (.ref ad0), (.int (((ad0_2 &&& (255 : Int32)) <<< ((16 : Int32) &&& 31)) ||| ((ad0_3 &&& (255 : Int32)) <<< ((8 : Int32) &&& 31))))])) rfl rfl (hb hby own_d3_27) _ k) ?_
  show own_Fin p e below s _ _ _ (s₁.setTop (mkF m 28 #[.val (.ref ad0), .val (.int (2 : Int32))] [(.int ad0_4), (.int (((ad0_2 &&& (255 : Int32)) <<< ((16 : Int32) &&& 31)) ||| ((ad0_3 &&& (255 : Int32)) <<< ((8 : Int32) &&& 31))))]))
  refine own_step (fun _ k => XS.sipush X0.here hx rfl (hb hby own_d3_28) k) ?_
  show own_Fin p e below s _ _ _ (s₁.setTop (mkF m 31 #[.val (.ref ad0), .val (.int (2 : Int32))] [(.int (255 : Int32)), (.int ad0_4), (.int (((ad0_2 &&& (255 : Int32)) <<< ((16 : Int32) &&& 31)) ||| ((ad0_3 &&& (255 : Int32)) <<< ((8 : Int32) &&& 31))))]))
  refine own_step (fun _ k => XS.iand X0.here hx rfl (hb hby own_d3_31) rfl k) ?_
  show own_Fin p e below s _ _ _ (s₁.setTop (mkF m 32 #[.val (.ref ad0), .val (.int (2 : Int32))] [(.int (ad0_4 &&& (255 : Int32))), (.int (((ad0_2 &&& (255 : Int32)) <<< ((16 : Int32) &&& 31)) ||| ((ad0_3 &&& (255 : Int32)) <<< ((8 : Int32) &&& 31))))]))
  refine own_step (fun _ k => XS.ior X0.here hx rfl (hb hby own_d3_32) rfl k) ?_
  show own_Fin p e below s _ _ _ (s₁.setTop (mkF m 33 #[.val (.ref ad0), .val (.int (2 : Int32))] [(.int ((((ad0_2 &&& (255 : Int32)) <<< ((16 : Int32) &&& 31)) ||| ((ad0_3 &&& (255 : Int32)) <<< ((8 : Int32) &&& 31))) ||| (ad0_4 &&& (255 : Int32))))]))
  exact own_ret X0 hlk (v := some (.int ((((ad0_2 &&& (255 : Int32)) <<< ((16 : Int32) &&& 31)) ||| ((ad0_3 &&& (255 : Int32)) <<< ((8 : Int32) &&& 31))) ||| (ad0_4 &&& (255 : Int32))))) (fun h => by rw [Bd.returns] at h; cases h) (by decide) (by decide) (by show own_Q3 Z ad0 k_ad0 ad0_0 ad0_1 ad0_2 ad0_3 ad0_4 h0 n0 _ s₁.heap _; rw [e0]; exact ⟨rfl, N0, rfl⟩) (fun fs hr => retOut X0 hx Bd.returns rfl (Or.inl ⟨rfl, Or.inl rfl, _, rfl⟩) (hb hby own_d3_33) hr)

def own_r4 (p0 : Int32) : Int32 := (if p0 < (0 : Int32) then (p0 + (256 : Int32)) else p0)
theorem own_d4_0 : decode method_2_code 0 = .ok (.iload_n 0, 1) := by decide +kernel
theorem own_d4_1 : decode method_2_code 1 = .ok (.istore_n 1, 1) := by decide +kernel
theorem own_d4_2 : decode method_2_code 2 = .ok (.iload_n 1, 1) := by decide +kernel
theorem own_d4_3 : decode method_2_code 3 = .ok (.ifCond .ge 9, 3) := by decide +kernel
theorem own_d4_6 : decode method_2_code 6 = .ok (.iload_n 1, 1) := by decide +kernel
theorem own_d4_7 : decode method_2_code 7 = .ok (.sipush 256, 3) := by decide +kernel
theorem own_d4_10 : decode method_2_code 10 = .ok (.iadd, 1) := by decide +kernel
theorem own_d4_11 : decode method_2_code 11 = .ok (.ireturn, 1) := by decide +kernel
theorem own_d4_12 : decode method_2_code 12 = .ok (.iload_n 1, 1) := by decide +kernel
theorem own_d4_13 : decode method_2_code 13 = .ok (.ireturn, 1) := by decide +kernel
theorem own_pn1 : plainName "com/example/pipehat/pipehat/OccurrencesPackPinLaw" = true := by first | (simp [plainName, overriddenIn]; done) | decide +kernel
theorem own_ef4 (m : MethodId) (p0 : Int32) : entryFrame m #[(.int p0)] 2 = mkF m 0 #[.val (.int p0), .unset] [] := by first | (simp [entryFrame, mkF, argsToLocals, Value.category]; done) | rfl
def own_Q4 (Z : State) (p0 : Int32) (h0 : Heap) (n0 : Nat) (v : Option Value) (h : Heap) (L : List Loc) : Prop := v = some (.int (own_r4 p0)) ∧ Fr n0 L ∧ h = h0
set_option maxRecDepth 65536 in
set_option maxHeartbeats 40000000 in
theorem own_rm4 (l : Launch) (Z : State) (a0 : Array Value) (hw : ∀ d ∈ tables_1, d.before a0 Z = true) (ws : List Jvm.Cond) (p0 : Int32) (h0 : Heap) (n0 : Nat) (Z0 : n0 ≤ h0.size) :
    MetFree l (⟨"com/example/pipehat/pipehat/OccurrencesPackPinLaw", "unsigned", "(B)I"⟩ : MethodName) (head1 (Jvm.Cond.code (⟨"com/example/pipehat/pipehat/OccurrencesPackPinLaw", "unsigned", "(B)I"⟩ : MethodName) method_2_code 2 (some .int) :: ws) ({ frames := 0, cells := 0, slots := 0, locals := 0 } : Room)) (fun a U => a = #[(.int p0)] ∧ Z.Warmed39 U.vm ∧ U.heap = h0) (fun _ _ _ _ _ => True) (fun _ U o U' => ∃ v L, o = .returned v ∧ own_Q4 Z p0 h0 n0 v U'.heap L ∧ FrameEnd U o U' L ({ frames := 0, cells := 0, slots := 0, locals := 0 } : Room).cells ({ frames := 0, cells := 0, slots := 0, locals := 0 } : Room).slots) := by
  refine MetFree.of_bodySF (plainFor_of_name own_pn1) hisR ?_
  intro p e s m args below meth c s₁ Bd hml0 hP hK
  obtain ⟨rfl, hZ, hh⟩ := hP
  have hx := Bd.exec
  have hby := Bd.bytes
  have hlk := Bd.notSynchronized
  have hml : c.maxLocals = 2 := hml0
  have hown : s.vm.findClass "com/example/pipehat/pipehat/OccurrencesPackPinLaw" = some m.cls := findClass_of_methodNamed Bd.named
  have hnm := (name_of_methodNamed Bd.named Bd.method).1
  have X0 : Stand p l e ({ frames := 0, cells := 0, slots := 0, locals := 0 } : Room) s m #[(.int p0)] below meth c s₁ [] 0 0 := Stand.of_body Bd
  have e0 : s₁.heap = h0 := by rw [← hh, Bd.state]; rfl
  have N0 := Fr.nil n0
  have KR : Keep h0 h0 [] := Keep.refl _ _
  show own_Fin p e below s ({ frames := 0, cells := 0, slots := 0, locals := 0 } : Room).cells ({ frames := 0, cells := 0, slots := 0, locals := 0 } : Room).slots (own_Q4 Z p0 h0 n0) (s₁.setTop (entryFrame m #[(.int p0)] 2))
  refine own_cast (own_ef4 m p0) ?_
  refine own_step (fun _ k => XS.iloadN X0.here hx rfl (hb hby own_d4_0) rfl k) ?_
  show own_Fin p e below s _ _ _ (s₁.setTop (mkF m 1 #[.val (.int p0), .unset] [(.int p0)]))
  refine own_step (fun _ k => XS.istoreN X0.here hx rfl (hb hby own_d4_1) rfl (l' := #[.val (.int p0), .val (.int p0)]) rfl k) ?_
  show own_Fin p e below s _ _ _ (s₁.setTop (mkF m 2 #[.val (.int p0), .val (.int p0)] []))
  refine own_step (fun _ k => XS.iloadN X0.here hx rfl (hb hby own_d4_2) rfl k) ?_
  show own_Fin p e below s _ _ _ (s₁.setTop (mkF m 3 #[.val (.int p0), .val (.int p0)] [(.int p0)]))
  by_cases hc1 : p0 < (0 : Int32)
  · refine own_step (fun _ k => XS.ifNo X0.here hx rfl (hb hby own_d4_3) rfl ((if0 _ _).trans (tlt hc1).2.1) k) ?_
    show own_Fin p e below s _ _ _ (s₁.setTop (mkF m 6 #[.val (.int p0), .val (.int p0)] []))
    refine own_step (fun _ k => XS.iloadN X0.here hx rfl (hb hby own_d4_6) rfl k) ?_
    show own_Fin p e below s _ _ _ (s₁.setTop (mkF m 7 #[.val (.int p0), .val (.int p0)] [(.int p0)]))
    refine own_step (fun _ k => XS.sipush X0.here hx rfl (hb hby own_d4_7) k) ?_
    show own_Fin p e below s _ _ _ (s₁.setTop (mkF m 10 #[.val (.int p0), .val (.int p0)] [(.int (256 : Int32)), (.int p0)]))
    refine own_step (fun _ k => XS.iadd X0.here hx rfl (hb hby own_d4_10) rfl k) ?_
    show own_Fin p e below s _ _ _ (s₁.setTop (mkF m 11 #[.val (.int p0), .val (.int p0)] [(.int (p0 + (256 : Int32)))]))
    exact own_ret X0 hlk (v := some (.int (p0 + (256 : Int32)))) (fun h => by rw [Bd.returns] at h; cases h) (by decide) (by decide) (by show own_Q4 Z p0 h0 n0 _ s₁.heap _; rw [e0]; exact ⟨(congrArg (fun z => some (Value.int z)) (show (own_r4 p0) = (p0 + (256 : Int32)) from by rw [own_r4, if_pos hc1]).symm), N0, rfl⟩) (fun fs hr => retOut X0 hx Bd.returns rfl (Or.inl ⟨rfl, Or.inl rfl, _, rfl⟩) (hb hby own_d4_11) hr)
  · refine own_step (fun _ k => XS.ifYes X0.here hx rfl (pc0 := 3) (pc' := 12) rfl (hb hby own_d4_3) rfl ((if0 _ _).trans (flt hc1).2.1) (by decide) (by decide) k) ?_
    show own_Fin p e below s _ _ _ (s₁.setTop (mkF m 12 #[.val (.int p0), .val (.int p0)] []))
    refine own_step (fun _ k => XS.iloadN X0.here hx rfl (hb hby own_d4_12) rfl k) ?_
    show own_Fin p e below s _ _ _ (s₁.setTop (mkF m 13 #[.val (.int p0), .val (.int p0)] [(.int p0)]))
    exact own_ret X0 hlk (v := some (.int p0)) (fun h => by rw [Bd.returns] at h; cases h) (by decide) (by decide) (by show own_Q4 Z p0 h0 n0 _ s₁.heap _; rw [e0]; exact ⟨(congrArg (fun z => some (Value.int z)) (show (own_r4 p0) = p0 from by rw [own_r4, if_neg hc1]).symm), N0, rfl⟩) (fun fs hr => retOut X0 hx Bd.returns rfl (Or.inl ⟨rfl, Or.inl rfl, _, rfl⟩) (hb hby own_d4_13) hr)

theorem own_by (x : Int32) : -128 ≤ (nar .byte x).toInt ∧ (nar .byte x).toInt < 128 := ⟨(c_i2b x).2.1, (c_i2b x).2.2⟩
theorem own_un (a : Int32) (h : -128 ≤ a.toInt ∧ a.toInt < 128) : (own_r4 a).toInt = a.toInt % 256 := by
  have h0 : (0 : Int32).toInt = 0 := by decide
  have h256 : (256 : Int32).toInt = 256 := by decide
  have ha := c_iadd a 256
  have hr := rng32 (a + 256)
  unfold own_r4
  split
  · rename_i q; rw [Int32.lt_iff_toInt_lt] at q; omega
  · rename_i q; rw [Int32.lt_iff_toInt_lt] at q; omega
theorem own_law (a b c : Int32) (ha : -128 ≤ a.toInt ∧ a.toInt < 128) (hb : -128 ≤ b.toInt ∧ b.toInt < 128) (hc : -128 ≤ c.toInt ∧ c.toInt < 128) :
    ((((a &&& (255 : Int32)) <<< ((16 : Int32) &&& 31)) ||| ((b &&& (255 : Int32)) <<< ((8 : Int32) &&& 31))) ||| (c &&& (255 : Int32))) = (((own_r4 a) * (65536 : Int32)) + ((own_r4 b) * (256 : Int32))) + (own_r4 c) := by
  have ua := own_un a ha
  have ub := own_un b hb
  have uc := own_un c hc
  have ma : (a &&& (255 : Int32)).toInt = a.toInt % 256 := c_mask a _ 8 (by decide) (by decide)
  have mb : (b &&& (255 : Int32)).toInt = b.toInt % 256 := c_mask b _ 8 (by decide) (by decide)
  have mc : (c &&& (255 : Int32)).toInt = c.toInt % 256 := c_mask c _ 8 (by decide) (by decide)
  have sa : (((a &&& (255 : Int32)) <<< ((16 : Int32) &&& 31)).toInt - (a &&& (255 : Int32)).toInt * 65536) % 4294967296 = 0 := c_ishl _ 16 16 (by decide)
  have sb : (((b &&& (255 : Int32)) <<< ((8 : Int32) &&& 31)).toInt - (b &&& (255 : Int32)).toInt * 256) % 4294967296 = 0 := c_ishl _ 8 8 (by decide)
  generalize (a &&& (255 : Int32)) <<< ((16 : Int32) &&& 31) = A at *
  generalize (b &&& (255 : Int32)) <<< ((8 : Int32) &&& 31) = B at *
  generalize c &&& (255 : Int32) = C at *
  have rA := rng32 A
  have rB := rng32 B
  have o1 := c_or A B 16 (by decide) 65536 (by decide) (by omega) (by omega) (by omega)
  have r1 := rng32 (A ||| B)
  have o2 := c_or (A ||| B) C 8 (by decide) 256 (by decide) (by omega) (by omega) (by omega)
  have r2 := rng32 (A ||| B ||| C)
  have e1 : (65536 : Int32).toInt = 65536 := by decide
  have e2 : (256 : Int32).toInt = 256 := by decide
  have m1 := c_imul (own_r4 a) 65536
  have m2 := c_imul (own_r4 b) 256
  have p1 := c_iadd ((own_r4 a) * (65536 : Int32)) ((own_r4 b) * (256 : Int32))
  have p2 := c_iadd (((own_r4 a) * (65536 : Int32)) + ((own_r4 b) * (256 : Int32))) (own_r4 c)
  have q2 := rng32 ((((own_r4 a) * (65536 : Int32)) + ((own_r4 b) * (256 : Int32))) + (own_r4 c))
  rw [e1] at m1
  rw [e2] at m2
  apply Int32.toInt_inj.mp
  omega

theorem own_pd0 : parseMethodDescriptor "([BI)I" = some ⟨[(.array .byte), .int], some .int⟩ := by decide +kernel
abbrev own_y0 : MethodName := (⟨"com/example/pipehat/pipehat/Occurrences", "pack", "([BI)I"⟩ : MethodName)
theorem own_pd1 : parseMethodDescriptor "(B)I" = some ⟨[.byte], some .int⟩ := by decide +kernel
abbrev own_y1 : MethodName := (⟨"com/example/pipehat/pipehat/OccurrencesPackPinLaw", "unsigned", "(B)I"⟩ : MethodName)
theorem own_ef5 (m : MethodId) (p0 : Int32) (p1 : Int32) (p2 : Int32) (p3 : Int32) (p4 : Int32) (p5 : Int32) : entryFrame m #[(.int p0), (.int p1), (.int p2), (.int p3), (.int p4), (.int p5)] maxLocals = mkF m 0 #[.val (.int p0), .val (.int p1), .val (.int p2), .val (.int p3), .val (.int p4), .val (.int p5), .unset, .unset, .unset, .unset] [] := by first | (simp [entryFrame, mkF, argsToLocals, Value.category, maxLocals]; done) | rfl
def own_Q5 (Z : State) (p0 : Int32) (p1 : Int32) (p2 : Int32) (p3 : Int32) (p4 : Int32) (p5 : Int32) (h0 : Heap) (n0 : Nat) (v : Option Value) (h : Heap) (L : List Loc) : Prop := v = some (.int 1) ∧ Fr n0 L
set_option maxRecDepth 65536 in
set_option maxHeartbeats 40000000 in
theorem own_rm5 (l : Launch) (Z : State) (a0 : Array Value) (hw : ∀ d ∈ tables_1, d.before a0 Z = true) (ws : List Jvm.Cond) (p0 : Int32) (p1 : Int32) (p2 : Int32) (p3 : Int32) (p4 : Int32) (p5 : Int32) (h0 : Heap) (n0 : Nat) (Z0 : n0 ≤ h0.size) :
    MetFree l x (head1 (Jvm.Cond.code x code maxLocals ret :: ws) room_1) (fun a U => a = #[(.int p0), (.int p1), (.int p2), (.int p3), (.int p4), (.int p5)] ∧ Z.Warmed39 U.vm ∧ U.heap = h0) (fun _ _ _ _ _ => True) (fun _ U o U' => ∃ v L, o = .returned v ∧ own_Q5 Z p0 p1 p2 p3 p4 p5 h0 n0 v U'.heap L ∧ FrameEnd U o U' L room_1.cells room_1.slots) := by
  refine MetFree.of_bodySF (plainFor_of_name own_pn1) hisR ?_
  intro p e s m args below meth c s₁ Bd hml0 hP hK
  obtain ⟨rfl, hZ, hh⟩ := hP
  have hx := Bd.exec
  have hby := Bd.bytes
  have hlk := Bd.notSynchronized
  have hml : c.maxLocals = 10 := hml0
  have hown : s.vm.findClass "com/example/pipehat/pipehat/OccurrencesPackPinLaw" = some m.cls := findClass_of_methodNamed Bd.named
  have hnm := (name_of_methodNamed Bd.named Bd.method).1
  have X0 : Stand p l e room_1 s m #[(.int p0), (.int p1), (.int p2), (.int p3), (.int p4), (.int p5)] below meth c s₁ [] 0 0 := Stand.of_body Bd
  have e0 : s₁.heap = h0 := by rw [← hh, Bd.state]; rfl
  have N0 := Fr.nil n0
  have KR : Keep h0 h0 [] := Keep.refl _ _
  show own_Fin p e below s room_1.cells room_1.slots (own_Q5 Z p0 p1 p2 p3 p4 p5 h0 n0) (s₁.setTop (entryFrame m #[(.int p0), (.int p1), (.int p2), (.int p3), (.int p4), (.int p5)] maxLocals))
  refine own_cast (own_ef5 m p0 p1 p2 p3 p4 p5) ?_
  refine own_step (fun _ k => XS.iconst X0.here hx rfl (hb hby at_0) k) ?_
  show own_Fin p e below s _ _ _ (s₁.setTop (mkF m 1 #[.val (.int p0), .val (.int p1), .val (.int p2), .val (.int p3), .val (.int p4), .val (.int p5), .unset, .unset, .unset, .unset] [(.int (5 : Int32))]))
  obtain ⟨T1, h1, k1, X1, e1, E1, A1, st1⟩ := newP X0 hx hZ (own_w hw 0 rfl) e0 (g := (mkF m 1 #[.val (.int p0), .val (.int p1), .val (.int p2), .val (.int p3), .val (.int p4), .val (.int p5), .unset, .unset, .unset, .unset] [(.int (5 : Int32))])) rfl (hb hby at_1) rfl (by decide) (cap := 5) (by decide) (by decide) (by decide) (by decide)
  obtain ⟨b1, g1⟩ : ∃ z, z = h0.size := ⟨_, rfl⟩
  rw [← g1] at A1 st1
  have gg1 : n0 ≤ b1 := Nat.le_trans Z0 (Nat.le_of_eq g1.symm)
  have sz1 : h0.size ≤ b1 := Nat.le_trans KR.1 (Nat.le_of_eq g1.symm)
  have K1 : Keep h0 h1 [] := KR.ext E1
  have Z1 : n0 ≤ h1.size := Nat.le_trans Z0 E1.1
  have G2 : Arv Z h1 b1 k1 .byte (5 : Int32) [(.int (0 : Int32)), (.int (0 : Int32)), (.int (0 : Int32)), (.int (0 : Int32)), (.int (0 : Int32))] (.int (0 : Int32)) := (Arv.new A1 (by decide)).pad (pad_rep [] (.int (0 : Int32)) 5)
  refine own_step st1 ?_
  show own_Fin p e below s _ _ _ (T1.setTop (mkF m 3 #[.val (.int p0), .val (.int p1), .val (.int p2), .val (.int p3), .val (.int p4), .val (.int p5), .unset, .unset, .unset, .unset] [(.ref b1)]))
  refine own_step (fun _ k => XS.astore X1.here hx rfl (hb hby at_3) rfl rfl (l' := #[.val (.int p0), .val (.int p1), .val (.int p2), .val (.int p3), .val (.int p4), .val (.int p5), .val (.ref b1), .unset, .unset, .unset]) rfl k) ?_
  show own_Fin p e below s _ _ _ (T1.setTop (mkF m 5 #[.val (.int p0), .val (.int p1), .val (.int p2), .val (.int p3), .val (.int p4), .val (.int p5), .val (.ref b1), .unset, .unset, .unset] []))
  refine own_step (fun _ k => XS.aload X1.here hx rfl (hb hby at_5) rfl rfl k) ?_
  show own_Fin p e below s _ _ _ (T1.setTop (mkF m 7 #[.val (.int p0), .val (.int p1), .val (.int p2), .val (.int p3), .val (.int p4), .val (.int p5), .val (.ref b1), .unset, .unset, .unset] [(.ref b1)]))
  refine own_step (fun _ k => XS.iconst X1.here hx rfl (hb hby at_7) k) ?_
  show own_Fin p e below s _ _ _ (T1.setTop (mkF m 8 #[.val (.int p0), .val (.int p1), .val (.int p2), .val (.int p3), .val (.int p4), .val (.int p5), .val (.ref b1), .unset, .unset, .unset] [(.int (0 : Int32)), (.ref b1)]))
  refine own_step (fun _ k => XS.iloadN X1.here hx rfl (hb hby at_8) rfl k) ?_
  show own_Fin p e below s _ _ _ (T1.setTop (mkF m 9 #[.val (.int p0), .val (.int p1), .val (.int p2), .val (.int p3), .val (.int p4), .val (.int p5), .val (.ref b1), .unset, .unset, .unset] [(.int p0), (.int (0 : Int32)), (.ref b1)]))
  refine own_step (fun _ k => XS.i2b X1.here hx rfl (hb hby at_9) rfl k) ?_
  show own_Fin p e below s _ _ _ (T1.setTop (mkF m 10 #[.val (.int p0), .val (.int p1), .val (.int p2), .val (.int p3), .val (.int p4), .val (.int p5), .val (.ref b1), .unset, .unset, .unset] [(.int (p0.toInt8.toInt32)), (.int (0 : Int32)), (.ref b1)]))
  obtain ⟨cl3, Ar3, q3, Sz3, Ng3, Hs3, Gf3⟩ := id G2
  have hin3 : ¬ ((0 : Int32) < 0 ∨ cl3.slots.size ≤ ((0 : Int32)).toNatClampNeg) := inb_of Sz3 ⟨by decide, by decide⟩
  obtain ⟨T3, h3, X3, e3, W3, st3⟩ := stB X1 hx hZ e1 Ar3 (j := (0 : Int32)) hin3 (g := (mkF m 10 #[.val (.int p0), .val (.int p1), .val (.int p2), .val (.int p3), .val (.int p4), .val (.int p5), .val (.ref b1), .unset, .unset, .unset] [(.int (p0.toInt8.toInt32)), (.int (0 : Int32)), (.ref b1)])) rfl rfl (hb hby at_10)
  have N3 := Fr.snoc X3 N0 gg1
  have K3 : Keep h0 h3 [] := K1.wr W3 (Or.inr sz1)
  have Z3 : n0 ≤ h3.size := Nat.le_trans Z1 (Keep.of_wr W3).1
  have G4 : Arv Z h3 b1 k1 .byte (5 : Int32) [(.int (nar .byte (p0.toInt8.toInt32))), (.int (0 : Int32)), (.int (0 : Int32)), (.int (0 : Int32)), (.int (0 : Int32))] (.int (0 : Int32)) := Arv.set Ar3 q3 Sz3 Ng3 Hs3 Gf3 (fits_nar_byte _) W3 0 rfl (Nat.le_of_ble_eq_true rfl)
  refine own_step st3 ?_
  show own_Fin p e below s _ _ _ (T3.setTop (mkF m 11 #[.val (.int p0), .val (.int p1), .val (.int p2), .val (.int p3), .val (.int p4), .val (.int p5), .val (.ref b1), .unset, .unset, .unset] []))
  refine own_step (fun _ k => XS.aload X3.here hx rfl (hb hby at_11) rfl rfl k) ?_
  show own_Fin p e below s _ _ _ (T3.setTop (mkF m 13 #[.val (.int p0), .val (.int p1), .val (.int p2), .val (.int p3), .val (.int p4), .val (.int p5), .val (.ref b1), .unset, .unset, .unset] [(.ref b1)]))
  refine own_step (fun _ k => XS.iconst X3.here hx rfl (hb hby at_13) k) ?_
  show own_Fin p e below s _ _ _ (T3.setTop (mkF m 14 #[.val (.int p0), .val (.int p1), .val (.int p2), .val (.int p3), .val (.int p4), .val (.int p5), .val (.ref b1), .unset, .unset, .unset] [(.int (1 : Int32)), (.ref b1)]))
  refine own_step (fun _ k => XS.iloadN X3.here hx rfl (hb hby at_14) rfl k) ?_
  show own_Fin p e below s _ _ _ (T3.setTop (mkF m 15 #[.val (.int p0), .val (.int p1), .val (.int p2), .val (.int p3), .val (.int p4), .val (.int p5), .val (.ref b1), .unset, .unset, .unset] [(.int p1), (.int (1 : Int32)), (.ref b1)]))
  refine own_step (fun _ k => XS.i2b X3.here hx rfl (hb hby at_15) rfl k) ?_
  show own_Fin p e below s _ _ _ (T3.setTop (mkF m 16 #[.val (.int p0), .val (.int p1), .val (.int p2), .val (.int p3), .val (.int p4), .val (.int p5), .val (.ref b1), .unset, .unset, .unset] [(.int (p1.toInt8.toInt32)), (.int (1 : Int32)), (.ref b1)]))
  obtain ⟨cl5, Ar5, q5, Sz5, Ng5, Hs5, Gf5⟩ := id G4
  have hin5 : ¬ ((1 : Int32) < 0 ∨ cl5.slots.size ≤ ((1 : Int32)).toNatClampNeg) := inb_of Sz5 ⟨by decide, by decide⟩
  obtain ⟨T5, h5, X5, e5, W5, st5⟩ := stB X3 hx hZ e3 Ar5 (j := (1 : Int32)) hin5 (g := (mkF m 16 #[.val (.int p0), .val (.int p1), .val (.int p2), .val (.int p3), .val (.int p4), .val (.int p5), .val (.ref b1), .unset, .unset, .unset] [(.int (p1.toInt8.toInt32)), (.int (1 : Int32)), (.ref b1)])) rfl rfl (hb hby at_16)
  have N5 := Fr.snoc X5 N3 gg1
  have K5 : Keep h0 h5 [] := K3.wr W5 (Or.inr sz1)
  have Z5 : n0 ≤ h5.size := Nat.le_trans Z3 (Keep.of_wr W5).1
  have G6 : Arv Z h5 b1 k1 .byte (5 : Int32) [(.int (nar .byte (p0.toInt8.toInt32))), (.int (nar .byte (p1.toInt8.toInt32))), (.int (0 : Int32)), (.int (0 : Int32)), (.int (0 : Int32))] (.int (0 : Int32)) := Arv.set Ar5 q5 Sz5 Ng5 Hs5 Gf5 (fits_nar_byte _) W5 1 rfl (Nat.le_of_ble_eq_true rfl)
  refine own_step st5 ?_
  show own_Fin p e below s _ _ _ (T5.setTop (mkF m 17 #[.val (.int p0), .val (.int p1), .val (.int p2), .val (.int p3), .val (.int p4), .val (.int p5), .val (.ref b1), .unset, .unset, .unset] []))
  refine own_step (fun _ k => XS.aload X5.here hx rfl (hb hby at_17) rfl rfl k) ?_
  show own_Fin p e below s _ _ _ (T5.setTop (mkF m 19 #[.val (.int p0), .val (.int p1), .val (.int p2), .val (.int p3), .val (.int p4), .val (.int p5), .val (.ref b1), .unset, .unset, .unset] [(.ref b1)]))
  refine own_step (fun _ k => XS.iconst X5.here hx rfl (hb hby at_19) k) ?_
  show own_Fin p e below s _ _ _ (T5.setTop (mkF m 20 #[.val (.int p0), .val (.int p1), .val (.int p2), .val (.int p3), .val (.int p4), .val (.int p5), .val (.ref b1), .unset, .unset, .unset] [(.int (2 : Int32)), (.ref b1)]))
  refine own_step (fun _ k => XS.iloadN X5.here hx rfl (hb hby at_20) rfl k) ?_
  show own_Fin p e below s _ _ _ (T5.setTop (mkF m 21 #[.val (.int p0), .val (.int p1), .val (.int p2), .val (.int p3), .val (.int p4), .val (.int p5), .val (.ref b1), .unset, .unset, .unset] [(.int p2), (.int (2 : Int32)), (.ref b1)]))
  refine own_step (fun _ k => XS.i2b X5.here hx rfl (hb hby at_21) rfl k) ?_
  show own_Fin p e below s _ _ _ (T5.setTop (mkF m 22 #[.val (.int p0), .val (.int p1), .val (.int p2), .val (.int p3), .val (.int p4), .val (.int p5), .val (.ref b1), .unset, .unset, .unset] [(.int (p2.toInt8.toInt32)), (.int (2 : Int32)), (.ref b1)]))
  obtain ⟨cl7, Ar7, q7, Sz7, Ng7, Hs7, Gf7⟩ := id G6
  have hin7 : ¬ ((2 : Int32) < 0 ∨ cl7.slots.size ≤ ((2 : Int32)).toNatClampNeg) := inb_of Sz7 ⟨by decide, by decide⟩
  obtain ⟨T7, h7, X7, e7, W7, st7⟩ := stB X5 hx hZ e5 Ar7 (j := (2 : Int32)) hin7 (g := (mkF m 22 #[.val (.int p0), .val (.int p1), .val (.int p2), .val (.int p3), .val (.int p4), .val (.int p5), .val (.ref b1), .unset, .unset, .unset] [(.int (p2.toInt8.toInt32)), (.int (2 : Int32)), (.ref b1)])) rfl rfl (hb hby at_22)
  have N7 := Fr.snoc X7 N5 gg1
  have K7 : Keep h0 h7 [] := K5.wr W7 (Or.inr sz1)
  have Z7 : n0 ≤ h7.size := Nat.le_trans Z5 (Keep.of_wr W7).1
  have G8 : Arv Z h7 b1 k1 .byte (5 : Int32) [(.int (nar .byte (p0.toInt8.toInt32))), (.int (nar .byte (p1.toInt8.toInt32))), (.int (nar .byte (p2.toInt8.toInt32))), (.int (0 : Int32)), (.int (0 : Int32))] (.int (0 : Int32)) := Arv.set Ar7 q7 Sz7 Ng7 Hs7 Gf7 (fits_nar_byte _) W7 2 rfl (Nat.le_of_ble_eq_true rfl)
  refine own_step st7 ?_
  show own_Fin p e below s _ _ _ (T7.setTop (mkF m 23 #[.val (.int p0), .val (.int p1), .val (.int p2), .val (.int p3), .val (.int p4), .val (.int p5), .val (.ref b1), .unset, .unset, .unset] []))
  refine own_step (fun _ k => XS.aload X7.here hx rfl (hb hby at_23) rfl rfl k) ?_
  show own_Fin p e below s _ _ _ (T7.setTop (mkF m 25 #[.val (.int p0), .val (.int p1), .val (.int p2), .val (.int p3), .val (.int p4), .val (.int p5), .val (.ref b1), .unset, .unset, .unset] [(.ref b1)]))
  refine own_step (fun _ k => XS.iconst X7.here hx rfl (hb hby at_25) k) ?_
  show own_Fin p e below s _ _ _ (T7.setTop (mkF m 26 #[.val (.int p0), .val (.int p1), .val (.int p2), .val (.int p3), .val (.int p4), .val (.int p5), .val (.ref b1), .unset, .unset, .unset] [(.int (3 : Int32)), (.ref b1)]))
  refine own_step (fun _ k => XS.iloadN X7.here hx rfl (hb hby at_26) rfl k) ?_
  show own_Fin p e below s _ _ _ (T7.setTop (mkF m 27 #[.val (.int p0), .val (.int p1), .val (.int p2), .val (.int p3), .val (.int p4), .val (.int p5), .val (.ref b1), .unset, .unset, .unset] [(.int p3), (.int (3 : Int32)), (.ref b1)]))
  refine own_step (fun _ k => XS.i2b X7.here hx rfl (hb hby at_27) rfl k) ?_
  show own_Fin p e below s _ _ _ (T7.setTop (mkF m 28 #[.val (.int p0), .val (.int p1), .val (.int p2), .val (.int p3), .val (.int p4), .val (.int p5), .val (.ref b1), .unset, .unset, .unset] [(.int (p3.toInt8.toInt32)), (.int (3 : Int32)), (.ref b1)]))
  obtain ⟨cl9, Ar9, q9, Sz9, Ng9, Hs9, Gf9⟩ := id G8
  have hin9 : ¬ ((3 : Int32) < 0 ∨ cl9.slots.size ≤ ((3 : Int32)).toNatClampNeg) := inb_of Sz9 ⟨by decide, by decide⟩
  obtain ⟨T9, h9, X9, e9, W9, st9⟩ := stB X7 hx hZ e7 Ar9 (j := (3 : Int32)) hin9 (g := (mkF m 28 #[.val (.int p0), .val (.int p1), .val (.int p2), .val (.int p3), .val (.int p4), .val (.int p5), .val (.ref b1), .unset, .unset, .unset] [(.int (p3.toInt8.toInt32)), (.int (3 : Int32)), (.ref b1)])) rfl rfl (hb hby at_28)
  have N9 := Fr.snoc X9 N7 gg1
  have K9 : Keep h0 h9 [] := K7.wr W9 (Or.inr sz1)
  have Z9 : n0 ≤ h9.size := Nat.le_trans Z7 (Keep.of_wr W9).1
  have G10 : Arv Z h9 b1 k1 .byte (5 : Int32) [(.int (nar .byte (p0.toInt8.toInt32))), (.int (nar .byte (p1.toInt8.toInt32))), (.int (nar .byte (p2.toInt8.toInt32))), (.int (nar .byte (p3.toInt8.toInt32))), (.int (0 : Int32))] (.int (0 : Int32)) := Arv.set Ar9 q9 Sz9 Ng9 Hs9 Gf9 (fits_nar_byte _) W9 3 rfl (Nat.le_of_ble_eq_true rfl)
  refine own_step st9 ?_
  show own_Fin p e below s _ _ _ (T9.setTop (mkF m 29 #[.val (.int p0), .val (.int p1), .val (.int p2), .val (.int p3), .val (.int p4), .val (.int p5), .val (.ref b1), .unset, .unset, .unset] []))
  refine own_step (fun _ k => XS.aload X9.here hx rfl (hb hby at_29) rfl rfl k) ?_
  show own_Fin p e below s _ _ _ (T9.setTop (mkF m 31 #[.val (.int p0), .val (.int p1), .val (.int p2), .val (.int p3), .val (.int p4), .val (.int p5), .val (.ref b1), .unset, .unset, .unset] [(.ref b1)]))
  refine own_step (fun _ k => XS.iconst X9.here hx rfl (hb hby at_31) k) ?_
  show own_Fin p e below s _ _ _ (T9.setTop (mkF m 32 #[.val (.int p0), .val (.int p1), .val (.int p2), .val (.int p3), .val (.int p4), .val (.int p5), .val (.ref b1), .unset, .unset, .unset] [(.int (4 : Int32)), (.ref b1)]))
  refine own_step (fun _ k => XS.iload X9.here hx rfl (hb hby at_32) rfl k) ?_
  show own_Fin p e below s _ _ _ (T9.setTop (mkF m 34 #[.val (.int p0), .val (.int p1), .val (.int p2), .val (.int p3), .val (.int p4), .val (.int p5), .val (.ref b1), .unset, .unset, .unset] [(.int p4), (.int (4 : Int32)), (.ref b1)]))
  refine own_step (fun _ k => XS.i2b X9.here hx rfl (hb hby at_34) rfl k) ?_
  show own_Fin p e below s _ _ _ (T9.setTop (mkF m 35 #[.val (.int p0), .val (.int p1), .val (.int p2), .val (.int p3), .val (.int p4), .val (.int p5), .val (.ref b1), .unset, .unset, .unset] [(.int (p4.toInt8.toInt32)), (.int (4 : Int32)), (.ref b1)]))
  obtain ⟨cl11, Ar11, q11, Sz11, Ng11, Hs11, Gf11⟩ := id G10
  have hin11 : ¬ ((4 : Int32) < 0 ∨ cl11.slots.size ≤ ((4 : Int32)).toNatClampNeg) := inb_of Sz11 ⟨by decide, by decide⟩
  obtain ⟨T11, h11, X11, e11, W11, st11⟩ := stB X9 hx hZ e9 Ar11 (j := (4 : Int32)) hin11 (g := (mkF m 35 #[.val (.int p0), .val (.int p1), .val (.int p2), .val (.int p3), .val (.int p4), .val (.int p5), .val (.ref b1), .unset, .unset, .unset] [(.int (p4.toInt8.toInt32)), (.int (4 : Int32)), (.ref b1)])) rfl rfl (hb hby at_35)
  have N11 := Fr.snoc X11 N9 gg1
  have K11 : Keep h0 h11 [] := K9.wr W11 (Or.inr sz1)
  have Z11 : n0 ≤ h11.size := Nat.le_trans Z9 (Keep.of_wr W11).1
  have G12 : Arv Z h11 b1 k1 .byte (5 : Int32) [(.int (nar .byte (p0.toInt8.toInt32))), (.int (nar .byte (p1.toInt8.toInt32))), (.int (nar .byte (p2.toInt8.toInt32))), (.int (nar .byte (p3.toInt8.toInt32))), (.int (nar .byte (p4.toInt8.toInt32)))] (.int (0 : Int32)) := Arv.set Ar11 q11 Sz11 Ng11 Hs11 Gf11 (fits_nar_byte _) W11 4 rfl (Nat.le_of_ble_eq_true rfl)
  refine own_step st11 ?_
  show own_Fin p e below s _ _ _ (T11.setTop (mkF m 36 #[.val (.int p0), .val (.int p1), .val (.int p2), .val (.int p3), .val (.int p4), .val (.int p5), .val (.ref b1), .unset, .unset, .unset] []))
  refine own_step (fun _ k => XS.iload X11.here hx rfl (hb hby at_36) rfl k) ?_
  show own_Fin p e below s _ _ _ (T11.setTop (mkF m 38 #[.val (.int p0), .val (.int p1), .val (.int p2), .val (.int p3), .val (.int p4), .val (.int p5), .val (.ref b1), .unset, .unset, .unset] [(.int p5)]))
  refine own_step (fun _ k => X11.ldcInt hx hown (mvT hZ (own_w hw 1 rfl)) (g := (mkF m 38 #[.val (.int p0), .val (.int p1), .val (.int p2), .val (.int p3), .val (.int p4), .val (.int p5), .val (.ref b1), .unset, .unset, .unset] [(.int p5)])) rfl (hb hby at_38) _ k) ?_
  show own_Fin p e below s _ _ _ (T11.setTop (mkF m 40 #[.val (.int p0), .val (.int p1), .val (.int p2), .val (.int p3), .val (.int p4), .val (.int p5), .val (.ref b1), .unset, .unset, .unset] [(.int (2147483647 : Int32)), (.int p5)]))
  refine own_step (fun _ k => XS.iand X11.here hx rfl (hb hby at_40) rfl k) ?_
  show own_Fin p e below s _ _ _ (T11.setTop (mkF m 41 #[.val (.int p0), .val (.int p1), .val (.int p2), .val (.int p3), .val (.int p4), .val (.int p5), .val (.ref b1), .unset, .unset, .unset] [(.int (p5 &&& (2147483647 : Int32)))]))
  refine own_step (fun _ k => XS.iconst X11.here hx rfl (hb hby at_41) k) ?_
  show own_Fin p e below s _ _ _ (T11.setTop (mkF m 42 #[.val (.int p0), .val (.int p1), .val (.int p2), .val (.int p3), .val (.int p4), .val (.int p5), .val (.ref b1), .unset, .unset, .unset] [(.int (3 : Int32)), (.int (p5 &&& (2147483647 : Int32)))]))
  refine own_step (fun _ k => iremM (g := (mkF m 42 #[.val (.int p0), .val (.int p1), .val (.int p2), .val (.int p3), .val (.int p4), .val (.int p5), .val (.ref b1), .unset, .unset, .unset] [(.int (3 : Int32)), (.int (p5 &&& (2147483647 : Int32)))])) X11 hx rfl (hb hby at_42) rfl (by decide) k) ?_
  show own_Fin p e below s _ _ _ (T11.setTop (mkF m 43 #[.val (.int p0), .val (.int p1), .val (.int p2), .val (.int p3), .val (.int p4), .val (.int p5), .val (.ref b1), .unset, .unset, .unset] [(.int ((p5 &&& (2147483647 : Int32)) % (3 : Int32)))]))
  refine own_step (fun _ k => XS.istore X11.here hx rfl (hb hby at_43) rfl (l' := #[.val (.int p0), .val (.int p1), .val (.int p2), .val (.int p3), .val (.int p4), .val (.int p5), .val (.ref b1), .val (.int ((p5 &&& (2147483647 : Int32)) % (3 : Int32))), .unset, .unset]) rfl k) ?_
  show own_Fin p e below s _ _ _ (T11.setTop (mkF m 45 #[.val (.int p0), .val (.int p1), .val (.int p2), .val (.int p3), .val (.int p4), .val (.int p5), .val (.ref b1), .val (.int ((p5 &&& (2147483647 : Int32)) % (3 : Int32))), .unset, .unset] []))
  rcases own_k p5 with hk13 | hk14 | hk15
  · rw [hk13]
    show own_Fin p e below s _ _ _ (T11.setTop (mkF m 45 #[.val (.int p0), .val (.int p1), .val (.int p2), .val (.int p3), .val (.int p4), .val (.int p5), .val (.ref b1), .val (.int (0 : Int32)), .unset, .unset] []))
    refine own_step (fun _ k => XS.aload X11.here hx rfl (hb hby at_45) rfl rfl k) ?_
    show own_Fin p e below s _ _ _ (T11.setTop (mkF m 47 #[.val (.int p0), .val (.int p1), .val (.int p2), .val (.int p3), .val (.int p4), .val (.int p5), .val (.ref b1), .val (.int (0 : Int32)), .unset, .unset] [(.ref b1)]))
    refine own_step (fun _ k => XS.iload X11.here hx rfl (hb hby at_47) rfl k) ?_
    show own_Fin p e below s _ _ _ (T11.setTop (mkF m 49 #[.val (.int p0), .val (.int p1), .val (.int p2), .val (.int p3), .val (.int p4), .val (.int p5), .val (.ref b1), .val (.int (0 : Int32)), .unset, .unset] [(.int (0 : Int32)), (.ref b1)]))
    obtain ⟨_, _, ⟨T16, L16, k16, n16⟩, -, X16, ⟨Lc16, hQ16, l16, y16, z16⟩, st16⟩ := Jvm.LawKit.callS X11 hx (y := own_y0) hown (mvT hZ (own_w hw 2 rfl)) (mvT hZ (own_w hw 3 rfl)) (mvT hZ (own_w hw 4 rfl)) (mvT hZ (own_w hw 5 rfl)) (by decide) (backOf (W := 0) (own_rm1 l Z a0 hw [] b1 k1 ((nar .byte (p0.toInt8.toInt32))) ((nar .byte (p1.toInt8.toInt32))) ((nar .byte (p2.toInt8.toInt32))) ((nar .byte (p3.toInt8.toInt32))) ((nar .byte (p4.toInt8.toInt32))) h11 n0 Z11 G12) hZ (own_w hw 5 rfl) (own_w hw 4 rfl) (by decide) (by decide)) (g := (mkF m 49 #[.val (.int p0), .val (.int p1), .val (.int p2), .val (.int p3), .val (.int p4), .val (.int p5), .val (.ref b1), .val (.int (0 : Int32)), .unset, .unset] [(.int (0 : Int32)), (.ref b1)])) rfl (by rw [hml]; rfl) (argsL := [(.ref b1), (.int (0 : Int32))]) (rest := []) (lenOf own_pd0 rfl) rfl (by show 2 * 0 + _ ≤ _; exact Nat.le_of_eq rfl) (hb hby at_49) (fun _ _ => ⟨rfl, e11, (by decide : 1 + 0 ≤ _), (by decide : 5 + 0 ≤ _)⟩)
    dsimp only [Pt.U, Pt.locs, Pt.cells, Pt.slots] at X16 l16 y16 z16 st16 hQ16
    subst l16 y16 z16
    obtain ⟨rfl, N16q, e16⟩ := hQ16
    have N16 := Fr.app N11 N16q
    refine own_step (fun _ k => st16 _ k) ?_
    show own_Fin p e below s _ _ _ (T16.setTop (mkF m 52 #[.val (.int p0), .val (.int p1), .val (.int p2), .val (.int p3), .val (.int p4), .val (.int p5), .val (.ref b1), .val (.int (0 : Int32)), .unset, .unset] [(.int (((((nar .byte (p0.toInt8.toInt32)) &&& (255 : Int32)) <<< ((16 : Int32) &&& 31)) ||| (((nar .byte (p1.toInt8.toInt32)) &&& (255 : Int32)) <<< ((8 : Int32) &&& 31))) ||| ((nar .byte (p2.toInt8.toInt32)) &&& (255 : Int32))))]))
    refine own_step (fun _ k => XS.istore X16.here hx rfl (hb hby at_52) rfl (l' := #[.val (.int p0), .val (.int p1), .val (.int p2), .val (.int p3), .val (.int p4), .val (.int p5), .val (.ref b1), .val (.int (0 : Int32)), .val (.int (((((nar .byte (p0.toInt8.toInt32)) &&& (255 : Int32)) <<< ((16 : Int32) &&& 31)) ||| (((nar .byte (p1.toInt8.toInt32)) &&& (255 : Int32)) <<< ((8 : Int32) &&& 31))) ||| ((nar .byte (p2.toInt8.toInt32)) &&& (255 : Int32)))), .unset]) rfl k) ?_
    show own_Fin p e below s _ _ _ (T16.setTop (mkF m 54 #[.val (.int p0), .val (.int p1), .val (.int p2), .val (.int p3), .val (.int p4), .val (.int p5), .val (.ref b1), .val (.int (0 : Int32)), .val (.int (((((nar .byte (p0.toInt8.toInt32)) &&& (255 : Int32)) <<< ((16 : Int32) &&& 31)) ||| (((nar .byte (p1.toInt8.toInt32)) &&& (255 : Int32)) <<< ((8 : Int32) &&& 31))) ||| ((nar .byte (p2.toInt8.toInt32)) &&& (255 : Int32)))), .unset] []))
    refine own_step (fun _ k => XS.aload X16.here hx rfl (hb hby at_54) rfl rfl k) ?_
    show own_Fin p e below s _ _ _ (T16.setTop (mkF m 56 #[.val (.int p0), .val (.int p1), .val (.int p2), .val (.int p3), .val (.int p4), .val (.int p5), .val (.ref b1), .val (.int (0 : Int32)), .val (.int (((((nar .byte (p0.toInt8.toInt32)) &&& (255 : Int32)) <<< ((16 : Int32) &&& 31)) ||| (((nar .byte (p1.toInt8.toInt32)) &&& (255 : Int32)) <<< ((8 : Int32) &&& 31))) ||| ((nar .byte (p2.toInt8.toInt32)) &&& (255 : Int32)))), .unset] [(.ref b1)]))
    refine own_step (fun _ k => XS.iload X16.here hx rfl (hb hby at_56) rfl k) ?_
    show own_Fin p e below s _ _ _ (T16.setTop (mkF m 58 #[.val (.int p0), .val (.int p1), .val (.int p2), .val (.int p3), .val (.int p4), .val (.int p5), .val (.ref b1), .val (.int (0 : Int32)), .val (.int (((((nar .byte (p0.toInt8.toInt32)) &&& (255 : Int32)) <<< ((16 : Int32) &&& 31)) ||| (((nar .byte (p1.toInt8.toInt32)) &&& (255 : Int32)) <<< ((8 : Int32) &&& 31))) ||| ((nar .byte (p2.toInt8.toInt32)) &&& (255 : Int32)))), .unset] [(.int (0 : Int32)), (.ref b1)]))
    obtain ⟨cl17, Ar17, q17, Sz17, Ng17, Hs17, Gf17⟩ := id G12
    have hin17 : ¬ ((0 : Int32) < 0 ∨ cl17.slots.size ≤ ((0 : Int32)).toNatClampNeg) := inb_of Sz17 ⟨by decide, by decide⟩
    refine own_step (fun _ k => X16.baloadBytes hx (j := (0 : Int32)) (v := (.int (nar .byte (p0.toInt8.toInt32)))) (by rw [e16]; exact Ar17.1) (State.isArrayOf_alike hZ.alike Ar17.2.1) Ar17.2.2 hin17 (Has.at Hs17 hin17 rfl) (g := (mkF m 58 #[.val (.int p0), .val (.int p1), .val (.int p2), .val (.int p3), .val (.int p4), .val (.int p5), .val (.ref b1), .val (.int (0 : Int32)), .val (.int (((((nar .byte (p0.toInt8.toInt32)) &&& (255 : Int32)) <<< ((16 : Int32) &&& 31)) ||| (((nar .byte (p1.toInt8.toInt32)) &&& (255 : Int32)) <<< ((8 : Int32) &&& 31))) ||| ((nar .byte (p2.toInt8.toInt32)) &&& (255 : Int32)))), .unset] [(.int (0 : Int32)), (.ref b1)])) rfl rfl (hb hby at_58) _ k) ?_
    show own_Fin p e below s _ _ _ (T16.setTop (mkF m 59 #[.val (.int p0), .val (.int p1), .val (.int p2), .val (.int p3), .val (.int p4), .val (.int p5), .val (.ref b1), .val (.int (0 : Int32)), .val (.int (((((nar .byte (p0.toInt8.toInt32)) &&& (255 : Int32)) <<< ((16 : Int32) &&& 31)) ||| (((nar .byte (p1.toInt8.toInt32)) &&& (255 : Int32)) <<< ((8 : Int32) &&& 31))) ||| ((nar .byte (p2.toInt8.toInt32)) &&& (255 : Int32)))), .unset] [(.int (nar .byte (p0.toInt8.toInt32)))]))
    obtain ⟨_, _, ⟨T18, L18, k18, n18⟩, -, X18, ⟨Lc18, hQ18, l18, y18, z18⟩, st18⟩ := Jvm.LawKit.callS X16 hx (y := own_y1) hown (mvT hZ (own_w hw 6 rfl)) (mvT hZ (own_w hw 7 rfl)) (mvT hZ (own_w hw 8 rfl)) (mvT hZ (own_w hw 9 rfl)) (by decide) (backOf (W := 0) (own_rm4 l Z a0 hw [] ((nar .byte (p0.toInt8.toInt32))) h11 n0 Z11 ) hZ (own_w hw 9 rfl) (own_w hw 8 rfl) (by decide) (by decide)) (g := (mkF m 59 #[.val (.int p0), .val (.int p1), .val (.int p2), .val (.int p3), .val (.int p4), .val (.int p5), .val (.ref b1), .val (.int (0 : Int32)), .val (.int (((((nar .byte (p0.toInt8.toInt32)) &&& (255 : Int32)) <<< ((16 : Int32) &&& 31)) ||| (((nar .byte (p1.toInt8.toInt32)) &&& (255 : Int32)) <<< ((8 : Int32) &&& 31))) ||| ((nar .byte (p2.toInt8.toInt32)) &&& (255 : Int32)))), .unset] [(.int (nar .byte (p0.toInt8.toInt32)))])) rfl (by rw [hml]; rfl) (argsL := [(.int (nar .byte (p0.toInt8.toInt32)))]) (rest := []) (lenOf own_pd1 rfl) rfl (by show 2 * 0 + _ ≤ _; exact Nat.le_of_eq rfl) (hb hby at_59) (fun _ _ => ⟨rfl, e16, (by decide : 1 + 0 ≤ _), (by decide : 5 + 0 ≤ _)⟩)
    dsimp only [Pt.U, Pt.locs, Pt.cells, Pt.slots] at X18 l18 y18 z18 st18 hQ18
    subst l18 y18 z18
    obtain ⟨rfl, N18q, e18⟩ := hQ18
    have N18 := Fr.app N16 N18q
    refine own_step (fun _ k => st18 _ k) ?_
    show own_Fin p e below s _ _ _ (T18.setTop (mkF m 62 #[.val (.int p0), .val (.int p1), .val (.int p2), .val (.int p3), .val (.int p4), .val (.int p5), .val (.ref b1), .val (.int (0 : Int32)), .val (.int (((((nar .byte (p0.toInt8.toInt32)) &&& (255 : Int32)) <<< ((16 : Int32) &&& 31)) ||| (((nar .byte (p1.toInt8.toInt32)) &&& (255 : Int32)) <<< ((8 : Int32) &&& 31))) ||| ((nar .byte (p2.toInt8.toInt32)) &&& (255 : Int32)))), .unset] [(.int (own_r4 (nar .byte (p0.toInt8.toInt32))))]))
    refine own_step (fun _ k => X18.ldcInt hx hown (mvT hZ (own_w hw 10 rfl)) (g := (mkF m 62 #[.val (.int p0), .val (.int p1), .val (.int p2), .val (.int p3), .val (.int p4), .val (.int p5), .val (.ref b1), .val (.int (0 : Int32)), .val (.int (((((nar .byte (p0.toInt8.toInt32)) &&& (255 : Int32)) <<< ((16 : Int32) &&& 31)) ||| (((nar .byte (p1.toInt8.toInt32)) &&& (255 : Int32)) <<< ((8 : Int32) &&& 31))) ||| ((nar .byte (p2.toInt8.toInt32)) &&& (255 : Int32)))), .unset] [(.int (own_r4 (nar .byte (p0.toInt8.toInt32))))])) rfl (hb hby at_62) _ k) ?_
    show own_Fin p e below s _ _ _ (T18.setTop (mkF m 64 #[.val (.int p0), .val (.int p1), .val (.int p2), .val (.int p3), .val (.int p4), .val (.int p5), .val (.ref b1), .val (.int (0 : Int32)), .val (.int (((((nar .byte (p0.toInt8.toInt32)) &&& (255 : Int32)) <<< ((16 : Int32) &&& 31)) ||| (((nar .byte (p1.toInt8.toInt32)) &&& (255 : Int32)) <<< ((8 : Int32) &&& 31))) ||| ((nar .byte (p2.toInt8.toInt32)) &&& (255 : Int32)))), .unset] [(.int (65536 : Int32)), (.int (own_r4 (nar .byte (p0.toInt8.toInt32))))]))
    refine own_step (fun _ k => XS.imul X18.here hx rfl (hb hby at_64) rfl k) ?_
    show own_Fin p e below s _ _ _ (T18.setTop (mkF m 65 #[.val (.int p0), .val (.int p1), .val (.int p2), .val (.int p3), .val (.int p4), .val (.int p5), .val (.ref b1), .val (.int (0 : Int32)), .val (.int (((((nar .byte (p0.toInt8.toInt32)) &&& (255 : Int32)) <<< ((16 : Int32) &&& 31)) ||| (((nar .byte (p1.toInt8.toInt32)) &&& (255 : Int32)) <<< ((8 : Int32) &&& 31))) ||| ((nar .byte (p2.toInt8.toInt32)) &&& (255 : Int32)))), .unset] [(.int ((own_r4 (nar .byte (p0.toInt8.toInt32))) * (65536 : Int32)))]))
    refine own_step (fun _ k => XS.aload X18.here hx rfl (hb hby at_65) rfl rfl k) ?_
    show own_Fin p e below s _ _ _ (T18.setTop (mkF m 67 #[.val (.int p0), .val (.int p1), .val (.int p2), .val (.int p3), .val (.int p4), .val (.int p5), .val (.ref b1), .val (.int (0 : Int32)), .val (.int (((((nar .byte (p0.toInt8.toInt32)) &&& (255 : Int32)) <<< ((16 : Int32) &&& 31)) ||| (((nar .byte (p1.toInt8.toInt32)) &&& (255 : Int32)) <<< ((8 : Int32) &&& 31))) ||| ((nar .byte (p2.toInt8.toInt32)) &&& (255 : Int32)))), .unset] [(.ref b1), (.int ((own_r4 (nar .byte (p0.toInt8.toInt32))) * (65536 : Int32)))]))
    refine own_step (fun _ k => XS.iload X18.here hx rfl (hb hby at_67) rfl k) ?_
    show own_Fin p e below s _ _ _ (T18.setTop (mkF m 69 #[.val (.int p0), .val (.int p1), .val (.int p2), .val (.int p3), .val (.int p4), .val (.int p5), .val (.ref b1), .val (.int (0 : Int32)), .val (.int (((((nar .byte (p0.toInt8.toInt32)) &&& (255 : Int32)) <<< ((16 : Int32) &&& 31)) ||| (((nar .byte (p1.toInt8.toInt32)) &&& (255 : Int32)) <<< ((8 : Int32) &&& 31))) ||| ((nar .byte (p2.toInt8.toInt32)) &&& (255 : Int32)))), .unset] [(.int (0 : Int32)), (.ref b1), (.int ((own_r4 (nar .byte (p0.toInt8.toInt32))) * (65536 : Int32)))]))
    refine own_step (fun _ k => XS.iconst X18.here hx rfl (hb hby at_69) k) ?_
    show own_Fin p e below s _ _ _ (T18.setTop (mkF m 70 #[.val (.int p0), .val (.int p1), .val (.int p2), .val (.int p3), .val (.int p4), .val (.int p5), .val (.ref b1), .val (.int (0 : Int32)), .val (.int (((((nar .byte (p0.toInt8.toInt32)) &&& (255 : Int32)) <<< ((16 : Int32) &&& 31)) ||| (((nar .byte (p1.toInt8.toInt32)) &&& (255 : Int32)) <<< ((8 : Int32) &&& 31))) ||| ((nar .byte (p2.toInt8.toInt32)) &&& (255 : Int32)))), .unset] [(.int (1 : Int32)), (.int (0 : Int32)), (.ref b1), (.int ((own_r4 (nar .byte (p0.toInt8.toInt32))) * (65536 : Int32)))]))
    refine own_step (fun _ k => XS.iadd X18.here hx rfl (hb hby at_70) rfl k) ?_
    show own_Fin p e below s _ _ _ (T18.setTop (mkF m 71 #[.val (.int p0), .val (.int p1), .val (.int p2), .val (.int p3), .val (.int p4), .val (.int p5), .val (.ref b1), .val (.int (0 : Int32)), .val (.int (((((nar .byte (p0.toInt8.toInt32)) &&& (255 : Int32)) <<< ((16 : Int32) &&& 31)) ||| (((nar .byte (p1.toInt8.toInt32)) &&& (255 : Int32)) <<< ((8 : Int32) &&& 31))) ||| ((nar .byte (p2.toInt8.toInt32)) &&& (255 : Int32)))), .unset] [(.int ((0 : Int32) + (1 : Int32))), (.ref b1), (.int ((own_r4 (nar .byte (p0.toInt8.toInt32))) * (65536 : Int32)))]))
    rw [show ((0 : Int32) + (1 : Int32)) = (1 : Int32) from by decide]
    show own_Fin p e below s _ _ _ (T18.setTop (mkF m 71 #[.val (.int p0), .val (.int p1), .val (.int p2), .val (.int p3), .val (.int p4), .val (.int p5), .val (.ref b1), .val (.int (0 : Int32)), .val (.int (((((nar .byte (p0.toInt8.toInt32)) &&& (255 : Int32)) <<< ((16 : Int32) &&& 31)) ||| (((nar .byte (p1.toInt8.toInt32)) &&& (255 : Int32)) <<< ((8 : Int32) &&& 31))) ||| ((nar .byte (p2.toInt8.toInt32)) &&& (255 : Int32)))), .unset] [(.int (1 : Int32)), (.ref b1), (.int ((own_r4 (nar .byte (p0.toInt8.toInt32))) * (65536 : Int32)))]))
    obtain ⟨cl19, Ar19, q19, Sz19, Ng19, Hs19, Gf19⟩ := id G12
    have hin19 : ¬ ((1 : Int32) < 0 ∨ cl19.slots.size ≤ ((1 : Int32)).toNatClampNeg) := inb_of Sz19 ⟨by decide, by decide⟩
    refine own_step (fun _ k => X18.baloadBytes hx (j := (1 : Int32)) (v := (.int (nar .byte (p1.toInt8.toInt32)))) (by rw [e18]; exact Ar19.1) (State.isArrayOf_alike hZ.alike Ar19.2.1) Ar19.2.2 hin19 (Has.at Hs19 hin19 rfl) (g := (mkF m 71 #[.val (.int p0), .val (.int p1), .val (.int p2), .val (.int p3), .val (.int p4), .val (.int p5), .val (.ref b1), .val (.int (0 : Int32)), .val (.int (((((nar .byte (p0.toInt8.toInt32)) &&& (255 : Int32)) <<< ((16 : Int32) &&& 31)) ||| (((nar .byte (p1.toInt8.toInt32)) &&& (255 : Int32)) <<< ((8 : Int32) &&& 31))) ||| ((nar .byte (p2.toInt8.toInt32)) &&& (255 : Int32)))), .unset] [(.int (1 : Int32)), (.ref b1), (.int ((own_r4 (nar .byte (p0.toInt8.toInt32))) * (65536 : Int32)))])) rfl rfl (hb hby at_71) _ k) ?_
    show own_Fin p e below s _ _ _ (T18.setTop (mkF m 72 #[.val (.int p0), .val (.int p1), .val (.int p2), .val (.int p3), .val (.int p4), .val (.int p5), .val (.ref b1), .val (.int (0 : Int32)), .val (.int (((((nar .byte (p0.toInt8.toInt32)) &&& (255 : Int32)) <<< ((16 : Int32) &&& 31)) ||| (((nar .byte (p1.toInt8.toInt32)) &&& (255 : Int32)) <<< ((8 : Int32) &&& 31))) ||| ((nar .byte (p2.toInt8.toInt32)) &&& (255 : Int32)))), .unset] [(.int (nar .byte (p1.toInt8.toInt32))), (.int ((own_r4 (nar .byte (p0.toInt8.toInt32))) * (65536 : Int32)))]))
    obtain ⟨_, _, ⟨T20, L20, k20, n20⟩, -, X20, ⟨Lc20, hQ20, l20, y20, z20⟩, st20⟩ := Jvm.LawKit.callS X18 hx (y := own_y1) hown (mvT hZ (own_w hw 6 rfl)) (mvT hZ (own_w hw 7 rfl)) (mvT hZ (own_w hw 8 rfl)) (mvT hZ (own_w hw 9 rfl)) (by decide) (backOf (W := 1) (own_rm4 l Z a0 hw [] ((nar .byte (p1.toInt8.toInt32))) h11 n0 Z11 ) hZ (own_w hw 9 rfl) (own_w hw 8 rfl) (by decide) (by decide)) (g := (mkF m 72 #[.val (.int p0), .val (.int p1), .val (.int p2), .val (.int p3), .val (.int p4), .val (.int p5), .val (.ref b1), .val (.int (0 : Int32)), .val (.int (((((nar .byte (p0.toInt8.toInt32)) &&& (255 : Int32)) <<< ((16 : Int32) &&& 31)) ||| (((nar .byte (p1.toInt8.toInt32)) &&& (255 : Int32)) <<< ((8 : Int32) &&& 31))) ||| ((nar .byte (p2.toInt8.toInt32)) &&& (255 : Int32)))), .unset] [(.int (nar .byte (p1.toInt8.toInt32))), (.int ((own_r4 (nar .byte (p0.toInt8.toInt32))) * (65536 : Int32)))])) rfl (by rw [hml]; rfl) (argsL := [(.int (nar .byte (p1.toInt8.toInt32)))]) (rest := [(.int ((own_r4 (nar .byte (p0.toInt8.toInt32))) * (65536 : Int32)))]) (lenOf own_pd1 rfl) rfl (by show 2 * 0 + _ ≤ _; exact Nat.le_of_eq rfl) (hb hby at_72) (fun _ _ => ⟨rfl, e18, (by decide : 1 + 0 ≤ _), (by decide : 5 + 0 ≤ _)⟩)
    dsimp only [Pt.U, Pt.locs, Pt.cells, Pt.slots] at X20 l20 y20 z20 st20 hQ20
    subst l20 y20 z20
    obtain ⟨rfl, N20q, e20⟩ := hQ20
    have N20 := Fr.app N18 N20q
    refine own_step (fun _ k => st20 _ k) ?_
    show own_Fin p e below s _ _ _ (T20.setTop (mkF m 75 #[.val (.int p0), .val (.int p1), .val (.int p2), .val (.int p3), .val (.int p4), .val (.int p5), .val (.ref b1), .val (.int (0 : Int32)), .val (.int (((((nar .byte (p0.toInt8.toInt32)) &&& (255 : Int32)) <<< ((16 : Int32) &&& 31)) ||| (((nar .byte (p1.toInt8.toInt32)) &&& (255 : Int32)) <<< ((8 : Int32) &&& 31))) ||| ((nar .byte (p2.toInt8.toInt32)) &&& (255 : Int32)))), .unset] [(.int (own_r4 (nar .byte (p1.toInt8.toInt32)))), (.int ((own_r4 (nar .byte (p0.toInt8.toInt32))) * (65536 : Int32)))]))
    refine own_step (fun _ k => XS.sipush X20.here hx rfl (hb hby at_75) k) ?_
    show own_Fin p e below s _ _ _ (T20.setTop (mkF m 78 #[.val (.int p0), .val (.int p1), .val (.int p2), .val (.int p3), .val (.int p4), .val (.int p5), .val (.ref b1), .val (.int (0 : Int32)), .val (.int (((((nar .byte (p0.toInt8.toInt32)) &&& (255 : Int32)) <<< ((16 : Int32) &&& 31)) ||| (((nar .byte (p1.toInt8.toInt32)) &&& (255 : Int32)) <<< ((8 : Int32) &&& 31))) ||| ((nar .byte (p2.toInt8.toInt32)) &&& (255 : Int32)))), .unset] [(.int (256 : Int32)), (.int (own_r4 (nar .byte (p1.toInt8.toInt32)))), (.int ((own_r4 (nar .byte (p0.toInt8.toInt32))) * (65536 : Int32)))]))
    refine own_step (fun _ k => XS.imul X20.here hx rfl (hb hby at_78) rfl k) ?_
    show own_Fin p e below s _ _ _ (T20.setTop (mkF m 79 #[.val (.int p0), .val (.int p1), .val (.int p2), .val (.int p3), .val (.int p4), .val (.int p5), .val (.ref b1), .val (.int (0 : Int32)), .val (.int (((((nar .byte (p0.toInt8.toInt32)) &&& (255 : Int32)) <<< ((16 : Int32) &&& 31)) ||| (((nar .byte (p1.toInt8.toInt32)) &&& (255 : Int32)) <<< ((8 : Int32) &&& 31))) ||| ((nar .byte (p2.toInt8.toInt32)) &&& (255 : Int32)))), .unset] [(.int ((own_r4 (nar .byte (p1.toInt8.toInt32))) * (256 : Int32))), (.int ((own_r4 (nar .byte (p0.toInt8.toInt32))) * (65536 : Int32)))]))
    refine own_step (fun _ k => XS.iadd X20.here hx rfl (hb hby at_79) rfl k) ?_
    show own_Fin p e below s _ _ _ (T20.setTop (mkF m 80 #[.val (.int p0), .val (.int p1), .val (.int p2), .val (.int p3), .val (.int p4), .val (.int p5), .val (.ref b1), .val (.int (0 : Int32)), .val (.int (((((nar .byte (p0.toInt8.toInt32)) &&& (255 : Int32)) <<< ((16 : Int32) &&& 31)) ||| (((nar .byte (p1.toInt8.toInt32)) &&& (255 : Int32)) <<< ((8 : Int32) &&& 31))) ||| ((nar .byte (p2.toInt8.toInt32)) &&& (255 : Int32)))), .unset] [(.int (((own_r4 (nar .byte (p0.toInt8.toInt32))) * (65536 : Int32)) + ((own_r4 (nar .byte (p1.toInt8.toInt32))) * (256 : Int32))))]))
    refine own_step (fun _ k => XS.aload X20.here hx rfl (hb hby at_80) rfl rfl k) ?_
    show own_Fin p e below s _ _ _ (T20.setTop (mkF m 82 #[.val (.int p0), .val (.int p1), .val (.int p2), .val (.int p3), .val (.int p4), .val (.int p5), .val (.ref b1), .val (.int (0 : Int32)), .val (.int (((((nar .byte (p0.toInt8.toInt32)) &&& (255 : Int32)) <<< ((16 : Int32) &&& 31)) ||| (((nar .byte (p1.toInt8.toInt32)) &&& (255 : Int32)) <<< ((8 : Int32) &&& 31))) ||| ((nar .byte (p2.toInt8.toInt32)) &&& (255 : Int32)))), .unset] [(.ref b1), (.int (((own_r4 (nar .byte (p0.toInt8.toInt32))) * (65536 : Int32)) + ((own_r4 (nar .byte (p1.toInt8.toInt32))) * (256 : Int32))))]))
    refine own_step (fun _ k => XS.iload X20.here hx rfl (hb hby at_82) rfl k) ?_
    show own_Fin p e below s _ _ _ (T20.setTop (mkF m 84 #[.val (.int p0), .val (.int p1), .val (.int p2), .val (.int p3), .val (.int p4), .val (.int p5), .val (.ref b1), .val (.int (0 : Int32)), .val (.int (((((nar .byte (p0.toInt8.toInt32)) &&& (255 : Int32)) <<< ((16 : Int32) &&& 31)) ||| (((nar .byte (p1.toInt8.toInt32)) &&& (255 : Int32)) <<< ((8 : Int32) &&& 31))) ||| ((nar .byte (p2.toInt8.toInt32)) &&& (255 : Int32)))), .unset] [(.int (0 : Int32)), (.ref b1), (.int (((own_r4 (nar .byte (p0.toInt8.toInt32))) * (65536 : Int32)) + ((own_r4 (nar .byte (p1.toInt8.toInt32))) * (256 : Int32))))]))
    refine own_step (fun _ k => XS.iconst X20.here hx rfl (hb hby at_84) k) ?_
    show own_Fin p e below s _ _ _ (T20.setTop (mkF m 85 #[.val (.int p0), .val (.int p1), .val (.int p2), .val (.int p3), .val (.int p4), .val (.int p5), .val (.ref b1), .val (.int (0 : Int32)), .val (.int (((((nar .byte (p0.toInt8.toInt32)) &&& (255 : Int32)) <<< ((16 : Int32) &&& 31)) ||| (((nar .byte (p1.toInt8.toInt32)) &&& (255 : Int32)) <<< ((8 : Int32) &&& 31))) ||| ((nar .byte (p2.toInt8.toInt32)) &&& (255 : Int32)))), .unset] [(.int (2 : Int32)), (.int (0 : Int32)), (.ref b1), (.int (((own_r4 (nar .byte (p0.toInt8.toInt32))) * (65536 : Int32)) + ((own_r4 (nar .byte (p1.toInt8.toInt32))) * (256 : Int32))))]))
    refine own_step (fun _ k => XS.iadd X20.here hx rfl (hb hby at_85) rfl k) ?_
    show own_Fin p e below s _ _ _ (T20.setTop (mkF m 86 #[.val (.int p0), .val (.int p1), .val (.int p2), .val (.int p3), .val (.int p4), .val (.int p5), .val (.ref b1), .val (.int (0 : Int32)), .val (.int (((((nar .byte (p0.toInt8.toInt32)) &&& (255 : Int32)) <<< ((16 : Int32) &&& 31)) ||| (((nar .byte (p1.toInt8.toInt32)) &&& (255 : Int32)) <<< ((8 : Int32) &&& 31))) ||| ((nar .byte (p2.toInt8.toInt32)) &&& (255 : Int32)))), .unset] [(.int ((0 : Int32) + (2 : Int32))), (.ref b1), (.int (((own_r4 (nar .byte (p0.toInt8.toInt32))) * (65536 : Int32)) + ((own_r4 (nar .byte (p1.toInt8.toInt32))) * (256 : Int32))))]))
    rw [show ((0 : Int32) + (2 : Int32)) = (2 : Int32) from by decide]
    show own_Fin p e below s _ _ _ (T20.setTop (mkF m 86 #[.val (.int p0), .val (.int p1), .val (.int p2), .val (.int p3), .val (.int p4), .val (.int p5), .val (.ref b1), .val (.int (0 : Int32)), .val (.int (((((nar .byte (p0.toInt8.toInt32)) &&& (255 : Int32)) <<< ((16 : Int32) &&& 31)) ||| (((nar .byte (p1.toInt8.toInt32)) &&& (255 : Int32)) <<< ((8 : Int32) &&& 31))) ||| ((nar .byte (p2.toInt8.toInt32)) &&& (255 : Int32)))), .unset] [(.int (2 : Int32)), (.ref b1), (.int (((own_r4 (nar .byte (p0.toInt8.toInt32))) * (65536 : Int32)) + ((own_r4 (nar .byte (p1.toInt8.toInt32))) * (256 : Int32))))]))
    obtain ⟨cl21, Ar21, q21, Sz21, Ng21, Hs21, Gf21⟩ := id G12
    have hin21 : ¬ ((2 : Int32) < 0 ∨ cl21.slots.size ≤ ((2 : Int32)).toNatClampNeg) := inb_of Sz21 ⟨by decide, by decide⟩
    refine own_step (fun _ k => X20.baloadBytes hx (j := (2 : Int32)) (v := (.int (nar .byte (p2.toInt8.toInt32)))) (by rw [e20]; exact Ar21.1) (State.isArrayOf_alike hZ.alike Ar21.2.1) Ar21.2.2 hin21 (Has.at Hs21 hin21 rfl) (g := (mkF m 86 #[.val (.int p0), .val (.int p1), .val (.int p2), .val (.int p3), .val (.int p4), .val (.int p5), .val (.ref b1), .val (.int (0 : Int32)), .val (.int (((((nar .byte (p0.toInt8.toInt32)) &&& (255 : Int32)) <<< ((16 : Int32) &&& 31)) ||| (((nar .byte (p1.toInt8.toInt32)) &&& (255 : Int32)) <<< ((8 : Int32) &&& 31))) ||| ((nar .byte (p2.toInt8.toInt32)) &&& (255 : Int32)))), .unset] [(.int (2 : Int32)), (.ref b1), (.int (((own_r4 (nar .byte (p0.toInt8.toInt32))) * (65536 : Int32)) + ((own_r4 (nar .byte (p1.toInt8.toInt32))) * (256 : Int32))))])) rfl rfl (hb hby at_86) _ k) ?_
    show own_Fin p e below s _ _ _ (T20.setTop (mkF m 87 #[.val (.int p0), .val (.int p1), .val (.int p2), .val (.int p3), .val (.int p4), .val (.int p5), .val (.ref b1), .val (.int (0 : Int32)), .val (.int (((((nar .byte (p0.toInt8.toInt32)) &&& (255 : Int32)) <<< ((16 : Int32) &&& 31)) ||| (((nar .byte (p1.toInt8.toInt32)) &&& (255 : Int32)) <<< ((8 : Int32) &&& 31))) ||| ((nar .byte (p2.toInt8.toInt32)) &&& (255 : Int32)))), .unset] [(.int (nar .byte (p2.toInt8.toInt32))), (.int (((own_r4 (nar .byte (p0.toInt8.toInt32))) * (65536 : Int32)) + ((own_r4 (nar .byte (p1.toInt8.toInt32))) * (256 : Int32))))]))
    obtain ⟨_, _, ⟨T22, L22, k22, n22⟩, -, X22, ⟨Lc22, hQ22, l22, y22, z22⟩, st22⟩ := Jvm.LawKit.callS X20 hx (y := own_y1) hown (mvT hZ (own_w hw 6 rfl)) (mvT hZ (own_w hw 7 rfl)) (mvT hZ (own_w hw 8 rfl)) (mvT hZ (own_w hw 9 rfl)) (by decide) (backOf (W := 1) (own_rm4 l Z a0 hw [] ((nar .byte (p2.toInt8.toInt32))) h11 n0 Z11 ) hZ (own_w hw 9 rfl) (own_w hw 8 rfl) (by decide) (by decide)) (g := (mkF m 87 #[.val (.int p0), .val (.int p1), .val (.int p2), .val (.int p3), .val (.int p4), .val (.int p5), .val (.ref b1), .val (.int (0 : Int32)), .val (.int (((((nar .byte (p0.toInt8.toInt32)) &&& (255 : Int32)) <<< ((16 : Int32) &&& 31)) ||| (((nar .byte (p1.toInt8.toInt32)) &&& (255 : Int32)) <<< ((8 : Int32) &&& 31))) ||| ((nar .byte (p2.toInt8.toInt32)) &&& (255 : Int32)))), .unset] [(.int (nar .byte (p2.toInt8.toInt32))), (.int (((own_r4 (nar .byte (p0.toInt8.toInt32))) * (65536 : Int32)) + ((own_r4 (nar .byte (p1.toInt8.toInt32))) * (256 : Int32))))])) rfl (by rw [hml]; rfl) (argsL := [(.int (nar .byte (p2.toInt8.toInt32)))]) (rest := [(.int (((own_r4 (nar .byte (p0.toInt8.toInt32))) * (65536 : Int32)) + ((own_r4 (nar .byte (p1.toInt8.toInt32))) * (256 : Int32))))]) (lenOf own_pd1 rfl) rfl (by show 2 * 0 + _ ≤ _; exact Nat.le_of_eq rfl) (hb hby at_87) (fun _ _ => ⟨rfl, e20, (by decide : 1 + 0 ≤ _), (by decide : 5 + 0 ≤ _)⟩)
    dsimp only [Pt.U, Pt.locs, Pt.cells, Pt.slots] at X22 l22 y22 z22 st22 hQ22
    subst l22 y22 z22
    obtain ⟨rfl, N22q, e22⟩ := hQ22
    have N22 := Fr.app N20 N22q
    refine own_step (fun _ k => st22 _ k) ?_
    show own_Fin p e below s _ _ _ (T22.setTop (mkF m 90 #[.val (.int p0), .val (.int p1), .val (.int p2), .val (.int p3), .val (.int p4), .val (.int p5), .val (.ref b1), .val (.int (0 : Int32)), .val (.int (((((nar .byte (p0.toInt8.toInt32)) &&& (255 : Int32)) <<< ((16 : Int32) &&& 31)) ||| (((nar .byte (p1.toInt8.toInt32)) &&& (255 : Int32)) <<< ((8 : Int32) &&& 31))) ||| ((nar .byte (p2.toInt8.toInt32)) &&& (255 : Int32)))), .unset] [(.int (own_r4 (nar .byte (p2.toInt8.toInt32)))), (.int (((own_r4 (nar .byte (p0.toInt8.toInt32))) * (65536 : Int32)) + ((own_r4 (nar .byte (p1.toInt8.toInt32))) * (256 : Int32))))]))
    refine own_step (fun _ k => XS.iadd X22.here hx rfl (hb hby at_90) rfl k) ?_
    show own_Fin p e below s _ _ _ (T22.setTop (mkF m 91 #[.val (.int p0), .val (.int p1), .val (.int p2), .val (.int p3), .val (.int p4), .val (.int p5), .val (.ref b1), .val (.int (0 : Int32)), .val (.int (((((nar .byte (p0.toInt8.toInt32)) &&& (255 : Int32)) <<< ((16 : Int32) &&& 31)) ||| (((nar .byte (p1.toInt8.toInt32)) &&& (255 : Int32)) <<< ((8 : Int32) &&& 31))) ||| ((nar .byte (p2.toInt8.toInt32)) &&& (255 : Int32)))), .unset] [(.int ((((own_r4 (nar .byte (p0.toInt8.toInt32))) * (65536 : Int32)) + ((own_r4 (nar .byte (p1.toInt8.toInt32))) * (256 : Int32))) + (own_r4 (nar .byte (p2.toInt8.toInt32)))))]))
    refine own_step (fun _ k => XS.istore X22.here hx rfl (hb hby at_91) rfl (l' := #[.val (.int p0), .val (.int p1), .val (.int p2), .val (.int p3), .val (.int p4), .val (.int p5), .val (.ref b1), .val (.int (0 : Int32)), .val (.int (((((nar .byte (p0.toInt8.toInt32)) &&& (255 : Int32)) <<< ((16 : Int32) &&& 31)) ||| (((nar .byte (p1.toInt8.toInt32)) &&& (255 : Int32)) <<< ((8 : Int32) &&& 31))) ||| ((nar .byte (p2.toInt8.toInt32)) &&& (255 : Int32)))), .val (.int ((((own_r4 (nar .byte (p0.toInt8.toInt32))) * (65536 : Int32)) + ((own_r4 (nar .byte (p1.toInt8.toInt32))) * (256 : Int32))) + (own_r4 (nar .byte (p2.toInt8.toInt32)))))]) rfl k) ?_
    show own_Fin p e below s _ _ _ (T22.setTop (mkF m 93 #[.val (.int p0), .val (.int p1), .val (.int p2), .val (.int p3), .val (.int p4), .val (.int p5), .val (.ref b1), .val (.int (0 : Int32)), .val (.int (((((nar .byte (p0.toInt8.toInt32)) &&& (255 : Int32)) <<< ((16 : Int32) &&& 31)) ||| (((nar .byte (p1.toInt8.toInt32)) &&& (255 : Int32)) <<< ((8 : Int32) &&& 31))) ||| ((nar .byte (p2.toInt8.toInt32)) &&& (255 : Int32)))), .val (.int ((((own_r4 (nar .byte (p0.toInt8.toInt32))) * (65536 : Int32)) + ((own_r4 (nar .byte (p1.toInt8.toInt32))) * (256 : Int32))) + (own_r4 (nar .byte (p2.toInt8.toInt32)))))] []))
    refine own_step (fun _ k => XS.iload X22.here hx rfl (hb hby at_93) rfl k) ?_
    show own_Fin p e below s _ _ _ (T22.setTop (mkF m 95 #[.val (.int p0), .val (.int p1), .val (.int p2), .val (.int p3), .val (.int p4), .val (.int p5), .val (.ref b1), .val (.int (0 : Int32)), .val (.int (((((nar .byte (p0.toInt8.toInt32)) &&& (255 : Int32)) <<< ((16 : Int32) &&& 31)) ||| (((nar .byte (p1.toInt8.toInt32)) &&& (255 : Int32)) <<< ((8 : Int32) &&& 31))) ||| ((nar .byte (p2.toInt8.toInt32)) &&& (255 : Int32)))), .val (.int ((((own_r4 (nar .byte (p0.toInt8.toInt32))) * (65536 : Int32)) + ((own_r4 (nar .byte (p1.toInt8.toInt32))) * (256 : Int32))) + (own_r4 (nar .byte (p2.toInt8.toInt32)))))] [(.int (((((nar .byte (p0.toInt8.toInt32)) &&& (255 : Int32)) <<< ((16 : Int32) &&& 31)) ||| (((nar .byte (p1.toInt8.toInt32)) &&& (255 : Int32)) <<< ((8 : Int32) &&& 31))) ||| ((nar .byte (p2.toInt8.toInt32)) &&& (255 : Int32))))]))
    refine own_step (fun _ k => XS.iload X22.here hx rfl (hb hby at_95) rfl k) ?_
    show own_Fin p e below s _ _ _ (T22.setTop (mkF m 97 #[.val (.int p0), .val (.int p1), .val (.int p2), .val (.int p3), .val (.int p4), .val (.int p5), .val (.ref b1), .val (.int (0 : Int32)), .val (.int (((((nar .byte (p0.toInt8.toInt32)) &&& (255 : Int32)) <<< ((16 : Int32) &&& 31)) ||| (((nar .byte (p1.toInt8.toInt32)) &&& (255 : Int32)) <<< ((8 : Int32) &&& 31))) ||| ((nar .byte (p2.toInt8.toInt32)) &&& (255 : Int32)))), .val (.int ((((own_r4 (nar .byte (p0.toInt8.toInt32))) * (65536 : Int32)) + ((own_r4 (nar .byte (p1.toInt8.toInt32))) * (256 : Int32))) + (own_r4 (nar .byte (p2.toInt8.toInt32)))))] [(.int ((((own_r4 (nar .byte (p0.toInt8.toInt32))) * (65536 : Int32)) + ((own_r4 (nar .byte (p1.toInt8.toInt32))) * (256 : Int32))) + (own_r4 (nar .byte (p2.toInt8.toInt32))))), (.int (((((nar .byte (p0.toInt8.toInt32)) &&& (255 : Int32)) <<< ((16 : Int32) &&& 31)) ||| (((nar .byte (p1.toInt8.toInt32)) &&& (255 : Int32)) <<< ((8 : Int32) &&& 31))) ||| ((nar .byte (p2.toInt8.toInt32)) &&& (255 : Int32))))]))
    by_cases hc23 : (((((nar .byte (p0.toInt8.toInt32)) &&& (255 : Int32)) <<< ((16 : Int32) &&& 31)) ||| (((nar .byte (p1.toInt8.toInt32)) &&& (255 : Int32)) <<< ((8 : Int32) &&& 31))) ||| ((nar .byte (p2.toInt8.toInt32)) &&& (255 : Int32))) = ((((own_r4 (nar .byte (p0.toInt8.toInt32))) * (65536 : Int32)) + ((own_r4 (nar .byte (p1.toInt8.toInt32))) * (256 : Int32))) + (own_r4 (nar .byte (p2.toInt8.toInt32))))
    · refine own_step (fun _ k => XS.icmpNo X22.here hx rfl (hb hby at_97) rfl (teq hc23).2 k) ?_
      show own_Fin p e below s _ _ _ (T22.setTop (mkF m 100 #[.val (.int p0), .val (.int p1), .val (.int p2), .val (.int p3), .val (.int p4), .val (.int p5), .val (.ref b1), .val (.int (0 : Int32)), .val (.int (((((nar .byte (p0.toInt8.toInt32)) &&& (255 : Int32)) <<< ((16 : Int32) &&& 31)) ||| (((nar .byte (p1.toInt8.toInt32)) &&& (255 : Int32)) <<< ((8 : Int32) &&& 31))) ||| ((nar .byte (p2.toInt8.toInt32)) &&& (255 : Int32)))), .val (.int ((((own_r4 (nar .byte (p0.toInt8.toInt32))) * (65536 : Int32)) + ((own_r4 (nar .byte (p1.toInt8.toInt32))) * (256 : Int32))) + (own_r4 (nar .byte (p2.toInt8.toInt32)))))] []))
      refine own_step (fun _ k => XS.iconst X22.here hx rfl (hb hby at_100) k) ?_
      show own_Fin p e below s _ _ _ (T22.setTop (mkF m 101 #[.val (.int p0), .val (.int p1), .val (.int p2), .val (.int p3), .val (.int p4), .val (.int p5), .val (.ref b1), .val (.int (0 : Int32)), .val (.int (((((nar .byte (p0.toInt8.toInt32)) &&& (255 : Int32)) <<< ((16 : Int32) &&& 31)) ||| (((nar .byte (p1.toInt8.toInt32)) &&& (255 : Int32)) <<< ((8 : Int32) &&& 31))) ||| ((nar .byte (p2.toInt8.toInt32)) &&& (255 : Int32)))), .val (.int ((((own_r4 (nar .byte (p0.toInt8.toInt32))) * (65536 : Int32)) + ((own_r4 (nar .byte (p1.toInt8.toInt32))) * (256 : Int32))) + (own_r4 (nar .byte (p2.toInt8.toInt32)))))] [(.int (1 : Int32))]))
      refine own_step (fun _ k => XS.goto X22.here hx rfl (pc0 := 101) (pc' := 105) rfl (hb hby at_101) (by decide) (by decide) k) ?_
      show own_Fin p e below s _ _ _ (T22.setTop (mkF m 105 #[.val (.int p0), .val (.int p1), .val (.int p2), .val (.int p3), .val (.int p4), .val (.int p5), .val (.ref b1), .val (.int (0 : Int32)), .val (.int (((((nar .byte (p0.toInt8.toInt32)) &&& (255 : Int32)) <<< ((16 : Int32) &&& 31)) ||| (((nar .byte (p1.toInt8.toInt32)) &&& (255 : Int32)) <<< ((8 : Int32) &&& 31))) ||| ((nar .byte (p2.toInt8.toInt32)) &&& (255 : Int32)))), .val (.int ((((own_r4 (nar .byte (p0.toInt8.toInt32))) * (65536 : Int32)) + ((own_r4 (nar .byte (p1.toInt8.toInt32))) * (256 : Int32))) + (own_r4 (nar .byte (p2.toInt8.toInt32)))))] [(.int (1 : Int32))]))
      exact own_ret X22 hlk (v := some (.int (1 : Int32))) (fun h => by rw [Bd.returns] at h; cases h) (by decide) (by decide) (by show own_Q5 Z p0 p1 p2 p3 p4 p5 h0 n0 _ T22.heap _; rw [e22]; exact ⟨rfl, N22⟩) (fun fs hr => retN X22 hx (t := .boolean) Bd.returns (by simp) (hb hby at_105) hr)
    · refine own_step (fun _ k => XS.icmpYes X22.here hx rfl (pc0 := 97) (pc' := 104) rfl (hb hby at_97) rfl (feq hc23).2 (by decide) (by decide) k) ?_
      show own_Fin p e below s _ _ _ (T22.setTop (mkF m 104 #[.val (.int p0), .val (.int p1), .val (.int p2), .val (.int p3), .val (.int p4), .val (.int p5), .val (.ref b1), .val (.int (0 : Int32)), .val (.int (((((nar .byte (p0.toInt8.toInt32)) &&& (255 : Int32)) <<< ((16 : Int32) &&& 31)) ||| (((nar .byte (p1.toInt8.toInt32)) &&& (255 : Int32)) <<< ((8 : Int32) &&& 31))) ||| ((nar .byte (p2.toInt8.toInt32)) &&& (255 : Int32)))), .val (.int ((((own_r4 (nar .byte (p0.toInt8.toInt32))) * (65536 : Int32)) + ((own_r4 (nar .byte (p1.toInt8.toInt32))) * (256 : Int32))) + (own_r4 (nar .byte (p2.toInt8.toInt32)))))] []))
      refine own_step (fun _ k => XS.iconst X22.here hx rfl (hb hby at_104) k) ?_
      show own_Fin p e below s _ _ _ (T22.setTop (mkF m 105 #[.val (.int p0), .val (.int p1), .val (.int p2), .val (.int p3), .val (.int p4), .val (.int p5), .val (.ref b1), .val (.int (0 : Int32)), .val (.int (((((nar .byte (p0.toInt8.toInt32)) &&& (255 : Int32)) <<< ((16 : Int32) &&& 31)) ||| (((nar .byte (p1.toInt8.toInt32)) &&& (255 : Int32)) <<< ((8 : Int32) &&& 31))) ||| ((nar .byte (p2.toInt8.toInt32)) &&& (255 : Int32)))), .val (.int ((((own_r4 (nar .byte (p0.toInt8.toInt32))) * (65536 : Int32)) + ((own_r4 (nar .byte (p1.toInt8.toInt32))) * (256 : Int32))) + (own_r4 (nar .byte (p2.toInt8.toInt32)))))] [(.int (0 : Int32))]))
      exfalso
      exact hc23 (own_law _ _ _ (own_by _) (own_by _) (own_by _))
  · rw [hk14]
    show own_Fin p e below s _ _ _ (T11.setTop (mkF m 45 #[.val (.int p0), .val (.int p1), .val (.int p2), .val (.int p3), .val (.int p4), .val (.int p5), .val (.ref b1), .val (.int (1 : Int32)), .unset, .unset] []))
    refine own_step (fun _ k => XS.aload X11.here hx rfl (hb hby at_45) rfl rfl k) ?_
    show own_Fin p e below s _ _ _ (T11.setTop (mkF m 47 #[.val (.int p0), .val (.int p1), .val (.int p2), .val (.int p3), .val (.int p4), .val (.int p5), .val (.ref b1), .val (.int (1 : Int32)), .unset, .unset] [(.ref b1)]))
    refine own_step (fun _ k => XS.iload X11.here hx rfl (hb hby at_47) rfl k) ?_
    show own_Fin p e below s _ _ _ (T11.setTop (mkF m 49 #[.val (.int p0), .val (.int p1), .val (.int p2), .val (.int p3), .val (.int p4), .val (.int p5), .val (.ref b1), .val (.int (1 : Int32)), .unset, .unset] [(.int (1 : Int32)), (.ref b1)]))
    obtain ⟨_, _, ⟨T24, L24, k24, n24⟩, -, X24, ⟨Lc24, hQ24, l24, y24, z24⟩, st24⟩ := Jvm.LawKit.callS X11 hx (y := own_y0) hown (mvT hZ (own_w hw 2 rfl)) (mvT hZ (own_w hw 3 rfl)) (mvT hZ (own_w hw 4 rfl)) (mvT hZ (own_w hw 5 rfl)) (by decide) (backOf (W := 0) (own_rm2 l Z a0 hw [] b1 k1 ((nar .byte (p0.toInt8.toInt32))) ((nar .byte (p1.toInt8.toInt32))) ((nar .byte (p2.toInt8.toInt32))) ((nar .byte (p3.toInt8.toInt32))) ((nar .byte (p4.toInt8.toInt32))) h11 n0 Z11 G12) hZ (own_w hw 5 rfl) (own_w hw 4 rfl) (by decide) (by decide)) (g := (mkF m 49 #[.val (.int p0), .val (.int p1), .val (.int p2), .val (.int p3), .val (.int p4), .val (.int p5), .val (.ref b1), .val (.int (1 : Int32)), .unset, .unset] [(.int (1 : Int32)), (.ref b1)])) rfl (by rw [hml]; rfl) (argsL := [(.ref b1), (.int (1 : Int32))]) (rest := []) (lenOf own_pd0 rfl) rfl (by show 2 * 0 + _ ≤ _; exact Nat.le_of_eq rfl) (hb hby at_49) (fun _ _ => ⟨rfl, e11, (by decide : 1 + 0 ≤ _), (by decide : 5 + 0 ≤ _)⟩)
    dsimp only [Pt.U, Pt.locs, Pt.cells, Pt.slots] at X24 l24 y24 z24 st24 hQ24
    subst l24 y24 z24
    obtain ⟨rfl, N24q, e24⟩ := hQ24
    have N24 := Fr.app N11 N24q
    refine own_step (fun _ k => st24 _ k) ?_
    show own_Fin p e below s _ _ _ (T24.setTop (mkF m 52 #[.val (.int p0), .val (.int p1), .val (.int p2), .val (.int p3), .val (.int p4), .val (.int p5), .val (.ref b1), .val (.int (1 : Int32)), .unset, .unset] [(.int (((((nar .byte (p1.toInt8.toInt32)) &&& (255 : Int32)) <<< ((16 : Int32) &&& 31)) ||| (((nar .byte (p2.toInt8.toInt32)) &&& (255 : Int32)) <<< ((8 : Int32) &&& 31))) ||| ((nar .byte (p3.toInt8.toInt32)) &&& (255 : Int32))))]))
    refine own_step (fun _ k => XS.istore X24.here hx rfl (hb hby at_52) rfl (l' := #[.val (.int p0), .val (.int p1), .val (.int p2), .val (.int p3), .val (.int p4), .val (.int p5), .val (.ref b1), .val (.int (1 : Int32)), .val (.int (((((nar .byte (p1.toInt8.toInt32)) &&& (255 : Int32)) <<< ((16 : Int32) &&& 31)) ||| (((nar .byte (p2.toInt8.toInt32)) &&& (255 : Int32)) <<< ((8 : Int32) &&& 31))) ||| ((nar .byte (p3.toInt8.toInt32)) &&& (255 : Int32)))), .unset]) rfl k) ?_
    show own_Fin p e below s _ _ _ (T24.setTop (mkF m 54 #[.val (.int p0), .val (.int p1), .val (.int p2), .val (.int p3), .val (.int p4), .val (.int p5), .val (.ref b1), .val (.int (1 : Int32)), .val (.int (((((nar .byte (p1.toInt8.toInt32)) &&& (255 : Int32)) <<< ((16 : Int32) &&& 31)) ||| (((nar .byte (p2.toInt8.toInt32)) &&& (255 : Int32)) <<< ((8 : Int32) &&& 31))) ||| ((nar .byte (p3.toInt8.toInt32)) &&& (255 : Int32)))), .unset] []))
    refine own_step (fun _ k => XS.aload X24.here hx rfl (hb hby at_54) rfl rfl k) ?_
    show own_Fin p e below s _ _ _ (T24.setTop (mkF m 56 #[.val (.int p0), .val (.int p1), .val (.int p2), .val (.int p3), .val (.int p4), .val (.int p5), .val (.ref b1), .val (.int (1 : Int32)), .val (.int (((((nar .byte (p1.toInt8.toInt32)) &&& (255 : Int32)) <<< ((16 : Int32) &&& 31)) ||| (((nar .byte (p2.toInt8.toInt32)) &&& (255 : Int32)) <<< ((8 : Int32) &&& 31))) ||| ((nar .byte (p3.toInt8.toInt32)) &&& (255 : Int32)))), .unset] [(.ref b1)]))
    refine own_step (fun _ k => XS.iload X24.here hx rfl (hb hby at_56) rfl k) ?_
    show own_Fin p e below s _ _ _ (T24.setTop (mkF m 58 #[.val (.int p0), .val (.int p1), .val (.int p2), .val (.int p3), .val (.int p4), .val (.int p5), .val (.ref b1), .val (.int (1 : Int32)), .val (.int (((((nar .byte (p1.toInt8.toInt32)) &&& (255 : Int32)) <<< ((16 : Int32) &&& 31)) ||| (((nar .byte (p2.toInt8.toInt32)) &&& (255 : Int32)) <<< ((8 : Int32) &&& 31))) ||| ((nar .byte (p3.toInt8.toInt32)) &&& (255 : Int32)))), .unset] [(.int (1 : Int32)), (.ref b1)]))
    obtain ⟨cl25, Ar25, q25, Sz25, Ng25, Hs25, Gf25⟩ := id G12
    have hin25 : ¬ ((1 : Int32) < 0 ∨ cl25.slots.size ≤ ((1 : Int32)).toNatClampNeg) := inb_of Sz25 ⟨by decide, by decide⟩
    refine own_step (fun _ k => X24.baloadBytes hx (j := (1 : Int32)) (v := (.int (nar .byte (p1.toInt8.toInt32)))) (by rw [e24]; exact Ar25.1) (State.isArrayOf_alike hZ.alike Ar25.2.1) Ar25.2.2 hin25 (Has.at Hs25 hin25 rfl) (g := (mkF m 58 #[.val (.int p0), .val (.int p1), .val (.int p2), .val (.int p3), .val (.int p4), .val (.int p5), .val (.ref b1), .val (.int (1 : Int32)), .val (.int (((((nar .byte (p1.toInt8.toInt32)) &&& (255 : Int32)) <<< ((16 : Int32) &&& 31)) ||| (((nar .byte (p2.toInt8.toInt32)) &&& (255 : Int32)) <<< ((8 : Int32) &&& 31))) ||| ((nar .byte (p3.toInt8.toInt32)) &&& (255 : Int32)))), .unset] [(.int (1 : Int32)), (.ref b1)])) rfl rfl (hb hby at_58) _ k) ?_
    show own_Fin p e below s _ _ _ (T24.setTop (mkF m 59 #[.val (.int p0), .val (.int p1), .val (.int p2), .val (.int p3), .val (.int p4), .val (.int p5), .val (.ref b1), .val (.int (1 : Int32)), .val (.int (((((nar .byte (p1.toInt8.toInt32)) &&& (255 : Int32)) <<< ((16 : Int32) &&& 31)) ||| (((nar .byte (p2.toInt8.toInt32)) &&& (255 : Int32)) <<< ((8 : Int32) &&& 31))) ||| ((nar .byte (p3.toInt8.toInt32)) &&& (255 : Int32)))), .unset] [(.int (nar .byte (p1.toInt8.toInt32)))]))
    obtain ⟨_, _, ⟨T26, L26, k26, n26⟩, -, X26, ⟨Lc26, hQ26, l26, y26, z26⟩, st26⟩ := Jvm.LawKit.callS X24 hx (y := own_y1) hown (mvT hZ (own_w hw 6 rfl)) (mvT hZ (own_w hw 7 rfl)) (mvT hZ (own_w hw 8 rfl)) (mvT hZ (own_w hw 9 rfl)) (by decide) (backOf (W := 0) (own_rm4 l Z a0 hw [] ((nar .byte (p1.toInt8.toInt32))) h11 n0 Z11 ) hZ (own_w hw 9 rfl) (own_w hw 8 rfl) (by decide) (by decide)) (g := (mkF m 59 #[.val (.int p0), .val (.int p1), .val (.int p2), .val (.int p3), .val (.int p4), .val (.int p5), .val (.ref b1), .val (.int (1 : Int32)), .val (.int (((((nar .byte (p1.toInt8.toInt32)) &&& (255 : Int32)) <<< ((16 : Int32) &&& 31)) ||| (((nar .byte (p2.toInt8.toInt32)) &&& (255 : Int32)) <<< ((8 : Int32) &&& 31))) ||| ((nar .byte (p3.toInt8.toInt32)) &&& (255 : Int32)))), .unset] [(.int (nar .byte (p1.toInt8.toInt32)))])) rfl (by rw [hml]; rfl) (argsL := [(.int (nar .byte (p1.toInt8.toInt32)))]) (rest := []) (lenOf own_pd1 rfl) rfl (by show 2 * 0 + _ ≤ _; exact Nat.le_of_eq rfl) (hb hby at_59) (fun _ _ => ⟨rfl, e24, (by decide : 1 + 0 ≤ _), (by decide : 5 + 0 ≤ _)⟩)
    dsimp only [Pt.U, Pt.locs, Pt.cells, Pt.slots] at X26 l26 y26 z26 st26 hQ26
    subst l26 y26 z26
    obtain ⟨rfl, N26q, e26⟩ := hQ26
    have N26 := Fr.app N24 N26q
    refine own_step (fun _ k => st26 _ k) ?_
    show own_Fin p e below s _ _ _ (T26.setTop (mkF m 62 #[.val (.int p0), .val (.int p1), .val (.int p2), .val (.int p3), .val (.int p4), .val (.int p5), .val (.ref b1), .val (.int (1 : Int32)), .val (.int (((((nar .byte (p1.toInt8.toInt32)) &&& (255 : Int32)) <<< ((16 : Int32) &&& 31)) ||| (((nar .byte (p2.toInt8.toInt32)) &&& (255 : Int32)) <<< ((8 : Int32) &&& 31))) ||| ((nar .byte (p3.toInt8.toInt32)) &&& (255 : Int32)))), .unset] [(.int (own_r4 (nar .byte (p1.toInt8.toInt32))))]))
    refine own_step (fun _ k => X26.ldcInt hx hown (mvT hZ (own_w hw 10 rfl)) (g := (mkF m 62 #[.val (.int p0), .val (.int p1), .val (.int p2), .val (.int p3), .val (.int p4), .val (.int p5), .val (.ref b1), .val (.int (1 : Int32)), .val (.int (((((nar .byte (p1.toInt8.toInt32)) &&& (255 : Int32)) <<< ((16 : Int32) &&& 31)) ||| (((nar .byte (p2.toInt8.toInt32)) &&& (255 : Int32)) <<< ((8 : Int32) &&& 31))) ||| ((nar .byte (p3.toInt8.toInt32)) &&& (255 : Int32)))), .unset] [(.int (own_r4 (nar .byte (p1.toInt8.toInt32))))])) rfl (hb hby at_62) _ k) ?_
    show own_Fin p e below s _ _ _ (T26.setTop (mkF m 64 #[.val (.int p0), .val (.int p1), .val (.int p2), .val (.int p3), .val (.int p4), .val (.int p5), .val (.ref b1), .val (.int (1 : Int32)), .val (.int (((((nar .byte (p1.toInt8.toInt32)) &&& (255 : Int32)) <<< ((16 : Int32) &&& 31)) ||| (((nar .byte (p2.toInt8.toInt32)) &&& (255 : Int32)) <<< ((8 : Int32) &&& 31))) ||| ((nar .byte (p3.toInt8.toInt32)) &&& (255 : Int32)))), .unset] [(.int (65536 : Int32)), (.int (own_r4 (nar .byte (p1.toInt8.toInt32))))]))
    refine own_step (fun _ k => XS.imul X26.here hx rfl (hb hby at_64) rfl k) ?_
    show own_Fin p e below s _ _ _ (T26.setTop (mkF m 65 #[.val (.int p0), .val (.int p1), .val (.int p2), .val (.int p3), .val (.int p4), .val (.int p5), .val (.ref b1), .val (.int (1 : Int32)), .val (.int (((((nar .byte (p1.toInt8.toInt32)) &&& (255 : Int32)) <<< ((16 : Int32) &&& 31)) ||| (((nar .byte (p2.toInt8.toInt32)) &&& (255 : Int32)) <<< ((8 : Int32) &&& 31))) ||| ((nar .byte (p3.toInt8.toInt32)) &&& (255 : Int32)))), .unset] [(.int ((own_r4 (nar .byte (p1.toInt8.toInt32))) * (65536 : Int32)))]))
    refine own_step (fun _ k => XS.aload X26.here hx rfl (hb hby at_65) rfl rfl k) ?_
    show own_Fin p e below s _ _ _ (T26.setTop (mkF m 67 #[.val (.int p0), .val (.int p1), .val (.int p2), .val (.int p3), .val (.int p4), .val (.int p5), .val (.ref b1), .val (.int (1 : Int32)), .val (.int (((((nar .byte (p1.toInt8.toInt32)) &&& (255 : Int32)) <<< ((16 : Int32) &&& 31)) ||| (((nar .byte (p2.toInt8.toInt32)) &&& (255 : Int32)) <<< ((8 : Int32) &&& 31))) ||| ((nar .byte (p3.toInt8.toInt32)) &&& (255 : Int32)))), .unset] [(.ref b1), (.int ((own_r4 (nar .byte (p1.toInt8.toInt32))) * (65536 : Int32)))]))
    refine own_step (fun _ k => XS.iload X26.here hx rfl (hb hby at_67) rfl k) ?_
    show own_Fin p e below s _ _ _ (T26.setTop (mkF m 69 #[.val (.int p0), .val (.int p1), .val (.int p2), .val (.int p3), .val (.int p4), .val (.int p5), .val (.ref b1), .val (.int (1 : Int32)), .val (.int (((((nar .byte (p1.toInt8.toInt32)) &&& (255 : Int32)) <<< ((16 : Int32) &&& 31)) ||| (((nar .byte (p2.toInt8.toInt32)) &&& (255 : Int32)) <<< ((8 : Int32) &&& 31))) ||| ((nar .byte (p3.toInt8.toInt32)) &&& (255 : Int32)))), .unset] [(.int (1 : Int32)), (.ref b1), (.int ((own_r4 (nar .byte (p1.toInt8.toInt32))) * (65536 : Int32)))]))
    refine own_step (fun _ k => XS.iconst X26.here hx rfl (hb hby at_69) k) ?_
    show own_Fin p e below s _ _ _ (T26.setTop (mkF m 70 #[.val (.int p0), .val (.int p1), .val (.int p2), .val (.int p3), .val (.int p4), .val (.int p5), .val (.ref b1), .val (.int (1 : Int32)), .val (.int (((((nar .byte (p1.toInt8.toInt32)) &&& (255 : Int32)) <<< ((16 : Int32) &&& 31)) ||| (((nar .byte (p2.toInt8.toInt32)) &&& (255 : Int32)) <<< ((8 : Int32) &&& 31))) ||| ((nar .byte (p3.toInt8.toInt32)) &&& (255 : Int32)))), .unset] [(.int (1 : Int32)), (.int (1 : Int32)), (.ref b1), (.int ((own_r4 (nar .byte (p1.toInt8.toInt32))) * (65536 : Int32)))]))
    refine own_step (fun _ k => XS.iadd X26.here hx rfl (hb hby at_70) rfl k) ?_
    show own_Fin p e below s _ _ _ (T26.setTop (mkF m 71 #[.val (.int p0), .val (.int p1), .val (.int p2), .val (.int p3), .val (.int p4), .val (.int p5), .val (.ref b1), .val (.int (1 : Int32)), .val (.int (((((nar .byte (p1.toInt8.toInt32)) &&& (255 : Int32)) <<< ((16 : Int32) &&& 31)) ||| (((nar .byte (p2.toInt8.toInt32)) &&& (255 : Int32)) <<< ((8 : Int32) &&& 31))) ||| ((nar .byte (p3.toInt8.toInt32)) &&& (255 : Int32)))), .unset] [(.int ((1 : Int32) + (1 : Int32))), (.ref b1), (.int ((own_r4 (nar .byte (p1.toInt8.toInt32))) * (65536 : Int32)))]))
    rw [show ((1 : Int32) + (1 : Int32)) = (2 : Int32) from by decide]
    show own_Fin p e below s _ _ _ (T26.setTop (mkF m 71 #[.val (.int p0), .val (.int p1), .val (.int p2), .val (.int p3), .val (.int p4), .val (.int p5), .val (.ref b1), .val (.int (1 : Int32)), .val (.int (((((nar .byte (p1.toInt8.toInt32)) &&& (255 : Int32)) <<< ((16 : Int32) &&& 31)) ||| (((nar .byte (p2.toInt8.toInt32)) &&& (255 : Int32)) <<< ((8 : Int32) &&& 31))) ||| ((nar .byte (p3.toInt8.toInt32)) &&& (255 : Int32)))), .unset] [(.int (2 : Int32)), (.ref b1), (.int ((own_r4 (nar .byte (p1.toInt8.toInt32))) * (65536 : Int32)))]))
    obtain ⟨cl27, Ar27, q27, Sz27, Ng27, Hs27, Gf27⟩ := id G12
    have hin27 : ¬ ((2 : Int32) < 0 ∨ cl27.slots.size ≤ ((2 : Int32)).toNatClampNeg) := inb_of Sz27 ⟨by decide, by decide⟩
    refine own_step (fun _ k => X26.baloadBytes hx (j := (2 : Int32)) (v := (.int (nar .byte (p2.toInt8.toInt32)))) (by rw [e26]; exact Ar27.1) (State.isArrayOf_alike hZ.alike Ar27.2.1) Ar27.2.2 hin27 (Has.at Hs27 hin27 rfl) (g := (mkF m 71 #[.val (.int p0), .val (.int p1), .val (.int p2), .val (.int p3), .val (.int p4), .val (.int p5), .val (.ref b1), .val (.int (1 : Int32)), .val (.int (((((nar .byte (p1.toInt8.toInt32)) &&& (255 : Int32)) <<< ((16 : Int32) &&& 31)) ||| (((nar .byte (p2.toInt8.toInt32)) &&& (255 : Int32)) <<< ((8 : Int32) &&& 31))) ||| ((nar .byte (p3.toInt8.toInt32)) &&& (255 : Int32)))), .unset] [(.int (2 : Int32)), (.ref b1), (.int ((own_r4 (nar .byte (p1.toInt8.toInt32))) * (65536 : Int32)))])) rfl rfl (hb hby at_71) _ k) ?_
    show own_Fin p e below s _ _ _ (T26.setTop (mkF m 72 #[.val (.int p0), .val (.int p1), .val (.int p2), .val (.int p3), .val (.int p4), .val (.int p5), .val (.ref b1), .val (.int (1 : Int32)), .val (.int (((((nar .byte (p1.toInt8.toInt32)) &&& (255 : Int32)) <<< ((16 : Int32) &&& 31)) ||| (((nar .byte (p2.toInt8.toInt32)) &&& (255 : Int32)) <<< ((8 : Int32) &&& 31))) ||| ((nar .byte (p3.toInt8.toInt32)) &&& (255 : Int32)))), .unset] [(.int (nar .byte (p2.toInt8.toInt32))), (.int ((own_r4 (nar .byte (p1.toInt8.toInt32))) * (65536 : Int32)))]))
    obtain ⟨_, _, ⟨T28, L28, k28, n28⟩, -, X28, ⟨Lc28, hQ28, l28, y28, z28⟩, st28⟩ := Jvm.LawKit.callS X26 hx (y := own_y1) hown (mvT hZ (own_w hw 6 rfl)) (mvT hZ (own_w hw 7 rfl)) (mvT hZ (own_w hw 8 rfl)) (mvT hZ (own_w hw 9 rfl)) (by decide) (backOf (W := 1) (own_rm4 l Z a0 hw [] ((nar .byte (p2.toInt8.toInt32))) h11 n0 Z11 ) hZ (own_w hw 9 rfl) (own_w hw 8 rfl) (by decide) (by decide)) (g := (mkF m 72 #[.val (.int p0), .val (.int p1), .val (.int p2), .val (.int p3), .val (.int p4), .val (.int p5), .val (.ref b1), .val (.int (1 : Int32)), .val (.int (((((nar .byte (p1.toInt8.toInt32)) &&& (255 : Int32)) <<< ((16 : Int32) &&& 31)) ||| (((nar .byte (p2.toInt8.toInt32)) &&& (255 : Int32)) <<< ((8 : Int32) &&& 31))) ||| ((nar .byte (p3.toInt8.toInt32)) &&& (255 : Int32)))), .unset] [(.int (nar .byte (p2.toInt8.toInt32))), (.int ((own_r4 (nar .byte (p1.toInt8.toInt32))) * (65536 : Int32)))])) rfl (by rw [hml]; rfl) (argsL := [(.int (nar .byte (p2.toInt8.toInt32)))]) (rest := [(.int ((own_r4 (nar .byte (p1.toInt8.toInt32))) * (65536 : Int32)))]) (lenOf own_pd1 rfl) rfl (by show 2 * 0 + _ ≤ _; exact Nat.le_of_eq rfl) (hb hby at_72) (fun _ _ => ⟨rfl, e26, (by decide : 1 + 0 ≤ _), (by decide : 5 + 0 ≤ _)⟩)
    dsimp only [Pt.U, Pt.locs, Pt.cells, Pt.slots] at X28 l28 y28 z28 st28 hQ28
    subst l28 y28 z28
    obtain ⟨rfl, N28q, e28⟩ := hQ28
    have N28 := Fr.app N26 N28q
    refine own_step (fun _ k => st28 _ k) ?_
    show own_Fin p e below s _ _ _ (T28.setTop (mkF m 75 #[.val (.int p0), .val (.int p1), .val (.int p2), .val (.int p3), .val (.int p4), .val (.int p5), .val (.ref b1), .val (.int (1 : Int32)), .val (.int (((((nar .byte (p1.toInt8.toInt32)) &&& (255 : Int32)) <<< ((16 : Int32) &&& 31)) ||| (((nar .byte (p2.toInt8.toInt32)) &&& (255 : Int32)) <<< ((8 : Int32) &&& 31))) ||| ((nar .byte (p3.toInt8.toInt32)) &&& (255 : Int32)))), .unset] [(.int (own_r4 (nar .byte (p2.toInt8.toInt32)))), (.int ((own_r4 (nar .byte (p1.toInt8.toInt32))) * (65536 : Int32)))]))
    refine own_step (fun _ k => XS.sipush X28.here hx rfl (hb hby at_75) k) ?_
    show own_Fin p e below s _ _ _ (T28.setTop (mkF m 78 #[.val (.int p0), .val (.int p1), .val (.int p2), .val (.int p3), .val (.int p4), .val (.int p5), .val (.ref b1), .val (.int (1 : Int32)), .val (.int (((((nar .byte (p1.toInt8.toInt32)) &&& (255 : Int32)) <<< ((16 : Int32) &&& 31)) ||| (((nar .byte (p2.toInt8.toInt32)) &&& (255 : Int32)) <<< ((8 : Int32) &&& 31))) ||| ((nar .byte (p3.toInt8.toInt32)) &&& (255 : Int32)))), .unset] [(.int (256 : Int32)), (.int (own_r4 (nar .byte (p2.toInt8.toInt32)))), (.int ((own_r4 (nar .byte (p1.toInt8.toInt32))) * (65536 : Int32)))]))
    refine own_step (fun _ k => XS.imul X28.here hx rfl (hb hby at_78) rfl k) ?_
    show own_Fin p e below s _ _ _ (T28.setTop (mkF m 79 #[.val (.int p0), .val (.int p1), .val (.int p2), .val (.int p3), .val (.int p4), .val (.int p5), .val (.ref b1), .val (.int (1 : Int32)), .val (.int (((((nar .byte (p1.toInt8.toInt32)) &&& (255 : Int32)) <<< ((16 : Int32) &&& 31)) ||| (((nar .byte (p2.toInt8.toInt32)) &&& (255 : Int32)) <<< ((8 : Int32) &&& 31))) ||| ((nar .byte (p3.toInt8.toInt32)) &&& (255 : Int32)))), .unset] [(.int ((own_r4 (nar .byte (p2.toInt8.toInt32))) * (256 : Int32))), (.int ((own_r4 (nar .byte (p1.toInt8.toInt32))) * (65536 : Int32)))]))
    refine own_step (fun _ k => XS.iadd X28.here hx rfl (hb hby at_79) rfl k) ?_
    show own_Fin p e below s _ _ _ (T28.setTop (mkF m 80 #[.val (.int p0), .val (.int p1), .val (.int p2), .val (.int p3), .val (.int p4), .val (.int p5), .val (.ref b1), .val (.int (1 : Int32)), .val (.int (((((nar .byte (p1.toInt8.toInt32)) &&& (255 : Int32)) <<< ((16 : Int32) &&& 31)) ||| (((nar .byte (p2.toInt8.toInt32)) &&& (255 : Int32)) <<< ((8 : Int32) &&& 31))) ||| ((nar .byte (p3.toInt8.toInt32)) &&& (255 : Int32)))), .unset] [(.int (((own_r4 (nar .byte (p1.toInt8.toInt32))) * (65536 : Int32)) + ((own_r4 (nar .byte (p2.toInt8.toInt32))) * (256 : Int32))))]))
    refine own_step (fun _ k => XS.aload X28.here hx rfl (hb hby at_80) rfl rfl k) ?_
    show own_Fin p e below s _ _ _ (T28.setTop (mkF m 82 #[.val (.int p0), .val (.int p1), .val (.int p2), .val (.int p3), .val (.int p4), .val (.int p5), .val (.ref b1), .val (.int (1 : Int32)), .val (.int (((((nar .byte (p1.toInt8.toInt32)) &&& (255 : Int32)) <<< ((16 : Int32) &&& 31)) ||| (((nar .byte (p2.toInt8.toInt32)) &&& (255 : Int32)) <<< ((8 : Int32) &&& 31))) ||| ((nar .byte (p3.toInt8.toInt32)) &&& (255 : Int32)))), .unset] [(.ref b1), (.int (((own_r4 (nar .byte (p1.toInt8.toInt32))) * (65536 : Int32)) + ((own_r4 (nar .byte (p2.toInt8.toInt32))) * (256 : Int32))))]))
    refine own_step (fun _ k => XS.iload X28.here hx rfl (hb hby at_82) rfl k) ?_
    show own_Fin p e below s _ _ _ (T28.setTop (mkF m 84 #[.val (.int p0), .val (.int p1), .val (.int p2), .val (.int p3), .val (.int p4), .val (.int p5), .val (.ref b1), .val (.int (1 : Int32)), .val (.int (((((nar .byte (p1.toInt8.toInt32)) &&& (255 : Int32)) <<< ((16 : Int32) &&& 31)) ||| (((nar .byte (p2.toInt8.toInt32)) &&& (255 : Int32)) <<< ((8 : Int32) &&& 31))) ||| ((nar .byte (p3.toInt8.toInt32)) &&& (255 : Int32)))), .unset] [(.int (1 : Int32)), (.ref b1), (.int (((own_r4 (nar .byte (p1.toInt8.toInt32))) * (65536 : Int32)) + ((own_r4 (nar .byte (p2.toInt8.toInt32))) * (256 : Int32))))]))
    refine own_step (fun _ k => XS.iconst X28.here hx rfl (hb hby at_84) k) ?_
    show own_Fin p e below s _ _ _ (T28.setTop (mkF m 85 #[.val (.int p0), .val (.int p1), .val (.int p2), .val (.int p3), .val (.int p4), .val (.int p5), .val (.ref b1), .val (.int (1 : Int32)), .val (.int (((((nar .byte (p1.toInt8.toInt32)) &&& (255 : Int32)) <<< ((16 : Int32) &&& 31)) ||| (((nar .byte (p2.toInt8.toInt32)) &&& (255 : Int32)) <<< ((8 : Int32) &&& 31))) ||| ((nar .byte (p3.toInt8.toInt32)) &&& (255 : Int32)))), .unset] [(.int (2 : Int32)), (.int (1 : Int32)), (.ref b1), (.int (((own_r4 (nar .byte (p1.toInt8.toInt32))) * (65536 : Int32)) + ((own_r4 (nar .byte (p2.toInt8.toInt32))) * (256 : Int32))))]))
    refine own_step (fun _ k => XS.iadd X28.here hx rfl (hb hby at_85) rfl k) ?_
    show own_Fin p e below s _ _ _ (T28.setTop (mkF m 86 #[.val (.int p0), .val (.int p1), .val (.int p2), .val (.int p3), .val (.int p4), .val (.int p5), .val (.ref b1), .val (.int (1 : Int32)), .val (.int (((((nar .byte (p1.toInt8.toInt32)) &&& (255 : Int32)) <<< ((16 : Int32) &&& 31)) ||| (((nar .byte (p2.toInt8.toInt32)) &&& (255 : Int32)) <<< ((8 : Int32) &&& 31))) ||| ((nar .byte (p3.toInt8.toInt32)) &&& (255 : Int32)))), .unset] [(.int ((1 : Int32) + (2 : Int32))), (.ref b1), (.int (((own_r4 (nar .byte (p1.toInt8.toInt32))) * (65536 : Int32)) + ((own_r4 (nar .byte (p2.toInt8.toInt32))) * (256 : Int32))))]))
    rw [show ((1 : Int32) + (2 : Int32)) = (3 : Int32) from by decide]
    show own_Fin p e below s _ _ _ (T28.setTop (mkF m 86 #[.val (.int p0), .val (.int p1), .val (.int p2), .val (.int p3), .val (.int p4), .val (.int p5), .val (.ref b1), .val (.int (1 : Int32)), .val (.int (((((nar .byte (p1.toInt8.toInt32)) &&& (255 : Int32)) <<< ((16 : Int32) &&& 31)) ||| (((nar .byte (p2.toInt8.toInt32)) &&& (255 : Int32)) <<< ((8 : Int32) &&& 31))) ||| ((nar .byte (p3.toInt8.toInt32)) &&& (255 : Int32)))), .unset] [(.int (3 : Int32)), (.ref b1), (.int (((own_r4 (nar .byte (p1.toInt8.toInt32))) * (65536 : Int32)) + ((own_r4 (nar .byte (p2.toInt8.toInt32))) * (256 : Int32))))]))
    obtain ⟨cl29, Ar29, q29, Sz29, Ng29, Hs29, Gf29⟩ := id G12
    have hin29 : ¬ ((3 : Int32) < 0 ∨ cl29.slots.size ≤ ((3 : Int32)).toNatClampNeg) := inb_of Sz29 ⟨by decide, by decide⟩
    refine own_step (fun _ k => X28.baloadBytes hx (j := (3 : Int32)) (v := (.int (nar .byte (p3.toInt8.toInt32)))) (by rw [e28]; exact Ar29.1) (State.isArrayOf_alike hZ.alike Ar29.2.1) Ar29.2.2 hin29 (Has.at Hs29 hin29 rfl) (g := (mkF m 86 #[.val (.int p0), .val (.int p1), .val (.int p2), .val (.int p3), .val (.int p4), .val (.int p5), .val (.ref b1), .val (.int (1 : Int32)), .val (.int (((((nar .byte (p1.toInt8.toInt32)) &&& (255 : Int32)) <<< ((16 : Int32) &&& 31)) ||| (((nar .byte (p2.toInt8.toInt32)) &&& (255 : Int32)) <<< ((8 : Int32) &&& 31))) ||| ((nar .byte (p3.toInt8.toInt32)) &&& (255 : Int32)))), .unset] [(.int (3 : Int32)), (.ref b1), (.int (((own_r4 (nar .byte (p1.toInt8.toInt32))) * (65536 : Int32)) + ((own_r4 (nar .byte (p2.toInt8.toInt32))) * (256 : Int32))))])) rfl rfl (hb hby at_86) _ k) ?_
    show own_Fin p e below s _ _ _ (T28.setTop (mkF m 87 #[.val (.int p0), .val (.int p1), .val (.int p2), .val (.int p3), .val (.int p4), .val (.int p5), .val (.ref b1), .val (.int (1 : Int32)), .val (.int (((((nar .byte (p1.toInt8.toInt32)) &&& (255 : Int32)) <<< ((16 : Int32) &&& 31)) ||| (((nar .byte (p2.toInt8.toInt32)) &&& (255 : Int32)) <<< ((8 : Int32) &&& 31))) ||| ((nar .byte (p3.toInt8.toInt32)) &&& (255 : Int32)))), .unset] [(.int (nar .byte (p3.toInt8.toInt32))), (.int (((own_r4 (nar .byte (p1.toInt8.toInt32))) * (65536 : Int32)) + ((own_r4 (nar .byte (p2.toInt8.toInt32))) * (256 : Int32))))]))
    obtain ⟨_, _, ⟨T30, L30, k30, n30⟩, -, X30, ⟨Lc30, hQ30, l30, y30, z30⟩, st30⟩ := Jvm.LawKit.callS X28 hx (y := own_y1) hown (mvT hZ (own_w hw 6 rfl)) (mvT hZ (own_w hw 7 rfl)) (mvT hZ (own_w hw 8 rfl)) (mvT hZ (own_w hw 9 rfl)) (by decide) (backOf (W := 1) (own_rm4 l Z a0 hw [] ((nar .byte (p3.toInt8.toInt32))) h11 n0 Z11 ) hZ (own_w hw 9 rfl) (own_w hw 8 rfl) (by decide) (by decide)) (g := (mkF m 87 #[.val (.int p0), .val (.int p1), .val (.int p2), .val (.int p3), .val (.int p4), .val (.int p5), .val (.ref b1), .val (.int (1 : Int32)), .val (.int (((((nar .byte (p1.toInt8.toInt32)) &&& (255 : Int32)) <<< ((16 : Int32) &&& 31)) ||| (((nar .byte (p2.toInt8.toInt32)) &&& (255 : Int32)) <<< ((8 : Int32) &&& 31))) ||| ((nar .byte (p3.toInt8.toInt32)) &&& (255 : Int32)))), .unset] [(.int (nar .byte (p3.toInt8.toInt32))), (.int (((own_r4 (nar .byte (p1.toInt8.toInt32))) * (65536 : Int32)) + ((own_r4 (nar .byte (p2.toInt8.toInt32))) * (256 : Int32))))])) rfl (by rw [hml]; rfl) (argsL := [(.int (nar .byte (p3.toInt8.toInt32)))]) (rest := [(.int (((own_r4 (nar .byte (p1.toInt8.toInt32))) * (65536 : Int32)) + ((own_r4 (nar .byte (p2.toInt8.toInt32))) * (256 : Int32))))]) (lenOf own_pd1 rfl) rfl (by show 2 * 0 + _ ≤ _; exact Nat.le_of_eq rfl) (hb hby at_87) (fun _ _ => ⟨rfl, e28, (by decide : 1 + 0 ≤ _), (by decide : 5 + 0 ≤ _)⟩)
    dsimp only [Pt.U, Pt.locs, Pt.cells, Pt.slots] at X30 l30 y30 z30 st30 hQ30
    subst l30 y30 z30
    obtain ⟨rfl, N30q, e30⟩ := hQ30
    have N30 := Fr.app N28 N30q
    refine own_step (fun _ k => st30 _ k) ?_
    show own_Fin p e below s _ _ _ (T30.setTop (mkF m 90 #[.val (.int p0), .val (.int p1), .val (.int p2), .val (.int p3), .val (.int p4), .val (.int p5), .val (.ref b1), .val (.int (1 : Int32)), .val (.int (((((nar .byte (p1.toInt8.toInt32)) &&& (255 : Int32)) <<< ((16 : Int32) &&& 31)) ||| (((nar .byte (p2.toInt8.toInt32)) &&& (255 : Int32)) <<< ((8 : Int32) &&& 31))) ||| ((nar .byte (p3.toInt8.toInt32)) &&& (255 : Int32)))), .unset] [(.int (own_r4 (nar .byte (p3.toInt8.toInt32)))), (.int (((own_r4 (nar .byte (p1.toInt8.toInt32))) * (65536 : Int32)) + ((own_r4 (nar .byte (p2.toInt8.toInt32))) * (256 : Int32))))]))
    refine own_step (fun _ k => XS.iadd X30.here hx rfl (hb hby at_90) rfl k) ?_
    show own_Fin p e below s _ _ _ (T30.setTop (mkF m 91 #[.val (.int p0), .val (.int p1), .val (.int p2), .val (.int p3), .val (.int p4), .val (.int p5), .val (.ref b1), .val (.int (1 : Int32)), .val (.int (((((nar .byte (p1.toInt8.toInt32)) &&& (255 : Int32)) <<< ((16 : Int32) &&& 31)) ||| (((nar .byte (p2.toInt8.toInt32)) &&& (255 : Int32)) <<< ((8 : Int32) &&& 31))) ||| ((nar .byte (p3.toInt8.toInt32)) &&& (255 : Int32)))), .unset] [(.int ((((own_r4 (nar .byte (p1.toInt8.toInt32))) * (65536 : Int32)) + ((own_r4 (nar .byte (p2.toInt8.toInt32))) * (256 : Int32))) + (own_r4 (nar .byte (p3.toInt8.toInt32)))))]))
    refine own_step (fun _ k => XS.istore X30.here hx rfl (hb hby at_91) rfl (l' := #[.val (.int p0), .val (.int p1), .val (.int p2), .val (.int p3), .val (.int p4), .val (.int p5), .val (.ref b1), .val (.int (1 : Int32)), .val (.int (((((nar .byte (p1.toInt8.toInt32)) &&& (255 : Int32)) <<< ((16 : Int32) &&& 31)) ||| (((nar .byte (p2.toInt8.toInt32)) &&& (255 : Int32)) <<< ((8 : Int32) &&& 31))) ||| ((nar .byte (p3.toInt8.toInt32)) &&& (255 : Int32)))), .val (.int ((((own_r4 (nar .byte (p1.toInt8.toInt32))) * (65536 : Int32)) + ((own_r4 (nar .byte (p2.toInt8.toInt32))) * (256 : Int32))) + (own_r4 (nar .byte (p3.toInt8.toInt32)))))]) rfl k) ?_
    show own_Fin p e below s _ _ _ (T30.setTop (mkF m 93 #[.val (.int p0), .val (.int p1), .val (.int p2), .val (.int p3), .val (.int p4), .val (.int p5), .val (.ref b1), .val (.int (1 : Int32)), .val (.int (((((nar .byte (p1.toInt8.toInt32)) &&& (255 : Int32)) <<< ((16 : Int32) &&& 31)) ||| (((nar .byte (p2.toInt8.toInt32)) &&& (255 : Int32)) <<< ((8 : Int32) &&& 31))) ||| ((nar .byte (p3.toInt8.toInt32)) &&& (255 : Int32)))), .val (.int ((((own_r4 (nar .byte (p1.toInt8.toInt32))) * (65536 : Int32)) + ((own_r4 (nar .byte (p2.toInt8.toInt32))) * (256 : Int32))) + (own_r4 (nar .byte (p3.toInt8.toInt32)))))] []))
    refine own_step (fun _ k => XS.iload X30.here hx rfl (hb hby at_93) rfl k) ?_
    show own_Fin p e below s _ _ _ (T30.setTop (mkF m 95 #[.val (.int p0), .val (.int p1), .val (.int p2), .val (.int p3), .val (.int p4), .val (.int p5), .val (.ref b1), .val (.int (1 : Int32)), .val (.int (((((nar .byte (p1.toInt8.toInt32)) &&& (255 : Int32)) <<< ((16 : Int32) &&& 31)) ||| (((nar .byte (p2.toInt8.toInt32)) &&& (255 : Int32)) <<< ((8 : Int32) &&& 31))) ||| ((nar .byte (p3.toInt8.toInt32)) &&& (255 : Int32)))), .val (.int ((((own_r4 (nar .byte (p1.toInt8.toInt32))) * (65536 : Int32)) + ((own_r4 (nar .byte (p2.toInt8.toInt32))) * (256 : Int32))) + (own_r4 (nar .byte (p3.toInt8.toInt32)))))] [(.int (((((nar .byte (p1.toInt8.toInt32)) &&& (255 : Int32)) <<< ((16 : Int32) &&& 31)) ||| (((nar .byte (p2.toInt8.toInt32)) &&& (255 : Int32)) <<< ((8 : Int32) &&& 31))) ||| ((nar .byte (p3.toInt8.toInt32)) &&& (255 : Int32))))]))
    refine own_step (fun _ k => XS.iload X30.here hx rfl (hb hby at_95) rfl k) ?_
    show own_Fin p e below s _ _ _ (T30.setTop (mkF m 97 #[.val (.int p0), .val (.int p1), .val (.int p2), .val (.int p3), .val (.int p4), .val (.int p5), .val (.ref b1), .val (.int (1 : Int32)), .val (.int (((((nar .byte (p1.toInt8.toInt32)) &&& (255 : Int32)) <<< ((16 : Int32) &&& 31)) ||| (((nar .byte (p2.toInt8.toInt32)) &&& (255 : Int32)) <<< ((8 : Int32) &&& 31))) ||| ((nar .byte (p3.toInt8.toInt32)) &&& (255 : Int32)))), .val (.int ((((own_r4 (nar .byte (p1.toInt8.toInt32))) * (65536 : Int32)) + ((own_r4 (nar .byte (p2.toInt8.toInt32))) * (256 : Int32))) + (own_r4 (nar .byte (p3.toInt8.toInt32)))))] [(.int ((((own_r4 (nar .byte (p1.toInt8.toInt32))) * (65536 : Int32)) + ((own_r4 (nar .byte (p2.toInt8.toInt32))) * (256 : Int32))) + (own_r4 (nar .byte (p3.toInt8.toInt32))))), (.int (((((nar .byte (p1.toInt8.toInt32)) &&& (255 : Int32)) <<< ((16 : Int32) &&& 31)) ||| (((nar .byte (p2.toInt8.toInt32)) &&& (255 : Int32)) <<< ((8 : Int32) &&& 31))) ||| ((nar .byte (p3.toInt8.toInt32)) &&& (255 : Int32))))]))
    by_cases hc31 : (((((nar .byte (p1.toInt8.toInt32)) &&& (255 : Int32)) <<< ((16 : Int32) &&& 31)) ||| (((nar .byte (p2.toInt8.toInt32)) &&& (255 : Int32)) <<< ((8 : Int32) &&& 31))) ||| ((nar .byte (p3.toInt8.toInt32)) &&& (255 : Int32))) = ((((own_r4 (nar .byte (p1.toInt8.toInt32))) * (65536 : Int32)) + ((own_r4 (nar .byte (p2.toInt8.toInt32))) * (256 : Int32))) + (own_r4 (nar .byte (p3.toInt8.toInt32))))
    · refine own_step (fun _ k => XS.icmpNo X30.here hx rfl (hb hby at_97) rfl (teq hc31).2 k) ?_
      show own_Fin p e below s _ _ _ (T30.setTop (mkF m 100 #[.val (.int p0), .val (.int p1), .val (.int p2), .val (.int p3), .val (.int p4), .val (.int p5), .val (.ref b1), .val (.int (1 : Int32)), .val (.int (((((nar .byte (p1.toInt8.toInt32)) &&& (255 : Int32)) <<< ((16 : Int32) &&& 31)) ||| (((nar .byte (p2.toInt8.toInt32)) &&& (255 : Int32)) <<< ((8 : Int32) &&& 31))) ||| ((nar .byte (p3.toInt8.toInt32)) &&& (255 : Int32)))), .val (.int ((((own_r4 (nar .byte (p1.toInt8.toInt32))) * (65536 : Int32)) + ((own_r4 (nar .byte (p2.toInt8.toInt32))) * (256 : Int32))) + (own_r4 (nar .byte (p3.toInt8.toInt32)))))] []))
      refine own_step (fun _ k => XS.iconst X30.here hx rfl (hb hby at_100) k) ?_
      show own_Fin p e below s _ _ _ (T30.setTop (mkF m 101 #[.val (.int p0), .val (.int p1), .val (.int p2), .val (.int p3), .val (.int p4), .val (.int p5), .val (.ref b1), .val (.int (1 : Int32)), .val (.int (((((nar .byte (p1.toInt8.toInt32)) &&& (255 : Int32)) <<< ((16 : Int32) &&& 31)) ||| (((nar .byte (p2.toInt8.toInt32)) &&& (255 : Int32)) <<< ((8 : Int32) &&& 31))) ||| ((nar .byte (p3.toInt8.toInt32)) &&& (255 : Int32)))), .val (.int ((((own_r4 (nar .byte (p1.toInt8.toInt32))) * (65536 : Int32)) + ((own_r4 (nar .byte (p2.toInt8.toInt32))) * (256 : Int32))) + (own_r4 (nar .byte (p3.toInt8.toInt32)))))] [(.int (1 : Int32))]))
      refine own_step (fun _ k => XS.goto X30.here hx rfl (pc0 := 101) (pc' := 105) rfl (hb hby at_101) (by decide) (by decide) k) ?_
      show own_Fin p e below s _ _ _ (T30.setTop (mkF m 105 #[.val (.int p0), .val (.int p1), .val (.int p2), .val (.int p3), .val (.int p4), .val (.int p5), .val (.ref b1), .val (.int (1 : Int32)), .val (.int (((((nar .byte (p1.toInt8.toInt32)) &&& (255 : Int32)) <<< ((16 : Int32) &&& 31)) ||| (((nar .byte (p2.toInt8.toInt32)) &&& (255 : Int32)) <<< ((8 : Int32) &&& 31))) ||| ((nar .byte (p3.toInt8.toInt32)) &&& (255 : Int32)))), .val (.int ((((own_r4 (nar .byte (p1.toInt8.toInt32))) * (65536 : Int32)) + ((own_r4 (nar .byte (p2.toInt8.toInt32))) * (256 : Int32))) + (own_r4 (nar .byte (p3.toInt8.toInt32)))))] [(.int (1 : Int32))]))
      exact own_ret X30 hlk (v := some (.int (1 : Int32))) (fun h => by rw [Bd.returns] at h; cases h) (by decide) (by decide) (by show own_Q5 Z p0 p1 p2 p3 p4 p5 h0 n0 _ T30.heap _; rw [e30]; exact ⟨rfl, N30⟩) (fun fs hr => retN X30 hx (t := .boolean) Bd.returns (by simp) (hb hby at_105) hr)
    · refine own_step (fun _ k => XS.icmpYes X30.here hx rfl (pc0 := 97) (pc' := 104) rfl (hb hby at_97) rfl (feq hc31).2 (by decide) (by decide) k) ?_
      show own_Fin p e below s _ _ _ (T30.setTop (mkF m 104 #[.val (.int p0), .val (.int p1), .val (.int p2), .val (.int p3), .val (.int p4), .val (.int p5), .val (.ref b1), .val (.int (1 : Int32)), .val (.int (((((nar .byte (p1.toInt8.toInt32)) &&& (255 : Int32)) <<< ((16 : Int32) &&& 31)) ||| (((nar .byte (p2.toInt8.toInt32)) &&& (255 : Int32)) <<< ((8 : Int32) &&& 31))) ||| ((nar .byte (p3.toInt8.toInt32)) &&& (255 : Int32)))), .val (.int ((((own_r4 (nar .byte (p1.toInt8.toInt32))) * (65536 : Int32)) + ((own_r4 (nar .byte (p2.toInt8.toInt32))) * (256 : Int32))) + (own_r4 (nar .byte (p3.toInt8.toInt32)))))] []))
      refine own_step (fun _ k => XS.iconst X30.here hx rfl (hb hby at_104) k) ?_
      show own_Fin p e below s _ _ _ (T30.setTop (mkF m 105 #[.val (.int p0), .val (.int p1), .val (.int p2), .val (.int p3), .val (.int p4), .val (.int p5), .val (.ref b1), .val (.int (1 : Int32)), .val (.int (((((nar .byte (p1.toInt8.toInt32)) &&& (255 : Int32)) <<< ((16 : Int32) &&& 31)) ||| (((nar .byte (p2.toInt8.toInt32)) &&& (255 : Int32)) <<< ((8 : Int32) &&& 31))) ||| ((nar .byte (p3.toInt8.toInt32)) &&& (255 : Int32)))), .val (.int ((((own_r4 (nar .byte (p1.toInt8.toInt32))) * (65536 : Int32)) + ((own_r4 (nar .byte (p2.toInt8.toInt32))) * (256 : Int32))) + (own_r4 (nar .byte (p3.toInt8.toInt32)))))] [(.int (0 : Int32))]))
      exfalso
      exact hc31 (own_law _ _ _ (own_by _) (own_by _) (own_by _))
  · rw [hk15]
    show own_Fin p e below s _ _ _ (T11.setTop (mkF m 45 #[.val (.int p0), .val (.int p1), .val (.int p2), .val (.int p3), .val (.int p4), .val (.int p5), .val (.ref b1), .val (.int (2 : Int32)), .unset, .unset] []))
    refine own_step (fun _ k => XS.aload X11.here hx rfl (hb hby at_45) rfl rfl k) ?_
    show own_Fin p e below s _ _ _ (T11.setTop (mkF m 47 #[.val (.int p0), .val (.int p1), .val (.int p2), .val (.int p3), .val (.int p4), .val (.int p5), .val (.ref b1), .val (.int (2 : Int32)), .unset, .unset] [(.ref b1)]))
    refine own_step (fun _ k => XS.iload X11.here hx rfl (hb hby at_47) rfl k) ?_
    show own_Fin p e below s _ _ _ (T11.setTop (mkF m 49 #[.val (.int p0), .val (.int p1), .val (.int p2), .val (.int p3), .val (.int p4), .val (.int p5), .val (.ref b1), .val (.int (2 : Int32)), .unset, .unset] [(.int (2 : Int32)), (.ref b1)]))
    obtain ⟨_, _, ⟨T32, L32, k32, n32⟩, -, X32, ⟨Lc32, hQ32, l32, y32, z32⟩, st32⟩ := Jvm.LawKit.callS X11 hx (y := own_y0) hown (mvT hZ (own_w hw 2 rfl)) (mvT hZ (own_w hw 3 rfl)) (mvT hZ (own_w hw 4 rfl)) (mvT hZ (own_w hw 5 rfl)) (by decide) (backOf (W := 0) (own_rm3 l Z a0 hw [] b1 k1 ((nar .byte (p0.toInt8.toInt32))) ((nar .byte (p1.toInt8.toInt32))) ((nar .byte (p2.toInt8.toInt32))) ((nar .byte (p3.toInt8.toInt32))) ((nar .byte (p4.toInt8.toInt32))) h11 n0 Z11 G12) hZ (own_w hw 5 rfl) (own_w hw 4 rfl) (by decide) (by decide)) (g := (mkF m 49 #[.val (.int p0), .val (.int p1), .val (.int p2), .val (.int p3), .val (.int p4), .val (.int p5), .val (.ref b1), .val (.int (2 : Int32)), .unset, .unset] [(.int (2 : Int32)), (.ref b1)])) rfl (by rw [hml]; rfl) (argsL := [(.ref b1), (.int (2 : Int32))]) (rest := []) (lenOf own_pd0 rfl) rfl (by show 2 * 0 + _ ≤ _; exact Nat.le_of_eq rfl) (hb hby at_49) (fun _ _ => ⟨rfl, e11, (by decide : 1 + 0 ≤ _), (by decide : 5 + 0 ≤ _)⟩)
    dsimp only [Pt.U, Pt.locs, Pt.cells, Pt.slots] at X32 l32 y32 z32 st32 hQ32
    subst l32 y32 z32
    obtain ⟨rfl, N32q, e32⟩ := hQ32
    have N32 := Fr.app N11 N32q
    refine own_step (fun _ k => st32 _ k) ?_
    show own_Fin p e below s _ _ _ (T32.setTop (mkF m 52 #[.val (.int p0), .val (.int p1), .val (.int p2), .val (.int p3), .val (.int p4), .val (.int p5), .val (.ref b1), .val (.int (2 : Int32)), .unset, .unset] [(.int (((((nar .byte (p2.toInt8.toInt32)) &&& (255 : Int32)) <<< ((16 : Int32) &&& 31)) ||| (((nar .byte (p3.toInt8.toInt32)) &&& (255 : Int32)) <<< ((8 : Int32) &&& 31))) ||| ((nar .byte (p4.toInt8.toInt32)) &&& (255 : Int32))))]))
    refine own_step (fun _ k => XS.istore X32.here hx rfl (hb hby at_52) rfl (l' := #[.val (.int p0), .val (.int p1), .val (.int p2), .val (.int p3), .val (.int p4), .val (.int p5), .val (.ref b1), .val (.int (2 : Int32)), .val (.int (((((nar .byte (p2.toInt8.toInt32)) &&& (255 : Int32)) <<< ((16 : Int32) &&& 31)) ||| (((nar .byte (p3.toInt8.toInt32)) &&& (255 : Int32)) <<< ((8 : Int32) &&& 31))) ||| ((nar .byte (p4.toInt8.toInt32)) &&& (255 : Int32)))), .unset]) rfl k) ?_
    show own_Fin p e below s _ _ _ (T32.setTop (mkF m 54 #[.val (.int p0), .val (.int p1), .val (.int p2), .val (.int p3), .val (.int p4), .val (.int p5), .val (.ref b1), .val (.int (2 : Int32)), .val (.int (((((nar .byte (p2.toInt8.toInt32)) &&& (255 : Int32)) <<< ((16 : Int32) &&& 31)) ||| (((nar .byte (p3.toInt8.toInt32)) &&& (255 : Int32)) <<< ((8 : Int32) &&& 31))) ||| ((nar .byte (p4.toInt8.toInt32)) &&& (255 : Int32)))), .unset] []))
    refine own_step (fun _ k => XS.aload X32.here hx rfl (hb hby at_54) rfl rfl k) ?_
    show own_Fin p e below s _ _ _ (T32.setTop (mkF m 56 #[.val (.int p0), .val (.int p1), .val (.int p2), .val (.int p3), .val (.int p4), .val (.int p5), .val (.ref b1), .val (.int (2 : Int32)), .val (.int (((((nar .byte (p2.toInt8.toInt32)) &&& (255 : Int32)) <<< ((16 : Int32) &&& 31)) ||| (((nar .byte (p3.toInt8.toInt32)) &&& (255 : Int32)) <<< ((8 : Int32) &&& 31))) ||| ((nar .byte (p4.toInt8.toInt32)) &&& (255 : Int32)))), .unset] [(.ref b1)]))
    refine own_step (fun _ k => XS.iload X32.here hx rfl (hb hby at_56) rfl k) ?_
    show own_Fin p e below s _ _ _ (T32.setTop (mkF m 58 #[.val (.int p0), .val (.int p1), .val (.int p2), .val (.int p3), .val (.int p4), .val (.int p5), .val (.ref b1), .val (.int (2 : Int32)), .val (.int (((((nar .byte (p2.toInt8.toInt32)) &&& (255 : Int32)) <<< ((16 : Int32) &&& 31)) ||| (((nar .byte (p3.toInt8.toInt32)) &&& (255 : Int32)) <<< ((8 : Int32) &&& 31))) ||| ((nar .byte (p4.toInt8.toInt32)) &&& (255 : Int32)))), .unset] [(.int (2 : Int32)), (.ref b1)]))
    obtain ⟨cl33, Ar33, q33, Sz33, Ng33, Hs33, Gf33⟩ := id G12
    have hin33 : ¬ ((2 : Int32) < 0 ∨ cl33.slots.size ≤ ((2 : Int32)).toNatClampNeg) := inb_of Sz33 ⟨by decide, by decide⟩
    refine own_step (fun _ k => X32.baloadBytes hx (j := (2 : Int32)) (v := (.int (nar .byte (p2.toInt8.toInt32)))) (by rw [e32]; exact Ar33.1) (State.isArrayOf_alike hZ.alike Ar33.2.1) Ar33.2.2 hin33 (Has.at Hs33 hin33 rfl) (g := (mkF m 58 #[.val (.int p0), .val (.int p1), .val (.int p2), .val (.int p3), .val (.int p4), .val (.int p5), .val (.ref b1), .val (.int (2 : Int32)), .val (.int (((((nar .byte (p2.toInt8.toInt32)) &&& (255 : Int32)) <<< ((16 : Int32) &&& 31)) ||| (((nar .byte (p3.toInt8.toInt32)) &&& (255 : Int32)) <<< ((8 : Int32) &&& 31))) ||| ((nar .byte (p4.toInt8.toInt32)) &&& (255 : Int32)))), .unset] [(.int (2 : Int32)), (.ref b1)])) rfl rfl (hb hby at_58) _ k) ?_
    show own_Fin p e below s _ _ _ (T32.setTop (mkF m 59 #[.val (.int p0), .val (.int p1), .val (.int p2), .val (.int p3), .val (.int p4), .val (.int p5), .val (.ref b1), .val (.int (2 : Int32)), .val (.int (((((nar .byte (p2.toInt8.toInt32)) &&& (255 : Int32)) <<< ((16 : Int32) &&& 31)) ||| (((nar .byte (p3.toInt8.toInt32)) &&& (255 : Int32)) <<< ((8 : Int32) &&& 31))) ||| ((nar .byte (p4.toInt8.toInt32)) &&& (255 : Int32)))), .unset] [(.int (nar .byte (p2.toInt8.toInt32)))]))
    obtain ⟨_, _, ⟨T34, L34, k34, n34⟩, -, X34, ⟨Lc34, hQ34, l34, y34, z34⟩, st34⟩ := Jvm.LawKit.callS X32 hx (y := own_y1) hown (mvT hZ (own_w hw 6 rfl)) (mvT hZ (own_w hw 7 rfl)) (mvT hZ (own_w hw 8 rfl)) (mvT hZ (own_w hw 9 rfl)) (by decide) (backOf (W := 0) (own_rm4 l Z a0 hw [] ((nar .byte (p2.toInt8.toInt32))) h11 n0 Z11 ) hZ (own_w hw 9 rfl) (own_w hw 8 rfl) (by decide) (by decide)) (g := (mkF m 59 #[.val (.int p0), .val (.int p1), .val (.int p2), .val (.int p3), .val (.int p4), .val (.int p5), .val (.ref b1), .val (.int (2 : Int32)), .val (.int (((((nar .byte (p2.toInt8.toInt32)) &&& (255 : Int32)) <<< ((16 : Int32) &&& 31)) ||| (((nar .byte (p3.toInt8.toInt32)) &&& (255 : Int32)) <<< ((8 : Int32) &&& 31))) ||| ((nar .byte (p4.toInt8.toInt32)) &&& (255 : Int32)))), .unset] [(.int (nar .byte (p2.toInt8.toInt32)))])) rfl (by rw [hml]; rfl) (argsL := [(.int (nar .byte (p2.toInt8.toInt32)))]) (rest := []) (lenOf own_pd1 rfl) rfl (by show 2 * 0 + _ ≤ _; exact Nat.le_of_eq rfl) (hb hby at_59) (fun _ _ => ⟨rfl, e32, (by decide : 1 + 0 ≤ _), (by decide : 5 + 0 ≤ _)⟩)
    dsimp only [Pt.U, Pt.locs, Pt.cells, Pt.slots] at X34 l34 y34 z34 st34 hQ34
    subst l34 y34 z34
    obtain ⟨rfl, N34q, e34⟩ := hQ34
    have N34 := Fr.app N32 N34q
    refine own_step (fun _ k => st34 _ k) ?_
    show own_Fin p e below s _ _ _ (T34.setTop (mkF m 62 #[.val (.int p0), .val (.int p1), .val (.int p2), .val (.int p3), .val (.int p4), .val (.int p5), .val (.ref b1), .val (.int (2 : Int32)), .val (.int (((((nar .byte (p2.toInt8.toInt32)) &&& (255 : Int32)) <<< ((16 : Int32) &&& 31)) ||| (((nar .byte (p3.toInt8.toInt32)) &&& (255 : Int32)) <<< ((8 : Int32) &&& 31))) ||| ((nar .byte (p4.toInt8.toInt32)) &&& (255 : Int32)))), .unset] [(.int (own_r4 (nar .byte (p2.toInt8.toInt32))))]))
    refine own_step (fun _ k => X34.ldcInt hx hown (mvT hZ (own_w hw 10 rfl)) (g := (mkF m 62 #[.val (.int p0), .val (.int p1), .val (.int p2), .val (.int p3), .val (.int p4), .val (.int p5), .val (.ref b1), .val (.int (2 : Int32)), .val (.int (((((nar .byte (p2.toInt8.toInt32)) &&& (255 : Int32)) <<< ((16 : Int32) &&& 31)) ||| (((nar .byte (p3.toInt8.toInt32)) &&& (255 : Int32)) <<< ((8 : Int32) &&& 31))) ||| ((nar .byte (p4.toInt8.toInt32)) &&& (255 : Int32)))), .unset] [(.int (own_r4 (nar .byte (p2.toInt8.toInt32))))])) rfl (hb hby at_62) _ k) ?_
    show own_Fin p e below s _ _ _ (T34.setTop (mkF m 64 #[.val (.int p0), .val (.int p1), .val (.int p2), .val (.int p3), .val (.int p4), .val (.int p5), .val (.ref b1), .val (.int (2 : Int32)), .val (.int (((((nar .byte (p2.toInt8.toInt32)) &&& (255 : Int32)) <<< ((16 : Int32) &&& 31)) ||| (((nar .byte (p3.toInt8.toInt32)) &&& (255 : Int32)) <<< ((8 : Int32) &&& 31))) ||| ((nar .byte (p4.toInt8.toInt32)) &&& (255 : Int32)))), .unset] [(.int (65536 : Int32)), (.int (own_r4 (nar .byte (p2.toInt8.toInt32))))]))
    refine own_step (fun _ k => XS.imul X34.here hx rfl (hb hby at_64) rfl k) ?_
    show own_Fin p e below s _ _ _ (T34.setTop (mkF m 65 #[.val (.int p0), .val (.int p1), .val (.int p2), .val (.int p3), .val (.int p4), .val (.int p5), .val (.ref b1), .val (.int (2 : Int32)), .val (.int (((((nar .byte (p2.toInt8.toInt32)) &&& (255 : Int32)) <<< ((16 : Int32) &&& 31)) ||| (((nar .byte (p3.toInt8.toInt32)) &&& (255 : Int32)) <<< ((8 : Int32) &&& 31))) ||| ((nar .byte (p4.toInt8.toInt32)) &&& (255 : Int32)))), .unset] [(.int ((own_r4 (nar .byte (p2.toInt8.toInt32))) * (65536 : Int32)))]))
    refine own_step (fun _ k => XS.aload X34.here hx rfl (hb hby at_65) rfl rfl k) ?_
    show own_Fin p e below s _ _ _ (T34.setTop (mkF m 67 #[.val (.int p0), .val (.int p1), .val (.int p2), .val (.int p3), .val (.int p4), .val (.int p5), .val (.ref b1), .val (.int (2 : Int32)), .val (.int (((((nar .byte (p2.toInt8.toInt32)) &&& (255 : Int32)) <<< ((16 : Int32) &&& 31)) ||| (((nar .byte (p3.toInt8.toInt32)) &&& (255 : Int32)) <<< ((8 : Int32) &&& 31))) ||| ((nar .byte (p4.toInt8.toInt32)) &&& (255 : Int32)))), .unset] [(.ref b1), (.int ((own_r4 (nar .byte (p2.toInt8.toInt32))) * (65536 : Int32)))]))
    refine own_step (fun _ k => XS.iload X34.here hx rfl (hb hby at_67) rfl k) ?_
    show own_Fin p e below s _ _ _ (T34.setTop (mkF m 69 #[.val (.int p0), .val (.int p1), .val (.int p2), .val (.int p3), .val (.int p4), .val (.int p5), .val (.ref b1), .val (.int (2 : Int32)), .val (.int (((((nar .byte (p2.toInt8.toInt32)) &&& (255 : Int32)) <<< ((16 : Int32) &&& 31)) ||| (((nar .byte (p3.toInt8.toInt32)) &&& (255 : Int32)) <<< ((8 : Int32) &&& 31))) ||| ((nar .byte (p4.toInt8.toInt32)) &&& (255 : Int32)))), .unset] [(.int (2 : Int32)), (.ref b1), (.int ((own_r4 (nar .byte (p2.toInt8.toInt32))) * (65536 : Int32)))]))
    refine own_step (fun _ k => XS.iconst X34.here hx rfl (hb hby at_69) k) ?_
    show own_Fin p e below s _ _ _ (T34.setTop (mkF m 70 #[.val (.int p0), .val (.int p1), .val (.int p2), .val (.int p3), .val (.int p4), .val (.int p5), .val (.ref b1), .val (.int (2 : Int32)), .val (.int (((((nar .byte (p2.toInt8.toInt32)) &&& (255 : Int32)) <<< ((16 : Int32) &&& 31)) ||| (((nar .byte (p3.toInt8.toInt32)) &&& (255 : Int32)) <<< ((8 : Int32) &&& 31))) ||| ((nar .byte (p4.toInt8.toInt32)) &&& (255 : Int32)))), .unset] [(.int (1 : Int32)), (.int (2 : Int32)), (.ref b1), (.int ((own_r4 (nar .byte (p2.toInt8.toInt32))) * (65536 : Int32)))]))
    refine own_step (fun _ k => XS.iadd X34.here hx rfl (hb hby at_70) rfl k) ?_
    show own_Fin p e below s _ _ _ (T34.setTop (mkF m 71 #[.val (.int p0), .val (.int p1), .val (.int p2), .val (.int p3), .val (.int p4), .val (.int p5), .val (.ref b1), .val (.int (2 : Int32)), .val (.int (((((nar .byte (p2.toInt8.toInt32)) &&& (255 : Int32)) <<< ((16 : Int32) &&& 31)) ||| (((nar .byte (p3.toInt8.toInt32)) &&& (255 : Int32)) <<< ((8 : Int32) &&& 31))) ||| ((nar .byte (p4.toInt8.toInt32)) &&& (255 : Int32)))), .unset] [(.int ((2 : Int32) + (1 : Int32))), (.ref b1), (.int ((own_r4 (nar .byte (p2.toInt8.toInt32))) * (65536 : Int32)))]))
    rw [show ((2 : Int32) + (1 : Int32)) = (3 : Int32) from by decide]
    show own_Fin p e below s _ _ _ (T34.setTop (mkF m 71 #[.val (.int p0), .val (.int p1), .val (.int p2), .val (.int p3), .val (.int p4), .val (.int p5), .val (.ref b1), .val (.int (2 : Int32)), .val (.int (((((nar .byte (p2.toInt8.toInt32)) &&& (255 : Int32)) <<< ((16 : Int32) &&& 31)) ||| (((nar .byte (p3.toInt8.toInt32)) &&& (255 : Int32)) <<< ((8 : Int32) &&& 31))) ||| ((nar .byte (p4.toInt8.toInt32)) &&& (255 : Int32)))), .unset] [(.int (3 : Int32)), (.ref b1), (.int ((own_r4 (nar .byte (p2.toInt8.toInt32))) * (65536 : Int32)))]))
    obtain ⟨cl35, Ar35, q35, Sz35, Ng35, Hs35, Gf35⟩ := id G12
    have hin35 : ¬ ((3 : Int32) < 0 ∨ cl35.slots.size ≤ ((3 : Int32)).toNatClampNeg) := inb_of Sz35 ⟨by decide, by decide⟩
    refine own_step (fun _ k => X34.baloadBytes hx (j := (3 : Int32)) (v := (.int (nar .byte (p3.toInt8.toInt32)))) (by rw [e34]; exact Ar35.1) (State.isArrayOf_alike hZ.alike Ar35.2.1) Ar35.2.2 hin35 (Has.at Hs35 hin35 rfl) (g := (mkF m 71 #[.val (.int p0), .val (.int p1), .val (.int p2), .val (.int p3), .val (.int p4), .val (.int p5), .val (.ref b1), .val (.int (2 : Int32)), .val (.int (((((nar .byte (p2.toInt8.toInt32)) &&& (255 : Int32)) <<< ((16 : Int32) &&& 31)) ||| (((nar .byte (p3.toInt8.toInt32)) &&& (255 : Int32)) <<< ((8 : Int32) &&& 31))) ||| ((nar .byte (p4.toInt8.toInt32)) &&& (255 : Int32)))), .unset] [(.int (3 : Int32)), (.ref b1), (.int ((own_r4 (nar .byte (p2.toInt8.toInt32))) * (65536 : Int32)))])) rfl rfl (hb hby at_71) _ k) ?_
    show own_Fin p e below s _ _ _ (T34.setTop (mkF m 72 #[.val (.int p0), .val (.int p1), .val (.int p2), .val (.int p3), .val (.int p4), .val (.int p5), .val (.ref b1), .val (.int (2 : Int32)), .val (.int (((((nar .byte (p2.toInt8.toInt32)) &&& (255 : Int32)) <<< ((16 : Int32) &&& 31)) ||| (((nar .byte (p3.toInt8.toInt32)) &&& (255 : Int32)) <<< ((8 : Int32) &&& 31))) ||| ((nar .byte (p4.toInt8.toInt32)) &&& (255 : Int32)))), .unset] [(.int (nar .byte (p3.toInt8.toInt32))), (.int ((own_r4 (nar .byte (p2.toInt8.toInt32))) * (65536 : Int32)))]))
    obtain ⟨_, _, ⟨T36, L36, k36, n36⟩, -, X36, ⟨Lc36, hQ36, l36, y36, z36⟩, st36⟩ := Jvm.LawKit.callS X34 hx (y := own_y1) hown (mvT hZ (own_w hw 6 rfl)) (mvT hZ (own_w hw 7 rfl)) (mvT hZ (own_w hw 8 rfl)) (mvT hZ (own_w hw 9 rfl)) (by decide) (backOf (W := 1) (own_rm4 l Z a0 hw [] ((nar .byte (p3.toInt8.toInt32))) h11 n0 Z11 ) hZ (own_w hw 9 rfl) (own_w hw 8 rfl) (by decide) (by decide)) (g := (mkF m 72 #[.val (.int p0), .val (.int p1), .val (.int p2), .val (.int p3), .val (.int p4), .val (.int p5), .val (.ref b1), .val (.int (2 : Int32)), .val (.int (((((nar .byte (p2.toInt8.toInt32)) &&& (255 : Int32)) <<< ((16 : Int32) &&& 31)) ||| (((nar .byte (p3.toInt8.toInt32)) &&& (255 : Int32)) <<< ((8 : Int32) &&& 31))) ||| ((nar .byte (p4.toInt8.toInt32)) &&& (255 : Int32)))), .unset] [(.int (nar .byte (p3.toInt8.toInt32))), (.int ((own_r4 (nar .byte (p2.toInt8.toInt32))) * (65536 : Int32)))])) rfl (by rw [hml]; rfl) (argsL := [(.int (nar .byte (p3.toInt8.toInt32)))]) (rest := [(.int ((own_r4 (nar .byte (p2.toInt8.toInt32))) * (65536 : Int32)))]) (lenOf own_pd1 rfl) rfl (by show 2 * 0 + _ ≤ _; exact Nat.le_of_eq rfl) (hb hby at_72) (fun _ _ => ⟨rfl, e34, (by decide : 1 + 0 ≤ _), (by decide : 5 + 0 ≤ _)⟩)
    dsimp only [Pt.U, Pt.locs, Pt.cells, Pt.slots] at X36 l36 y36 z36 st36 hQ36
    subst l36 y36 z36
    obtain ⟨rfl, N36q, e36⟩ := hQ36
    have N36 := Fr.app N34 N36q
    refine own_step (fun _ k => st36 _ k) ?_
    show own_Fin p e below s _ _ _ (T36.setTop (mkF m 75 #[.val (.int p0), .val (.int p1), .val (.int p2), .val (.int p3), .val (.int p4), .val (.int p5), .val (.ref b1), .val (.int (2 : Int32)), .val (.int (((((nar .byte (p2.toInt8.toInt32)) &&& (255 : Int32)) <<< ((16 : Int32) &&& 31)) ||| (((nar .byte (p3.toInt8.toInt32)) &&& (255 : Int32)) <<< ((8 : Int32) &&& 31))) ||| ((nar .byte (p4.toInt8.toInt32)) &&& (255 : Int32)))), .unset] [(.int (own_r4 (nar .byte (p3.toInt8.toInt32)))), (.int ((own_r4 (nar .byte (p2.toInt8.toInt32))) * (65536 : Int32)))]))
    refine own_step (fun _ k => XS.sipush X36.here hx rfl (hb hby at_75) k) ?_
    show own_Fin p e below s _ _ _ (T36.setTop (mkF m 78 #[.val (.int p0), .val (.int p1), .val (.int p2), .val (.int p3), .val (.int p4), .val (.int p5), .val (.ref b1), .val (.int (2 : Int32)), .val (.int (((((nar .byte (p2.toInt8.toInt32)) &&& (255 : Int32)) <<< ((16 : Int32) &&& 31)) ||| (((nar .byte (p3.toInt8.toInt32)) &&& (255 : Int32)) <<< ((8 : Int32) &&& 31))) ||| ((nar .byte (p4.toInt8.toInt32)) &&& (255 : Int32)))), .unset] [(.int (256 : Int32)), (.int (own_r4 (nar .byte (p3.toInt8.toInt32)))), (.int ((own_r4 (nar .byte (p2.toInt8.toInt32))) * (65536 : Int32)))]))
    refine own_step (fun _ k => XS.imul X36.here hx rfl (hb hby at_78) rfl k) ?_
    show own_Fin p e below s _ _ _ (T36.setTop (mkF m 79 #[.val (.int p0), .val (.int p1), .val (.int p2), .val (.int p3), .val (.int p4), .val (.int p5), .val (.ref b1), .val (.int (2 : Int32)), .val (.int (((((nar .byte (p2.toInt8.toInt32)) &&& (255 : Int32)) <<< ((16 : Int32) &&& 31)) ||| (((nar .byte (p3.toInt8.toInt32)) &&& (255 : Int32)) <<< ((8 : Int32) &&& 31))) ||| ((nar .byte (p4.toInt8.toInt32)) &&& (255 : Int32)))), .unset] [(.int ((own_r4 (nar .byte (p3.toInt8.toInt32))) * (256 : Int32))), (.int ((own_r4 (nar .byte (p2.toInt8.toInt32))) * (65536 : Int32)))]))
    refine own_step (fun _ k => XS.iadd X36.here hx rfl (hb hby at_79) rfl k) ?_
    show own_Fin p e below s _ _ _ (T36.setTop (mkF m 80 #[.val (.int p0), .val (.int p1), .val (.int p2), .val (.int p3), .val (.int p4), .val (.int p5), .val (.ref b1), .val (.int (2 : Int32)), .val (.int (((((nar .byte (p2.toInt8.toInt32)) &&& (255 : Int32)) <<< ((16 : Int32) &&& 31)) ||| (((nar .byte (p3.toInt8.toInt32)) &&& (255 : Int32)) <<< ((8 : Int32) &&& 31))) ||| ((nar .byte (p4.toInt8.toInt32)) &&& (255 : Int32)))), .unset] [(.int (((own_r4 (nar .byte (p2.toInt8.toInt32))) * (65536 : Int32)) + ((own_r4 (nar .byte (p3.toInt8.toInt32))) * (256 : Int32))))]))
    refine own_step (fun _ k => XS.aload X36.here hx rfl (hb hby at_80) rfl rfl k) ?_
    show own_Fin p e below s _ _ _ (T36.setTop (mkF m 82 #[.val (.int p0), .val (.int p1), .val (.int p2), .val (.int p3), .val (.int p4), .val (.int p5), .val (.ref b1), .val (.int (2 : Int32)), .val (.int (((((nar .byte (p2.toInt8.toInt32)) &&& (255 : Int32)) <<< ((16 : Int32) &&& 31)) ||| (((nar .byte (p3.toInt8.toInt32)) &&& (255 : Int32)) <<< ((8 : Int32) &&& 31))) ||| ((nar .byte (p4.toInt8.toInt32)) &&& (255 : Int32)))), .unset] [(.ref b1), (.int (((own_r4 (nar .byte (p2.toInt8.toInt32))) * (65536 : Int32)) + ((own_r4 (nar .byte (p3.toInt8.toInt32))) * (256 : Int32))))]))
    refine own_step (fun _ k => XS.iload X36.here hx rfl (hb hby at_82) rfl k) ?_
    show own_Fin p e below s _ _ _ (T36.setTop (mkF m 84 #[.val (.int p0), .val (.int p1), .val (.int p2), .val (.int p3), .val (.int p4), .val (.int p5), .val (.ref b1), .val (.int (2 : Int32)), .val (.int (((((nar .byte (p2.toInt8.toInt32)) &&& (255 : Int32)) <<< ((16 : Int32) &&& 31)) ||| (((nar .byte (p3.toInt8.toInt32)) &&& (255 : Int32)) <<< ((8 : Int32) &&& 31))) ||| ((nar .byte (p4.toInt8.toInt32)) &&& (255 : Int32)))), .unset] [(.int (2 : Int32)), (.ref b1), (.int (((own_r4 (nar .byte (p2.toInt8.toInt32))) * (65536 : Int32)) + ((own_r4 (nar .byte (p3.toInt8.toInt32))) * (256 : Int32))))]))
    refine own_step (fun _ k => XS.iconst X36.here hx rfl (hb hby at_84) k) ?_
    show own_Fin p e below s _ _ _ (T36.setTop (mkF m 85 #[.val (.int p0), .val (.int p1), .val (.int p2), .val (.int p3), .val (.int p4), .val (.int p5), .val (.ref b1), .val (.int (2 : Int32)), .val (.int (((((nar .byte (p2.toInt8.toInt32)) &&& (255 : Int32)) <<< ((16 : Int32) &&& 31)) ||| (((nar .byte (p3.toInt8.toInt32)) &&& (255 : Int32)) <<< ((8 : Int32) &&& 31))) ||| ((nar .byte (p4.toInt8.toInt32)) &&& (255 : Int32)))), .unset] [(.int (2 : Int32)), (.int (2 : Int32)), (.ref b1), (.int (((own_r4 (nar .byte (p2.toInt8.toInt32))) * (65536 : Int32)) + ((own_r4 (nar .byte (p3.toInt8.toInt32))) * (256 : Int32))))]))
    refine own_step (fun _ k => XS.iadd X36.here hx rfl (hb hby at_85) rfl k) ?_
    show own_Fin p e below s _ _ _ (T36.setTop (mkF m 86 #[.val (.int p0), .val (.int p1), .val (.int p2), .val (.int p3), .val (.int p4), .val (.int p5), .val (.ref b1), .val (.int (2 : Int32)), .val (.int (((((nar .byte (p2.toInt8.toInt32)) &&& (255 : Int32)) <<< ((16 : Int32) &&& 31)) ||| (((nar .byte (p3.toInt8.toInt32)) &&& (255 : Int32)) <<< ((8 : Int32) &&& 31))) ||| ((nar .byte (p4.toInt8.toInt32)) &&& (255 : Int32)))), .unset] [(.int ((2 : Int32) + (2 : Int32))), (.ref b1), (.int (((own_r4 (nar .byte (p2.toInt8.toInt32))) * (65536 : Int32)) + ((own_r4 (nar .byte (p3.toInt8.toInt32))) * (256 : Int32))))]))
    rw [show ((2 : Int32) + (2 : Int32)) = (4 : Int32) from by decide]
    show own_Fin p e below s _ _ _ (T36.setTop (mkF m 86 #[.val (.int p0), .val (.int p1), .val (.int p2), .val (.int p3), .val (.int p4), .val (.int p5), .val (.ref b1), .val (.int (2 : Int32)), .val (.int (((((nar .byte (p2.toInt8.toInt32)) &&& (255 : Int32)) <<< ((16 : Int32) &&& 31)) ||| (((nar .byte (p3.toInt8.toInt32)) &&& (255 : Int32)) <<< ((8 : Int32) &&& 31))) ||| ((nar .byte (p4.toInt8.toInt32)) &&& (255 : Int32)))), .unset] [(.int (4 : Int32)), (.ref b1), (.int (((own_r4 (nar .byte (p2.toInt8.toInt32))) * (65536 : Int32)) + ((own_r4 (nar .byte (p3.toInt8.toInt32))) * (256 : Int32))))]))
    obtain ⟨cl37, Ar37, q37, Sz37, Ng37, Hs37, Gf37⟩ := id G12
    have hin37 : ¬ ((4 : Int32) < 0 ∨ cl37.slots.size ≤ ((4 : Int32)).toNatClampNeg) := inb_of Sz37 ⟨by decide, by decide⟩
    refine own_step (fun _ k => X36.baloadBytes hx (j := (4 : Int32)) (v := (.int (nar .byte (p4.toInt8.toInt32)))) (by rw [e36]; exact Ar37.1) (State.isArrayOf_alike hZ.alike Ar37.2.1) Ar37.2.2 hin37 (Has.at Hs37 hin37 rfl) (g := (mkF m 86 #[.val (.int p0), .val (.int p1), .val (.int p2), .val (.int p3), .val (.int p4), .val (.int p5), .val (.ref b1), .val (.int (2 : Int32)), .val (.int (((((nar .byte (p2.toInt8.toInt32)) &&& (255 : Int32)) <<< ((16 : Int32) &&& 31)) ||| (((nar .byte (p3.toInt8.toInt32)) &&& (255 : Int32)) <<< ((8 : Int32) &&& 31))) ||| ((nar .byte (p4.toInt8.toInt32)) &&& (255 : Int32)))), .unset] [(.int (4 : Int32)), (.ref b1), (.int (((own_r4 (nar .byte (p2.toInt8.toInt32))) * (65536 : Int32)) + ((own_r4 (nar .byte (p3.toInt8.toInt32))) * (256 : Int32))))])) rfl rfl (hb hby at_86) _ k) ?_
    show own_Fin p e below s _ _ _ (T36.setTop (mkF m 87 #[.val (.int p0), .val (.int p1), .val (.int p2), .val (.int p3), .val (.int p4), .val (.int p5), .val (.ref b1), .val (.int (2 : Int32)), .val (.int (((((nar .byte (p2.toInt8.toInt32)) &&& (255 : Int32)) <<< ((16 : Int32) &&& 31)) ||| (((nar .byte (p3.toInt8.toInt32)) &&& (255 : Int32)) <<< ((8 : Int32) &&& 31))) ||| ((nar .byte (p4.toInt8.toInt32)) &&& (255 : Int32)))), .unset] [(.int (nar .byte (p4.toInt8.toInt32))), (.int (((own_r4 (nar .byte (p2.toInt8.toInt32))) * (65536 : Int32)) + ((own_r4 (nar .byte (p3.toInt8.toInt32))) * (256 : Int32))))]))
    obtain ⟨_, _, ⟨T38, L38, k38, n38⟩, -, X38, ⟨Lc38, hQ38, l38, y38, z38⟩, st38⟩ := Jvm.LawKit.callS X36 hx (y := own_y1) hown (mvT hZ (own_w hw 6 rfl)) (mvT hZ (own_w hw 7 rfl)) (mvT hZ (own_w hw 8 rfl)) (mvT hZ (own_w hw 9 rfl)) (by decide) (backOf (W := 1) (own_rm4 l Z a0 hw [] ((nar .byte (p4.toInt8.toInt32))) h11 n0 Z11 ) hZ (own_w hw 9 rfl) (own_w hw 8 rfl) (by decide) (by decide)) (g := (mkF m 87 #[.val (.int p0), .val (.int p1), .val (.int p2), .val (.int p3), .val (.int p4), .val (.int p5), .val (.ref b1), .val (.int (2 : Int32)), .val (.int (((((nar .byte (p2.toInt8.toInt32)) &&& (255 : Int32)) <<< ((16 : Int32) &&& 31)) ||| (((nar .byte (p3.toInt8.toInt32)) &&& (255 : Int32)) <<< ((8 : Int32) &&& 31))) ||| ((nar .byte (p4.toInt8.toInt32)) &&& (255 : Int32)))), .unset] [(.int (nar .byte (p4.toInt8.toInt32))), (.int (((own_r4 (nar .byte (p2.toInt8.toInt32))) * (65536 : Int32)) + ((own_r4 (nar .byte (p3.toInt8.toInt32))) * (256 : Int32))))])) rfl (by rw [hml]; rfl) (argsL := [(.int (nar .byte (p4.toInt8.toInt32)))]) (rest := [(.int (((own_r4 (nar .byte (p2.toInt8.toInt32))) * (65536 : Int32)) + ((own_r4 (nar .byte (p3.toInt8.toInt32))) * (256 : Int32))))]) (lenOf own_pd1 rfl) rfl (by show 2 * 0 + _ ≤ _; exact Nat.le_of_eq rfl) (hb hby at_87) (fun _ _ => ⟨rfl, e36, (by decide : 1 + 0 ≤ _), (by decide : 5 + 0 ≤ _)⟩)
    dsimp only [Pt.U, Pt.locs, Pt.cells, Pt.slots] at X38 l38 y38 z38 st38 hQ38
    subst l38 y38 z38
    obtain ⟨rfl, N38q, e38⟩ := hQ38
    have N38 := Fr.app N36 N38q
    refine own_step (fun _ k => st38 _ k) ?_
    show own_Fin p e below s _ _ _ (T38.setTop (mkF m 90 #[.val (.int p0), .val (.int p1), .val (.int p2), .val (.int p3), .val (.int p4), .val (.int p5), .val (.ref b1), .val (.int (2 : Int32)), .val (.int (((((nar .byte (p2.toInt8.toInt32)) &&& (255 : Int32)) <<< ((16 : Int32) &&& 31)) ||| (((nar .byte (p3.toInt8.toInt32)) &&& (255 : Int32)) <<< ((8 : Int32) &&& 31))) ||| ((nar .byte (p4.toInt8.toInt32)) &&& (255 : Int32)))), .unset] [(.int (own_r4 (nar .byte (p4.toInt8.toInt32)))), (.int (((own_r4 (nar .byte (p2.toInt8.toInt32))) * (65536 : Int32)) + ((own_r4 (nar .byte (p3.toInt8.toInt32))) * (256 : Int32))))]))
    refine own_step (fun _ k => XS.iadd X38.here hx rfl (hb hby at_90) rfl k) ?_
    show own_Fin p e below s _ _ _ (T38.setTop (mkF m 91 #[.val (.int p0), .val (.int p1), .val (.int p2), .val (.int p3), .val (.int p4), .val (.int p5), .val (.ref b1), .val (.int (2 : Int32)), .val (.int (((((nar .byte (p2.toInt8.toInt32)) &&& (255 : Int32)) <<< ((16 : Int32) &&& 31)) ||| (((nar .byte (p3.toInt8.toInt32)) &&& (255 : Int32)) <<< ((8 : Int32) &&& 31))) ||| ((nar .byte (p4.toInt8.toInt32)) &&& (255 : Int32)))), .unset] [(.int ((((own_r4 (nar .byte (p2.toInt8.toInt32))) * (65536 : Int32)) + ((own_r4 (nar .byte (p3.toInt8.toInt32))) * (256 : Int32))) + (own_r4 (nar .byte (p4.toInt8.toInt32)))))]))
    refine own_step (fun _ k => XS.istore X38.here hx rfl (hb hby at_91) rfl (l' := #[.val (.int p0), .val (.int p1), .val (.int p2), .val (.int p3), .val (.int p4), .val (.int p5), .val (.ref b1), .val (.int (2 : Int32)), .val (.int (((((nar .byte (p2.toInt8.toInt32)) &&& (255 : Int32)) <<< ((16 : Int32) &&& 31)) ||| (((nar .byte (p3.toInt8.toInt32)) &&& (255 : Int32)) <<< ((8 : Int32) &&& 31))) ||| ((nar .byte (p4.toInt8.toInt32)) &&& (255 : Int32)))), .val (.int ((((own_r4 (nar .byte (p2.toInt8.toInt32))) * (65536 : Int32)) + ((own_r4 (nar .byte (p3.toInt8.toInt32))) * (256 : Int32))) + (own_r4 (nar .byte (p4.toInt8.toInt32)))))]) rfl k) ?_
    show own_Fin p e below s _ _ _ (T38.setTop (mkF m 93 #[.val (.int p0), .val (.int p1), .val (.int p2), .val (.int p3), .val (.int p4), .val (.int p5), .val (.ref b1), .val (.int (2 : Int32)), .val (.int (((((nar .byte (p2.toInt8.toInt32)) &&& (255 : Int32)) <<< ((16 : Int32) &&& 31)) ||| (((nar .byte (p3.toInt8.toInt32)) &&& (255 : Int32)) <<< ((8 : Int32) &&& 31))) ||| ((nar .byte (p4.toInt8.toInt32)) &&& (255 : Int32)))), .val (.int ((((own_r4 (nar .byte (p2.toInt8.toInt32))) * (65536 : Int32)) + ((own_r4 (nar .byte (p3.toInt8.toInt32))) * (256 : Int32))) + (own_r4 (nar .byte (p4.toInt8.toInt32)))))] []))
    refine own_step (fun _ k => XS.iload X38.here hx rfl (hb hby at_93) rfl k) ?_
    show own_Fin p e below s _ _ _ (T38.setTop (mkF m 95 #[.val (.int p0), .val (.int p1), .val (.int p2), .val (.int p3), .val (.int p4), .val (.int p5), .val (.ref b1), .val (.int (2 : Int32)), .val (.int (((((nar .byte (p2.toInt8.toInt32)) &&& (255 : Int32)) <<< ((16 : Int32) &&& 31)) ||| (((nar .byte (p3.toInt8.toInt32)) &&& (255 : Int32)) <<< ((8 : Int32) &&& 31))) ||| ((nar .byte (p4.toInt8.toInt32)) &&& (255 : Int32)))), .val (.int ((((own_r4 (nar .byte (p2.toInt8.toInt32))) * (65536 : Int32)) + ((own_r4 (nar .byte (p3.toInt8.toInt32))) * (256 : Int32))) + (own_r4 (nar .byte (p4.toInt8.toInt32)))))] [(.int (((((nar .byte (p2.toInt8.toInt32)) &&& (255 : Int32)) <<< ((16 : Int32) &&& 31)) ||| (((nar .byte (p3.toInt8.toInt32)) &&& (255 : Int32)) <<< ((8 : Int32) &&& 31))) ||| ((nar .byte (p4.toInt8.toInt32)) &&& (255 : Int32))))]))
    refine own_step (fun _ k => XS.iload X38.here hx rfl (hb hby at_95) rfl k) ?_
    show own_Fin p e below s _ _ _ (T38.setTop (mkF m 97 #[.val (.int p0), .val (.int p1), .val (.int p2), .val (.int p3), .val (.int p4), .val (.int p5), .val (.ref b1), .val (.int (2 : Int32)), .val (.int (((((nar .byte (p2.toInt8.toInt32)) &&& (255 : Int32)) <<< ((16 : Int32) &&& 31)) ||| (((nar .byte (p3.toInt8.toInt32)) &&& (255 : Int32)) <<< ((8 : Int32) &&& 31))) ||| ((nar .byte (p4.toInt8.toInt32)) &&& (255 : Int32)))), .val (.int ((((own_r4 (nar .byte (p2.toInt8.toInt32))) * (65536 : Int32)) + ((own_r4 (nar .byte (p3.toInt8.toInt32))) * (256 : Int32))) + (own_r4 (nar .byte (p4.toInt8.toInt32)))))] [(.int ((((own_r4 (nar .byte (p2.toInt8.toInt32))) * (65536 : Int32)) + ((own_r4 (nar .byte (p3.toInt8.toInt32))) * (256 : Int32))) + (own_r4 (nar .byte (p4.toInt8.toInt32))))), (.int (((((nar .byte (p2.toInt8.toInt32)) &&& (255 : Int32)) <<< ((16 : Int32) &&& 31)) ||| (((nar .byte (p3.toInt8.toInt32)) &&& (255 : Int32)) <<< ((8 : Int32) &&& 31))) ||| ((nar .byte (p4.toInt8.toInt32)) &&& (255 : Int32))))]))
    by_cases hc39 : (((((nar .byte (p2.toInt8.toInt32)) &&& (255 : Int32)) <<< ((16 : Int32) &&& 31)) ||| (((nar .byte (p3.toInt8.toInt32)) &&& (255 : Int32)) <<< ((8 : Int32) &&& 31))) ||| ((nar .byte (p4.toInt8.toInt32)) &&& (255 : Int32))) = ((((own_r4 (nar .byte (p2.toInt8.toInt32))) * (65536 : Int32)) + ((own_r4 (nar .byte (p3.toInt8.toInt32))) * (256 : Int32))) + (own_r4 (nar .byte (p4.toInt8.toInt32))))
    · refine own_step (fun _ k => XS.icmpNo X38.here hx rfl (hb hby at_97) rfl (teq hc39).2 k) ?_
      show own_Fin p e below s _ _ _ (T38.setTop (mkF m 100 #[.val (.int p0), .val (.int p1), .val (.int p2), .val (.int p3), .val (.int p4), .val (.int p5), .val (.ref b1), .val (.int (2 : Int32)), .val (.int (((((nar .byte (p2.toInt8.toInt32)) &&& (255 : Int32)) <<< ((16 : Int32) &&& 31)) ||| (((nar .byte (p3.toInt8.toInt32)) &&& (255 : Int32)) <<< ((8 : Int32) &&& 31))) ||| ((nar .byte (p4.toInt8.toInt32)) &&& (255 : Int32)))), .val (.int ((((own_r4 (nar .byte (p2.toInt8.toInt32))) * (65536 : Int32)) + ((own_r4 (nar .byte (p3.toInt8.toInt32))) * (256 : Int32))) + (own_r4 (nar .byte (p4.toInt8.toInt32)))))] []))
      refine own_step (fun _ k => XS.iconst X38.here hx rfl (hb hby at_100) k) ?_
      show own_Fin p e below s _ _ _ (T38.setTop (mkF m 101 #[.val (.int p0), .val (.int p1), .val (.int p2), .val (.int p3), .val (.int p4), .val (.int p5), .val (.ref b1), .val (.int (2 : Int32)), .val (.int (((((nar .byte (p2.toInt8.toInt32)) &&& (255 : Int32)) <<< ((16 : Int32) &&& 31)) ||| (((nar .byte (p3.toInt8.toInt32)) &&& (255 : Int32)) <<< ((8 : Int32) &&& 31))) ||| ((nar .byte (p4.toInt8.toInt32)) &&& (255 : Int32)))), .val (.int ((((own_r4 (nar .byte (p2.toInt8.toInt32))) * (65536 : Int32)) + ((own_r4 (nar .byte (p3.toInt8.toInt32))) * (256 : Int32))) + (own_r4 (nar .byte (p4.toInt8.toInt32)))))] [(.int (1 : Int32))]))
      refine own_step (fun _ k => XS.goto X38.here hx rfl (pc0 := 101) (pc' := 105) rfl (hb hby at_101) (by decide) (by decide) k) ?_
      show own_Fin p e below s _ _ _ (T38.setTop (mkF m 105 #[.val (.int p0), .val (.int p1), .val (.int p2), .val (.int p3), .val (.int p4), .val (.int p5), .val (.ref b1), .val (.int (2 : Int32)), .val (.int (((((nar .byte (p2.toInt8.toInt32)) &&& (255 : Int32)) <<< ((16 : Int32) &&& 31)) ||| (((nar .byte (p3.toInt8.toInt32)) &&& (255 : Int32)) <<< ((8 : Int32) &&& 31))) ||| ((nar .byte (p4.toInt8.toInt32)) &&& (255 : Int32)))), .val (.int ((((own_r4 (nar .byte (p2.toInt8.toInt32))) * (65536 : Int32)) + ((own_r4 (nar .byte (p3.toInt8.toInt32))) * (256 : Int32))) + (own_r4 (nar .byte (p4.toInt8.toInt32)))))] [(.int (1 : Int32))]))
      exact own_ret X38 hlk (v := some (.int (1 : Int32))) (fun h => by rw [Bd.returns] at h; cases h) (by decide) (by decide) (by show own_Q5 Z p0 p1 p2 p3 p4 p5 h0 n0 _ T38.heap _; rw [e38]; exact ⟨rfl, N38⟩) (fun fs hr => retN X38 hx (t := .boolean) Bd.returns (by simp) (hb hby at_105) hr)
    · refine own_step (fun _ k => XS.icmpYes X38.here hx rfl (pc0 := 97) (pc' := 104) rfl (hb hby at_97) rfl (feq hc39).2 (by decide) (by decide) k) ?_
      show own_Fin p e below s _ _ _ (T38.setTop (mkF m 104 #[.val (.int p0), .val (.int p1), .val (.int p2), .val (.int p3), .val (.int p4), .val (.int p5), .val (.ref b1), .val (.int (2 : Int32)), .val (.int (((((nar .byte (p2.toInt8.toInt32)) &&& (255 : Int32)) <<< ((16 : Int32) &&& 31)) ||| (((nar .byte (p3.toInt8.toInt32)) &&& (255 : Int32)) <<< ((8 : Int32) &&& 31))) ||| ((nar .byte (p4.toInt8.toInt32)) &&& (255 : Int32)))), .val (.int ((((own_r4 (nar .byte (p2.toInt8.toInt32))) * (65536 : Int32)) + ((own_r4 (nar .byte (p3.toInt8.toInt32))) * (256 : Int32))) + (own_r4 (nar .byte (p4.toInt8.toInt32)))))] []))
      refine own_step (fun _ k => XS.iconst X38.here hx rfl (hb hby at_104) k) ?_
      show own_Fin p e below s _ _ _ (T38.setTop (mkF m 105 #[.val (.int p0), .val (.int p1), .val (.int p2), .val (.int p3), .val (.int p4), .val (.int p5), .val (.ref b1), .val (.int (2 : Int32)), .val (.int (((((nar .byte (p2.toInt8.toInt32)) &&& (255 : Int32)) <<< ((16 : Int32) &&& 31)) ||| (((nar .byte (p3.toInt8.toInt32)) &&& (255 : Int32)) <<< ((8 : Int32) &&& 31))) ||| ((nar .byte (p4.toInt8.toInt32)) &&& (255 : Int32)))), .val (.int ((((own_r4 (nar .byte (p2.toInt8.toInt32))) * (65536 : Int32)) + ((own_r4 (nar .byte (p3.toInt8.toInt32))) * (256 : Int32))) + (own_r4 (nar .byte (p4.toInt8.toInt32)))))] [(.int (0 : Int32))]))
      exfalso
      exact hc39 (own_law _ _ _ (own_by _) (own_by _) (own_by _))

set_option maxRecDepth 65536 in
set_option maxHeartbeats 40000000 in
theorem comes_1 {Post : Tables → Env → Array Value → State → Outcome → State → Prop} (hpost : ∀ tb e args s v u, (limb_1_1.after args s (.returned v) u = true ∧ limb_1_2.after args s (.returned v) u = true ∧ True) → FrameEnd s (.returned v) u (Jvm.fieldLocs frame_1_writes args s ++ Jvm.arrayLocs frame_1_arrays args s ++ Jvm.staticLocs frame_1_statics s) 16 128 → Post tb e args s (.returned v) u) :
    ArmFor flags0 classFile x code maxLocals ret World_1 tables_1 room_1 Calls_1 rest_1 Pre_1 Post := by
  intro l hfl _ _ p e ha hc hk s m args below hf hA hF happ hP
  obtain ⟨hcalls, hrest, hpre⟩ := hP
  obtain ⟨-, -, -, hnamed, -, -, -, hat⟩ := (Spec.applies_iff hf).mp happ
  obtain ⟨hg, hn⟩ := and_e (Cond.before_iff.mp (show (Jvm.Cond.and given_1 narrow_1).before args s = true from hpre))
  obtain ⟨cj1a, cj1b⟩ := and_e hg
  obtain ⟨cj2a, cj2b⟩ := and_e cj1b
  obtain ⟨cj3a, cj3b⟩ := and_e cj2b
  obtain ⟨cj4a, cj4b⟩ := and_e cj3b
  obtain ⟨cj5a, cj5b⟩ := and_e cj4b
  obtain ⟨cj6a, cj6b⟩ := and_e cj5b
  obtain ⟨w0, w1, w2, w3, w4, w5, rfl⟩ : ∃ w0 w1 w2 w3 w4 w5 : Value, args = #[w0, w1, w2, w3, w4, w5] := by
    have hs : args.size = 6 := by simpa [Cond.value, given_1] using cj1a
    obtain ⟨L⟩ := args
    match L, hs with
    | [w0, w1, w2, w3, w4, w5], _ => exact ⟨w0, w1, w2, w3, w4, w5, rfl⟩
  have hw := fun d (hd : d ∈ tables_1) => atoms_spec (ws := Jvm.Cond.code x code maxLocals ret :: tables_1) hat d (List.mem_cons_of_mem _ hd)
  have hfit : Fit s := fun {y c} hc i hi => by
    obtain ⟨ha, rfl⟩ := Array.getElem?_eq_some_iff.mp hc
    have q := List.all_eq_true.mp ((Array.all_eq_true_iff_forall_mem.mp hF) _ (Array.getElem_mem ha)) i (List.mem_range.mpr hi)
    simpa [Array.getElem?_eq_getElem hi] using q
  obtain ⟨i0, ei0⟩ := is_v cj2a
  obtain rfl : w0 = (.int i0) := Option.some.inj ei0
  obtain ⟨i1, ei1⟩ := is_v cj3a
  obtain rfl : w1 = (.int i1) := Option.some.inj ei1
  obtain ⟨i2, ei2⟩ := is_v cj4a
  obtain rfl : w2 = (.int i2) := Option.some.inj ei2
  obtain ⟨i3, ei3⟩ := is_v cj5a
  obtain rfl : w3 = (.int i3) := Option.some.inj ei3
  obtain ⟨i4, ei4⟩ := is_v cj6a
  obtain rfl : w4 = (.int i4) := Option.some.inj ei4
  obtain ⟨i5, ei5⟩ := is_v cj6b
  obtain rfl : w5 = (.int i5) := Option.some.inj ei5
  obtain ⟨n, o, h1, h2, h3, _, L, rfl, ⟨rfl, N⟩, hq⟩ := own_rm5 l s _ hw tables_1 i0 i1 i2 i3 i4 i5 s.heap s.heap.size (Nat.le_refl _)  p e ha hc hk s m _ below hf ((Spec.applies_iff_loose hf).mp happ).1 ⟨rfl, State.Warmed39.refl s, rfl⟩ trivial
  refine ⟨n, _, h1, h2, h3, hpost _ _ _ _ _ _ ⟨Cond.after_iff.mpr rfl, Cond.after_iff.mpr (eq_i res_at (Term.int_eval (1)) rfl), trivial⟩ ⟨hq.1, hq.2.1, (hq.2.2.sift fun y hy => Or.inr (N y hy)).mono (by decide) (by decide)⟩⟩
theorem main_1_1 : Claimed_1_1 := comes_1 fun _ _ _ _ _ _ h hF => ⟨h.1, hF⟩
theorem main_1_2 : Claimed_1_2 := comes_1 fun _ _ _ _ _ _ h hF => ⟨h.2.1, hF⟩
end Jvm.Pilot.@@N@@
namespace Jvm.Pilot.@@N@@
open Jvm Jvm.ClassFile Sem Op Lib Jvm.Free Jvm.Stand Jvm.Pilot.@@N@@.Jvm.D
/-! MADE BY PROGRAM (witnessworld.py) out of the Statement's table words and the real class files: 9 classes; the members and pool entries that the words name. The judged class is class 1, her method 2. -/
namespace start1
open Jvm.ClassFile
def u (s : String) : CpInfo := .utf8 (stringToUtf16 s)
/-- a pool by its gaps: so many unusable entries, then the entry; so many at the end -/
def gap : Nat → List CpInfo → List CpInfo
  | 0, r => r
  | n + 1, r => .unusable :: gap n r
def poolList (es : List (Nat × CpInfo)) (last : Nat) : List CpInfo := es.foldr (fun e r => gap e.1 (e.2 :: r)) (gap last [])
def pool (es : List (Nat × CpInfo)) (last : Nat) : Array CpInfo := ⟨poolList es last⟩
def fileOf (pool : Array CpInfo) (this : Nat) (attrs : Array Attribute := #[]) (ms : Array MethodInfo := #[]) (fl : Nat := 33) (sup : Nat := 0) (ifs : Array Nat := #[]) (fds : Array FieldInfo := #[]) : ClassFile where
  minorVersion := 0
  majorVersion := 65
  constantPool := pool
  accessFlags := fl
  thisClass := this
  superClass := sup
  interfaces := ifs
  fields := fds
  methods := ms
  attributes := attrs
def plain (name : String) (sup : Option ClassId) : Class where
  name := name
  kind := .ordinary
  loader := none
  accessFlags := 33
  super := sup
  interfaces := #[]
  cf := none
  fields := #[]
  methods := #[]
  instanceTypes := #[]
  staticTypes := #[]
  resolved := #[]
  callSites := []
  init := .initialized
  statics := none
  mirror := none

def pool0 : Array CpInfo := pool [(5, u "<init>"), (0, u "()V"), (1, .class_ 10), (1, u "java/lang/Object")] 113

def k0m0 : Method := { name := "<init>", desc := "()V", sig := { parameters := [], returnType := none }, accessFlags := 1, code := none }
/-- java/lang/Object -/
def k0 : Class := { plain "java/lang/Object" none with
  accessFlags := 33
  interfaces := #[]
  cf := some (fileOf pool0 8 #[] #[{ accessFlags := 1, nameIndex := 5, descriptorIndex := 6, attributes := #[] }] 33 0 #[] #[])
  fields := #[]
  methods := #[k0m0]
  instanceTypes := #[]
  staticTypes := #[]
  resolved := Array.replicate 124 none
  statics := none }

def pool1 : Array CpInfo := pool [(2, .class_ 4), (1, u "java/lang/Object"), (0, u "<init>"), (0, u "()V"), (0, .integer 2147483647), (0, .methodref 9 10), (0, .class_ 11), (0, .nameAndType 12 13), (0, u "com/example/pipehat/pipehat/Occurrences"), (0, u "pack"), (0, u "([BI)I"), (0, .methodref 15 16), (0, .class_ 17), (0, .nameAndType 18 19), (0, u "com/example/pipehat/pipehat/OccurrencesPackPinLaw"), (0, u "unsigned"), (0, u "(B)I"), (0, .integer 65536), (3, u "law"), (0, u "(IIIIII)Z")] 4

def k1m0 : Method := { name := "<init>", desc := "()V", sig := { parameters := [], returnType := none }, accessFlags := 2, code := none }
def k1c1 : Code := { maxStack := 2, maxLocals := 2, code := method_2_code, exceptionTable := #[], attributes := #[] }
def k1m1 : Method := { name := "unsigned", desc := "(B)I", sig := { parameters := [.byte], returnType := some .int }, accessFlags := 10, code := some k1c1 }
def k1c2 : Code := { maxStack := 4, maxLocals := 10, code := code, exceptionTable := #[], attributes := #[] }
def k1m2 : Method := { name := "law", desc := "(IIIIII)Z", sig := { parameters := [.int, .int, .int, .int, .int, .int], returnType := some .boolean }, accessFlags := 9, code := some k1c2 }
/-- com/example/pipehat/pipehat/OccurrencesPackPinLaw -/
def k1 : Class := { plain "com/example/pipehat/pipehat/OccurrencesPackPinLaw" (some 0) with
  accessFlags := 49
  interfaces := #[]
  cf := some (fileOf pool1 15 #[] #[{ accessFlags := 2, nameIndex := 5, descriptorIndex := 6, attributes := #[] }, { accessFlags := 10, nameIndex := 18, descriptorIndex := 19, attributes := #[] }, { accessFlags := 9, nameIndex := 24, descriptorIndex := 25, attributes := #[] }] 49 2 #[] #[])
  fields := #[]
  methods := #[k1m0, k1m1, k1m2]
  instanceTypes := #[]
  staticTypes := #[]
  resolved := Array.replicate 30 none
  statics := none }

def pool2 : Array CpInfo := pool [(2, .class_ 4), (1, u "java/lang/Object"), (0, u "<init>"), (0, u "()V"), (0, .class_ 8), (0, u "com/example/pipehat/pipehat/Occurrences"), (2, u "ids"), (0, u "[I"), (2, u "counts"), (2, u "lastId"), (0, u "I"), (6, u "distinct"), (5, u "lastSlot"), (6, u "SPREAD"), (1, u "FIRST_SIZE"), (3, u "pack"), (0, u "([BI)I")] 5

def k2m0 : Method := { name := "<init>", desc := "()V", sig := { parameters := [], returnType := none }, accessFlags := 0, code := none }
def k2c1 : Code := { maxStack := 4, maxLocals := 2, code := prog_20_method_2_code, exceptionTable := #[], attributes := #[] }
def k2m1 : Method := { name := "pack", desc := "([BI)I", sig := { parameters := [(.array .byte), .int], returnType := some .int }, accessFlags := 8, code := some k2c1 }
/-- com/example/pipehat/pipehat/Occurrences -/
def k2 : Class := { plain "com/example/pipehat/pipehat/Occurrences" (some 0) with
  accessFlags := 48
  interfaces := #[]
  cf := some (fileOf pool2 7 #[] #[{ accessFlags := 0, nameIndex := 5, descriptorIndex := 6, attributes := #[] }, { accessFlags := 8, nameIndex := 45, descriptorIndex := 46, attributes := #[] }] 48 2 #[] #[{ accessFlags := 26, nameIndex := 39, descriptorIndex := 19, attributes := #[] }, { accessFlags := 26, nameIndex := 41, descriptorIndex := 19, attributes := #[] }, { accessFlags := 2, nameIndex := 11, descriptorIndex := 12, attributes := #[] }, { accessFlags := 2, nameIndex := 15, descriptorIndex := 12, attributes := #[] }, { accessFlags := 2, nameIndex := 26, descriptorIndex := 19, attributes := #[] }, { accessFlags := 2, nameIndex := 18, descriptorIndex := 19, attributes := #[] }, { accessFlags := 2, nameIndex := 32, descriptorIndex := 19, attributes := #[] }])
  fields := #[{ name := "SPREAD", type := .int, accessFlags := 26, slot := 0, constantValue := 0 }, { name := "FIRST_SIZE", type := .int, accessFlags := 26, slot := 1, constantValue := 0 }, { name := "ids", type := (.array .int), accessFlags := 2, slot := 0, constantValue := 0 }, { name := "counts", type := (.array .int), accessFlags := 2, slot := 1, constantValue := 0 }, { name := "distinct", type := .int, accessFlags := 2, slot := 2, constantValue := 0 }, { name := "lastId", type := .int, accessFlags := 2, slot := 3, constantValue := 0 }, { name := "lastSlot", type := .int, accessFlags := 2, slot := 4, constantValue := 0 }]
  methods := #[k2m0, k2m1]
  instanceTypes := #[(.array .int), (.array .int), .int, .int, .int]
  staticTypes := #[.int, .int]
  resolved := Array.replicate 52 none
  statics := none }

def pool3 : Array CpInfo := pool [(1, u "java/lang/Cloneable"), (0, .class_ 1), (0, u "java/lang/Object"), (0, .class_ 3)] 3

/-- java/lang/Cloneable -/
def k3 : Class := { plain "java/lang/Cloneable" (some 0) with
  accessFlags := 1537
  interfaces := #[]
  cf := some (fileOf pool3 2 #[] #[] 1537 4 #[] #[])
  fields := #[]
  methods := #[]
  instanceTypes := #[]
  staticTypes := #[]
  resolved := Array.replicate 8 none
  statics := none }

def pool4 : Array CpInfo := pool [(1, u "java/io/Serializable"), (0, .class_ 1), (0, u "java/lang/Object"), (0, .class_ 3)] 3

/-- java/io/Serializable -/
def k4 : Class := { plain "java/io/Serializable" (some 0) with
  accessFlags := 1537
  interfaces := #[]
  cf := some (fileOf pool4 2 #[] #[] 1537 4 #[] #[])
  fields := #[]
  methods := #[]
  instanceTypes := #[]
  staticTypes := #[]
  resolved := Array.replicate 8 none
  statics := none }

/-- the primitive byte -/
def k5 : Class := { plain "byte" none with kind := .primitive 'B', accessFlags := 0x411 }
/-- [B -/
def k6 : Class := { plain "[B" (some 0) with kind := .array 5 .byte, interfaces := #[3, 4], accessFlags := 1041 }

/-- the primitive int -/
def k7 : Class := { plain "int" none with kind := .primitive 'I', accessFlags := 0x411 }
/-- [I -/
def k8 : Class := { plain "[I" (some 0) with kind := .array 7 .int, interfaces := #[3, 4], accessFlags := 1041 }

def heap : Heap := #[]
def classes : Array Class := #[k0, k1, k2, k3, k4, k5, k6, k7, k8]
def interned : List (Array UInt16 × Addr) := []
def slotsUsed : Nat := 0
def theMethod : MethodId := ⟨1, 2⟩
def args0 : Array Value := #[.int 5, .int 200, .int 1, .int 2, .int 1, .int 4]
def aboutOver (below : List Frame) : State where
  vm := { classes := classes, interned := interned.toArray }
  heap := heap
  slotsUsed := slotsUsed
  threads := #[{ frames := .invoking theMethod args0 :: below }]
def below0 : List Frame := [.native { method := ⟨0, 0⟩, args := #[] }]
def about1 : State := aboutOver below0
def p0 : Program := .bare "" "" ""
def e0 : Env := launch0.env 0 0 0
theorem w_frames : about1.frames = Frame.invoking theMethod args0 :: below0 := rfl
set_option maxRecDepth 65536 in
theorem w_args : argsFit about1.vm theMethod args0 = true := by decide +kernel
set_option maxRecDepth 65536 in
theorem w_heap : heapFits about1 = true := by decide +kernel
set_option maxRecDepth 65536 in
theorem w_runnable : about1.curStatus? = some .runnable := by decide +kernel
set_option maxRecDepth 65536 in
theorem w_alone : about1.alone = true := by decide +kernel
set_option maxRecDepth 65536 in
theorem w_named : about1.methodNamed? x = some theMethod := by decide +kernel
set_option maxRecDepth 65536 in
theorem w_hears : about1.hears theMethod below0 = true := by decide +kernel
set_option maxRecDepth 65536 in
theorem w_ripe : about1.ripe theMethod args0 below0 = true := by decide +kernel
theorem w_running : about1.status = .running := rfl
set_option maxRecDepth 65536 in
theorem w_room : about1.hasRoom e0.platform room_1 = true :=
  launch0.hasRoom_least _ room_1 (by decide +kernel) (by decide +kernel) (by decide +kernel) (by decide +kernel) (by decide +kernel) (by decide +kernel)
theorem allAtoms_all (ts : List Jvm.Cond) (a : Array Jvm.Value) (st : Jvm.State) : (allAtoms ts).before a st = ts.all (fun c => c.before a st) := by
  induction ts with
  | nil => rfl
  | cons c t ih =>
    show (Jvm.Cond.and c (allAtoms t)).before a st = _
    rw [Jvm.Cond.before_and, ih, List.all_cons]
def words1 : List Jvm.Cond := Jvm.Cond.code x code maxLocals ret :: tables_1
/-- a 'code' word, met by the world's own term for the bytes: nothing is compared byte by byte -/
theorem code_word {y : MethodName} {bytes : ByteArray} {mx : Nat} {rt : Option FieldType} {a : Array Value} {s : State} {m : MethodId} {meth : Method} {c : Code} (h1 : s.methodNamed? y = some m) (h2 : s.vm.method? m = some meth) (h3 : meth.code = some c) (h4 : c.code = bytes)
    (h5 : (c.maxLocals == mx && c.exceptionTable.isEmpty && decide (c.maxStack ≤ mostOperands) && decide (meth.sig.returnType = rt) && !meth.locks && decide (parseMethodDescriptor y.desc = some meth.sig)) = true) : (Jvm.Cond.code y bytes mx rt).before a s = true := by
  simp only [Bool.and_eq_true, beq_iff_eq, Bool.not_eq_true', decide_eq_true_eq] at h5
  obtain ⟨⟨⟨⟨⟨g1, g2⟩, g3⟩, g4⟩, g5⟩, g6⟩ := h5
  simp [Cond.before, Cond.holds, Cond.value, h1, h2, h3, h4, g1, g2, g3, g4, g5, g6]
def isCode : Jvm.Cond → Bool
  | .code _ _ _ _ => true
  | _ => false
theorem all_split {L : List Jvm.Cond} {P : Jvm.Cond → Bool} (h1 : L.all (fun c => isCode c || P c) = true) (h2 : ∀ c ∈ L.filter isCode, P c = true) : L.all P = true := by
  refine List.all_eq_true.mpr fun c hc => ?_
  have h := List.all_eq_true.mp h1 c hc
  rcases Bool.eq_false_or_eq_true (isCode c) with hi | hi
  · exact h2 c (List.mem_filter.mpr ⟨hc, hi⟩)
  · simpa [hi] using h
set_option maxRecDepth 65536 in
theorem w_c0 : (Jvm.Cond.code x code maxLocals ret).before args0 about1 = true := code_word (m := ⟨1, 2⟩) (meth := k1m2) (c := k1c2) (by decide +kernel) rfl rfl rfl (by decide +kernel)
set_option maxRecDepth 65536 in
theorem w_c1 : (Jvm.Cond.code ({ cls := "com/example/pipehat/pipehat/Occurrences", name := "pack", desc := "([BI)I" } : Jvm.MethodName) prog_20_method_2_code (2 : Nat) (Option.some Jvm.ClassFile.FieldType.int)).before args0 about1 = true := code_word (m := ⟨2, 1⟩) (meth := k2m1) (c := k2c1) (by decide +kernel) rfl rfl rfl (by decide +kernel)
set_option maxRecDepth 65536 in
theorem w_c2 : (Jvm.Cond.code ({ cls := "com/example/pipehat/pipehat/OccurrencesPackPinLaw", name := "unsigned", desc := "(B)I" } : Jvm.MethodName) method_2_code (2 : Nat) (Option.some Jvm.ClassFile.FieldType.int)).before args0 about1 = true := code_word (m := ⟨1, 1⟩) (meth := k1m1) (c := k1c1) (by decide +kernel) rfl rfl rfl (by decide +kernel)
def codes1 : List Jvm.Cond := [Jvm.Cond.code x code maxLocals ret, Jvm.Cond.code ({ cls := "com/example/pipehat/pipehat/Occurrences", name := "pack", desc := "([BI)I" } : Jvm.MethodName) prog_20_method_2_code (2 : Nat) (Option.some Jvm.ClassFile.FieldType.int), Jvm.Cond.code ({ cls := "com/example/pipehat/pipehat/OccurrencesPackPinLaw", name := "unsigned", desc := "(B)I" } : Jvm.MethodName) method_2_code (2 : Nat) (Option.some Jvm.ClassFile.FieldType.int)]
set_option maxRecDepth 65536 in
theorem codes_eq : words1.filter isCode = codes1 := rfl
theorem w_codes : ∀ c ∈ words1.filter isCode, c.before args0 about1 = true := by
  rw [codes_eq]
  intro c hc
  simp only [codes1, List.mem_cons, List.not_mem_nil, or_false] at hc
  rcases hc with rfl | rfl | rfl
  · exact w_c0
  · exact w_c1
  · exact w_c2
set_option maxRecDepth 65536 in
theorem w_t1 : words1.all (fun c => isCode c || c.before args0 about1) = true := by decide +kernel
theorem w_tables : (allAtoms (Jvm.Cond.code x code maxLocals ret :: tables_1)).before args0 about1 = true := by
  rw [allAtoms_all]
  show words1.all (fun c => c.before args0 about1) = true
  refine all_split ?_ w_codes
  rw [w_t1]
set_option maxRecDepth 65536 in
theorem w_case : (Jvm.Cond.and given_1 narrow_1).before args0 about1 = true := by decide +kernel
theorem w_applies : (headSpec (Jvm.Cond.code x code maxLocals ret :: tables_1) room_1).applies x e0.platform about1 = true :=
  (Spec.applies_iff w_frames).mpr ⟨w_running, w_runnable, w_alone, w_named, w_hears, w_ripe, w_room, w_tables⟩
theorem atStart : AtStart classFile x code maxLocals ret World_1 tables_1 room_1 Calls_1 rest_1 Pre_1 launch0 p0 e0 about1 theMethod args0 below0 :=
  ⟨lists_1, trivial, launch0.admits_env _ _ _, launch0.least_env, fairChoices_fair.cas, fairChoices_fair.clock, w_frames, w_args, w_heap, w_applies, trivial, trivial, w_case⟩
end start1
theorem witness_1 : WitnessClaimed_1 := ⟨start1.p0, start1.e0, start1.about1, start1.theMethod, start1.args0, start1.below0, start1.atStart⟩
end Jvm.Pilot.@@N@@
