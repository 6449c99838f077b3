import JvmDerived
import JvmDerived.Pilot.@@N@@Statement
import JvmDerived.Pilot.@@N@@Code
set_option linter.unusedVariables false
set_option linter.unusedSimpArgs false
namespace Jvm.RoadKit
open Sem ClassFile Op Lib Jvm.Stand Jvm.Free Jvm.LawKit
section Own
variable {p : Program} {l : Launch} {e : Env} {R : Room} {s : State} {m : MethodId} {args : Array Value} {below : List Frame} {meth : Method} {c : Code} {T : State} {locs : List Loc} {cells slots : Nat} {Q : Option Value → Heap → List Loc → Prop} {kc ks : Nat}
/-- the run from S comes to its end and leaves what Q says -/
def own_Fin (p : Program) (e : Env) (below : List Frame) (s : State) (kc ks : Nat) (Q : Option Value → Heap → List Loc → Prop) (S : State) : Prop :=
  ∃ U o, Steps p.tables e below S U ∧ U.status = .running ∧ Ended U below o ∧ ∃ v L, o = .returned v ∧ Q v U.heap L ∧ FrameEnd s o U L kc ks
theorem own_step {S S' : State} (h : ∀ t, Steps p.tables e below S' t → Steps p.tables e below S t) (k : own_Fin p e below s kc ks Q S') : own_Fin p e below s kc ks Q S := by
  obtain ⟨U, o, h1, r⟩ := k
  exact ⟨U, o, h _ h1, r⟩
theorem own_ret (X : Stand p l e R s m args below meth c T locs cells slots) (hlk : meth.locks = false) {v : Option Value} (hv : meth.sig.returnType = none → v = none) (hc : cells ≤ kc) (hs : slots ≤ ks) (hQ : Q v T.heap locs) {S : State}
    (hst : ∀ fs, (∀ (f : JFrame) (acts : List Action), f.method = m → f.locked = none → f.entered = [] → (doReturn e (T.setTop f) acts v).1 = T.setFrames fs) → Steps p.tables e below S (T.setFrames fs)) : own_Fin p e below s kc ks Q S := by
  obtain ⟨fs, hr, hrun, hended, hW, hsame⟩ := X.leave (v := v) hv hlk
  exact ⟨_, _, hst fs hr, hrun, hended, _, _, rfl, hQ, ⟨_, rfl⟩, hW, hsame.mono hc hs⟩
def own_FinW (p : Program) (e : Env) (below : List Frame) (s : State) (kc ks : Nat) (Q : Option Value → Heap → List Loc → Prop) (S : State) : Prop :=
  ∃ U o, Steps p.tables e below S U ∧ U.status = .running ∧ Ended U below o ∧ ∃ v L, o = .returned v ∧ Q v U.heap L ∧ ReturnedEndW s o U L kc ks
theorem own_stepW {S S' : State} (h : ∀ t, Steps p.tables e below S' t → Steps p.tables e below S t) (k : own_FinW p e below s kc ks Q S') : own_FinW p e below s kc ks Q S := by
  obtain ⟨U, o, h1, r⟩ := k
  exact ⟨U, o, h _ h1, r⟩
theorem own_retW {vm1 : Vm} (X : Stand p l e R (s.setVm vm1) m args below meth c T locs cells slots) (hlk : meth.locks = false) {n : Nat} (hS : s.Since vm1 n) {h : Heap} (eT : T.heap = h) (hn : n ≤ h.size) {v : Option Value} (hv : meth.sig.returnType = none → v = none) (hc : cells ≤ kc) (hs : slots ≤ ks) (hQ : Q v T.heap locs) {S : State}
    (hst : ∀ fs, (∀ (f : JFrame) (acts : List Action), f.method = m → f.locked = none → f.entered = [] → (doReturn e (T.setTop f) acts v).1 = T.setFrames fs) → Steps p.tables e below S (T.setFrames fs)) : own_FinW p e below s kc ks Q S := by
  obtain ⟨fs, hr, hrun, hended, hE⟩ := X.leaveW hS (by rw [eT]; exact hn) (v := v) hv hlk
  exact ⟨_, _, hst fs hr, hrun, hended, _, _, rfl, hQ, hE.1, hE.2.1, hE.2.2.1, hE.2.2.2.mono hc hs⟩
theorem own_castW {g g' : JFrame} (q : g = g') (k : own_FinW p e below s kc ks Q (T.setTop g')) : own_FinW p e below s kc ks Q (T.setTop g) := q ▸ k
theorem own_m0 : Jvm.Free.Fl.Mag64 1 FP.dconst0 := by unfold Jvm.Free.Fl.Mag64; decide
theorem own_mz : Jvm.Free.Fl.Mag64 1 (0 : UInt64) := by unfold Jvm.Free.Fl.Mag64; decide
theorem own_m1 : Jvm.Free.Fl.Mag64 1024 FP.dconst1 := by unfold Jvm.Free.Fl.Mag64; decide
/-- roads that meet again: what lies behind the meeting is walked once -/
theorem own_join {G : Prop} {F : State → Prop} (X : Stand p l e R s m args below meth c T locs cells slots) {h : Heap} (eT : T.heap = h) {β : Type} (g : β → JFrame) (hyp : β → Prop)
    (body : ∀ Tj : State, Stand p l e R s m args below meth c Tj locs cells slots → Tj.heap = h → ∀ b, hyp b → F (Tj.setTop (g b)))
    (cont : (∀ Tj : State, Stand p l e R s m args below meth c Tj locs cells slots → Tj.heap = h → ∀ b, hyp b → F (Tj.setTop (g b))) → G) : G := cont body
theorem own_ltn {n k j : Int32} (h : ¬ n < k) (q : j < k) : j < n := by
  rw [Int32.lt_iff_toInt_lt] at *
  omega
theorem own_cast {g g' : JFrame} (q : g = g') (k : own_Fin p e below s kc ks Q (T.setTop g')) : own_Fin p e below s kc ks Q (T.setTop g) := q ▸ k
theorem own_getJ {cl : Cell} {vs : List Int64} {j : Int32} (H : Has cl (vs.map Value.long) (.long 0)) (q : ¬ (j < 0 ∨ cl.slots.size ≤ j.toNatClampNeg)) : cl.slots[j.toNatClampNeg]? = some (.long (vs.getD j.toNatClampNeg 0)) := by
  refine Has.at H q ?_
  simp only [List.getD_eq_getElem?_getD, List.getElem?_map]
  cases vs[j.toNatClampNeg]? <;> rfl
def own_Nst (h : Heap) (x : Addr) : Prop := ∃ c : Cell, h[x]? = some c ∧ c.vm.isStatics = false
theorem own_nst_exa {Z : State} {h : Heap} {a : Addr} {C : String} (F : Exa Z h a C) : own_Nst h a := by
  obtain ⟨c, _, h1, _, _, h4, _⟩ := F
  exact ⟨c, h1, h4⟩
theorem own_nst_arv {Z : State} {h : Heap} {a : Addr} {k : ClassId} {ty : FieldType} {n : Int32} {vs : List Value} {d : Value} (F : Arv Z h a k ty n vs d) : own_Nst h a := by
  obtain ⟨c, A, _⟩ := F
  exact ⟨c, A.1, A.plain⟩
theorem own_sta_keep {Z : State} {h h' : Heap} {C n d : String} {v : Value} {ws : List Addr} (F : Sta Z h C n d v) (K : Keep h h' ws) (q : ∀ x ∈ ws, own_Nst h x) : Sta Z h' C n d v := by
  obtain ⟨cf, i, k, f, st, cell, h1, h2, h3, h4, h5, h6, h7⟩ := F
  refine ⟨cf, i, k, f, st, cell, h1, h2, h3, h4, K.2.1 _ _ h5 (fun z => ?_), h6, h7⟩
  obtain ⟨c, e1, e2⟩ := q _ z
  cases h5.symm.trans e1
  rw [h6] at e2
  cases e2
theorem own_sta_keep0 {Z : State} {h h' : Heap} {C n d : String} {v : Value} (F : Sta Z h C n d v) (K : Keep h h' []) : Sta Z h' C n d v := own_sta_keep F K (fun _ z => nomatch z)
end Own
section OwnStart
variable {args : Array Value} {Z : State} {t : Term} {a : Addr} {O n d : String}
theorem own_fldV {v : Value} (ev : t.eval args Z none [] Z = some (.ref a)) (h : (Term.field t O n d).eval args Z none [] Z = some v) : Fld Z Z.heap a O n d v := Fld.start ((fld_at ev).symm.trans h)
theorem own_len {cl : Cell} {ty : FieldType} {k : Int32} (ev : t.eval args Z none [] Z = some (.ref a)) (A : Arr Z Z.heap a cl ty) (h : (Cond.eq (.length t) (.int k)).value args Z none Z [] = some true) : cl.slots.size < 2 ^ 31 ∧ cl.slots.size.toInt32 = k := by
  have e := eqv_i (y := k) rfl h
  have ha := A.fin (Vm.Alike.refl _)
  by_cases q : cl.slots.size < 2 ^ 31
  · exact ⟨q, Value.int.inj (Option.some.inj ((len_f ev ha q).symm.trans e))⟩
  · simp [Term.eval, ev, ha, q] at e
theorem own_elI {cl : Cell} {ty : FieldType} {i k : Int32} (ev : t.eval args Z none [] Z = some (.ref a)) (A : Arr Z Z.heap a cl ty) (hi : ¬ i < 0) (h : (Cond.eq (.elem t (.int i)) (.int k)).value args Z none Z [] = some true) : cl.slots[i.toNatClampNeg]? = some (.int k) :=
  (elem_f ev rfl (A.fin (Vm.Alike.refl _)) hi).symm.trans (eqv_i (y := k) rfl h)
theorem own_elJ {cl : Cell} {ty : FieldType} {i : Int32} {k : Int64} (ev : t.eval args Z none [] Z = some (.ref a)) (A : Arr Z Z.heap a cl ty) (hi : ¬ i < 0) (h : (Cond.eq (.elem t (.int i)) (.long k)).value args Z none Z [] = some true) : cl.slots[i.toNatClampNeg]? = some (.long k) :=
  (elem_f ev rfl (A.fin (Vm.Alike.refl _)) hi).symm.trans (eqv_l (y := k) rfl h)
end OwnStart
end Jvm.RoadKit
namespace Jvm.Pilot.@@N@@
open Jvm Jvm.ClassFile Sem Op Lib Jvm.Free Jvm.Stand Jvm.LawKit Jvm.RoadKit Bundle Jvm.Pilot.@@N@@.Jvm.D
theorem own_w {ts : List Jvm.Cond} {Z : State} {a0 : Array Value} (hw : ∀ d ∈ ts, d.before a0 Z = true) (i : Nat) {d : Jvm.Cond} (h : ts[i]? = some d) : d.before a0 Z = true := hw d (List.mem_of_getElem? h)
theorem own_ix (x : Int32) (h1 : ¬ (x < (-128 : Int32))) (h2 : ¬ ((127 : Int32) < x)) : ¬ ((x + (128 : Int32)) < 0) ∧ (x + (128 : Int32)) < (256 : Int32) := by
  have h3 := c_iadd x 128
  have h4 := rng32 (x + 128)
  simp only [Int32.lt_iff_toInt_lt, show (-128 : Int32).toInt = -128 from by decide, show (127 : Int32).toInt = 127 from by decide, show (0 : Int32).toInt = 0 from by decide, show (256 : Int32).toInt = 256 from by decide, show (128 : Int32).toInt = 128 from by decide] at *
  omega
theorem own_found {a : Array Value} {s : State} {cls sup : String} (h : (Jvm.Cond.superclass cls sup).before a s = true) : ∃ c, s.vm.findClass cls = some c := by
  cases hc : s.vm.findClass cls with
  | some c => exact ⟨c, rfl⟩
  | none => simp [Cond.before, Cond.holds, Cond.value, hc] at h
theorem own_cne {s : State} {A B : String} {a b : ClassId} (h1 : s.vm.findClass A = some a) (h2 : s.vm.findClass B = some b) (q : A ≠ B) : a ≠ b := fun e => by
  subst e
  obtain ⟨k1, a1, a2⟩ := Vm.findClass_spec h1
  obtain ⟨k2, b1, b2⟩ := Vm.findClass_spec h2
  cases a1.symm.trans b1
  exact q (a2.symm.trans b2)
theorem own_not {Z : State} {a0 : Array Value} (hw : ∀ d ∈ tables_1, d.before a0 Z = true) {h : Heap} {a : Addr} (E : Exa Z h a "java/lang/Integer") : Ins Z h a "com/example/tandem/tandem/analysis/Cuts$Range" false := by
  have w1 := hw _ (List.mem_of_getElem? (i := 32) rfl)
  have w2 := hw _ (List.mem_of_getElem? (i := 33) rfl)
  have w3 := hw _ (List.mem_of_getElem? (i := 34) rfl)
  have w4 := hw _ (List.mem_of_getElem? (i := 1) rfl)
  obtain ⟨cell, k, h1, h2, h3, h4, -⟩ := E
  obtain ⟨cN, kI, kN, f1, f2, f3, f4, f5, -, -⟩ := Cond.superclass_spec h2 w1
  obtain ⟨cO, kN', kO, g1, g2, g3, g4, -, -, -⟩ := Cond.superclass_spec f1 w2
  obtain ⟨cO', kO', e1, e2, e3, -, -⟩ := Cond.noSuperclass_spec w3
  obtain ⟨cR, kR, r1, r2, r3, r4, -, -⟩ := Cond.instantiable_spec w4
  cases f3.symm.trans g2
  cases g1.symm.trans e1
  cases g3.symm.trans e2
  have n1 : cell.cls ≠ cR := own_cne h2 r1 (by decide)
  have n2 : cN ≠ cR := own_cne f1 r1 (by decide)
  have n3 : cO ≠ cR := own_cne g1 r1 (by decide)
  have ri : kR.isInterface = false := by
    cases q : kR.isInterface
    · rfl
    · rw [q] at r4; cases r4
  have sub : ∀ fuel, Z.vm.isSubclassAux fuel cell.cls cR = false := fun fuel => by
    match fuel with
    | 0 => rfl
    | 1 => simp [Vm.isSubclassAux, n1, f2, f4]
    | 2 => simp [Vm.isSubclassAux, n1, n2, f2, f4, g2, g4]
    | f + 3 => simp [Vm.isSubclassAux, n1, n2, n3, f2, f4, g2, g4, g3, e3]
  refine ⟨cell, cR, h1, r1, ?_⟩
  have : Z.vm.assignable cell.cls cR = false := by
    show Z.vm.assignableAux (255 + 1) cell.cls cR = false
    simp [Vm.assignableAux, n1, f2, r2, f5, r3, ri, Vm.isSubclass, sub]
  simp [this]
theorem own_d1_0 : decode jdk_30_method_1_code 0 = .ok (.aload_n 0, 1) := by decide +kernel
theorem own_d1_1 : decode jdk_30_method_1_code 1 = .ok (.invokespecial 1, 3) := by decide +kernel
theorem own_d1_4 : decode jdk_30_method_1_code 4 = .ok (.return_, 1) := by decide +kernel
theorem own_pn0 : plainName "java/lang/Record" = true := by first | (simp [plainName, overriddenIn]; done) | decide +kernel
theorem own_ef1 (m : MethodId) (ad0 : Addr) : entryFrame m #[(.ref ad0)] 1 = mkF m 0 #[.val (.ref ad0)] [] := by first | (simp [entryFrame, mkF, argsToLocals, Value.category]; done) | rfl
def own_Q1 (Z : State) (ad0 : Addr) (h0 : Heap) (n0 : Nat) (v : Option Value) (h : Heap) (L : List Loc) : Prop := v = none ∧ Fr n0 L ∧ h = h0
set_option maxRecDepth 65536 in
set_option maxHeartbeats 40000000 in
theorem own_rm1 (l : Launch) (Z : State) (a0 : Array Value) (hw : ∀ d ∈ tables_1, d.before a0 Z = true) (hs : ∀ d ∈ jdkStatics_1, d.before a0 Z = true) (ws : List Jvm.Cond) (ad0 : Addr) (h0 : Heap) (n0 : Nat) (Z0 : n0 ≤ h0.size) :
    MetFree l (⟨"java/lang/Record", "<init>", "()V"⟩ : MethodName) (head1 (Jvm.Cond.code (⟨"java/lang/Record", "<init>", "()V"⟩ : MethodName) jdk_30_method_1_code 1 none :: ws) ({ frames := 1, cells := 0, slots := 0, locals := 12 } : Room)) (fun a U => a = #[(.ref ad0)] ∧ Z.Warmed39 U.vm ∧ U.heap = h0) (fun _ _ _ _ _ => True) (fun _ U o U' => ∃ v L, o = .returned v ∧ own_Q1 Z ad0 h0 n0 v U'.heap L ∧ FrameEnd U o U' L ({ frames := 1, cells := 0, slots := 0, locals := 12 } : Room).cells ({ frames := 1, cells := 0, slots := 0, locals := 12 } : Room).slots) := by
  refine MetFree.of_bodySF (plainFor_of_name own_pn0) hisR ?_
  intro p e s m args below meth c s₁ Bd hml0 hP hK
  obtain ⟨rfl, hZ, hh⟩ := hP
  have hx := Bd.exec
  have hby := Bd.bytes
  have hlk := Bd.notSynchronized
  have hml : c.maxLocals = 1 := hml0
  have hown : s.vm.findClass "java/lang/Record" = some m.cls := findClass_of_methodNamed Bd.named
  have hnm := (name_of_methodNamed Bd.named Bd.method).1
  have X0 : Stand p l e ({ frames := 1, cells := 0, slots := 0, locals := 12 } : Room) s m #[(.ref ad0)] below meth c s₁ [] 0 0 := Stand.of_body Bd
  have e0 : s₁.heap = h0 := by rw [← hh, Bd.state]; rfl
  have N0 := Fr.nil n0
  have KR : Keep h0 h0 [] := Keep.refl _ _
  show own_Fin p e below s ({ frames := 1, cells := 0, slots := 0, locals := 12 } : Room).cells ({ frames := 1, cells := 0, slots := 0, locals := 12 } : Room).slots (own_Q1 Z ad0 h0 n0) (s₁.setTop (entryFrame m #[(.ref ad0)] 1))
  refine own_cast (own_ef1 m ad0) ?_
  refine own_step (fun _ k => XS.aloadN X0.here hx rfl (hb hby own_d1_0) rfl rfl k) ?_
  show own_Fin p e below s _ _ _ (s₁.setTop (mkF m 1 #[.val (.ref ad0)] [(.ref ad0)]))
  obtain ⟨T1, X1, e1, st1⟩ := initO X0 hx hZ hown (own_w hw 11 rfl) (own_w hw 12 rfl) (own_w hw 13 rfl) e0 (g := (mkF m 1 #[.val (.ref ad0)] [(.ref ad0)])) rfl (by rw [hml]; rfl) rfl (hb hby own_d1_1) (by decide) (W := 0) (by show 2 * 0 + _ ≤ _; exact Nat.le_of_eq rfl) (by decide)
  refine own_step st1 ?_
  show own_Fin p e below s _ _ _ (T1.setTop (mkF m 4 #[.val (.ref ad0)] []))
  exact own_ret X1 hlk (v := none) (fun _ => rfl) (by decide) (by decide) (by show own_Q1 Z ad0 h0 n0 _ T1.heap _; rw [e1]; exact ⟨rfl, N0, rfl⟩) (fun fs hr => X1.returnOut hx Bd.returns (hb hby own_d1_4) hr)

theorem own_pd0 : parseMethodDescriptor "()V" = some ⟨[], none⟩ := by decide +kernel
abbrev own_y0 : MethodName := (⟨"java/lang/Record", "<init>", "()V"⟩ : MethodName)
theorem own_d2_0 : decode prog_10_method_1_code 0 = .ok (.aload_n 0, 1) := by decide +kernel
theorem own_d2_1 : decode prog_10_method_1_code 1 = .ok (.invokespecial 1, 3) := by decide +kernel
theorem own_d2_4 : decode prog_10_method_1_code 4 = .ok (.aload_n 0, 1) := by decide +kernel
theorem own_d2_5 : decode prog_10_method_1_code 5 = .ok (.iload_n 1, 1) := by decide +kernel
theorem own_d2_6 : decode prog_10_method_1_code 6 = .ok (.putfield 7, 3) := by decide +kernel
theorem own_d2_9 : decode prog_10_method_1_code 9 = .ok (.aload_n 0, 1) := by decide +kernel
theorem own_d2_10 : decode prog_10_method_1_code 10 = .ok (.iload_n 2, 1) := by decide +kernel
theorem own_d2_11 : decode prog_10_method_1_code 11 = .ok (.putfield 13, 3) := by decide +kernel
theorem own_d2_14 : decode prog_10_method_1_code 14 = .ok (.return_, 1) := by decide +kernel
theorem own_pn1 : plainName "com/example/tandem/tandem/analysis/Cuts$Range" = true := by first | (simp [plainName, overriddenIn]; done) | decide +kernel
theorem own_ef2 (m : MethodId) (ad0 : Addr) (p1 : Int32) (p2 : Int32) : entryFrame m #[(.ref ad0), (.int p1), (.int p2)] 3 = mkF m 0 #[.val (.ref ad0), .val (.int p1), .val (.int p2)] [] := by first | (simp [entryFrame, mkF, argsToLocals, Value.category]; done) | rfl
def own_Q2 (Z : State) (ad0 : Addr) (p1 : Int32) (p2 : Int32) (ufrom_ad0 : Value) (uto_ad0 : Value) (h0 : Heap) (n0 : Nat) (v : Option Value) (h : Heap) (L : List Loc) : Prop := Fr n0 L ∧ Keep h0 h [ad0] ∧ v = none ∧ Exa Z h ad0 "com/example/tandem/tandem/analysis/Cuts$Range" ∧ Fld Z h ad0 "com/example/tandem/tandem/analysis/Cuts$Range" "from" "I" (.int p1) ∧ Fld Z h ad0 "com/example/tandem/tandem/analysis/Cuts$Range" "to" "I" (.int p2)
set_option maxRecDepth 65536 in
set_option maxHeartbeats 40000000 in
theorem own_rm2 (l : Launch) (Z : State) (a0 : Array Value) (hw : ∀ d ∈ tables_1, d.before a0 Z = true) (hs : ∀ d ∈ jdkStatics_1, d.before a0 Z = true) (ws : List Jvm.Cond) (ad0 : Addr) (p1 : Int32) (p2 : Int32) (ufrom_ad0 : Value) (uto_ad0 : Value) (h0 : Heap) (n0 : Nat) (Z0 : n0 ≤ h0.size) (E_ad0 : Exa Z h0 ad0 "com/example/tandem/tandem/analysis/Cuts$Range") (F_from_ad0 : Fld Z h0 ad0 "com/example/tandem/tandem/analysis/Cuts$Range" "from" "I" ufrom_ad0) (F_to_ad0 : Fld Z h0 ad0 "com/example/tandem/tandem/analysis/Cuts$Range" "to" "I" uto_ad0) (g_ad0 : n0 ≤ ad0) :
    MetFree l (⟨"com/example/tandem/tandem/analysis/Cuts$Range", "<init>", "(II)V"⟩ : MethodName) (head1 (Jvm.Cond.code (⟨"com/example/tandem/tandem/analysis/Cuts$Range", "<init>", "(II)V"⟩ : MethodName) prog_10_method_1_code 3 none :: ws) ({ frames := 2, cells := 0, slots := 0, locals := 24 } : Room)) (fun a U => a = #[(.ref ad0), (.int p1), (.int p2)] ∧ Z.Warmed39 U.vm ∧ U.heap = h0) (fun _ _ _ _ _ => True) (fun _ U o U' => ∃ v L, o = .returned v ∧ own_Q2 Z ad0 p1 p2 ufrom_ad0 uto_ad0 h0 n0 v U'.heap L ∧ FrameEnd U o U' L ({ frames := 2, cells := 0, slots := 0, locals := 24 } : Room).cells ({ frames := 2, cells := 0, slots := 0, locals := 24 } : Room).slots) := by
  refine MetFree.of_bodySF (plainFor_of_name own_pn1) hisR ?_
  intro p e s m args below meth c s₁ Bd hml0 hP hK
  obtain ⟨rfl, hZ, hh⟩ := hP
  have hx := Bd.exec
  have hby := Bd.bytes
  have hlk := Bd.notSynchronized
  have hml : c.maxLocals = 3 := hml0
  have hown : s.vm.findClass "com/example/tandem/tandem/analysis/Cuts$Range" = some m.cls := findClass_of_methodNamed Bd.named
  have hnm := (name_of_methodNamed Bd.named Bd.method).1
  have X0 : Stand p l e ({ frames := 2, cells := 0, slots := 0, locals := 24 } : Room) s m #[(.ref ad0), (.int p1), (.int p2)] below meth c s₁ [] 0 0 := Stand.of_body Bd
  have e0 : s₁.heap = h0 := by rw [← hh, Bd.state]; rfl
  have N0 := Fr.nil n0
  have KR : Keep h0 h0 [ad0] := Keep.refl _ _
  show own_Fin p e below s ({ frames := 2, cells := 0, slots := 0, locals := 24 } : Room).cells ({ frames := 2, cells := 0, slots := 0, locals := 24 } : Room).slots (own_Q2 Z ad0 p1 p2 ufrom_ad0 uto_ad0 h0 n0) (s₁.setTop (entryFrame m #[(.ref ad0), (.int p1), (.int p2)] 3))
  refine own_cast (own_ef2 m ad0 p1 p2) ?_
  refine own_step (fun _ k => XS.aloadN X0.here hx rfl (hb hby own_d2_0) rfl rfl k) ?_
  show own_Fin p e below s _ _ _ (s₁.setTop (mkF m 1 #[.val (.ref ad0), .val (.int p1), .val (.int p2)] [(.ref ad0)]))
  obtain ⟨_, _, ⟨T1, L1, k1, n1⟩, -, X1, ⟨Lc1, hQ1, l1, y1, z1⟩, st1⟩ := X0.specialBack hx (y := own_y0) rfl hown (mvT hZ (own_w hw 6 rfl)) (mvT hZ (own_w hw 7 rfl)) (mvT hZ (own_w hw 10 rfl)) (by decide) (backOf (W := 0) (own_rm1 l Z a0 hw hs [] ad0 h0 n0 Z0 ) hZ (own_w hw 10 rfl) (own_w hw 9 rfl) (by decide) (by decide)) (g := (mkF m 1 #[.val (.ref ad0), .val (.int p1), .val (.int p2)] [(.ref ad0)])) rfl (by rw [hml]; rfl) (Steps.refl _) (a := ad0) (argsL := []) (rest := []) (lenOf own_pd0 rfl) rfl (by show 2 * 0 + _ ≤ _; exact Nat.le_of_eq rfl) (hb hby own_d2_1) (fun _ _ => ⟨rfl, e0, (by decide : 0 + 0 ≤ _), (by decide : 0 + 0 ≤ _)⟩)
  dsimp only [Pt.U, Pt.locs, Pt.cells, Pt.slots] at X1 l1 y1 z1 st1 hQ1
  subst l1 y1 z1
  obtain ⟨rfl, N1q, e1⟩ := hQ1
  have N1 := Fr.app N0 N1q
  refine own_step (fun _ k => st1.trans k) ?_
  show own_Fin p e below s _ _ _ (T1.setTop (mkF m 4 #[.val (.ref ad0), .val (.int p1), .val (.int p2)] []))
  refine own_step (fun _ k => XS.aloadN X1.here hx rfl (hb hby own_d2_4) rfl rfl k) ?_
  show own_Fin p e below s _ _ _ (T1.setTop (mkF m 5 #[.val (.ref ad0), .val (.int p1), .val (.int p2)] [(.ref ad0)]))
  refine own_step (fun _ k => XS.iloadN X1.here hx rfl (hb hby own_d2_5) rfl k) ?_
  show own_Fin p e below s _ _ _ (T1.setTop (mkF m 6 #[.val (.ref ad0), .val (.int p1), .val (.int p2)] [(.int p1), (.ref ad0)]))
  obtain ⟨T2, h2, X2, e2, W2, st2⟩ := putF X1 hx hZ hown (host := "") (Or.inl (own_w hw 14 rfl)) Via.refl e1 F_from_ad0 E_ad0 (Or.inr ⟨(own_w hw 15 rfl), rfl, hnm⟩) (own_w hw 1 rfl) (ty := .int) (by decide) rfl rfl (g := (mkF m 6 #[.val (.ref ad0), .val (.int p1), .val (.int p2)] [(.int p1), (.ref ad0)])) rfl rfl (hb hby own_d2_6)
  have N2 := Fr.snoc X2 N1 g_ad0
  have K2 : Keep h0 h2 [ad0] := KR.wr W2 (Or.inl (List.mem_of_getElem? (i := 0) rfl))
  have Z2 : n0 ≤ h2.size := Nat.le_trans Z0 (Keep.of_wr W2).1
  have G3 := (E_ad0.wr W2)
  have G4 := (F_to_ad0.other W2 (Or.inr (slot_ne (Or.inr (own_w hw 17 rfl)) (Or.inr (own_w hw 15 rfl)) (by decide) (t := .int) (t' := .int) (by decide) (by decide))))
  have G5 := F_from_ad0.same W2
  refine own_step st2 ?_
  show own_Fin p e below s _ _ _ (T2.setTop (mkF m 9 #[.val (.ref ad0), .val (.int p1), .val (.int p2)] []))
  refine own_step (fun _ k => XS.aloadN X2.here hx rfl (hb hby own_d2_9) rfl rfl k) ?_
  show own_Fin p e below s _ _ _ (T2.setTop (mkF m 10 #[.val (.ref ad0), .val (.int p1), .val (.int p2)] [(.ref ad0)]))
  refine own_step (fun _ k => XS.iloadN X2.here hx rfl (hb hby own_d2_10) rfl k) ?_
  show own_Fin p e below s _ _ _ (T2.setTop (mkF m 11 #[.val (.ref ad0), .val (.int p1), .val (.int p2)] [(.int p2), (.ref ad0)]))
  obtain ⟨T6, h6, X6, e6, W6, st6⟩ := putF X2 hx hZ hown (host := "") (Or.inl (own_w hw 16 rfl)) Via.refl e2 G4 G3 (Or.inr ⟨(own_w hw 17 rfl), rfl, hnm⟩) (own_w hw 1 rfl) (ty := .int) (by decide) rfl rfl (g := (mkF m 11 #[.val (.ref ad0), .val (.int p1), .val (.int p2)] [(.int p2), (.ref ad0)])) rfl rfl (hb hby own_d2_11)
  have N6 := Fr.snoc X6 N2 g_ad0
  have K6 : Keep h0 h6 [ad0] := K2.wr W6 (Or.inl (List.mem_of_getElem? (i := 0) rfl))
  have Z6 : n0 ≤ h6.size := Nat.le_trans Z2 (Keep.of_wr W6).1
  have G7 := (G3.wr W6)
  have G8 := (G5.other W6 (Or.inr (slot_ne (Or.inr (own_w hw 15 rfl)) (Or.inr (own_w hw 17 rfl)) (by decide) (t := .int) (t' := .int) (by decide) (by decide))))
  have G9 := G4.same W6
  refine own_step st6 ?_
  show own_Fin p e below s _ _ _ (T6.setTop (mkF m 14 #[.val (.ref ad0), .val (.int p1), .val (.int p2)] []))
  exact own_ret X6 hlk (v := none) (fun _ => rfl) (by decide) (by decide) (by show own_Q2 Z ad0 p1 p2 ufrom_ad0 uto_ad0 h0 n0 _ T6.heap _; rw [e6]; exact ⟨N6, K6, rfl, G7, G8, G9⟩) (fun fs hr => X6.returnOut hx Bd.returns (hb hby own_d2_14) hr)

theorem own_d3_0 : decode jdk_18_method_1_code 0 = .ok (.aload_n 0, 1) := by decide +kernel
theorem own_d3_1 : decode jdk_18_method_1_code 1 = .ok (.invokespecial 1, 3) := by decide +kernel
theorem own_d3_4 : decode jdk_18_method_1_code 4 = .ok (.return_, 1) := by decide +kernel
theorem own_pn2 : plainName "java/lang/Number" = true := by first | (simp [plainName, overriddenIn]; done) | decide +kernel
theorem own_ef3 (m : MethodId) (ad0 : Addr) : entryFrame m #[(.ref ad0)] 1 = mkF m 0 #[.val (.ref ad0)] [] := by first | (simp [entryFrame, mkF, argsToLocals, Value.category]; done) | rfl
def own_Q3 (Z : State) (ad0 : Addr) (h0 : Heap) (n0 : Nat) (v : Option Value) (h : Heap) (L : List Loc) : Prop := v = none ∧ Fr n0 L ∧ h = h0
set_option maxRecDepth 65536 in
set_option maxHeartbeats 40000000 in
theorem own_rm3 (l : Launch) (Z : State) (a0 : Array Value) (hw : ∀ d ∈ tables_1, d.before a0 Z = true) (hs : ∀ d ∈ jdkStatics_1, d.before a0 Z = true) (ws : List Jvm.Cond) (ad0 : Addr) (h0 : Heap) (n0 : Nat) (Z0 : n0 ≤ h0.size) :
    MetFree l (⟨"java/lang/Number", "<init>", "()V"⟩ : MethodName) (head1 (Jvm.Cond.code (⟨"java/lang/Number", "<init>", "()V"⟩ : MethodName) jdk_18_method_1_code 1 none :: ws) ({ frames := 1, cells := 0, slots := 0, locals := 12 } : Room)) (fun a U => a = #[(.ref ad0)] ∧ Z.Warmed39 U.vm ∧ U.heap = h0) (fun _ _ _ _ _ => True) (fun _ U o U' => ∃ v L, o = .returned v ∧ own_Q3 Z ad0 h0 n0 v U'.heap L ∧ FrameEnd U o U' L ({ frames := 1, cells := 0, slots := 0, locals := 12 } : Room).cells ({ frames := 1, cells := 0, slots := 0, locals := 12 } : Room).slots) := by
  refine MetFree.of_bodySF (plainFor_of_name own_pn2) hisR ?_
  intro p e s m args below meth c s₁ Bd hml0 hP hK
  obtain ⟨rfl, hZ, hh⟩ := hP
  have hx := Bd.exec
  have hby := Bd.bytes
  have hlk := Bd.notSynchronized
  have hml : c.maxLocals = 1 := hml0
  have hown : s.vm.findClass "java/lang/Number" = some m.cls := findClass_of_methodNamed Bd.named
  have hnm := (name_of_methodNamed Bd.named Bd.method).1
  have X0 : Stand p l e ({ frames := 1, cells := 0, slots := 0, locals := 12 } : Room) s m #[(.ref ad0)] below meth c s₁ [] 0 0 := Stand.of_body Bd
  have e0 : s₁.heap = h0 := by rw [← hh, Bd.state]; rfl
  have N0 := Fr.nil n0
  have KR : Keep h0 h0 [] := Keep.refl _ _
  show own_Fin p e below s ({ frames := 1, cells := 0, slots := 0, locals := 12 } : Room).cells ({ frames := 1, cells := 0, slots := 0, locals := 12 } : Room).slots (own_Q3 Z ad0 h0 n0) (s₁.setTop (entryFrame m #[(.ref ad0)] 1))
  refine own_cast (own_ef3 m ad0) ?_
  refine own_step (fun _ k => XS.aloadN X0.here hx rfl (hb hby own_d3_0) rfl rfl k) ?_
  show own_Fin p e below s _ _ _ (s₁.setTop (mkF m 1 #[.val (.ref ad0)] [(.ref ad0)]))
  obtain ⟨T1, X1, e1, st1⟩ := initO X0 hx hZ hown (own_w hw 47 rfl) (own_w hw 12 rfl) (own_w hw 13 rfl) e0 (g := (mkF m 1 #[.val (.ref ad0)] [(.ref ad0)])) rfl (by rw [hml]; rfl) rfl (hb hby own_d3_1) (by decide) (W := 0) (by show 2 * 0 + _ ≤ _; exact Nat.le_of_eq rfl) (by decide)
  refine own_step st1 ?_
  show own_Fin p e below s _ _ _ (T1.setTop (mkF m 4 #[.val (.ref ad0)] []))
  exact own_ret X1 hlk (v := none) (fun _ => rfl) (by decide) (by decide) (by show own_Q3 Z ad0 h0 n0 _ T1.heap _; rw [e1]; exact ⟨rfl, N0, rfl⟩) (fun fs hr => X1.returnOut hx Bd.returns (hb hby own_d3_4) hr)

abbrev own_y1 : MethodName := (⟨"java/lang/Number", "<init>", "()V"⟩ : MethodName)
theorem own_d4_0 : decode jdk_33_method_23_code 0 = .ok (.aload_n 0, 1) := by decide +kernel
theorem own_d4_1 : decode jdk_33_method_23_code 1 = .ok (.invokespecial 202, 3) := by decide +kernel
theorem own_d4_4 : decode jdk_33_method_23_code 4 = .ok (.aload_n 0, 1) := by decide +kernel
theorem own_d4_5 : decode jdk_33_method_23_code 5 = .ok (.iload_n 1, 1) := by decide +kernel
theorem own_d4_6 : decode jdk_33_method_23_code 6 = .ok (.putfield 205, 3) := by decide +kernel
theorem own_d4_9 : decode jdk_33_method_23_code 9 = .ok (.return_, 1) := by decide +kernel
theorem own_pn3 : plainName "java/lang/Integer" = true := by first | (simp [plainName, overriddenIn]; done) | decide +kernel
theorem own_ef4 (m : MethodId) (ad0 : Addr) (p1 : Int32) : entryFrame m #[(.ref ad0), (.int p1)] 2 = mkF m 0 #[.val (.ref ad0), .val (.int p1)] [] := by first | (simp [entryFrame, mkF, argsToLocals, Value.category]; done) | rfl
def own_Q4 (Z : State) (ad0 : Addr) (p1 : Int32) (uvalue_ad0 : Value) (h0 : Heap) (n0 : Nat) (v : Option Value) (h : Heap) (L : List Loc) : Prop := Fr n0 L ∧ Keep h0 h [ad0] ∧ v = none ∧ Exa Z h ad0 "java/lang/Integer" ∧ Fld Z h ad0 "java/lang/Integer" "value" "I" (.int p1)
set_option maxRecDepth 65536 in
set_option maxHeartbeats 40000000 in
theorem own_rm4 (l : Launch) (Z : State) (a0 : Array Value) (hw : ∀ d ∈ tables_1, d.before a0 Z = true) (hs : ∀ d ∈ jdkStatics_1, d.before a0 Z = true) (ws : List Jvm.Cond) (ad0 : Addr) (p1 : Int32) (uvalue_ad0 : Value) (h0 : Heap) (n0 : Nat) (Z0 : n0 ≤ h0.size) (E_ad0 : Exa Z h0 ad0 "java/lang/Integer") (F_value_ad0 : Fld Z h0 ad0 "java/lang/Integer" "value" "I" uvalue_ad0) (g_ad0 : n0 ≤ ad0) :
    MetFree l (⟨"java/lang/Integer", "<init>", "(I)V"⟩ : MethodName) (head1 (Jvm.Cond.code (⟨"java/lang/Integer", "<init>", "(I)V"⟩ : MethodName) jdk_33_method_23_code 2 none :: ws) ({ frames := 2, cells := 0, slots := 0, locals := 24 } : Room)) (fun a U => a = #[(.ref ad0), (.int p1)] ∧ Z.Warmed39 U.vm ∧ U.heap = h0) (fun _ _ _ _ _ => True) (fun _ U o U' => ∃ v L, o = .returned v ∧ own_Q4 Z ad0 p1 uvalue_ad0 h0 n0 v U'.heap L ∧ FrameEnd U o U' L ({ frames := 2, cells := 0, slots := 0, locals := 24 } : Room).cells ({ frames := 2, cells := 0, slots := 0, locals := 24 } : Room).slots) := by
  refine MetFree.of_bodySF (plainFor_of_name own_pn3) hisR ?_
  intro p e s m args below meth c s₁ Bd hml0 hP hK
  obtain ⟨rfl, hZ, hh⟩ := hP
  have hx := Bd.exec
  have hby := Bd.bytes
  have hlk := Bd.notSynchronized
  have hml : c.maxLocals = 2 := hml0
  have hown : s.vm.findClass "java/lang/Integer" = some m.cls := findClass_of_methodNamed Bd.named
  have hnm := (name_of_methodNamed Bd.named Bd.method).1
  have X0 : Stand p l e ({ frames := 2, cells := 0, slots := 0, locals := 24 } : Room) s m #[(.ref ad0), (.int p1)] below meth c s₁ [] 0 0 := Stand.of_body Bd
  have e0 : s₁.heap = h0 := by rw [← hh, Bd.state]; rfl
  have N0 := Fr.nil n0
  have KR : Keep h0 h0 [ad0] := Keep.refl _ _
  show own_Fin p e below s ({ frames := 2, cells := 0, slots := 0, locals := 24 } : Room).cells ({ frames := 2, cells := 0, slots := 0, locals := 24 } : Room).slots (own_Q4 Z ad0 p1 uvalue_ad0 h0 n0) (s₁.setTop (entryFrame m #[(.ref ad0), (.int p1)] 2))
  refine own_cast (own_ef4 m ad0 p1) ?_
  refine own_step (fun _ k => XS.aloadN X0.here hx rfl (hb hby own_d4_0) rfl rfl k) ?_
  show own_Fin p e below s _ _ _ (s₁.setTop (mkF m 1 #[.val (.ref ad0), .val (.int p1)] [(.ref ad0)]))
  obtain ⟨_, _, ⟨T1, L1, k1, n1⟩, -, X1, ⟨Lc1, hQ1, l1, y1, z1⟩, st1⟩ := X0.specialBack hx (y := own_y1) rfl hown (mvT hZ (own_w hw 41 rfl)) (mvT hZ (own_w hw 42 rfl)) (mvT hZ (own_w hw 46 rfl)) (by decide) (backOf (W := 0) (own_rm3 l Z a0 hw hs [] ad0 h0 n0 Z0 ) hZ (own_w hw 46 rfl) (own_w hw 45 rfl) (by decide) (by decide)) (g := (mkF m 1 #[.val (.ref ad0), .val (.int p1)] [(.ref ad0)])) rfl (by rw [hml]; rfl) (Steps.refl _) (a := ad0) (argsL := []) (rest := []) (lenOf own_pd0 rfl) rfl (by show 2 * 0 + _ ≤ _; exact Nat.le_of_eq rfl) (hb hby own_d4_1) (fun _ _ => ⟨rfl, e0, (by decide : 0 + 0 ≤ _), (by decide : 0 + 0 ≤ _)⟩)
  dsimp only [Pt.U, Pt.locs, Pt.cells, Pt.slots] at X1 l1 y1 z1 st1 hQ1
  subst l1 y1 z1
  obtain ⟨rfl, N1q, e1⟩ := hQ1
  have N1 := Fr.app N0 N1q
  refine own_step (fun _ k => st1.trans k) ?_
  show own_Fin p e below s _ _ _ (T1.setTop (mkF m 4 #[.val (.ref ad0), .val (.int p1)] []))
  refine own_step (fun _ k => XS.aloadN X1.here hx rfl (hb hby own_d4_4) rfl rfl k) ?_
  show own_Fin p e below s _ _ _ (T1.setTop (mkF m 5 #[.val (.ref ad0), .val (.int p1)] [(.ref ad0)]))
  refine own_step (fun _ k => XS.iloadN X1.here hx rfl (hb hby own_d4_5) rfl k) ?_
  show own_Fin p e below s _ _ _ (T1.setTop (mkF m 6 #[.val (.ref ad0), .val (.int p1)] [(.int p1), (.ref ad0)]))
  obtain ⟨T2, h2, X2, e2, W2, st2⟩ := putF X1 hx hZ hown (host := "") (Or.inl (own_w hw 48 rfl)) Via.refl e1 F_value_ad0 E_ad0 (Or.inr ⟨(own_w hw 49 rfl), rfl, hnm⟩) (own_w hw 36 rfl) (ty := .int) (by decide) rfl rfl (g := (mkF m 6 #[.val (.ref ad0), .val (.int p1)] [(.int p1), (.ref ad0)])) rfl rfl (hb hby own_d4_6)
  have N2 := Fr.snoc X2 N1 g_ad0
  have K2 : Keep h0 h2 [ad0] := KR.wr W2 (Or.inl (List.mem_of_getElem? (i := 0) rfl))
  have Z2 : n0 ≤ h2.size := Nat.le_trans Z0 (Keep.of_wr W2).1
  have G3 := (E_ad0.wr W2)
  have G4 := F_value_ad0.same W2
  refine own_step st2 ?_
  show own_Fin p e below s _ _ _ (T2.setTop (mkF m 9 #[.val (.ref ad0), .val (.int p1)] []))
  exact own_ret X2 hlk (v := none) (fun _ => rfl) (by decide) (by decide) (by show own_Q4 Z ad0 p1 uvalue_ad0 h0 n0 _ T2.heap _; rw [e2]; exact ⟨N2, K2, rfl, G3, G4⟩) (fun fs hr => X2.returnOut hx Bd.returns (hb hby own_d4_9) hr)

theorem own_pd1 : parseMethodDescriptor "(I)V" = some ⟨[.int], none⟩ := by decide +kernel
abbrev own_y2 : MethodName := (⟨"java/lang/Integer", "<init>", "(I)V"⟩ : MethodName)
theorem own_d5_0 : decode jdk_33_method_22_code 0 = .ok (.iload_n 0, 1) := by decide +kernel
theorem own_d5_1 : decode jdk_33_method_22_code 1 = .ok (.bipush (-128), 2) := by decide +kernel
theorem own_d5_3 : decode jdk_33_method_22_code 3 = .ok (.if_icmp .lt 20, 3) := by decide +kernel
theorem own_d5_6 : decode jdk_33_method_22_code 6 = .ok (.iload_n 0, 1) := by decide +kernel
theorem own_d5_7 : decode jdk_33_method_22_code 7 = .ok (.getstatic 191, 3) := by decide +kernel
theorem own_d5_10 : decode jdk_33_method_22_code 10 = .ok (.if_icmp .gt 13, 3) := by decide +kernel
theorem own_d5_13 : decode jdk_33_method_22_code 13 = .ok (.getstatic 195, 3) := by decide +kernel
theorem own_d5_16 : decode jdk_33_method_22_code 16 = .ok (.iload_n 0, 1) := by decide +kernel
theorem own_d5_17 : decode jdk_33_method_22_code 17 = .ok (.sipush 128, 3) := by decide +kernel
theorem own_d5_20 : decode jdk_33_method_22_code 20 = .ok (.iadd, 1) := by decide +kernel
theorem own_d5_21 : decode jdk_33_method_22_code 21 = .ok (.aaload, 1) := by decide +kernel
theorem own_d5_22 : decode jdk_33_method_22_code 22 = .ok (.areturn, 1) := by decide +kernel
theorem own_d5_23 : decode jdk_33_method_22_code 23 = .ok (.new 1, 3) := by decide +kernel
theorem own_d5_26 : decode jdk_33_method_22_code 26 = .ok (.dup, 1) := by decide +kernel
theorem own_d5_27 : decode jdk_33_method_22_code 27 = .ok (.iload_n 0, 1) := by decide +kernel
theorem own_d5_28 : decode jdk_33_method_22_code 28 = .ok (.invokespecial 199, 3) := by decide +kernel
theorem own_d5_31 : decode jdk_33_method_22_code 31 = .ok (.areturn, 1) := by decide +kernel
theorem own_ef5 (m : MethodId) (p0 : Int32) : entryFrame m #[(.int p0)] 1 = mkF m 0 #[.val (.int p0)] [] := by first | (simp [entryFrame, mkF, argsToLocals, Value.category]; done) | rfl
def own_Q5 (Z : State) (p0 : Int32) (s_cache : Addr) (cl_cache : Cell) (h0 : Heap) (n0 : Nat) (v : Option Value) (h : Heap) (L : List Loc) : Prop := Fr n0 L ∧ Keep h0 h [] ∧ ∃ o0 : Addr, v = some (.ref o0) ∧ Exa Z h o0 "java/lang/Integer"
set_option maxRecDepth 65536 in
set_option maxHeartbeats 40000000 in
theorem own_rm5 (l : Launch) (Z : State) (a0 : Array Value) (hw : ∀ d ∈ tables_1, d.before a0 Z = true) (hs : ∀ d ∈ jdkStatics_1, d.before a0 Z = true) (ws : List Jvm.Cond) (p0 : Int32) (s_cache : Addr) (cl_cache : Cell) (h0 : Heap) (n0 : Nat) (Z0 : n0 ≤ h0.size) (Od : Old Z n0 h0) (S_high : Sta Z h0 "java/lang/Integer$IntegerCache" "high" "I" (.int (127 : Int32))) (S_cache : Sta Z h0 "java/lang/Integer$IntegerCache" "cache" "[Ljava/lang/Integer;" (.ref s_cache)) (Bx : Bxs Z s_cache cl_cache "java/lang/Integer" "I" (256 : Int32) (fun j => .int (j - (128 : Int32)))) :
    MetFree l (⟨"java/lang/Integer", "valueOf", "(I)Ljava/lang/Integer;"⟩ : MethodName) (head1 (Jvm.Cond.code (⟨"java/lang/Integer", "valueOf", "(I)Ljava/lang/Integer;"⟩ : MethodName) jdk_33_method_22_code 1 (some (.object "java/lang/Integer")) :: ws) ({ frames := 3, cells := 1, slots := 1, locals := 38 } : Room)) (fun a U => a = #[(.int p0)] ∧ Z.Warmed39 U.vm ∧ U.heap = h0) (fun _ _ _ _ _ => True) (fun _ U o U' => ∃ v L, o = .returned v ∧ own_Q5 Z p0 s_cache cl_cache h0 n0 v U'.heap L ∧ FrameEnd U o U' L ({ frames := 3, cells := 1, slots := 1, locals := 38 } : Room).cells ({ frames := 3, cells := 1, slots := 1, locals := 38 } : Room).slots) := by
  refine MetFree.of_bodySF (plainFor_of_name own_pn3) hisR ?_
  intro p e s m args below meth c s₁ Bd hml0 hP hK
  obtain ⟨rfl, hZ, hh⟩ := hP
  have hx := Bd.exec
  have hby := Bd.bytes
  have hlk := Bd.notSynchronized
  have hml : c.maxLocals = 1 := hml0
  have hown : s.vm.findClass "java/lang/Integer" = some m.cls := findClass_of_methodNamed Bd.named
  have hnm := (name_of_methodNamed Bd.named Bd.method).1
  have X0 : Stand p l e ({ frames := 3, cells := 1, slots := 1, locals := 38 } : Room) s m #[(.int p0)] below meth c s₁ [] 0 0 := Stand.of_body Bd
  have e0 : s₁.heap = h0 := by rw [← hh, Bd.state]; rfl
  have N0 := Fr.nil n0
  have KR : Keep h0 h0 [] := Keep.refl _ _
  show own_Fin p e below s ({ frames := 3, cells := 1, slots := 1, locals := 38 } : Room).cells ({ frames := 3, cells := 1, slots := 1, locals := 38 } : Room).slots (own_Q5 Z p0 s_cache cl_cache h0 n0) (s₁.setTop (entryFrame m #[(.int p0)] 1))
  refine own_cast (own_ef5 m p0) ?_
  refine own_step (fun _ k => XS.iloadN X0.here hx rfl (hb hby own_d5_0) rfl k) ?_
  show own_Fin p e below s _ _ _ (s₁.setTop (mkF m 1 #[.val (.int p0)] [(.int p0)]))
  refine own_step (fun _ k => XS.bipush X0.here hx rfl (hb hby own_d5_1) k) ?_
  show own_Fin p e below s _ _ _ (s₁.setTop (mkF m 3 #[.val (.int p0)] [(.int (-128 : Int32)), (.int p0)]))
  by_cases hc1 : p0 < (-128 : Int32)
  · refine own_step (fun _ k => XS.icmpYes X0.here hx rfl (pc0 := 3) (pc' := 23) rfl (hb hby own_d5_3) rfl (tlt hc1).1 (by decide) (by decide) k) ?_
    show own_Fin p e below s _ _ _ (s₁.setTop (mkF m 23 #[.val (.int p0)] []))
    obtain ⟨T2, h2, X2, e2, E2, A2, D2, -, st2⟩ := newO X0 hx hZ hown (own_w hw 35 rfl) (own_w hw 36 rfl) (own_w hw 27 rfl) e0 (g := (mkF m 23 #[.val (.int p0)] [])) rfl (hb hby own_d5_23) (by decide) (by decide)
    obtain ⟨b2, g2⟩ : ∃ z, z = h0.size := ⟨_, rfl⟩
    rw [← g2] at A2 D2 st2
    have gg2 : n0 ≤ b2 := Nat.le_trans Z0 (Nat.le_of_eq g2.symm)
    have sz2 : h0.size ≤ b2 := Nat.le_trans KR.1 (Nat.le_of_eq g2.symm)
    have K2 : Keep h0 h2 [] := KR.ext E2
    have Z2 : n0 ≤ h2.size := Nat.le_trans Z0 E2.1
    have G3 := (Od.ext E2)
    have G4 := (S_high.ext E2)
    have G5 := (S_cache.ext E2)
    have G6 : Fld Z h2 b2 "java/lang/Integer" "value" "I" (.int (0 : Int32)) := D2 (Or.inr (own_w hw 49 rfl)) (ty := .int) (by decide)
    refine own_step st2 ?_
    show own_Fin p e below s _ _ _ (T2.setTop (mkF m 26 #[.val (.int p0)] [(.ref b2)]))
    refine own_step (fun _ k => XS.dup X2.here hx rfl (hb hby own_d5_26) rfl rfl k) ?_
    show own_Fin p e below s _ _ _ (T2.setTop (mkF m 27 #[.val (.int p0)] [(.ref b2), (.ref b2)]))
    refine own_step (fun _ k => XS.iloadN X2.here hx rfl (hb hby own_d5_27) rfl k) ?_
    show own_Fin p e below s _ _ _ (T2.setTop (mkF m 28 #[.val (.int p0)] [(.int p0), (.ref b2), (.ref b2)]))
    obtain ⟨_, _, ⟨T7, L7, k7, n7⟩, -, X7, ⟨Lc7, hQ7, l7, y7, z7⟩, st7⟩ := X2.specialBack hx (y := own_y2) rfl hown (mvT hZ (own_w hw 37 rfl)) (mvT hZ (own_w hw 38 rfl)) (mvT hZ (own_w hw 40 rfl)) (by decide) (backOf (W := 1) (own_rm4 l Z a0 hw hs [] b2 p0 ((.int (0 : Int32))) h2 n0 Z2 A2 G6 gg2) hZ (own_w hw 40 rfl) (own_w hw 27 rfl) (by decide) (by decide)) (g := (mkF m 28 #[.val (.int p0)] [(.int p0), (.ref b2), (.ref b2)])) rfl (by rw [hml]; rfl) (Steps.refl _) (a := b2) (argsL := [(.int p0)]) (rest := [(.ref b2)]) (lenOf own_pd1 rfl) rfl (by show 2 * 0 + _ ≤ _; exact Nat.le_of_eq rfl) (hb hby own_d5_28) (fun _ _ => ⟨rfl, e2, (by decide : 1 + 0 ≤ _), (by decide : 1 + 0 ≤ _)⟩)
    dsimp only [Pt.U, Pt.locs, Pt.cells, Pt.slots] at X7 l7 y7 z7 st7 hQ7
    subst l7 y7 z7
    obtain ⟨N7q, K7q, rfl, G8, G9⟩ := hQ7
    have N7 := Fr.app N0 N7q
    have K7 : Keep h0 T7.heap [] := K2.trans K7q (allS (P := fun x => x ∈ [] ∨ h0.size ≤ x) (Or.inr sz2) all0)
    have Z7 : n0 ≤ T7.heap.size := Nat.le_trans Z2 K7q.1
    have G10 := (G3.keep K7q (allS (P := fun x => n0 ≤ x) gg2 all0))
    have G11 := (own_sta_keep G4 K7q (allS (P := own_Nst _) (own_nst_exa A2) all0))
    have G12 := (own_sta_keep G5 K7q (allS (P := own_Nst _) (own_nst_exa A2) all0))
    have G13 := (A2.keep K7q)
    refine own_step (fun _ k => st7.trans k) ?_
    show own_Fin p e below s _ _ _ (T7.setTop (mkF m 31 #[.val (.int p0)] [(.ref b2)]))
    exact own_ret X7 hlk (v := some (.ref b2)) (fun h => by rw [Bd.returns] at h; cases h) (by decide) (by decide) (by show own_Q5 Z p0 s_cache cl_cache h0 n0 _ T7.heap _; exact ⟨N7, K7, b2, rfl, G8⟩) (fun fs hr => retOut X7 hx Bd.returns rfl (Or.inr (Or.inr (Or.inr (Or.inr ⟨rfl, rfl, rfl⟩)))) (hb hby own_d5_31) hr)
  · refine own_step (fun _ k => XS.icmpNo X0.here hx rfl (hb hby own_d5_3) rfl (flt hc1).1 k) ?_
    show own_Fin p e below s _ _ _ (s₁.setTop (mkF m 6 #[.val (.int p0)] []))
    refine own_step (fun _ k => XS.iloadN X0.here hx rfl (hb hby own_d5_6) rfl k) ?_
    show own_Fin p e below s _ _ _ (s₁.setTop (mkF m 7 #[.val (.int p0)] [(.int p0)]))
    obtain ⟨T14, X14, e14, st14⟩ := getS2 X0 hx hZ hown (host := "") (Or.inl (own_w hw 29 rfl)) Via.refl e0 S_high (g := (mkF m 7 #[.val (.int p0)] [(.int p0)])) rfl (hb hby own_d5_7)
    refine own_step st14 ?_
    show own_Fin p e below s _ _ _ (T14.setTop (mkF m 10 #[.val (.int p0)] [(.int (127 : Int32)), (.int p0)]))
    by_cases hc15 : (127 : Int32) < p0
    · refine own_step (fun _ k => XS.icmpYes X14.here hx rfl (pc0 := 10) (pc' := 23) rfl (hb hby own_d5_10) rfl (tlt hc15).2.2.1 (by decide) (by decide) k) ?_
      show own_Fin p e below s _ _ _ (T14.setTop (mkF m 23 #[.val (.int p0)] []))
      obtain ⟨T16, h16, X16, e16, E16, A16, D16, -, st16⟩ := newO X14 hx hZ hown (own_w hw 35 rfl) (own_w hw 36 rfl) (own_w hw 27 rfl) e14 (g := (mkF m 23 #[.val (.int p0)] [])) rfl (hb hby own_d5_23) (by decide) (by decide)
      obtain ⟨b16, g16⟩ : ∃ z, z = h0.size := ⟨_, rfl⟩
      rw [← g16] at A16 D16 st16
      have gg16 : n0 ≤ b16 := Nat.le_trans Z0 (Nat.le_of_eq g16.symm)
      have sz16 : h0.size ≤ b16 := Nat.le_trans KR.1 (Nat.le_of_eq g16.symm)
      have K16 : Keep h0 h16 [] := KR.ext E16
      have Z16 : n0 ≤ h16.size := Nat.le_trans Z0 E16.1
      have G17 := (Od.ext E16)
      have G18 := (S_high.ext E16)
      have G19 := (S_cache.ext E16)
      have G20 : Fld Z h16 b16 "java/lang/Integer" "value" "I" (.int (0 : Int32)) := D16 (Or.inr (own_w hw 49 rfl)) (ty := .int) (by decide)
      refine own_step st16 ?_
      show own_Fin p e below s _ _ _ (T16.setTop (mkF m 26 #[.val (.int p0)] [(.ref b16)]))
      refine own_step (fun _ k => XS.dup X16.here hx rfl (hb hby own_d5_26) rfl rfl k) ?_
      show own_Fin p e below s _ _ _ (T16.setTop (mkF m 27 #[.val (.int p0)] [(.ref b16), (.ref b16)]))
      refine own_step (fun _ k => XS.iloadN X16.here hx rfl (hb hby own_d5_27) rfl k) ?_
      show own_Fin p e below s _ _ _ (T16.setTop (mkF m 28 #[.val (.int p0)] [(.int p0), (.ref b16), (.ref b16)]))
      obtain ⟨_, _, ⟨T21, L21, k21, n21⟩, -, X21, ⟨Lc21, hQ21, l21, y21, z21⟩, st21⟩ := X16.specialBack hx (y := own_y2) rfl hown (mvT hZ (own_w hw 37 rfl)) (mvT hZ (own_w hw 38 rfl)) (mvT hZ (own_w hw 40 rfl)) (by decide) (backOf (W := 1) (own_rm4 l Z a0 hw hs [] b16 p0 ((.int (0 : Int32))) h16 n0 Z16 A16 G20 gg16) hZ (own_w hw 40 rfl) (own_w hw 27 rfl) (by decide) (by decide)) (g := (mkF m 28 #[.val (.int p0)] [(.int p0), (.ref b16), (.ref b16)])) rfl (by rw [hml]; rfl) (Steps.refl _) (a := b16) (argsL := [(.int p0)]) (rest := [(.ref b16)]) (lenOf own_pd1 rfl) rfl (by show 2 * 0 + _ ≤ _; exact Nat.le_of_eq rfl) (hb hby own_d5_28) (fun _ _ => ⟨rfl, e16, (by decide : 1 + 0 ≤ _), (by decide : 1 + 0 ≤ _)⟩)
      dsimp only [Pt.U, Pt.locs, Pt.cells, Pt.slots] at X21 l21 y21 z21 st21 hQ21
      subst l21 y21 z21
      obtain ⟨N21q, K21q, rfl, G22, G23⟩ := hQ21
      have N21 := Fr.app N0 N21q
      have K21 : Keep h0 T21.heap [] := K16.trans K21q (allS (P := fun x => x ∈ [] ∨ h0.size ≤ x) (Or.inr sz16) all0)
      have Z21 : n0 ≤ T21.heap.size := Nat.le_trans Z16 K21q.1
      have G24 := (G17.keep K21q (allS (P := fun x => n0 ≤ x) gg16 all0))
      have G25 := (own_sta_keep G18 K21q (allS (P := own_Nst _) (own_nst_exa A16) all0))
      have G26 := (own_sta_keep G19 K21q (allS (P := own_Nst _) (own_nst_exa A16) all0))
      have G27 := (A16.keep K21q)
      refine own_step (fun _ k => st21.trans k) ?_
      show own_Fin p e below s _ _ _ (T21.setTop (mkF m 31 #[.val (.int p0)] [(.ref b16)]))
      exact own_ret X21 hlk (v := some (.ref b16)) (fun h => by rw [Bd.returns] at h; cases h) (by decide) (by decide) (by show own_Q5 Z p0 s_cache cl_cache h0 n0 _ T21.heap _; exact ⟨N21, K21, b16, rfl, G22⟩) (fun fs hr => retOut X21 hx Bd.returns rfl (Or.inr (Or.inr (Or.inr (Or.inr ⟨rfl, rfl, rfl⟩)))) (hb hby own_d5_31) hr)
    · refine own_step (fun _ k => XS.icmpNo X14.here hx rfl (hb hby own_d5_10) rfl (flt hc15).2.2.1 k) ?_
      show own_Fin p e below s _ _ _ (T14.setTop (mkF m 13 #[.val (.int p0)] []))
      obtain ⟨T28, X28, e28, st28⟩ := getS2 X14 hx hZ hown (host := "") (Or.inl (own_w hw 31 rfl)) Via.refl e14 S_cache (g := (mkF m 13 #[.val (.int p0)] [])) rfl (hb hby own_d5_13)
      refine own_step st28 ?_
      show own_Fin p e below s _ _ _ (T28.setTop (mkF m 16 #[.val (.int p0)] [(.ref s_cache)]))
      refine own_step (fun _ k => XS.iloadN X28.here hx rfl (hb hby own_d5_16) rfl k) ?_
      show own_Fin p e below s _ _ _ (T28.setTop (mkF m 17 #[.val (.int p0)] [(.int p0), (.ref s_cache)]))
      refine own_step (fun _ k => XS.sipush X28.here hx rfl (hb hby own_d5_17) k) ?_
      show own_Fin p e below s _ _ _ (T28.setTop (mkF m 20 #[.val (.int p0)] [(.int (128 : Int32)), (.int p0), (.ref s_cache)]))
      refine own_step (fun _ k => XS.iadd X28.here hx rfl (hb hby own_d5_20) rfl k) ?_
      show own_Fin p e below s _ _ _ (T28.setTop (mkF m 21 #[.val (.int p0)] [(.int (p0 + (128 : Int32))), (.ref s_cache)]))
      obtain ⟨A29, Sz29, Ng29, El29⟩ := Bx
      have Ar29 := A29.ext Od.2
      have hin29 : ¬ ((p0 + (128 : Int32)) < 0 ∨ cl_cache.slots.size ≤ ((p0 + (128 : Int32))).toNatClampNeg) := inb_of Sz29 (own_ix p0 hc1 hc15)
      obtain ⟨o29, hat29, Eb29, -⟩ := El29 _ hin29
      have Ex29 := Eb29.ext Od.2
      refine own_step (fun _ k => X28.aaload hx (j := (p0 + (128 : Int32))) (v := (.ref o29)) (by rw [e28]; exact Ar29.1) (State.isArrayOf_alike hZ.alike Ar29.2.1) rfl Ar29.2.2 hin29 hat29 (g := (mkF m 21 #[.val (.int p0)] [(.int (p0 + (128 : Int32))), (.ref s_cache)])) rfl rfl (hb hby own_d5_21) _ k) ?_
      show own_Fin p e below s _ _ _ (T28.setTop (mkF m 22 #[.val (.int p0)] [(.ref o29)]))
      exact own_ret X28 hlk (v := some (.ref o29)) (fun h => by rw [Bd.returns] at h; cases h) (by decide) (by decide) (by show own_Q5 Z p0 s_cache cl_cache h0 n0 _ T28.heap _; rw [e28]; exact ⟨N0, KR, o29, rfl, Ex29⟩) (fun fs hr => retOut X28 hx Bd.returns rfl (Or.inr (Or.inr (Or.inr (Or.inr ⟨rfl, rfl, rfl⟩)))) (hb hby own_d5_22) hr)

theorem own_d6_0 : decode prog_10_method_2_code 0 = .ok (.aload_n 1, 1) := by decide +kernel
theorem own_d6_1 : decode prog_10_method_2_code 1 = .ok (.instanceof 8, 3) := by decide +kernel
theorem own_d6_4 : decode prog_10_method_2_code 4 = .ok (.ifCond .eq 34, 3) := by decide +kernel
theorem own_d6_38 : decode prog_10_method_2_code 38 = .ok (.iconst 0, 1) := by decide +kernel
theorem own_d6_39 : decode prog_10_method_2_code 39 = .ok (.ireturn, 1) := by decide +kernel
theorem own_ef6 (m : MethodId) (ad0 : Addr) : entryFrame m #[(.ref ad0), .null] 3 = mkF m 0 #[.val (.ref ad0), .val .null, .unset] [] := by first | (simp [entryFrame, mkF, argsToLocals, Value.category]; done) | rfl
def own_Q6 (Z : State) (ad0 : Addr) (h0 : Heap) (n0 : Nat) (v : Option Value) (h : Heap) (L : List Loc) : Prop := v = some (.int (0 : Int32)) ∧ Fr n0 L ∧ h = h0
set_option maxRecDepth 65536 in
set_option maxHeartbeats 40000000 in
theorem own_rm6 (l : Launch) (Z : State) (a0 : Array Value) (hw : ∀ d ∈ tables_1, d.before a0 Z = true) (hs : ∀ d ∈ jdkStatics_1, d.before a0 Z = true) (ws : List Jvm.Cond) (ad0 : Addr) (h0 : Heap) (n0 : Nat) (Z0 : n0 ≤ h0.size) :
    MetFree l (⟨"com/example/tandem/tandem/analysis/Cuts$Range", "equals", "(Ljava/lang/Object;)Z"⟩ : MethodName) (head1 (Jvm.Cond.code (⟨"com/example/tandem/tandem/analysis/Cuts$Range", "equals", "(Ljava/lang/Object;)Z"⟩ : MethodName) prog_10_method_2_code 3 (some .boolean) :: ws) ({ frames := 0, cells := 0, slots := 0, locals := 0 } : Room)) (fun a U => a = #[(.ref ad0), .null] ∧ Z.Warmed39 U.vm ∧ U.heap = h0) (fun _ _ _ _ _ => True) (fun _ U o U' => ∃ v L, o = .returned v ∧ own_Q6 Z ad0 h0 n0 v U'.heap L ∧ FrameEnd U o U' L ({ frames := 0, cells := 0, slots := 0, locals := 0 } : Room).cells ({ frames := 0, cells := 0, slots := 0, locals := 0 } : Room).slots) := by
  refine MetFree.of_bodySF (plainFor_of_name own_pn1) hisR ?_
  intro p e s m args below meth c s₁ Bd hml0 hP hK
  obtain ⟨rfl, hZ, hh⟩ := hP
  have hx := Bd.exec
  have hby := Bd.bytes
  have hlk := Bd.notSynchronized
  have hml : c.maxLocals = 3 := hml0
  have hown : s.vm.findClass "com/example/tandem/tandem/analysis/Cuts$Range" = some m.cls := findClass_of_methodNamed Bd.named
  have hnm := (name_of_methodNamed Bd.named Bd.method).1
  have X0 : Stand p l e ({ frames := 0, cells := 0, slots := 0, locals := 0 } : Room) s m #[(.ref ad0), .null] below meth c s₁ [] 0 0 := Stand.of_body Bd
  have e0 : s₁.heap = h0 := by rw [← hh, Bd.state]; rfl
  have N0 := Fr.nil n0
  have KR : Keep h0 h0 [] := Keep.refl _ _
  show own_Fin p e below s ({ frames := 0, cells := 0, slots := 0, locals := 0 } : Room).cells ({ frames := 0, cells := 0, slots := 0, locals := 0 } : Room).slots (own_Q6 Z ad0 h0 n0) (s₁.setTop (entryFrame m #[(.ref ad0), .null] 3))
  refine own_cast (own_ef6 m ad0) ?_
  refine own_step (fun _ k => XS.aloadN X0.here hx rfl (hb hby own_d6_0) rfl rfl k) ?_
  show own_Fin p e below s _ _ _ (s₁.setTop (mkF m 1 #[.val (.ref ad0), .val .null, .unset] [.null]))
  refine own_step (fun _ k => X0.instanceofNull hx (g := (mkF m 1 #[.val (.ref ad0), .val .null, .unset] [.null])) rfl rfl (hb hby own_d6_1) _ k) ?_
  show own_Fin p e below s _ _ _ (s₁.setTop (mkF m 4 #[.val (.ref ad0), .val .null, .unset] [(.int (0 : Int32))]))
  refine own_step (fun _ k => XS.ifYes X0.here hx rfl (pc0 := 4) (pc' := 38) rfl (hb hby own_d6_4) rfl ((if0 _ _).trans (teq (by decide : (0 : Int32) = (0 : Int32))).1) (by decide) (by decide) k) ?_
  show own_Fin p e below s _ _ _ (s₁.setTop (mkF m 38 #[.val (.ref ad0), .val .null, .unset] []))
  refine own_step (fun _ k => XS.iconst X0.here hx rfl (hb hby own_d6_38) k) ?_
  show own_Fin p e below s _ _ _ (s₁.setTop (mkF m 39 #[.val (.ref ad0), .val .null, .unset] [(.int (0 : Int32))]))
  exact own_ret X0 hlk (v := some (.int (0 : Int32))) (fun h => by rw [Bd.returns] at h; cases h) (by decide) (by decide) (by show own_Q6 Z ad0 h0 n0 _ s₁.heap _; rw [e0]; exact ⟨rfl, N0, rfl⟩) (fun fs hr => retN X0 hx (t := .boolean) Bd.returns (by simp) (hb hby own_d6_39) hr)

theorem own_d7_0 : decode prog_10_method_2_code 0 = .ok (.aload_n 1, 1) := by decide +kernel
theorem own_d7_1 : decode prog_10_method_2_code 1 = .ok (.instanceof 8, 3) := by decide +kernel
theorem own_d7_4 : decode prog_10_method_2_code 4 = .ok (.ifCond .eq 34, 3) := by decide +kernel
theorem own_d7_38 : decode prog_10_method_2_code 38 = .ok (.iconst 0, 1) := by decide +kernel
theorem own_d7_39 : decode prog_10_method_2_code 39 = .ok (.ireturn, 1) := by decide +kernel
theorem own_ef7 (m : MethodId) (ad0 : Addr) (ad1 : Addr) : entryFrame m #[(.ref ad0), (.ref ad1)] 3 = mkF m 0 #[.val (.ref ad0), .val (.ref ad1), .unset] [] := by first | (simp [entryFrame, mkF, argsToLocals, Value.category]; done) | rfl
def own_Q7 (Z : State) (ad0 : Addr) (ad1 : Addr) (h0 : Heap) (n0 : Nat) (v : Option Value) (h : Heap) (L : List Loc) : Prop := v = some (.int (0 : Int32)) ∧ Fr n0 L ∧ h = h0
set_option maxRecDepth 65536 in
set_option maxHeartbeats 40000000 in
theorem own_rm7 (l : Launch) (Z : State) (a0 : Array Value) (hw : ∀ d ∈ tables_1, d.before a0 Z = true) (hs : ∀ d ∈ jdkStatics_1, d.before a0 Z = true) (ws : List Jvm.Cond) (ad0 : Addr) (ad1 : Addr) (h0 : Heap) (n0 : Nat) (Z0 : n0 ≤ h0.size) (E_ad1 : Exa Z h0 ad1 "java/lang/Integer") :
    MetFree l (⟨"com/example/tandem/tandem/analysis/Cuts$Range", "equals", "(Ljava/lang/Object;)Z"⟩ : MethodName) (head1 (Jvm.Cond.code (⟨"com/example/tandem/tandem/analysis/Cuts$Range", "equals", "(Ljava/lang/Object;)Z"⟩ : MethodName) prog_10_method_2_code 3 (some .boolean) :: ws) ({ frames := 0, cells := 0, slots := 0, locals := 0 } : Room)) (fun a U => a = #[(.ref ad0), (.ref ad1)] ∧ Z.Warmed39 U.vm ∧ U.heap = h0) (fun _ _ _ _ _ => True) (fun _ U o U' => ∃ v L, o = .returned v ∧ own_Q7 Z ad0 ad1 h0 n0 v U'.heap L ∧ FrameEnd U o U' L ({ frames := 0, cells := 0, slots := 0, locals := 0 } : Room).cells ({ frames := 0, cells := 0, slots := 0, locals := 0 } : Room).slots) := by
  refine MetFree.of_bodySF (plainFor_of_name own_pn1) hisR ?_
  intro p e s m args below meth c s₁ Bd hml0 hP hK
  obtain ⟨rfl, hZ, hh⟩ := hP
  have hx := Bd.exec
  have hby := Bd.bytes
  have hlk := Bd.notSynchronized
  have hml : c.maxLocals = 3 := hml0
  have hown : s.vm.findClass "com/example/tandem/tandem/analysis/Cuts$Range" = some m.cls := findClass_of_methodNamed Bd.named
  have hnm := (name_of_methodNamed Bd.named Bd.method).1
  have X0 : Stand p l e ({ frames := 0, cells := 0, slots := 0, locals := 0 } : Room) s m #[(.ref ad0), (.ref ad1)] below meth c s₁ [] 0 0 := Stand.of_body Bd
  have e0 : s₁.heap = h0 := by rw [← hh, Bd.state]; rfl
  have N0 := Fr.nil n0
  have KR : Keep h0 h0 [] := Keep.refl _ _
  show own_Fin p e below s ({ frames := 0, cells := 0, slots := 0, locals := 0 } : Room).cells ({ frames := 0, cells := 0, slots := 0, locals := 0 } : Room).slots (own_Q7 Z ad0 ad1 h0 n0) (s₁.setTop (entryFrame m #[(.ref ad0), (.ref ad1)] 3))
  refine own_cast (own_ef7 m ad0 ad1) ?_
  refine own_step (fun _ k => XS.aloadN X0.here hx rfl (hb hby own_d7_0) rfl rfl k) ?_
  show own_Fin p e below s _ _ _ (s₁.setTop (mkF m 1 #[.val (.ref ad0), .val (.ref ad1), .unset] [(.ref ad1)]))
  obtain ⟨T2, X2, e2, st2⟩ := instN X0 hx hZ hown (own_w hw 23 rfl) e0 (by rw [hh]; exact own_not hw E_ad1) (by rw [hh]; exact E_ad1) (g := (mkF m 1 #[.val (.ref ad0), .val (.ref ad1), .unset] [(.ref ad1)])) rfl rfl (hb hby own_d7_1)
  refine own_step st2 ?_
  show own_Fin p e below s _ _ _ (T2.setTop (mkF m 4 #[.val (.ref ad0), .val (.ref ad1), .unset] [(.int (0 : Int32))]))
  refine own_step (fun _ k => XS.ifYes X2.here hx rfl (pc0 := 4) (pc' := 38) rfl (hb hby own_d7_4) rfl ((if0 _ _).trans (teq (by decide : (0 : Int32) = (0 : Int32))).1) (by decide) (by decide) k) ?_
  show own_Fin p e below s _ _ _ (T2.setTop (mkF m 38 #[.val (.ref ad0), .val (.ref ad1), .unset] []))
  refine own_step (fun _ k => XS.iconst X2.here hx rfl (hb hby own_d7_38) k) ?_
  show own_Fin p e below s _ _ _ (T2.setTop (mkF m 39 #[.val (.ref ad0), .val (.ref ad1), .unset] [(.int (0 : Int32))]))
  exact own_ret X2 hlk (v := some (.int (0 : Int32))) (fun h => by rw [Bd.returns] at h; cases h) (by decide) (by decide) (by show own_Q7 Z ad0 ad1 h0 n0 _ T2.heap _; rw [e2]; exact ⟨rfl, N0, rfl⟩) (fun fs hr => retN X2 hx (t := .boolean) Bd.returns (by simp) (hb hby own_d7_39) hr)

def own_r8 (wfrom_ad1 : Int32) (wfrom_ad0 : Int32) (wto_ad1 : Int32) (wto_ad0 : Int32) : Int32 := (if wfrom_ad1 = wfrom_ad0 then (if wto_ad1 = wto_ad0 then (1 : Int32) else (0 : Int32)) else (0 : Int32))
theorem own_d8_0 : decode prog_10_method_2_code 0 = .ok (.aload_n 1, 1) := by decide +kernel
theorem own_d8_1 : decode prog_10_method_2_code 1 = .ok (.instanceof 8, 3) := by decide +kernel
theorem own_d8_4 : decode prog_10_method_2_code 4 = .ok (.ifCond .eq 34, 3) := by decide +kernel
theorem own_d8_7 : decode prog_10_method_2_code 7 = .ok (.aload_n 1, 1) := by decide +kernel
theorem own_d8_8 : decode prog_10_method_2_code 8 = .ok (.checkcast 8, 3) := by decide +kernel
theorem own_d8_11 : decode prog_10_method_2_code 11 = .ok (.astore_n 2, 1) := by decide +kernel
theorem own_d8_12 : decode prog_10_method_2_code 12 = .ok (.aload_n 2, 1) := by decide +kernel
theorem own_d8_13 : decode prog_10_method_2_code 13 = .ok (.getfield 7, 3) := by decide +kernel
theorem own_d8_16 : decode prog_10_method_2_code 16 = .ok (.aload_n 0, 1) := by decide +kernel
theorem own_d8_17 : decode prog_10_method_2_code 17 = .ok (.getfield 7, 3) := by decide +kernel
theorem own_d8_20 : decode prog_10_method_2_code 20 = .ok (.if_icmp .ne 18, 3) := by decide +kernel
theorem own_d8_23 : decode prog_10_method_2_code 23 = .ok (.aload_n 2, 1) := by decide +kernel
theorem own_d8_24 : decode prog_10_method_2_code 24 = .ok (.getfield 13, 3) := by decide +kernel
theorem own_d8_27 : decode prog_10_method_2_code 27 = .ok (.aload_n 0, 1) := by decide +kernel
theorem own_d8_28 : decode prog_10_method_2_code 28 = .ok (.getfield 13, 3) := by decide +kernel
theorem own_d8_31 : decode prog_10_method_2_code 31 = .ok (.if_icmp .ne 7, 3) := by decide +kernel
theorem own_d8_34 : decode prog_10_method_2_code 34 = .ok (.iconst 1, 1) := by decide +kernel
theorem own_d8_35 : decode prog_10_method_2_code 35 = .ok (.goto 4, 3) := by decide +kernel
theorem own_d8_38 : decode prog_10_method_2_code 38 = .ok (.iconst 0, 1) := by decide +kernel
theorem own_d8_39 : decode prog_10_method_2_code 39 = .ok (.ireturn, 1) := by decide +kernel
theorem own_ef8 (m : MethodId) (ad0 : Addr) (ad1 : Addr) : entryFrame m #[(.ref ad0), (.ref ad1)] 3 = mkF m 0 #[.val (.ref ad0), .val (.ref ad1), .unset] [] := by first | (simp [entryFrame, mkF, argsToLocals, Value.category]; done) | rfl
def own_Q8 (Z : State) (ad0 : Addr) (ad1 : Addr) (wfrom_ad1 : Int32) (wfrom_ad0 : Int32) (wto_ad1 : Int32) (wto_ad0 : Int32) (h0 : Heap) (n0 : Nat) (v : Option Value) (h : Heap) (L : List Loc) : Prop := v = some (.int (own_r8 wfrom_ad1 wfrom_ad0 wto_ad1 wto_ad0)) ∧ Fr n0 L ∧ h = h0
set_option maxRecDepth 65536 in
set_option maxHeartbeats 40000000 in
theorem own_rm8 (l : Launch) (Z : State) (a0 : Array Value) (hw : ∀ d ∈ tables_1, d.before a0 Z = true) (hs : ∀ d ∈ jdkStatics_1, d.before a0 Z = true) (ws : List Jvm.Cond) (ad0 : Addr) (ad1 : Addr) (wfrom_ad1 : Int32) (wfrom_ad0 : Int32) (wto_ad1 : Int32) (wto_ad0 : Int32) (h0 : Heap) (n0 : Nat) (Z0 : n0 ≤ h0.size) (E_ad1 : Exa Z h0 ad1 "com/example/tandem/tandem/analysis/Cuts$Range") (F_from_ad1 : Fld Z h0 ad1 "com/example/tandem/tandem/analysis/Cuts$Range" "from" "I" (.int wfrom_ad1)) (F_from_ad0 : Fld Z h0 ad0 "com/example/tandem/tandem/analysis/Cuts$Range" "from" "I" (.int wfrom_ad0)) (F_to_ad1 : Fld Z h0 ad1 "com/example/tandem/tandem/analysis/Cuts$Range" "to" "I" (.int wto_ad1)) (F_to_ad0 : Fld Z h0 ad0 "com/example/tandem/tandem/analysis/Cuts$Range" "to" "I" (.int wto_ad0)) :
    MetFree l (⟨"com/example/tandem/tandem/analysis/Cuts$Range", "equals", "(Ljava/lang/Object;)Z"⟩ : MethodName) (head1 (Jvm.Cond.code (⟨"com/example/tandem/tandem/analysis/Cuts$Range", "equals", "(Ljava/lang/Object;)Z"⟩ : MethodName) prog_10_method_2_code 3 (some .boolean) :: ws) ({ frames := 0, cells := 0, slots := 0, locals := 0 } : Room)) (fun a U => a = #[(.ref ad0), (.ref ad1)] ∧ Z.Warmed39 U.vm ∧ U.heap = h0) (fun _ _ _ _ _ => True) (fun _ U o U' => ∃ v L, o = .returned v ∧ own_Q8 Z ad0 ad1 wfrom_ad1 wfrom_ad0 wto_ad1 wto_ad0 h0 n0 v U'.heap L ∧ FrameEnd U o U' L ({ frames := 0, cells := 0, slots := 0, locals := 0 } : Room).cells ({ frames := 0, cells := 0, slots := 0, locals := 0 } : Room).slots) := by
  refine MetFree.of_bodySF (plainFor_of_name own_pn1) hisR ?_
  intro p e s m args below meth c s₁ Bd hml0 hP hK
  obtain ⟨rfl, hZ, hh⟩ := hP
  have hx := Bd.exec
  have hby := Bd.bytes
  have hlk := Bd.notSynchronized
  have hml : c.maxLocals = 3 := hml0
  have hown : s.vm.findClass "com/example/tandem/tandem/analysis/Cuts$Range" = some m.cls := findClass_of_methodNamed Bd.named
  have hnm := (name_of_methodNamed Bd.named Bd.method).1
  have X0 : Stand p l e ({ frames := 0, cells := 0, slots := 0, locals := 0 } : Room) s m #[(.ref ad0), (.ref ad1)] below meth c s₁ [] 0 0 := Stand.of_body Bd
  have e0 : s₁.heap = h0 := by rw [← hh, Bd.state]; rfl
  have N0 := Fr.nil n0
  have KR : Keep h0 h0 [] := Keep.refl _ _
  show own_Fin p e below s ({ frames := 0, cells := 0, slots := 0, locals := 0 } : Room).cells ({ frames := 0, cells := 0, slots := 0, locals := 0 } : Room).slots (own_Q8 Z ad0 ad1 wfrom_ad1 wfrom_ad0 wto_ad1 wto_ad0 h0 n0) (s₁.setTop (entryFrame m #[(.ref ad0), (.ref ad1)] 3))
  refine own_cast (own_ef8 m ad0 ad1) ?_
  refine own_step (fun _ k => XS.aloadN X0.here hx rfl (hb hby own_d8_0) rfl rfl k) ?_
  show own_Fin p e below s _ _ _ (s₁.setTop (mkF m 1 #[.val (.ref ad0), .val (.ref ad1), .unset] [(.ref ad1)]))
  obtain ⟨T1, X1, e1, st1⟩ := instY X0 hx hZ hown (own_w hw 23 rfl) e0 (Ins.self E_ad1) (g := (mkF m 1 #[.val (.ref ad0), .val (.ref ad1), .unset] [(.ref ad1)])) rfl rfl (hb hby own_d8_1)
  refine own_step st1 ?_
  show own_Fin p e below s _ _ _ (T1.setTop (mkF m 4 #[.val (.ref ad0), .val (.ref ad1), .unset] [(.int (1 : Int32))]))
  refine own_step (fun _ k => XS.ifNo X1.here hx rfl (hb hby own_d8_4) rfl ((if0 _ _).trans (feq (by decide : ¬ ((1 : Int32) = (0 : Int32)))).1) k) ?_
  show own_Fin p e below s _ _ _ (T1.setTop (mkF m 7 #[.val (.ref ad0), .val (.ref ad1), .unset] []))
  refine own_step (fun _ k => XS.aloadN X1.here hx rfl (hb hby own_d8_7) rfl rfl k) ?_
  show own_Fin p e below s _ _ _ (T1.setTop (mkF m 8 #[.val (.ref ad0), .val (.ref ad1), .unset] [(.ref ad1)]))
  obtain ⟨T2, X2, e2, st2⟩ := castY X1 hx hZ hown (own_w hw 23 rfl) e1 (Ins.self E_ad1) (g := (mkF m 8 #[.val (.ref ad0), .val (.ref ad1), .unset] [(.ref ad1)])) rfl rfl (hb hby own_d8_8)
  refine own_step st2 ?_
  show own_Fin p e below s _ _ _ (T2.setTop (mkF m 11 #[.val (.ref ad0), .val (.ref ad1), .unset] [(.ref ad1)]))
  refine own_step (fun _ k => XS.astoreN X2.here hx rfl (hb hby own_d8_11) rfl rfl (l' := #[.val (.ref ad0), .val (.ref ad1), .val (.ref ad1)]) rfl k) ?_
  show own_Fin p e below s _ _ _ (T2.setTop (mkF m 12 #[.val (.ref ad0), .val (.ref ad1), .val (.ref ad1)] []))
  refine own_step (fun _ k => XS.aloadN X2.here hx rfl (hb hby own_d8_12) rfl rfl k) ?_
  show own_Fin p e below s _ _ _ (T2.setTop (mkF m 13 #[.val (.ref ad0), .val (.ref ad1), .val (.ref ad1)] [(.ref ad1)]))
  obtain ⟨T3, X3, e3, st3⟩ := getF X2 hx hZ hown (host := "") (Or.inl (own_w hw 14 rfl)) Via.refl e2 F_from_ad1 (g := (mkF m 13 #[.val (.ref ad0), .val (.ref ad1), .val (.ref ad1)] [(.ref ad1)])) rfl rfl (hb hby own_d8_13)
  refine own_step st3 ?_
  show own_Fin p e below s _ _ _ (T3.setTop (mkF m 16 #[.val (.ref ad0), .val (.ref ad1), .val (.ref ad1)] [(.int wfrom_ad1)]))
  refine own_step (fun _ k => XS.aloadN X3.here hx rfl (hb hby own_d8_16) rfl rfl k) ?_
  show own_Fin p e below s _ _ _ (T3.setTop (mkF m 17 #[.val (.ref ad0), .val (.ref ad1), .val (.ref ad1)] [(.ref ad0), (.int wfrom_ad1)]))
  obtain ⟨T4, X4, e4, st4⟩ := getF X3 hx hZ hown (host := "") (Or.inl (own_w hw 14 rfl)) Via.refl e3 F_from_ad0 (g := (mkF m 17 #[.val (.ref ad0), .val (.ref ad1), .val (.ref ad1)] [(.ref ad0), (.int wfrom_ad1)])) rfl rfl (hb hby own_d8_17)
  refine own_step st4 ?_
  show own_Fin p e below s _ _ _ (T4.setTop (mkF m 20 #[.val (.ref ad0), .val (.ref ad1), .val (.ref ad1)] [(.int wfrom_ad0), (.int wfrom_ad1)]))
  by_cases hc5 : wfrom_ad1 = wfrom_ad0
  · refine own_step (fun _ k => XS.icmpNo X4.here hx rfl (hb hby own_d8_20) rfl (teq hc5).2 k) ?_
    show own_Fin p e below s _ _ _ (T4.setTop (mkF m 23 #[.val (.ref ad0), .val (.ref ad1), .val (.ref ad1)] []))
    refine own_step (fun _ k => XS.aloadN X4.here hx rfl (hb hby own_d8_23) rfl rfl k) ?_
    show own_Fin p e below s _ _ _ (T4.setTop (mkF m 24 #[.val (.ref ad0), .val (.ref ad1), .val (.ref ad1)] [(.ref ad1)]))
    obtain ⟨T6, X6, e6, st6⟩ := getF X4 hx hZ hown (host := "") (Or.inl (own_w hw 16 rfl)) Via.refl e4 F_to_ad1 (g := (mkF m 24 #[.val (.ref ad0), .val (.ref ad1), .val (.ref ad1)] [(.ref ad1)])) rfl rfl (hb hby own_d8_24)
    refine own_step st6 ?_
    show own_Fin p e below s _ _ _ (T6.setTop (mkF m 27 #[.val (.ref ad0), .val (.ref ad1), .val (.ref ad1)] [(.int wto_ad1)]))
    refine own_step (fun _ k => XS.aloadN X6.here hx rfl (hb hby own_d8_27) rfl rfl k) ?_
    show own_Fin p e below s _ _ _ (T6.setTop (mkF m 28 #[.val (.ref ad0), .val (.ref ad1), .val (.ref ad1)] [(.ref ad0), (.int wto_ad1)]))
    obtain ⟨T7, X7, e7, st7⟩ := getF X6 hx hZ hown (host := "") (Or.inl (own_w hw 16 rfl)) Via.refl e6 F_to_ad0 (g := (mkF m 28 #[.val (.ref ad0), .val (.ref ad1), .val (.ref ad1)] [(.ref ad0), (.int wto_ad1)])) rfl rfl (hb hby own_d8_28)
    refine own_step st7 ?_
    show own_Fin p e below s _ _ _ (T7.setTop (mkF m 31 #[.val (.ref ad0), .val (.ref ad1), .val (.ref ad1)] [(.int wto_ad0), (.int wto_ad1)]))
    by_cases hc8 : wto_ad1 = wto_ad0
    · refine own_step (fun _ k => XS.icmpNo X7.here hx rfl (hb hby own_d8_31) rfl (teq hc8).2 k) ?_
      show own_Fin p e below s _ _ _ (T7.setTop (mkF m 34 #[.val (.ref ad0), .val (.ref ad1), .val (.ref ad1)] []))
      refine own_step (fun _ k => XS.iconst X7.here hx rfl (hb hby own_d8_34) k) ?_
      show own_Fin p e below s _ _ _ (T7.setTop (mkF m 35 #[.val (.ref ad0), .val (.ref ad1), .val (.ref ad1)] [(.int (1 : Int32))]))
      refine own_step (fun _ k => XS.goto X7.here hx rfl (pc0 := 35) (pc' := 39) rfl (hb hby own_d8_35) (by decide) (by decide) k) ?_
      show own_Fin p e below s _ _ _ (T7.setTop (mkF m 39 #[.val (.ref ad0), .val (.ref ad1), .val (.ref ad1)] [(.int (1 : Int32))]))
      exact own_ret X7 hlk (v := some (.int (1 : Int32))) (fun h => by rw [Bd.returns] at h; cases h) (by decide) (by decide) (by show own_Q8 Z ad0 ad1 wfrom_ad1 wfrom_ad0 wto_ad1 wto_ad0 h0 n0 _ T7.heap _; rw [e7]; exact ⟨(congrArg (fun z => some (Value.int z)) (show (own_r8 wfrom_ad1 wfrom_ad0 wto_ad1 wto_ad0) = (1 : Int32) from by rw [own_r8, if_pos hc5, if_pos hc8]).symm), N0, rfl⟩) (fun fs hr => retN X7 hx (t := .boolean) Bd.returns (by simp) (hb hby own_d8_39) hr)
    · refine own_step (fun _ k => XS.icmpYes X7.here hx rfl (pc0 := 31) (pc' := 38) rfl (hb hby own_d8_31) rfl (feq hc8).2 (by decide) (by decide) k) ?_
      show own_Fin p e below s _ _ _ (T7.setTop (mkF m 38 #[.val (.ref ad0), .val (.ref ad1), .val (.ref ad1)] []))
      refine own_step (fun _ k => XS.iconst X7.here hx rfl (hb hby own_d8_38) k) ?_
      show own_Fin p e below s _ _ _ (T7.setTop (mkF m 39 #[.val (.ref ad0), .val (.ref ad1), .val (.ref ad1)] [(.int (0 : Int32))]))
      exact own_ret X7 hlk (v := some (.int (0 : Int32))) (fun h => by rw [Bd.returns] at h; cases h) (by decide) (by decide) (by show own_Q8 Z ad0 ad1 wfrom_ad1 wfrom_ad0 wto_ad1 wto_ad0 h0 n0 _ T7.heap _; rw [e7]; exact ⟨(congrArg (fun z => some (Value.int z)) (show (own_r8 wfrom_ad1 wfrom_ad0 wto_ad1 wto_ad0) = (0 : Int32) from by rw [own_r8, if_pos hc5, if_neg hc8]).symm), N0, rfl⟩) (fun fs hr => retN X7 hx (t := .boolean) Bd.returns (by simp) (hb hby own_d8_39) hr)
  · refine own_step (fun _ k => XS.icmpYes X4.here hx rfl (pc0 := 20) (pc' := 38) rfl (hb hby own_d8_20) rfl (feq hc5).2 (by decide) (by decide) k) ?_
    show own_Fin p e below s _ _ _ (T4.setTop (mkF m 38 #[.val (.ref ad0), .val (.ref ad1), .val (.ref ad1)] []))
    refine own_step (fun _ k => XS.iconst X4.here hx rfl (hb hby own_d8_38) k) ?_
    show own_Fin p e below s _ _ _ (T4.setTop (mkF m 39 #[.val (.ref ad0), .val (.ref ad1), .val (.ref ad1)] [(.int (0 : Int32))]))
    exact own_ret X4 hlk (v := some (.int (0 : Int32))) (fun h => by rw [Bd.returns] at h; cases h) (by decide) (by decide) (by show own_Q8 Z ad0 ad1 wfrom_ad1 wfrom_ad0 wto_ad1 wto_ad0 h0 n0 _ T4.heap _; rw [e4]; exact ⟨(congrArg (fun z => some (Value.int z)) (show (own_r8 wfrom_ad1 wfrom_ad0 wto_ad1 wto_ad0) = (0 : Int32) from by rw [own_r8, if_neg hc5]).symm), N0, rfl⟩) (fun fs hr => retN X4 hx (t := .boolean) Bd.returns (by simp) (hb hby own_d8_39) hr)

theorem own_eqr (a b c d : Int32) : own_r8 a b c d = if a = b then (if c = d then (1 : Int32) else 0) else 0 := rfl

theorem own_pd2 : parseMethodDescriptor "(II)V" = some ⟨[.int, .int], none⟩ := by decide +kernel
abbrev own_y3 : MethodName := (⟨"com/example/tandem/tandem/analysis/Cuts$Range", "<init>", "(II)V"⟩ : MethodName)
theorem own_pd3 : parseMethodDescriptor "(Ljava/lang/Object;)Z" = some ⟨[(.object "java/lang/Object")], some .boolean⟩ := by decide +kernel
abbrev own_y4 : MethodName := (⟨"com/example/tandem/tandem/analysis/Cuts$Range", "equals", "(Ljava/lang/Object;)Z"⟩ : MethodName)
theorem own_pd4 : parseMethodDescriptor "(I)Ljava/lang/Integer;" = some ⟨[.int], some (.object "java/lang/Integer")⟩ := by decide +kernel
abbrev own_y5 : MethodName := (⟨"java/lang/Integer", "valueOf", "(I)Ljava/lang/Integer;"⟩ : MethodName)
theorem own_pn4 : plainName "com/example/tandem/tandem/analysis/RangeEqualsPinLaw" = true := by first | (simp [plainName, overriddenIn]; done) | decide +kernel
theorem own_ef9 (m : MethodId) (p0 : Int32) (p1 : Int32) (p2 : Int32) (p3 : Int32) (p4 : Int32) : entryFrame m #[(.int p0), (.int p1), (.int p2), (.int p3), (.int p4)] maxLocals = mkF m 0 #[.val (.int p0), .val (.int p1), .val (.int p2), .val (.int p3), .val (.int p4), .unset, .unset, .unset, .unset, .unset, .unset] [] := by first | (simp [entryFrame, mkF, argsToLocals, Value.category, maxLocals]; done) | rfl
def own_Q9 (Z : State) (p0 : Int32) (p1 : Int32) (p2 : Int32) (p3 : Int32) (p4 : Int32) (s_cache : Addr) (cl_cache : Cell) (h0 : Heap) (n0 : Nat) (v : Option Value) (h : Heap) (L : List Loc) : Prop := v = some (.int 1) ∧ Fr n0 L
set_option maxRecDepth 65536 in
set_option maxHeartbeats 40000000 in
theorem own_rm9 (l : Launch) (Z : State) (a0 : Array Value) (hw : ∀ d ∈ tables_1, d.before a0 Z = true) (hs : ∀ d ∈ jdkStatics_1, d.before a0 Z = true) (ws : List Jvm.Cond) (p0 : Int32) (p1 : Int32) (p2 : Int32) (p3 : Int32) (p4 : Int32) (s_cache : Addr) (cl_cache : Cell) (h0 : Heap) (n0 : Nat) (Z0 : n0 ≤ h0.size) (Od : Old Z n0 h0) (S_high : Sta Z h0 "java/lang/Integer$IntegerCache" "high" "I" (.int (127 : Int32))) (S_cache : Sta Z h0 "java/lang/Integer$IntegerCache" "cache" "[Ljava/lang/Integer;" (.ref s_cache)) (Bx : Bxs Z s_cache cl_cache "java/lang/Integer" "I" (256 : Int32) (fun j => .int (j - (128 : Int32)))) :
    MetFree l x (head1 (Jvm.Cond.code x code maxLocals ret :: ws) room_1) (fun a U => a = #[(.int p0), (.int p1), (.int p2), (.int p3), (.int p4)] ∧ Z.Warmed39 U.vm ∧ U.heap = h0) (fun _ _ _ _ _ => True) (fun _ U o U' => ∃ v L, o = .returned v ∧ own_Q9 Z p0 p1 p2 p3 p4 s_cache cl_cache h0 n0 v U'.heap L ∧ FrameEnd U o U' L room_1.cells room_1.slots) := by
  refine MetFree.of_bodySF (plainFor_of_name own_pn4) hisR ?_
  intro p e s m args below meth c s₁ Bd hml0 hP hK
  obtain ⟨rfl, hZ, hh⟩ := hP
  have hx := Bd.exec
  have hby := Bd.bytes
  have hlk := Bd.notSynchronized
  have hml : c.maxLocals = 11 := hml0
  have hown : s.vm.findClass "com/example/tandem/tandem/analysis/RangeEqualsPinLaw" = some m.cls := findClass_of_methodNamed Bd.named
  have hnm := (name_of_methodNamed Bd.named Bd.method).1
  have X0 : Stand p l e room_1 s m #[(.int p0), (.int p1), (.int p2), (.int p3), (.int p4)] below meth c s₁ [] 0 0 := Stand.of_body Bd
  have e0 : s₁.heap = h0 := by rw [← hh, Bd.state]; rfl
  have N0 := Fr.nil n0
  have KR : Keep h0 h0 [] := Keep.refl _ _
  show own_Fin p e below s room_1.cells room_1.slots (own_Q9 Z p0 p1 p2 p3 p4 s_cache cl_cache h0 n0) (s₁.setTop (entryFrame m #[(.int p0), (.int p1), (.int p2), (.int p3), (.int p4)] maxLocals))
  refine own_cast (own_ef9 m p0 p1 p2 p3 p4) ?_
  refine own_step (fun _ k => XS.iload X0.here hx rfl (hb hby at_0) rfl k) ?_
  show own_Fin p e below s _ _ _ (s₁.setTop (mkF m 2 #[.val (.int p0), .val (.int p1), .val (.int p2), .val (.int p3), .val (.int p4), .unset, .unset, .unset, .unset, .unset, .unset] [(.int p4)]))
  refine own_step (fun _ k => XS.iconst X0.here hx rfl (hb hby at_2) k) ?_
  show own_Fin p e below s _ _ _ (s₁.setTop (mkF m 3 #[.val (.int p0), .val (.int p1), .val (.int p2), .val (.int p3), .val (.int p4), .unset, .unset, .unset, .unset, .unset, .unset] [(.int (1 : Int32)), (.int p4)]))
  refine own_step (fun _ k => XS.iand X0.here hx rfl (hb hby at_3) rfl k) ?_
  show own_Fin p e below s _ _ _ (s₁.setTop (mkF m 4 #[.val (.int p0), .val (.int p1), .val (.int p2), .val (.int p3), .val (.int p4), .unset, .unset, .unset, .unset, .unset, .unset] [(.int (p4 &&& (1 : Int32)))]))
  by_cases hc1 : (p4 &&& (1 : Int32)) = (0 : Int32)
  · refine own_step (fun _ k => XS.ifYes X0.here hx rfl (pc0 := 4) (pc' := 11) rfl (hb hby at_4) rfl ((if0 _ _).trans (teq hc1).1) (by decide) (by decide) k) ?_
    show own_Fin p e below s _ _ _ (s₁.setTop (mkF m 11 #[.val (.int p0), .val (.int p1), .val (.int p2), .val (.int p3), .val (.int p4), .unset, .unset, .unset, .unset, .unset, .unset] []))
    refine own_step (fun _ k => XS.iloadN X0.here hx rfl (hb hby at_11) rfl k) ?_
    show own_Fin p e below s _ _ _ (s₁.setTop (mkF m 12 #[.val (.int p0), .val (.int p1), .val (.int p2), .val (.int p3), .val (.int p4), .unset, .unset, .unset, .unset, .unset, .unset] [(.int p2)]))
    refine own_step (fun _ k => XS.istore X0.here hx rfl (hb hby at_12) rfl (l' := #[.val (.int p0), .val (.int p1), .val (.int p2), .val (.int p3), .val (.int p4), .val (.int p2), .unset, .unset, .unset, .unset, .unset]) rfl k) ?_
    show own_Fin p e below s _ _ _ (s₁.setTop (mkF m 14 #[.val (.int p0), .val (.int p1), .val (.int p2), .val (.int p3), .val (.int p4), .val (.int p2), .unset, .unset, .unset, .unset, .unset] []))
    refine own_step (fun _ k => XS.iload X0.here hx rfl (hb hby at_14) rfl k) ?_
    show own_Fin p e below s _ _ _ (s₁.setTop (mkF m 16 #[.val (.int p0), .val (.int p1), .val (.int p2), .val (.int p3), .val (.int p4), .val (.int p2), .unset, .unset, .unset, .unset, .unset] [(.int p4)]))
    refine own_step (fun _ k => XS.iconst X0.here hx rfl (hb hby at_16) k) ?_
    show own_Fin p e below s _ _ _ (s₁.setTop (mkF m 17 #[.val (.int p0), .val (.int p1), .val (.int p2), .val (.int p3), .val (.int p4), .val (.int p2), .unset, .unset, .unset, .unset, .unset] [(.int (2 : Int32)), (.int p4)]))
    refine own_step (fun _ k => XS.iand X0.here hx rfl (hb hby at_17) rfl k) ?_
    show own_Fin p e below s _ _ _ (s₁.setTop (mkF m 18 #[.val (.int p0), .val (.int p1), .val (.int p2), .val (.int p3), .val (.int p4), .val (.int p2), .unset, .unset, .unset, .unset, .unset] [(.int (p4 &&& (2 : Int32)))]))
    by_cases hc2 : (p4 &&& (2 : Int32)) = (0 : Int32)
    · refine own_step (fun _ k => XS.ifYes X0.here hx rfl (pc0 := 18) (pc' := 25) rfl (hb hby at_18) rfl ((if0 _ _).trans (teq hc2).1) (by decide) (by decide) k) ?_
      show own_Fin p e below s _ _ _ (s₁.setTop (mkF m 25 #[.val (.int p0), .val (.int p1), .val (.int p2), .val (.int p3), .val (.int p4), .val (.int p2), .unset, .unset, .unset, .unset, .unset] []))
      refine own_step (fun _ k => XS.iloadN X0.here hx rfl (hb hby at_25) rfl k) ?_
      show own_Fin p e below s _ _ _ (s₁.setTop (mkF m 26 #[.val (.int p0), .val (.int p1), .val (.int p2), .val (.int p3), .val (.int p4), .val (.int p2), .unset, .unset, .unset, .unset, .unset] [(.int p3)]))
      refine own_step (fun _ k => XS.istore X0.here hx rfl (hb hby at_26) rfl (l' := #[.val (.int p0), .val (.int p1), .val (.int p2), .val (.int p3), .val (.int p4), .val (.int p2), .val (.int p3), .unset, .unset, .unset, .unset]) rfl k) ?_
      show own_Fin p e below s _ _ _ (s₁.setTop (mkF m 28 #[.val (.int p0), .val (.int p1), .val (.int p2), .val (.int p3), .val (.int p4), .val (.int p2), .val (.int p3), .unset, .unset, .unset, .unset] []))
      obtain ⟨T3, h3, X3, e3, E3, A3, D3, -, st3⟩ := newO X0 hx hZ hown (own_w hw 0 rfl) (own_w hw 1 rfl) (own_w hw 2 rfl) e0 (g := (mkF m 28 #[.val (.int p0), .val (.int p1), .val (.int p2), .val (.int p3), .val (.int p4), .val (.int p2), .val (.int p3), .unset, .unset, .unset, .unset] [])) rfl (hb hby at_28) (by decide) (by decide)
      obtain ⟨b3, g3⟩ : ∃ z, z = h0.size := ⟨_, rfl⟩
      rw [← g3] at A3 D3 st3
      have gg3 : n0 ≤ b3 := Nat.le_trans Z0 (Nat.le_of_eq g3.symm)
      have sz3 : h0.size ≤ b3 := Nat.le_trans KR.1 (Nat.le_of_eq g3.symm)
      have K3 : Keep h0 h3 [] := KR.ext E3
      have Z3 : n0 ≤ h3.size := Nat.le_trans Z0 E3.1
      have G4 := (Od.ext E3)
      have G5 := (S_high.ext E3)
      have G6 := (S_cache.ext E3)
      have G7 : Fld Z h3 b3 "com/example/tandem/tandem/analysis/Cuts$Range" "from" "I" (.int (0 : Int32)) := D3 (Or.inr (own_w hw 15 rfl)) (ty := .int) (by decide)
      have G8 : Fld Z h3 b3 "com/example/tandem/tandem/analysis/Cuts$Range" "to" "I" (.int (0 : Int32)) := D3 (Or.inr (own_w hw 17 rfl)) (ty := .int) (by decide)
      refine own_step st3 ?_
      show own_Fin p e below s _ _ _ (T3.setTop (mkF m 31 #[.val (.int p0), .val (.int p1), .val (.int p2), .val (.int p3), .val (.int p4), .val (.int p2), .val (.int p3), .unset, .unset, .unset, .unset] [(.ref b3)]))
      refine own_step (fun _ k => XS.dup X3.here hx rfl (hb hby at_31) rfl rfl k) ?_
      show own_Fin p e below s _ _ _ (T3.setTop (mkF m 32 #[.val (.int p0), .val (.int p1), .val (.int p2), .val (.int p3), .val (.int p4), .val (.int p2), .val (.int p3), .unset, .unset, .unset, .unset] [(.ref b3), (.ref b3)]))
      refine own_step (fun _ k => XS.iloadN X3.here hx rfl (hb hby at_32) rfl k) ?_
      show own_Fin p e below s _ _ _ (T3.setTop (mkF m 33 #[.val (.int p0), .val (.int p1), .val (.int p2), .val (.int p3), .val (.int p4), .val (.int p2), .val (.int p3), .unset, .unset, .unset, .unset] [(.int p0), (.ref b3), (.ref b3)]))
      refine own_step (fun _ k => XS.iloadN X3.here hx rfl (hb hby at_33) rfl k) ?_
      show own_Fin p e below s _ _ _ (T3.setTop (mkF m 34 #[.val (.int p0), .val (.int p1), .val (.int p2), .val (.int p3), .val (.int p4), .val (.int p2), .val (.int p3), .unset, .unset, .unset, .unset] [(.int p1), (.int p0), (.ref b3), (.ref b3)]))
      obtain ⟨_, _, ⟨T9, L9, k9, n9⟩, -, X9, ⟨Lc9, hQ9, l9, y9, z9⟩, st9⟩ := X3.specialBack hx (y := own_y3) rfl hown (mvT hZ (own_w hw 3 rfl)) (mvT hZ (own_w hw 4 rfl)) (mvT hZ (own_w hw 5 rfl)) (by decide) (backOf (W := 1) (own_rm2 l Z a0 hw hs [] b3 p0 p1 ((.int (0 : Int32))) ((.int (0 : Int32))) h3 n0 Z3 A3 G7 G8 gg3) hZ (own_w hw 5 rfl) (own_w hw 2 rfl) (by decide) (by decide)) (g := (mkF m 34 #[.val (.int p0), .val (.int p1), .val (.int p2), .val (.int p3), .val (.int p4), .val (.int p2), .val (.int p3), .unset, .unset, .unset, .unset] [(.int p1), (.int p0), (.ref b3), (.ref b3)])) rfl (by rw [hml]; rfl) (Steps.refl _) (a := b3) (argsL := [(.int p0), (.int p1)]) (rest := [(.ref b3)]) (lenOf own_pd2 rfl) rfl (by show 2 * 0 + _ ≤ _; exact Nat.le_of_eq rfl) (hb hby at_34) (fun _ _ => ⟨rfl, e3, (by decide : 1 + 0 ≤ _), (by decide : 2 + 0 ≤ _)⟩)
      dsimp only [Pt.U, Pt.locs, Pt.cells, Pt.slots] at X9 l9 y9 z9 st9 hQ9
      subst l9 y9 z9
      obtain ⟨N9q, K9q, rfl, G10, G11, G12⟩ := hQ9
      have N9 := Fr.app N0 N9q
      have K9 : Keep h0 T9.heap [] := K3.trans K9q (allS (P := fun x => x ∈ [] ∨ h0.size ≤ x) (Or.inr sz3) all0)
      have Z9 : n0 ≤ T9.heap.size := Nat.le_trans Z3 K9q.1
      have G13 := (G4.keep K9q (allS (P := fun x => n0 ≤ x) gg3 all0))
      have G14 := (own_sta_keep G5 K9q (allS (P := own_Nst _) (own_nst_exa A3) all0))
      have G15 := (own_sta_keep G6 K9q (allS (P := own_Nst _) (own_nst_exa A3) all0))
      have G16 := (A3.keep K9q)
      refine own_step (fun _ k => st9.trans k) ?_
      show own_Fin p e below s _ _ _ (T9.setTop (mkF m 37 #[.val (.int p0), .val (.int p1), .val (.int p2), .val (.int p3), .val (.int p4), .val (.int p2), .val (.int p3), .unset, .unset, .unset, .unset] [(.ref b3)]))
      refine own_step (fun _ k => XS.astore X9.here hx rfl (hb hby at_37) rfl rfl (l' := #[.val (.int p0), .val (.int p1), .val (.int p2), .val (.int p3), .val (.int p4), .val (.int p2), .val (.int p3), .val (.ref b3), .unset, .unset, .unset]) rfl k) ?_
      show own_Fin p e below s _ _ _ (T9.setTop (mkF m 39 #[.val (.int p0), .val (.int p1), .val (.int p2), .val (.int p3), .val (.int p4), .val (.int p2), .val (.int p3), .val (.ref b3), .unset, .unset, .unset] []))
      obtain ⟨T17, h17, X17, e17, E17, A17, D17, -, st17⟩ := newO X9 hx hZ hown (own_w hw 0 rfl) (own_w hw 1 rfl) (own_w hw 2 rfl) rfl (g := (mkF m 39 #[.val (.int p0), .val (.int p1), .val (.int p2), .val (.int p3), .val (.int p4), .val (.int p2), .val (.int p3), .val (.ref b3), .unset, .unset, .unset] [])) rfl (hb hby at_39) (by decide) (by decide)
      obtain ⟨b17, g17⟩ : ∃ z, z = T9.heap.size := ⟨_, rfl⟩
      rw [← g17] at A17 D17 st17
      have ne17_b3 : b3 ≠ b17 := Nat.ne_of_lt (Nat.lt_of_lt_of_le G10.lt (Nat.le_of_eq g17.symm))
      have gg17 : n0 ≤ b17 := Nat.le_trans Z9 (Nat.le_of_eq g17.symm)
      have sz17 : h0.size ≤ b17 := Nat.le_trans K9.1 (Nat.le_of_eq g17.symm)
      have K17 : Keep h0 h17 [] := K9.ext E17
      have Z17 : n0 ≤ h17.size := Nat.le_trans Z9 E17.1
      have G18 := (G13.ext E17)
      have G19 := (G14.ext E17)
      have G20 := (G15.ext E17)
      have G21 := (G10.ext E17)
      have G22 := (G11.ext E17)
      have G23 := (G12.ext E17)
      have G24 : Fld Z h17 b17 "com/example/tandem/tandem/analysis/Cuts$Range" "from" "I" (.int (0 : Int32)) := D17 (Or.inr (own_w hw 15 rfl)) (ty := .int) (by decide)
      have G25 : Fld Z h17 b17 "com/example/tandem/tandem/analysis/Cuts$Range" "to" "I" (.int (0 : Int32)) := D17 (Or.inr (own_w hw 17 rfl)) (ty := .int) (by decide)
      refine own_step st17 ?_
      show own_Fin p e below s _ _ _ (T17.setTop (mkF m 42 #[.val (.int p0), .val (.int p1), .val (.int p2), .val (.int p3), .val (.int p4), .val (.int p2), .val (.int p3), .val (.ref b3), .unset, .unset, .unset] [(.ref b17)]))
      refine own_step (fun _ k => XS.dup X17.here hx rfl (hb hby at_42) rfl rfl k) ?_
      show own_Fin p e below s _ _ _ (T17.setTop (mkF m 43 #[.val (.int p0), .val (.int p1), .val (.int p2), .val (.int p3), .val (.int p4), .val (.int p2), .val (.int p3), .val (.ref b3), .unset, .unset, .unset] [(.ref b17), (.ref b17)]))
      refine own_step (fun _ k => XS.iload X17.here hx rfl (hb hby at_43) rfl k) ?_
      show own_Fin p e below s _ _ _ (T17.setTop (mkF m 45 #[.val (.int p0), .val (.int p1), .val (.int p2), .val (.int p3), .val (.int p4), .val (.int p2), .val (.int p3), .val (.ref b3), .unset, .unset, .unset] [(.int p2), (.ref b17), (.ref b17)]))
      refine own_step (fun _ k => XS.iload X17.here hx rfl (hb hby at_45) rfl k) ?_
      show own_Fin p e below s _ _ _ (T17.setTop (mkF m 47 #[.val (.int p0), .val (.int p1), .val (.int p2), .val (.int p3), .val (.int p4), .val (.int p2), .val (.int p3), .val (.ref b3), .unset, .unset, .unset] [(.int p3), (.int p2), (.ref b17), (.ref b17)]))
      obtain ⟨_, _, ⟨T26, L26, k26, n26⟩, -, X26, ⟨Lc26, hQ26, l26, y26, z26⟩, st26⟩ := X17.specialBack hx (y := own_y3) rfl hown (mvT hZ (own_w hw 3 rfl)) (mvT hZ (own_w hw 4 rfl)) (mvT hZ (own_w hw 5 rfl)) (by decide) (backOf (W := 1) (own_rm2 l Z a0 hw hs [] b17 p2 p3 ((.int (0 : Int32))) ((.int (0 : Int32))) h17 n0 Z17 A17 G24 G25 gg17) hZ (own_w hw 5 rfl) (own_w hw 2 rfl) (by decide) (by decide)) (g := (mkF m 47 #[.val (.int p0), .val (.int p1), .val (.int p2), .val (.int p3), .val (.int p4), .val (.int p2), .val (.int p3), .val (.ref b3), .unset, .unset, .unset] [(.int p3), (.int p2), (.ref b17), (.ref b17)])) rfl (by rw [hml]; rfl) (Steps.refl _) (a := b17) (argsL := [(.int p2), (.int p3)]) (rest := [(.ref b17)]) (lenOf own_pd2 rfl) rfl (by show 2 * 0 + _ ≤ _; exact Nat.le_of_eq rfl) (hb hby at_47) (fun _ _ => ⟨rfl, e17, (by decide : 2 + 0 ≤ _), (by decide : 4 + 0 ≤ _)⟩)
      dsimp only [Pt.U, Pt.locs, Pt.cells, Pt.slots] at X26 l26 y26 z26 st26 hQ26
      subst l26 y26 z26
      obtain ⟨N26q, K26q, rfl, G27, G28, G29⟩ := hQ26
      have N26 := Fr.app N9 N26q
      have K26 : Keep h0 T26.heap [] := K17.trans K26q (allS (P := fun x => x ∈ [] ∨ h0.size ≤ x) (Or.inr sz17) all0)
      have Z26 : n0 ≤ T26.heap.size := Nat.le_trans Z17 K26q.1
      have G30 := (G18.keep K26q (allS (P := fun x => n0 ≤ x) gg17 all0))
      have G31 := (own_sta_keep G19 K26q (allS (P := own_Nst _) (own_nst_exa A17) all0))
      have G32 := (own_sta_keep G20 K26q (allS (P := own_Nst _) (own_nst_exa A17) all0))
      have G33 := (G21.keep K26q)
      have G34 := (G22.keep K26q (ninS ne17_b3 nin0))
      have G35 := (G23.keep K26q (ninS ne17_b3 nin0))
      have G36 := (A17.keep K26q)
      refine own_step (fun _ k => st26.trans k) ?_
      show own_Fin p e below s _ _ _ (T26.setTop (mkF m 50 #[.val (.int p0), .val (.int p1), .val (.int p2), .val (.int p3), .val (.int p4), .val (.int p2), .val (.int p3), .val (.ref b3), .unset, .unset, .unset] [(.ref b17)]))
      refine own_step (fun _ k => XS.astore X26.here hx rfl (hb hby at_50) rfl rfl (l' := #[.val (.int p0), .val (.int p1), .val (.int p2), .val (.int p3), .val (.int p4), .val (.int p2), .val (.int p3), .val (.ref b3), .val (.ref b17), .unset, .unset]) rfl k) ?_
      show own_Fin p e below s _ _ _ (T26.setTop (mkF m 52 #[.val (.int p0), .val (.int p1), .val (.int p2), .val (.int p3), .val (.int p4), .val (.int p2), .val (.int p3), .val (.ref b3), .val (.ref b17), .unset, .unset] []))
      refine own_step (fun _ k => XS.iloadN X26.here hx rfl (hb hby at_52) rfl k) ?_
      show own_Fin p e below s _ _ _ (T26.setTop (mkF m 53 #[.val (.int p0), .val (.int p1), .val (.int p2), .val (.int p3), .val (.int p4), .val (.int p2), .val (.int p3), .val (.ref b3), .val (.ref b17), .unset, .unset] [(.int p0)]))
      refine own_step (fun _ k => XS.iload X26.here hx rfl (hb hby at_53) rfl k) ?_
      show own_Fin p e below s _ _ _ (T26.setTop (mkF m 55 #[.val (.int p0), .val (.int p1), .val (.int p2), .val (.int p3), .val (.int p4), .val (.int p2), .val (.int p3), .val (.ref b3), .val (.ref b17), .unset, .unset] [(.int p2), (.int p0)]))
      by_cases hc37 : p0 = p2
      · refine own_step (fun _ k => XS.icmpNo X26.here hx rfl (hb hby at_55) rfl (teq hc37).2 k) ?_
        show own_Fin p e below s _ _ _ (T26.setTop (mkF m 58 #[.val (.int p0), .val (.int p1), .val (.int p2), .val (.int p3), .val (.int p4), .val (.int p2), .val (.int p3), .val (.ref b3), .val (.ref b17), .unset, .unset] []))
        refine own_step (fun _ k => XS.iloadN X26.here hx rfl (hb hby at_58) rfl k) ?_
        show own_Fin p e below s _ _ _ (T26.setTop (mkF m 59 #[.val (.int p0), .val (.int p1), .val (.int p2), .val (.int p3), .val (.int p4), .val (.int p2), .val (.int p3), .val (.ref b3), .val (.ref b17), .unset, .unset] [(.int p1)]))
        refine own_step (fun _ k => XS.iload X26.here hx rfl (hb hby at_59) rfl k) ?_
        show own_Fin p e below s _ _ _ (T26.setTop (mkF m 61 #[.val (.int p0), .val (.int p1), .val (.int p2), .val (.int p3), .val (.int p4), .val (.int p2), .val (.int p3), .val (.ref b3), .val (.ref b17), .unset, .unset] [(.int p3), (.int p1)]))
        by_cases hc38 : p1 = p3
        · refine own_step (fun _ k => XS.icmpNo X26.here hx rfl (hb hby at_61) rfl (teq hc38).2 k) ?_
          show own_Fin p e below s _ _ _ (T26.setTop (mkF m 64 #[.val (.int p0), .val (.int p1), .val (.int p2), .val (.int p3), .val (.int p4), .val (.int p2), .val (.int p3), .val (.ref b3), .val (.ref b17), .unset, .unset] []))
          refine own_step (fun _ k => XS.iconst X26.here hx rfl (hb hby at_64) k) ?_
          show own_Fin p e below s _ _ _ (T26.setTop (mkF m 65 #[.val (.int p0), .val (.int p1), .val (.int p2), .val (.int p3), .val (.int p4), .val (.int p2), .val (.int p3), .val (.ref b3), .val (.ref b17), .unset, .unset] [(.int (1 : Int32))]))
          refine own_step (fun _ k => XS.goto X26.here hx rfl (pc0 := 65) (pc' := 69) rfl (hb hby at_65) (by decide) (by decide) k) ?_
          show own_Fin p e below s _ _ _ (T26.setTop (mkF m 69 #[.val (.int p0), .val (.int p1), .val (.int p2), .val (.int p3), .val (.int p4), .val (.int p2), .val (.int p3), .val (.ref b3), .val (.ref b17), .unset, .unset] [(.int (1 : Int32))]))
          refine own_step (fun _ k => XS.istore X26.here hx rfl (hb hby at_69) rfl (l' := #[.val (.int p0), .val (.int p1), .val (.int p2), .val (.int p3), .val (.int p4), .val (.int p2), .val (.int p3), .val (.ref b3), .val (.ref b17), .val (.int (1 : Int32)), .unset]) rfl k) ?_
          show own_Fin p e below s _ _ _ (T26.setTop (mkF m 71 #[.val (.int p0), .val (.int p1), .val (.int p2), .val (.int p3), .val (.int p4), .val (.int p2), .val (.int p3), .val (.ref b3), .val (.ref b17), .val (.int (1 : Int32)), .unset] []))
          refine own_step (fun _ k => XS.iload X26.here hx rfl (hb hby at_71) rfl k) ?_
          show own_Fin p e below s _ _ _ (T26.setTop (mkF m 73 #[.val (.int p0), .val (.int p1), .val (.int p2), .val (.int p3), .val (.int p4), .val (.int p2), .val (.int p3), .val (.ref b3), .val (.ref b17), .val (.int (1 : Int32)), .unset] [(.int p4)]))
          refine own_step (fun _ k => XS.iconst X26.here hx rfl (hb hby at_73) k) ?_
          show own_Fin p e below s _ _ _ (T26.setTop (mkF m 74 #[.val (.int p0), .val (.int p1), .val (.int p2), .val (.int p3), .val (.int p4), .val (.int p2), .val (.int p3), .val (.ref b3), .val (.ref b17), .val (.int (1 : Int32)), .unset] [(.int (4 : Int32)), (.int p4)]))
          refine own_step (fun _ k => XS.iand X26.here hx rfl (hb hby at_74) rfl k) ?_
          show own_Fin p e below s _ _ _ (T26.setTop (mkF m 75 #[.val (.int p0), .val (.int p1), .val (.int p2), .val (.int p3), .val (.int p4), .val (.int p2), .val (.int p3), .val (.ref b3), .val (.ref b17), .val (.int (1 : Int32)), .unset] [(.int (p4 &&& (4 : Int32)))]))
          by_cases hc39 : (p4 &&& (4 : Int32)) = (0 : Int32)
          · refine own_step (fun _ k => XS.ifYes X26.here hx rfl (pc0 := 75) (pc' := 122) rfl (hb hby at_75) rfl ((if0 _ _).trans (teq hc39).1) (by decide) (by decide) k) ?_
            show own_Fin p e below s _ _ _ (T26.setTop (mkF m 122 #[.val (.int p0), .val (.int p1), .val (.int p2), .val (.int p3), .val (.int p4), .val (.int p2), .val (.int p3), .val (.ref b3), .val (.ref b17), .val (.int (1 : Int32)), .unset] []))
            refine own_step (fun _ k => XS.aload X26.here hx rfl (hb hby at_122) rfl rfl k) ?_
            show own_Fin p e below s _ _ _ (T26.setTop (mkF m 124 #[.val (.int p0), .val (.int p1), .val (.int p2), .val (.int p3), .val (.int p4), .val (.int p2), .val (.int p3), .val (.ref b3), .val (.ref b17), .val (.int (1 : Int32)), .unset] [(.ref b3)]))
            refine own_step (fun _ k => XS.aload X26.here hx rfl (hb hby at_124) rfl rfl k) ?_
            show own_Fin p e below s _ _ _ (T26.setTop (mkF m 126 #[.val (.int p0), .val (.int p1), .val (.int p2), .val (.int p3), .val (.int p4), .val (.int p2), .val (.int p3), .val (.ref b3), .val (.ref b17), .val (.int (1 : Int32)), .unset] [(.ref b17), (.ref b3)]))
            obtain ⟨cq40, kq40, q40a, q40b, q40c⟩ := isOf hZ rfl G33
            obtain ⟨_, _, ⟨T40, L40, k40, n40⟩, -, X40, ⟨Lc40, hQ40, l40, y40, z40⟩, st40⟩ := X26.virtualBack hx (y := own_y4) (z := own_y4) hown (mvT hZ (own_w hw 18 rfl)) (mvT hZ (own_w hw 19 rfl)) (notFace_of_selects (args := #[]) (mvT hZ (own_w hw 21 rfl))) (mvT hZ (own_w hw 21 rfl)) (mvT hZ (own_w hw 20 rfl)) (by decide) (backOf (W := 0) (own_rm8 l Z a0 hw hs [] b3 b17 p2 p0 p3 p1 T26.heap n0 Z26 G27 G28 G34 G29 G35) hZ (own_w hw 22 rfl) (own_w hw 2 rfl) (by decide) (by decide)) q40a q40c (g := (mkF m 126 #[.val (.int p0), .val (.int p1), .val (.int p2), .val (.int p3), .val (.int p4), .val (.int p2), .val (.int p3), .val (.ref b3), .val (.ref b17), .val (.int (1 : Int32)), .unset] [(.ref b17), (.ref b3)])) rfl (by rw [hml]; rfl) (Steps.refl _) (argsL := [(.ref b17)]) (rest := []) (lenOf own_pd3 rfl) rfl (by show 2 * 0 + _ ≤ _; exact Nat.le_of_eq rfl) (hb hby at_126) (fun _ _ => ⟨rfl, rfl, (by decide : 2 + 0 ≤ _), (by decide : 4 + 0 ≤ _)⟩)
            dsimp only [Pt.U, Pt.locs, Pt.cells, Pt.slots] at X40 l40 y40 z40 st40 hQ40
            subst l40 y40 z40
            obtain ⟨rfl, N40q, e40⟩ := hQ40
            have N40 := Fr.app N26 N40q
            refine own_step (fun _ k => st40.trans k) ?_
            show own_Fin p e below s _ _ _ (T40.setTop (mkF m 129 #[.val (.int p0), .val (.int p1), .val (.int p2), .val (.int p3), .val (.int p4), .val (.int p2), .val (.int p3), .val (.ref b3), .val (.ref b17), .val (.int (1 : Int32)), .unset] [(.int (own_r8 p2 p0 p3 p1))]))
            refine own_step (fun _ k => XS.iload X40.here hx rfl (hb hby at_129) rfl k) ?_
            show own_Fin p e below s _ _ _ (T40.setTop (mkF m 131 #[.val (.int p0), .val (.int p1), .val (.int p2), .val (.int p3), .val (.int p4), .val (.int p2), .val (.int p3), .val (.ref b3), .val (.ref b17), .val (.int (1 : Int32)), .unset] [(.int (1 : Int32)), (.int (own_r8 p2 p0 p3 p1))]))
            have hf41 : (own_r8 p2 p0 p3 p1) = (1 : Int32) := by rw [own_r8, if_pos (hc37.symm), if_pos (hc38.symm)]
            refine own_step (fun _ k => XS.icmpNo X40.here hx rfl (hb hby at_131) rfl (teq hf41).2 k) ?_
            show own_Fin p e below s _ _ _ (T40.setTop (mkF m 134 #[.val (.int p0), .val (.int p1), .val (.int p2), .val (.int p3), .val (.int p4), .val (.int p2), .val (.int p3), .val (.ref b3), .val (.ref b17), .val (.int (1 : Int32)), .unset] []))
            refine own_step (fun _ k => XS.aload X40.here hx rfl (hb hby at_134) rfl rfl k) ?_
            show own_Fin p e below s _ _ _ (T40.setTop (mkF m 136 #[.val (.int p0), .val (.int p1), .val (.int p2), .val (.int p3), .val (.int p4), .val (.int p2), .val (.int p3), .val (.ref b3), .val (.ref b17), .val (.int (1 : Int32)), .unset] [(.ref b17)]))
            refine own_step (fun _ k => XS.aload X40.here hx rfl (hb hby at_136) rfl rfl k) ?_
            show own_Fin p e below s _ _ _ (T40.setTop (mkF m 138 #[.val (.int p0), .val (.int p1), .val (.int p2), .val (.int p3), .val (.int p4), .val (.int p2), .val (.int p3), .val (.ref b3), .val (.ref b17), .val (.int (1 : Int32)), .unset] [(.ref b3), (.ref b17)]))
            obtain ⟨cq42, kq42, q42a, q42b, q42c⟩ := isOf hZ e40 G27
            obtain ⟨_, _, ⟨T42, L42, k42, n42⟩, -, X42, ⟨Lc42, hQ42, l42, y42, z42⟩, st42⟩ := X40.virtualBack hx (y := own_y4) (z := own_y4) hown (mvT hZ (own_w hw 18 rfl)) (mvT hZ (own_w hw 19 rfl)) (notFace_of_selects (args := #[]) (mvT hZ (own_w hw 21 rfl))) (mvT hZ (own_w hw 21 rfl)) (mvT hZ (own_w hw 20 rfl)) (by decide) (backOf (W := 0) (own_rm8 l Z a0 hw hs [] b17 b3 p0 p2 p1 p3 T26.heap n0 Z26 G33 G34 G28 G35 G29) hZ (own_w hw 22 rfl) (own_w hw 2 rfl) (by decide) (by decide)) q42a q42c (g := (mkF m 138 #[.val (.int p0), .val (.int p1), .val (.int p2), .val (.int p3), .val (.int p4), .val (.int p2), .val (.int p3), .val (.ref b3), .val (.ref b17), .val (.int (1 : Int32)), .unset] [(.ref b3), (.ref b17)])) rfl (by rw [hml]; rfl) (Steps.refl _) (argsL := [(.ref b3)]) (rest := []) (lenOf own_pd3 rfl) rfl (by show 2 * 0 + _ ≤ _; exact Nat.le_of_eq rfl) (hb hby at_138) (fun _ _ => ⟨rfl, e40, (by decide : 2 + 0 ≤ _), (by decide : 4 + 0 ≤ _)⟩)
            dsimp only [Pt.U, Pt.locs, Pt.cells, Pt.slots] at X42 l42 y42 z42 st42 hQ42
            subst l42 y42 z42
            obtain ⟨rfl, N42q, e42⟩ := hQ42
            have N42 := Fr.app N40 N42q
            refine own_step (fun _ k => st42.trans k) ?_
            show own_Fin p e below s _ _ _ (T42.setTop (mkF m 141 #[.val (.int p0), .val (.int p1), .val (.int p2), .val (.int p3), .val (.int p4), .val (.int p2), .val (.int p3), .val (.ref b3), .val (.ref b17), .val (.int (1 : Int32)), .unset] [(.int (own_r8 p0 p2 p1 p3))]))
            refine own_step (fun _ k => XS.iload X42.here hx rfl (hb hby at_141) rfl k) ?_
            show own_Fin p e below s _ _ _ (T42.setTop (mkF m 143 #[.val (.int p0), .val (.int p1), .val (.int p2), .val (.int p3), .val (.int p4), .val (.int p2), .val (.int p3), .val (.ref b3), .val (.ref b17), .val (.int (1 : Int32)), .unset] [(.int (1 : Int32)), (.int (own_r8 p0 p2 p1 p3))]))
            have hf43 : (own_r8 p0 p2 p1 p3) = (1 : Int32) := by rw [own_r8, if_pos (hc37), if_pos (hc38)]
            refine own_step (fun _ k => XS.icmpNo X42.here hx rfl (hb hby at_143) rfl (teq hf43).2 k) ?_
            show own_Fin p e below s _ _ _ (T42.setTop (mkF m 146 #[.val (.int p0), .val (.int p1), .val (.int p2), .val (.int p3), .val (.int p4), .val (.int p2), .val (.int p3), .val (.ref b3), .val (.ref b17), .val (.int (1 : Int32)), .unset] []))
            refine own_step (fun _ k => XS.aload X42.here hx rfl (hb hby at_146) rfl rfl k) ?_
            show own_Fin p e below s _ _ _ (T42.setTop (mkF m 148 #[.val (.int p0), .val (.int p1), .val (.int p2), .val (.int p3), .val (.int p4), .val (.int p2), .val (.int p3), .val (.ref b3), .val (.ref b17), .val (.int (1 : Int32)), .unset] [(.ref b3)]))
            refine own_step (fun _ k => XS.aload X42.here hx rfl (hb hby at_148) rfl rfl k) ?_
            show own_Fin p e below s _ _ _ (T42.setTop (mkF m 150 #[.val (.int p0), .val (.int p1), .val (.int p2), .val (.int p3), .val (.int p4), .val (.int p2), .val (.int p3), .val (.ref b3), .val (.ref b17), .val (.int (1 : Int32)), .unset] [(.ref b3), (.ref b3)]))
            obtain ⟨cq44, kq44, q44a, q44b, q44c⟩ := isOf hZ e42 G33
            obtain ⟨_, _, ⟨T44, L44, k44, n44⟩, -, X44, ⟨Lc44, hQ44, l44, y44, z44⟩, st44⟩ := X42.virtualBack hx (y := own_y4) (z := own_y4) hown (mvT hZ (own_w hw 18 rfl)) (mvT hZ (own_w hw 19 rfl)) (notFace_of_selects (args := #[]) (mvT hZ (own_w hw 21 rfl))) (mvT hZ (own_w hw 21 rfl)) (mvT hZ (own_w hw 20 rfl)) (by decide) (backOf (W := 0) (own_rm8 l Z a0 hw hs [] b3 b3 p0 p0 p1 p1 T26.heap n0 Z26 G33 G34 G34 G35 G35) hZ (own_w hw 22 rfl) (own_w hw 2 rfl) (by decide) (by decide)) q44a q44c (g := (mkF m 150 #[.val (.int p0), .val (.int p1), .val (.int p2), .val (.int p3), .val (.int p4), .val (.int p2), .val (.int p3), .val (.ref b3), .val (.ref b17), .val (.int (1 : Int32)), .unset] [(.ref b3), (.ref b3)])) rfl (by rw [hml]; rfl) (Steps.refl _) (argsL := [(.ref b3)]) (rest := []) (lenOf own_pd3 rfl) rfl (by show 2 * 0 + _ ≤ _; exact Nat.le_of_eq rfl) (hb hby at_150) (fun _ _ => ⟨rfl, e42, (by decide : 2 + 0 ≤ _), (by decide : 4 + 0 ≤ _)⟩)
            dsimp only [Pt.U, Pt.locs, Pt.cells, Pt.slots] at X44 l44 y44 z44 st44 hQ44
            subst l44 y44 z44
            obtain ⟨rfl, N44q, e44⟩ := hQ44
            have N44 := Fr.app N42 N44q
            refine own_step (fun _ k => st44.trans k) ?_
            show own_Fin p e below s _ _ _ (T44.setTop (mkF m 153 #[.val (.int p0), .val (.int p1), .val (.int p2), .val (.int p3), .val (.int p4), .val (.int p2), .val (.int p3), .val (.ref b3), .val (.ref b17), .val (.int (1 : Int32)), .unset] [(.int (own_r8 p0 p0 p1 p1))]))
            have hf45 : ¬ ((own_r8 p0 p0 p1 p1) = (0 : Int32)) := by rw [show (own_r8 p0 p0 p1 p1) = (1 : Int32) from by rw [own_r8, if_pos (rfl), if_pos (rfl)]]; decide
            refine own_step (fun _ k => XS.ifNo X44.here hx rfl (hb hby at_153) rfl ((if0 _ _).trans (feq hf45).1) k) ?_
            show own_Fin p e below s _ _ _ (T44.setTop (mkF m 156 #[.val (.int p0), .val (.int p1), .val (.int p2), .val (.int p3), .val (.int p4), .val (.int p2), .val (.int p3), .val (.ref b3), .val (.ref b17), .val (.int (1 : Int32)), .unset] []))
            refine own_step (fun _ k => XS.iconst X44.here hx rfl (hb hby at_156) k) ?_
            show own_Fin p e below s _ _ _ (T44.setTop (mkF m 157 #[.val (.int p0), .val (.int p1), .val (.int p2), .val (.int p3), .val (.int p4), .val (.int p2), .val (.int p3), .val (.ref b3), .val (.ref b17), .val (.int (1 : Int32)), .unset] [(.int (1 : Int32))]))
            refine own_step (fun _ k => XS.goto X44.here hx rfl (pc0 := 157) (pc' := 161) rfl (hb hby at_157) (by decide) (by decide) k) ?_
            show own_Fin p e below s _ _ _ (T44.setTop (mkF m 161 #[.val (.int p0), .val (.int p1), .val (.int p2), .val (.int p3), .val (.int p4), .val (.int p2), .val (.int p3), .val (.ref b3), .val (.ref b17), .val (.int (1 : Int32)), .unset] [(.int (1 : Int32))]))
            exact own_ret X44 hlk (v := some (.int (1 : Int32))) (fun h => by rw [Bd.returns] at h; cases h) (by decide) (by decide) (by show own_Q9 Z p0 p1 p2 p3 p4 s_cache cl_cache h0 n0 _ T44.heap _; rw [e44]; exact ⟨rfl, N44⟩) (fun fs hr => retN X44 hx (t := .boolean) Bd.returns (by simp) (hb hby at_161) hr)
          · refine own_step (fun _ k => XS.ifNo X26.here hx rfl (hb hby at_75) rfl ((if0 _ _).trans (feq hc39).1) k) ?_
            show own_Fin p e below s _ _ _ (T26.setTop (mkF m 78 #[.val (.int p0), .val (.int p1), .val (.int p2), .val (.int p3), .val (.int p4), .val (.int p2), .val (.int p3), .val (.ref b3), .val (.ref b17), .val (.int (1 : Int32)), .unset] []))
            refine own_step (fun _ k => XS.iload X26.here hx rfl (hb hby at_78) rfl k) ?_
            show own_Fin p e below s _ _ _ (T26.setTop (mkF m 80 #[.val (.int p0), .val (.int p1), .val (.int p2), .val (.int p3), .val (.int p4), .val (.int p2), .val (.int p3), .val (.ref b3), .val (.ref b17), .val (.int (1 : Int32)), .unset] [(.int p4)]))
            refine own_step (fun _ k => XS.bipush X26.here hx rfl (hb hby at_80) k) ?_
            show own_Fin p e below s _ _ _ (T26.setTop (mkF m 82 #[.val (.int p0), .val (.int p1), .val (.int p2), .val (.int p3), .val (.int p4), .val (.int p2), .val (.int p3), .val (.ref b3), .val (.ref b17), .val (.int (1 : Int32)), .unset] [(.int (8 : Int32)), (.int p4)]))
            refine own_step (fun _ k => XS.iand X26.here hx rfl (hb hby at_82) rfl k) ?_
            show own_Fin p e below s _ _ _ (T26.setTop (mkF m 83 #[.val (.int p0), .val (.int p1), .val (.int p2), .val (.int p3), .val (.int p4), .val (.int p2), .val (.int p3), .val (.ref b3), .val (.ref b17), .val (.int (1 : Int32)), .unset] [(.int (p4 &&& (8 : Int32)))]))
            by_cases hc46 : (p4 &&& (8 : Int32)) = (0 : Int32)
            · refine own_step (fun _ k => XS.ifYes X26.here hx rfl (pc0 := 83) (pc' := 90) rfl (hb hby at_83) rfl ((if0 _ _).trans (teq hc46).1) (by decide) (by decide) k) ?_
              show own_Fin p e below s _ _ _ (T26.setTop (mkF m 90 #[.val (.int p0), .val (.int p1), .val (.int p2), .val (.int p3), .val (.int p4), .val (.int p2), .val (.int p3), .val (.ref b3), .val (.ref b17), .val (.int (1 : Int32)), .unset] []))
              refine own_step (fun _ k => XS.iloadN X26.here hx rfl (hb hby at_90) rfl k) ?_
              show own_Fin p e below s _ _ _ (T26.setTop (mkF m 91 #[.val (.int p0), .val (.int p1), .val (.int p2), .val (.int p3), .val (.int p4), .val (.int p2), .val (.int p3), .val (.ref b3), .val (.ref b17), .val (.int (1 : Int32)), .unset] [(.int p0)]))
              obtain ⟨_, _, ⟨T47, L47, k47, n47⟩, -, X47, ⟨Lc47, hQ47, l47, y47, z47⟩, st47⟩ := Jvm.LawKit.callS X26 hx (y := own_y5) hown (mvT hZ (own_w hw 25 rfl)) (mvT hZ (own_w hw 26 rfl)) (mvT hZ (own_w hw 27 rfl)) (mvT hZ (own_w hw 28 rfl)) (by decide) (backOf (W := 0) (own_rm5 l Z a0 hw hs [] p0 s_cache cl_cache T26.heap n0 Z26 G30 G31 G32 Bx) hZ (own_w hw 28 rfl) (own_w hw 27 rfl) (by decide) (by decide)) (g := (mkF m 91 #[.val (.int p0), .val (.int p1), .val (.int p2), .val (.int p3), .val (.int p4), .val (.int p2), .val (.int p3), .val (.ref b3), .val (.ref b17), .val (.int (1 : Int32)), .unset] [(.int p0)])) rfl (by rw [hml]; rfl) (argsL := [(.int p0)]) (rest := []) (lenOf own_pd4 rfl) rfl (by show 2 * 0 + _ ≤ _; exact Nat.le_of_eq rfl) (hb hby at_91) (fun _ _ => ⟨rfl, rfl, (by decide : 2 + 1 ≤ _), (by decide : 4 + 1 ≤ _)⟩)
              dsimp only [Pt.U, Pt.locs, Pt.cells, Pt.slots] at X47 l47 y47 z47 st47 hQ47
              subst l47 y47 z47
              obtain ⟨N47q, K47q, b47_o0, rfl, G48⟩ := hQ47
              have N47 := Fr.app N26 N47q
              have K47 : Keep h0 T47.heap [] := K26.trans K47q all0
              have Z47 : n0 ≤ T47.heap.size := Nat.le_trans Z26 K47q.1
              have G49 := (G30.keep K47q all0)
              have G50 := (own_sta_keep0 G31 K47q)
              have G51 := (own_sta_keep0 G32 K47q)
              have G52 := (G33.keep K47q)
              have G53 := (G34.keep K47q nin0)
              have G54 := (G35.keep K47q nin0)
              have G55 := (G27.keep K47q)
              have G56 := (G28.keep K47q nin0)
              have G57 := (G29.keep K47q nin0)
              refine own_step (fun _ k => st47 _ k) ?_
              show own_Fin p e below s _ _ _ (T47.setTop (mkF m 94 #[.val (.int p0), .val (.int p1), .val (.int p2), .val (.int p3), .val (.int p4), .val (.int p2), .val (.int p3), .val (.ref b3), .val (.ref b17), .val (.int (1 : Int32)), .unset] [(.ref b47_o0)]))
              refine own_step (fun _ k => XS.astore X47.here hx rfl (hb hby at_94) rfl rfl (l' := #[.val (.int p0), .val (.int p1), .val (.int p2), .val (.int p3), .val (.int p4), .val (.int p2), .val (.int p3), .val (.ref b3), .val (.ref b17), .val (.int (1 : Int32)), .val (.ref b47_o0)]) rfl k) ?_
              show own_Fin p e below s _ _ _ (T47.setTop (mkF m 96 #[.val (.int p0), .val (.int p1), .val (.int p2), .val (.int p3), .val (.int p4), .val (.int p2), .val (.int p3), .val (.ref b3), .val (.ref b17), .val (.int (1 : Int32)), .val (.ref b47_o0)] []))
              refine own_step (fun _ k => XS.aload X47.here hx rfl (hb hby at_96) rfl rfl k) ?_
              show own_Fin p e below s _ _ _ (T47.setTop (mkF m 98 #[.val (.int p0), .val (.int p1), .val (.int p2), .val (.int p3), .val (.int p4), .val (.int p2), .val (.int p3), .val (.ref b3), .val (.ref b17), .val (.int (1 : Int32)), .val (.ref b47_o0)] [(.ref b3)]))
              refine own_step (fun _ k => XS.aload X47.here hx rfl (hb hby at_98) rfl rfl k) ?_
              show own_Fin p e below s _ _ _ (T47.setTop (mkF m 100 #[.val (.int p0), .val (.int p1), .val (.int p2), .val (.int p3), .val (.int p4), .val (.int p2), .val (.int p3), .val (.ref b3), .val (.ref b17), .val (.int (1 : Int32)), .val (.ref b47_o0)] [(.ref b47_o0), (.ref b3)]))
              obtain ⟨cq58, kq58, q58a, q58b, q58c⟩ := isOf hZ rfl G52
              obtain ⟨_, _, ⟨T58, L58, k58, n58⟩, -, X58, ⟨Lc58, hQ58, l58, y58, z58⟩, st58⟩ := X47.virtualBack hx (y := own_y4) (z := own_y4) hown (mvT hZ (own_w hw 18 rfl)) (mvT hZ (own_w hw 19 rfl)) (notFace_of_selects (args := #[]) (mvT hZ (own_w hw 21 rfl))) (mvT hZ (own_w hw 21 rfl)) (mvT hZ (own_w hw 20 rfl)) (by decide) (backOf (W := 0) (own_rm7 l Z a0 hw hs [] b3 b47_o0 T47.heap n0 Z47 G48) hZ (own_w hw 22 rfl) (own_w hw 2 rfl) (by decide) (by decide)) q58a q58c (g := (mkF m 100 #[.val (.int p0), .val (.int p1), .val (.int p2), .val (.int p3), .val (.int p4), .val (.int p2), .val (.int p3), .val (.ref b3), .val (.ref b17), .val (.int (1 : Int32)), .val (.ref b47_o0)] [(.ref b47_o0), (.ref b3)])) rfl (by rw [hml]; rfl) (Steps.refl _) (argsL := [(.ref b47_o0)]) (rest := []) (lenOf own_pd3 rfl) rfl (by show 2 * 0 + _ ≤ _; exact Nat.le_of_eq rfl) (hb hby at_100) (fun _ _ => ⟨rfl, rfl, (by decide : 3 + 0 ≤ _), (by decide : 5 + 0 ≤ _)⟩)
              dsimp only [Pt.U, Pt.locs, Pt.cells, Pt.slots] at X58 l58 y58 z58 st58 hQ58
              subst l58 y58 z58
              obtain ⟨rfl, N58q, e58⟩ := hQ58
              have N58 := Fr.app N47 N58q
              refine own_step (fun _ k => st58.trans k) ?_
              show own_Fin p e below s _ _ _ (T58.setTop (mkF m 103 #[.val (.int p0), .val (.int p1), .val (.int p2), .val (.int p3), .val (.int p4), .val (.int p2), .val (.int p3), .val (.ref b3), .val (.ref b17), .val (.int (1 : Int32)), .val (.ref b47_o0)] [(.int (0 : Int32))]))
              refine own_step (fun _ k => XS.ifNo X58.here hx rfl (hb hby at_103) rfl ((if0 _ _).trans (teq (by decide : (0 : Int32) = (0 : Int32))).2) k) ?_
              show own_Fin p e below s _ _ _ (T58.setTop (mkF m 106 #[.val (.int p0), .val (.int p1), .val (.int p2), .val (.int p3), .val (.int p4), .val (.int p2), .val (.int p3), .val (.ref b3), .val (.ref b17), .val (.int (1 : Int32)), .val (.ref b47_o0)] []))
              refine own_step (fun _ k => XS.aload X58.here hx rfl (hb hby at_106) rfl rfl k) ?_
              show own_Fin p e below s _ _ _ (T58.setTop (mkF m 108 #[.val (.int p0), .val (.int p1), .val (.int p2), .val (.int p3), .val (.int p4), .val (.int p2), .val (.int p3), .val (.ref b3), .val (.ref b17), .val (.int (1 : Int32)), .val (.ref b47_o0)] [(.ref b3)]))
              refine own_step (fun _ k => XS.aload X58.here hx rfl (hb hby at_108) rfl rfl k) ?_
              show own_Fin p e below s _ _ _ (T58.setTop (mkF m 110 #[.val (.int p0), .val (.int p1), .val (.int p2), .val (.int p3), .val (.int p4), .val (.int p2), .val (.int p3), .val (.ref b3), .val (.ref b17), .val (.int (1 : Int32)), .val (.ref b47_o0)] [(.ref b3), (.ref b3)]))
              obtain ⟨cq59, kq59, q59a, q59b, q59c⟩ := isOf hZ e58 G52
              obtain ⟨_, _, ⟨T59, L59, k59, n59⟩, -, X59, ⟨Lc59, hQ59, l59, y59, z59⟩, st59⟩ := X58.virtualBack hx (y := own_y4) (z := own_y4) hown (mvT hZ (own_w hw 18 rfl)) (mvT hZ (own_w hw 19 rfl)) (notFace_of_selects (args := #[]) (mvT hZ (own_w hw 21 rfl))) (mvT hZ (own_w hw 21 rfl)) (mvT hZ (own_w hw 20 rfl)) (by decide) (backOf (W := 0) (own_rm8 l Z a0 hw hs [] b3 b3 p0 p0 p1 p1 T47.heap n0 Z47 G52 G53 G53 G54 G54) hZ (own_w hw 22 rfl) (own_w hw 2 rfl) (by decide) (by decide)) q59a q59c (g := (mkF m 110 #[.val (.int p0), .val (.int p1), .val (.int p2), .val (.int p3), .val (.int p4), .val (.int p2), .val (.int p3), .val (.ref b3), .val (.ref b17), .val (.int (1 : Int32)), .val (.ref b47_o0)] [(.ref b3), (.ref b3)])) rfl (by rw [hml]; rfl) (Steps.refl _) (argsL := [(.ref b3)]) (rest := []) (lenOf own_pd3 rfl) rfl (by show 2 * 0 + _ ≤ _; exact Nat.le_of_eq rfl) (hb hby at_110) (fun _ _ => ⟨rfl, e58, (by decide : 3 + 0 ≤ _), (by decide : 5 + 0 ≤ _)⟩)
              dsimp only [Pt.U, Pt.locs, Pt.cells, Pt.slots] at X59 l59 y59 z59 st59 hQ59
              subst l59 y59 z59
              obtain ⟨rfl, N59q, e59⟩ := hQ59
              have N59 := Fr.app N58 N59q
              refine own_step (fun _ k => st59.trans k) ?_
              show own_Fin p e below s _ _ _ (T59.setTop (mkF m 113 #[.val (.int p0), .val (.int p1), .val (.int p2), .val (.int p3), .val (.int p4), .val (.int p2), .val (.int p3), .val (.ref b3), .val (.ref b17), .val (.int (1 : Int32)), .val (.ref b47_o0)] [(.int (own_r8 p0 p0 p1 p1))]))
              have hf60 : ¬ ((own_r8 p0 p0 p1 p1) = (0 : Int32)) := by rw [show (own_r8 p0 p0 p1 p1) = (1 : Int32) from by rw [own_r8, if_pos (rfl), if_pos (rfl)]]; decide
              refine own_step (fun _ k => XS.ifNo X59.here hx rfl (hb hby at_113) rfl ((if0 _ _).trans (feq hf60).1) k) ?_
              show own_Fin p e below s _ _ _ (T59.setTop (mkF m 116 #[.val (.int p0), .val (.int p1), .val (.int p2), .val (.int p3), .val (.int p4), .val (.int p2), .val (.int p3), .val (.ref b3), .val (.ref b17), .val (.int (1 : Int32)), .val (.ref b47_o0)] []))
              refine own_step (fun _ k => XS.iconst X59.here hx rfl (hb hby at_116) k) ?_
              show own_Fin p e below s _ _ _ (T59.setTop (mkF m 117 #[.val (.int p0), .val (.int p1), .val (.int p2), .val (.int p3), .val (.int p4), .val (.int p2), .val (.int p3), .val (.ref b3), .val (.ref b17), .val (.int (1 : Int32)), .val (.ref b47_o0)] [(.int (1 : Int32))]))
              refine own_step (fun _ k => XS.goto X59.here hx rfl (pc0 := 117) (pc' := 121) rfl (hb hby at_117) (by decide) (by decide) k) ?_
              show own_Fin p e below s _ _ _ (T59.setTop (mkF m 121 #[.val (.int p0), .val (.int p1), .val (.int p2), .val (.int p3), .val (.int p4), .val (.int p2), .val (.int p3), .val (.ref b3), .val (.ref b17), .val (.int (1 : Int32)), .val (.ref b47_o0)] [(.int (1 : Int32))]))
              exact own_ret X59 hlk (v := some (.int (1 : Int32))) (fun h => by rw [Bd.returns] at h; cases h) (by decide) (by decide) (by show own_Q9 Z p0 p1 p2 p3 p4 s_cache cl_cache h0 n0 _ T59.heap _; rw [e59]; exact ⟨rfl, N59⟩) (fun fs hr => retN X59 hx (t := .boolean) Bd.returns (by simp) (hb hby at_121) hr)
            · refine own_step (fun _ k => XS.ifNo X26.here hx rfl (hb hby at_83) rfl ((if0 _ _).trans (feq hc46).1) k) ?_
              show own_Fin p e below s _ _ _ (T26.setTop (mkF m 86 #[.val (.int p0), .val (.int p1), .val (.int p2), .val (.int p3), .val (.int p4), .val (.int p2), .val (.int p3), .val (.ref b3), .val (.ref b17), .val (.int (1 : Int32)), .unset] []))
              refine own_step (fun _ k => XS.aconstNull X26.here hx rfl (hb hby at_86) k) ?_
              show own_Fin p e below s _ _ _ (T26.setTop (mkF m 87 #[.val (.int p0), .val (.int p1), .val (.int p2), .val (.int p3), .val (.int p4), .val (.int p2), .val (.int p3), .val (.ref b3), .val (.ref b17), .val (.int (1 : Int32)), .unset] [.null]))
              refine own_step (fun _ k => XS.goto X26.here hx rfl (pc0 := 87) (pc' := 94) rfl (hb hby at_87) (by decide) (by decide) k) ?_
              show own_Fin p e below s _ _ _ (T26.setTop (mkF m 94 #[.val (.int p0), .val (.int p1), .val (.int p2), .val (.int p3), .val (.int p4), .val (.int p2), .val (.int p3), .val (.ref b3), .val (.ref b17), .val (.int (1 : Int32)), .unset] [.null]))
              refine own_step (fun _ k => XS.astore X26.here hx rfl (hb hby at_94) rfl rfl (l' := #[.val (.int p0), .val (.int p1), .val (.int p2), .val (.int p3), .val (.int p4), .val (.int p2), .val (.int p3), .val (.ref b3), .val (.ref b17), .val (.int (1 : Int32)), .val .null]) rfl k) ?_
              show own_Fin p e below s _ _ _ (T26.setTop (mkF m 96 #[.val (.int p0), .val (.int p1), .val (.int p2), .val (.int p3), .val (.int p4), .val (.int p2), .val (.int p3), .val (.ref b3), .val (.ref b17), .val (.int (1 : Int32)), .val .null] []))
              refine own_step (fun _ k => XS.aload X26.here hx rfl (hb hby at_96) rfl rfl k) ?_
              show own_Fin p e below s _ _ _ (T26.setTop (mkF m 98 #[.val (.int p0), .val (.int p1), .val (.int p2), .val (.int p3), .val (.int p4), .val (.int p2), .val (.int p3), .val (.ref b3), .val (.ref b17), .val (.int (1 : Int32)), .val .null] [(.ref b3)]))
              refine own_step (fun _ k => XS.aload X26.here hx rfl (hb hby at_98) rfl rfl k) ?_
              show own_Fin p e below s _ _ _ (T26.setTop (mkF m 100 #[.val (.int p0), .val (.int p1), .val (.int p2), .val (.int p3), .val (.int p4), .val (.int p2), .val (.int p3), .val (.ref b3), .val (.ref b17), .val (.int (1 : Int32)), .val .null] [.null, (.ref b3)]))
              obtain ⟨cq61, kq61, q61a, q61b, q61c⟩ := isOf hZ rfl G33
              obtain ⟨_, _, ⟨T61, L61, k61, n61⟩, -, X61, ⟨Lc61, hQ61, l61, y61, z61⟩, st61⟩ := X26.virtualBack hx (y := own_y4) (z := own_y4) hown (mvT hZ (own_w hw 18 rfl)) (mvT hZ (own_w hw 19 rfl)) (notFace_of_selects (args := #[]) (mvT hZ (own_w hw 21 rfl))) (mvT hZ (own_w hw 21 rfl)) (mvT hZ (own_w hw 20 rfl)) (by decide) (backOf (W := 0) (own_rm6 l Z a0 hw hs [] b3 T26.heap n0 Z26 ) hZ (own_w hw 22 rfl) (own_w hw 2 rfl) (by decide) (by decide)) q61a q61c (g := (mkF m 100 #[.val (.int p0), .val (.int p1), .val (.int p2), .val (.int p3), .val (.int p4), .val (.int p2), .val (.int p3), .val (.ref b3), .val (.ref b17), .val (.int (1 : Int32)), .val .null] [.null, (.ref b3)])) rfl (by rw [hml]; rfl) (Steps.refl _) (argsL := [.null]) (rest := []) (lenOf own_pd3 rfl) rfl (by show 2 * 0 + _ ≤ _; exact Nat.le_of_eq rfl) (hb hby at_100) (fun _ _ => ⟨rfl, rfl, (by decide : 2 + 0 ≤ _), (by decide : 4 + 0 ≤ _)⟩)
              dsimp only [Pt.U, Pt.locs, Pt.cells, Pt.slots] at X61 l61 y61 z61 st61 hQ61
              subst l61 y61 z61
              obtain ⟨rfl, N61q, e61⟩ := hQ61
              have N61 := Fr.app N26 N61q
              refine own_step (fun _ k => st61.trans k) ?_
              show own_Fin p e below s _ _ _ (T61.setTop (mkF m 103 #[.val (.int p0), .val (.int p1), .val (.int p2), .val (.int p3), .val (.int p4), .val (.int p2), .val (.int p3), .val (.ref b3), .val (.ref b17), .val (.int (1 : Int32)), .val .null] [(.int (0 : Int32))]))
              refine own_step (fun _ k => XS.ifNo X61.here hx rfl (hb hby at_103) rfl ((if0 _ _).trans (teq (by decide : (0 : Int32) = (0 : Int32))).2) k) ?_
              show own_Fin p e below s _ _ _ (T61.setTop (mkF m 106 #[.val (.int p0), .val (.int p1), .val (.int p2), .val (.int p3), .val (.int p4), .val (.int p2), .val (.int p3), .val (.ref b3), .val (.ref b17), .val (.int (1 : Int32)), .val .null] []))
              refine own_step (fun _ k => XS.aload X61.here hx rfl (hb hby at_106) rfl rfl k) ?_
              show own_Fin p e below s _ _ _ (T61.setTop (mkF m 108 #[.val (.int p0), .val (.int p1), .val (.int p2), .val (.int p3), .val (.int p4), .val (.int p2), .val (.int p3), .val (.ref b3), .val (.ref b17), .val (.int (1 : Int32)), .val .null] [(.ref b3)]))
              refine own_step (fun _ k => XS.aload X61.here hx rfl (hb hby at_108) rfl rfl k) ?_
              show own_Fin p e below s _ _ _ (T61.setTop (mkF m 110 #[.val (.int p0), .val (.int p1), .val (.int p2), .val (.int p3), .val (.int p4), .val (.int p2), .val (.int p3), .val (.ref b3), .val (.ref b17), .val (.int (1 : Int32)), .val .null] [(.ref b3), (.ref b3)]))
              obtain ⟨cq62, kq62, q62a, q62b, q62c⟩ := isOf hZ e61 G33
              obtain ⟨_, _, ⟨T62, L62, k62, n62⟩, -, X62, ⟨Lc62, hQ62, l62, y62, z62⟩, st62⟩ := X61.virtualBack hx (y := own_y4) (z := own_y4) hown (mvT hZ (own_w hw 18 rfl)) (mvT hZ (own_w hw 19 rfl)) (notFace_of_selects (args := #[]) (mvT hZ (own_w hw 21 rfl))) (mvT hZ (own_w hw 21 rfl)) (mvT hZ (own_w hw 20 rfl)) (by decide) (backOf (W := 0) (own_rm8 l Z a0 hw hs [] b3 b3 p0 p0 p1 p1 T26.heap n0 Z26 G33 G34 G34 G35 G35) hZ (own_w hw 22 rfl) (own_w hw 2 rfl) (by decide) (by decide)) q62a q62c (g := (mkF m 110 #[.val (.int p0), .val (.int p1), .val (.int p2), .val (.int p3), .val (.int p4), .val (.int p2), .val (.int p3), .val (.ref b3), .val (.ref b17), .val (.int (1 : Int32)), .val .null] [(.ref b3), (.ref b3)])) rfl (by rw [hml]; rfl) (Steps.refl _) (argsL := [(.ref b3)]) (rest := []) (lenOf own_pd3 rfl) rfl (by show 2 * 0 + _ ≤ _; exact Nat.le_of_eq rfl) (hb hby at_110) (fun _ _ => ⟨rfl, e61, (by decide : 2 + 0 ≤ _), (by decide : 4 + 0 ≤ _)⟩)
              dsimp only [Pt.U, Pt.locs, Pt.cells, Pt.slots] at X62 l62 y62 z62 st62 hQ62
              subst l62 y62 z62
              obtain ⟨rfl, N62q, e62⟩ := hQ62
              have N62 := Fr.app N61 N62q
              refine own_step (fun _ k => st62.trans k) ?_
              show own_Fin p e below s _ _ _ (T62.setTop (mkF m 113 #[.val (.int p0), .val (.int p1), .val (.int p2), .val (.int p3), .val (.int p4), .val (.int p2), .val (.int p3), .val (.ref b3), .val (.ref b17), .val (.int (1 : Int32)), .val .null] [(.int (own_r8 p0 p0 p1 p1))]))
              have hf63 : ¬ ((own_r8 p0 p0 p1 p1) = (0 : Int32)) := by rw [show (own_r8 p0 p0 p1 p1) = (1 : Int32) from by rw [own_r8, if_pos (rfl), if_pos (rfl)]]; decide
              refine own_step (fun _ k => XS.ifNo X62.here hx rfl (hb hby at_113) rfl ((if0 _ _).trans (feq hf63).1) k) ?_
              show own_Fin p e below s _ _ _ (T62.setTop (mkF m 116 #[.val (.int p0), .val (.int p1), .val (.int p2), .val (.int p3), .val (.int p4), .val (.int p2), .val (.int p3), .val (.ref b3), .val (.ref b17), .val (.int (1 : Int32)), .val .null] []))
              refine own_step (fun _ k => XS.iconst X62.here hx rfl (hb hby at_116) k) ?_
              show own_Fin p e below s _ _ _ (T62.setTop (mkF m 117 #[.val (.int p0), .val (.int p1), .val (.int p2), .val (.int p3), .val (.int p4), .val (.int p2), .val (.int p3), .val (.ref b3), .val (.ref b17), .val (.int (1 : Int32)), .val .null] [(.int (1 : Int32))]))
              refine own_step (fun _ k => XS.goto X62.here hx rfl (pc0 := 117) (pc' := 121) rfl (hb hby at_117) (by decide) (by decide) k) ?_
              show own_Fin p e below s _ _ _ (T62.setTop (mkF m 121 #[.val (.int p0), .val (.int p1), .val (.int p2), .val (.int p3), .val (.int p4), .val (.int p2), .val (.int p3), .val (.ref b3), .val (.ref b17), .val (.int (1 : Int32)), .val .null] [(.int (1 : Int32))]))
              exact own_ret X62 hlk (v := some (.int (1 : Int32))) (fun h => by rw [Bd.returns] at h; cases h) (by decide) (by decide) (by show own_Q9 Z p0 p1 p2 p3 p4 s_cache cl_cache h0 n0 _ T62.heap _; rw [e62]; exact ⟨rfl, N62⟩) (fun fs hr => retN X62 hx (t := .boolean) Bd.returns (by simp) (hb hby at_121) hr)
        · refine own_step (fun _ k => XS.icmpYes X26.here hx rfl (pc0 := 61) (pc' := 68) rfl (hb hby at_61) rfl (feq hc38).2 (by decide) (by decide) k) ?_
          show own_Fin p e below s _ _ _ (T26.setTop (mkF m 68 #[.val (.int p0), .val (.int p1), .val (.int p2), .val (.int p3), .val (.int p4), .val (.int p2), .val (.int p3), .val (.ref b3), .val (.ref b17), .unset, .unset] []))
          refine own_step (fun _ k => XS.iconst X26.here hx rfl (hb hby at_68) k) ?_
          show own_Fin p e below s _ _ _ (T26.setTop (mkF m 69 #[.val (.int p0), .val (.int p1), .val (.int p2), .val (.int p3), .val (.int p4), .val (.int p2), .val (.int p3), .val (.ref b3), .val (.ref b17), .unset, .unset] [(.int (0 : Int32))]))
          refine own_step (fun _ k => XS.istore X26.here hx rfl (hb hby at_69) rfl (l' := #[.val (.int p0), .val (.int p1), .val (.int p2), .val (.int p3), .val (.int p4), .val (.int p2), .val (.int p3), .val (.ref b3), .val (.ref b17), .val (.int (0 : Int32)), .unset]) rfl k) ?_
          show own_Fin p e below s _ _ _ (T26.setTop (mkF m 71 #[.val (.int p0), .val (.int p1), .val (.int p2), .val (.int p3), .val (.int p4), .val (.int p2), .val (.int p3), .val (.ref b3), .val (.ref b17), .val (.int (0 : Int32)), .unset] []))
          refine own_step (fun _ k => XS.iload X26.here hx rfl (hb hby at_71) rfl k) ?_
          show own_Fin p e below s _ _ _ (T26.setTop (mkF m 73 #[.val (.int p0), .val (.int p1), .val (.int p2), .val (.int p3), .val (.int p4), .val (.int p2), .val (.int p3), .val (.ref b3), .val (.ref b17), .val (.int (0 : Int32)), .unset] [(.int p4)]))
          refine own_step (fun _ k => XS.iconst X26.here hx rfl (hb hby at_73) k) ?_
          show own_Fin p e below s _ _ _ (T26.setTop (mkF m 74 #[.val (.int p0), .val (.int p1), .val (.int p2), .val (.int p3), .val (.int p4), .val (.int p2), .val (.int p3), .val (.ref b3), .val (.ref b17), .val (.int (0 : Int32)), .unset] [(.int (4 : Int32)), (.int p4)]))
          refine own_step (fun _ k => XS.iand X26.here hx rfl (hb hby at_74) rfl k) ?_
          show own_Fin p e below s _ _ _ (T26.setTop (mkF m 75 #[.val (.int p0), .val (.int p1), .val (.int p2), .val (.int p3), .val (.int p4), .val (.int p2), .val (.int p3), .val (.ref b3), .val (.ref b17), .val (.int (0 : Int32)), .unset] [(.int (p4 &&& (4 : Int32)))]))
          by_cases hc64 : (p4 &&& (4 : Int32)) = (0 : Int32)
          · refine own_step (fun _ k => XS.ifYes X26.here hx rfl (pc0 := 75) (pc' := 122) rfl (hb hby at_75) rfl ((if0 _ _).trans (teq hc64).1) (by decide) (by decide) k) ?_
            show own_Fin p e below s _ _ _ (T26.setTop (mkF m 122 #[.val (.int p0), .val (.int p1), .val (.int p2), .val (.int p3), .val (.int p4), .val (.int p2), .val (.int p3), .val (.ref b3), .val (.ref b17), .val (.int (0 : Int32)), .unset] []))
            refine own_step (fun _ k => XS.aload X26.here hx rfl (hb hby at_122) rfl rfl k) ?_
            show own_Fin p e below s _ _ _ (T26.setTop (mkF m 124 #[.val (.int p0), .val (.int p1), .val (.int p2), .val (.int p3), .val (.int p4), .val (.int p2), .val (.int p3), .val (.ref b3), .val (.ref b17), .val (.int (0 : Int32)), .unset] [(.ref b3)]))
            refine own_step (fun _ k => XS.aload X26.here hx rfl (hb hby at_124) rfl rfl k) ?_
            show own_Fin p e below s _ _ _ (T26.setTop (mkF m 126 #[.val (.int p0), .val (.int p1), .val (.int p2), .val (.int p3), .val (.int p4), .val (.int p2), .val (.int p3), .val (.ref b3), .val (.ref b17), .val (.int (0 : Int32)), .unset] [(.ref b17), (.ref b3)]))
            obtain ⟨cq65, kq65, q65a, q65b, q65c⟩ := isOf hZ rfl G33
            obtain ⟨_, _, ⟨T65, L65, k65, n65⟩, -, X65, ⟨Lc65, hQ65, l65, y65, z65⟩, st65⟩ := X26.virtualBack hx (y := own_y4) (z := own_y4) hown (mvT hZ (own_w hw 18 rfl)) (mvT hZ (own_w hw 19 rfl)) (notFace_of_selects (args := #[]) (mvT hZ (own_w hw 21 rfl))) (mvT hZ (own_w hw 21 rfl)) (mvT hZ (own_w hw 20 rfl)) (by decide) (backOf (W := 0) (own_rm8 l Z a0 hw hs [] b3 b17 p2 p0 p3 p1 T26.heap n0 Z26 G27 G28 G34 G29 G35) hZ (own_w hw 22 rfl) (own_w hw 2 rfl) (by decide) (by decide)) q65a q65c (g := (mkF m 126 #[.val (.int p0), .val (.int p1), .val (.int p2), .val (.int p3), .val (.int p4), .val (.int p2), .val (.int p3), .val (.ref b3), .val (.ref b17), .val (.int (0 : Int32)), .unset] [(.ref b17), (.ref b3)])) rfl (by rw [hml]; rfl) (Steps.refl _) (argsL := [(.ref b17)]) (rest := []) (lenOf own_pd3 rfl) rfl (by show 2 * 0 + _ ≤ _; exact Nat.le_of_eq rfl) (hb hby at_126) (fun _ _ => ⟨rfl, rfl, (by decide : 2 + 0 ≤ _), (by decide : 4 + 0 ≤ _)⟩)
            dsimp only [Pt.U, Pt.locs, Pt.cells, Pt.slots] at X65 l65 y65 z65 st65 hQ65
            subst l65 y65 z65
            obtain ⟨rfl, N65q, e65⟩ := hQ65
            have N65 := Fr.app N26 N65q
            refine own_step (fun _ k => st65.trans k) ?_
            show own_Fin p e below s _ _ _ (T65.setTop (mkF m 129 #[.val (.int p0), .val (.int p1), .val (.int p2), .val (.int p3), .val (.int p4), .val (.int p2), .val (.int p3), .val (.ref b3), .val (.ref b17), .val (.int (0 : Int32)), .unset] [(.int (own_r8 p2 p0 p3 p1))]))
            refine own_step (fun _ k => XS.iload X65.here hx rfl (hb hby at_129) rfl k) ?_
            show own_Fin p e below s _ _ _ (T65.setTop (mkF m 131 #[.val (.int p0), .val (.int p1), .val (.int p2), .val (.int p3), .val (.int p4), .val (.int p2), .val (.int p3), .val (.ref b3), .val (.ref b17), .val (.int (0 : Int32)), .unset] [(.int (0 : Int32)), (.int (own_r8 p2 p0 p3 p1))]))
            have hf66 : (own_r8 p2 p0 p3 p1) = (0 : Int32) := by rw [own_r8, if_pos (hc37.symm), if_neg ((fun q => hc38 q.symm))]
            refine own_step (fun _ k => XS.icmpNo X65.here hx rfl (hb hby at_131) rfl (teq hf66).2 k) ?_
            show own_Fin p e below s _ _ _ (T65.setTop (mkF m 134 #[.val (.int p0), .val (.int p1), .val (.int p2), .val (.int p3), .val (.int p4), .val (.int p2), .val (.int p3), .val (.ref b3), .val (.ref b17), .val (.int (0 : Int32)), .unset] []))
            refine own_step (fun _ k => XS.aload X65.here hx rfl (hb hby at_134) rfl rfl k) ?_
            show own_Fin p e below s _ _ _ (T65.setTop (mkF m 136 #[.val (.int p0), .val (.int p1), .val (.int p2), .val (.int p3), .val (.int p4), .val (.int p2), .val (.int p3), .val (.ref b3), .val (.ref b17), .val (.int (0 : Int32)), .unset] [(.ref b17)]))
            refine own_step (fun _ k => XS.aload X65.here hx rfl (hb hby at_136) rfl rfl k) ?_
            show own_Fin p e below s _ _ _ (T65.setTop (mkF m 138 #[.val (.int p0), .val (.int p1), .val (.int p2), .val (.int p3), .val (.int p4), .val (.int p2), .val (.int p3), .val (.ref b3), .val (.ref b17), .val (.int (0 : Int32)), .unset] [(.ref b3), (.ref b17)]))
            obtain ⟨cq67, kq67, q67a, q67b, q67c⟩ := isOf hZ e65 G27
            obtain ⟨_, _, ⟨T67, L67, k67, n67⟩, -, X67, ⟨Lc67, hQ67, l67, y67, z67⟩, st67⟩ := X65.virtualBack hx (y := own_y4) (z := own_y4) hown (mvT hZ (own_w hw 18 rfl)) (mvT hZ (own_w hw 19 rfl)) (notFace_of_selects (args := #[]) (mvT hZ (own_w hw 21 rfl))) (mvT hZ (own_w hw 21 rfl)) (mvT hZ (own_w hw 20 rfl)) (by decide) (backOf (W := 0) (own_rm8 l Z a0 hw hs [] b17 b3 p0 p2 p1 p3 T26.heap n0 Z26 G33 G34 G28 G35 G29) hZ (own_w hw 22 rfl) (own_w hw 2 rfl) (by decide) (by decide)) q67a q67c (g := (mkF m 138 #[.val (.int p0), .val (.int p1), .val (.int p2), .val (.int p3), .val (.int p4), .val (.int p2), .val (.int p3), .val (.ref b3), .val (.ref b17), .val (.int (0 : Int32)), .unset] [(.ref b3), (.ref b17)])) rfl (by rw [hml]; rfl) (Steps.refl _) (argsL := [(.ref b3)]) (rest := []) (lenOf own_pd3 rfl) rfl (by show 2 * 0 + _ ≤ _; exact Nat.le_of_eq rfl) (hb hby at_138) (fun _ _ => ⟨rfl, e65, (by decide : 2 + 0 ≤ _), (by decide : 4 + 0 ≤ _)⟩)
            dsimp only [Pt.U, Pt.locs, Pt.cells, Pt.slots] at X67 l67 y67 z67 st67 hQ67
            subst l67 y67 z67
            obtain ⟨rfl, N67q, e67⟩ := hQ67
            have N67 := Fr.app N65 N67q
            refine own_step (fun _ k => st67.trans k) ?_
            show own_Fin p e below s _ _ _ (T67.setTop (mkF m 141 #[.val (.int p0), .val (.int p1), .val (.int p2), .val (.int p3), .val (.int p4), .val (.int p2), .val (.int p3), .val (.ref b3), .val (.ref b17), .val (.int (0 : Int32)), .unset] [(.int (own_r8 p0 p2 p1 p3))]))
            refine own_step (fun _ k => XS.iload X67.here hx rfl (hb hby at_141) rfl k) ?_
            show own_Fin p e below s _ _ _ (T67.setTop (mkF m 143 #[.val (.int p0), .val (.int p1), .val (.int p2), .val (.int p3), .val (.int p4), .val (.int p2), .val (.int p3), .val (.ref b3), .val (.ref b17), .val (.int (0 : Int32)), .unset] [(.int (0 : Int32)), (.int (own_r8 p0 p2 p1 p3))]))
            have hf68 : (own_r8 p0 p2 p1 p3) = (0 : Int32) := by rw [own_r8, if_pos (hc37), if_neg (hc38)]
            refine own_step (fun _ k => XS.icmpNo X67.here hx rfl (hb hby at_143) rfl (teq hf68).2 k) ?_
            show own_Fin p e below s _ _ _ (T67.setTop (mkF m 146 #[.val (.int p0), .val (.int p1), .val (.int p2), .val (.int p3), .val (.int p4), .val (.int p2), .val (.int p3), .val (.ref b3), .val (.ref b17), .val (.int (0 : Int32)), .unset] []))
            refine own_step (fun _ k => XS.aload X67.here hx rfl (hb hby at_146) rfl rfl k) ?_
            show own_Fin p e below s _ _ _ (T67.setTop (mkF m 148 #[.val (.int p0), .val (.int p1), .val (.int p2), .val (.int p3), .val (.int p4), .val (.int p2), .val (.int p3), .val (.ref b3), .val (.ref b17), .val (.int (0 : Int32)), .unset] [(.ref b3)]))
            refine own_step (fun _ k => XS.aload X67.here hx rfl (hb hby at_148) rfl rfl k) ?_
            show own_Fin p e below s _ _ _ (T67.setTop (mkF m 150 #[.val (.int p0), .val (.int p1), .val (.int p2), .val (.int p3), .val (.int p4), .val (.int p2), .val (.int p3), .val (.ref b3), .val (.ref b17), .val (.int (0 : Int32)), .unset] [(.ref b3), (.ref b3)]))
            obtain ⟨cq69, kq69, q69a, q69b, q69c⟩ := isOf hZ e67 G33
            obtain ⟨_, _, ⟨T69, L69, k69, n69⟩, -, X69, ⟨Lc69, hQ69, l69, y69, z69⟩, st69⟩ := X67.virtualBack hx (y := own_y4) (z := own_y4) hown (mvT hZ (own_w hw 18 rfl)) (mvT hZ (own_w hw 19 rfl)) (notFace_of_selects (args := #[]) (mvT hZ (own_w hw 21 rfl))) (mvT hZ (own_w hw 21 rfl)) (mvT hZ (own_w hw 20 rfl)) (by decide) (backOf (W := 0) (own_rm8 l Z a0 hw hs [] b3 b3 p0 p0 p1 p1 T26.heap n0 Z26 G33 G34 G34 G35 G35) hZ (own_w hw 22 rfl) (own_w hw 2 rfl) (by decide) (by decide)) q69a q69c (g := (mkF m 150 #[.val (.int p0), .val (.int p1), .val (.int p2), .val (.int p3), .val (.int p4), .val (.int p2), .val (.int p3), .val (.ref b3), .val (.ref b17), .val (.int (0 : Int32)), .unset] [(.ref b3), (.ref b3)])) rfl (by rw [hml]; rfl) (Steps.refl _) (argsL := [(.ref b3)]) (rest := []) (lenOf own_pd3 rfl) rfl (by show 2 * 0 + _ ≤ _; exact Nat.le_of_eq rfl) (hb hby at_150) (fun _ _ => ⟨rfl, e67, (by decide : 2 + 0 ≤ _), (by decide : 4 + 0 ≤ _)⟩)
            dsimp only [Pt.U, Pt.locs, Pt.cells, Pt.slots] at X69 l69 y69 z69 st69 hQ69
            subst l69 y69 z69
            obtain ⟨rfl, N69q, e69⟩ := hQ69
            have N69 := Fr.app N67 N69q
            refine own_step (fun _ k => st69.trans k) ?_
            show own_Fin p e below s _ _ _ (T69.setTop (mkF m 153 #[.val (.int p0), .val (.int p1), .val (.int p2), .val (.int p3), .val (.int p4), .val (.int p2), .val (.int p3), .val (.ref b3), .val (.ref b17), .val (.int (0 : Int32)), .unset] [(.int (own_r8 p0 p0 p1 p1))]))
            have hf70 : ¬ ((own_r8 p0 p0 p1 p1) = (0 : Int32)) := by rw [show (own_r8 p0 p0 p1 p1) = (1 : Int32) from by rw [own_r8, if_pos (rfl), if_pos (rfl)]]; decide
            refine own_step (fun _ k => XS.ifNo X69.here hx rfl (hb hby at_153) rfl ((if0 _ _).trans (feq hf70).1) k) ?_
            show own_Fin p e below s _ _ _ (T69.setTop (mkF m 156 #[.val (.int p0), .val (.int p1), .val (.int p2), .val (.int p3), .val (.int p4), .val (.int p2), .val (.int p3), .val (.ref b3), .val (.ref b17), .val (.int (0 : Int32)), .unset] []))
            refine own_step (fun _ k => XS.iconst X69.here hx rfl (hb hby at_156) k) ?_
            show own_Fin p e below s _ _ _ (T69.setTop (mkF m 157 #[.val (.int p0), .val (.int p1), .val (.int p2), .val (.int p3), .val (.int p4), .val (.int p2), .val (.int p3), .val (.ref b3), .val (.ref b17), .val (.int (0 : Int32)), .unset] [(.int (1 : Int32))]))
            refine own_step (fun _ k => XS.goto X69.here hx rfl (pc0 := 157) (pc' := 161) rfl (hb hby at_157) (by decide) (by decide) k) ?_
            show own_Fin p e below s _ _ _ (T69.setTop (mkF m 161 #[.val (.int p0), .val (.int p1), .val (.int p2), .val (.int p3), .val (.int p4), .val (.int p2), .val (.int p3), .val (.ref b3), .val (.ref b17), .val (.int (0 : Int32)), .unset] [(.int (1 : Int32))]))
            exact own_ret X69 hlk (v := some (.int (1 : Int32))) (fun h => by rw [Bd.returns] at h; cases h) (by decide) (by decide) (by show own_Q9 Z p0 p1 p2 p3 p4 s_cache cl_cache h0 n0 _ T69.heap _; rw [e69]; exact ⟨rfl, N69⟩) (fun fs hr => retN X69 hx (t := .boolean) Bd.returns (by simp) (hb hby at_161) hr)
          · refine own_step (fun _ k => XS.ifNo X26.here hx rfl (hb hby at_75) rfl ((if0 _ _).trans (feq hc64).1) k) ?_
            show own_Fin p e below s _ _ _ (T26.setTop (mkF m 78 #[.val (.int p0), .val (.int p1), .val (.int p2), .val (.int p3), .val (.int p4), .val (.int p2), .val (.int p3), .val (.ref b3), .val (.ref b17), .val (.int (0 : Int32)), .unset] []))
            refine own_step (fun _ k => XS.iload X26.here hx rfl (hb hby at_78) rfl k) ?_
            show own_Fin p e below s _ _ _ (T26.setTop (mkF m 80 #[.val (.int p0), .val (.int p1), .val (.int p2), .val (.int p3), .val (.int p4), .val (.int p2), .val (.int p3), .val (.ref b3), .val (.ref b17), .val (.int (0 : Int32)), .unset] [(.int p4)]))
            refine own_step (fun _ k => XS.bipush X26.here hx rfl (hb hby at_80) k) ?_
            show own_Fin p e below s _ _ _ (T26.setTop (mkF m 82 #[.val (.int p0), .val (.int p1), .val (.int p2), .val (.int p3), .val (.int p4), .val (.int p2), .val (.int p3), .val (.ref b3), .val (.ref b17), .val (.int (0 : Int32)), .unset] [(.int (8 : Int32)), (.int p4)]))
            refine own_step (fun _ k => XS.iand X26.here hx rfl (hb hby at_82) rfl k) ?_
            show own_Fin p e below s _ _ _ (T26.setTop (mkF m 83 #[.val (.int p0), .val (.int p1), .val (.int p2), .val (.int p3), .val (.int p4), .val (.int p2), .val (.int p3), .val (.ref b3), .val (.ref b17), .val (.int (0 : Int32)), .unset] [(.int (p4 &&& (8 : Int32)))]))
            by_cases hc71 : (p4 &&& (8 : Int32)) = (0 : Int32)
            · refine own_step (fun _ k => XS.ifYes X26.here hx rfl (pc0 := 83) (pc' := 90) rfl (hb hby at_83) rfl ((if0 _ _).trans (teq hc71).1) (by decide) (by decide) k) ?_
              show own_Fin p e below s _ _ _ (T26.setTop (mkF m 90 #[.val (.int p0), .val (.int p1), .val (.int p2), .val (.int p3), .val (.int p4), .val (.int p2), .val (.int p3), .val (.ref b3), .val (.ref b17), .val (.int (0 : Int32)), .unset] []))
              refine own_step (fun _ k => XS.iloadN X26.here hx rfl (hb hby at_90) rfl k) ?_
              show own_Fin p e below s _ _ _ (T26.setTop (mkF m 91 #[.val (.int p0), .val (.int p1), .val (.int p2), .val (.int p3), .val (.int p4), .val (.int p2), .val (.int p3), .val (.ref b3), .val (.ref b17), .val (.int (0 : Int32)), .unset] [(.int p0)]))
              obtain ⟨_, _, ⟨T72, L72, k72, n72⟩, -, X72, ⟨Lc72, hQ72, l72, y72, z72⟩, st72⟩ := Jvm.LawKit.callS X26 hx (y := own_y5) hown (mvT hZ (own_w hw 25 rfl)) (mvT hZ (own_w hw 26 rfl)) (mvT hZ (own_w hw 27 rfl)) (mvT hZ (own_w hw 28 rfl)) (by decide) (backOf (W := 0) (own_rm5 l Z a0 hw hs [] p0 s_cache cl_cache T26.heap n0 Z26 G30 G31 G32 Bx) hZ (own_w hw 28 rfl) (own_w hw 27 rfl) (by decide) (by decide)) (g := (mkF m 91 #[.val (.int p0), .val (.int p1), .val (.int p2), .val (.int p3), .val (.int p4), .val (.int p2), .val (.int p3), .val (.ref b3), .val (.ref b17), .val (.int (0 : Int32)), .unset] [(.int p0)])) rfl (by rw [hml]; rfl) (argsL := [(.int p0)]) (rest := []) (lenOf own_pd4 rfl) rfl (by show 2 * 0 + _ ≤ _; exact Nat.le_of_eq rfl) (hb hby at_91) (fun _ _ => ⟨rfl, rfl, (by decide : 2 + 1 ≤ _), (by decide : 4 + 1 ≤ _)⟩)
              dsimp only [Pt.U, Pt.locs, Pt.cells, Pt.slots] at X72 l72 y72 z72 st72 hQ72
              subst l72 y72 z72
              obtain ⟨N72q, K72q, b72_o0, rfl, G73⟩ := hQ72
              have N72 := Fr.app N26 N72q
              have K72 : Keep h0 T72.heap [] := K26.trans K72q all0
              have Z72 : n0 ≤ T72.heap.size := Nat.le_trans Z26 K72q.1
              have G74 := (G30.keep K72q all0)
              have G75 := (own_sta_keep0 G31 K72q)
              have G76 := (own_sta_keep0 G32 K72q)
              have G77 := (G33.keep K72q)
              have G78 := (G34.keep K72q nin0)
              have G79 := (G35.keep K72q nin0)
              have G80 := (G27.keep K72q)
              have G81 := (G28.keep K72q nin0)
              have G82 := (G29.keep K72q nin0)
              refine own_step (fun _ k => st72 _ k) ?_
              show own_Fin p e below s _ _ _ (T72.setTop (mkF m 94 #[.val (.int p0), .val (.int p1), .val (.int p2), .val (.int p3), .val (.int p4), .val (.int p2), .val (.int p3), .val (.ref b3), .val (.ref b17), .val (.int (0 : Int32)), .unset] [(.ref b72_o0)]))
              refine own_step (fun _ k => XS.astore X72.here hx rfl (hb hby at_94) rfl rfl (l' := #[.val (.int p0), .val (.int p1), .val (.int p2), .val (.int p3), .val (.int p4), .val (.int p2), .val (.int p3), .val (.ref b3), .val (.ref b17), .val (.int (0 : Int32)), .val (.ref b72_o0)]) rfl k) ?_
              show own_Fin p e below s _ _ _ (T72.setTop (mkF m 96 #[.val (.int p0), .val (.int p1), .val (.int p2), .val (.int p3), .val (.int p4), .val (.int p2), .val (.int p3), .val (.ref b3), .val (.ref b17), .val (.int (0 : Int32)), .val (.ref b72_o0)] []))
              refine own_step (fun _ k => XS.aload X72.here hx rfl (hb hby at_96) rfl rfl k) ?_
              show own_Fin p e below s _ _ _ (T72.setTop (mkF m 98 #[.val (.int p0), .val (.int p1), .val (.int p2), .val (.int p3), .val (.int p4), .val (.int p2), .val (.int p3), .val (.ref b3), .val (.ref b17), .val (.int (0 : Int32)), .val (.ref b72_o0)] [(.ref b3)]))
              refine own_step (fun _ k => XS.aload X72.here hx rfl (hb hby at_98) rfl rfl k) ?_
              show own_Fin p e below s _ _ _ (T72.setTop (mkF m 100 #[.val (.int p0), .val (.int p1), .val (.int p2), .val (.int p3), .val (.int p4), .val (.int p2), .val (.int p3), .val (.ref b3), .val (.ref b17), .val (.int (0 : Int32)), .val (.ref b72_o0)] [(.ref b72_o0), (.ref b3)]))
              obtain ⟨cq83, kq83, q83a, q83b, q83c⟩ := isOf hZ rfl G77
              obtain ⟨_, _, ⟨T83, L83, k83, n83⟩, -, X83, ⟨Lc83, hQ83, l83, y83, z83⟩, st83⟩ := X72.virtualBack hx (y := own_y4) (z := own_y4) hown (mvT hZ (own_w hw 18 rfl)) (mvT hZ (own_w hw 19 rfl)) (notFace_of_selects (args := #[]) (mvT hZ (own_w hw 21 rfl))) (mvT hZ (own_w hw 21 rfl)) (mvT hZ (own_w hw 20 rfl)) (by decide) (backOf (W := 0) (own_rm7 l Z a0 hw hs [] b3 b72_o0 T72.heap n0 Z72 G73) hZ (own_w hw 22 rfl) (own_w hw 2 rfl) (by decide) (by decide)) q83a q83c (g := (mkF m 100 #[.val (.int p0), .val (.int p1), .val (.int p2), .val (.int p3), .val (.int p4), .val (.int p2), .val (.int p3), .val (.ref b3), .val (.ref b17), .val (.int (0 : Int32)), .val (.ref b72_o0)] [(.ref b72_o0), (.ref b3)])) rfl (by rw [hml]; rfl) (Steps.refl _) (argsL := [(.ref b72_o0)]) (rest := []) (lenOf own_pd3 rfl) rfl (by show 2 * 0 + _ ≤ _; exact Nat.le_of_eq rfl) (hb hby at_100) (fun _ _ => ⟨rfl, rfl, (by decide : 3 + 0 ≤ _), (by decide : 5 + 0 ≤ _)⟩)
              dsimp only [Pt.U, Pt.locs, Pt.cells, Pt.slots] at X83 l83 y83 z83 st83 hQ83
              subst l83 y83 z83
              obtain ⟨rfl, N83q, e83⟩ := hQ83
              have N83 := Fr.app N72 N83q
              refine own_step (fun _ k => st83.trans k) ?_
              show own_Fin p e below s _ _ _ (T83.setTop (mkF m 103 #[.val (.int p0), .val (.int p1), .val (.int p2), .val (.int p3), .val (.int p4), .val (.int p2), .val (.int p3), .val (.ref b3), .val (.ref b17), .val (.int (0 : Int32)), .val (.ref b72_o0)] [(.int (0 : Int32))]))
              refine own_step (fun _ k => XS.ifNo X83.here hx rfl (hb hby at_103) rfl ((if0 _ _).trans (teq (by decide : (0 : Int32) = (0 : Int32))).2) k) ?_
              show own_Fin p e below s _ _ _ (T83.setTop (mkF m 106 #[.val (.int p0), .val (.int p1), .val (.int p2), .val (.int p3), .val (.int p4), .val (.int p2), .val (.int p3), .val (.ref b3), .val (.ref b17), .val (.int (0 : Int32)), .val (.ref b72_o0)] []))
              refine own_step (fun _ k => XS.aload X83.here hx rfl (hb hby at_106) rfl rfl k) ?_
              show own_Fin p e below s _ _ _ (T83.setTop (mkF m 108 #[.val (.int p0), .val (.int p1), .val (.int p2), .val (.int p3), .val (.int p4), .val (.int p2), .val (.int p3), .val (.ref b3), .val (.ref b17), .val (.int (0 : Int32)), .val (.ref b72_o0)] [(.ref b3)]))
              refine own_step (fun _ k => XS.aload X83.here hx rfl (hb hby at_108) rfl rfl k) ?_
              show own_Fin p e below s _ _ _ (T83.setTop (mkF m 110 #[.val (.int p0), .val (.int p1), .val (.int p2), .val (.int p3), .val (.int p4), .val (.int p2), .val (.int p3), .val (.ref b3), .val (.ref b17), .val (.int (0 : Int32)), .val (.ref b72_o0)] [(.ref b3), (.ref b3)]))
              obtain ⟨cq84, kq84, q84a, q84b, q84c⟩ := isOf hZ e83 G77
              obtain ⟨_, _, ⟨T84, L84, k84, n84⟩, -, X84, ⟨Lc84, hQ84, l84, y84, z84⟩, st84⟩ := X83.virtualBack hx (y := own_y4) (z := own_y4) hown (mvT hZ (own_w hw 18 rfl)) (mvT hZ (own_w hw 19 rfl)) (notFace_of_selects (args := #[]) (mvT hZ (own_w hw 21 rfl))) (mvT hZ (own_w hw 21 rfl)) (mvT hZ (own_w hw 20 rfl)) (by decide) (backOf (W := 0) (own_rm8 l Z a0 hw hs [] b3 b3 p0 p0 p1 p1 T72.heap n0 Z72 G77 G78 G78 G79 G79) hZ (own_w hw 22 rfl) (own_w hw 2 rfl) (by decide) (by decide)) q84a q84c (g := (mkF m 110 #[.val (.int p0), .val (.int p1), .val (.int p2), .val (.int p3), .val (.int p4), .val (.int p2), .val (.int p3), .val (.ref b3), .val (.ref b17), .val (.int (0 : Int32)), .val (.ref b72_o0)] [(.ref b3), (.ref b3)])) rfl (by rw [hml]; rfl) (Steps.refl _) (argsL := [(.ref b3)]) (rest := []) (lenOf own_pd3 rfl) rfl (by show 2 * 0 + _ ≤ _; exact Nat.le_of_eq rfl) (hb hby at_110) (fun _ _ => ⟨rfl, e83, (by decide : 3 + 0 ≤ _), (by decide : 5 + 0 ≤ _)⟩)
              dsimp only [Pt.U, Pt.locs, Pt.cells, Pt.slots] at X84 l84 y84 z84 st84 hQ84
              subst l84 y84 z84
              obtain ⟨rfl, N84q, e84⟩ := hQ84
              have N84 := Fr.app N83 N84q
              refine own_step (fun _ k => st84.trans k) ?_
              show own_Fin p e below s _ _ _ (T84.setTop (mkF m 113 #[.val (.int p0), .val (.int p1), .val (.int p2), .val (.int p3), .val (.int p4), .val (.int p2), .val (.int p3), .val (.ref b3), .val (.ref b17), .val (.int (0 : Int32)), .val (.ref b72_o0)] [(.int (own_r8 p0 p0 p1 p1))]))
              have hf85 : ¬ ((own_r8 p0 p0 p1 p1) = (0 : Int32)) := by rw [show (own_r8 p0 p0 p1 p1) = (1 : Int32) from by rw [own_r8, if_pos (rfl), if_pos (rfl)]]; decide
              refine own_step (fun _ k => XS.ifNo X84.here hx rfl (hb hby at_113) rfl ((if0 _ _).trans (feq hf85).1) k) ?_
              show own_Fin p e below s _ _ _ (T84.setTop (mkF m 116 #[.val (.int p0), .val (.int p1), .val (.int p2), .val (.int p3), .val (.int p4), .val (.int p2), .val (.int p3), .val (.ref b3), .val (.ref b17), .val (.int (0 : Int32)), .val (.ref b72_o0)] []))
              refine own_step (fun _ k => XS.iconst X84.here hx rfl (hb hby at_116) k) ?_
              show own_Fin p e below s _ _ _ (T84.setTop (mkF m 117 #[.val (.int p0), .val (.int p1), .val (.int p2), .val (.int p3), .val (.int p4), .val (.int p2), .val (.int p3), .val (.ref b3), .val (.ref b17), .val (.int (0 : Int32)), .val (.ref b72_o0)] [(.int (1 : Int32))]))
              refine own_step (fun _ k => XS.goto X84.here hx rfl (pc0 := 117) (pc' := 121) rfl (hb hby at_117) (by decide) (by decide) k) ?_
              show own_Fin p e below s _ _ _ (T84.setTop (mkF m 121 #[.val (.int p0), .val (.int p1), .val (.int p2), .val (.int p3), .val (.int p4), .val (.int p2), .val (.int p3), .val (.ref b3), .val (.ref b17), .val (.int (0 : Int32)), .val (.ref b72_o0)] [(.int (1 : Int32))]))
              exact own_ret X84 hlk (v := some (.int (1 : Int32))) (fun h => by rw [Bd.returns] at h; cases h) (by decide) (by decide) (by show own_Q9 Z p0 p1 p2 p3 p4 s_cache cl_cache h0 n0 _ T84.heap _; rw [e84]; exact ⟨rfl, N84⟩) (fun fs hr => retN X84 hx (t := .boolean) Bd.returns (by simp) (hb hby at_121) hr)
            · refine own_step (fun _ k => XS.ifNo X26.here hx rfl (hb hby at_83) rfl ((if0 _ _).trans (feq hc71).1) k) ?_
              show own_Fin p e below s _ _ _ (T26.setTop (mkF m 86 #[.val (.int p0), .val (.int p1), .val (.int p2), .val (.int p3), .val (.int p4), .val (.int p2), .val (.int p3), .val (.ref b3), .val (.ref b17), .val (.int (0 : Int32)), .unset] []))
              refine own_step (fun _ k => XS.aconstNull X26.here hx rfl (hb hby at_86) k) ?_
              show own_Fin p e below s _ _ _ (T26.setTop (mkF m 87 #[.val (.int p0), .val (.int p1), .val (.int p2), .val (.int p3), .val (.int p4), .val (.int p2), .val (.int p3), .val (.ref b3), .val (.ref b17), .val (.int (0 : Int32)), .unset] [.null]))
              refine own_step (fun _ k => XS.goto X26.here hx rfl (pc0 := 87) (pc' := 94) rfl (hb hby at_87) (by decide) (by decide) k) ?_
              show own_Fin p e below s _ _ _ (T26.setTop (mkF m 94 #[.val (.int p0), .val (.int p1), .val (.int p2), .val (.int p3), .val (.int p4), .val (.int p2), .val (.int p3), .val (.ref b3), .val (.ref b17), .val (.int (0 : Int32)), .unset] [.null]))
              refine own_step (fun _ k => XS.astore X26.here hx rfl (hb hby at_94) rfl rfl (l' := #[.val (.int p0), .val (.int p1), .val (.int p2), .val (.int p3), .val (.int p4), .val (.int p2), .val (.int p3), .val (.ref b3), .val (.ref b17), .val (.int (0 : Int32)), .val .null]) rfl k) ?_
              show own_Fin p e below s _ _ _ (T26.setTop (mkF m 96 #[.val (.int p0), .val (.int p1), .val (.int p2), .val (.int p3), .val (.int p4), .val (.int p2), .val (.int p3), .val (.ref b3), .val (.ref b17), .val (.int (0 : Int32)), .val .null] []))
              refine own_step (fun _ k => XS.aload X26.here hx rfl (hb hby at_96) rfl rfl k) ?_
              show own_Fin p e below s _ _ _ (T26.setTop (mkF m 98 #[.val (.int p0), .val (.int p1), .val (.int p2), .val (.int p3), .val (.int p4), .val (.int p2), .val (.int p3), .val (.ref b3), .val (.ref b17), .val (.int (0 : Int32)), .val .null] [(.ref b3)]))
              refine own_step (fun _ k => XS.aload X26.here hx rfl (hb hby at_98) rfl rfl k) ?_
              show own_Fin p e below s _ _ _ (T26.setTop (mkF m 100 #[.val (.int p0), .val (.int p1), .val (.int p2), .val (.int p3), .val (.int p4), .val (.int p2), .val (.int p3), .val (.ref b3), .val (.ref b17), .val (.int (0 : Int32)), .val .null] [.null, (.ref b3)]))
              obtain ⟨cq86, kq86, q86a, q86b, q86c⟩ := isOf hZ rfl G33
              obtain ⟨_, _, ⟨T86, L86, k86, n86⟩, -, X86, ⟨Lc86, hQ86, l86, y86, z86⟩, st86⟩ := X26.virtualBack hx (y := own_y4) (z := own_y4) hown (mvT hZ (own_w hw 18 rfl)) (mvT hZ (own_w hw 19 rfl)) (notFace_of_selects (args := #[]) (mvT hZ (own_w hw 21 rfl))) (mvT hZ (own_w hw 21 rfl)) (mvT hZ (own_w hw 20 rfl)) (by decide) (backOf (W := 0) (own_rm6 l Z a0 hw hs [] b3 T26.heap n0 Z26 ) hZ (own_w hw 22 rfl) (own_w hw 2 rfl) (by decide) (by decide)) q86a q86c (g := (mkF m 100 #[.val (.int p0), .val (.int p1), .val (.int p2), .val (.int p3), .val (.int p4), .val (.int p2), .val (.int p3), .val (.ref b3), .val (.ref b17), .val (.int (0 : Int32)), .val .null] [.null, (.ref b3)])) rfl (by rw [hml]; rfl) (Steps.refl _) (argsL := [.null]) (rest := []) (lenOf own_pd3 rfl) rfl (by show 2 * 0 + _ ≤ _; exact Nat.le_of_eq rfl) (hb hby at_100) (fun _ _ => ⟨rfl, rfl, (by decide : 2 + 0 ≤ _), (by decide : 4 + 0 ≤ _)⟩)
              dsimp only [Pt.U, Pt.locs, Pt.cells, Pt.slots] at X86 l86 y86 z86 st86 hQ86
              subst l86 y86 z86
              obtain ⟨rfl, N86q, e86⟩ := hQ86
              have N86 := Fr.app N26 N86q
              refine own_step (fun _ k => st86.trans k) ?_
              show own_Fin p e below s _ _ _ (T86.setTop (mkF m 103 #[.val (.int p0), .val (.int p1), .val (.int p2), .val (.int p3), .val (.int p4), .val (.int p2), .val (.int p3), .val (.ref b3), .val (.ref b17), .val (.int (0 : Int32)), .val .null] [(.int (0 : Int32))]))
              refine own_step (fun _ k => XS.ifNo X86.here hx rfl (hb hby at_103) rfl ((if0 _ _).trans (teq (by decide : (0 : Int32) = (0 : Int32))).2) k) ?_
              show own_Fin p e below s _ _ _ (T86.setTop (mkF m 106 #[.val (.int p0), .val (.int p1), .val (.int p2), .val (.int p3), .val (.int p4), .val (.int p2), .val (.int p3), .val (.ref b3), .val (.ref b17), .val (.int (0 : Int32)), .val .null] []))
              refine own_step (fun _ k => XS.aload X86.here hx rfl (hb hby at_106) rfl rfl k) ?_
              show own_Fin p e below s _ _ _ (T86.setTop (mkF m 108 #[.val (.int p0), .val (.int p1), .val (.int p2), .val (.int p3), .val (.int p4), .val (.int p2), .val (.int p3), .val (.ref b3), .val (.ref b17), .val (.int (0 : Int32)), .val .null] [(.ref b3)]))
              refine own_step (fun _ k => XS.aload X86.here hx rfl (hb hby at_108) rfl rfl k) ?_
              show own_Fin p e below s _ _ _ (T86.setTop (mkF m 110 #[.val (.int p0), .val (.int p1), .val (.int p2), .val (.int p3), .val (.int p4), .val (.int p2), .val (.int p3), .val (.ref b3), .val (.ref b17), .val (.int (0 : Int32)), .val .null] [(.ref b3), (.ref b3)]))
              obtain ⟨cq87, kq87, q87a, q87b, q87c⟩ := isOf hZ e86 G33
              obtain ⟨_, _, ⟨T87, L87, k87, n87⟩, -, X87, ⟨Lc87, hQ87, l87, y87, z87⟩, st87⟩ := X86.virtualBack hx (y := own_y4) (z := own_y4) hown (mvT hZ (own_w hw 18 rfl)) (mvT hZ (own_w hw 19 rfl)) (notFace_of_selects (args := #[]) (mvT hZ (own_w hw 21 rfl))) (mvT hZ (own_w hw 21 rfl)) (mvT hZ (own_w hw 20 rfl)) (by decide) (backOf (W := 0) (own_rm8 l Z a0 hw hs [] b3 b3 p0 p0 p1 p1 T26.heap n0 Z26 G33 G34 G34 G35 G35) hZ (own_w hw 22 rfl) (own_w hw 2 rfl) (by decide) (by decide)) q87a q87c (g := (mkF m 110 #[.val (.int p0), .val (.int p1), .val (.int p2), .val (.int p3), .val (.int p4), .val (.int p2), .val (.int p3), .val (.ref b3), .val (.ref b17), .val (.int (0 : Int32)), .val .null] [(.ref b3), (.ref b3)])) rfl (by rw [hml]; rfl) (Steps.refl _) (argsL := [(.ref b3)]) (rest := []) (lenOf own_pd3 rfl) rfl (by show 2 * 0 + _ ≤ _; exact Nat.le_of_eq rfl) (hb hby at_110) (fun _ _ => ⟨rfl, e86, (by decide : 2 + 0 ≤ _), (by decide : 4 + 0 ≤ _)⟩)
              dsimp only [Pt.U, Pt.locs, Pt.cells, Pt.slots] at X87 l87 y87 z87 st87 hQ87
              subst l87 y87 z87
              obtain ⟨rfl, N87q, e87⟩ := hQ87
              have N87 := Fr.app N86 N87q
              refine own_step (fun _ k => st87.trans k) ?_
              show own_Fin p e below s _ _ _ (T87.setTop (mkF m 113 #[.val (.int p0), .val (.int p1), .val (.int p2), .val (.int p3), .val (.int p4), .val (.int p2), .val (.int p3), .val (.ref b3), .val (.ref b17), .val (.int (0 : Int32)), .val .null] [(.int (own_r8 p0 p0 p1 p1))]))
              have hf88 : ¬ ((own_r8 p0 p0 p1 p1) = (0 : Int32)) := by rw [show (own_r8 p0 p0 p1 p1) = (1 : Int32) from by rw [own_r8, if_pos (rfl), if_pos (rfl)]]; decide
              refine own_step (fun _ k => XS.ifNo X87.here hx rfl (hb hby at_113) rfl ((if0 _ _).trans (feq hf88).1) k) ?_
              show own_Fin p e below s _ _ _ (T87.setTop (mkF m 116 #[.val (.int p0), .val (.int p1), .val (.int p2), .val (.int p3), .val (.int p4), .val (.int p2), .val (.int p3), .val (.ref b3), .val (.ref b17), .val (.int (0 : Int32)), .val .null] []))
              refine own_step (fun _ k => XS.iconst X87.here hx rfl (hb hby at_116) k) ?_
              show own_Fin p e below s _ _ _ (T87.setTop (mkF m 117 #[.val (.int p0), .val (.int p1), .val (.int p2), .val (.int p3), .val (.int p4), .val (.int p2), .val (.int p3), .val (.ref b3), .val (.ref b17), .val (.int (0 : Int32)), .val .null] [(.int (1 : Int32))]))
              refine own_step (fun _ k => XS.goto X87.here hx rfl (pc0 := 117) (pc' := 121) rfl (hb hby at_117) (by decide) (by decide) k) ?_
              show own_Fin p e below s _ _ _ (T87.setTop (mkF m 121 #[.val (.int p0), .val (.int p1), .val (.int p2), .val (.int p3), .val (.int p4), .val (.int p2), .val (.int p3), .val (.ref b3), .val (.ref b17), .val (.int (0 : Int32)), .val .null] [(.int (1 : Int32))]))
              exact own_ret X87 hlk (v := some (.int (1 : Int32))) (fun h => by rw [Bd.returns] at h; cases h) (by decide) (by decide) (by show own_Q9 Z p0 p1 p2 p3 p4 s_cache cl_cache h0 n0 _ T87.heap _; rw [e87]; exact ⟨rfl, N87⟩) (fun fs hr => retN X87 hx (t := .boolean) Bd.returns (by simp) (hb hby at_121) hr)
      · refine own_step (fun _ k => XS.icmpYes X26.here hx rfl (pc0 := 55) (pc' := 68) rfl (hb hby at_55) rfl (feq hc37).2 (by decide) (by decide) k) ?_
        show own_Fin p e below s _ _ _ (T26.setTop (mkF m 68 #[.val (.int p0), .val (.int p1), .val (.int p2), .val (.int p3), .val (.int p4), .val (.int p2), .val (.int p3), .val (.ref b3), .val (.ref b17), .unset, .unset] []))
        refine own_step (fun _ k => XS.iconst X26.here hx rfl (hb hby at_68) k) ?_
        show own_Fin p e below s _ _ _ (T26.setTop (mkF m 69 #[.val (.int p0), .val (.int p1), .val (.int p2), .val (.int p3), .val (.int p4), .val (.int p2), .val (.int p3), .val (.ref b3), .val (.ref b17), .unset, .unset] [(.int (0 : Int32))]))
        refine own_step (fun _ k => XS.istore X26.here hx rfl (hb hby at_69) rfl (l' := #[.val (.int p0), .val (.int p1), .val (.int p2), .val (.int p3), .val (.int p4), .val (.int p2), .val (.int p3), .val (.ref b3), .val (.ref b17), .val (.int (0 : Int32)), .unset]) rfl k) ?_
        show own_Fin p e below s _ _ _ (T26.setTop (mkF m 71 #[.val (.int p0), .val (.int p1), .val (.int p2), .val (.int p3), .val (.int p4), .val (.int p2), .val (.int p3), .val (.ref b3), .val (.ref b17), .val (.int (0 : Int32)), .unset] []))
        refine own_step (fun _ k => XS.iload X26.here hx rfl (hb hby at_71) rfl k) ?_
        show own_Fin p e below s _ _ _ (T26.setTop (mkF m 73 #[.val (.int p0), .val (.int p1), .val (.int p2), .val (.int p3), .val (.int p4), .val (.int p2), .val (.int p3), .val (.ref b3), .val (.ref b17), .val (.int (0 : Int32)), .unset] [(.int p4)]))
        refine own_step (fun _ k => XS.iconst X26.here hx rfl (hb hby at_73) k) ?_
        show own_Fin p e below s _ _ _ (T26.setTop (mkF m 74 #[.val (.int p0), .val (.int p1), .val (.int p2), .val (.int p3), .val (.int p4), .val (.int p2), .val (.int p3), .val (.ref b3), .val (.ref b17), .val (.int (0 : Int32)), .unset] [(.int (4 : Int32)), (.int p4)]))
        refine own_step (fun _ k => XS.iand X26.here hx rfl (hb hby at_74) rfl k) ?_
        show own_Fin p e below s _ _ _ (T26.setTop (mkF m 75 #[.val (.int p0), .val (.int p1), .val (.int p2), .val (.int p3), .val (.int p4), .val (.int p2), .val (.int p3), .val (.ref b3), .val (.ref b17), .val (.int (0 : Int32)), .unset] [(.int (p4 &&& (4 : Int32)))]))
        by_cases hc89 : (p4 &&& (4 : Int32)) = (0 : Int32)
        · refine own_step (fun _ k => XS.ifYes X26.here hx rfl (pc0 := 75) (pc' := 122) rfl (hb hby at_75) rfl ((if0 _ _).trans (teq hc89).1) (by decide) (by decide) k) ?_
          show own_Fin p e below s _ _ _ (T26.setTop (mkF m 122 #[.val (.int p0), .val (.int p1), .val (.int p2), .val (.int p3), .val (.int p4), .val (.int p2), .val (.int p3), .val (.ref b3), .val (.ref b17), .val (.int (0 : Int32)), .unset] []))
          refine own_step (fun _ k => XS.aload X26.here hx rfl (hb hby at_122) rfl rfl k) ?_
          show own_Fin p e below s _ _ _ (T26.setTop (mkF m 124 #[.val (.int p0), .val (.int p1), .val (.int p2), .val (.int p3), .val (.int p4), .val (.int p2), .val (.int p3), .val (.ref b3), .val (.ref b17), .val (.int (0 : Int32)), .unset] [(.ref b3)]))
          refine own_step (fun _ k => XS.aload X26.here hx rfl (hb hby at_124) rfl rfl k) ?_
          show own_Fin p e below s _ _ _ (T26.setTop (mkF m 126 #[.val (.int p0), .val (.int p1), .val (.int p2), .val (.int p3), .val (.int p4), .val (.int p2), .val (.int p3), .val (.ref b3), .val (.ref b17), .val (.int (0 : Int32)), .unset] [(.ref b17), (.ref b3)]))
          obtain ⟨cq90, kq90, q90a, q90b, q90c⟩ := isOf hZ rfl G33
          obtain ⟨_, _, ⟨T90, L90, k90, n90⟩, -, X90, ⟨Lc90, hQ90, l90, y90, z90⟩, st90⟩ := X26.virtualBack hx (y := own_y4) (z := own_y4) hown (mvT hZ (own_w hw 18 rfl)) (mvT hZ (own_w hw 19 rfl)) (notFace_of_selects (args := #[]) (mvT hZ (own_w hw 21 rfl))) (mvT hZ (own_w hw 21 rfl)) (mvT hZ (own_w hw 20 rfl)) (by decide) (backOf (W := 0) (own_rm8 l Z a0 hw hs [] b3 b17 p2 p0 p3 p1 T26.heap n0 Z26 G27 G28 G34 G29 G35) hZ (own_w hw 22 rfl) (own_w hw 2 rfl) (by decide) (by decide)) q90a q90c (g := (mkF m 126 #[.val (.int p0), .val (.int p1), .val (.int p2), .val (.int p3), .val (.int p4), .val (.int p2), .val (.int p3), .val (.ref b3), .val (.ref b17), .val (.int (0 : Int32)), .unset] [(.ref b17), (.ref b3)])) rfl (by rw [hml]; rfl) (Steps.refl _) (argsL := [(.ref b17)]) (rest := []) (lenOf own_pd3 rfl) rfl (by show 2 * 0 + _ ≤ _; exact Nat.le_of_eq rfl) (hb hby at_126) (fun _ _ => ⟨rfl, rfl, (by decide : 2 + 0 ≤ _), (by decide : 4 + 0 ≤ _)⟩)
          dsimp only [Pt.U, Pt.locs, Pt.cells, Pt.slots] at X90 l90 y90 z90 st90 hQ90
          subst l90 y90 z90
          obtain ⟨rfl, N90q, e90⟩ := hQ90
          have N90 := Fr.app N26 N90q
          refine own_step (fun _ k => st90.trans k) ?_
          show own_Fin p e below s _ _ _ (T90.setTop (mkF m 129 #[.val (.int p0), .val (.int p1), .val (.int p2), .val (.int p3), .val (.int p4), .val (.int p2), .val (.int p3), .val (.ref b3), .val (.ref b17), .val (.int (0 : Int32)), .unset] [(.int (own_r8 p2 p0 p3 p1))]))
          refine own_step (fun _ k => XS.iload X90.here hx rfl (hb hby at_129) rfl k) ?_
          show own_Fin p e below s _ _ _ (T90.setTop (mkF m 131 #[.val (.int p0), .val (.int p1), .val (.int p2), .val (.int p3), .val (.int p4), .val (.int p2), .val (.int p3), .val (.ref b3), .val (.ref b17), .val (.int (0 : Int32)), .unset] [(.int (0 : Int32)), (.int (own_r8 p2 p0 p3 p1))]))
          have hf91 : (own_r8 p2 p0 p3 p1) = (0 : Int32) := by rw [own_r8, if_neg ((fun q => hc37 q.symm))]
          refine own_step (fun _ k => XS.icmpNo X90.here hx rfl (hb hby at_131) rfl (teq hf91).2 k) ?_
          show own_Fin p e below s _ _ _ (T90.setTop (mkF m 134 #[.val (.int p0), .val (.int p1), .val (.int p2), .val (.int p3), .val (.int p4), .val (.int p2), .val (.int p3), .val (.ref b3), .val (.ref b17), .val (.int (0 : Int32)), .unset] []))
          refine own_step (fun _ k => XS.aload X90.here hx rfl (hb hby at_134) rfl rfl k) ?_
          show own_Fin p e below s _ _ _ (T90.setTop (mkF m 136 #[.val (.int p0), .val (.int p1), .val (.int p2), .val (.int p3), .val (.int p4), .val (.int p2), .val (.int p3), .val (.ref b3), .val (.ref b17), .val (.int (0 : Int32)), .unset] [(.ref b17)]))
          refine own_step (fun _ k => XS.aload X90.here hx rfl (hb hby at_136) rfl rfl k) ?_
          show own_Fin p e below s _ _ _ (T90.setTop (mkF m 138 #[.val (.int p0), .val (.int p1), .val (.int p2), .val (.int p3), .val (.int p4), .val (.int p2), .val (.int p3), .val (.ref b3), .val (.ref b17), .val (.int (0 : Int32)), .unset] [(.ref b3), (.ref b17)]))
          obtain ⟨cq92, kq92, q92a, q92b, q92c⟩ := isOf hZ e90 G27
          obtain ⟨_, _, ⟨T92, L92, k92, n92⟩, -, X92, ⟨Lc92, hQ92, l92, y92, z92⟩, st92⟩ := X90.virtualBack hx (y := own_y4) (z := own_y4) hown (mvT hZ (own_w hw 18 rfl)) (mvT hZ (own_w hw 19 rfl)) (notFace_of_selects (args := #[]) (mvT hZ (own_w hw 21 rfl))) (mvT hZ (own_w hw 21 rfl)) (mvT hZ (own_w hw 20 rfl)) (by decide) (backOf (W := 0) (own_rm8 l Z a0 hw hs [] b17 b3 p0 p2 p1 p3 T26.heap n0 Z26 G33 G34 G28 G35 G29) hZ (own_w hw 22 rfl) (own_w hw 2 rfl) (by decide) (by decide)) q92a q92c (g := (mkF m 138 #[.val (.int p0), .val (.int p1), .val (.int p2), .val (.int p3), .val (.int p4), .val (.int p2), .val (.int p3), .val (.ref b3), .val (.ref b17), .val (.int (0 : Int32)), .unset] [(.ref b3), (.ref b17)])) rfl (by rw [hml]; rfl) (Steps.refl _) (argsL := [(.ref b3)]) (rest := []) (lenOf own_pd3 rfl) rfl (by show 2 * 0 + _ ≤ _; exact Nat.le_of_eq rfl) (hb hby at_138) (fun _ _ => ⟨rfl, e90, (by decide : 2 + 0 ≤ _), (by decide : 4 + 0 ≤ _)⟩)
          dsimp only [Pt.U, Pt.locs, Pt.cells, Pt.slots] at X92 l92 y92 z92 st92 hQ92
          subst l92 y92 z92
          obtain ⟨rfl, N92q, e92⟩ := hQ92
          have N92 := Fr.app N90 N92q
          refine own_step (fun _ k => st92.trans k) ?_
          show own_Fin p e below s _ _ _ (T92.setTop (mkF m 141 #[.val (.int p0), .val (.int p1), .val (.int p2), .val (.int p3), .val (.int p4), .val (.int p2), .val (.int p3), .val (.ref b3), .val (.ref b17), .val (.int (0 : Int32)), .unset] [(.int (own_r8 p0 p2 p1 p3))]))
          refine own_step (fun _ k => XS.iload X92.here hx rfl (hb hby at_141) rfl k) ?_
          show own_Fin p e below s _ _ _ (T92.setTop (mkF m 143 #[.val (.int p0), .val (.int p1), .val (.int p2), .val (.int p3), .val (.int p4), .val (.int p2), .val (.int p3), .val (.ref b3), .val (.ref b17), .val (.int (0 : Int32)), .unset] [(.int (0 : Int32)), (.int (own_r8 p0 p2 p1 p3))]))
          have hf93 : (own_r8 p0 p2 p1 p3) = (0 : Int32) := by rw [own_r8, if_neg (hc37)]
          refine own_step (fun _ k => XS.icmpNo X92.here hx rfl (hb hby at_143) rfl (teq hf93).2 k) ?_
          show own_Fin p e below s _ _ _ (T92.setTop (mkF m 146 #[.val (.int p0), .val (.int p1), .val (.int p2), .val (.int p3), .val (.int p4), .val (.int p2), .val (.int p3), .val (.ref b3), .val (.ref b17), .val (.int (0 : Int32)), .unset] []))
          refine own_step (fun _ k => XS.aload X92.here hx rfl (hb hby at_146) rfl rfl k) ?_
          show own_Fin p e below s _ _ _ (T92.setTop (mkF m 148 #[.val (.int p0), .val (.int p1), .val (.int p2), .val (.int p3), .val (.int p4), .val (.int p2), .val (.int p3), .val (.ref b3), .val (.ref b17), .val (.int (0 : Int32)), .unset] [(.ref b3)]))
          refine own_step (fun _ k => XS.aload X92.here hx rfl (hb hby at_148) rfl rfl k) ?_
          show own_Fin p e below s _ _ _ (T92.setTop (mkF m 150 #[.val (.int p0), .val (.int p1), .val (.int p2), .val (.int p3), .val (.int p4), .val (.int p2), .val (.int p3), .val (.ref b3), .val (.ref b17), .val (.int (0 : Int32)), .unset] [(.ref b3), (.ref b3)]))
          obtain ⟨cq94, kq94, q94a, q94b, q94c⟩ := isOf hZ e92 G33
          obtain ⟨_, _, ⟨T94, L94, k94, n94⟩, -, X94, ⟨Lc94, hQ94, l94, y94, z94⟩, st94⟩ := X92.virtualBack hx (y := own_y4) (z := own_y4) hown (mvT hZ (own_w hw 18 rfl)) (mvT hZ (own_w hw 19 rfl)) (notFace_of_selects (args := #[]) (mvT hZ (own_w hw 21 rfl))) (mvT hZ (own_w hw 21 rfl)) (mvT hZ (own_w hw 20 rfl)) (by decide) (backOf (W := 0) (own_rm8 l Z a0 hw hs [] b3 b3 p0 p0 p1 p1 T26.heap n0 Z26 G33 G34 G34 G35 G35) hZ (own_w hw 22 rfl) (own_w hw 2 rfl) (by decide) (by decide)) q94a q94c (g := (mkF m 150 #[.val (.int p0), .val (.int p1), .val (.int p2), .val (.int p3), .val (.int p4), .val (.int p2), .val (.int p3), .val (.ref b3), .val (.ref b17), .val (.int (0 : Int32)), .unset] [(.ref b3), (.ref b3)])) rfl (by rw [hml]; rfl) (Steps.refl _) (argsL := [(.ref b3)]) (rest := []) (lenOf own_pd3 rfl) rfl (by show 2 * 0 + _ ≤ _; exact Nat.le_of_eq rfl) (hb hby at_150) (fun _ _ => ⟨rfl, e92, (by decide : 2 + 0 ≤ _), (by decide : 4 + 0 ≤ _)⟩)
          dsimp only [Pt.U, Pt.locs, Pt.cells, Pt.slots] at X94 l94 y94 z94 st94 hQ94
          subst l94 y94 z94
          obtain ⟨rfl, N94q, e94⟩ := hQ94
          have N94 := Fr.app N92 N94q
          refine own_step (fun _ k => st94.trans k) ?_
          show own_Fin p e below s _ _ _ (T94.setTop (mkF m 153 #[.val (.int p0), .val (.int p1), .val (.int p2), .val (.int p3), .val (.int p4), .val (.int p2), .val (.int p3), .val (.ref b3), .val (.ref b17), .val (.int (0 : Int32)), .unset] [(.int (own_r8 p0 p0 p1 p1))]))
          have hf95 : ¬ ((own_r8 p0 p0 p1 p1) = (0 : Int32)) := by rw [show (own_r8 p0 p0 p1 p1) = (1 : Int32) from by rw [own_r8, if_pos (rfl), if_pos (rfl)]]; decide
          refine own_step (fun _ k => XS.ifNo X94.here hx rfl (hb hby at_153) rfl ((if0 _ _).trans (feq hf95).1) k) ?_
          show own_Fin p e below s _ _ _ (T94.setTop (mkF m 156 #[.val (.int p0), .val (.int p1), .val (.int p2), .val (.int p3), .val (.int p4), .val (.int p2), .val (.int p3), .val (.ref b3), .val (.ref b17), .val (.int (0 : Int32)), .unset] []))
          refine own_step (fun _ k => XS.iconst X94.here hx rfl (hb hby at_156) k) ?_
          show own_Fin p e below s _ _ _ (T94.setTop (mkF m 157 #[.val (.int p0), .val (.int p1), .val (.int p2), .val (.int p3), .val (.int p4), .val (.int p2), .val (.int p3), .val (.ref b3), .val (.ref b17), .val (.int (0 : Int32)), .unset] [(.int (1 : Int32))]))
          refine own_step (fun _ k => XS.goto X94.here hx rfl (pc0 := 157) (pc' := 161) rfl (hb hby at_157) (by decide) (by decide) k) ?_
          show own_Fin p e below s _ _ _ (T94.setTop (mkF m 161 #[.val (.int p0), .val (.int p1), .val (.int p2), .val (.int p3), .val (.int p4), .val (.int p2), .val (.int p3), .val (.ref b3), .val (.ref b17), .val (.int (0 : Int32)), .unset] [(.int (1 : Int32))]))
          exact own_ret X94 hlk (v := some (.int (1 : Int32))) (fun h => by rw [Bd.returns] at h; cases h) (by decide) (by decide) (by show own_Q9 Z p0 p1 p2 p3 p4 s_cache cl_cache h0 n0 _ T94.heap _; rw [e94]; exact ⟨rfl, N94⟩) (fun fs hr => retN X94 hx (t := .boolean) Bd.returns (by simp) (hb hby at_161) hr)
        · refine own_step (fun _ k => XS.ifNo X26.here hx rfl (hb hby at_75) rfl ((if0 _ _).trans (feq hc89).1) k) ?_
          show own_Fin p e below s _ _ _ (T26.setTop (mkF m 78 #[.val (.int p0), .val (.int p1), .val (.int p2), .val (.int p3), .val (.int p4), .val (.int p2), .val (.int p3), .val (.ref b3), .val (.ref b17), .val (.int (0 : Int32)), .unset] []))
          refine own_step (fun _ k => XS.iload X26.here hx rfl (hb hby at_78) rfl k) ?_
          show own_Fin p e below s _ _ _ (T26.setTop (mkF m 80 #[.val (.int p0), .val (.int p1), .val (.int p2), .val (.int p3), .val (.int p4), .val (.int p2), .val (.int p3), .val (.ref b3), .val (.ref b17), .val (.int (0 : Int32)), .unset] [(.int p4)]))
          refine own_step (fun _ k => XS.bipush X26.here hx rfl (hb hby at_80) k) ?_
          show own_Fin p e below s _ _ _ (T26.setTop (mkF m 82 #[.val (.int p0), .val (.int p1), .val (.int p2), .val (.int p3), .val (.int p4), .val (.int p2), .val (.int p3), .val (.ref b3), .val (.ref b17), .val (.int (0 : Int32)), .unset] [(.int (8 : Int32)), (.int p4)]))
          refine own_step (fun _ k => XS.iand X26.here hx rfl (hb hby at_82) rfl k) ?_
          show own_Fin p e below s _ _ _ (T26.setTop (mkF m 83 #[.val (.int p0), .val (.int p1), .val (.int p2), .val (.int p3), .val (.int p4), .val (.int p2), .val (.int p3), .val (.ref b3), .val (.ref b17), .val (.int (0 : Int32)), .unset] [(.int (p4 &&& (8 : Int32)))]))
          by_cases hc96 : (p4 &&& (8 : Int32)) = (0 : Int32)
          · refine own_step (fun _ k => XS.ifYes X26.here hx rfl (pc0 := 83) (pc' := 90) rfl (hb hby at_83) rfl ((if0 _ _).trans (teq hc96).1) (by decide) (by decide) k) ?_
            show own_Fin p e below s _ _ _ (T26.setTop (mkF m 90 #[.val (.int p0), .val (.int p1), .val (.int p2), .val (.int p3), .val (.int p4), .val (.int p2), .val (.int p3), .val (.ref b3), .val (.ref b17), .val (.int (0 : Int32)), .unset] []))
            refine own_step (fun _ k => XS.iloadN X26.here hx rfl (hb hby at_90) rfl k) ?_
            show own_Fin p e below s _ _ _ (T26.setTop (mkF m 91 #[.val (.int p0), .val (.int p1), .val (.int p2), .val (.int p3), .val (.int p4), .val (.int p2), .val (.int p3), .val (.ref b3), .val (.ref b17), .val (.int (0 : Int32)), .unset] [(.int p0)]))
            obtain ⟨_, _, ⟨T97, L97, k97, n97⟩, -, X97, ⟨Lc97, hQ97, l97, y97, z97⟩, st97⟩ := Jvm.LawKit.callS X26 hx (y := own_y5) hown (mvT hZ (own_w hw 25 rfl)) (mvT hZ (own_w hw 26 rfl)) (mvT hZ (own_w hw 27 rfl)) (mvT hZ (own_w hw 28 rfl)) (by decide) (backOf (W := 0) (own_rm5 l Z a0 hw hs [] p0 s_cache cl_cache T26.heap n0 Z26 G30 G31 G32 Bx) hZ (own_w hw 28 rfl) (own_w hw 27 rfl) (by decide) (by decide)) (g := (mkF m 91 #[.val (.int p0), .val (.int p1), .val (.int p2), .val (.int p3), .val (.int p4), .val (.int p2), .val (.int p3), .val (.ref b3), .val (.ref b17), .val (.int (0 : Int32)), .unset] [(.int p0)])) rfl (by rw [hml]; rfl) (argsL := [(.int p0)]) (rest := []) (lenOf own_pd4 rfl) rfl (by show 2 * 0 + _ ≤ _; exact Nat.le_of_eq rfl) (hb hby at_91) (fun _ _ => ⟨rfl, rfl, (by decide : 2 + 1 ≤ _), (by decide : 4 + 1 ≤ _)⟩)
            dsimp only [Pt.U, Pt.locs, Pt.cells, Pt.slots] at X97 l97 y97 z97 st97 hQ97
            subst l97 y97 z97
            obtain ⟨N97q, K97q, b97_o0, rfl, G98⟩ := hQ97
            have N97 := Fr.app N26 N97q
            have K97 : Keep h0 T97.heap [] := K26.trans K97q all0
            have Z97 : n0 ≤ T97.heap.size := Nat.le_trans Z26 K97q.1
            have G99 := (G30.keep K97q all0)
            have G100 := (own_sta_keep0 G31 K97q)
            have G101 := (own_sta_keep0 G32 K97q)
            have G102 := (G33.keep K97q)
            have G103 := (G34.keep K97q nin0)
            have G104 := (G35.keep K97q nin0)
            have G105 := (G27.keep K97q)
            have G106 := (G28.keep K97q nin0)
            have G107 := (G29.keep K97q nin0)
            refine own_step (fun _ k => st97 _ k) ?_
            show own_Fin p e below s _ _ _ (T97.setTop (mkF m 94 #[.val (.int p0), .val (.int p1), .val (.int p2), .val (.int p3), .val (.int p4), .val (.int p2), .val (.int p3), .val (.ref b3), .val (.ref b17), .val (.int (0 : Int32)), .unset] [(.ref b97_o0)]))
            refine own_step (fun _ k => XS.astore X97.here hx rfl (hb hby at_94) rfl rfl (l' := #[.val (.int p0), .val (.int p1), .val (.int p2), .val (.int p3), .val (.int p4), .val (.int p2), .val (.int p3), .val (.ref b3), .val (.ref b17), .val (.int (0 : Int32)), .val (.ref b97_o0)]) rfl k) ?_
            show own_Fin p e below s _ _ _ (T97.setTop (mkF m 96 #[.val (.int p0), .val (.int p1), .val (.int p2), .val (.int p3), .val (.int p4), .val (.int p2), .val (.int p3), .val (.ref b3), .val (.ref b17), .val (.int (0 : Int32)), .val (.ref b97_o0)] []))
            refine own_step (fun _ k => XS.aload X97.here hx rfl (hb hby at_96) rfl rfl k) ?_
            show own_Fin p e below s _ _ _ (T97.setTop (mkF m 98 #[.val (.int p0), .val (.int p1), .val (.int p2), .val (.int p3), .val (.int p4), .val (.int p2), .val (.int p3), .val (.ref b3), .val (.ref b17), .val (.int (0 : Int32)), .val (.ref b97_o0)] [(.ref b3)]))
            refine own_step (fun _ k => XS.aload X97.here hx rfl (hb hby at_98) rfl rfl k) ?_
            show own_Fin p e below s _ _ _ (T97.setTop (mkF m 100 #[.val (.int p0), .val (.int p1), .val (.int p2), .val (.int p3), .val (.int p4), .val (.int p2), .val (.int p3), .val (.ref b3), .val (.ref b17), .val (.int (0 : Int32)), .val (.ref b97_o0)] [(.ref b97_o0), (.ref b3)]))
            obtain ⟨cq108, kq108, q108a, q108b, q108c⟩ := isOf hZ rfl G102
            obtain ⟨_, _, ⟨T108, L108, k108, n108⟩, -, X108, ⟨Lc108, hQ108, l108, y108, z108⟩, st108⟩ := X97.virtualBack hx (y := own_y4) (z := own_y4) hown (mvT hZ (own_w hw 18 rfl)) (mvT hZ (own_w hw 19 rfl)) (notFace_of_selects (args := #[]) (mvT hZ (own_w hw 21 rfl))) (mvT hZ (own_w hw 21 rfl)) (mvT hZ (own_w hw 20 rfl)) (by decide) (backOf (W := 0) (own_rm7 l Z a0 hw hs [] b3 b97_o0 T97.heap n0 Z97 G98) hZ (own_w hw 22 rfl) (own_w hw 2 rfl) (by decide) (by decide)) q108a q108c (g := (mkF m 100 #[.val (.int p0), .val (.int p1), .val (.int p2), .val (.int p3), .val (.int p4), .val (.int p2), .val (.int p3), .val (.ref b3), .val (.ref b17), .val (.int (0 : Int32)), .val (.ref b97_o0)] [(.ref b97_o0), (.ref b3)])) rfl (by rw [hml]; rfl) (Steps.refl _) (argsL := [(.ref b97_o0)]) (rest := []) (lenOf own_pd3 rfl) rfl (by show 2 * 0 + _ ≤ _; exact Nat.le_of_eq rfl) (hb hby at_100) (fun _ _ => ⟨rfl, rfl, (by decide : 3 + 0 ≤ _), (by decide : 5 + 0 ≤ _)⟩)
            dsimp only [Pt.U, Pt.locs, Pt.cells, Pt.slots] at X108 l108 y108 z108 st108 hQ108
            subst l108 y108 z108
            obtain ⟨rfl, N108q, e108⟩ := hQ108
            have N108 := Fr.app N97 N108q
            refine own_step (fun _ k => st108.trans k) ?_
            show own_Fin p e below s _ _ _ (T108.setTop (mkF m 103 #[.val (.int p0), .val (.int p1), .val (.int p2), .val (.int p3), .val (.int p4), .val (.int p2), .val (.int p3), .val (.ref b3), .val (.ref b17), .val (.int (0 : Int32)), .val (.ref b97_o0)] [(.int (0 : Int32))]))
            refine own_step (fun _ k => XS.ifNo X108.here hx rfl (hb hby at_103) rfl ((if0 _ _).trans (teq (by decide : (0 : Int32) = (0 : Int32))).2) k) ?_
            show own_Fin p e below s _ _ _ (T108.setTop (mkF m 106 #[.val (.int p0), .val (.int p1), .val (.int p2), .val (.int p3), .val (.int p4), .val (.int p2), .val (.int p3), .val (.ref b3), .val (.ref b17), .val (.int (0 : Int32)), .val (.ref b97_o0)] []))
            refine own_step (fun _ k => XS.aload X108.here hx rfl (hb hby at_106) rfl rfl k) ?_
            show own_Fin p e below s _ _ _ (T108.setTop (mkF m 108 #[.val (.int p0), .val (.int p1), .val (.int p2), .val (.int p3), .val (.int p4), .val (.int p2), .val (.int p3), .val (.ref b3), .val (.ref b17), .val (.int (0 : Int32)), .val (.ref b97_o0)] [(.ref b3)]))
            refine own_step (fun _ k => XS.aload X108.here hx rfl (hb hby at_108) rfl rfl k) ?_
            show own_Fin p e below s _ _ _ (T108.setTop (mkF m 110 #[.val (.int p0), .val (.int p1), .val (.int p2), .val (.int p3), .val (.int p4), .val (.int p2), .val (.int p3), .val (.ref b3), .val (.ref b17), .val (.int (0 : Int32)), .val (.ref b97_o0)] [(.ref b3), (.ref b3)]))
            obtain ⟨cq109, kq109, q109a, q109b, q109c⟩ := isOf hZ e108 G102
            obtain ⟨_, _, ⟨T109, L109, k109, n109⟩, -, X109, ⟨Lc109, hQ109, l109, y109, z109⟩, st109⟩ := X108.virtualBack hx (y := own_y4) (z := own_y4) hown (mvT hZ (own_w hw 18 rfl)) (mvT hZ (own_w hw 19 rfl)) (notFace_of_selects (args := #[]) (mvT hZ (own_w hw 21 rfl))) (mvT hZ (own_w hw 21 rfl)) (mvT hZ (own_w hw 20 rfl)) (by decide) (backOf (W := 0) (own_rm8 l Z a0 hw hs [] b3 b3 p0 p0 p1 p1 T97.heap n0 Z97 G102 G103 G103 G104 G104) hZ (own_w hw 22 rfl) (own_w hw 2 rfl) (by decide) (by decide)) q109a q109c (g := (mkF m 110 #[.val (.int p0), .val (.int p1), .val (.int p2), .val (.int p3), .val (.int p4), .val (.int p2), .val (.int p3), .val (.ref b3), .val (.ref b17), .val (.int (0 : Int32)), .val (.ref b97_o0)] [(.ref b3), (.ref b3)])) rfl (by rw [hml]; rfl) (Steps.refl _) (argsL := [(.ref b3)]) (rest := []) (lenOf own_pd3 rfl) rfl (by show 2 * 0 + _ ≤ _; exact Nat.le_of_eq rfl) (hb hby at_110) (fun _ _ => ⟨rfl, e108, (by decide : 3 + 0 ≤ _), (by decide : 5 + 0 ≤ _)⟩)
            dsimp only [Pt.U, Pt.locs, Pt.cells, Pt.slots] at X109 l109 y109 z109 st109 hQ109
            subst l109 y109 z109
            obtain ⟨rfl, N109q, e109⟩ := hQ109
            have N109 := Fr.app N108 N109q
            refine own_step (fun _ k => st109.trans k) ?_
            show own_Fin p e below s _ _ _ (T109.setTop (mkF m 113 #[.val (.int p0), .val (.int p1), .val (.int p2), .val (.int p3), .val (.int p4), .val (.int p2), .val (.int p3), .val (.ref b3), .val (.ref b17), .val (.int (0 : Int32)), .val (.ref b97_o0)] [(.int (own_r8 p0 p0 p1 p1))]))
            have hf110 : ¬ ((own_r8 p0 p0 p1 p1) = (0 : Int32)) := by rw [show (own_r8 p0 p0 p1 p1) = (1 : Int32) from by rw [own_r8, if_pos (rfl), if_pos (rfl)]]; decide
            refine own_step (fun _ k => XS.ifNo X109.here hx rfl (hb hby at_113) rfl ((if0 _ _).trans (feq hf110).1) k) ?_
            show own_Fin p e below s _ _ _ (T109.setTop (mkF m 116 #[.val (.int p0), .val (.int p1), .val (.int p2), .val (.int p3), .val (.int p4), .val (.int p2), .val (.int p3), .val (.ref b3), .val (.ref b17), .val (.int (0 : Int32)), .val (.ref b97_o0)] []))
            refine own_step (fun _ k => XS.iconst X109.here hx rfl (hb hby at_116) k) ?_
            show own_Fin p e below s _ _ _ (T109.setTop (mkF m 117 #[.val (.int p0), .val (.int p1), .val (.int p2), .val (.int p3), .val (.int p4), .val (.int p2), .val (.int p3), .val (.ref b3), .val (.ref b17), .val (.int (0 : Int32)), .val (.ref b97_o0)] [(.int (1 : Int32))]))
            refine own_step (fun _ k => XS.goto X109.here hx rfl (pc0 := 117) (pc' := 121) rfl (hb hby at_117) (by decide) (by decide) k) ?_
            show own_Fin p e below s _ _ _ (T109.setTop (mkF m 121 #[.val (.int p0), .val (.int p1), .val (.int p2), .val (.int p3), .val (.int p4), .val (.int p2), .val (.int p3), .val (.ref b3), .val (.ref b17), .val (.int (0 : Int32)), .val (.ref b97_o0)] [(.int (1 : Int32))]))
            exact own_ret X109 hlk (v := some (.int (1 : Int32))) (fun h => by rw [Bd.returns] at h; cases h) (by decide) (by decide) (by show own_Q9 Z p0 p1 p2 p3 p4 s_cache cl_cache h0 n0 _ T109.heap _; rw [e109]; exact ⟨rfl, N109⟩) (fun fs hr => retN X109 hx (t := .boolean) Bd.returns (by simp) (hb hby at_121) hr)
          · refine own_step (fun _ k => XS.ifNo X26.here hx rfl (hb hby at_83) rfl ((if0 _ _).trans (feq hc96).1) k) ?_
            show own_Fin p e below s _ _ _ (T26.setTop (mkF m 86 #[.val (.int p0), .val (.int p1), .val (.int p2), .val (.int p3), .val (.int p4), .val (.int p2), .val (.int p3), .val (.ref b3), .val (.ref b17), .val (.int (0 : Int32)), .unset] []))
            refine own_step (fun _ k => XS.aconstNull X26.here hx rfl (hb hby at_86) k) ?_
            show own_Fin p e below s _ _ _ (T26.setTop (mkF m 87 #[.val (.int p0), .val (.int p1), .val (.int p2), .val (.int p3), .val (.int p4), .val (.int p2), .val (.int p3), .val (.ref b3), .val (.ref b17), .val (.int (0 : Int32)), .unset] [.null]))
            refine own_step (fun _ k => XS.goto X26.here hx rfl (pc0 := 87) (pc' := 94) rfl (hb hby at_87) (by decide) (by decide) k) ?_
            show own_Fin p e below s _ _ _ (T26.setTop (mkF m 94 #[.val (.int p0), .val (.int p1), .val (.int p2), .val (.int p3), .val (.int p4), .val (.int p2), .val (.int p3), .val (.ref b3), .val (.ref b17), .val (.int (0 : Int32)), .unset] [.null]))
            refine own_step (fun _ k => XS.astore X26.here hx rfl (hb hby at_94) rfl rfl (l' := #[.val (.int p0), .val (.int p1), .val (.int p2), .val (.int p3), .val (.int p4), .val (.int p2), .val (.int p3), .val (.ref b3), .val (.ref b17), .val (.int (0 : Int32)), .val .null]) rfl k) ?_
            show own_Fin p e below s _ _ _ (T26.setTop (mkF m 96 #[.val (.int p0), .val (.int p1), .val (.int p2), .val (.int p3), .val (.int p4), .val (.int p2), .val (.int p3), .val (.ref b3), .val (.ref b17), .val (.int (0 : Int32)), .val .null] []))
            refine own_step (fun _ k => XS.aload X26.here hx rfl (hb hby at_96) rfl rfl k) ?_
            show own_Fin p e below s _ _ _ (T26.setTop (mkF m 98 #[.val (.int p0), .val (.int p1), .val (.int p2), .val (.int p3), .val (.int p4), .val (.int p2), .val (.int p3), .val (.ref b3), .val (.ref b17), .val (.int (0 : Int32)), .val .null] [(.ref b3)]))
            refine own_step (fun _ k => XS.aload X26.here hx rfl (hb hby at_98) rfl rfl k) ?_
            show own_Fin p e below s _ _ _ (T26.setTop (mkF m 100 #[.val (.int p0), .val (.int p1), .val (.int p2), .val (.int p3), .val (.int p4), .val (.int p2), .val (.int p3), .val (.ref b3), .val (.ref b17), .val (.int (0 : Int32)), .val .null] [.null, (.ref b3)]))
            obtain ⟨cq111, kq111, q111a, q111b, q111c⟩ := isOf hZ rfl G33
            obtain ⟨_, _, ⟨T111, L111, k111, n111⟩, -, X111, ⟨Lc111, hQ111, l111, y111, z111⟩, st111⟩ := X26.virtualBack hx (y := own_y4) (z := own_y4) hown (mvT hZ (own_w hw 18 rfl)) (mvT hZ (own_w hw 19 rfl)) (notFace_of_selects (args := #[]) (mvT hZ (own_w hw 21 rfl))) (mvT hZ (own_w hw 21 rfl)) (mvT hZ (own_w hw 20 rfl)) (by decide) (backOf (W := 0) (own_rm6 l Z a0 hw hs [] b3 T26.heap n0 Z26 ) hZ (own_w hw 22 rfl) (own_w hw 2 rfl) (by decide) (by decide)) q111a q111c (g := (mkF m 100 #[.val (.int p0), .val (.int p1), .val (.int p2), .val (.int p3), .val (.int p4), .val (.int p2), .val (.int p3), .val (.ref b3), .val (.ref b17), .val (.int (0 : Int32)), .val .null] [.null, (.ref b3)])) rfl (by rw [hml]; rfl) (Steps.refl _) (argsL := [.null]) (rest := []) (lenOf own_pd3 rfl) rfl (by show 2 * 0 + _ ≤ _; exact Nat.le_of_eq rfl) (hb hby at_100) (fun _ _ => ⟨rfl, rfl, (by decide : 2 + 0 ≤ _), (by decide : 4 + 0 ≤ _)⟩)
            dsimp only [Pt.U, Pt.locs, Pt.cells, Pt.slots] at X111 l111 y111 z111 st111 hQ111
            subst l111 y111 z111
            obtain ⟨rfl, N111q, e111⟩ := hQ111
            have N111 := Fr.app N26 N111q
            refine own_step (fun _ k => st111.trans k) ?_
            show own_Fin p e below s _ _ _ (T111.setTop (mkF m 103 #[.val (.int p0), .val (.int p1), .val (.int p2), .val (.int p3), .val (.int p4), .val (.int p2), .val (.int p3), .val (.ref b3), .val (.ref b17), .val (.int (0 : Int32)), .val .null] [(.int (0 : Int32))]))
            refine own_step (fun _ k => XS.ifNo X111.here hx rfl (hb hby at_103) rfl ((if0 _ _).trans (teq (by decide : (0 : Int32) = (0 : Int32))).2) k) ?_
            show own_Fin p e below s _ _ _ (T111.setTop (mkF m 106 #[.val (.int p0), .val (.int p1), .val (.int p2), .val (.int p3), .val (.int p4), .val (.int p2), .val (.int p3), .val (.ref b3), .val (.ref b17), .val (.int (0 : Int32)), .val .null] []))
            refine own_step (fun _ k => XS.aload X111.here hx rfl (hb hby at_106) rfl rfl k) ?_
            show own_Fin p e below s _ _ _ (T111.setTop (mkF m 108 #[.val (.int p0), .val (.int p1), .val (.int p2), .val (.int p3), .val (.int p4), .val (.int p2), .val (.int p3), .val (.ref b3), .val (.ref b17), .val (.int (0 : Int32)), .val .null] [(.ref b3)]))
            refine own_step (fun _ k => XS.aload X111.here hx rfl (hb hby at_108) rfl rfl k) ?_
            show own_Fin p e below s _ _ _ (T111.setTop (mkF m 110 #[.val (.int p0), .val (.int p1), .val (.int p2), .val (.int p3), .val (.int p4), .val (.int p2), .val (.int p3), .val (.ref b3), .val (.ref b17), .val (.int (0 : Int32)), .val .null] [(.ref b3), (.ref b3)]))
            obtain ⟨cq112, kq112, q112a, q112b, q112c⟩ := isOf hZ e111 G33
            obtain ⟨_, _, ⟨T112, L112, k112, n112⟩, -, X112, ⟨Lc112, hQ112, l112, y112, z112⟩, st112⟩ := X111.virtualBack hx (y := own_y4) (z := own_y4) hown (mvT hZ (own_w hw 18 rfl)) (mvT hZ (own_w hw 19 rfl)) (notFace_of_selects (args := #[]) (mvT hZ (own_w hw 21 rfl))) (mvT hZ (own_w hw 21 rfl)) (mvT hZ (own_w hw 20 rfl)) (by decide) (backOf (W := 0) (own_rm8 l Z a0 hw hs [] b3 b3 p0 p0 p1 p1 T26.heap n0 Z26 G33 G34 G34 G35 G35) hZ (own_w hw 22 rfl) (own_w hw 2 rfl) (by decide) (by decide)) q112a q112c (g := (mkF m 110 #[.val (.int p0), .val (.int p1), .val (.int p2), .val (.int p3), .val (.int p4), .val (.int p2), .val (.int p3), .val (.ref b3), .val (.ref b17), .val (.int (0 : Int32)), .val .null] [(.ref b3), (.ref b3)])) rfl (by rw [hml]; rfl) (Steps.refl _) (argsL := [(.ref b3)]) (rest := []) (lenOf own_pd3 rfl) rfl (by show 2 * 0 + _ ≤ _; exact Nat.le_of_eq rfl) (hb hby at_110) (fun _ _ => ⟨rfl, e111, (by decide : 2 + 0 ≤ _), (by decide : 4 + 0 ≤ _)⟩)
            dsimp only [Pt.U, Pt.locs, Pt.cells, Pt.slots] at X112 l112 y112 z112 st112 hQ112
            subst l112 y112 z112
            obtain ⟨rfl, N112q, e112⟩ := hQ112
            have N112 := Fr.app N111 N112q
            refine own_step (fun _ k => st112.trans k) ?_
            show own_Fin p e below s _ _ _ (T112.setTop (mkF m 113 #[.val (.int p0), .val (.int p1), .val (.int p2), .val (.int p3), .val (.int p4), .val (.int p2), .val (.int p3), .val (.ref b3), .val (.ref b17), .val (.int (0 : Int32)), .val .null] [(.int (own_r8 p0 p0 p1 p1))]))
            have hf113 : ¬ ((own_r8 p0 p0 p1 p1) = (0 : Int32)) := by rw [show (own_r8 p0 p0 p1 p1) = (1 : Int32) from by rw [own_r8, if_pos (rfl), if_pos (rfl)]]; decide
            refine own_step (fun _ k => XS.ifNo X112.here hx rfl (hb hby at_113) rfl ((if0 _ _).trans (feq hf113).1) k) ?_
            show own_Fin p e below s _ _ _ (T112.setTop (mkF m 116 #[.val (.int p0), .val (.int p1), .val (.int p2), .val (.int p3), .val (.int p4), .val (.int p2), .val (.int p3), .val (.ref b3), .val (.ref b17), .val (.int (0 : Int32)), .val .null] []))
            refine own_step (fun _ k => XS.iconst X112.here hx rfl (hb hby at_116) k) ?_
            show own_Fin p e below s _ _ _ (T112.setTop (mkF m 117 #[.val (.int p0), .val (.int p1), .val (.int p2), .val (.int p3), .val (.int p4), .val (.int p2), .val (.int p3), .val (.ref b3), .val (.ref b17), .val (.int (0 : Int32)), .val .null] [(.int (1 : Int32))]))
            refine own_step (fun _ k => XS.goto X112.here hx rfl (pc0 := 117) (pc' := 121) rfl (hb hby at_117) (by decide) (by decide) k) ?_
            show own_Fin p e below s _ _ _ (T112.setTop (mkF m 121 #[.val (.int p0), .val (.int p1), .val (.int p2), .val (.int p3), .val (.int p4), .val (.int p2), .val (.int p3), .val (.ref b3), .val (.ref b17), .val (.int (0 : Int32)), .val .null] [(.int (1 : Int32))]))
            exact own_ret X112 hlk (v := some (.int (1 : Int32))) (fun h => by rw [Bd.returns] at h; cases h) (by decide) (by decide) (by show own_Q9 Z p0 p1 p2 p3 p4 s_cache cl_cache h0 n0 _ T112.heap _; rw [e112]; exact ⟨rfl, N112⟩) (fun fs hr => retN X112 hx (t := .boolean) Bd.returns (by simp) (hb hby at_121) hr)
    · refine own_step (fun _ k => XS.ifNo X0.here hx rfl (hb hby at_18) rfl ((if0 _ _).trans (feq hc2).1) k) ?_
      show own_Fin p e below s _ _ _ (s₁.setTop (mkF m 21 #[.val (.int p0), .val (.int p1), .val (.int p2), .val (.int p3), .val (.int p4), .val (.int p2), .unset, .unset, .unset, .unset, .unset] []))
      refine own_step (fun _ k => XS.iloadN X0.here hx rfl (hb hby at_21) rfl k) ?_
      show own_Fin p e below s _ _ _ (s₁.setTop (mkF m 22 #[.val (.int p0), .val (.int p1), .val (.int p2), .val (.int p3), .val (.int p4), .val (.int p2), .unset, .unset, .unset, .unset, .unset] [(.int p1)]))
      refine own_step (fun _ k => XS.goto X0.here hx rfl (pc0 := 22) (pc' := 26) rfl (hb hby at_22) (by decide) (by decide) k) ?_
      show own_Fin p e below s _ _ _ (s₁.setTop (mkF m 26 #[.val (.int p0), .val (.int p1), .val (.int p2), .val (.int p3), .val (.int p4), .val (.int p2), .unset, .unset, .unset, .unset, .unset] [(.int p1)]))
      refine own_step (fun _ k => XS.istore X0.here hx rfl (hb hby at_26) rfl (l' := #[.val (.int p0), .val (.int p1), .val (.int p2), .val (.int p3), .val (.int p4), .val (.int p2), .val (.int p1), .unset, .unset, .unset, .unset]) rfl k) ?_
      show own_Fin p e below s _ _ _ (s₁.setTop (mkF m 28 #[.val (.int p0), .val (.int p1), .val (.int p2), .val (.int p3), .val (.int p4), .val (.int p2), .val (.int p1), .unset, .unset, .unset, .unset] []))
      obtain ⟨T114, h114, X114, e114, E114, A114, D114, -, st114⟩ := newO X0 hx hZ hown (own_w hw 0 rfl) (own_w hw 1 rfl) (own_w hw 2 rfl) e0 (g := (mkF m 28 #[.val (.int p0), .val (.int p1), .val (.int p2), .val (.int p3), .val (.int p4), .val (.int p2), .val (.int p1), .unset, .unset, .unset, .unset] [])) rfl (hb hby at_28) (by decide) (by decide)
      obtain ⟨b114, g114⟩ : ∃ z, z = h0.size := ⟨_, rfl⟩
      rw [← g114] at A114 D114 st114
      have gg114 : n0 ≤ b114 := Nat.le_trans Z0 (Nat.le_of_eq g114.symm)
      have sz114 : h0.size ≤ b114 := Nat.le_trans KR.1 (Nat.le_of_eq g114.symm)
      have K114 : Keep h0 h114 [] := KR.ext E114
      have Z114 : n0 ≤ h114.size := Nat.le_trans Z0 E114.1
      have G115 := (Od.ext E114)
      have G116 := (S_high.ext E114)
      have G117 := (S_cache.ext E114)
      have G118 : Fld Z h114 b114 "com/example/tandem/tandem/analysis/Cuts$Range" "from" "I" (.int (0 : Int32)) := D114 (Or.inr (own_w hw 15 rfl)) (ty := .int) (by decide)
      have G119 : Fld Z h114 b114 "com/example/tandem/tandem/analysis/Cuts$Range" "to" "I" (.int (0 : Int32)) := D114 (Or.inr (own_w hw 17 rfl)) (ty := .int) (by decide)
      refine own_step st114 ?_
      show own_Fin p e below s _ _ _ (T114.setTop (mkF m 31 #[.val (.int p0), .val (.int p1), .val (.int p2), .val (.int p3), .val (.int p4), .val (.int p2), .val (.int p1), .unset, .unset, .unset, .unset] [(.ref b114)]))
      refine own_step (fun _ k => XS.dup X114.here hx rfl (hb hby at_31) rfl rfl k) ?_
      show own_Fin p e below s _ _ _ (T114.setTop (mkF m 32 #[.val (.int p0), .val (.int p1), .val (.int p2), .val (.int p3), .val (.int p4), .val (.int p2), .val (.int p1), .unset, .unset, .unset, .unset] [(.ref b114), (.ref b114)]))
      refine own_step (fun _ k => XS.iloadN X114.here hx rfl (hb hby at_32) rfl k) ?_
      show own_Fin p e below s _ _ _ (T114.setTop (mkF m 33 #[.val (.int p0), .val (.int p1), .val (.int p2), .val (.int p3), .val (.int p4), .val (.int p2), .val (.int p1), .unset, .unset, .unset, .unset] [(.int p0), (.ref b114), (.ref b114)]))
      refine own_step (fun _ k => XS.iloadN X114.here hx rfl (hb hby at_33) rfl k) ?_
      show own_Fin p e below s _ _ _ (T114.setTop (mkF m 34 #[.val (.int p0), .val (.int p1), .val (.int p2), .val (.int p3), .val (.int p4), .val (.int p2), .val (.int p1), .unset, .unset, .unset, .unset] [(.int p1), (.int p0), (.ref b114), (.ref b114)]))
      obtain ⟨_, _, ⟨T120, L120, k120, n120⟩, -, X120, ⟨Lc120, hQ120, l120, y120, z120⟩, st120⟩ := X114.specialBack hx (y := own_y3) rfl hown (mvT hZ (own_w hw 3 rfl)) (mvT hZ (own_w hw 4 rfl)) (mvT hZ (own_w hw 5 rfl)) (by decide) (backOf (W := 1) (own_rm2 l Z a0 hw hs [] b114 p0 p1 ((.int (0 : Int32))) ((.int (0 : Int32))) h114 n0 Z114 A114 G118 G119 gg114) hZ (own_w hw 5 rfl) (own_w hw 2 rfl) (by decide) (by decide)) (g := (mkF m 34 #[.val (.int p0), .val (.int p1), .val (.int p2), .val (.int p3), .val (.int p4), .val (.int p2), .val (.int p1), .unset, .unset, .unset, .unset] [(.int p1), (.int p0), (.ref b114), (.ref b114)])) rfl (by rw [hml]; rfl) (Steps.refl _) (a := b114) (argsL := [(.int p0), (.int p1)]) (rest := [(.ref b114)]) (lenOf own_pd2 rfl) rfl (by show 2 * 0 + _ ≤ _; exact Nat.le_of_eq rfl) (hb hby at_34) (fun _ _ => ⟨rfl, e114, (by decide : 1 + 0 ≤ _), (by decide : 2 + 0 ≤ _)⟩)
      dsimp only [Pt.U, Pt.locs, Pt.cells, Pt.slots] at X120 l120 y120 z120 st120 hQ120
      subst l120 y120 z120
      obtain ⟨N120q, K120q, rfl, G121, G122, G123⟩ := hQ120
      have N120 := Fr.app N0 N120q
      have K120 : Keep h0 T120.heap [] := K114.trans K120q (allS (P := fun x => x ∈ [] ∨ h0.size ≤ x) (Or.inr sz114) all0)
      have Z120 : n0 ≤ T120.heap.size := Nat.le_trans Z114 K120q.1
      have G124 := (G115.keep K120q (allS (P := fun x => n0 ≤ x) gg114 all0))
      have G125 := (own_sta_keep G116 K120q (allS (P := own_Nst _) (own_nst_exa A114) all0))
      have G126 := (own_sta_keep G117 K120q (allS (P := own_Nst _) (own_nst_exa A114) all0))
      have G127 := (A114.keep K120q)
      refine own_step (fun _ k => st120.trans k) ?_
      show own_Fin p e below s _ _ _ (T120.setTop (mkF m 37 #[.val (.int p0), .val (.int p1), .val (.int p2), .val (.int p3), .val (.int p4), .val (.int p2), .val (.int p1), .unset, .unset, .unset, .unset] [(.ref b114)]))
      refine own_step (fun _ k => XS.astore X120.here hx rfl (hb hby at_37) rfl rfl (l' := #[.val (.int p0), .val (.int p1), .val (.int p2), .val (.int p3), .val (.int p4), .val (.int p2), .val (.int p1), .val (.ref b114), .unset, .unset, .unset]) rfl k) ?_
      show own_Fin p e below s _ _ _ (T120.setTop (mkF m 39 #[.val (.int p0), .val (.int p1), .val (.int p2), .val (.int p3), .val (.int p4), .val (.int p2), .val (.int p1), .val (.ref b114), .unset, .unset, .unset] []))
      obtain ⟨T128, h128, X128, e128, E128, A128, D128, -, st128⟩ := newO X120 hx hZ hown (own_w hw 0 rfl) (own_w hw 1 rfl) (own_w hw 2 rfl) rfl (g := (mkF m 39 #[.val (.int p0), .val (.int p1), .val (.int p2), .val (.int p3), .val (.int p4), .val (.int p2), .val (.int p1), .val (.ref b114), .unset, .unset, .unset] [])) rfl (hb hby at_39) (by decide) (by decide)
      obtain ⟨b128, g128⟩ : ∃ z, z = T120.heap.size := ⟨_, rfl⟩
      rw [← g128] at A128 D128 st128
      have ne128_b114 : b114 ≠ b128 := Nat.ne_of_lt (Nat.lt_of_lt_of_le G121.lt (Nat.le_of_eq g128.symm))
      have gg128 : n0 ≤ b128 := Nat.le_trans Z120 (Nat.le_of_eq g128.symm)
      have sz128 : h0.size ≤ b128 := Nat.le_trans K120.1 (Nat.le_of_eq g128.symm)
      have K128 : Keep h0 h128 [] := K120.ext E128
      have Z128 : n0 ≤ h128.size := Nat.le_trans Z120 E128.1
      have G129 := (G124.ext E128)
      have G130 := (G125.ext E128)
      have G131 := (G126.ext E128)
      have G132 := (G121.ext E128)
      have G133 := (G122.ext E128)
      have G134 := (G123.ext E128)
      have G135 : Fld Z h128 b128 "com/example/tandem/tandem/analysis/Cuts$Range" "from" "I" (.int (0 : Int32)) := D128 (Or.inr (own_w hw 15 rfl)) (ty := .int) (by decide)
      have G136 : Fld Z h128 b128 "com/example/tandem/tandem/analysis/Cuts$Range" "to" "I" (.int (0 : Int32)) := D128 (Or.inr (own_w hw 17 rfl)) (ty := .int) (by decide)
      refine own_step st128 ?_
      show own_Fin p e below s _ _ _ (T128.setTop (mkF m 42 #[.val (.int p0), .val (.int p1), .val (.int p2), .val (.int p3), .val (.int p4), .val (.int p2), .val (.int p1), .val (.ref b114), .unset, .unset, .unset] [(.ref b128)]))
      refine own_step (fun _ k => XS.dup X128.here hx rfl (hb hby at_42) rfl rfl k) ?_
      show own_Fin p e below s _ _ _ (T128.setTop (mkF m 43 #[.val (.int p0), .val (.int p1), .val (.int p2), .val (.int p3), .val (.int p4), .val (.int p2), .val (.int p1), .val (.ref b114), .unset, .unset, .unset] [(.ref b128), (.ref b128)]))
      refine own_step (fun _ k => XS.iload X128.here hx rfl (hb hby at_43) rfl k) ?_
      show own_Fin p e below s _ _ _ (T128.setTop (mkF m 45 #[.val (.int p0), .val (.int p1), .val (.int p2), .val (.int p3), .val (.int p4), .val (.int p2), .val (.int p1), .val (.ref b114), .unset, .unset, .unset] [(.int p2), (.ref b128), (.ref b128)]))
      refine own_step (fun _ k => XS.iload X128.here hx rfl (hb hby at_45) rfl k) ?_
      show own_Fin p e below s _ _ _ (T128.setTop (mkF m 47 #[.val (.int p0), .val (.int p1), .val (.int p2), .val (.int p3), .val (.int p4), .val (.int p2), .val (.int p1), .val (.ref b114), .unset, .unset, .unset] [(.int p1), (.int p2), (.ref b128), (.ref b128)]))
      obtain ⟨_, _, ⟨T137, L137, k137, n137⟩, -, X137, ⟨Lc137, hQ137, l137, y137, z137⟩, st137⟩ := X128.specialBack hx (y := own_y3) rfl hown (mvT hZ (own_w hw 3 rfl)) (mvT hZ (own_w hw 4 rfl)) (mvT hZ (own_w hw 5 rfl)) (by decide) (backOf (W := 1) (own_rm2 l Z a0 hw hs [] b128 p2 p1 ((.int (0 : Int32))) ((.int (0 : Int32))) h128 n0 Z128 A128 G135 G136 gg128) hZ (own_w hw 5 rfl) (own_w hw 2 rfl) (by decide) (by decide)) (g := (mkF m 47 #[.val (.int p0), .val (.int p1), .val (.int p2), .val (.int p3), .val (.int p4), .val (.int p2), .val (.int p1), .val (.ref b114), .unset, .unset, .unset] [(.int p1), (.int p2), (.ref b128), (.ref b128)])) rfl (by rw [hml]; rfl) (Steps.refl _) (a := b128) (argsL := [(.int p2), (.int p1)]) (rest := [(.ref b128)]) (lenOf own_pd2 rfl) rfl (by show 2 * 0 + _ ≤ _; exact Nat.le_of_eq rfl) (hb hby at_47) (fun _ _ => ⟨rfl, e128, (by decide : 2 + 0 ≤ _), (by decide : 4 + 0 ≤ _)⟩)
      dsimp only [Pt.U, Pt.locs, Pt.cells, Pt.slots] at X137 l137 y137 z137 st137 hQ137
      subst l137 y137 z137
      obtain ⟨N137q, K137q, rfl, G138, G139, G140⟩ := hQ137
      have N137 := Fr.app N120 N137q
      have K137 : Keep h0 T137.heap [] := K128.trans K137q (allS (P := fun x => x ∈ [] ∨ h0.size ≤ x) (Or.inr sz128) all0)
      have Z137 : n0 ≤ T137.heap.size := Nat.le_trans Z128 K137q.1
      have G141 := (G129.keep K137q (allS (P := fun x => n0 ≤ x) gg128 all0))
      have G142 := (own_sta_keep G130 K137q (allS (P := own_Nst _) (own_nst_exa A128) all0))
      have G143 := (own_sta_keep G131 K137q (allS (P := own_Nst _) (own_nst_exa A128) all0))
      have G144 := (G132.keep K137q)
      have G145 := (G133.keep K137q (ninS ne128_b114 nin0))
      have G146 := (G134.keep K137q (ninS ne128_b114 nin0))
      have G147 := (A128.keep K137q)
      refine own_step (fun _ k => st137.trans k) ?_
      show own_Fin p e below s _ _ _ (T137.setTop (mkF m 50 #[.val (.int p0), .val (.int p1), .val (.int p2), .val (.int p3), .val (.int p4), .val (.int p2), .val (.int p1), .val (.ref b114), .unset, .unset, .unset] [(.ref b128)]))
      refine own_step (fun _ k => XS.astore X137.here hx rfl (hb hby at_50) rfl rfl (l' := #[.val (.int p0), .val (.int p1), .val (.int p2), .val (.int p3), .val (.int p4), .val (.int p2), .val (.int p1), .val (.ref b114), .val (.ref b128), .unset, .unset]) rfl k) ?_
      show own_Fin p e below s _ _ _ (T137.setTop (mkF m 52 #[.val (.int p0), .val (.int p1), .val (.int p2), .val (.int p3), .val (.int p4), .val (.int p2), .val (.int p1), .val (.ref b114), .val (.ref b128), .unset, .unset] []))
      refine own_step (fun _ k => XS.iloadN X137.here hx rfl (hb hby at_52) rfl k) ?_
      show own_Fin p e below s _ _ _ (T137.setTop (mkF m 53 #[.val (.int p0), .val (.int p1), .val (.int p2), .val (.int p3), .val (.int p4), .val (.int p2), .val (.int p1), .val (.ref b114), .val (.ref b128), .unset, .unset] [(.int p0)]))
      refine own_step (fun _ k => XS.iload X137.here hx rfl (hb hby at_53) rfl k) ?_
      show own_Fin p e below s _ _ _ (T137.setTop (mkF m 55 #[.val (.int p0), .val (.int p1), .val (.int p2), .val (.int p3), .val (.int p4), .val (.int p2), .val (.int p1), .val (.ref b114), .val (.ref b128), .unset, .unset] [(.int p2), (.int p0)]))
      by_cases hc148 : p0 = p2
      · refine own_step (fun _ k => XS.icmpNo X137.here hx rfl (hb hby at_55) rfl (teq hc148).2 k) ?_
        show own_Fin p e below s _ _ _ (T137.setTop (mkF m 58 #[.val (.int p0), .val (.int p1), .val (.int p2), .val (.int p3), .val (.int p4), .val (.int p2), .val (.int p1), .val (.ref b114), .val (.ref b128), .unset, .unset] []))
        refine own_step (fun _ k => XS.iloadN X137.here hx rfl (hb hby at_58) rfl k) ?_
        show own_Fin p e below s _ _ _ (T137.setTop (mkF m 59 #[.val (.int p0), .val (.int p1), .val (.int p2), .val (.int p3), .val (.int p4), .val (.int p2), .val (.int p1), .val (.ref b114), .val (.ref b128), .unset, .unset] [(.int p1)]))
        refine own_step (fun _ k => XS.iload X137.here hx rfl (hb hby at_59) rfl k) ?_
        show own_Fin p e below s _ _ _ (T137.setTop (mkF m 61 #[.val (.int p0), .val (.int p1), .val (.int p2), .val (.int p3), .val (.int p4), .val (.int p2), .val (.int p1), .val (.ref b114), .val (.ref b128), .unset, .unset] [(.int p1), (.int p1)]))
        refine own_step (fun _ k => XS.icmpNo X137.here hx rfl (hb hby at_61) rfl (teq (rfl : p1 = p1)).2 k) ?_
        show own_Fin p e below s _ _ _ (T137.setTop (mkF m 64 #[.val (.int p0), .val (.int p1), .val (.int p2), .val (.int p3), .val (.int p4), .val (.int p2), .val (.int p1), .val (.ref b114), .val (.ref b128), .unset, .unset] []))
        refine own_step (fun _ k => XS.iconst X137.here hx rfl (hb hby at_64) k) ?_
        show own_Fin p e below s _ _ _ (T137.setTop (mkF m 65 #[.val (.int p0), .val (.int p1), .val (.int p2), .val (.int p3), .val (.int p4), .val (.int p2), .val (.int p1), .val (.ref b114), .val (.ref b128), .unset, .unset] [(.int (1 : Int32))]))
        refine own_step (fun _ k => XS.goto X137.here hx rfl (pc0 := 65) (pc' := 69) rfl (hb hby at_65) (by decide) (by decide) k) ?_
        show own_Fin p e below s _ _ _ (T137.setTop (mkF m 69 #[.val (.int p0), .val (.int p1), .val (.int p2), .val (.int p3), .val (.int p4), .val (.int p2), .val (.int p1), .val (.ref b114), .val (.ref b128), .unset, .unset] [(.int (1 : Int32))]))
        refine own_step (fun _ k => XS.istore X137.here hx rfl (hb hby at_69) rfl (l' := #[.val (.int p0), .val (.int p1), .val (.int p2), .val (.int p3), .val (.int p4), .val (.int p2), .val (.int p1), .val (.ref b114), .val (.ref b128), .val (.int (1 : Int32)), .unset]) rfl k) ?_
        show own_Fin p e below s _ _ _ (T137.setTop (mkF m 71 #[.val (.int p0), .val (.int p1), .val (.int p2), .val (.int p3), .val (.int p4), .val (.int p2), .val (.int p1), .val (.ref b114), .val (.ref b128), .val (.int (1 : Int32)), .unset] []))
        refine own_step (fun _ k => XS.iload X137.here hx rfl (hb hby at_71) rfl k) ?_
        show own_Fin p e below s _ _ _ (T137.setTop (mkF m 73 #[.val (.int p0), .val (.int p1), .val (.int p2), .val (.int p3), .val (.int p4), .val (.int p2), .val (.int p1), .val (.ref b114), .val (.ref b128), .val (.int (1 : Int32)), .unset] [(.int p4)]))
        refine own_step (fun _ k => XS.iconst X137.here hx rfl (hb hby at_73) k) ?_
        show own_Fin p e below s _ _ _ (T137.setTop (mkF m 74 #[.val (.int p0), .val (.int p1), .val (.int p2), .val (.int p3), .val (.int p4), .val (.int p2), .val (.int p1), .val (.ref b114), .val (.ref b128), .val (.int (1 : Int32)), .unset] [(.int (4 : Int32)), (.int p4)]))
        refine own_step (fun _ k => XS.iand X137.here hx rfl (hb hby at_74) rfl k) ?_
        show own_Fin p e below s _ _ _ (T137.setTop (mkF m 75 #[.val (.int p0), .val (.int p1), .val (.int p2), .val (.int p3), .val (.int p4), .val (.int p2), .val (.int p1), .val (.ref b114), .val (.ref b128), .val (.int (1 : Int32)), .unset] [(.int (p4 &&& (4 : Int32)))]))
        by_cases hc149 : (p4 &&& (4 : Int32)) = (0 : Int32)
        · refine own_step (fun _ k => XS.ifYes X137.here hx rfl (pc0 := 75) (pc' := 122) rfl (hb hby at_75) rfl ((if0 _ _).trans (teq hc149).1) (by decide) (by decide) k) ?_
          show own_Fin p e below s _ _ _ (T137.setTop (mkF m 122 #[.val (.int p0), .val (.int p1), .val (.int p2), .val (.int p3), .val (.int p4), .val (.int p2), .val (.int p1), .val (.ref b114), .val (.ref b128), .val (.int (1 : Int32)), .unset] []))
          refine own_step (fun _ k => XS.aload X137.here hx rfl (hb hby at_122) rfl rfl k) ?_
          show own_Fin p e below s _ _ _ (T137.setTop (mkF m 124 #[.val (.int p0), .val (.int p1), .val (.int p2), .val (.int p3), .val (.int p4), .val (.int p2), .val (.int p1), .val (.ref b114), .val (.ref b128), .val (.int (1 : Int32)), .unset] [(.ref b114)]))
          refine own_step (fun _ k => XS.aload X137.here hx rfl (hb hby at_124) rfl rfl k) ?_
          show own_Fin p e below s _ _ _ (T137.setTop (mkF m 126 #[.val (.int p0), .val (.int p1), .val (.int p2), .val (.int p3), .val (.int p4), .val (.int p2), .val (.int p1), .val (.ref b114), .val (.ref b128), .val (.int (1 : Int32)), .unset] [(.ref b128), (.ref b114)]))
          obtain ⟨cq150, kq150, q150a, q150b, q150c⟩ := isOf hZ rfl G144
          obtain ⟨_, _, ⟨T150, L150, k150, n150⟩, -, X150, ⟨Lc150, hQ150, l150, y150, z150⟩, st150⟩ := X137.virtualBack hx (y := own_y4) (z := own_y4) hown (mvT hZ (own_w hw 18 rfl)) (mvT hZ (own_w hw 19 rfl)) (notFace_of_selects (args := #[]) (mvT hZ (own_w hw 21 rfl))) (mvT hZ (own_w hw 21 rfl)) (mvT hZ (own_w hw 20 rfl)) (by decide) (backOf (W := 0) (own_rm8 l Z a0 hw hs [] b114 b128 p2 p0 p1 p1 T137.heap n0 Z137 G138 G139 G145 G140 G146) hZ (own_w hw 22 rfl) (own_w hw 2 rfl) (by decide) (by decide)) q150a q150c (g := (mkF m 126 #[.val (.int p0), .val (.int p1), .val (.int p2), .val (.int p3), .val (.int p4), .val (.int p2), .val (.int p1), .val (.ref b114), .val (.ref b128), .val (.int (1 : Int32)), .unset] [(.ref b128), (.ref b114)])) rfl (by rw [hml]; rfl) (Steps.refl _) (argsL := [(.ref b128)]) (rest := []) (lenOf own_pd3 rfl) rfl (by show 2 * 0 + _ ≤ _; exact Nat.le_of_eq rfl) (hb hby at_126) (fun _ _ => ⟨rfl, rfl, (by decide : 2 + 0 ≤ _), (by decide : 4 + 0 ≤ _)⟩)
          dsimp only [Pt.U, Pt.locs, Pt.cells, Pt.slots] at X150 l150 y150 z150 st150 hQ150
          subst l150 y150 z150
          obtain ⟨rfl, N150q, e150⟩ := hQ150
          have N150 := Fr.app N137 N150q
          refine own_step (fun _ k => st150.trans k) ?_
          show own_Fin p e below s _ _ _ (T150.setTop (mkF m 129 #[.val (.int p0), .val (.int p1), .val (.int p2), .val (.int p3), .val (.int p4), .val (.int p2), .val (.int p1), .val (.ref b114), .val (.ref b128), .val (.int (1 : Int32)), .unset] [(.int (own_r8 p2 p0 p1 p1))]))
          refine own_step (fun _ k => XS.iload X150.here hx rfl (hb hby at_129) rfl k) ?_
          show own_Fin p e below s _ _ _ (T150.setTop (mkF m 131 #[.val (.int p0), .val (.int p1), .val (.int p2), .val (.int p3), .val (.int p4), .val (.int p2), .val (.int p1), .val (.ref b114), .val (.ref b128), .val (.int (1 : Int32)), .unset] [(.int (1 : Int32)), (.int (own_r8 p2 p0 p1 p1))]))
          have hf151 : (own_r8 p2 p0 p1 p1) = (1 : Int32) := by rw [own_r8, if_pos (hc148.symm), if_pos (rfl)]
          refine own_step (fun _ k => XS.icmpNo X150.here hx rfl (hb hby at_131) rfl (teq hf151).2 k) ?_
          show own_Fin p e below s _ _ _ (T150.setTop (mkF m 134 #[.val (.int p0), .val (.int p1), .val (.int p2), .val (.int p3), .val (.int p4), .val (.int p2), .val (.int p1), .val (.ref b114), .val (.ref b128), .val (.int (1 : Int32)), .unset] []))
          refine own_step (fun _ k => XS.aload X150.here hx rfl (hb hby at_134) rfl rfl k) ?_
          show own_Fin p e below s _ _ _ (T150.setTop (mkF m 136 #[.val (.int p0), .val (.int p1), .val (.int p2), .val (.int p3), .val (.int p4), .val (.int p2), .val (.int p1), .val (.ref b114), .val (.ref b128), .val (.int (1 : Int32)), .unset] [(.ref b128)]))
          refine own_step (fun _ k => XS.aload X150.here hx rfl (hb hby at_136) rfl rfl k) ?_
          show own_Fin p e below s _ _ _ (T150.setTop (mkF m 138 #[.val (.int p0), .val (.int p1), .val (.int p2), .val (.int p3), .val (.int p4), .val (.int p2), .val (.int p1), .val (.ref b114), .val (.ref b128), .val (.int (1 : Int32)), .unset] [(.ref b114), (.ref b128)]))
          obtain ⟨cq152, kq152, q152a, q152b, q152c⟩ := isOf hZ e150 G138
          obtain ⟨_, _, ⟨T152, L152, k152, n152⟩, -, X152, ⟨Lc152, hQ152, l152, y152, z152⟩, st152⟩ := X150.virtualBack hx (y := own_y4) (z := own_y4) hown (mvT hZ (own_w hw 18 rfl)) (mvT hZ (own_w hw 19 rfl)) (notFace_of_selects (args := #[]) (mvT hZ (own_w hw 21 rfl))) (mvT hZ (own_w hw 21 rfl)) (mvT hZ (own_w hw 20 rfl)) (by decide) (backOf (W := 0) (own_rm8 l Z a0 hw hs [] b128 b114 p0 p2 p1 p1 T137.heap n0 Z137 G144 G145 G139 G146 G140) hZ (own_w hw 22 rfl) (own_w hw 2 rfl) (by decide) (by decide)) q152a q152c (g := (mkF m 138 #[.val (.int p0), .val (.int p1), .val (.int p2), .val (.int p3), .val (.int p4), .val (.int p2), .val (.int p1), .val (.ref b114), .val (.ref b128), .val (.int (1 : Int32)), .unset] [(.ref b114), (.ref b128)])) rfl (by rw [hml]; rfl) (Steps.refl _) (argsL := [(.ref b114)]) (rest := []) (lenOf own_pd3 rfl) rfl (by show 2 * 0 + _ ≤ _; exact Nat.le_of_eq rfl) (hb hby at_138) (fun _ _ => ⟨rfl, e150, (by decide : 2 + 0 ≤ _), (by decide : 4 + 0 ≤ _)⟩)
          dsimp only [Pt.U, Pt.locs, Pt.cells, Pt.slots] at X152 l152 y152 z152 st152 hQ152
          subst l152 y152 z152
          obtain ⟨rfl, N152q, e152⟩ := hQ152
          have N152 := Fr.app N150 N152q
          refine own_step (fun _ k => st152.trans k) ?_
          show own_Fin p e below s _ _ _ (T152.setTop (mkF m 141 #[.val (.int p0), .val (.int p1), .val (.int p2), .val (.int p3), .val (.int p4), .val (.int p2), .val (.int p1), .val (.ref b114), .val (.ref b128), .val (.int (1 : Int32)), .unset] [(.int (own_r8 p0 p2 p1 p1))]))
          refine own_step (fun _ k => XS.iload X152.here hx rfl (hb hby at_141) rfl k) ?_
          show own_Fin p e below s _ _ _ (T152.setTop (mkF m 143 #[.val (.int p0), .val (.int p1), .val (.int p2), .val (.int p3), .val (.int p4), .val (.int p2), .val (.int p1), .val (.ref b114), .val (.ref b128), .val (.int (1 : Int32)), .unset] [(.int (1 : Int32)), (.int (own_r8 p0 p2 p1 p1))]))
          have hf153 : (own_r8 p0 p2 p1 p1) = (1 : Int32) := by rw [own_r8, if_pos (hc148), if_pos (rfl)]
          refine own_step (fun _ k => XS.icmpNo X152.here hx rfl (hb hby at_143) rfl (teq hf153).2 k) ?_
          show own_Fin p e below s _ _ _ (T152.setTop (mkF m 146 #[.val (.int p0), .val (.int p1), .val (.int p2), .val (.int p3), .val (.int p4), .val (.int p2), .val (.int p1), .val (.ref b114), .val (.ref b128), .val (.int (1 : Int32)), .unset] []))
          refine own_step (fun _ k => XS.aload X152.here hx rfl (hb hby at_146) rfl rfl k) ?_
          show own_Fin p e below s _ _ _ (T152.setTop (mkF m 148 #[.val (.int p0), .val (.int p1), .val (.int p2), .val (.int p3), .val (.int p4), .val (.int p2), .val (.int p1), .val (.ref b114), .val (.ref b128), .val (.int (1 : Int32)), .unset] [(.ref b114)]))
          refine own_step (fun _ k => XS.aload X152.here hx rfl (hb hby at_148) rfl rfl k) ?_
          show own_Fin p e below s _ _ _ (T152.setTop (mkF m 150 #[.val (.int p0), .val (.int p1), .val (.int p2), .val (.int p3), .val (.int p4), .val (.int p2), .val (.int p1), .val (.ref b114), .val (.ref b128), .val (.int (1 : Int32)), .unset] [(.ref b114), (.ref b114)]))
          obtain ⟨cq154, kq154, q154a, q154b, q154c⟩ := isOf hZ e152 G144
          obtain ⟨_, _, ⟨T154, L154, k154, n154⟩, -, X154, ⟨Lc154, hQ154, l154, y154, z154⟩, st154⟩ := X152.virtualBack hx (y := own_y4) (z := own_y4) hown (mvT hZ (own_w hw 18 rfl)) (mvT hZ (own_w hw 19 rfl)) (notFace_of_selects (args := #[]) (mvT hZ (own_w hw 21 rfl))) (mvT hZ (own_w hw 21 rfl)) (mvT hZ (own_w hw 20 rfl)) (by decide) (backOf (W := 0) (own_rm8 l Z a0 hw hs [] b114 b114 p0 p0 p1 p1 T137.heap n0 Z137 G144 G145 G145 G146 G146) hZ (own_w hw 22 rfl) (own_w hw 2 rfl) (by decide) (by decide)) q154a q154c (g := (mkF m 150 #[.val (.int p0), .val (.int p1), .val (.int p2), .val (.int p3), .val (.int p4), .val (.int p2), .val (.int p1), .val (.ref b114), .val (.ref b128), .val (.int (1 : Int32)), .unset] [(.ref b114), (.ref b114)])) rfl (by rw [hml]; rfl) (Steps.refl _) (argsL := [(.ref b114)]) (rest := []) (lenOf own_pd3 rfl) rfl (by show 2 * 0 + _ ≤ _; exact Nat.le_of_eq rfl) (hb hby at_150) (fun _ _ => ⟨rfl, e152, (by decide : 2 + 0 ≤ _), (by decide : 4 + 0 ≤ _)⟩)
          dsimp only [Pt.U, Pt.locs, Pt.cells, Pt.slots] at X154 l154 y154 z154 st154 hQ154
          subst l154 y154 z154
          obtain ⟨rfl, N154q, e154⟩ := hQ154
          have N154 := Fr.app N152 N154q
          refine own_step (fun _ k => st154.trans k) ?_
          show own_Fin p e below s _ _ _ (T154.setTop (mkF m 153 #[.val (.int p0), .val (.int p1), .val (.int p2), .val (.int p3), .val (.int p4), .val (.int p2), .val (.int p1), .val (.ref b114), .val (.ref b128), .val (.int (1 : Int32)), .unset] [(.int (own_r8 p0 p0 p1 p1))]))
          have hf155 : ¬ ((own_r8 p0 p0 p1 p1) = (0 : Int32)) := by rw [show (own_r8 p0 p0 p1 p1) = (1 : Int32) from by rw [own_r8, if_pos (rfl), if_pos (rfl)]]; decide
          refine own_step (fun _ k => XS.ifNo X154.here hx rfl (hb hby at_153) rfl ((if0 _ _).trans (feq hf155).1) k) ?_
          show own_Fin p e below s _ _ _ (T154.setTop (mkF m 156 #[.val (.int p0), .val (.int p1), .val (.int p2), .val (.int p3), .val (.int p4), .val (.int p2), .val (.int p1), .val (.ref b114), .val (.ref b128), .val (.int (1 : Int32)), .unset] []))
          refine own_step (fun _ k => XS.iconst X154.here hx rfl (hb hby at_156) k) ?_
          show own_Fin p e below s _ _ _ (T154.setTop (mkF m 157 #[.val (.int p0), .val (.int p1), .val (.int p2), .val (.int p3), .val (.int p4), .val (.int p2), .val (.int p1), .val (.ref b114), .val (.ref b128), .val (.int (1 : Int32)), .unset] [(.int (1 : Int32))]))
          refine own_step (fun _ k => XS.goto X154.here hx rfl (pc0 := 157) (pc' := 161) rfl (hb hby at_157) (by decide) (by decide) k) ?_
          show own_Fin p e below s _ _ _ (T154.setTop (mkF m 161 #[.val (.int p0), .val (.int p1), .val (.int p2), .val (.int p3), .val (.int p4), .val (.int p2), .val (.int p1), .val (.ref b114), .val (.ref b128), .val (.int (1 : Int32)), .unset] [(.int (1 : Int32))]))
          exact own_ret X154 hlk (v := some (.int (1 : Int32))) (fun h => by rw [Bd.returns] at h; cases h) (by decide) (by decide) (by show own_Q9 Z p0 p1 p2 p3 p4 s_cache cl_cache h0 n0 _ T154.heap _; rw [e154]; exact ⟨rfl, N154⟩) (fun fs hr => retN X154 hx (t := .boolean) Bd.returns (by simp) (hb hby at_161) hr)
        · refine own_step (fun _ k => XS.ifNo X137.here hx rfl (hb hby at_75) rfl ((if0 _ _).trans (feq hc149).1) k) ?_
          show own_Fin p e below s _ _ _ (T137.setTop (mkF m 78 #[.val (.int p0), .val (.int p1), .val (.int p2), .val (.int p3), .val (.int p4), .val (.int p2), .val (.int p1), .val (.ref b114), .val (.ref b128), .val (.int (1 : Int32)), .unset] []))
          refine own_step (fun _ k => XS.iload X137.here hx rfl (hb hby at_78) rfl k) ?_
          show own_Fin p e below s _ _ _ (T137.setTop (mkF m 80 #[.val (.int p0), .val (.int p1), .val (.int p2), .val (.int p3), .val (.int p4), .val (.int p2), .val (.int p1), .val (.ref b114), .val (.ref b128), .val (.int (1 : Int32)), .unset] [(.int p4)]))
          refine own_step (fun _ k => XS.bipush X137.here hx rfl (hb hby at_80) k) ?_
          show own_Fin p e below s _ _ _ (T137.setTop (mkF m 82 #[.val (.int p0), .val (.int p1), .val (.int p2), .val (.int p3), .val (.int p4), .val (.int p2), .val (.int p1), .val (.ref b114), .val (.ref b128), .val (.int (1 : Int32)), .unset] [(.int (8 : Int32)), (.int p4)]))
          refine own_step (fun _ k => XS.iand X137.here hx rfl (hb hby at_82) rfl k) ?_
          show own_Fin p e below s _ _ _ (T137.setTop (mkF m 83 #[.val (.int p0), .val (.int p1), .val (.int p2), .val (.int p3), .val (.int p4), .val (.int p2), .val (.int p1), .val (.ref b114), .val (.ref b128), .val (.int (1 : Int32)), .unset] [(.int (p4 &&& (8 : Int32)))]))
          by_cases hc156 : (p4 &&& (8 : Int32)) = (0 : Int32)
          · refine own_step (fun _ k => XS.ifYes X137.here hx rfl (pc0 := 83) (pc' := 90) rfl (hb hby at_83) rfl ((if0 _ _).trans (teq hc156).1) (by decide) (by decide) k) ?_
            show own_Fin p e below s _ _ _ (T137.setTop (mkF m 90 #[.val (.int p0), .val (.int p1), .val (.int p2), .val (.int p3), .val (.int p4), .val (.int p2), .val (.int p1), .val (.ref b114), .val (.ref b128), .val (.int (1 : Int32)), .unset] []))
            refine own_step (fun _ k => XS.iloadN X137.here hx rfl (hb hby at_90) rfl k) ?_
            show own_Fin p e below s _ _ _ (T137.setTop (mkF m 91 #[.val (.int p0), .val (.int p1), .val (.int p2), .val (.int p3), .val (.int p4), .val (.int p2), .val (.int p1), .val (.ref b114), .val (.ref b128), .val (.int (1 : Int32)), .unset] [(.int p0)]))
            obtain ⟨_, _, ⟨T157, L157, k157, n157⟩, -, X157, ⟨Lc157, hQ157, l157, y157, z157⟩, st157⟩ := Jvm.LawKit.callS X137 hx (y := own_y5) hown (mvT hZ (own_w hw 25 rfl)) (mvT hZ (own_w hw 26 rfl)) (mvT hZ (own_w hw 27 rfl)) (mvT hZ (own_w hw 28 rfl)) (by decide) (backOf (W := 0) (own_rm5 l Z a0 hw hs [] p0 s_cache cl_cache T137.heap n0 Z137 G141 G142 G143 Bx) hZ (own_w hw 28 rfl) (own_w hw 27 rfl) (by decide) (by decide)) (g := (mkF m 91 #[.val (.int p0), .val (.int p1), .val (.int p2), .val (.int p3), .val (.int p4), .val (.int p2), .val (.int p1), .val (.ref b114), .val (.ref b128), .val (.int (1 : Int32)), .unset] [(.int p0)])) rfl (by rw [hml]; rfl) (argsL := [(.int p0)]) (rest := []) (lenOf own_pd4 rfl) rfl (by show 2 * 0 + _ ≤ _; exact Nat.le_of_eq rfl) (hb hby at_91) (fun _ _ => ⟨rfl, rfl, (by decide : 2 + 1 ≤ _), (by decide : 4 + 1 ≤ _)⟩)
            dsimp only [Pt.U, Pt.locs, Pt.cells, Pt.slots] at X157 l157 y157 z157 st157 hQ157
            subst l157 y157 z157
            obtain ⟨N157q, K157q, b157_o0, rfl, G158⟩ := hQ157
            have N157 := Fr.app N137 N157q
            have K157 : Keep h0 T157.heap [] := K137.trans K157q all0
            have Z157 : n0 ≤ T157.heap.size := Nat.le_trans Z137 K157q.1
            have G159 := (G141.keep K157q all0)
            have G160 := (own_sta_keep0 G142 K157q)
            have G161 := (own_sta_keep0 G143 K157q)
            have G162 := (G144.keep K157q)
            have G163 := (G145.keep K157q nin0)
            have G164 := (G146.keep K157q nin0)
            have G165 := (G138.keep K157q)
            have G166 := (G139.keep K157q nin0)
            have G167 := (G140.keep K157q nin0)
            refine own_step (fun _ k => st157 _ k) ?_
            show own_Fin p e below s _ _ _ (T157.setTop (mkF m 94 #[.val (.int p0), .val (.int p1), .val (.int p2), .val (.int p3), .val (.int p4), .val (.int p2), .val (.int p1), .val (.ref b114), .val (.ref b128), .val (.int (1 : Int32)), .unset] [(.ref b157_o0)]))
            refine own_step (fun _ k => XS.astore X157.here hx rfl (hb hby at_94) rfl rfl (l' := #[.val (.int p0), .val (.int p1), .val (.int p2), .val (.int p3), .val (.int p4), .val (.int p2), .val (.int p1), .val (.ref b114), .val (.ref b128), .val (.int (1 : Int32)), .val (.ref b157_o0)]) rfl k) ?_
            show own_Fin p e below s _ _ _ (T157.setTop (mkF m 96 #[.val (.int p0), .val (.int p1), .val (.int p2), .val (.int p3), .val (.int p4), .val (.int p2), .val (.int p1), .val (.ref b114), .val (.ref b128), .val (.int (1 : Int32)), .val (.ref b157_o0)] []))
            refine own_step (fun _ k => XS.aload X157.here hx rfl (hb hby at_96) rfl rfl k) ?_
            show own_Fin p e below s _ _ _ (T157.setTop (mkF m 98 #[.val (.int p0), .val (.int p1), .val (.int p2), .val (.int p3), .val (.int p4), .val (.int p2), .val (.int p1), .val (.ref b114), .val (.ref b128), .val (.int (1 : Int32)), .val (.ref b157_o0)] [(.ref b114)]))
            refine own_step (fun _ k => XS.aload X157.here hx rfl (hb hby at_98) rfl rfl k) ?_
            show own_Fin p e below s _ _ _ (T157.setTop (mkF m 100 #[.val (.int p0), .val (.int p1), .val (.int p2), .val (.int p3), .val (.int p4), .val (.int p2), .val (.int p1), .val (.ref b114), .val (.ref b128), .val (.int (1 : Int32)), .val (.ref b157_o0)] [(.ref b157_o0), (.ref b114)]))
            obtain ⟨cq168, kq168, q168a, q168b, q168c⟩ := isOf hZ rfl G162
            obtain ⟨_, _, ⟨T168, L168, k168, n168⟩, -, X168, ⟨Lc168, hQ168, l168, y168, z168⟩, st168⟩ := X157.virtualBack hx (y := own_y4) (z := own_y4) hown (mvT hZ (own_w hw 18 rfl)) (mvT hZ (own_w hw 19 rfl)) (notFace_of_selects (args := #[]) (mvT hZ (own_w hw 21 rfl))) (mvT hZ (own_w hw 21 rfl)) (mvT hZ (own_w hw 20 rfl)) (by decide) (backOf (W := 0) (own_rm7 l Z a0 hw hs [] b114 b157_o0 T157.heap n0 Z157 G158) hZ (own_w hw 22 rfl) (own_w hw 2 rfl) (by decide) (by decide)) q168a q168c (g := (mkF m 100 #[.val (.int p0), .val (.int p1), .val (.int p2), .val (.int p3), .val (.int p4), .val (.int p2), .val (.int p1), .val (.ref b114), .val (.ref b128), .val (.int (1 : Int32)), .val (.ref b157_o0)] [(.ref b157_o0), (.ref b114)])) rfl (by rw [hml]; rfl) (Steps.refl _) (argsL := [(.ref b157_o0)]) (rest := []) (lenOf own_pd3 rfl) rfl (by show 2 * 0 + _ ≤ _; exact Nat.le_of_eq rfl) (hb hby at_100) (fun _ _ => ⟨rfl, rfl, (by decide : 3 + 0 ≤ _), (by decide : 5 + 0 ≤ _)⟩)
            dsimp only [Pt.U, Pt.locs, Pt.cells, Pt.slots] at X168 l168 y168 z168 st168 hQ168
            subst l168 y168 z168
            obtain ⟨rfl, N168q, e168⟩ := hQ168
            have N168 := Fr.app N157 N168q
            refine own_step (fun _ k => st168.trans k) ?_
            show own_Fin p e below s _ _ _ (T168.setTop (mkF m 103 #[.val (.int p0), .val (.int p1), .val (.int p2), .val (.int p3), .val (.int p4), .val (.int p2), .val (.int p1), .val (.ref b114), .val (.ref b128), .val (.int (1 : Int32)), .val (.ref b157_o0)] [(.int (0 : Int32))]))
            refine own_step (fun _ k => XS.ifNo X168.here hx rfl (hb hby at_103) rfl ((if0 _ _).trans (teq (by decide : (0 : Int32) = (0 : Int32))).2) k) ?_
            show own_Fin p e below s _ _ _ (T168.setTop (mkF m 106 #[.val (.int p0), .val (.int p1), .val (.int p2), .val (.int p3), .val (.int p4), .val (.int p2), .val (.int p1), .val (.ref b114), .val (.ref b128), .val (.int (1 : Int32)), .val (.ref b157_o0)] []))
            refine own_step (fun _ k => XS.aload X168.here hx rfl (hb hby at_106) rfl rfl k) ?_
            show own_Fin p e below s _ _ _ (T168.setTop (mkF m 108 #[.val (.int p0), .val (.int p1), .val (.int p2), .val (.int p3), .val (.int p4), .val (.int p2), .val (.int p1), .val (.ref b114), .val (.ref b128), .val (.int (1 : Int32)), .val (.ref b157_o0)] [(.ref b114)]))
            refine own_step (fun _ k => XS.aload X168.here hx rfl (hb hby at_108) rfl rfl k) ?_
            show own_Fin p e below s _ _ _ (T168.setTop (mkF m 110 #[.val (.int p0), .val (.int p1), .val (.int p2), .val (.int p3), .val (.int p4), .val (.int p2), .val (.int p1), .val (.ref b114), .val (.ref b128), .val (.int (1 : Int32)), .val (.ref b157_o0)] [(.ref b114), (.ref b114)]))
            obtain ⟨cq169, kq169, q169a, q169b, q169c⟩ := isOf hZ e168 G162
            obtain ⟨_, _, ⟨T169, L169, k169, n169⟩, -, X169, ⟨Lc169, hQ169, l169, y169, z169⟩, st169⟩ := X168.virtualBack hx (y := own_y4) (z := own_y4) hown (mvT hZ (own_w hw 18 rfl)) (mvT hZ (own_w hw 19 rfl)) (notFace_of_selects (args := #[]) (mvT hZ (own_w hw 21 rfl))) (mvT hZ (own_w hw 21 rfl)) (mvT hZ (own_w hw 20 rfl)) (by decide) (backOf (W := 0) (own_rm8 l Z a0 hw hs [] b114 b114 p0 p0 p1 p1 T157.heap n0 Z157 G162 G163 G163 G164 G164) hZ (own_w hw 22 rfl) (own_w hw 2 rfl) (by decide) (by decide)) q169a q169c (g := (mkF m 110 #[.val (.int p0), .val (.int p1), .val (.int p2), .val (.int p3), .val (.int p4), .val (.int p2), .val (.int p1), .val (.ref b114), .val (.ref b128), .val (.int (1 : Int32)), .val (.ref b157_o0)] [(.ref b114), (.ref b114)])) rfl (by rw [hml]; rfl) (Steps.refl _) (argsL := [(.ref b114)]) (rest := []) (lenOf own_pd3 rfl) rfl (by show 2 * 0 + _ ≤ _; exact Nat.le_of_eq rfl) (hb hby at_110) (fun _ _ => ⟨rfl, e168, (by decide : 3 + 0 ≤ _), (by decide : 5 + 0 ≤ _)⟩)
            dsimp only [Pt.U, Pt.locs, Pt.cells, Pt.slots] at X169 l169 y169 z169 st169 hQ169
            subst l169 y169 z169
            obtain ⟨rfl, N169q, e169⟩ := hQ169
            have N169 := Fr.app N168 N169q
            refine own_step (fun _ k => st169.trans k) ?_
            show own_Fin p e below s _ _ _ (T169.setTop (mkF m 113 #[.val (.int p0), .val (.int p1), .val (.int p2), .val (.int p3), .val (.int p4), .val (.int p2), .val (.int p1), .val (.ref b114), .val (.ref b128), .val (.int (1 : Int32)), .val (.ref b157_o0)] [(.int (own_r8 p0 p0 p1 p1))]))
            have hf170 : ¬ ((own_r8 p0 p0 p1 p1) = (0 : Int32)) := by rw [show (own_r8 p0 p0 p1 p1) = (1 : Int32) from by rw [own_r8, if_pos (rfl), if_pos (rfl)]]; decide
            refine own_step (fun _ k => XS.ifNo X169.here hx rfl (hb hby at_113) rfl ((if0 _ _).trans (feq hf170).1) k) ?_
            show own_Fin p e below s _ _ _ (T169.setTop (mkF m 116 #[.val (.int p0), .val (.int p1), .val (.int p2), .val (.int p3), .val (.int p4), .val (.int p2), .val (.int p1), .val (.ref b114), .val (.ref b128), .val (.int (1 : Int32)), .val (.ref b157_o0)] []))
            refine own_step (fun _ k => XS.iconst X169.here hx rfl (hb hby at_116) k) ?_
            show own_Fin p e below s _ _ _ (T169.setTop (mkF m 117 #[.val (.int p0), .val (.int p1), .val (.int p2), .val (.int p3), .val (.int p4), .val (.int p2), .val (.int p1), .val (.ref b114), .val (.ref b128), .val (.int (1 : Int32)), .val (.ref b157_o0)] [(.int (1 : Int32))]))
            refine own_step (fun _ k => XS.goto X169.here hx rfl (pc0 := 117) (pc' := 121) rfl (hb hby at_117) (by decide) (by decide) k) ?_
            show own_Fin p e below s _ _ _ (T169.setTop (mkF m 121 #[.val (.int p0), .val (.int p1), .val (.int p2), .val (.int p3), .val (.int p4), .val (.int p2), .val (.int p1), .val (.ref b114), .val (.ref b128), .val (.int (1 : Int32)), .val (.ref b157_o0)] [(.int (1 : Int32))]))
            exact own_ret X169 hlk (v := some (.int (1 : Int32))) (fun h => by rw [Bd.returns] at h; cases h) (by decide) (by decide) (by show own_Q9 Z p0 p1 p2 p3 p4 s_cache cl_cache h0 n0 _ T169.heap _; rw [e169]; exact ⟨rfl, N169⟩) (fun fs hr => retN X169 hx (t := .boolean) Bd.returns (by simp) (hb hby at_121) hr)
          · refine own_step (fun _ k => XS.ifNo X137.here hx rfl (hb hby at_83) rfl ((if0 _ _).trans (feq hc156).1) k) ?_
            show own_Fin p e below s _ _ _ (T137.setTop (mkF m 86 #[.val (.int p0), .val (.int p1), .val (.int p2), .val (.int p3), .val (.int p4), .val (.int p2), .val (.int p1), .val (.ref b114), .val (.ref b128), .val (.int (1 : Int32)), .unset] []))
            refine own_step (fun _ k => XS.aconstNull X137.here hx rfl (hb hby at_86) k) ?_
            show own_Fin p e below s _ _ _ (T137.setTop (mkF m 87 #[.val (.int p0), .val (.int p1), .val (.int p2), .val (.int p3), .val (.int p4), .val (.int p2), .val (.int p1), .val (.ref b114), .val (.ref b128), .val (.int (1 : Int32)), .unset] [.null]))
            refine own_step (fun _ k => XS.goto X137.here hx rfl (pc0 := 87) (pc' := 94) rfl (hb hby at_87) (by decide) (by decide) k) ?_
            show own_Fin p e below s _ _ _ (T137.setTop (mkF m 94 #[.val (.int p0), .val (.int p1), .val (.int p2), .val (.int p3), .val (.int p4), .val (.int p2), .val (.int p1), .val (.ref b114), .val (.ref b128), .val (.int (1 : Int32)), .unset] [.null]))
            refine own_step (fun _ k => XS.astore X137.here hx rfl (hb hby at_94) rfl rfl (l' := #[.val (.int p0), .val (.int p1), .val (.int p2), .val (.int p3), .val (.int p4), .val (.int p2), .val (.int p1), .val (.ref b114), .val (.ref b128), .val (.int (1 : Int32)), .val .null]) rfl k) ?_
            show own_Fin p e below s _ _ _ (T137.setTop (mkF m 96 #[.val (.int p0), .val (.int p1), .val (.int p2), .val (.int p3), .val (.int p4), .val (.int p2), .val (.int p1), .val (.ref b114), .val (.ref b128), .val (.int (1 : Int32)), .val .null] []))
            refine own_step (fun _ k => XS.aload X137.here hx rfl (hb hby at_96) rfl rfl k) ?_
            show own_Fin p e below s _ _ _ (T137.setTop (mkF m 98 #[.val (.int p0), .val (.int p1), .val (.int p2), .val (.int p3), .val (.int p4), .val (.int p2), .val (.int p1), .val (.ref b114), .val (.ref b128), .val (.int (1 : Int32)), .val .null] [(.ref b114)]))
            refine own_step (fun _ k => XS.aload X137.here hx rfl (hb hby at_98) rfl rfl k) ?_
            show own_Fin p e below s _ _ _ (T137.setTop (mkF m 100 #[.val (.int p0), .val (.int p1), .val (.int p2), .val (.int p3), .val (.int p4), .val (.int p2), .val (.int p1), .val (.ref b114), .val (.ref b128), .val (.int (1 : Int32)), .val .null] [.null, (.ref b114)]))
            obtain ⟨cq171, kq171, q171a, q171b, q171c⟩ := isOf hZ rfl G144
            obtain ⟨_, _, ⟨T171, L171, k171, n171⟩, -, X171, ⟨Lc171, hQ171, l171, y171, z171⟩, st171⟩ := X137.virtualBack hx (y := own_y4) (z := own_y4) hown (mvT hZ (own_w hw 18 rfl)) (mvT hZ (own_w hw 19 rfl)) (notFace_of_selects (args := #[]) (mvT hZ (own_w hw 21 rfl))) (mvT hZ (own_w hw 21 rfl)) (mvT hZ (own_w hw 20 rfl)) (by decide) (backOf (W := 0) (own_rm6 l Z a0 hw hs [] b114 T137.heap n0 Z137 ) hZ (own_w hw 22 rfl) (own_w hw 2 rfl) (by decide) (by decide)) q171a q171c (g := (mkF m 100 #[.val (.int p0), .val (.int p1), .val (.int p2), .val (.int p3), .val (.int p4), .val (.int p2), .val (.int p1), .val (.ref b114), .val (.ref b128), .val (.int (1 : Int32)), .val .null] [.null, (.ref b114)])) rfl (by rw [hml]; rfl) (Steps.refl _) (argsL := [.null]) (rest := []) (lenOf own_pd3 rfl) rfl (by show 2 * 0 + _ ≤ _; exact Nat.le_of_eq rfl) (hb hby at_100) (fun _ _ => ⟨rfl, rfl, (by decide : 2 + 0 ≤ _), (by decide : 4 + 0 ≤ _)⟩)
            dsimp only [Pt.U, Pt.locs, Pt.cells, Pt.slots] at X171 l171 y171 z171 st171 hQ171
            subst l171 y171 z171
            obtain ⟨rfl, N171q, e171⟩ := hQ171
            have N171 := Fr.app N137 N171q
            refine own_step (fun _ k => st171.trans k) ?_
            show own_Fin p e below s _ _ _ (T171.setTop (mkF m 103 #[.val (.int p0), .val (.int p1), .val (.int p2), .val (.int p3), .val (.int p4), .val (.int p2), .val (.int p1), .val (.ref b114), .val (.ref b128), .val (.int (1 : Int32)), .val .null] [(.int (0 : Int32))]))
            refine own_step (fun _ k => XS.ifNo X171.here hx rfl (hb hby at_103) rfl ((if0 _ _).trans (teq (by decide : (0 : Int32) = (0 : Int32))).2) k) ?_
            show own_Fin p e below s _ _ _ (T171.setTop (mkF m 106 #[.val (.int p0), .val (.int p1), .val (.int p2), .val (.int p3), .val (.int p4), .val (.int p2), .val (.int p1), .val (.ref b114), .val (.ref b128), .val (.int (1 : Int32)), .val .null] []))
            refine own_step (fun _ k => XS.aload X171.here hx rfl (hb hby at_106) rfl rfl k) ?_
            show own_Fin p e below s _ _ _ (T171.setTop (mkF m 108 #[.val (.int p0), .val (.int p1), .val (.int p2), .val (.int p3), .val (.int p4), .val (.int p2), .val (.int p1), .val (.ref b114), .val (.ref b128), .val (.int (1 : Int32)), .val .null] [(.ref b114)]))
            refine own_step (fun _ k => XS.aload X171.here hx rfl (hb hby at_108) rfl rfl k) ?_
            show own_Fin p e below s _ _ _ (T171.setTop (mkF m 110 #[.val (.int p0), .val (.int p1), .val (.int p2), .val (.int p3), .val (.int p4), .val (.int p2), .val (.int p1), .val (.ref b114), .val (.ref b128), .val (.int (1 : Int32)), .val .null] [(.ref b114), (.ref b114)]))
            obtain ⟨cq172, kq172, q172a, q172b, q172c⟩ := isOf hZ e171 G144
            obtain ⟨_, _, ⟨T172, L172, k172, n172⟩, -, X172, ⟨Lc172, hQ172, l172, y172, z172⟩, st172⟩ := X171.virtualBack hx (y := own_y4) (z := own_y4) hown (mvT hZ (own_w hw 18 rfl)) (mvT hZ (own_w hw 19 rfl)) (notFace_of_selects (args := #[]) (mvT hZ (own_w hw 21 rfl))) (mvT hZ (own_w hw 21 rfl)) (mvT hZ (own_w hw 20 rfl)) (by decide) (backOf (W := 0) (own_rm8 l Z a0 hw hs [] b114 b114 p0 p0 p1 p1 T137.heap n0 Z137 G144 G145 G145 G146 G146) hZ (own_w hw 22 rfl) (own_w hw 2 rfl) (by decide) (by decide)) q172a q172c (g := (mkF m 110 #[.val (.int p0), .val (.int p1), .val (.int p2), .val (.int p3), .val (.int p4), .val (.int p2), .val (.int p1), .val (.ref b114), .val (.ref b128), .val (.int (1 : Int32)), .val .null] [(.ref b114), (.ref b114)])) rfl (by rw [hml]; rfl) (Steps.refl _) (argsL := [(.ref b114)]) (rest := []) (lenOf own_pd3 rfl) rfl (by show 2 * 0 + _ ≤ _; exact Nat.le_of_eq rfl) (hb hby at_110) (fun _ _ => ⟨rfl, e171, (by decide : 2 + 0 ≤ _), (by decide : 4 + 0 ≤ _)⟩)
            dsimp only [Pt.U, Pt.locs, Pt.cells, Pt.slots] at X172 l172 y172 z172 st172 hQ172
            subst l172 y172 z172
            obtain ⟨rfl, N172q, e172⟩ := hQ172
            have N172 := Fr.app N171 N172q
            refine own_step (fun _ k => st172.trans k) ?_
            show own_Fin p e below s _ _ _ (T172.setTop (mkF m 113 #[.val (.int p0), .val (.int p1), .val (.int p2), .val (.int p3), .val (.int p4), .val (.int p2), .val (.int p1), .val (.ref b114), .val (.ref b128), .val (.int (1 : Int32)), .val .null] [(.int (own_r8 p0 p0 p1 p1))]))
            have hf173 : ¬ ((own_r8 p0 p0 p1 p1) = (0 : Int32)) := by rw [show (own_r8 p0 p0 p1 p1) = (1 : Int32) from by rw [own_r8, if_pos (rfl), if_pos (rfl)]]; decide
            refine own_step (fun _ k => XS.ifNo X172.here hx rfl (hb hby at_113) rfl ((if0 _ _).trans (feq hf173).1) k) ?_
            show own_Fin p e below s _ _ _ (T172.setTop (mkF m 116 #[.val (.int p0), .val (.int p1), .val (.int p2), .val (.int p3), .val (.int p4), .val (.int p2), .val (.int p1), .val (.ref b114), .val (.ref b128), .val (.int (1 : Int32)), .val .null] []))
            refine own_step (fun _ k => XS.iconst X172.here hx rfl (hb hby at_116) k) ?_
            show own_Fin p e below s _ _ _ (T172.setTop (mkF m 117 #[.val (.int p0), .val (.int p1), .val (.int p2), .val (.int p3), .val (.int p4), .val (.int p2), .val (.int p1), .val (.ref b114), .val (.ref b128), .val (.int (1 : Int32)), .val .null] [(.int (1 : Int32))]))
            refine own_step (fun _ k => XS.goto X172.here hx rfl (pc0 := 117) (pc' := 121) rfl (hb hby at_117) (by decide) (by decide) k) ?_
            show own_Fin p e below s _ _ _ (T172.setTop (mkF m 121 #[.val (.int p0), .val (.int p1), .val (.int p2), .val (.int p3), .val (.int p4), .val (.int p2), .val (.int p1), .val (.ref b114), .val (.ref b128), .val (.int (1 : Int32)), .val .null] [(.int (1 : Int32))]))
            exact own_ret X172 hlk (v := some (.int (1 : Int32))) (fun h => by rw [Bd.returns] at h; cases h) (by decide) (by decide) (by show own_Q9 Z p0 p1 p2 p3 p4 s_cache cl_cache h0 n0 _ T172.heap _; rw [e172]; exact ⟨rfl, N172⟩) (fun fs hr => retN X172 hx (t := .boolean) Bd.returns (by simp) (hb hby at_121) hr)
      · refine own_step (fun _ k => XS.icmpYes X137.here hx rfl (pc0 := 55) (pc' := 68) rfl (hb hby at_55) rfl (feq hc148).2 (by decide) (by decide) k) ?_
        show own_Fin p e below s _ _ _ (T137.setTop (mkF m 68 #[.val (.int p0), .val (.int p1), .val (.int p2), .val (.int p3), .val (.int p4), .val (.int p2), .val (.int p1), .val (.ref b114), .val (.ref b128), .unset, .unset] []))
        refine own_step (fun _ k => XS.iconst X137.here hx rfl (hb hby at_68) k) ?_
        show own_Fin p e below s _ _ _ (T137.setTop (mkF m 69 #[.val (.int p0), .val (.int p1), .val (.int p2), .val (.int p3), .val (.int p4), .val (.int p2), .val (.int p1), .val (.ref b114), .val (.ref b128), .unset, .unset] [(.int (0 : Int32))]))
        refine own_step (fun _ k => XS.istore X137.here hx rfl (hb hby at_69) rfl (l' := #[.val (.int p0), .val (.int p1), .val (.int p2), .val (.int p3), .val (.int p4), .val (.int p2), .val (.int p1), .val (.ref b114), .val (.ref b128), .val (.int (0 : Int32)), .unset]) rfl k) ?_
        show own_Fin p e below s _ _ _ (T137.setTop (mkF m 71 #[.val (.int p0), .val (.int p1), .val (.int p2), .val (.int p3), .val (.int p4), .val (.int p2), .val (.int p1), .val (.ref b114), .val (.ref b128), .val (.int (0 : Int32)), .unset] []))
        refine own_step (fun _ k => XS.iload X137.here hx rfl (hb hby at_71) rfl k) ?_
        show own_Fin p e below s _ _ _ (T137.setTop (mkF m 73 #[.val (.int p0), .val (.int p1), .val (.int p2), .val (.int p3), .val (.int p4), .val (.int p2), .val (.int p1), .val (.ref b114), .val (.ref b128), .val (.int (0 : Int32)), .unset] [(.int p4)]))
        refine own_step (fun _ k => XS.iconst X137.here hx rfl (hb hby at_73) k) ?_
        show own_Fin p e below s _ _ _ (T137.setTop (mkF m 74 #[.val (.int p0), .val (.int p1), .val (.int p2), .val (.int p3), .val (.int p4), .val (.int p2), .val (.int p1), .val (.ref b114), .val (.ref b128), .val (.int (0 : Int32)), .unset] [(.int (4 : Int32)), (.int p4)]))
        refine own_step (fun _ k => XS.iand X137.here hx rfl (hb hby at_74) rfl k) ?_
        show own_Fin p e below s _ _ _ (T137.setTop (mkF m 75 #[.val (.int p0), .val (.int p1), .val (.int p2), .val (.int p3), .val (.int p4), .val (.int p2), .val (.int p1), .val (.ref b114), .val (.ref b128), .val (.int (0 : Int32)), .unset] [(.int (p4 &&& (4 : Int32)))]))
        by_cases hc174 : (p4 &&& (4 : Int32)) = (0 : Int32)
        · refine own_step (fun _ k => XS.ifYes X137.here hx rfl (pc0 := 75) (pc' := 122) rfl (hb hby at_75) rfl ((if0 _ _).trans (teq hc174).1) (by decide) (by decide) k) ?_
          show own_Fin p e below s _ _ _ (T137.setTop (mkF m 122 #[.val (.int p0), .val (.int p1), .val (.int p2), .val (.int p3), .val (.int p4), .val (.int p2), .val (.int p1), .val (.ref b114), .val (.ref b128), .val (.int (0 : Int32)), .unset] []))
          refine own_step (fun _ k => XS.aload X137.here hx rfl (hb hby at_122) rfl rfl k) ?_
          show own_Fin p e below s _ _ _ (T137.setTop (mkF m 124 #[.val (.int p0), .val (.int p1), .val (.int p2), .val (.int p3), .val (.int p4), .val (.int p2), .val (.int p1), .val (.ref b114), .val (.ref b128), .val (.int (0 : Int32)), .unset] [(.ref b114)]))
          refine own_step (fun _ k => XS.aload X137.here hx rfl (hb hby at_124) rfl rfl k) ?_
          show own_Fin p e below s _ _ _ (T137.setTop (mkF m 126 #[.val (.int p0), .val (.int p1), .val (.int p2), .val (.int p3), .val (.int p4), .val (.int p2), .val (.int p1), .val (.ref b114), .val (.ref b128), .val (.int (0 : Int32)), .unset] [(.ref b128), (.ref b114)]))
          obtain ⟨cq175, kq175, q175a, q175b, q175c⟩ := isOf hZ rfl G144
          obtain ⟨_, _, ⟨T175, L175, k175, n175⟩, -, X175, ⟨Lc175, hQ175, l175, y175, z175⟩, st175⟩ := X137.virtualBack hx (y := own_y4) (z := own_y4) hown (mvT hZ (own_w hw 18 rfl)) (mvT hZ (own_w hw 19 rfl)) (notFace_of_selects (args := #[]) (mvT hZ (own_w hw 21 rfl))) (mvT hZ (own_w hw 21 rfl)) (mvT hZ (own_w hw 20 rfl)) (by decide) (backOf (W := 0) (own_rm8 l Z a0 hw hs [] b114 b128 p2 p0 p1 p1 T137.heap n0 Z137 G138 G139 G145 G140 G146) hZ (own_w hw 22 rfl) (own_w hw 2 rfl) (by decide) (by decide)) q175a q175c (g := (mkF m 126 #[.val (.int p0), .val (.int p1), .val (.int p2), .val (.int p3), .val (.int p4), .val (.int p2), .val (.int p1), .val (.ref b114), .val (.ref b128), .val (.int (0 : Int32)), .unset] [(.ref b128), (.ref b114)])) rfl (by rw [hml]; rfl) (Steps.refl _) (argsL := [(.ref b128)]) (rest := []) (lenOf own_pd3 rfl) rfl (by show 2 * 0 + _ ≤ _; exact Nat.le_of_eq rfl) (hb hby at_126) (fun _ _ => ⟨rfl, rfl, (by decide : 2 + 0 ≤ _), (by decide : 4 + 0 ≤ _)⟩)
          dsimp only [Pt.U, Pt.locs, Pt.cells, Pt.slots] at X175 l175 y175 z175 st175 hQ175
          subst l175 y175 z175
          obtain ⟨rfl, N175q, e175⟩ := hQ175
          have N175 := Fr.app N137 N175q
          refine own_step (fun _ k => st175.trans k) ?_
          show own_Fin p e below s _ _ _ (T175.setTop (mkF m 129 #[.val (.int p0), .val (.int p1), .val (.int p2), .val (.int p3), .val (.int p4), .val (.int p2), .val (.int p1), .val (.ref b114), .val (.ref b128), .val (.int (0 : Int32)), .unset] [(.int (own_r8 p2 p0 p1 p1))]))
          refine own_step (fun _ k => XS.iload X175.here hx rfl (hb hby at_129) rfl k) ?_
          show own_Fin p e below s _ _ _ (T175.setTop (mkF m 131 #[.val (.int p0), .val (.int p1), .val (.int p2), .val (.int p3), .val (.int p4), .val (.int p2), .val (.int p1), .val (.ref b114), .val (.ref b128), .val (.int (0 : Int32)), .unset] [(.int (0 : Int32)), (.int (own_r8 p2 p0 p1 p1))]))
          have hf176 : (own_r8 p2 p0 p1 p1) = (0 : Int32) := by rw [own_r8, if_neg ((fun q => hc148 q.symm))]
          refine own_step (fun _ k => XS.icmpNo X175.here hx rfl (hb hby at_131) rfl (teq hf176).2 k) ?_
          show own_Fin p e below s _ _ _ (T175.setTop (mkF m 134 #[.val (.int p0), .val (.int p1), .val (.int p2), .val (.int p3), .val (.int p4), .val (.int p2), .val (.int p1), .val (.ref b114), .val (.ref b128), .val (.int (0 : Int32)), .unset] []))
          refine own_step (fun _ k => XS.aload X175.here hx rfl (hb hby at_134) rfl rfl k) ?_
          show own_Fin p e below s _ _ _ (T175.setTop (mkF m 136 #[.val (.int p0), .val (.int p1), .val (.int p2), .val (.int p3), .val (.int p4), .val (.int p2), .val (.int p1), .val (.ref b114), .val (.ref b128), .val (.int (0 : Int32)), .unset] [(.ref b128)]))
          refine own_step (fun _ k => XS.aload X175.here hx rfl (hb hby at_136) rfl rfl k) ?_
          show own_Fin p e below s _ _ _ (T175.setTop (mkF m 138 #[.val (.int p0), .val (.int p1), .val (.int p2), .val (.int p3), .val (.int p4), .val (.int p2), .val (.int p1), .val (.ref b114), .val (.ref b128), .val (.int (0 : Int32)), .unset] [(.ref b114), (.ref b128)]))
          obtain ⟨cq177, kq177, q177a, q177b, q177c⟩ := isOf hZ e175 G138
          obtain ⟨_, _, ⟨T177, L177, k177, n177⟩, -, X177, ⟨Lc177, hQ177, l177, y177, z177⟩, st177⟩ := X175.virtualBack hx (y := own_y4) (z := own_y4) hown (mvT hZ (own_w hw 18 rfl)) (mvT hZ (own_w hw 19 rfl)) (notFace_of_selects (args := #[]) (mvT hZ (own_w hw 21 rfl))) (mvT hZ (own_w hw 21 rfl)) (mvT hZ (own_w hw 20 rfl)) (by decide) (backOf (W := 0) (own_rm8 l Z a0 hw hs [] b128 b114 p0 p2 p1 p1 T137.heap n0 Z137 G144 G145 G139 G146 G140) hZ (own_w hw 22 rfl) (own_w hw 2 rfl) (by decide) (by decide)) q177a q177c (g := (mkF m 138 #[.val (.int p0), .val (.int p1), .val (.int p2), .val (.int p3), .val (.int p4), .val (.int p2), .val (.int p1), .val (.ref b114), .val (.ref b128), .val (.int (0 : Int32)), .unset] [(.ref b114), (.ref b128)])) rfl (by rw [hml]; rfl) (Steps.refl _) (argsL := [(.ref b114)]) (rest := []) (lenOf own_pd3 rfl) rfl (by show 2 * 0 + _ ≤ _; exact Nat.le_of_eq rfl) (hb hby at_138) (fun _ _ => ⟨rfl, e175, (by decide : 2 + 0 ≤ _), (by decide : 4 + 0 ≤ _)⟩)
          dsimp only [Pt.U, Pt.locs, Pt.cells, Pt.slots] at X177 l177 y177 z177 st177 hQ177
          subst l177 y177 z177
          obtain ⟨rfl, N177q, e177⟩ := hQ177
          have N177 := Fr.app N175 N177q
          refine own_step (fun _ k => st177.trans k) ?_
          show own_Fin p e below s _ _ _ (T177.setTop (mkF m 141 #[.val (.int p0), .val (.int p1), .val (.int p2), .val (.int p3), .val (.int p4), .val (.int p2), .val (.int p1), .val (.ref b114), .val (.ref b128), .val (.int (0 : Int32)), .unset] [(.int (own_r8 p0 p2 p1 p1))]))
          refine own_step (fun _ k => XS.iload X177.here hx rfl (hb hby at_141) rfl k) ?_
          show own_Fin p e below s _ _ _ (T177.setTop (mkF m 143 #[.val (.int p0), .val (.int p1), .val (.int p2), .val (.int p3), .val (.int p4), .val (.int p2), .val (.int p1), .val (.ref b114), .val (.ref b128), .val (.int (0 : Int32)), .unset] [(.int (0 : Int32)), (.int (own_r8 p0 p2 p1 p1))]))
          have hf178 : (own_r8 p0 p2 p1 p1) = (0 : Int32) := by rw [own_r8, if_neg (hc148)]
          refine own_step (fun _ k => XS.icmpNo X177.here hx rfl (hb hby at_143) rfl (teq hf178).2 k) ?_
          show own_Fin p e below s _ _ _ (T177.setTop (mkF m 146 #[.val (.int p0), .val (.int p1), .val (.int p2), .val (.int p3), .val (.int p4), .val (.int p2), .val (.int p1), .val (.ref b114), .val (.ref b128), .val (.int (0 : Int32)), .unset] []))
          refine own_step (fun _ k => XS.aload X177.here hx rfl (hb hby at_146) rfl rfl k) ?_
          show own_Fin p e below s _ _ _ (T177.setTop (mkF m 148 #[.val (.int p0), .val (.int p1), .val (.int p2), .val (.int p3), .val (.int p4), .val (.int p2), .val (.int p1), .val (.ref b114), .val (.ref b128), .val (.int (0 : Int32)), .unset] [(.ref b114)]))
          refine own_step (fun _ k => XS.aload X177.here hx rfl (hb hby at_148) rfl rfl k) ?_
          show own_Fin p e below s _ _ _ (T177.setTop (mkF m 150 #[.val (.int p0), .val (.int p1), .val (.int p2), .val (.int p3), .val (.int p4), .val (.int p2), .val (.int p1), .val (.ref b114), .val (.ref b128), .val (.int (0 : Int32)), .unset] [(.ref b114), (.ref b114)]))
          obtain ⟨cq179, kq179, q179a, q179b, q179c⟩ := isOf hZ e177 G144
          obtain ⟨_, _, ⟨T179, L179, k179, n179⟩, -, X179, ⟨Lc179, hQ179, l179, y179, z179⟩, st179⟩ := X177.virtualBack hx (y := own_y4) (z := own_y4) hown (mvT hZ (own_w hw 18 rfl)) (mvT hZ (own_w hw 19 rfl)) (notFace_of_selects (args := #[]) (mvT hZ (own_w hw 21 rfl))) (mvT hZ (own_w hw 21 rfl)) (mvT hZ (own_w hw 20 rfl)) (by decide) (backOf (W := 0) (own_rm8 l Z a0 hw hs [] b114 b114 p0 p0 p1 p1 T137.heap n0 Z137 G144 G145 G145 G146 G146) hZ (own_w hw 22 rfl) (own_w hw 2 rfl) (by decide) (by decide)) q179a q179c (g := (mkF m 150 #[.val (.int p0), .val (.int p1), .val (.int p2), .val (.int p3), .val (.int p4), .val (.int p2), .val (.int p1), .val (.ref b114), .val (.ref b128), .val (.int (0 : Int32)), .unset] [(.ref b114), (.ref b114)])) rfl (by rw [hml]; rfl) (Steps.refl _) (argsL := [(.ref b114)]) (rest := []) (lenOf own_pd3 rfl) rfl (by show 2 * 0 + _ ≤ _; exact Nat.le_of_eq rfl) (hb hby at_150) (fun _ _ => ⟨rfl, e177, (by decide : 2 + 0 ≤ _), (by decide : 4 + 0 ≤ _)⟩)
          dsimp only [Pt.U, Pt.locs, Pt.cells, Pt.slots] at X179 l179 y179 z179 st179 hQ179
          subst l179 y179 z179
          obtain ⟨rfl, N179q, e179⟩ := hQ179
          have N179 := Fr.app N177 N179q
          refine own_step (fun _ k => st179.trans k) ?_
          show own_Fin p e below s _ _ _ (T179.setTop (mkF m 153 #[.val (.int p0), .val (.int p1), .val (.int p2), .val (.int p3), .val (.int p4), .val (.int p2), .val (.int p1), .val (.ref b114), .val (.ref b128), .val (.int (0 : Int32)), .unset] [(.int (own_r8 p0 p0 p1 p1))]))
          have hf180 : ¬ ((own_r8 p0 p0 p1 p1) = (0 : Int32)) := by rw [show (own_r8 p0 p0 p1 p1) = (1 : Int32) from by rw [own_r8, if_pos (rfl), if_pos (rfl)]]; decide
          refine own_step (fun _ k => XS.ifNo X179.here hx rfl (hb hby at_153) rfl ((if0 _ _).trans (feq hf180).1) k) ?_
          show own_Fin p e below s _ _ _ (T179.setTop (mkF m 156 #[.val (.int p0), .val (.int p1), .val (.int p2), .val (.int p3), .val (.int p4), .val (.int p2), .val (.int p1), .val (.ref b114), .val (.ref b128), .val (.int (0 : Int32)), .unset] []))
          refine own_step (fun _ k => XS.iconst X179.here hx rfl (hb hby at_156) k) ?_
          show own_Fin p e below s _ _ _ (T179.setTop (mkF m 157 #[.val (.int p0), .val (.int p1), .val (.int p2), .val (.int p3), .val (.int p4), .val (.int p2), .val (.int p1), .val (.ref b114), .val (.ref b128), .val (.int (0 : Int32)), .unset] [(.int (1 : Int32))]))
          refine own_step (fun _ k => XS.goto X179.here hx rfl (pc0 := 157) (pc' := 161) rfl (hb hby at_157) (by decide) (by decide) k) ?_
          show own_Fin p e below s _ _ _ (T179.setTop (mkF m 161 #[.val (.int p0), .val (.int p1), .val (.int p2), .val (.int p3), .val (.int p4), .val (.int p2), .val (.int p1), .val (.ref b114), .val (.ref b128), .val (.int (0 : Int32)), .unset] [(.int (1 : Int32))]))
          exact own_ret X179 hlk (v := some (.int (1 : Int32))) (fun h => by rw [Bd.returns] at h; cases h) (by decide) (by decide) (by show own_Q9 Z p0 p1 p2 p3 p4 s_cache cl_cache h0 n0 _ T179.heap _; rw [e179]; exact ⟨rfl, N179⟩) (fun fs hr => retN X179 hx (t := .boolean) Bd.returns (by simp) (hb hby at_161) hr)
        · refine own_step (fun _ k => XS.ifNo X137.here hx rfl (hb hby at_75) rfl ((if0 _ _).trans (feq hc174).1) k) ?_
          show own_Fin p e below s _ _ _ (T137.setTop (mkF m 78 #[.val (.int p0), .val (.int p1), .val (.int p2), .val (.int p3), .val (.int p4), .val (.int p2), .val (.int p1), .val (.ref b114), .val (.ref b128), .val (.int (0 : Int32)), .unset] []))
          refine own_step (fun _ k => XS.iload X137.here hx rfl (hb hby at_78) rfl k) ?_
          show own_Fin p e below s _ _ _ (T137.setTop (mkF m 80 #[.val (.int p0), .val (.int p1), .val (.int p2), .val (.int p3), .val (.int p4), .val (.int p2), .val (.int p1), .val (.ref b114), .val (.ref b128), .val (.int (0 : Int32)), .unset] [(.int p4)]))
          refine own_step (fun _ k => XS.bipush X137.here hx rfl (hb hby at_80) k) ?_
          show own_Fin p e below s _ _ _ (T137.setTop (mkF m 82 #[.val (.int p0), .val (.int p1), .val (.int p2), .val (.int p3), .val (.int p4), .val (.int p2), .val (.int p1), .val (.ref b114), .val (.ref b128), .val (.int (0 : Int32)), .unset] [(.int (8 : Int32)), (.int p4)]))
          refine own_step (fun _ k => XS.iand X137.here hx rfl (hb hby at_82) rfl k) ?_
          show own_Fin p e below s _ _ _ (T137.setTop (mkF m 83 #[.val (.int p0), .val (.int p1), .val (.int p2), .val (.int p3), .val (.int p4), .val (.int p2), .val (.int p1), .val (.ref b114), .val (.ref b128), .val (.int (0 : Int32)), .unset] [(.int (p4 &&& (8 : Int32)))]))
          by_cases hc181 : (p4 &&& (8 : Int32)) = (0 : Int32)
          · refine own_step (fun _ k => XS.ifYes X137.here hx rfl (pc0 := 83) (pc' := 90) rfl (hb hby at_83) rfl ((if0 _ _).trans (teq hc181).1) (by decide) (by decide) k) ?_
            show own_Fin p e below s _ _ _ (T137.setTop (mkF m 90 #[.val (.int p0), .val (.int p1), .val (.int p2), .val (.int p3), .val (.int p4), .val (.int p2), .val (.int p1), .val (.ref b114), .val (.ref b128), .val (.int (0 : Int32)), .unset] []))
            refine own_step (fun _ k => XS.iloadN X137.here hx rfl (hb hby at_90) rfl k) ?_
            show own_Fin p e below s _ _ _ (T137.setTop (mkF m 91 #[.val (.int p0), .val (.int p1), .val (.int p2), .val (.int p3), .val (.int p4), .val (.int p2), .val (.int p1), .val (.ref b114), .val (.ref b128), .val (.int (0 : Int32)), .unset] [(.int p0)]))
            obtain ⟨_, _, ⟨T182, L182, k182, n182⟩, -, X182, ⟨Lc182, hQ182, l182, y182, z182⟩, st182⟩ := Jvm.LawKit.callS X137 hx (y := own_y5) hown (mvT hZ (own_w hw 25 rfl)) (mvT hZ (own_w hw 26 rfl)) (mvT hZ (own_w hw 27 rfl)) (mvT hZ (own_w hw 28 rfl)) (by decide) (backOf (W := 0) (own_rm5 l Z a0 hw hs [] p0 s_cache cl_cache T137.heap n0 Z137 G141 G142 G143 Bx) hZ (own_w hw 28 rfl) (own_w hw 27 rfl) (by decide) (by decide)) (g := (mkF m 91 #[.val (.int p0), .val (.int p1), .val (.int p2), .val (.int p3), .val (.int p4), .val (.int p2), .val (.int p1), .val (.ref b114), .val (.ref b128), .val (.int (0 : Int32)), .unset] [(.int p0)])) rfl (by rw [hml]; rfl) (argsL := [(.int p0)]) (rest := []) (lenOf own_pd4 rfl) rfl (by show 2 * 0 + _ ≤ _; exact Nat.le_of_eq rfl) (hb hby at_91) (fun _ _ => ⟨rfl, rfl, (by decide : 2 + 1 ≤ _), (by decide : 4 + 1 ≤ _)⟩)
            dsimp only [Pt.U, Pt.locs, Pt.cells, Pt.slots] at X182 l182 y182 z182 st182 hQ182
            subst l182 y182 z182
            obtain ⟨N182q, K182q, b182_o0, rfl, G183⟩ := hQ182
            have N182 := Fr.app N137 N182q
            have K182 : Keep h0 T182.heap [] := K137.trans K182q all0
            have Z182 : n0 ≤ T182.heap.size := Nat.le_trans Z137 K182q.1
            have G184 := (G141.keep K182q all0)
            have G185 := (own_sta_keep0 G142 K182q)
            have G186 := (own_sta_keep0 G143 K182q)
            have G187 := (G144.keep K182q)
            have G188 := (G145.keep K182q nin0)
            have G189 := (G146.keep K182q nin0)
            have G190 := (G138.keep K182q)
            have G191 := (G139.keep K182q nin0)
            have G192 := (G140.keep K182q nin0)
            refine own_step (fun _ k => st182 _ k) ?_
            show own_Fin p e below s _ _ _ (T182.setTop (mkF m 94 #[.val (.int p0), .val (.int p1), .val (.int p2), .val (.int p3), .val (.int p4), .val (.int p2), .val (.int p1), .val (.ref b114), .val (.ref b128), .val (.int (0 : Int32)), .unset] [(.ref b182_o0)]))
            refine own_step (fun _ k => XS.astore X182.here hx rfl (hb hby at_94) rfl rfl (l' := #[.val (.int p0), .val (.int p1), .val (.int p2), .val (.int p3), .val (.int p4), .val (.int p2), .val (.int p1), .val (.ref b114), .val (.ref b128), .val (.int (0 : Int32)), .val (.ref b182_o0)]) rfl k) ?_
            show own_Fin p e below s _ _ _ (T182.setTop (mkF m 96 #[.val (.int p0), .val (.int p1), .val (.int p2), .val (.int p3), .val (.int p4), .val (.int p2), .val (.int p1), .val (.ref b114), .val (.ref b128), .val (.int (0 : Int32)), .val (.ref b182_o0)] []))
            refine own_step (fun _ k => XS.aload X182.here hx rfl (hb hby at_96) rfl rfl k) ?_
            show own_Fin p e below s _ _ _ (T182.setTop (mkF m 98 #[.val (.int p0), .val (.int p1), .val (.int p2), .val (.int p3), .val (.int p4), .val (.int p2), .val (.int p1), .val (.ref b114), .val (.ref b128), .val (.int (0 : Int32)), .val (.ref b182_o0)] [(.ref b114)]))
            refine own_step (fun _ k => XS.aload X182.here hx rfl (hb hby at_98) rfl rfl k) ?_
            show own_Fin p e below s _ _ _ (T182.setTop (mkF m 100 #[.val (.int p0), .val (.int p1), .val (.int p2), .val (.int p3), .val (.int p4), .val (.int p2), .val (.int p1), .val (.ref b114), .val (.ref b128), .val (.int (0 : Int32)), .val (.ref b182_o0)] [(.ref b182_o0), (.ref b114)]))
            obtain ⟨cq193, kq193, q193a, q193b, q193c⟩ := isOf hZ rfl G187
            obtain ⟨_, _, ⟨T193, L193, k193, n193⟩, -, X193, ⟨Lc193, hQ193, l193, y193, z193⟩, st193⟩ := X182.virtualBack hx (y := own_y4) (z := own_y4) hown (mvT hZ (own_w hw 18 rfl)) (mvT hZ (own_w hw 19 rfl)) (notFace_of_selects (args := #[]) (mvT hZ (own_w hw 21 rfl))) (mvT hZ (own_w hw 21 rfl)) (mvT hZ (own_w hw 20 rfl)) (by decide) (backOf (W := 0) (own_rm7 l Z a0 hw hs [] b114 b182_o0 T182.heap n0 Z182 G183) hZ (own_w hw 22 rfl) (own_w hw 2 rfl) (by decide) (by decide)) q193a q193c (g := (mkF m 100 #[.val (.int p0), .val (.int p1), .val (.int p2), .val (.int p3), .val (.int p4), .val (.int p2), .val (.int p1), .val (.ref b114), .val (.ref b128), .val (.int (0 : Int32)), .val (.ref b182_o0)] [(.ref b182_o0), (.ref b114)])) rfl (by rw [hml]; rfl) (Steps.refl _) (argsL := [(.ref b182_o0)]) (rest := []) (lenOf own_pd3 rfl) rfl (by show 2 * 0 + _ ≤ _; exact Nat.le_of_eq rfl) (hb hby at_100) (fun _ _ => ⟨rfl, rfl, (by decide : 3 + 0 ≤ _), (by decide : 5 + 0 ≤ _)⟩)
            dsimp only [Pt.U, Pt.locs, Pt.cells, Pt.slots] at X193 l193 y193 z193 st193 hQ193
            subst l193 y193 z193
            obtain ⟨rfl, N193q, e193⟩ := hQ193
            have N193 := Fr.app N182 N193q
            refine own_step (fun _ k => st193.trans k) ?_
            show own_Fin p e below s _ _ _ (T193.setTop (mkF m 103 #[.val (.int p0), .val (.int p1), .val (.int p2), .val (.int p3), .val (.int p4), .val (.int p2), .val (.int p1), .val (.ref b114), .val (.ref b128), .val (.int (0 : Int32)), .val (.ref b182_o0)] [(.int (0 : Int32))]))
            refine own_step (fun _ k => XS.ifNo X193.here hx rfl (hb hby at_103) rfl ((if0 _ _).trans (teq (by decide : (0 : Int32) = (0 : Int32))).2) k) ?_
            show own_Fin p e below s _ _ _ (T193.setTop (mkF m 106 #[.val (.int p0), .val (.int p1), .val (.int p2), .val (.int p3), .val (.int p4), .val (.int p2), .val (.int p1), .val (.ref b114), .val (.ref b128), .val (.int (0 : Int32)), .val (.ref b182_o0)] []))
            refine own_step (fun _ k => XS.aload X193.here hx rfl (hb hby at_106) rfl rfl k) ?_
            show own_Fin p e below s _ _ _ (T193.setTop (mkF m 108 #[.val (.int p0), .val (.int p1), .val (.int p2), .val (.int p3), .val (.int p4), .val (.int p2), .val (.int p1), .val (.ref b114), .val (.ref b128), .val (.int (0 : Int32)), .val (.ref b182_o0)] [(.ref b114)]))
            refine own_step (fun _ k => XS.aload X193.here hx rfl (hb hby at_108) rfl rfl k) ?_
            show own_Fin p e below s _ _ _ (T193.setTop (mkF m 110 #[.val (.int p0), .val (.int p1), .val (.int p2), .val (.int p3), .val (.int p4), .val (.int p2), .val (.int p1), .val (.ref b114), .val (.ref b128), .val (.int (0 : Int32)), .val (.ref b182_o0)] [(.ref b114), (.ref b114)]))
            obtain ⟨cq194, kq194, q194a, q194b, q194c⟩ := isOf hZ e193 G187
            obtain ⟨_, _, ⟨T194, L194, k194, n194⟩, -, X194, ⟨Lc194, hQ194, l194, y194, z194⟩, st194⟩ := X193.virtualBack hx (y := own_y4) (z := own_y4) hown (mvT hZ (own_w hw 18 rfl)) (mvT hZ (own_w hw 19 rfl)) (notFace_of_selects (args := #[]) (mvT hZ (own_w hw 21 rfl))) (mvT hZ (own_w hw 21 rfl)) (mvT hZ (own_w hw 20 rfl)) (by decide) (backOf (W := 0) (own_rm8 l Z a0 hw hs [] b114 b114 p0 p0 p1 p1 T182.heap n0 Z182 G187 G188 G188 G189 G189) hZ (own_w hw 22 rfl) (own_w hw 2 rfl) (by decide) (by decide)) q194a q194c (g := (mkF m 110 #[.val (.int p0), .val (.int p1), .val (.int p2), .val (.int p3), .val (.int p4), .val (.int p2), .val (.int p1), .val (.ref b114), .val (.ref b128), .val (.int (0 : Int32)), .val (.ref b182_o0)] [(.ref b114), (.ref b114)])) rfl (by rw [hml]; rfl) (Steps.refl _) (argsL := [(.ref b114)]) (rest := []) (lenOf own_pd3 rfl) rfl (by show 2 * 0 + _ ≤ _; exact Nat.le_of_eq rfl) (hb hby at_110) (fun _ _ => ⟨rfl, e193, (by decide : 3 + 0 ≤ _), (by decide : 5 + 0 ≤ _)⟩)
            dsimp only [Pt.U, Pt.locs, Pt.cells, Pt.slots] at X194 l194 y194 z194 st194 hQ194
            subst l194 y194 z194
            obtain ⟨rfl, N194q, e194⟩ := hQ194
            have N194 := Fr.app N193 N194q
            refine own_step (fun _ k => st194.trans k) ?_
            show own_Fin p e below s _ _ _ (T194.setTop (mkF m 113 #[.val (.int p0), .val (.int p1), .val (.int p2), .val (.int p3), .val (.int p4), .val (.int p2), .val (.int p1), .val (.ref b114), .val (.ref b128), .val (.int (0 : Int32)), .val (.ref b182_o0)] [(.int (own_r8 p0 p0 p1 p1))]))
            have hf195 : ¬ ((own_r8 p0 p0 p1 p1) = (0 : Int32)) := by rw [show (own_r8 p0 p0 p1 p1) = (1 : Int32) from by rw [own_r8, if_pos (rfl), if_pos (rfl)]]; decide
            refine own_step (fun _ k => XS.ifNo X194.here hx rfl (hb hby at_113) rfl ((if0 _ _).trans (feq hf195).1) k) ?_
            show own_Fin p e below s _ _ _ (T194.setTop (mkF m 116 #[.val (.int p0), .val (.int p1), .val (.int p2), .val (.int p3), .val (.int p4), .val (.int p2), .val (.int p1), .val (.ref b114), .val (.ref b128), .val (.int (0 : Int32)), .val (.ref b182_o0)] []))
            refine own_step (fun _ k => XS.iconst X194.here hx rfl (hb hby at_116) k) ?_
            show own_Fin p e below s _ _ _ (T194.setTop (mkF m 117 #[.val (.int p0), .val (.int p1), .val (.int p2), .val (.int p3), .val (.int p4), .val (.int p2), .val (.int p1), .val (.ref b114), .val (.ref b128), .val (.int (0 : Int32)), .val (.ref b182_o0)] [(.int (1 : Int32))]))
            refine own_step (fun _ k => XS.goto X194.here hx rfl (pc0 := 117) (pc' := 121) rfl (hb hby at_117) (by decide) (by decide) k) ?_
            show own_Fin p e below s _ _ _ (T194.setTop (mkF m 121 #[.val (.int p0), .val (.int p1), .val (.int p2), .val (.int p3), .val (.int p4), .val (.int p2), .val (.int p1), .val (.ref b114), .val (.ref b128), .val (.int (0 : Int32)), .val (.ref b182_o0)] [(.int (1 : Int32))]))
            exact own_ret X194 hlk (v := some (.int (1 : Int32))) (fun h => by rw [Bd.returns] at h; cases h) (by decide) (by decide) (by show own_Q9 Z p0 p1 p2 p3 p4 s_cache cl_cache h0 n0 _ T194.heap _; rw [e194]; exact ⟨rfl, N194⟩) (fun fs hr => retN X194 hx (t := .boolean) Bd.returns (by simp) (hb hby at_121) hr)
          · refine own_step (fun _ k => XS.ifNo X137.here hx rfl (hb hby at_83) rfl ((if0 _ _).trans (feq hc181).1) k) ?_
            show own_Fin p e below s _ _ _ (T137.setTop (mkF m 86 #[.val (.int p0), .val (.int p1), .val (.int p2), .val (.int p3), .val (.int p4), .val (.int p2), .val (.int p1), .val (.ref b114), .val (.ref b128), .val (.int (0 : Int32)), .unset] []))
            refine own_step (fun _ k => XS.aconstNull X137.here hx rfl (hb hby at_86) k) ?_
            show own_Fin p e below s _ _ _ (T137.setTop (mkF m 87 #[.val (.int p0), .val (.int p1), .val (.int p2), .val (.int p3), .val (.int p4), .val (.int p2), .val (.int p1), .val (.ref b114), .val (.ref b128), .val (.int (0 : Int32)), .unset] [.null]))
            refine own_step (fun _ k => XS.goto X137.here hx rfl (pc0 := 87) (pc' := 94) rfl (hb hby at_87) (by decide) (by decide) k) ?_
            show own_Fin p e below s _ _ _ (T137.setTop (mkF m 94 #[.val (.int p0), .val (.int p1), .val (.int p2), .val (.int p3), .val (.int p4), .val (.int p2), .val (.int p1), .val (.ref b114), .val (.ref b128), .val (.int (0 : Int32)), .unset] [.null]))
            refine own_step (fun _ k => XS.astore X137.here hx rfl (hb hby at_94) rfl rfl (l' := #[.val (.int p0), .val (.int p1), .val (.int p2), .val (.int p3), .val (.int p4), .val (.int p2), .val (.int p1), .val (.ref b114), .val (.ref b128), .val (.int (0 : Int32)), .val .null]) rfl k) ?_
            show own_Fin p e below s _ _ _ (T137.setTop (mkF m 96 #[.val (.int p0), .val (.int p1), .val (.int p2), .val (.int p3), .val (.int p4), .val (.int p2), .val (.int p1), .val (.ref b114), .val (.ref b128), .val (.int (0 : Int32)), .val .null] []))
            refine own_step (fun _ k => XS.aload X137.here hx rfl (hb hby at_96) rfl rfl k) ?_
            show own_Fin p e below s _ _ _ (T137.setTop (mkF m 98 #[.val (.int p0), .val (.int p1), .val (.int p2), .val (.int p3), .val (.int p4), .val (.int p2), .val (.int p1), .val (.ref b114), .val (.ref b128), .val (.int (0 : Int32)), .val .null] [(.ref b114)]))
            refine own_step (fun _ k => XS.aload X137.here hx rfl (hb hby at_98) rfl rfl k) ?_
            show own_Fin p e below s _ _ _ (T137.setTop (mkF m 100 #[.val (.int p0), .val (.int p1), .val (.int p2), .val (.int p3), .val (.int p4), .val (.int p2), .val (.int p1), .val (.ref b114), .val (.ref b128), .val (.int (0 : Int32)), .val .null] [.null, (.ref b114)]))
            obtain ⟨cq196, kq196, q196a, q196b, q196c⟩ := isOf hZ rfl G144
            obtain ⟨_, _, ⟨T196, L196, k196, n196⟩, -, X196, ⟨Lc196, hQ196, l196, y196, z196⟩, st196⟩ := X137.virtualBack hx (y := own_y4) (z := own_y4) hown (mvT hZ (own_w hw 18 rfl)) (mvT hZ (own_w hw 19 rfl)) (notFace_of_selects (args := #[]) (mvT hZ (own_w hw 21 rfl))) (mvT hZ (own_w hw 21 rfl)) (mvT hZ (own_w hw 20 rfl)) (by decide) (backOf (W := 0) (own_rm6 l Z a0 hw hs [] b114 T137.heap n0 Z137 ) hZ (own_w hw 22 rfl) (own_w hw 2 rfl) (by decide) (by decide)) q196a q196c (g := (mkF m 100 #[.val (.int p0), .val (.int p1), .val (.int p2), .val (.int p3), .val (.int p4), .val (.int p2), .val (.int p1), .val (.ref b114), .val (.ref b128), .val (.int (0 : Int32)), .val .null] [.null, (.ref b114)])) rfl (by rw [hml]; rfl) (Steps.refl _) (argsL := [.null]) (rest := []) (lenOf own_pd3 rfl) rfl (by show 2 * 0 + _ ≤ _; exact Nat.le_of_eq rfl) (hb hby at_100) (fun _ _ => ⟨rfl, rfl, (by decide : 2 + 0 ≤ _), (by decide : 4 + 0 ≤ _)⟩)
            dsimp only [Pt.U, Pt.locs, Pt.cells, Pt.slots] at X196 l196 y196 z196 st196 hQ196
            subst l196 y196 z196
            obtain ⟨rfl, N196q, e196⟩ := hQ196
            have N196 := Fr.app N137 N196q
            refine own_step (fun _ k => st196.trans k) ?_
            show own_Fin p e below s _ _ _ (T196.setTop (mkF m 103 #[.val (.int p0), .val (.int p1), .val (.int p2), .val (.int p3), .val (.int p4), .val (.int p2), .val (.int p1), .val (.ref b114), .val (.ref b128), .val (.int (0 : Int32)), .val .null] [(.int (0 : Int32))]))
            refine own_step (fun _ k => XS.ifNo X196.here hx rfl (hb hby at_103) rfl ((if0 _ _).trans (teq (by decide : (0 : Int32) = (0 : Int32))).2) k) ?_
            show own_Fin p e below s _ _ _ (T196.setTop (mkF m 106 #[.val (.int p0), .val (.int p1), .val (.int p2), .val (.int p3), .val (.int p4), .val (.int p2), .val (.int p1), .val (.ref b114), .val (.ref b128), .val (.int (0 : Int32)), .val .null] []))
            refine own_step (fun _ k => XS.aload X196.here hx rfl (hb hby at_106) rfl rfl k) ?_
            show own_Fin p e below s _ _ _ (T196.setTop (mkF m 108 #[.val (.int p0), .val (.int p1), .val (.int p2), .val (.int p3), .val (.int p4), .val (.int p2), .val (.int p1), .val (.ref b114), .val (.ref b128), .val (.int (0 : Int32)), .val .null] [(.ref b114)]))
            refine own_step (fun _ k => XS.aload X196.here hx rfl (hb hby at_108) rfl rfl k) ?_
            show own_Fin p e below s _ _ _ (T196.setTop (mkF m 110 #[.val (.int p0), .val (.int p1), .val (.int p2), .val (.int p3), .val (.int p4), .val (.int p2), .val (.int p1), .val (.ref b114), .val (.ref b128), .val (.int (0 : Int32)), .val .null] [(.ref b114), (.ref b114)]))
            obtain ⟨cq197, kq197, q197a, q197b, q197c⟩ := isOf hZ e196 G144
            obtain ⟨_, _, ⟨T197, L197, k197, n197⟩, -, X197, ⟨Lc197, hQ197, l197, y197, z197⟩, st197⟩ := X196.virtualBack hx (y := own_y4) (z := own_y4) hown (mvT hZ (own_w hw 18 rfl)) (mvT hZ (own_w hw 19 rfl)) (notFace_of_selects (args := #[]) (mvT hZ (own_w hw 21 rfl))) (mvT hZ (own_w hw 21 rfl)) (mvT hZ (own_w hw 20 rfl)) (by decide) (backOf (W := 0) (own_rm8 l Z a0 hw hs [] b114 b114 p0 p0 p1 p1 T137.heap n0 Z137 G144 G145 G145 G146 G146) hZ (own_w hw 22 rfl) (own_w hw 2 rfl) (by decide) (by decide)) q197a q197c (g := (mkF m 110 #[.val (.int p0), .val (.int p1), .val (.int p2), .val (.int p3), .val (.int p4), .val (.int p2), .val (.int p1), .val (.ref b114), .val (.ref b128), .val (.int (0 : Int32)), .val .null] [(.ref b114), (.ref b114)])) rfl (by rw [hml]; rfl) (Steps.refl _) (argsL := [(.ref b114)]) (rest := []) (lenOf own_pd3 rfl) rfl (by show 2 * 0 + _ ≤ _; exact Nat.le_of_eq rfl) (hb hby at_110) (fun _ _ => ⟨rfl, e196, (by decide : 2 + 0 ≤ _), (by decide : 4 + 0 ≤ _)⟩)
            dsimp only [Pt.U, Pt.locs, Pt.cells, Pt.slots] at X197 l197 y197 z197 st197 hQ197
            subst l197 y197 z197
            obtain ⟨rfl, N197q, e197⟩ := hQ197
            have N197 := Fr.app N196 N197q
            refine own_step (fun _ k => st197.trans k) ?_
            show own_Fin p e below s _ _ _ (T197.setTop (mkF m 113 #[.val (.int p0), .val (.int p1), .val (.int p2), .val (.int p3), .val (.int p4), .val (.int p2), .val (.int p1), .val (.ref b114), .val (.ref b128), .val (.int (0 : Int32)), .val .null] [(.int (own_r8 p0 p0 p1 p1))]))
            have hf198 : ¬ ((own_r8 p0 p0 p1 p1) = (0 : Int32)) := by rw [show (own_r8 p0 p0 p1 p1) = (1 : Int32) from by rw [own_r8, if_pos (rfl), if_pos (rfl)]]; decide
            refine own_step (fun _ k => XS.ifNo X197.here hx rfl (hb hby at_113) rfl ((if0 _ _).trans (feq hf198).1) k) ?_
            show own_Fin p e below s _ _ _ (T197.setTop (mkF m 116 #[.val (.int p0), .val (.int p1), .val (.int p2), .val (.int p3), .val (.int p4), .val (.int p2), .val (.int p1), .val (.ref b114), .val (.ref b128), .val (.int (0 : Int32)), .val .null] []))
            refine own_step (fun _ k => XS.iconst X197.here hx rfl (hb hby at_116) k) ?_
            show own_Fin p e below s _ _ _ (T197.setTop (mkF m 117 #[.val (.int p0), .val (.int p1), .val (.int p2), .val (.int p3), .val (.int p4), .val (.int p2), .val (.int p1), .val (.ref b114), .val (.ref b128), .val (.int (0 : Int32)), .val .null] [(.int (1 : Int32))]))
            refine own_step (fun _ k => XS.goto X197.here hx rfl (pc0 := 117) (pc' := 121) rfl (hb hby at_117) (by decide) (by decide) k) ?_
            show own_Fin p e below s _ _ _ (T197.setTop (mkF m 121 #[.val (.int p0), .val (.int p1), .val (.int p2), .val (.int p3), .val (.int p4), .val (.int p2), .val (.int p1), .val (.ref b114), .val (.ref b128), .val (.int (0 : Int32)), .val .null] [(.int (1 : Int32))]))
            exact own_ret X197 hlk (v := some (.int (1 : Int32))) (fun h => by rw [Bd.returns] at h; cases h) (by decide) (by decide) (by show own_Q9 Z p0 p1 p2 p3 p4 s_cache cl_cache h0 n0 _ T197.heap _; rw [e197]; exact ⟨rfl, N197⟩) (fun fs hr => retN X197 hx (t := .boolean) Bd.returns (by simp) (hb hby at_121) hr)
  · refine own_step (fun _ k => XS.ifNo X0.here hx rfl (hb hby at_4) rfl ((if0 _ _).trans (feq hc1).1) k) ?_
    show own_Fin p e below s _ _ _ (s₁.setTop (mkF m 7 #[.val (.int p0), .val (.int p1), .val (.int p2), .val (.int p3), .val (.int p4), .unset, .unset, .unset, .unset, .unset, .unset] []))
    refine own_step (fun _ k => XS.iloadN X0.here hx rfl (hb hby at_7) rfl k) ?_
    show own_Fin p e below s _ _ _ (s₁.setTop (mkF m 8 #[.val (.int p0), .val (.int p1), .val (.int p2), .val (.int p3), .val (.int p4), .unset, .unset, .unset, .unset, .unset, .unset] [(.int p0)]))
    refine own_step (fun _ k => XS.goto X0.here hx rfl (pc0 := 8) (pc' := 12) rfl (hb hby at_8) (by decide) (by decide) k) ?_
    show own_Fin p e below s _ _ _ (s₁.setTop (mkF m 12 #[.val (.int p0), .val (.int p1), .val (.int p2), .val (.int p3), .val (.int p4), .unset, .unset, .unset, .unset, .unset, .unset] [(.int p0)]))
    refine own_step (fun _ k => XS.istore X0.here hx rfl (hb hby at_12) rfl (l' := #[.val (.int p0), .val (.int p1), .val (.int p2), .val (.int p3), .val (.int p4), .val (.int p0), .unset, .unset, .unset, .unset, .unset]) rfl k) ?_
    show own_Fin p e below s _ _ _ (s₁.setTop (mkF m 14 #[.val (.int p0), .val (.int p1), .val (.int p2), .val (.int p3), .val (.int p4), .val (.int p0), .unset, .unset, .unset, .unset, .unset] []))
    refine own_step (fun _ k => XS.iload X0.here hx rfl (hb hby at_14) rfl k) ?_
    show own_Fin p e below s _ _ _ (s₁.setTop (mkF m 16 #[.val (.int p0), .val (.int p1), .val (.int p2), .val (.int p3), .val (.int p4), .val (.int p0), .unset, .unset, .unset, .unset, .unset] [(.int p4)]))
    refine own_step (fun _ k => XS.iconst X0.here hx rfl (hb hby at_16) k) ?_
    show own_Fin p e below s _ _ _ (s₁.setTop (mkF m 17 #[.val (.int p0), .val (.int p1), .val (.int p2), .val (.int p3), .val (.int p4), .val (.int p0), .unset, .unset, .unset, .unset, .unset] [(.int (2 : Int32)), (.int p4)]))
    refine own_step (fun _ k => XS.iand X0.here hx rfl (hb hby at_17) rfl k) ?_
    show own_Fin p e below s _ _ _ (s₁.setTop (mkF m 18 #[.val (.int p0), .val (.int p1), .val (.int p2), .val (.int p3), .val (.int p4), .val (.int p0), .unset, .unset, .unset, .unset, .unset] [(.int (p4 &&& (2 : Int32)))]))
    by_cases hc199 : (p4 &&& (2 : Int32)) = (0 : Int32)
    · refine own_step (fun _ k => XS.ifYes X0.here hx rfl (pc0 := 18) (pc' := 25) rfl (hb hby at_18) rfl ((if0 _ _).trans (teq hc199).1) (by decide) (by decide) k) ?_
      show own_Fin p e below s _ _ _ (s₁.setTop (mkF m 25 #[.val (.int p0), .val (.int p1), .val (.int p2), .val (.int p3), .val (.int p4), .val (.int p0), .unset, .unset, .unset, .unset, .unset] []))
      refine own_step (fun _ k => XS.iloadN X0.here hx rfl (hb hby at_25) rfl k) ?_
      show own_Fin p e below s _ _ _ (s₁.setTop (mkF m 26 #[.val (.int p0), .val (.int p1), .val (.int p2), .val (.int p3), .val (.int p4), .val (.int p0), .unset, .unset, .unset, .unset, .unset] [(.int p3)]))
      refine own_step (fun _ k => XS.istore X0.here hx rfl (hb hby at_26) rfl (l' := #[.val (.int p0), .val (.int p1), .val (.int p2), .val (.int p3), .val (.int p4), .val (.int p0), .val (.int p3), .unset, .unset, .unset, .unset]) rfl k) ?_
      show own_Fin p e below s _ _ _ (s₁.setTop (mkF m 28 #[.val (.int p0), .val (.int p1), .val (.int p2), .val (.int p3), .val (.int p4), .val (.int p0), .val (.int p3), .unset, .unset, .unset, .unset] []))
      obtain ⟨T200, h200, X200, e200, E200, A200, D200, -, st200⟩ := newO X0 hx hZ hown (own_w hw 0 rfl) (own_w hw 1 rfl) (own_w hw 2 rfl) e0 (g := (mkF m 28 #[.val (.int p0), .val (.int p1), .val (.int p2), .val (.int p3), .val (.int p4), .val (.int p0), .val (.int p3), .unset, .unset, .unset, .unset] [])) rfl (hb hby at_28) (by decide) (by decide)
      obtain ⟨b200, g200⟩ : ∃ z, z = h0.size := ⟨_, rfl⟩
      rw [← g200] at A200 D200 st200
      have gg200 : n0 ≤ b200 := Nat.le_trans Z0 (Nat.le_of_eq g200.symm)
      have sz200 : h0.size ≤ b200 := Nat.le_trans KR.1 (Nat.le_of_eq g200.symm)
      have K200 : Keep h0 h200 [] := KR.ext E200
      have Z200 : n0 ≤ h200.size := Nat.le_trans Z0 E200.1
      have G201 := (Od.ext E200)
      have G202 := (S_high.ext E200)
      have G203 := (S_cache.ext E200)
      have G204 : Fld Z h200 b200 "com/example/tandem/tandem/analysis/Cuts$Range" "from" "I" (.int (0 : Int32)) := D200 (Or.inr (own_w hw 15 rfl)) (ty := .int) (by decide)
      have G205 : Fld Z h200 b200 "com/example/tandem/tandem/analysis/Cuts$Range" "to" "I" (.int (0 : Int32)) := D200 (Or.inr (own_w hw 17 rfl)) (ty := .int) (by decide)
      refine own_step st200 ?_
      show own_Fin p e below s _ _ _ (T200.setTop (mkF m 31 #[.val (.int p0), .val (.int p1), .val (.int p2), .val (.int p3), .val (.int p4), .val (.int p0), .val (.int p3), .unset, .unset, .unset, .unset] [(.ref b200)]))
      refine own_step (fun _ k => XS.dup X200.here hx rfl (hb hby at_31) rfl rfl k) ?_
      show own_Fin p e below s _ _ _ (T200.setTop (mkF m 32 #[.val (.int p0), .val (.int p1), .val (.int p2), .val (.int p3), .val (.int p4), .val (.int p0), .val (.int p3), .unset, .unset, .unset, .unset] [(.ref b200), (.ref b200)]))
      refine own_step (fun _ k => XS.iloadN X200.here hx rfl (hb hby at_32) rfl k) ?_
      show own_Fin p e below s _ _ _ (T200.setTop (mkF m 33 #[.val (.int p0), .val (.int p1), .val (.int p2), .val (.int p3), .val (.int p4), .val (.int p0), .val (.int p3), .unset, .unset, .unset, .unset] [(.int p0), (.ref b200), (.ref b200)]))
      refine own_step (fun _ k => XS.iloadN X200.here hx rfl (hb hby at_33) rfl k) ?_
      show own_Fin p e below s _ _ _ (T200.setTop (mkF m 34 #[.val (.int p0), .val (.int p1), .val (.int p2), .val (.int p3), .val (.int p4), .val (.int p0), .val (.int p3), .unset, .unset, .unset, .unset] [(.int p1), (.int p0), (.ref b200), (.ref b200)]))
      obtain ⟨_, _, ⟨T206, L206, k206, n206⟩, -, X206, ⟨Lc206, hQ206, l206, y206, z206⟩, st206⟩ := X200.specialBack hx (y := own_y3) rfl hown (mvT hZ (own_w hw 3 rfl)) (mvT hZ (own_w hw 4 rfl)) (mvT hZ (own_w hw 5 rfl)) (by decide) (backOf (W := 1) (own_rm2 l Z a0 hw hs [] b200 p0 p1 ((.int (0 : Int32))) ((.int (0 : Int32))) h200 n0 Z200 A200 G204 G205 gg200) hZ (own_w hw 5 rfl) (own_w hw 2 rfl) (by decide) (by decide)) (g := (mkF m 34 #[.val (.int p0), .val (.int p1), .val (.int p2), .val (.int p3), .val (.int p4), .val (.int p0), .val (.int p3), .unset, .unset, .unset, .unset] [(.int p1), (.int p0), (.ref b200), (.ref b200)])) rfl (by rw [hml]; rfl) (Steps.refl _) (a := b200) (argsL := [(.int p0), (.int p1)]) (rest := [(.ref b200)]) (lenOf own_pd2 rfl) rfl (by show 2 * 0 + _ ≤ _; exact Nat.le_of_eq rfl) (hb hby at_34) (fun _ _ => ⟨rfl, e200, (by decide : 1 + 0 ≤ _), (by decide : 2 + 0 ≤ _)⟩)
      dsimp only [Pt.U, Pt.locs, Pt.cells, Pt.slots] at X206 l206 y206 z206 st206 hQ206
      subst l206 y206 z206
      obtain ⟨N206q, K206q, rfl, G207, G208, G209⟩ := hQ206
      have N206 := Fr.app N0 N206q
      have K206 : Keep h0 T206.heap [] := K200.trans K206q (allS (P := fun x => x ∈ [] ∨ h0.size ≤ x) (Or.inr sz200) all0)
      have Z206 : n0 ≤ T206.heap.size := Nat.le_trans Z200 K206q.1
      have G210 := (G201.keep K206q (allS (P := fun x => n0 ≤ x) gg200 all0))
      have G211 := (own_sta_keep G202 K206q (allS (P := own_Nst _) (own_nst_exa A200) all0))
      have G212 := (own_sta_keep G203 K206q (allS (P := own_Nst _) (own_nst_exa A200) all0))
      have G213 := (A200.keep K206q)
      refine own_step (fun _ k => st206.trans k) ?_
      show own_Fin p e below s _ _ _ (T206.setTop (mkF m 37 #[.val (.int p0), .val (.int p1), .val (.int p2), .val (.int p3), .val (.int p4), .val (.int p0), .val (.int p3), .unset, .unset, .unset, .unset] [(.ref b200)]))
      refine own_step (fun _ k => XS.astore X206.here hx rfl (hb hby at_37) rfl rfl (l' := #[.val (.int p0), .val (.int p1), .val (.int p2), .val (.int p3), .val (.int p4), .val (.int p0), .val (.int p3), .val (.ref b200), .unset, .unset, .unset]) rfl k) ?_
      show own_Fin p e below s _ _ _ (T206.setTop (mkF m 39 #[.val (.int p0), .val (.int p1), .val (.int p2), .val (.int p3), .val (.int p4), .val (.int p0), .val (.int p3), .val (.ref b200), .unset, .unset, .unset] []))
      obtain ⟨T214, h214, X214, e214, E214, A214, D214, -, st214⟩ := newO X206 hx hZ hown (own_w hw 0 rfl) (own_w hw 1 rfl) (own_w hw 2 rfl) rfl (g := (mkF m 39 #[.val (.int p0), .val (.int p1), .val (.int p2), .val (.int p3), .val (.int p4), .val (.int p0), .val (.int p3), .val (.ref b200), .unset, .unset, .unset] [])) rfl (hb hby at_39) (by decide) (by decide)
      obtain ⟨b214, g214⟩ : ∃ z, z = T206.heap.size := ⟨_, rfl⟩
      rw [← g214] at A214 D214 st214
      have ne214_b200 : b200 ≠ b214 := Nat.ne_of_lt (Nat.lt_of_lt_of_le G207.lt (Nat.le_of_eq g214.symm))
      have gg214 : n0 ≤ b214 := Nat.le_trans Z206 (Nat.le_of_eq g214.symm)
      have sz214 : h0.size ≤ b214 := Nat.le_trans K206.1 (Nat.le_of_eq g214.symm)
      have K214 : Keep h0 h214 [] := K206.ext E214
      have Z214 : n0 ≤ h214.size := Nat.le_trans Z206 E214.1
      have G215 := (G210.ext E214)
      have G216 := (G211.ext E214)
      have G217 := (G212.ext E214)
      have G218 := (G207.ext E214)
      have G219 := (G208.ext E214)
      have G220 := (G209.ext E214)
      have G221 : Fld Z h214 b214 "com/example/tandem/tandem/analysis/Cuts$Range" "from" "I" (.int (0 : Int32)) := D214 (Or.inr (own_w hw 15 rfl)) (ty := .int) (by decide)
      have G222 : Fld Z h214 b214 "com/example/tandem/tandem/analysis/Cuts$Range" "to" "I" (.int (0 : Int32)) := D214 (Or.inr (own_w hw 17 rfl)) (ty := .int) (by decide)
      refine own_step st214 ?_
      show own_Fin p e below s _ _ _ (T214.setTop (mkF m 42 #[.val (.int p0), .val (.int p1), .val (.int p2), .val (.int p3), .val (.int p4), .val (.int p0), .val (.int p3), .val (.ref b200), .unset, .unset, .unset] [(.ref b214)]))
      refine own_step (fun _ k => XS.dup X214.here hx rfl (hb hby at_42) rfl rfl k) ?_
      show own_Fin p e below s _ _ _ (T214.setTop (mkF m 43 #[.val (.int p0), .val (.int p1), .val (.int p2), .val (.int p3), .val (.int p4), .val (.int p0), .val (.int p3), .val (.ref b200), .unset, .unset, .unset] [(.ref b214), (.ref b214)]))
      refine own_step (fun _ k => XS.iload X214.here hx rfl (hb hby at_43) rfl k) ?_
      show own_Fin p e below s _ _ _ (T214.setTop (mkF m 45 #[.val (.int p0), .val (.int p1), .val (.int p2), .val (.int p3), .val (.int p4), .val (.int p0), .val (.int p3), .val (.ref b200), .unset, .unset, .unset] [(.int p0), (.ref b214), (.ref b214)]))
      refine own_step (fun _ k => XS.iload X214.here hx rfl (hb hby at_45) rfl k) ?_
      show own_Fin p e below s _ _ _ (T214.setTop (mkF m 47 #[.val (.int p0), .val (.int p1), .val (.int p2), .val (.int p3), .val (.int p4), .val (.int p0), .val (.int p3), .val (.ref b200), .unset, .unset, .unset] [(.int p3), (.int p0), (.ref b214), (.ref b214)]))
      obtain ⟨_, _, ⟨T223, L223, k223, n223⟩, -, X223, ⟨Lc223, hQ223, l223, y223, z223⟩, st223⟩ := X214.specialBack hx (y := own_y3) rfl hown (mvT hZ (own_w hw 3 rfl)) (mvT hZ (own_w hw 4 rfl)) (mvT hZ (own_w hw 5 rfl)) (by decide) (backOf (W := 1) (own_rm2 l Z a0 hw hs [] b214 p0 p3 ((.int (0 : Int32))) ((.int (0 : Int32))) h214 n0 Z214 A214 G221 G222 gg214) hZ (own_w hw 5 rfl) (own_w hw 2 rfl) (by decide) (by decide)) (g := (mkF m 47 #[.val (.int p0), .val (.int p1), .val (.int p2), .val (.int p3), .val (.int p4), .val (.int p0), .val (.int p3), .val (.ref b200), .unset, .unset, .unset] [(.int p3), (.int p0), (.ref b214), (.ref b214)])) rfl (by rw [hml]; rfl) (Steps.refl _) (a := b214) (argsL := [(.int p0), (.int p3)]) (rest := [(.ref b214)]) (lenOf own_pd2 rfl) rfl (by show 2 * 0 + _ ≤ _; exact Nat.le_of_eq rfl) (hb hby at_47) (fun _ _ => ⟨rfl, e214, (by decide : 2 + 0 ≤ _), (by decide : 4 + 0 ≤ _)⟩)
      dsimp only [Pt.U, Pt.locs, Pt.cells, Pt.slots] at X223 l223 y223 z223 st223 hQ223
      subst l223 y223 z223
      obtain ⟨N223q, K223q, rfl, G224, G225, G226⟩ := hQ223
      have N223 := Fr.app N206 N223q
      have K223 : Keep h0 T223.heap [] := K214.trans K223q (allS (P := fun x => x ∈ [] ∨ h0.size ≤ x) (Or.inr sz214) all0)
      have Z223 : n0 ≤ T223.heap.size := Nat.le_trans Z214 K223q.1
      have G227 := (G215.keep K223q (allS (P := fun x => n0 ≤ x) gg214 all0))
      have G228 := (own_sta_keep G216 K223q (allS (P := own_Nst _) (own_nst_exa A214) all0))
      have G229 := (own_sta_keep G217 K223q (allS (P := own_Nst _) (own_nst_exa A214) all0))
      have G230 := (G218.keep K223q)
      have G231 := (G219.keep K223q (ninS ne214_b200 nin0))
      have G232 := (G220.keep K223q (ninS ne214_b200 nin0))
      have G233 := (A214.keep K223q)
      refine own_step (fun _ k => st223.trans k) ?_
      show own_Fin p e below s _ _ _ (T223.setTop (mkF m 50 #[.val (.int p0), .val (.int p1), .val (.int p2), .val (.int p3), .val (.int p4), .val (.int p0), .val (.int p3), .val (.ref b200), .unset, .unset, .unset] [(.ref b214)]))
      refine own_step (fun _ k => XS.astore X223.here hx rfl (hb hby at_50) rfl rfl (l' := #[.val (.int p0), .val (.int p1), .val (.int p2), .val (.int p3), .val (.int p4), .val (.int p0), .val (.int p3), .val (.ref b200), .val (.ref b214), .unset, .unset]) rfl k) ?_
      show own_Fin p e below s _ _ _ (T223.setTop (mkF m 52 #[.val (.int p0), .val (.int p1), .val (.int p2), .val (.int p3), .val (.int p4), .val (.int p0), .val (.int p3), .val (.ref b200), .val (.ref b214), .unset, .unset] []))
      refine own_step (fun _ k => XS.iloadN X223.here hx rfl (hb hby at_52) rfl k) ?_
      show own_Fin p e below s _ _ _ (T223.setTop (mkF m 53 #[.val (.int p0), .val (.int p1), .val (.int p2), .val (.int p3), .val (.int p4), .val (.int p0), .val (.int p3), .val (.ref b200), .val (.ref b214), .unset, .unset] [(.int p0)]))
      refine own_step (fun _ k => XS.iload X223.here hx rfl (hb hby at_53) rfl k) ?_
      show own_Fin p e below s _ _ _ (T223.setTop (mkF m 55 #[.val (.int p0), .val (.int p1), .val (.int p2), .val (.int p3), .val (.int p4), .val (.int p0), .val (.int p3), .val (.ref b200), .val (.ref b214), .unset, .unset] [(.int p0), (.int p0)]))
      refine own_step (fun _ k => XS.icmpNo X223.here hx rfl (hb hby at_55) rfl (teq (rfl : p0 = p0)).2 k) ?_
      show own_Fin p e below s _ _ _ (T223.setTop (mkF m 58 #[.val (.int p0), .val (.int p1), .val (.int p2), .val (.int p3), .val (.int p4), .val (.int p0), .val (.int p3), .val (.ref b200), .val (.ref b214), .unset, .unset] []))
      refine own_step (fun _ k => XS.iloadN X223.here hx rfl (hb hby at_58) rfl k) ?_
      show own_Fin p e below s _ _ _ (T223.setTop (mkF m 59 #[.val (.int p0), .val (.int p1), .val (.int p2), .val (.int p3), .val (.int p4), .val (.int p0), .val (.int p3), .val (.ref b200), .val (.ref b214), .unset, .unset] [(.int p1)]))
      refine own_step (fun _ k => XS.iload X223.here hx rfl (hb hby at_59) rfl k) ?_
      show own_Fin p e below s _ _ _ (T223.setTop (mkF m 61 #[.val (.int p0), .val (.int p1), .val (.int p2), .val (.int p3), .val (.int p4), .val (.int p0), .val (.int p3), .val (.ref b200), .val (.ref b214), .unset, .unset] [(.int p3), (.int p1)]))
      by_cases hc234 : p1 = p3
      · refine own_step (fun _ k => XS.icmpNo X223.here hx rfl (hb hby at_61) rfl (teq hc234).2 k) ?_
        show own_Fin p e below s _ _ _ (T223.setTop (mkF m 64 #[.val (.int p0), .val (.int p1), .val (.int p2), .val (.int p3), .val (.int p4), .val (.int p0), .val (.int p3), .val (.ref b200), .val (.ref b214), .unset, .unset] []))
        refine own_step (fun _ k => XS.iconst X223.here hx rfl (hb hby at_64) k) ?_
        show own_Fin p e below s _ _ _ (T223.setTop (mkF m 65 #[.val (.int p0), .val (.int p1), .val (.int p2), .val (.int p3), .val (.int p4), .val (.int p0), .val (.int p3), .val (.ref b200), .val (.ref b214), .unset, .unset] [(.int (1 : Int32))]))
        refine own_step (fun _ k => XS.goto X223.here hx rfl (pc0 := 65) (pc' := 69) rfl (hb hby at_65) (by decide) (by decide) k) ?_
        show own_Fin p e below s _ _ _ (T223.setTop (mkF m 69 #[.val (.int p0), .val (.int p1), .val (.int p2), .val (.int p3), .val (.int p4), .val (.int p0), .val (.int p3), .val (.ref b200), .val (.ref b214), .unset, .unset] [(.int (1 : Int32))]))
        refine own_step (fun _ k => XS.istore X223.here hx rfl (hb hby at_69) rfl (l' := #[.val (.int p0), .val (.int p1), .val (.int p2), .val (.int p3), .val (.int p4), .val (.int p0), .val (.int p3), .val (.ref b200), .val (.ref b214), .val (.int (1 : Int32)), .unset]) rfl k) ?_
        show own_Fin p e below s _ _ _ (T223.setTop (mkF m 71 #[.val (.int p0), .val (.int p1), .val (.int p2), .val (.int p3), .val (.int p4), .val (.int p0), .val (.int p3), .val (.ref b200), .val (.ref b214), .val (.int (1 : Int32)), .unset] []))
        refine own_step (fun _ k => XS.iload X223.here hx rfl (hb hby at_71) rfl k) ?_
        show own_Fin p e below s _ _ _ (T223.setTop (mkF m 73 #[.val (.int p0), .val (.int p1), .val (.int p2), .val (.int p3), .val (.int p4), .val (.int p0), .val (.int p3), .val (.ref b200), .val (.ref b214), .val (.int (1 : Int32)), .unset] [(.int p4)]))
        refine own_step (fun _ k => XS.iconst X223.here hx rfl (hb hby at_73) k) ?_
        show own_Fin p e below s _ _ _ (T223.setTop (mkF m 74 #[.val (.int p0), .val (.int p1), .val (.int p2), .val (.int p3), .val (.int p4), .val (.int p0), .val (.int p3), .val (.ref b200), .val (.ref b214), .val (.int (1 : Int32)), .unset] [(.int (4 : Int32)), (.int p4)]))
        refine own_step (fun _ k => XS.iand X223.here hx rfl (hb hby at_74) rfl k) ?_
        show own_Fin p e below s _ _ _ (T223.setTop (mkF m 75 #[.val (.int p0), .val (.int p1), .val (.int p2), .val (.int p3), .val (.int p4), .val (.int p0), .val (.int p3), .val (.ref b200), .val (.ref b214), .val (.int (1 : Int32)), .unset] [(.int (p4 &&& (4 : Int32)))]))
        by_cases hc235 : (p4 &&& (4 : Int32)) = (0 : Int32)
        · refine own_step (fun _ k => XS.ifYes X223.here hx rfl (pc0 := 75) (pc' := 122) rfl (hb hby at_75) rfl ((if0 _ _).trans (teq hc235).1) (by decide) (by decide) k) ?_
          show own_Fin p e below s _ _ _ (T223.setTop (mkF m 122 #[.val (.int p0), .val (.int p1), .val (.int p2), .val (.int p3), .val (.int p4), .val (.int p0), .val (.int p3), .val (.ref b200), .val (.ref b214), .val (.int (1 : Int32)), .unset] []))
          refine own_step (fun _ k => XS.aload X223.here hx rfl (hb hby at_122) rfl rfl k) ?_
          show own_Fin p e below s _ _ _ (T223.setTop (mkF m 124 #[.val (.int p0), .val (.int p1), .val (.int p2), .val (.int p3), .val (.int p4), .val (.int p0), .val (.int p3), .val (.ref b200), .val (.ref b214), .val (.int (1 : Int32)), .unset] [(.ref b200)]))
          refine own_step (fun _ k => XS.aload X223.here hx rfl (hb hby at_124) rfl rfl k) ?_
          show own_Fin p e below s _ _ _ (T223.setTop (mkF m 126 #[.val (.int p0), .val (.int p1), .val (.int p2), .val (.int p3), .val (.int p4), .val (.int p0), .val (.int p3), .val (.ref b200), .val (.ref b214), .val (.int (1 : Int32)), .unset] [(.ref b214), (.ref b200)]))
          obtain ⟨cq236, kq236, q236a, q236b, q236c⟩ := isOf hZ rfl G230
          obtain ⟨_, _, ⟨T236, L236, k236, n236⟩, -, X236, ⟨Lc236, hQ236, l236, y236, z236⟩, st236⟩ := X223.virtualBack hx (y := own_y4) (z := own_y4) hown (mvT hZ (own_w hw 18 rfl)) (mvT hZ (own_w hw 19 rfl)) (notFace_of_selects (args := #[]) (mvT hZ (own_w hw 21 rfl))) (mvT hZ (own_w hw 21 rfl)) (mvT hZ (own_w hw 20 rfl)) (by decide) (backOf (W := 0) (own_rm8 l Z a0 hw hs [] b200 b214 p0 p0 p3 p1 T223.heap n0 Z223 G224 G225 G231 G226 G232) hZ (own_w hw 22 rfl) (own_w hw 2 rfl) (by decide) (by decide)) q236a q236c (g := (mkF m 126 #[.val (.int p0), .val (.int p1), .val (.int p2), .val (.int p3), .val (.int p4), .val (.int p0), .val (.int p3), .val (.ref b200), .val (.ref b214), .val (.int (1 : Int32)), .unset] [(.ref b214), (.ref b200)])) rfl (by rw [hml]; rfl) (Steps.refl _) (argsL := [(.ref b214)]) (rest := []) (lenOf own_pd3 rfl) rfl (by show 2 * 0 + _ ≤ _; exact Nat.le_of_eq rfl) (hb hby at_126) (fun _ _ => ⟨rfl, rfl, (by decide : 2 + 0 ≤ _), (by decide : 4 + 0 ≤ _)⟩)
          dsimp only [Pt.U, Pt.locs, Pt.cells, Pt.slots] at X236 l236 y236 z236 st236 hQ236
          subst l236 y236 z236
          obtain ⟨rfl, N236q, e236⟩ := hQ236
          have N236 := Fr.app N223 N236q
          refine own_step (fun _ k => st236.trans k) ?_
          show own_Fin p e below s _ _ _ (T236.setTop (mkF m 129 #[.val (.int p0), .val (.int p1), .val (.int p2), .val (.int p3), .val (.int p4), .val (.int p0), .val (.int p3), .val (.ref b200), .val (.ref b214), .val (.int (1 : Int32)), .unset] [(.int (own_r8 p0 p0 p3 p1))]))
          refine own_step (fun _ k => XS.iload X236.here hx rfl (hb hby at_129) rfl k) ?_
          show own_Fin p e below s _ _ _ (T236.setTop (mkF m 131 #[.val (.int p0), .val (.int p1), .val (.int p2), .val (.int p3), .val (.int p4), .val (.int p0), .val (.int p3), .val (.ref b200), .val (.ref b214), .val (.int (1 : Int32)), .unset] [(.int (1 : Int32)), (.int (own_r8 p0 p0 p3 p1))]))
          have hf237 : (own_r8 p0 p0 p3 p1) = (1 : Int32) := by rw [own_r8, if_pos (rfl), if_pos (hc234.symm)]
          refine own_step (fun _ k => XS.icmpNo X236.here hx rfl (hb hby at_131) rfl (teq hf237).2 k) ?_
          show own_Fin p e below s _ _ _ (T236.setTop (mkF m 134 #[.val (.int p0), .val (.int p1), .val (.int p2), .val (.int p3), .val (.int p4), .val (.int p0), .val (.int p3), .val (.ref b200), .val (.ref b214), .val (.int (1 : Int32)), .unset] []))
          refine own_step (fun _ k => XS.aload X236.here hx rfl (hb hby at_134) rfl rfl k) ?_
          show own_Fin p e below s _ _ _ (T236.setTop (mkF m 136 #[.val (.int p0), .val (.int p1), .val (.int p2), .val (.int p3), .val (.int p4), .val (.int p0), .val (.int p3), .val (.ref b200), .val (.ref b214), .val (.int (1 : Int32)), .unset] [(.ref b214)]))
          refine own_step (fun _ k => XS.aload X236.here hx rfl (hb hby at_136) rfl rfl k) ?_
          show own_Fin p e below s _ _ _ (T236.setTop (mkF m 138 #[.val (.int p0), .val (.int p1), .val (.int p2), .val (.int p3), .val (.int p4), .val (.int p0), .val (.int p3), .val (.ref b200), .val (.ref b214), .val (.int (1 : Int32)), .unset] [(.ref b200), (.ref b214)]))
          obtain ⟨cq238, kq238, q238a, q238b, q238c⟩ := isOf hZ e236 G224
          obtain ⟨_, _, ⟨T238, L238, k238, n238⟩, -, X238, ⟨Lc238, hQ238, l238, y238, z238⟩, st238⟩ := X236.virtualBack hx (y := own_y4) (z := own_y4) hown (mvT hZ (own_w hw 18 rfl)) (mvT hZ (own_w hw 19 rfl)) (notFace_of_selects (args := #[]) (mvT hZ (own_w hw 21 rfl))) (mvT hZ (own_w hw 21 rfl)) (mvT hZ (own_w hw 20 rfl)) (by decide) (backOf (W := 0) (own_rm8 l Z a0 hw hs [] b214 b200 p0 p0 p1 p3 T223.heap n0 Z223 G230 G231 G225 G232 G226) hZ (own_w hw 22 rfl) (own_w hw 2 rfl) (by decide) (by decide)) q238a q238c (g := (mkF m 138 #[.val (.int p0), .val (.int p1), .val (.int p2), .val (.int p3), .val (.int p4), .val (.int p0), .val (.int p3), .val (.ref b200), .val (.ref b214), .val (.int (1 : Int32)), .unset] [(.ref b200), (.ref b214)])) rfl (by rw [hml]; rfl) (Steps.refl _) (argsL := [(.ref b200)]) (rest := []) (lenOf own_pd3 rfl) rfl (by show 2 * 0 + _ ≤ _; exact Nat.le_of_eq rfl) (hb hby at_138) (fun _ _ => ⟨rfl, e236, (by decide : 2 + 0 ≤ _), (by decide : 4 + 0 ≤ _)⟩)
          dsimp only [Pt.U, Pt.locs, Pt.cells, Pt.slots] at X238 l238 y238 z238 st238 hQ238
          subst l238 y238 z238
          obtain ⟨rfl, N238q, e238⟩ := hQ238
          have N238 := Fr.app N236 N238q
          refine own_step (fun _ k => st238.trans k) ?_
          show own_Fin p e below s _ _ _ (T238.setTop (mkF m 141 #[.val (.int p0), .val (.int p1), .val (.int p2), .val (.int p3), .val (.int p4), .val (.int p0), .val (.int p3), .val (.ref b200), .val (.ref b214), .val (.int (1 : Int32)), .unset] [(.int (own_r8 p0 p0 p1 p3))]))
          refine own_step (fun _ k => XS.iload X238.here hx rfl (hb hby at_141) rfl k) ?_
          show own_Fin p e below s _ _ _ (T238.setTop (mkF m 143 #[.val (.int p0), .val (.int p1), .val (.int p2), .val (.int p3), .val (.int p4), .val (.int p0), .val (.int p3), .val (.ref b200), .val (.ref b214), .val (.int (1 : Int32)), .unset] [(.int (1 : Int32)), (.int (own_r8 p0 p0 p1 p3))]))
          have hf239 : (own_r8 p0 p0 p1 p3) = (1 : Int32) := by rw [own_r8, if_pos (rfl), if_pos (hc234)]
          refine own_step (fun _ k => XS.icmpNo X238.here hx rfl (hb hby at_143) rfl (teq hf239).2 k) ?_
          show own_Fin p e below s _ _ _ (T238.setTop (mkF m 146 #[.val (.int p0), .val (.int p1), .val (.int p2), .val (.int p3), .val (.int p4), .val (.int p0), .val (.int p3), .val (.ref b200), .val (.ref b214), .val (.int (1 : Int32)), .unset] []))
          refine own_step (fun _ k => XS.aload X238.here hx rfl (hb hby at_146) rfl rfl k) ?_
          show own_Fin p e below s _ _ _ (T238.setTop (mkF m 148 #[.val (.int p0), .val (.int p1), .val (.int p2), .val (.int p3), .val (.int p4), .val (.int p0), .val (.int p3), .val (.ref b200), .val (.ref b214), .val (.int (1 : Int32)), .unset] [(.ref b200)]))
          refine own_step (fun _ k => XS.aload X238.here hx rfl (hb hby at_148) rfl rfl k) ?_
          show own_Fin p e below s _ _ _ (T238.setTop (mkF m 150 #[.val (.int p0), .val (.int p1), .val (.int p2), .val (.int p3), .val (.int p4), .val (.int p0), .val (.int p3), .val (.ref b200), .val (.ref b214), .val (.int (1 : Int32)), .unset] [(.ref b200), (.ref b200)]))
          obtain ⟨cq240, kq240, q240a, q240b, q240c⟩ := isOf hZ e238 G230
          obtain ⟨_, _, ⟨T240, L240, k240, n240⟩, -, X240, ⟨Lc240, hQ240, l240, y240, z240⟩, st240⟩ := X238.virtualBack hx (y := own_y4) (z := own_y4) hown (mvT hZ (own_w hw 18 rfl)) (mvT hZ (own_w hw 19 rfl)) (notFace_of_selects (args := #[]) (mvT hZ (own_w hw 21 rfl))) (mvT hZ (own_w hw 21 rfl)) (mvT hZ (own_w hw 20 rfl)) (by decide) (backOf (W := 0) (own_rm8 l Z a0 hw hs [] b200 b200 p0 p0 p1 p1 T223.heap n0 Z223 G230 G231 G231 G232 G232) hZ (own_w hw 22 rfl) (own_w hw 2 rfl) (by decide) (by decide)) q240a q240c (g := (mkF m 150 #[.val (.int p0), .val (.int p1), .val (.int p2), .val (.int p3), .val (.int p4), .val (.int p0), .val (.int p3), .val (.ref b200), .val (.ref b214), .val (.int (1 : Int32)), .unset] [(.ref b200), (.ref b200)])) rfl (by rw [hml]; rfl) (Steps.refl _) (argsL := [(.ref b200)]) (rest := []) (lenOf own_pd3 rfl) rfl (by show 2 * 0 + _ ≤ _; exact Nat.le_of_eq rfl) (hb hby at_150) (fun _ _ => ⟨rfl, e238, (by decide : 2 + 0 ≤ _), (by decide : 4 + 0 ≤ _)⟩)
          dsimp only [Pt.U, Pt.locs, Pt.cells, Pt.slots] at X240 l240 y240 z240 st240 hQ240
          subst l240 y240 z240
          obtain ⟨rfl, N240q, e240⟩ := hQ240
          have N240 := Fr.app N238 N240q
          refine own_step (fun _ k => st240.trans k) ?_
          show own_Fin p e below s _ _ _ (T240.setTop (mkF m 153 #[.val (.int p0), .val (.int p1), .val (.int p2), .val (.int p3), .val (.int p4), .val (.int p0), .val (.int p3), .val (.ref b200), .val (.ref b214), .val (.int (1 : Int32)), .unset] [(.int (own_r8 p0 p0 p1 p1))]))
          have hf241 : ¬ ((own_r8 p0 p0 p1 p1) = (0 : Int32)) := by rw [show (own_r8 p0 p0 p1 p1) = (1 : Int32) from by rw [own_r8, if_pos (rfl), if_pos (rfl)]]; decide
          refine own_step (fun _ k => XS.ifNo X240.here hx rfl (hb hby at_153) rfl ((if0 _ _).trans (feq hf241).1) k) ?_
          show own_Fin p e below s _ _ _ (T240.setTop (mkF m 156 #[.val (.int p0), .val (.int p1), .val (.int p2), .val (.int p3), .val (.int p4), .val (.int p0), .val (.int p3), .val (.ref b200), .val (.ref b214), .val (.int (1 : Int32)), .unset] []))
          refine own_step (fun _ k => XS.iconst X240.here hx rfl (hb hby at_156) k) ?_
          show own_Fin p e below s _ _ _ (T240.setTop (mkF m 157 #[.val (.int p0), .val (.int p1), .val (.int p2), .val (.int p3), .val (.int p4), .val (.int p0), .val (.int p3), .val (.ref b200), .val (.ref b214), .val (.int (1 : Int32)), .unset] [(.int (1 : Int32))]))
          refine own_step (fun _ k => XS.goto X240.here hx rfl (pc0 := 157) (pc' := 161) rfl (hb hby at_157) (by decide) (by decide) k) ?_
          show own_Fin p e below s _ _ _ (T240.setTop (mkF m 161 #[.val (.int p0), .val (.int p1), .val (.int p2), .val (.int p3), .val (.int p4), .val (.int p0), .val (.int p3), .val (.ref b200), .val (.ref b214), .val (.int (1 : Int32)), .unset] [(.int (1 : Int32))]))
          exact own_ret X240 hlk (v := some (.int (1 : Int32))) (fun h => by rw [Bd.returns] at h; cases h) (by decide) (by decide) (by show own_Q9 Z p0 p1 p2 p3 p4 s_cache cl_cache h0 n0 _ T240.heap _; rw [e240]; exact ⟨rfl, N240⟩) (fun fs hr => retN X240 hx (t := .boolean) Bd.returns (by simp) (hb hby at_161) hr)
        · refine own_step (fun _ k => XS.ifNo X223.here hx rfl (hb hby at_75) rfl ((if0 _ _).trans (feq hc235).1) k) ?_
          show own_Fin p e below s _ _ _ (T223.setTop (mkF m 78 #[.val (.int p0), .val (.int p1), .val (.int p2), .val (.int p3), .val (.int p4), .val (.int p0), .val (.int p3), .val (.ref b200), .val (.ref b214), .val (.int (1 : Int32)), .unset] []))
          refine own_step (fun _ k => XS.iload X223.here hx rfl (hb hby at_78) rfl k) ?_
          show own_Fin p e below s _ _ _ (T223.setTop (mkF m 80 #[.val (.int p0), .val (.int p1), .val (.int p2), .val (.int p3), .val (.int p4), .val (.int p0), .val (.int p3), .val (.ref b200), .val (.ref b214), .val (.int (1 : Int32)), .unset] [(.int p4)]))
          refine own_step (fun _ k => XS.bipush X223.here hx rfl (hb hby at_80) k) ?_
          show own_Fin p e below s _ _ _ (T223.setTop (mkF m 82 #[.val (.int p0), .val (.int p1), .val (.int p2), .val (.int p3), .val (.int p4), .val (.int p0), .val (.int p3), .val (.ref b200), .val (.ref b214), .val (.int (1 : Int32)), .unset] [(.int (8 : Int32)), (.int p4)]))
          refine own_step (fun _ k => XS.iand X223.here hx rfl (hb hby at_82) rfl k) ?_
          show own_Fin p e below s _ _ _ (T223.setTop (mkF m 83 #[.val (.int p0), .val (.int p1), .val (.int p2), .val (.int p3), .val (.int p4), .val (.int p0), .val (.int p3), .val (.ref b200), .val (.ref b214), .val (.int (1 : Int32)), .unset] [(.int (p4 &&& (8 : Int32)))]))
          by_cases hc242 : (p4 &&& (8 : Int32)) = (0 : Int32)
          · refine own_step (fun _ k => XS.ifYes X223.here hx rfl (pc0 := 83) (pc' := 90) rfl (hb hby at_83) rfl ((if0 _ _).trans (teq hc242).1) (by decide) (by decide) k) ?_
            show own_Fin p e below s _ _ _ (T223.setTop (mkF m 90 #[.val (.int p0), .val (.int p1), .val (.int p2), .val (.int p3), .val (.int p4), .val (.int p0), .val (.int p3), .val (.ref b200), .val (.ref b214), .val (.int (1 : Int32)), .unset] []))
            refine own_step (fun _ k => XS.iloadN X223.here hx rfl (hb hby at_90) rfl k) ?_
            show own_Fin p e below s _ _ _ (T223.setTop (mkF m 91 #[.val (.int p0), .val (.int p1), .val (.int p2), .val (.int p3), .val (.int p4), .val (.int p0), .val (.int p3), .val (.ref b200), .val (.ref b214), .val (.int (1 : Int32)), .unset] [(.int p0)]))
            obtain ⟨_, _, ⟨T243, L243, k243, n243⟩, -, X243, ⟨Lc243, hQ243, l243, y243, z243⟩, st243⟩ := Jvm.LawKit.callS X223 hx (y := own_y5) hown (mvT hZ (own_w hw 25 rfl)) (mvT hZ (own_w hw 26 rfl)) (mvT hZ (own_w hw 27 rfl)) (mvT hZ (own_w hw 28 rfl)) (by decide) (backOf (W := 0) (own_rm5 l Z a0 hw hs [] p0 s_cache cl_cache T223.heap n0 Z223 G227 G228 G229 Bx) hZ (own_w hw 28 rfl) (own_w hw 27 rfl) (by decide) (by decide)) (g := (mkF m 91 #[.val (.int p0), .val (.int p1), .val (.int p2), .val (.int p3), .val (.int p4), .val (.int p0), .val (.int p3), .val (.ref b200), .val (.ref b214), .val (.int (1 : Int32)), .unset] [(.int p0)])) rfl (by rw [hml]; rfl) (argsL := [(.int p0)]) (rest := []) (lenOf own_pd4 rfl) rfl (by show 2 * 0 + _ ≤ _; exact Nat.le_of_eq rfl) (hb hby at_91) (fun _ _ => ⟨rfl, rfl, (by decide : 2 + 1 ≤ _), (by decide : 4 + 1 ≤ _)⟩)
            dsimp only [Pt.U, Pt.locs, Pt.cells, Pt.slots] at X243 l243 y243 z243 st243 hQ243
            subst l243 y243 z243
            obtain ⟨N243q, K243q, b243_o0, rfl, G244⟩ := hQ243
            have N243 := Fr.app N223 N243q
            have K243 : Keep h0 T243.heap [] := K223.trans K243q all0
            have Z243 : n0 ≤ T243.heap.size := Nat.le_trans Z223 K243q.1
            have G245 := (G227.keep K243q all0)
            have G246 := (own_sta_keep0 G228 K243q)
            have G247 := (own_sta_keep0 G229 K243q)
            have G248 := (G230.keep K243q)
            have G249 := (G231.keep K243q nin0)
            have G250 := (G232.keep K243q nin0)
            have G251 := (G224.keep K243q)
            have G252 := (G225.keep K243q nin0)
            have G253 := (G226.keep K243q nin0)
            refine own_step (fun _ k => st243 _ k) ?_
            show own_Fin p e below s _ _ _ (T243.setTop (mkF m 94 #[.val (.int p0), .val (.int p1), .val (.int p2), .val (.int p3), .val (.int p4), .val (.int p0), .val (.int p3), .val (.ref b200), .val (.ref b214), .val (.int (1 : Int32)), .unset] [(.ref b243_o0)]))
            refine own_step (fun _ k => XS.astore X243.here hx rfl (hb hby at_94) rfl rfl (l' := #[.val (.int p0), .val (.int p1), .val (.int p2), .val (.int p3), .val (.int p4), .val (.int p0), .val (.int p3), .val (.ref b200), .val (.ref b214), .val (.int (1 : Int32)), .val (.ref b243_o0)]) rfl k) ?_
            show own_Fin p e below s _ _ _ (T243.setTop (mkF m 96 #[.val (.int p0), .val (.int p1), .val (.int p2), .val (.int p3), .val (.int p4), .val (.int p0), .val (.int p3), .val (.ref b200), .val (.ref b214), .val (.int (1 : Int32)), .val (.ref b243_o0)] []))
            refine own_step (fun _ k => XS.aload X243.here hx rfl (hb hby at_96) rfl rfl k) ?_
            show own_Fin p e below s _ _ _ (T243.setTop (mkF m 98 #[.val (.int p0), .val (.int p1), .val (.int p2), .val (.int p3), .val (.int p4), .val (.int p0), .val (.int p3), .val (.ref b200), .val (.ref b214), .val (.int (1 : Int32)), .val (.ref b243_o0)] [(.ref b200)]))
            refine own_step (fun _ k => XS.aload X243.here hx rfl (hb hby at_98) rfl rfl k) ?_
            show own_Fin p e below s _ _ _ (T243.setTop (mkF m 100 #[.val (.int p0), .val (.int p1), .val (.int p2), .val (.int p3), .val (.int p4), .val (.int p0), .val (.int p3), .val (.ref b200), .val (.ref b214), .val (.int (1 : Int32)), .val (.ref b243_o0)] [(.ref b243_o0), (.ref b200)]))
            obtain ⟨cq254, kq254, q254a, q254b, q254c⟩ := isOf hZ rfl G248
            obtain ⟨_, _, ⟨T254, L254, k254, n254⟩, -, X254, ⟨Lc254, hQ254, l254, y254, z254⟩, st254⟩ := X243.virtualBack hx (y := own_y4) (z := own_y4) hown (mvT hZ (own_w hw 18 rfl)) (mvT hZ (own_w hw 19 rfl)) (notFace_of_selects (args := #[]) (mvT hZ (own_w hw 21 rfl))) (mvT hZ (own_w hw 21 rfl)) (mvT hZ (own_w hw 20 rfl)) (by decide) (backOf (W := 0) (own_rm7 l Z a0 hw hs [] b200 b243_o0 T243.heap n0 Z243 G244) hZ (own_w hw 22 rfl) (own_w hw 2 rfl) (by decide) (by decide)) q254a q254c (g := (mkF m 100 #[.val (.int p0), .val (.int p1), .val (.int p2), .val (.int p3), .val (.int p4), .val (.int p0), .val (.int p3), .val (.ref b200), .val (.ref b214), .val (.int (1 : Int32)), .val (.ref b243_o0)] [(.ref b243_o0), (.ref b200)])) rfl (by rw [hml]; rfl) (Steps.refl _) (argsL := [(.ref b243_o0)]) (rest := []) (lenOf own_pd3 rfl) rfl (by show 2 * 0 + _ ≤ _; exact Nat.le_of_eq rfl) (hb hby at_100) (fun _ _ => ⟨rfl, rfl, (by decide : 3 + 0 ≤ _), (by decide : 5 + 0 ≤ _)⟩)
            dsimp only [Pt.U, Pt.locs, Pt.cells, Pt.slots] at X254 l254 y254 z254 st254 hQ254
            subst l254 y254 z254
            obtain ⟨rfl, N254q, e254⟩ := hQ254
            have N254 := Fr.app N243 N254q
            refine own_step (fun _ k => st254.trans k) ?_
            show own_Fin p e below s _ _ _ (T254.setTop (mkF m 103 #[.val (.int p0), .val (.int p1), .val (.int p2), .val (.int p3), .val (.int p4), .val (.int p0), .val (.int p3), .val (.ref b200), .val (.ref b214), .val (.int (1 : Int32)), .val (.ref b243_o0)] [(.int (0 : Int32))]))
            refine own_step (fun _ k => XS.ifNo X254.here hx rfl (hb hby at_103) rfl ((if0 _ _).trans (teq (by decide : (0 : Int32) = (0 : Int32))).2) k) ?_
            show own_Fin p e below s _ _ _ (T254.setTop (mkF m 106 #[.val (.int p0), .val (.int p1), .val (.int p2), .val (.int p3), .val (.int p4), .val (.int p0), .val (.int p3), .val (.ref b200), .val (.ref b214), .val (.int (1 : Int32)), .val (.ref b243_o0)] []))
            refine own_step (fun _ k => XS.aload X254.here hx rfl (hb hby at_106) rfl rfl k) ?_
            show own_Fin p e below s _ _ _ (T254.setTop (mkF m 108 #[.val (.int p0), .val (.int p1), .val (.int p2), .val (.int p3), .val (.int p4), .val (.int p0), .val (.int p3), .val (.ref b200), .val (.ref b214), .val (.int (1 : Int32)), .val (.ref b243_o0)] [(.ref b200)]))
            refine own_step (fun _ k => XS.aload X254.here hx rfl (hb hby at_108) rfl rfl k) ?_
            show own_Fin p e below s _ _ _ (T254.setTop (mkF m 110 #[.val (.int p0), .val (.int p1), .val (.int p2), .val (.int p3), .val (.int p4), .val (.int p0), .val (.int p3), .val (.ref b200), .val (.ref b214), .val (.int (1 : Int32)), .val (.ref b243_o0)] [(.ref b200), (.ref b200)]))
            obtain ⟨cq255, kq255, q255a, q255b, q255c⟩ := isOf hZ e254 G248
            obtain ⟨_, _, ⟨T255, L255, k255, n255⟩, -, X255, ⟨Lc255, hQ255, l255, y255, z255⟩, st255⟩ := X254.virtualBack hx (y := own_y4) (z := own_y4) hown (mvT hZ (own_w hw 18 rfl)) (mvT hZ (own_w hw 19 rfl)) (notFace_of_selects (args := #[]) (mvT hZ (own_w hw 21 rfl))) (mvT hZ (own_w hw 21 rfl)) (mvT hZ (own_w hw 20 rfl)) (by decide) (backOf (W := 0) (own_rm8 l Z a0 hw hs [] b200 b200 p0 p0 p1 p1 T243.heap n0 Z243 G248 G249 G249 G250 G250) hZ (own_w hw 22 rfl) (own_w hw 2 rfl) (by decide) (by decide)) q255a q255c (g := (mkF m 110 #[.val (.int p0), .val (.int p1), .val (.int p2), .val (.int p3), .val (.int p4), .val (.int p0), .val (.int p3), .val (.ref b200), .val (.ref b214), .val (.int (1 : Int32)), .val (.ref b243_o0)] [(.ref b200), (.ref b200)])) rfl (by rw [hml]; rfl) (Steps.refl _) (argsL := [(.ref b200)]) (rest := []) (lenOf own_pd3 rfl) rfl (by show 2 * 0 + _ ≤ _; exact Nat.le_of_eq rfl) (hb hby at_110) (fun _ _ => ⟨rfl, e254, (by decide : 3 + 0 ≤ _), (by decide : 5 + 0 ≤ _)⟩)
            dsimp only [Pt.U, Pt.locs, Pt.cells, Pt.slots] at X255 l255 y255 z255 st255 hQ255
            subst l255 y255 z255
            obtain ⟨rfl, N255q, e255⟩ := hQ255
            have N255 := Fr.app N254 N255q
            refine own_step (fun _ k => st255.trans k) ?_
            show own_Fin p e below s _ _ _ (T255.setTop (mkF m 113 #[.val (.int p0), .val (.int p1), .val (.int p2), .val (.int p3), .val (.int p4), .val (.int p0), .val (.int p3), .val (.ref b200), .val (.ref b214), .val (.int (1 : Int32)), .val (.ref b243_o0)] [(.int (own_r8 p0 p0 p1 p1))]))
            have hf256 : ¬ ((own_r8 p0 p0 p1 p1) = (0 : Int32)) := by rw [show (own_r8 p0 p0 p1 p1) = (1 : Int32) from by rw [own_r8, if_pos (rfl), if_pos (rfl)]]; decide
            refine own_step (fun _ k => XS.ifNo X255.here hx rfl (hb hby at_113) rfl ((if0 _ _).trans (feq hf256).1) k) ?_
            show own_Fin p e below s _ _ _ (T255.setTop (mkF m 116 #[.val (.int p0), .val (.int p1), .val (.int p2), .val (.int p3), .val (.int p4), .val (.int p0), .val (.int p3), .val (.ref b200), .val (.ref b214), .val (.int (1 : Int32)), .val (.ref b243_o0)] []))
            refine own_step (fun _ k => XS.iconst X255.here hx rfl (hb hby at_116) k) ?_
            show own_Fin p e below s _ _ _ (T255.setTop (mkF m 117 #[.val (.int p0), .val (.int p1), .val (.int p2), .val (.int p3), .val (.int p4), .val (.int p0), .val (.int p3), .val (.ref b200), .val (.ref b214), .val (.int (1 : Int32)), .val (.ref b243_o0)] [(.int (1 : Int32))]))
            refine own_step (fun _ k => XS.goto X255.here hx rfl (pc0 := 117) (pc' := 121) rfl (hb hby at_117) (by decide) (by decide) k) ?_
            show own_Fin p e below s _ _ _ (T255.setTop (mkF m 121 #[.val (.int p0), .val (.int p1), .val (.int p2), .val (.int p3), .val (.int p4), .val (.int p0), .val (.int p3), .val (.ref b200), .val (.ref b214), .val (.int (1 : Int32)), .val (.ref b243_o0)] [(.int (1 : Int32))]))
            exact own_ret X255 hlk (v := some (.int (1 : Int32))) (fun h => by rw [Bd.returns] at h; cases h) (by decide) (by decide) (by show own_Q9 Z p0 p1 p2 p3 p4 s_cache cl_cache h0 n0 _ T255.heap _; rw [e255]; exact ⟨rfl, N255⟩) (fun fs hr => retN X255 hx (t := .boolean) Bd.returns (by simp) (hb hby at_121) hr)
          · refine own_step (fun _ k => XS.ifNo X223.here hx rfl (hb hby at_83) rfl ((if0 _ _).trans (feq hc242).1) k) ?_
            show own_Fin p e below s _ _ _ (T223.setTop (mkF m 86 #[.val (.int p0), .val (.int p1), .val (.int p2), .val (.int p3), .val (.int p4), .val (.int p0), .val (.int p3), .val (.ref b200), .val (.ref b214), .val (.int (1 : Int32)), .unset] []))
            refine own_step (fun _ k => XS.aconstNull X223.here hx rfl (hb hby at_86) k) ?_
            show own_Fin p e below s _ _ _ (T223.setTop (mkF m 87 #[.val (.int p0), .val (.int p1), .val (.int p2), .val (.int p3), .val (.int p4), .val (.int p0), .val (.int p3), .val (.ref b200), .val (.ref b214), .val (.int (1 : Int32)), .unset] [.null]))
            refine own_step (fun _ k => XS.goto X223.here hx rfl (pc0 := 87) (pc' := 94) rfl (hb hby at_87) (by decide) (by decide) k) ?_
            show own_Fin p e below s _ _ _ (T223.setTop (mkF m 94 #[.val (.int p0), .val (.int p1), .val (.int p2), .val (.int p3), .val (.int p4), .val (.int p0), .val (.int p3), .val (.ref b200), .val (.ref b214), .val (.int (1 : Int32)), .unset] [.null]))
            refine own_step (fun _ k => XS.astore X223.here hx rfl (hb hby at_94) rfl rfl (l' := #[.val (.int p0), .val (.int p1), .val (.int p2), .val (.int p3), .val (.int p4), .val (.int p0), .val (.int p3), .val (.ref b200), .val (.ref b214), .val (.int (1 : Int32)), .val .null]) rfl k) ?_
            show own_Fin p e below s _ _ _ (T223.setTop (mkF m 96 #[.val (.int p0), .val (.int p1), .val (.int p2), .val (.int p3), .val (.int p4), .val (.int p0), .val (.int p3), .val (.ref b200), .val (.ref b214), .val (.int (1 : Int32)), .val .null] []))
            refine own_step (fun _ k => XS.aload X223.here hx rfl (hb hby at_96) rfl rfl k) ?_
            show own_Fin p e below s _ _ _ (T223.setTop (mkF m 98 #[.val (.int p0), .val (.int p1), .val (.int p2), .val (.int p3), .val (.int p4), .val (.int p0), .val (.int p3), .val (.ref b200), .val (.ref b214), .val (.int (1 : Int32)), .val .null] [(.ref b200)]))
            refine own_step (fun _ k => XS.aload X223.here hx rfl (hb hby at_98) rfl rfl k) ?_
            show own_Fin p e below s _ _ _ (T223.setTop (mkF m 100 #[.val (.int p0), .val (.int p1), .val (.int p2), .val (.int p3), .val (.int p4), .val (.int p0), .val (.int p3), .val (.ref b200), .val (.ref b214), .val (.int (1 : Int32)), .val .null] [.null, (.ref b200)]))
            obtain ⟨cq257, kq257, q257a, q257b, q257c⟩ := isOf hZ rfl G230
            obtain ⟨_, _, ⟨T257, L257, k257, n257⟩, -, X257, ⟨Lc257, hQ257, l257, y257, z257⟩, st257⟩ := X223.virtualBack hx (y := own_y4) (z := own_y4) hown (mvT hZ (own_w hw 18 rfl)) (mvT hZ (own_w hw 19 rfl)) (notFace_of_selects (args := #[]) (mvT hZ (own_w hw 21 rfl))) (mvT hZ (own_w hw 21 rfl)) (mvT hZ (own_w hw 20 rfl)) (by decide) (backOf (W := 0) (own_rm6 l Z a0 hw hs [] b200 T223.heap n0 Z223 ) hZ (own_w hw 22 rfl) (own_w hw 2 rfl) (by decide) (by decide)) q257a q257c (g := (mkF m 100 #[.val (.int p0), .val (.int p1), .val (.int p2), .val (.int p3), .val (.int p4), .val (.int p0), .val (.int p3), .val (.ref b200), .val (.ref b214), .val (.int (1 : Int32)), .val .null] [.null, (.ref b200)])) rfl (by rw [hml]; rfl) (Steps.refl _) (argsL := [.null]) (rest := []) (lenOf own_pd3 rfl) rfl (by show 2 * 0 + _ ≤ _; exact Nat.le_of_eq rfl) (hb hby at_100) (fun _ _ => ⟨rfl, rfl, (by decide : 2 + 0 ≤ _), (by decide : 4 + 0 ≤ _)⟩)
            dsimp only [Pt.U, Pt.locs, Pt.cells, Pt.slots] at X257 l257 y257 z257 st257 hQ257
            subst l257 y257 z257
            obtain ⟨rfl, N257q, e257⟩ := hQ257
            have N257 := Fr.app N223 N257q
            refine own_step (fun _ k => st257.trans k) ?_
            show own_Fin p e below s _ _ _ (T257.setTop (mkF m 103 #[.val (.int p0), .val (.int p1), .val (.int p2), .val (.int p3), .val (.int p4), .val (.int p0), .val (.int p3), .val (.ref b200), .val (.ref b214), .val (.int (1 : Int32)), .val .null] [(.int (0 : Int32))]))
            refine own_step (fun _ k => XS.ifNo X257.here hx rfl (hb hby at_103) rfl ((if0 _ _).trans (teq (by decide : (0 : Int32) = (0 : Int32))).2) k) ?_
            show own_Fin p e below s _ _ _ (T257.setTop (mkF m 106 #[.val (.int p0), .val (.int p1), .val (.int p2), .val (.int p3), .val (.int p4), .val (.int p0), .val (.int p3), .val (.ref b200), .val (.ref b214), .val (.int (1 : Int32)), .val .null] []))
            refine own_step (fun _ k => XS.aload X257.here hx rfl (hb hby at_106) rfl rfl k) ?_
            show own_Fin p e below s _ _ _ (T257.setTop (mkF m 108 #[.val (.int p0), .val (.int p1), .val (.int p2), .val (.int p3), .val (.int p4), .val (.int p0), .val (.int p3), .val (.ref b200), .val (.ref b214), .val (.int (1 : Int32)), .val .null] [(.ref b200)]))
            refine own_step (fun _ k => XS.aload X257.here hx rfl (hb hby at_108) rfl rfl k) ?_
            show own_Fin p e below s _ _ _ (T257.setTop (mkF m 110 #[.val (.int p0), .val (.int p1), .val (.int p2), .val (.int p3), .val (.int p4), .val (.int p0), .val (.int p3), .val (.ref b200), .val (.ref b214), .val (.int (1 : Int32)), .val .null] [(.ref b200), (.ref b200)]))
            obtain ⟨cq258, kq258, q258a, q258b, q258c⟩ := isOf hZ e257 G230
            obtain ⟨_, _, ⟨T258, L258, k258, n258⟩, -, X258, ⟨Lc258, hQ258, l258, y258, z258⟩, st258⟩ := X257.virtualBack hx (y := own_y4) (z := own_y4) hown (mvT hZ (own_w hw 18 rfl)) (mvT hZ (own_w hw 19 rfl)) (notFace_of_selects (args := #[]) (mvT hZ (own_w hw 21 rfl))) (mvT hZ (own_w hw 21 rfl)) (mvT hZ (own_w hw 20 rfl)) (by decide) (backOf (W := 0) (own_rm8 l Z a0 hw hs [] b200 b200 p0 p0 p1 p1 T223.heap n0 Z223 G230 G231 G231 G232 G232) hZ (own_w hw 22 rfl) (own_w hw 2 rfl) (by decide) (by decide)) q258a q258c (g := (mkF m 110 #[.val (.int p0), .val (.int p1), .val (.int p2), .val (.int p3), .val (.int p4), .val (.int p0), .val (.int p3), .val (.ref b200), .val (.ref b214), .val (.int (1 : Int32)), .val .null] [(.ref b200), (.ref b200)])) rfl (by rw [hml]; rfl) (Steps.refl _) (argsL := [(.ref b200)]) (rest := []) (lenOf own_pd3 rfl) rfl (by show 2 * 0 + _ ≤ _; exact Nat.le_of_eq rfl) (hb hby at_110) (fun _ _ => ⟨rfl, e257, (by decide : 2 + 0 ≤ _), (by decide : 4 + 0 ≤ _)⟩)
            dsimp only [Pt.U, Pt.locs, Pt.cells, Pt.slots] at X258 l258 y258 z258 st258 hQ258
            subst l258 y258 z258
            obtain ⟨rfl, N258q, e258⟩ := hQ258
            have N258 := Fr.app N257 N258q
            refine own_step (fun _ k => st258.trans k) ?_
            show own_Fin p e below s _ _ _ (T258.setTop (mkF m 113 #[.val (.int p0), .val (.int p1), .val (.int p2), .val (.int p3), .val (.int p4), .val (.int p0), .val (.int p3), .val (.ref b200), .val (.ref b214), .val (.int (1 : Int32)), .val .null] [(.int (own_r8 p0 p0 p1 p1))]))
            have hf259 : ¬ ((own_r8 p0 p0 p1 p1) = (0 : Int32)) := by rw [show (own_r8 p0 p0 p1 p1) = (1 : Int32) from by rw [own_r8, if_pos (rfl), if_pos (rfl)]]; decide
            refine own_step (fun _ k => XS.ifNo X258.here hx rfl (hb hby at_113) rfl ((if0 _ _).trans (feq hf259).1) k) ?_
            show own_Fin p e below s _ _ _ (T258.setTop (mkF m 116 #[.val (.int p0), .val (.int p1), .val (.int p2), .val (.int p3), .val (.int p4), .val (.int p0), .val (.int p3), .val (.ref b200), .val (.ref b214), .val (.int (1 : Int32)), .val .null] []))
            refine own_step (fun _ k => XS.iconst X258.here hx rfl (hb hby at_116) k) ?_
            show own_Fin p e below s _ _ _ (T258.setTop (mkF m 117 #[.val (.int p0), .val (.int p1), .val (.int p2), .val (.int p3), .val (.int p4), .val (.int p0), .val (.int p3), .val (.ref b200), .val (.ref b214), .val (.int (1 : Int32)), .val .null] [(.int (1 : Int32))]))
            refine own_step (fun _ k => XS.goto X258.here hx rfl (pc0 := 117) (pc' := 121) rfl (hb hby at_117) (by decide) (by decide) k) ?_
            show own_Fin p e below s _ _ _ (T258.setTop (mkF m 121 #[.val (.int p0), .val (.int p1), .val (.int p2), .val (.int p3), .val (.int p4), .val (.int p0), .val (.int p3), .val (.ref b200), .val (.ref b214), .val (.int (1 : Int32)), .val .null] [(.int (1 : Int32))]))
            exact own_ret X258 hlk (v := some (.int (1 : Int32))) (fun h => by rw [Bd.returns] at h; cases h) (by decide) (by decide) (by show own_Q9 Z p0 p1 p2 p3 p4 s_cache cl_cache h0 n0 _ T258.heap _; rw [e258]; exact ⟨rfl, N258⟩) (fun fs hr => retN X258 hx (t := .boolean) Bd.returns (by simp) (hb hby at_121) hr)
      · refine own_step (fun _ k => XS.icmpYes X223.here hx rfl (pc0 := 61) (pc' := 68) rfl (hb hby at_61) rfl (feq hc234).2 (by decide) (by decide) k) ?_
        show own_Fin p e below s _ _ _ (T223.setTop (mkF m 68 #[.val (.int p0), .val (.int p1), .val (.int p2), .val (.int p3), .val (.int p4), .val (.int p0), .val (.int p3), .val (.ref b200), .val (.ref b214), .unset, .unset] []))
        refine own_step (fun _ k => XS.iconst X223.here hx rfl (hb hby at_68) k) ?_
        show own_Fin p e below s _ _ _ (T223.setTop (mkF m 69 #[.val (.int p0), .val (.int p1), .val (.int p2), .val (.int p3), .val (.int p4), .val (.int p0), .val (.int p3), .val (.ref b200), .val (.ref b214), .unset, .unset] [(.int (0 : Int32))]))
        refine own_step (fun _ k => XS.istore X223.here hx rfl (hb hby at_69) rfl (l' := #[.val (.int p0), .val (.int p1), .val (.int p2), .val (.int p3), .val (.int p4), .val (.int p0), .val (.int p3), .val (.ref b200), .val (.ref b214), .val (.int (0 : Int32)), .unset]) rfl k) ?_
        show own_Fin p e below s _ _ _ (T223.setTop (mkF m 71 #[.val (.int p0), .val (.int p1), .val (.int p2), .val (.int p3), .val (.int p4), .val (.int p0), .val (.int p3), .val (.ref b200), .val (.ref b214), .val (.int (0 : Int32)), .unset] []))
        refine own_step (fun _ k => XS.iload X223.here hx rfl (hb hby at_71) rfl k) ?_
        show own_Fin p e below s _ _ _ (T223.setTop (mkF m 73 #[.val (.int p0), .val (.int p1), .val (.int p2), .val (.int p3), .val (.int p4), .val (.int p0), .val (.int p3), .val (.ref b200), .val (.ref b214), .val (.int (0 : Int32)), .unset] [(.int p4)]))
        refine own_step (fun _ k => XS.iconst X223.here hx rfl (hb hby at_73) k) ?_
        show own_Fin p e below s _ _ _ (T223.setTop (mkF m 74 #[.val (.int p0), .val (.int p1), .val (.int p2), .val (.int p3), .val (.int p4), .val (.int p0), .val (.int p3), .val (.ref b200), .val (.ref b214), .val (.int (0 : Int32)), .unset] [(.int (4 : Int32)), (.int p4)]))
        refine own_step (fun _ k => XS.iand X223.here hx rfl (hb hby at_74) rfl k) ?_
        show own_Fin p e below s _ _ _ (T223.setTop (mkF m 75 #[.val (.int p0), .val (.int p1), .val (.int p2), .val (.int p3), .val (.int p4), .val (.int p0), .val (.int p3), .val (.ref b200), .val (.ref b214), .val (.int (0 : Int32)), .unset] [(.int (p4 &&& (4 : Int32)))]))
        by_cases hc260 : (p4 &&& (4 : Int32)) = (0 : Int32)
        · refine own_step (fun _ k => XS.ifYes X223.here hx rfl (pc0 := 75) (pc' := 122) rfl (hb hby at_75) rfl ((if0 _ _).trans (teq hc260).1) (by decide) (by decide) k) ?_
          show own_Fin p e below s _ _ _ (T223.setTop (mkF m 122 #[.val (.int p0), .val (.int p1), .val (.int p2), .val (.int p3), .val (.int p4), .val (.int p0), .val (.int p3), .val (.ref b200), .val (.ref b214), .val (.int (0 : Int32)), .unset] []))
          refine own_step (fun _ k => XS.aload X223.here hx rfl (hb hby at_122) rfl rfl k) ?_
          show own_Fin p e below s _ _ _ (T223.setTop (mkF m 124 #[.val (.int p0), .val (.int p1), .val (.int p2), .val (.int p3), .val (.int p4), .val (.int p0), .val (.int p3), .val (.ref b200), .val (.ref b214), .val (.int (0 : Int32)), .unset] [(.ref b200)]))
          refine own_step (fun _ k => XS.aload X223.here hx rfl (hb hby at_124) rfl rfl k) ?_
          show own_Fin p e below s _ _ _ (T223.setTop (mkF m 126 #[.val (.int p0), .val (.int p1), .val (.int p2), .val (.int p3), .val (.int p4), .val (.int p0), .val (.int p3), .val (.ref b200), .val (.ref b214), .val (.int (0 : Int32)), .unset] [(.ref b214), (.ref b200)]))
          obtain ⟨cq261, kq261, q261a, q261b, q261c⟩ := isOf hZ rfl G230
          obtain ⟨_, _, ⟨T261, L261, k261, n261⟩, -, X261, ⟨Lc261, hQ261, l261, y261, z261⟩, st261⟩ := X223.virtualBack hx (y := own_y4) (z := own_y4) hown (mvT hZ (own_w hw 18 rfl)) (mvT hZ (own_w hw 19 rfl)) (notFace_of_selects (args := #[]) (mvT hZ (own_w hw 21 rfl))) (mvT hZ (own_w hw 21 rfl)) (mvT hZ (own_w hw 20 rfl)) (by decide) (backOf (W := 0) (own_rm8 l Z a0 hw hs [] b200 b214 p0 p0 p3 p1 T223.heap n0 Z223 G224 G225 G231 G226 G232) hZ (own_w hw 22 rfl) (own_w hw 2 rfl) (by decide) (by decide)) q261a q261c (g := (mkF m 126 #[.val (.int p0), .val (.int p1), .val (.int p2), .val (.int p3), .val (.int p4), .val (.int p0), .val (.int p3), .val (.ref b200), .val (.ref b214), .val (.int (0 : Int32)), .unset] [(.ref b214), (.ref b200)])) rfl (by rw [hml]; rfl) (Steps.refl _) (argsL := [(.ref b214)]) (rest := []) (lenOf own_pd3 rfl) rfl (by show 2 * 0 + _ ≤ _; exact Nat.le_of_eq rfl) (hb hby at_126) (fun _ _ => ⟨rfl, rfl, (by decide : 2 + 0 ≤ _), (by decide : 4 + 0 ≤ _)⟩)
          dsimp only [Pt.U, Pt.locs, Pt.cells, Pt.slots] at X261 l261 y261 z261 st261 hQ261
          subst l261 y261 z261
          obtain ⟨rfl, N261q, e261⟩ := hQ261
          have N261 := Fr.app N223 N261q
          refine own_step (fun _ k => st261.trans k) ?_
          show own_Fin p e below s _ _ _ (T261.setTop (mkF m 129 #[.val (.int p0), .val (.int p1), .val (.int p2), .val (.int p3), .val (.int p4), .val (.int p0), .val (.int p3), .val (.ref b200), .val (.ref b214), .val (.int (0 : Int32)), .unset] [(.int (own_r8 p0 p0 p3 p1))]))
          refine own_step (fun _ k => XS.iload X261.here hx rfl (hb hby at_129) rfl k) ?_
          show own_Fin p e below s _ _ _ (T261.setTop (mkF m 131 #[.val (.int p0), .val (.int p1), .val (.int p2), .val (.int p3), .val (.int p4), .val (.int p0), .val (.int p3), .val (.ref b200), .val (.ref b214), .val (.int (0 : Int32)), .unset] [(.int (0 : Int32)), (.int (own_r8 p0 p0 p3 p1))]))
          have hf262 : (own_r8 p0 p0 p3 p1) = (0 : Int32) := by rw [own_r8, if_pos (rfl), if_neg ((fun q => hc234 q.symm))]
          refine own_step (fun _ k => XS.icmpNo X261.here hx rfl (hb hby at_131) rfl (teq hf262).2 k) ?_
          show own_Fin p e below s _ _ _ (T261.setTop (mkF m 134 #[.val (.int p0), .val (.int p1), .val (.int p2), .val (.int p3), .val (.int p4), .val (.int p0), .val (.int p3), .val (.ref b200), .val (.ref b214), .val (.int (0 : Int32)), .unset] []))
          refine own_step (fun _ k => XS.aload X261.here hx rfl (hb hby at_134) rfl rfl k) ?_
          show own_Fin p e below s _ _ _ (T261.setTop (mkF m 136 #[.val (.int p0), .val (.int p1), .val (.int p2), .val (.int p3), .val (.int p4), .val (.int p0), .val (.int p3), .val (.ref b200), .val (.ref b214), .val (.int (0 : Int32)), .unset] [(.ref b214)]))
          refine own_step (fun _ k => XS.aload X261.here hx rfl (hb hby at_136) rfl rfl k) ?_
          show own_Fin p e below s _ _ _ (T261.setTop (mkF m 138 #[.val (.int p0), .val (.int p1), .val (.int p2), .val (.int p3), .val (.int p4), .val (.int p0), .val (.int p3), .val (.ref b200), .val (.ref b214), .val (.int (0 : Int32)), .unset] [(.ref b200), (.ref b214)]))
          obtain ⟨cq263, kq263, q263a, q263b, q263c⟩ := isOf hZ e261 G224
          obtain ⟨_, _, ⟨T263, L263, k263, n263⟩, -, X263, ⟨Lc263, hQ263, l263, y263, z263⟩, st263⟩ := X261.virtualBack hx (y := own_y4) (z := own_y4) hown (mvT hZ (own_w hw 18 rfl)) (mvT hZ (own_w hw 19 rfl)) (notFace_of_selects (args := #[]) (mvT hZ (own_w hw 21 rfl))) (mvT hZ (own_w hw 21 rfl)) (mvT hZ (own_w hw 20 rfl)) (by decide) (backOf (W := 0) (own_rm8 l Z a0 hw hs [] b214 b200 p0 p0 p1 p3 T223.heap n0 Z223 G230 G231 G225 G232 G226) hZ (own_w hw 22 rfl) (own_w hw 2 rfl) (by decide) (by decide)) q263a q263c (g := (mkF m 138 #[.val (.int p0), .val (.int p1), .val (.int p2), .val (.int p3), .val (.int p4), .val (.int p0), .val (.int p3), .val (.ref b200), .val (.ref b214), .val (.int (0 : Int32)), .unset] [(.ref b200), (.ref b214)])) rfl (by rw [hml]; rfl) (Steps.refl _) (argsL := [(.ref b200)]) (rest := []) (lenOf own_pd3 rfl) rfl (by show 2 * 0 + _ ≤ _; exact Nat.le_of_eq rfl) (hb hby at_138) (fun _ _ => ⟨rfl, e261, (by decide : 2 + 0 ≤ _), (by decide : 4 + 0 ≤ _)⟩)
          dsimp only [Pt.U, Pt.locs, Pt.cells, Pt.slots] at X263 l263 y263 z263 st263 hQ263
          subst l263 y263 z263
          obtain ⟨rfl, N263q, e263⟩ := hQ263
          have N263 := Fr.app N261 N263q
          refine own_step (fun _ k => st263.trans k) ?_
          show own_Fin p e below s _ _ _ (T263.setTop (mkF m 141 #[.val (.int p0), .val (.int p1), .val (.int p2), .val (.int p3), .val (.int p4), .val (.int p0), .val (.int p3), .val (.ref b200), .val (.ref b214), .val (.int (0 : Int32)), .unset] [(.int (own_r8 p0 p0 p1 p3))]))
          refine own_step (fun _ k => XS.iload X263.here hx rfl (hb hby at_141) rfl k) ?_
          show own_Fin p e below s _ _ _ (T263.setTop (mkF m 143 #[.val (.int p0), .val (.int p1), .val (.int p2), .val (.int p3), .val (.int p4), .val (.int p0), .val (.int p3), .val (.ref b200), .val (.ref b214), .val (.int (0 : Int32)), .unset] [(.int (0 : Int32)), (.int (own_r8 p0 p0 p1 p3))]))
          have hf264 : (own_r8 p0 p0 p1 p3) = (0 : Int32) := by rw [own_r8, if_pos (rfl), if_neg (hc234)]
          refine own_step (fun _ k => XS.icmpNo X263.here hx rfl (hb hby at_143) rfl (teq hf264).2 k) ?_
          show own_Fin p e below s _ _ _ (T263.setTop (mkF m 146 #[.val (.int p0), .val (.int p1), .val (.int p2), .val (.int p3), .val (.int p4), .val (.int p0), .val (.int p3), .val (.ref b200), .val (.ref b214), .val (.int (0 : Int32)), .unset] []))
          refine own_step (fun _ k => XS.aload X263.here hx rfl (hb hby at_146) rfl rfl k) ?_
          show own_Fin p e below s _ _ _ (T263.setTop (mkF m 148 #[.val (.int p0), .val (.int p1), .val (.int p2), .val (.int p3), .val (.int p4), .val (.int p0), .val (.int p3), .val (.ref b200), .val (.ref b214), .val (.int (0 : Int32)), .unset] [(.ref b200)]))
          refine own_step (fun _ k => XS.aload X263.here hx rfl (hb hby at_148) rfl rfl k) ?_
          show own_Fin p e below s _ _ _ (T263.setTop (mkF m 150 #[.val (.int p0), .val (.int p1), .val (.int p2), .val (.int p3), .val (.int p4), .val (.int p0), .val (.int p3), .val (.ref b200), .val (.ref b214), .val (.int (0 : Int32)), .unset] [(.ref b200), (.ref b200)]))
          obtain ⟨cq265, kq265, q265a, q265b, q265c⟩ := isOf hZ e263 G230
          obtain ⟨_, _, ⟨T265, L265, k265, n265⟩, -, X265, ⟨Lc265, hQ265, l265, y265, z265⟩, st265⟩ := X263.virtualBack hx (y := own_y4) (z := own_y4) hown (mvT hZ (own_w hw 18 rfl)) (mvT hZ (own_w hw 19 rfl)) (notFace_of_selects (args := #[]) (mvT hZ (own_w hw 21 rfl))) (mvT hZ (own_w hw 21 rfl)) (mvT hZ (own_w hw 20 rfl)) (by decide) (backOf (W := 0) (own_rm8 l Z a0 hw hs [] b200 b200 p0 p0 p1 p1 T223.heap n0 Z223 G230 G231 G231 G232 G232) hZ (own_w hw 22 rfl) (own_w hw 2 rfl) (by decide) (by decide)) q265a q265c (g := (mkF m 150 #[.val (.int p0), .val (.int p1), .val (.int p2), .val (.int p3), .val (.int p4), .val (.int p0), .val (.int p3), .val (.ref b200), .val (.ref b214), .val (.int (0 : Int32)), .unset] [(.ref b200), (.ref b200)])) rfl (by rw [hml]; rfl) (Steps.refl _) (argsL := [(.ref b200)]) (rest := []) (lenOf own_pd3 rfl) rfl (by show 2 * 0 + _ ≤ _; exact Nat.le_of_eq rfl) (hb hby at_150) (fun _ _ => ⟨rfl, e263, (by decide : 2 + 0 ≤ _), (by decide : 4 + 0 ≤ _)⟩)
          dsimp only [Pt.U, Pt.locs, Pt.cells, Pt.slots] at X265 l265 y265 z265 st265 hQ265
          subst l265 y265 z265
          obtain ⟨rfl, N265q, e265⟩ := hQ265
          have N265 := Fr.app N263 N265q
          refine own_step (fun _ k => st265.trans k) ?_
          show own_Fin p e below s _ _ _ (T265.setTop (mkF m 153 #[.val (.int p0), .val (.int p1), .val (.int p2), .val (.int p3), .val (.int p4), .val (.int p0), .val (.int p3), .val (.ref b200), .val (.ref b214), .val (.int (0 : Int32)), .unset] [(.int (own_r8 p0 p0 p1 p1))]))
          have hf266 : ¬ ((own_r8 p0 p0 p1 p1) = (0 : Int32)) := by rw [show (own_r8 p0 p0 p1 p1) = (1 : Int32) from by rw [own_r8, if_pos (rfl), if_pos (rfl)]]; decide
          refine own_step (fun _ k => XS.ifNo X265.here hx rfl (hb hby at_153) rfl ((if0 _ _).trans (feq hf266).1) k) ?_
          show own_Fin p e below s _ _ _ (T265.setTop (mkF m 156 #[.val (.int p0), .val (.int p1), .val (.int p2), .val (.int p3), .val (.int p4), .val (.int p0), .val (.int p3), .val (.ref b200), .val (.ref b214), .val (.int (0 : Int32)), .unset] []))
          refine own_step (fun _ k => XS.iconst X265.here hx rfl (hb hby at_156) k) ?_
          show own_Fin p e below s _ _ _ (T265.setTop (mkF m 157 #[.val (.int p0), .val (.int p1), .val (.int p2), .val (.int p3), .val (.int p4), .val (.int p0), .val (.int p3), .val (.ref b200), .val (.ref b214), .val (.int (0 : Int32)), .unset] [(.int (1 : Int32))]))
          refine own_step (fun _ k => XS.goto X265.here hx rfl (pc0 := 157) (pc' := 161) rfl (hb hby at_157) (by decide) (by decide) k) ?_
          show own_Fin p e below s _ _ _ (T265.setTop (mkF m 161 #[.val (.int p0), .val (.int p1), .val (.int p2), .val (.int p3), .val (.int p4), .val (.int p0), .val (.int p3), .val (.ref b200), .val (.ref b214), .val (.int (0 : Int32)), .unset] [(.int (1 : Int32))]))
          exact own_ret X265 hlk (v := some (.int (1 : Int32))) (fun h => by rw [Bd.returns] at h; cases h) (by decide) (by decide) (by show own_Q9 Z p0 p1 p2 p3 p4 s_cache cl_cache h0 n0 _ T265.heap _; rw [e265]; exact ⟨rfl, N265⟩) (fun fs hr => retN X265 hx (t := .boolean) Bd.returns (by simp) (hb hby at_161) hr)
        · refine own_step (fun _ k => XS.ifNo X223.here hx rfl (hb hby at_75) rfl ((if0 _ _).trans (feq hc260).1) k) ?_
          show own_Fin p e below s _ _ _ (T223.setTop (mkF m 78 #[.val (.int p0), .val (.int p1), .val (.int p2), .val (.int p3), .val (.int p4), .val (.int p0), .val (.int p3), .val (.ref b200), .val (.ref b214), .val (.int (0 : Int32)), .unset] []))
          refine own_step (fun _ k => XS.iload X223.here hx rfl (hb hby at_78) rfl k) ?_
          show own_Fin p e below s _ _ _ (T223.setTop (mkF m 80 #[.val (.int p0), .val (.int p1), .val (.int p2), .val (.int p3), .val (.int p4), .val (.int p0), .val (.int p3), .val (.ref b200), .val (.ref b214), .val (.int (0 : Int32)), .unset] [(.int p4)]))
          refine own_step (fun _ k => XS.bipush X223.here hx rfl (hb hby at_80) k) ?_
          show own_Fin p e below s _ _ _ (T223.setTop (mkF m 82 #[.val (.int p0), .val (.int p1), .val (.int p2), .val (.int p3), .val (.int p4), .val (.int p0), .val (.int p3), .val (.ref b200), .val (.ref b214), .val (.int (0 : Int32)), .unset] [(.int (8 : Int32)), (.int p4)]))
          refine own_step (fun _ k => XS.iand X223.here hx rfl (hb hby at_82) rfl k) ?_
          show own_Fin p e below s _ _ _ (T223.setTop (mkF m 83 #[.val (.int p0), .val (.int p1), .val (.int p2), .val (.int p3), .val (.int p4), .val (.int p0), .val (.int p3), .val (.ref b200), .val (.ref b214), .val (.int (0 : Int32)), .unset] [(.int (p4 &&& (8 : Int32)))]))
          by_cases hc267 : (p4 &&& (8 : Int32)) = (0 : Int32)
          · refine own_step (fun _ k => XS.ifYes X223.here hx rfl (pc0 := 83) (pc' := 90) rfl (hb hby at_83) rfl ((if0 _ _).trans (teq hc267).1) (by decide) (by decide) k) ?_
            show own_Fin p e below s _ _ _ (T223.setTop (mkF m 90 #[.val (.int p0), .val (.int p1), .val (.int p2), .val (.int p3), .val (.int p4), .val (.int p0), .val (.int p3), .val (.ref b200), .val (.ref b214), .val (.int (0 : Int32)), .unset] []))
            refine own_step (fun _ k => XS.iloadN X223.here hx rfl (hb hby at_90) rfl k) ?_
            show own_Fin p e below s _ _ _ (T223.setTop (mkF m 91 #[.val (.int p0), .val (.int p1), .val (.int p2), .val (.int p3), .val (.int p4), .val (.int p0), .val (.int p3), .val (.ref b200), .val (.ref b214), .val (.int (0 : Int32)), .unset] [(.int p0)]))
            obtain ⟨_, _, ⟨T268, L268, k268, n268⟩, -, X268, ⟨Lc268, hQ268, l268, y268, z268⟩, st268⟩ := Jvm.LawKit.callS X223 hx (y := own_y5) hown (mvT hZ (own_w hw 25 rfl)) (mvT hZ (own_w hw 26 rfl)) (mvT hZ (own_w hw 27 rfl)) (mvT hZ (own_w hw 28 rfl)) (by decide) (backOf (W := 0) (own_rm5 l Z a0 hw hs [] p0 s_cache cl_cache T223.heap n0 Z223 G227 G228 G229 Bx) hZ (own_w hw 28 rfl) (own_w hw 27 rfl) (by decide) (by decide)) (g := (mkF m 91 #[.val (.int p0), .val (.int p1), .val (.int p2), .val (.int p3), .val (.int p4), .val (.int p0), .val (.int p3), .val (.ref b200), .val (.ref b214), .val (.int (0 : Int32)), .unset] [(.int p0)])) rfl (by rw [hml]; rfl) (argsL := [(.int p0)]) (rest := []) (lenOf own_pd4 rfl) rfl (by show 2 * 0 + _ ≤ _; exact Nat.le_of_eq rfl) (hb hby at_91) (fun _ _ => ⟨rfl, rfl, (by decide : 2 + 1 ≤ _), (by decide : 4 + 1 ≤ _)⟩)
            dsimp only [Pt.U, Pt.locs, Pt.cells, Pt.slots] at X268 l268 y268 z268 st268 hQ268
            subst l268 y268 z268
            obtain ⟨N268q, K268q, b268_o0, rfl, G269⟩ := hQ268
            have N268 := Fr.app N223 N268q
            have K268 : Keep h0 T268.heap [] := K223.trans K268q all0
            have Z268 : n0 ≤ T268.heap.size := Nat.le_trans Z223 K268q.1
            have G270 := (G227.keep K268q all0)
            have G271 := (own_sta_keep0 G228 K268q)
            have G272 := (own_sta_keep0 G229 K268q)
            have G273 := (G230.keep K268q)
            have G274 := (G231.keep K268q nin0)
            have G275 := (G232.keep K268q nin0)
            have G276 := (G224.keep K268q)
            have G277 := (G225.keep K268q nin0)
            have G278 := (G226.keep K268q nin0)
            refine own_step (fun _ k => st268 _ k) ?_
            show own_Fin p e below s _ _ _ (T268.setTop (mkF m 94 #[.val (.int p0), .val (.int p1), .val (.int p2), .val (.int p3), .val (.int p4), .val (.int p0), .val (.int p3), .val (.ref b200), .val (.ref b214), .val (.int (0 : Int32)), .unset] [(.ref b268_o0)]))
            refine own_step (fun _ k => XS.astore X268.here hx rfl (hb hby at_94) rfl rfl (l' := #[.val (.int p0), .val (.int p1), .val (.int p2), .val (.int p3), .val (.int p4), .val (.int p0), .val (.int p3), .val (.ref b200), .val (.ref b214), .val (.int (0 : Int32)), .val (.ref b268_o0)]) rfl k) ?_
            show own_Fin p e below s _ _ _ (T268.setTop (mkF m 96 #[.val (.int p0), .val (.int p1), .val (.int p2), .val (.int p3), .val (.int p4), .val (.int p0), .val (.int p3), .val (.ref b200), .val (.ref b214), .val (.int (0 : Int32)), .val (.ref b268_o0)] []))
            refine own_step (fun _ k => XS.aload X268.here hx rfl (hb hby at_96) rfl rfl k) ?_
            show own_Fin p e below s _ _ _ (T268.setTop (mkF m 98 #[.val (.int p0), .val (.int p1), .val (.int p2), .val (.int p3), .val (.int p4), .val (.int p0), .val (.int p3), .val (.ref b200), .val (.ref b214), .val (.int (0 : Int32)), .val (.ref b268_o0)] [(.ref b200)]))
            refine own_step (fun _ k => XS.aload X268.here hx rfl (hb hby at_98) rfl rfl k) ?_
            show own_Fin p e below s _ _ _ (T268.setTop (mkF m 100 #[.val (.int p0), .val (.int p1), .val (.int p2), .val (.int p3), .val (.int p4), .val (.int p0), .val (.int p3), .val (.ref b200), .val (.ref b214), .val (.int (0 : Int32)), .val (.ref b268_o0)] [(.ref b268_o0), (.ref b200)]))
            obtain ⟨cq279, kq279, q279a, q279b, q279c⟩ := isOf hZ rfl G273
            obtain ⟨_, _, ⟨T279, L279, k279, n279⟩, -, X279, ⟨Lc279, hQ279, l279, y279, z279⟩, st279⟩ := X268.virtualBack hx (y := own_y4) (z := own_y4) hown (mvT hZ (own_w hw 18 rfl)) (mvT hZ (own_w hw 19 rfl)) (notFace_of_selects (args := #[]) (mvT hZ (own_w hw 21 rfl))) (mvT hZ (own_w hw 21 rfl)) (mvT hZ (own_w hw 20 rfl)) (by decide) (backOf (W := 0) (own_rm7 l Z a0 hw hs [] b200 b268_o0 T268.heap n0 Z268 G269) hZ (own_w hw 22 rfl) (own_w hw 2 rfl) (by decide) (by decide)) q279a q279c (g := (mkF m 100 #[.val (.int p0), .val (.int p1), .val (.int p2), .val (.int p3), .val (.int p4), .val (.int p0), .val (.int p3), .val (.ref b200), .val (.ref b214), .val (.int (0 : Int32)), .val (.ref b268_o0)] [(.ref b268_o0), (.ref b200)])) rfl (by rw [hml]; rfl) (Steps.refl _) (argsL := [(.ref b268_o0)]) (rest := []) (lenOf own_pd3 rfl) rfl (by show 2 * 0 + _ ≤ _; exact Nat.le_of_eq rfl) (hb hby at_100) (fun _ _ => ⟨rfl, rfl, (by decide : 3 + 0 ≤ _), (by decide : 5 + 0 ≤ _)⟩)
            dsimp only [Pt.U, Pt.locs, Pt.cells, Pt.slots] at X279 l279 y279 z279 st279 hQ279
            subst l279 y279 z279
            obtain ⟨rfl, N279q, e279⟩ := hQ279
            have N279 := Fr.app N268 N279q
            refine own_step (fun _ k => st279.trans k) ?_
            show own_Fin p e below s _ _ _ (T279.setTop (mkF m 103 #[.val (.int p0), .val (.int p1), .val (.int p2), .val (.int p3), .val (.int p4), .val (.int p0), .val (.int p3), .val (.ref b200), .val (.ref b214), .val (.int (0 : Int32)), .val (.ref b268_o0)] [(.int (0 : Int32))]))
            refine own_step (fun _ k => XS.ifNo X279.here hx rfl (hb hby at_103) rfl ((if0 _ _).trans (teq (by decide : (0 : Int32) = (0 : Int32))).2) k) ?_
            show own_Fin p e below s _ _ _ (T279.setTop (mkF m 106 #[.val (.int p0), .val (.int p1), .val (.int p2), .val (.int p3), .val (.int p4), .val (.int p0), .val (.int p3), .val (.ref b200), .val (.ref b214), .val (.int (0 : Int32)), .val (.ref b268_o0)] []))
            refine own_step (fun _ k => XS.aload X279.here hx rfl (hb hby at_106) rfl rfl k) ?_
            show own_Fin p e below s _ _ _ (T279.setTop (mkF m 108 #[.val (.int p0), .val (.int p1), .val (.int p2), .val (.int p3), .val (.int p4), .val (.int p0), .val (.int p3), .val (.ref b200), .val (.ref b214), .val (.int (0 : Int32)), .val (.ref b268_o0)] [(.ref b200)]))
            refine own_step (fun _ k => XS.aload X279.here hx rfl (hb hby at_108) rfl rfl k) ?_
            show own_Fin p e below s _ _ _ (T279.setTop (mkF m 110 #[.val (.int p0), .val (.int p1), .val (.int p2), .val (.int p3), .val (.int p4), .val (.int p0), .val (.int p3), .val (.ref b200), .val (.ref b214), .val (.int (0 : Int32)), .val (.ref b268_o0)] [(.ref b200), (.ref b200)]))
            obtain ⟨cq280, kq280, q280a, q280b, q280c⟩ := isOf hZ e279 G273
            obtain ⟨_, _, ⟨T280, L280, k280, n280⟩, -, X280, ⟨Lc280, hQ280, l280, y280, z280⟩, st280⟩ := X279.virtualBack hx (y := own_y4) (z := own_y4) hown (mvT hZ (own_w hw 18 rfl)) (mvT hZ (own_w hw 19 rfl)) (notFace_of_selects (args := #[]) (mvT hZ (own_w hw 21 rfl))) (mvT hZ (own_w hw 21 rfl)) (mvT hZ (own_w hw 20 rfl)) (by decide) (backOf (W := 0) (own_rm8 l Z a0 hw hs [] b200 b200 p0 p0 p1 p1 T268.heap n0 Z268 G273 G274 G274 G275 G275) hZ (own_w hw 22 rfl) (own_w hw 2 rfl) (by decide) (by decide)) q280a q280c (g := (mkF m 110 #[.val (.int p0), .val (.int p1), .val (.int p2), .val (.int p3), .val (.int p4), .val (.int p0), .val (.int p3), .val (.ref b200), .val (.ref b214), .val (.int (0 : Int32)), .val (.ref b268_o0)] [(.ref b200), (.ref b200)])) rfl (by rw [hml]; rfl) (Steps.refl _) (argsL := [(.ref b200)]) (rest := []) (lenOf own_pd3 rfl) rfl (by show 2 * 0 + _ ≤ _; exact Nat.le_of_eq rfl) (hb hby at_110) (fun _ _ => ⟨rfl, e279, (by decide : 3 + 0 ≤ _), (by decide : 5 + 0 ≤ _)⟩)
            dsimp only [Pt.U, Pt.locs, Pt.cells, Pt.slots] at X280 l280 y280 z280 st280 hQ280
            subst l280 y280 z280
            obtain ⟨rfl, N280q, e280⟩ := hQ280
            have N280 := Fr.app N279 N280q
            refine own_step (fun _ k => st280.trans k) ?_
            show own_Fin p e below s _ _ _ (T280.setTop (mkF m 113 #[.val (.int p0), .val (.int p1), .val (.int p2), .val (.int p3), .val (.int p4), .val (.int p0), .val (.int p3), .val (.ref b200), .val (.ref b214), .val (.int (0 : Int32)), .val (.ref b268_o0)] [(.int (own_r8 p0 p0 p1 p1))]))
            have hf281 : ¬ ((own_r8 p0 p0 p1 p1) = (0 : Int32)) := by rw [show (own_r8 p0 p0 p1 p1) = (1 : Int32) from by rw [own_r8, if_pos (rfl), if_pos (rfl)]]; decide
            refine own_step (fun _ k => XS.ifNo X280.here hx rfl (hb hby at_113) rfl ((if0 _ _).trans (feq hf281).1) k) ?_
            show own_Fin p e below s _ _ _ (T280.setTop (mkF m 116 #[.val (.int p0), .val (.int p1), .val (.int p2), .val (.int p3), .val (.int p4), .val (.int p0), .val (.int p3), .val (.ref b200), .val (.ref b214), .val (.int (0 : Int32)), .val (.ref b268_o0)] []))
            refine own_step (fun _ k => XS.iconst X280.here hx rfl (hb hby at_116) k) ?_
            show own_Fin p e below s _ _ _ (T280.setTop (mkF m 117 #[.val (.int p0), .val (.int p1), .val (.int p2), .val (.int p3), .val (.int p4), .val (.int p0), .val (.int p3), .val (.ref b200), .val (.ref b214), .val (.int (0 : Int32)), .val (.ref b268_o0)] [(.int (1 : Int32))]))
            refine own_step (fun _ k => XS.goto X280.here hx rfl (pc0 := 117) (pc' := 121) rfl (hb hby at_117) (by decide) (by decide) k) ?_
            show own_Fin p e below s _ _ _ (T280.setTop (mkF m 121 #[.val (.int p0), .val (.int p1), .val (.int p2), .val (.int p3), .val (.int p4), .val (.int p0), .val (.int p3), .val (.ref b200), .val (.ref b214), .val (.int (0 : Int32)), .val (.ref b268_o0)] [(.int (1 : Int32))]))
            exact own_ret X280 hlk (v := some (.int (1 : Int32))) (fun h => by rw [Bd.returns] at h; cases h) (by decide) (by decide) (by show own_Q9 Z p0 p1 p2 p3 p4 s_cache cl_cache h0 n0 _ T280.heap _; rw [e280]; exact ⟨rfl, N280⟩) (fun fs hr => retN X280 hx (t := .boolean) Bd.returns (by simp) (hb hby at_121) hr)
          · refine own_step (fun _ k => XS.ifNo X223.here hx rfl (hb hby at_83) rfl ((if0 _ _).trans (feq hc267).1) k) ?_
            show own_Fin p e below s _ _ _ (T223.setTop (mkF m 86 #[.val (.int p0), .val (.int p1), .val (.int p2), .val (.int p3), .val (.int p4), .val (.int p0), .val (.int p3), .val (.ref b200), .val (.ref b214), .val (.int (0 : Int32)), .unset] []))
            refine own_step (fun _ k => XS.aconstNull X223.here hx rfl (hb hby at_86) k) ?_
            show own_Fin p e below s _ _ _ (T223.setTop (mkF m 87 #[.val (.int p0), .val (.int p1), .val (.int p2), .val (.int p3), .val (.int p4), .val (.int p0), .val (.int p3), .val (.ref b200), .val (.ref b214), .val (.int (0 : Int32)), .unset] [.null]))
            refine own_step (fun _ k => XS.goto X223.here hx rfl (pc0 := 87) (pc' := 94) rfl (hb hby at_87) (by decide) (by decide) k) ?_
            show own_Fin p e below s _ _ _ (T223.setTop (mkF m 94 #[.val (.int p0), .val (.int p1), .val (.int p2), .val (.int p3), .val (.int p4), .val (.int p0), .val (.int p3), .val (.ref b200), .val (.ref b214), .val (.int (0 : Int32)), .unset] [.null]))
            refine own_step (fun _ k => XS.astore X223.here hx rfl (hb hby at_94) rfl rfl (l' := #[.val (.int p0), .val (.int p1), .val (.int p2), .val (.int p3), .val (.int p4), .val (.int p0), .val (.int p3), .val (.ref b200), .val (.ref b214), .val (.int (0 : Int32)), .val .null]) rfl k) ?_
            show own_Fin p e below s _ _ _ (T223.setTop (mkF m 96 #[.val (.int p0), .val (.int p1), .val (.int p2), .val (.int p3), .val (.int p4), .val (.int p0), .val (.int p3), .val (.ref b200), .val (.ref b214), .val (.int (0 : Int32)), .val .null] []))
            refine own_step (fun _ k => XS.aload X223.here hx rfl (hb hby at_96) rfl rfl k) ?_
            show own_Fin p e below s _ _ _ (T223.setTop (mkF m 98 #[.val (.int p0), .val (.int p1), .val (.int p2), .val (.int p3), .val (.int p4), .val (.int p0), .val (.int p3), .val (.ref b200), .val (.ref b214), .val (.int (0 : Int32)), .val .null] [(.ref b200)]))
            refine own_step (fun _ k => XS.aload X223.here hx rfl (hb hby at_98) rfl rfl k) ?_
            show own_Fin p e below s _ _ _ (T223.setTop (mkF m 100 #[.val (.int p0), .val (.int p1), .val (.int p2), .val (.int p3), .val (.int p4), .val (.int p0), .val (.int p3), .val (.ref b200), .val (.ref b214), .val (.int (0 : Int32)), .val .null] [.null, (.ref b200)]))
            obtain ⟨cq282, kq282, q282a, q282b, q282c⟩ := isOf hZ rfl G230
            obtain ⟨_, _, ⟨T282, L282, k282, n282⟩, -, X282, ⟨Lc282, hQ282, l282, y282, z282⟩, st282⟩ := X223.virtualBack hx (y := own_y4) (z := own_y4) hown (mvT hZ (own_w hw 18 rfl)) (mvT hZ (own_w hw 19 rfl)) (notFace_of_selects (args := #[]) (mvT hZ (own_w hw 21 rfl))) (mvT hZ (own_w hw 21 rfl)) (mvT hZ (own_w hw 20 rfl)) (by decide) (backOf (W := 0) (own_rm6 l Z a0 hw hs [] b200 T223.heap n0 Z223 ) hZ (own_w hw 22 rfl) (own_w hw 2 rfl) (by decide) (by decide)) q282a q282c (g := (mkF m 100 #[.val (.int p0), .val (.int p1), .val (.int p2), .val (.int p3), .val (.int p4), .val (.int p0), .val (.int p3), .val (.ref b200), .val (.ref b214), .val (.int (0 : Int32)), .val .null] [.null, (.ref b200)])) rfl (by rw [hml]; rfl) (Steps.refl _) (argsL := [.null]) (rest := []) (lenOf own_pd3 rfl) rfl (by show 2 * 0 + _ ≤ _; exact Nat.le_of_eq rfl) (hb hby at_100) (fun _ _ => ⟨rfl, rfl, (by decide : 2 + 0 ≤ _), (by decide : 4 + 0 ≤ _)⟩)
            dsimp only [Pt.U, Pt.locs, Pt.cells, Pt.slots] at X282 l282 y282 z282 st282 hQ282
            subst l282 y282 z282
            obtain ⟨rfl, N282q, e282⟩ := hQ282
            have N282 := Fr.app N223 N282q
            refine own_step (fun _ k => st282.trans k) ?_
            show own_Fin p e below s _ _ _ (T282.setTop (mkF m 103 #[.val (.int p0), .val (.int p1), .val (.int p2), .val (.int p3), .val (.int p4), .val (.int p0), .val (.int p3), .val (.ref b200), .val (.ref b214), .val (.int (0 : Int32)), .val .null] [(.int (0 : Int32))]))
            refine own_step (fun _ k => XS.ifNo X282.here hx rfl (hb hby at_103) rfl ((if0 _ _).trans (teq (by decide : (0 : Int32) = (0 : Int32))).2) k) ?_
            show own_Fin p e below s _ _ _ (T282.setTop (mkF m 106 #[.val (.int p0), .val (.int p1), .val (.int p2), .val (.int p3), .val (.int p4), .val (.int p0), .val (.int p3), .val (.ref b200), .val (.ref b214), .val (.int (0 : Int32)), .val .null] []))
            refine own_step (fun _ k => XS.aload X282.here hx rfl (hb hby at_106) rfl rfl k) ?_
            show own_Fin p e below s _ _ _ (T282.setTop (mkF m 108 #[.val (.int p0), .val (.int p1), .val (.int p2), .val (.int p3), .val (.int p4), .val (.int p0), .val (.int p3), .val (.ref b200), .val (.ref b214), .val (.int (0 : Int32)), .val .null] [(.ref b200)]))
            refine own_step (fun _ k => XS.aload X282.here hx rfl (hb hby at_108) rfl rfl k) ?_
            show own_Fin p e below s _ _ _ (T282.setTop (mkF m 110 #[.val (.int p0), .val (.int p1), .val (.int p2), .val (.int p3), .val (.int p4), .val (.int p0), .val (.int p3), .val (.ref b200), .val (.ref b214), .val (.int (0 : Int32)), .val .null] [(.ref b200), (.ref b200)]))
            obtain ⟨cq283, kq283, q283a, q283b, q283c⟩ := isOf hZ e282 G230
            obtain ⟨_, _, ⟨T283, L283, k283, n283⟩, -, X283, ⟨Lc283, hQ283, l283, y283, z283⟩, st283⟩ := X282.virtualBack hx (y := own_y4) (z := own_y4) hown (mvT hZ (own_w hw 18 rfl)) (mvT hZ (own_w hw 19 rfl)) (notFace_of_selects (args := #[]) (mvT hZ (own_w hw 21 rfl))) (mvT hZ (own_w hw 21 rfl)) (mvT hZ (own_w hw 20 rfl)) (by decide) (backOf (W := 0) (own_rm8 l Z a0 hw hs [] b200 b200 p0 p0 p1 p1 T223.heap n0 Z223 G230 G231 G231 G232 G232) hZ (own_w hw 22 rfl) (own_w hw 2 rfl) (by decide) (by decide)) q283a q283c (g := (mkF m 110 #[.val (.int p0), .val (.int p1), .val (.int p2), .val (.int p3), .val (.int p4), .val (.int p0), .val (.int p3), .val (.ref b200), .val (.ref b214), .val (.int (0 : Int32)), .val .null] [(.ref b200), (.ref b200)])) rfl (by rw [hml]; rfl) (Steps.refl _) (argsL := [(.ref b200)]) (rest := []) (lenOf own_pd3 rfl) rfl (by show 2 * 0 + _ ≤ _; exact Nat.le_of_eq rfl) (hb hby at_110) (fun _ _ => ⟨rfl, e282, (by decide : 2 + 0 ≤ _), (by decide : 4 + 0 ≤ _)⟩)
            dsimp only [Pt.U, Pt.locs, Pt.cells, Pt.slots] at X283 l283 y283 z283 st283 hQ283
            subst l283 y283 z283
            obtain ⟨rfl, N283q, e283⟩ := hQ283
            have N283 := Fr.app N282 N283q
            refine own_step (fun _ k => st283.trans k) ?_
            show own_Fin p e below s _ _ _ (T283.setTop (mkF m 113 #[.val (.int p0), .val (.int p1), .val (.int p2), .val (.int p3), .val (.int p4), .val (.int p0), .val (.int p3), .val (.ref b200), .val (.ref b214), .val (.int (0 : Int32)), .val .null] [(.int (own_r8 p0 p0 p1 p1))]))
            have hf284 : ¬ ((own_r8 p0 p0 p1 p1) = (0 : Int32)) := by rw [show (own_r8 p0 p0 p1 p1) = (1 : Int32) from by rw [own_r8, if_pos (rfl), if_pos (rfl)]]; decide
            refine own_step (fun _ k => XS.ifNo X283.here hx rfl (hb hby at_113) rfl ((if0 _ _).trans (feq hf284).1) k) ?_
            show own_Fin p e below s _ _ _ (T283.setTop (mkF m 116 #[.val (.int p0), .val (.int p1), .val (.int p2), .val (.int p3), .val (.int p4), .val (.int p0), .val (.int p3), .val (.ref b200), .val (.ref b214), .val (.int (0 : Int32)), .val .null] []))
            refine own_step (fun _ k => XS.iconst X283.here hx rfl (hb hby at_116) k) ?_
            show own_Fin p e below s _ _ _ (T283.setTop (mkF m 117 #[.val (.int p0), .val (.int p1), .val (.int p2), .val (.int p3), .val (.int p4), .val (.int p0), .val (.int p3), .val (.ref b200), .val (.ref b214), .val (.int (0 : Int32)), .val .null] [(.int (1 : Int32))]))
            refine own_step (fun _ k => XS.goto X283.here hx rfl (pc0 := 117) (pc' := 121) rfl (hb hby at_117) (by decide) (by decide) k) ?_
            show own_Fin p e below s _ _ _ (T283.setTop (mkF m 121 #[.val (.int p0), .val (.int p1), .val (.int p2), .val (.int p3), .val (.int p4), .val (.int p0), .val (.int p3), .val (.ref b200), .val (.ref b214), .val (.int (0 : Int32)), .val .null] [(.int (1 : Int32))]))
            exact own_ret X283 hlk (v := some (.int (1 : Int32))) (fun h => by rw [Bd.returns] at h; cases h) (by decide) (by decide) (by show own_Q9 Z p0 p1 p2 p3 p4 s_cache cl_cache h0 n0 _ T283.heap _; rw [e283]; exact ⟨rfl, N283⟩) (fun fs hr => retN X283 hx (t := .boolean) Bd.returns (by simp) (hb hby at_121) hr)
    · refine own_step (fun _ k => XS.ifNo X0.here hx rfl (hb hby at_18) rfl ((if0 _ _).trans (feq hc199).1) k) ?_
      show own_Fin p e below s _ _ _ (s₁.setTop (mkF m 21 #[.val (.int p0), .val (.int p1), .val (.int p2), .val (.int p3), .val (.int p4), .val (.int p0), .unset, .unset, .unset, .unset, .unset] []))
      refine own_step (fun _ k => XS.iloadN X0.here hx rfl (hb hby at_21) rfl k) ?_
      show own_Fin p e below s _ _ _ (s₁.setTop (mkF m 22 #[.val (.int p0), .val (.int p1), .val (.int p2), .val (.int p3), .val (.int p4), .val (.int p0), .unset, .unset, .unset, .unset, .unset] [(.int p1)]))
      refine own_step (fun _ k => XS.goto X0.here hx rfl (pc0 := 22) (pc' := 26) rfl (hb hby at_22) (by decide) (by decide) k) ?_
      show own_Fin p e below s _ _ _ (s₁.setTop (mkF m 26 #[.val (.int p0), .val (.int p1), .val (.int p2), .val (.int p3), .val (.int p4), .val (.int p0), .unset, .unset, .unset, .unset, .unset] [(.int p1)]))
      refine own_step (fun _ k => XS.istore X0.here hx rfl (hb hby at_26) rfl (l' := #[.val (.int p0), .val (.int p1), .val (.int p2), .val (.int p3), .val (.int p4), .val (.int p0), .val (.int p1), .unset, .unset, .unset, .unset]) rfl k) ?_
      show own_Fin p e below s _ _ _ (s₁.setTop (mkF m 28 #[.val (.int p0), .val (.int p1), .val (.int p2), .val (.int p3), .val (.int p4), .val (.int p0), .val (.int p1), .unset, .unset, .unset, .unset] []))
      obtain ⟨T285, h285, X285, e285, E285, A285, D285, -, st285⟩ := newO X0 hx hZ hown (own_w hw 0 rfl) (own_w hw 1 rfl) (own_w hw 2 rfl) e0 (g := (mkF m 28 #[.val (.int p0), .val (.int p1), .val (.int p2), .val (.int p3), .val (.int p4), .val (.int p0), .val (.int p1), .unset, .unset, .unset, .unset] [])) rfl (hb hby at_28) (by decide) (by decide)
      obtain ⟨b285, g285⟩ : ∃ z, z = h0.size := ⟨_, rfl⟩
      rw [← g285] at A285 D285 st285
      have gg285 : n0 ≤ b285 := Nat.le_trans Z0 (Nat.le_of_eq g285.symm)
      have sz285 : h0.size ≤ b285 := Nat.le_trans KR.1 (Nat.le_of_eq g285.symm)
      have K285 : Keep h0 h285 [] := KR.ext E285
      have Z285 : n0 ≤ h285.size := Nat.le_trans Z0 E285.1
      have G286 := (Od.ext E285)
      have G287 := (S_high.ext E285)
      have G288 := (S_cache.ext E285)
      have G289 : Fld Z h285 b285 "com/example/tandem/tandem/analysis/Cuts$Range" "from" "I" (.int (0 : Int32)) := D285 (Or.inr (own_w hw 15 rfl)) (ty := .int) (by decide)
      have G290 : Fld Z h285 b285 "com/example/tandem/tandem/analysis/Cuts$Range" "to" "I" (.int (0 : Int32)) := D285 (Or.inr (own_w hw 17 rfl)) (ty := .int) (by decide)
      refine own_step st285 ?_
      show own_Fin p e below s _ _ _ (T285.setTop (mkF m 31 #[.val (.int p0), .val (.int p1), .val (.int p2), .val (.int p3), .val (.int p4), .val (.int p0), .val (.int p1), .unset, .unset, .unset, .unset] [(.ref b285)]))
      refine own_step (fun _ k => XS.dup X285.here hx rfl (hb hby at_31) rfl rfl k) ?_
      show own_Fin p e below s _ _ _ (T285.setTop (mkF m 32 #[.val (.int p0), .val (.int p1), .val (.int p2), .val (.int p3), .val (.int p4), .val (.int p0), .val (.int p1), .unset, .unset, .unset, .unset] [(.ref b285), (.ref b285)]))
      refine own_step (fun _ k => XS.iloadN X285.here hx rfl (hb hby at_32) rfl k) ?_
      show own_Fin p e below s _ _ _ (T285.setTop (mkF m 33 #[.val (.int p0), .val (.int p1), .val (.int p2), .val (.int p3), .val (.int p4), .val (.int p0), .val (.int p1), .unset, .unset, .unset, .unset] [(.int p0), (.ref b285), (.ref b285)]))
      refine own_step (fun _ k => XS.iloadN X285.here hx rfl (hb hby at_33) rfl k) ?_
      show own_Fin p e below s _ _ _ (T285.setTop (mkF m 34 #[.val (.int p0), .val (.int p1), .val (.int p2), .val (.int p3), .val (.int p4), .val (.int p0), .val (.int p1), .unset, .unset, .unset, .unset] [(.int p1), (.int p0), (.ref b285), (.ref b285)]))
      obtain ⟨_, _, ⟨T291, L291, k291, n291⟩, -, X291, ⟨Lc291, hQ291, l291, y291, z291⟩, st291⟩ := X285.specialBack hx (y := own_y3) rfl hown (mvT hZ (own_w hw 3 rfl)) (mvT hZ (own_w hw 4 rfl)) (mvT hZ (own_w hw 5 rfl)) (by decide) (backOf (W := 1) (own_rm2 l Z a0 hw hs [] b285 p0 p1 ((.int (0 : Int32))) ((.int (0 : Int32))) h285 n0 Z285 A285 G289 G290 gg285) hZ (own_w hw 5 rfl) (own_w hw 2 rfl) (by decide) (by decide)) (g := (mkF m 34 #[.val (.int p0), .val (.int p1), .val (.int p2), .val (.int p3), .val (.int p4), .val (.int p0), .val (.int p1), .unset, .unset, .unset, .unset] [(.int p1), (.int p0), (.ref b285), (.ref b285)])) rfl (by rw [hml]; rfl) (Steps.refl _) (a := b285) (argsL := [(.int p0), (.int p1)]) (rest := [(.ref b285)]) (lenOf own_pd2 rfl) rfl (by show 2 * 0 + _ ≤ _; exact Nat.le_of_eq rfl) (hb hby at_34) (fun _ _ => ⟨rfl, e285, (by decide : 1 + 0 ≤ _), (by decide : 2 + 0 ≤ _)⟩)
      dsimp only [Pt.U, Pt.locs, Pt.cells, Pt.slots] at X291 l291 y291 z291 st291 hQ291
      subst l291 y291 z291
      obtain ⟨N291q, K291q, rfl, G292, G293, G294⟩ := hQ291
      have N291 := Fr.app N0 N291q
      have K291 : Keep h0 T291.heap [] := K285.trans K291q (allS (P := fun x => x ∈ [] ∨ h0.size ≤ x) (Or.inr sz285) all0)
      have Z291 : n0 ≤ T291.heap.size := Nat.le_trans Z285 K291q.1
      have G295 := (G286.keep K291q (allS (P := fun x => n0 ≤ x) gg285 all0))
      have G296 := (own_sta_keep G287 K291q (allS (P := own_Nst _) (own_nst_exa A285) all0))
      have G297 := (own_sta_keep G288 K291q (allS (P := own_Nst _) (own_nst_exa A285) all0))
      have G298 := (A285.keep K291q)
      refine own_step (fun _ k => st291.trans k) ?_
      show own_Fin p e below s _ _ _ (T291.setTop (mkF m 37 #[.val (.int p0), .val (.int p1), .val (.int p2), .val (.int p3), .val (.int p4), .val (.int p0), .val (.int p1), .unset, .unset, .unset, .unset] [(.ref b285)]))
      refine own_step (fun _ k => XS.astore X291.here hx rfl (hb hby at_37) rfl rfl (l' := #[.val (.int p0), .val (.int p1), .val (.int p2), .val (.int p3), .val (.int p4), .val (.int p0), .val (.int p1), .val (.ref b285), .unset, .unset, .unset]) rfl k) ?_
      show own_Fin p e below s _ _ _ (T291.setTop (mkF m 39 #[.val (.int p0), .val (.int p1), .val (.int p2), .val (.int p3), .val (.int p4), .val (.int p0), .val (.int p1), .val (.ref b285), .unset, .unset, .unset] []))
      obtain ⟨T299, h299, X299, e299, E299, A299, D299, -, st299⟩ := newO X291 hx hZ hown (own_w hw 0 rfl) (own_w hw 1 rfl) (own_w hw 2 rfl) rfl (g := (mkF m 39 #[.val (.int p0), .val (.int p1), .val (.int p2), .val (.int p3), .val (.int p4), .val (.int p0), .val (.int p1), .val (.ref b285), .unset, .unset, .unset] [])) rfl (hb hby at_39) (by decide) (by decide)
      obtain ⟨b299, g299⟩ : ∃ z, z = T291.heap.size := ⟨_, rfl⟩
      rw [← g299] at A299 D299 st299
      have ne299_b285 : b285 ≠ b299 := Nat.ne_of_lt (Nat.lt_of_lt_of_le G292.lt (Nat.le_of_eq g299.symm))
      have gg299 : n0 ≤ b299 := Nat.le_trans Z291 (Nat.le_of_eq g299.symm)
      have sz299 : h0.size ≤ b299 := Nat.le_trans K291.1 (Nat.le_of_eq g299.symm)
      have K299 : Keep h0 h299 [] := K291.ext E299
      have Z299 : n0 ≤ h299.size := Nat.le_trans Z291 E299.1
      have G300 := (G295.ext E299)
      have G301 := (G296.ext E299)
      have G302 := (G297.ext E299)
      have G303 := (G292.ext E299)
      have G304 := (G293.ext E299)
      have G305 := (G294.ext E299)
      have G306 : Fld Z h299 b299 "com/example/tandem/tandem/analysis/Cuts$Range" "from" "I" (.int (0 : Int32)) := D299 (Or.inr (own_w hw 15 rfl)) (ty := .int) (by decide)
      have G307 : Fld Z h299 b299 "com/example/tandem/tandem/analysis/Cuts$Range" "to" "I" (.int (0 : Int32)) := D299 (Or.inr (own_w hw 17 rfl)) (ty := .int) (by decide)
      refine own_step st299 ?_
      show own_Fin p e below s _ _ _ (T299.setTop (mkF m 42 #[.val (.int p0), .val (.int p1), .val (.int p2), .val (.int p3), .val (.int p4), .val (.int p0), .val (.int p1), .val (.ref b285), .unset, .unset, .unset] [(.ref b299)]))
      refine own_step (fun _ k => XS.dup X299.here hx rfl (hb hby at_42) rfl rfl k) ?_
      show own_Fin p e below s _ _ _ (T299.setTop (mkF m 43 #[.val (.int p0), .val (.int p1), .val (.int p2), .val (.int p3), .val (.int p4), .val (.int p0), .val (.int p1), .val (.ref b285), .unset, .unset, .unset] [(.ref b299), (.ref b299)]))
      refine own_step (fun _ k => XS.iload X299.here hx rfl (hb hby at_43) rfl k) ?_
      show own_Fin p e below s _ _ _ (T299.setTop (mkF m 45 #[.val (.int p0), .val (.int p1), .val (.int p2), .val (.int p3), .val (.int p4), .val (.int p0), .val (.int p1), .val (.ref b285), .unset, .unset, .unset] [(.int p0), (.ref b299), (.ref b299)]))
      refine own_step (fun _ k => XS.iload X299.here hx rfl (hb hby at_45) rfl k) ?_
      show own_Fin p e below s _ _ _ (T299.setTop (mkF m 47 #[.val (.int p0), .val (.int p1), .val (.int p2), .val (.int p3), .val (.int p4), .val (.int p0), .val (.int p1), .val (.ref b285), .unset, .unset, .unset] [(.int p1), (.int p0), (.ref b299), (.ref b299)]))
      obtain ⟨_, _, ⟨T308, L308, k308, n308⟩, -, X308, ⟨Lc308, hQ308, l308, y308, z308⟩, st308⟩ := X299.specialBack hx (y := own_y3) rfl hown (mvT hZ (own_w hw 3 rfl)) (mvT hZ (own_w hw 4 rfl)) (mvT hZ (own_w hw 5 rfl)) (by decide) (backOf (W := 1) (own_rm2 l Z a0 hw hs [] b299 p0 p1 ((.int (0 : Int32))) ((.int (0 : Int32))) h299 n0 Z299 A299 G306 G307 gg299) hZ (own_w hw 5 rfl) (own_w hw 2 rfl) (by decide) (by decide)) (g := (mkF m 47 #[.val (.int p0), .val (.int p1), .val (.int p2), .val (.int p3), .val (.int p4), .val (.int p0), .val (.int p1), .val (.ref b285), .unset, .unset, .unset] [(.int p1), (.int p0), (.ref b299), (.ref b299)])) rfl (by rw [hml]; rfl) (Steps.refl _) (a := b299) (argsL := [(.int p0), (.int p1)]) (rest := [(.ref b299)]) (lenOf own_pd2 rfl) rfl (by show 2 * 0 + _ ≤ _; exact Nat.le_of_eq rfl) (hb hby at_47) (fun _ _ => ⟨rfl, e299, (by decide : 2 + 0 ≤ _), (by decide : 4 + 0 ≤ _)⟩)
      dsimp only [Pt.U, Pt.locs, Pt.cells, Pt.slots] at X308 l308 y308 z308 st308 hQ308
      subst l308 y308 z308
      obtain ⟨N308q, K308q, rfl, G309, G310, G311⟩ := hQ308
      have N308 := Fr.app N291 N308q
      have K308 : Keep h0 T308.heap [] := K299.trans K308q (allS (P := fun x => x ∈ [] ∨ h0.size ≤ x) (Or.inr sz299) all0)
      have Z308 : n0 ≤ T308.heap.size := Nat.le_trans Z299 K308q.1
      have G312 := (G300.keep K308q (allS (P := fun x => n0 ≤ x) gg299 all0))
      have G313 := (own_sta_keep G301 K308q (allS (P := own_Nst _) (own_nst_exa A299) all0))
      have G314 := (own_sta_keep G302 K308q (allS (P := own_Nst _) (own_nst_exa A299) all0))
      have G315 := (G303.keep K308q)
      have G316 := (G304.keep K308q (ninS ne299_b285 nin0))
      have G317 := (G305.keep K308q (ninS ne299_b285 nin0))
      have G318 := (A299.keep K308q)
      refine own_step (fun _ k => st308.trans k) ?_
      show own_Fin p e below s _ _ _ (T308.setTop (mkF m 50 #[.val (.int p0), .val (.int p1), .val (.int p2), .val (.int p3), .val (.int p4), .val (.int p0), .val (.int p1), .val (.ref b285), .unset, .unset, .unset] [(.ref b299)]))
      refine own_step (fun _ k => XS.astore X308.here hx rfl (hb hby at_50) rfl rfl (l' := #[.val (.int p0), .val (.int p1), .val (.int p2), .val (.int p3), .val (.int p4), .val (.int p0), .val (.int p1), .val (.ref b285), .val (.ref b299), .unset, .unset]) rfl k) ?_
      show own_Fin p e below s _ _ _ (T308.setTop (mkF m 52 #[.val (.int p0), .val (.int p1), .val (.int p2), .val (.int p3), .val (.int p4), .val (.int p0), .val (.int p1), .val (.ref b285), .val (.ref b299), .unset, .unset] []))
      refine own_step (fun _ k => XS.iloadN X308.here hx rfl (hb hby at_52) rfl k) ?_
      show own_Fin p e below s _ _ _ (T308.setTop (mkF m 53 #[.val (.int p0), .val (.int p1), .val (.int p2), .val (.int p3), .val (.int p4), .val (.int p0), .val (.int p1), .val (.ref b285), .val (.ref b299), .unset, .unset] [(.int p0)]))
      refine own_step (fun _ k => XS.iload X308.here hx rfl (hb hby at_53) rfl k) ?_
      show own_Fin p e below s _ _ _ (T308.setTop (mkF m 55 #[.val (.int p0), .val (.int p1), .val (.int p2), .val (.int p3), .val (.int p4), .val (.int p0), .val (.int p1), .val (.ref b285), .val (.ref b299), .unset, .unset] [(.int p0), (.int p0)]))
      refine own_step (fun _ k => XS.icmpNo X308.here hx rfl (hb hby at_55) rfl (teq (rfl : p0 = p0)).2 k) ?_
      show own_Fin p e below s _ _ _ (T308.setTop (mkF m 58 #[.val (.int p0), .val (.int p1), .val (.int p2), .val (.int p3), .val (.int p4), .val (.int p0), .val (.int p1), .val (.ref b285), .val (.ref b299), .unset, .unset] []))
      refine own_step (fun _ k => XS.iloadN X308.here hx rfl (hb hby at_58) rfl k) ?_
      show own_Fin p e below s _ _ _ (T308.setTop (mkF m 59 #[.val (.int p0), .val (.int p1), .val (.int p2), .val (.int p3), .val (.int p4), .val (.int p0), .val (.int p1), .val (.ref b285), .val (.ref b299), .unset, .unset] [(.int p1)]))
      refine own_step (fun _ k => XS.iload X308.here hx rfl (hb hby at_59) rfl k) ?_
      show own_Fin p e below s _ _ _ (T308.setTop (mkF m 61 #[.val (.int p0), .val (.int p1), .val (.int p2), .val (.int p3), .val (.int p4), .val (.int p0), .val (.int p1), .val (.ref b285), .val (.ref b299), .unset, .unset] [(.int p1), (.int p1)]))
      refine own_step (fun _ k => XS.icmpNo X308.here hx rfl (hb hby at_61) rfl (teq (rfl : p1 = p1)).2 k) ?_
      show own_Fin p e below s _ _ _ (T308.setTop (mkF m 64 #[.val (.int p0), .val (.int p1), .val (.int p2), .val (.int p3), .val (.int p4), .val (.int p0), .val (.int p1), .val (.ref b285), .val (.ref b299), .unset, .unset] []))
      refine own_step (fun _ k => XS.iconst X308.here hx rfl (hb hby at_64) k) ?_
      show own_Fin p e below s _ _ _ (T308.setTop (mkF m 65 #[.val (.int p0), .val (.int p1), .val (.int p2), .val (.int p3), .val (.int p4), .val (.int p0), .val (.int p1), .val (.ref b285), .val (.ref b299), .unset, .unset] [(.int (1 : Int32))]))
      refine own_step (fun _ k => XS.goto X308.here hx rfl (pc0 := 65) (pc' := 69) rfl (hb hby at_65) (by decide) (by decide) k) ?_
      show own_Fin p e below s _ _ _ (T308.setTop (mkF m 69 #[.val (.int p0), .val (.int p1), .val (.int p2), .val (.int p3), .val (.int p4), .val (.int p0), .val (.int p1), .val (.ref b285), .val (.ref b299), .unset, .unset] [(.int (1 : Int32))]))
      refine own_step (fun _ k => XS.istore X308.here hx rfl (hb hby at_69) rfl (l' := #[.val (.int p0), .val (.int p1), .val (.int p2), .val (.int p3), .val (.int p4), .val (.int p0), .val (.int p1), .val (.ref b285), .val (.ref b299), .val (.int (1 : Int32)), .unset]) rfl k) ?_
      show own_Fin p e below s _ _ _ (T308.setTop (mkF m 71 #[.val (.int p0), .val (.int p1), .val (.int p2), .val (.int p3), .val (.int p4), .val (.int p0), .val (.int p1), .val (.ref b285), .val (.ref b299), .val (.int (1 : Int32)), .unset] []))
      refine own_step (fun _ k => XS.iload X308.here hx rfl (hb hby at_71) rfl k) ?_
      show own_Fin p e below s _ _ _ (T308.setTop (mkF m 73 #[.val (.int p0), .val (.int p1), .val (.int p2), .val (.int p3), .val (.int p4), .val (.int p0), .val (.int p1), .val (.ref b285), .val (.ref b299), .val (.int (1 : Int32)), .unset] [(.int p4)]))
      refine own_step (fun _ k => XS.iconst X308.here hx rfl (hb hby at_73) k) ?_
      show own_Fin p e below s _ _ _ (T308.setTop (mkF m 74 #[.val (.int p0), .val (.int p1), .val (.int p2), .val (.int p3), .val (.int p4), .val (.int p0), .val (.int p1), .val (.ref b285), .val (.ref b299), .val (.int (1 : Int32)), .unset] [(.int (4 : Int32)), (.int p4)]))
      refine own_step (fun _ k => XS.iand X308.here hx rfl (hb hby at_74) rfl k) ?_
      show own_Fin p e below s _ _ _ (T308.setTop (mkF m 75 #[.val (.int p0), .val (.int p1), .val (.int p2), .val (.int p3), .val (.int p4), .val (.int p0), .val (.int p1), .val (.ref b285), .val (.ref b299), .val (.int (1 : Int32)), .unset] [(.int (p4 &&& (4 : Int32)))]))
      by_cases hc319 : (p4 &&& (4 : Int32)) = (0 : Int32)
      · refine own_step (fun _ k => XS.ifYes X308.here hx rfl (pc0 := 75) (pc' := 122) rfl (hb hby at_75) rfl ((if0 _ _).trans (teq hc319).1) (by decide) (by decide) k) ?_
        show own_Fin p e below s _ _ _ (T308.setTop (mkF m 122 #[.val (.int p0), .val (.int p1), .val (.int p2), .val (.int p3), .val (.int p4), .val (.int p0), .val (.int p1), .val (.ref b285), .val (.ref b299), .val (.int (1 : Int32)), .unset] []))
        refine own_step (fun _ k => XS.aload X308.here hx rfl (hb hby at_122) rfl rfl k) ?_
        show own_Fin p e below s _ _ _ (T308.setTop (mkF m 124 #[.val (.int p0), .val (.int p1), .val (.int p2), .val (.int p3), .val (.int p4), .val (.int p0), .val (.int p1), .val (.ref b285), .val (.ref b299), .val (.int (1 : Int32)), .unset] [(.ref b285)]))
        refine own_step (fun _ k => XS.aload X308.here hx rfl (hb hby at_124) rfl rfl k) ?_
        show own_Fin p e below s _ _ _ (T308.setTop (mkF m 126 #[.val (.int p0), .val (.int p1), .val (.int p2), .val (.int p3), .val (.int p4), .val (.int p0), .val (.int p1), .val (.ref b285), .val (.ref b299), .val (.int (1 : Int32)), .unset] [(.ref b299), (.ref b285)]))
        obtain ⟨cq320, kq320, q320a, q320b, q320c⟩ := isOf hZ rfl G315
        obtain ⟨_, _, ⟨T320, L320, k320, n320⟩, -, X320, ⟨Lc320, hQ320, l320, y320, z320⟩, st320⟩ := X308.virtualBack hx (y := own_y4) (z := own_y4) hown (mvT hZ (own_w hw 18 rfl)) (mvT hZ (own_w hw 19 rfl)) (notFace_of_selects (args := #[]) (mvT hZ (own_w hw 21 rfl))) (mvT hZ (own_w hw 21 rfl)) (mvT hZ (own_w hw 20 rfl)) (by decide) (backOf (W := 0) (own_rm8 l Z a0 hw hs [] b285 b299 p0 p0 p1 p1 T308.heap n0 Z308 G309 G310 G316 G311 G317) hZ (own_w hw 22 rfl) (own_w hw 2 rfl) (by decide) (by decide)) q320a q320c (g := (mkF m 126 #[.val (.int p0), .val (.int p1), .val (.int p2), .val (.int p3), .val (.int p4), .val (.int p0), .val (.int p1), .val (.ref b285), .val (.ref b299), .val (.int (1 : Int32)), .unset] [(.ref b299), (.ref b285)])) rfl (by rw [hml]; rfl) (Steps.refl _) (argsL := [(.ref b299)]) (rest := []) (lenOf own_pd3 rfl) rfl (by show 2 * 0 + _ ≤ _; exact Nat.le_of_eq rfl) (hb hby at_126) (fun _ _ => ⟨rfl, rfl, (by decide : 2 + 0 ≤ _), (by decide : 4 + 0 ≤ _)⟩)
        dsimp only [Pt.U, Pt.locs, Pt.cells, Pt.slots] at X320 l320 y320 z320 st320 hQ320
        subst l320 y320 z320
        obtain ⟨rfl, N320q, e320⟩ := hQ320
        have N320 := Fr.app N308 N320q
        refine own_step (fun _ k => st320.trans k) ?_
        show own_Fin p e below s _ _ _ (T320.setTop (mkF m 129 #[.val (.int p0), .val (.int p1), .val (.int p2), .val (.int p3), .val (.int p4), .val (.int p0), .val (.int p1), .val (.ref b285), .val (.ref b299), .val (.int (1 : Int32)), .unset] [(.int (own_r8 p0 p0 p1 p1))]))
        refine own_step (fun _ k => XS.iload X320.here hx rfl (hb hby at_129) rfl k) ?_
        show own_Fin p e below s _ _ _ (T320.setTop (mkF m 131 #[.val (.int p0), .val (.int p1), .val (.int p2), .val (.int p3), .val (.int p4), .val (.int p0), .val (.int p1), .val (.ref b285), .val (.ref b299), .val (.int (1 : Int32)), .unset] [(.int (1 : Int32)), (.int (own_r8 p0 p0 p1 p1))]))
        have hf321 : (own_r8 p0 p0 p1 p1) = (1 : Int32) := by rw [own_r8, if_pos (rfl), if_pos (rfl)]
        refine own_step (fun _ k => XS.icmpNo X320.here hx rfl (hb hby at_131) rfl (teq hf321).2 k) ?_
        show own_Fin p e below s _ _ _ (T320.setTop (mkF m 134 #[.val (.int p0), .val (.int p1), .val (.int p2), .val (.int p3), .val (.int p4), .val (.int p0), .val (.int p1), .val (.ref b285), .val (.ref b299), .val (.int (1 : Int32)), .unset] []))
        refine own_step (fun _ k => XS.aload X320.here hx rfl (hb hby at_134) rfl rfl k) ?_
        show own_Fin p e below s _ _ _ (T320.setTop (mkF m 136 #[.val (.int p0), .val (.int p1), .val (.int p2), .val (.int p3), .val (.int p4), .val (.int p0), .val (.int p1), .val (.ref b285), .val (.ref b299), .val (.int (1 : Int32)), .unset] [(.ref b299)]))
        refine own_step (fun _ k => XS.aload X320.here hx rfl (hb hby at_136) rfl rfl k) ?_
        show own_Fin p e below s _ _ _ (T320.setTop (mkF m 138 #[.val (.int p0), .val (.int p1), .val (.int p2), .val (.int p3), .val (.int p4), .val (.int p0), .val (.int p1), .val (.ref b285), .val (.ref b299), .val (.int (1 : Int32)), .unset] [(.ref b285), (.ref b299)]))
        obtain ⟨cq322, kq322, q322a, q322b, q322c⟩ := isOf hZ e320 G309
        obtain ⟨_, _, ⟨T322, L322, k322, n322⟩, -, X322, ⟨Lc322, hQ322, l322, y322, z322⟩, st322⟩ := X320.virtualBack hx (y := own_y4) (z := own_y4) hown (mvT hZ (own_w hw 18 rfl)) (mvT hZ (own_w hw 19 rfl)) (notFace_of_selects (args := #[]) (mvT hZ (own_w hw 21 rfl))) (mvT hZ (own_w hw 21 rfl)) (mvT hZ (own_w hw 20 rfl)) (by decide) (backOf (W := 0) (own_rm8 l Z a0 hw hs [] b299 b285 p0 p0 p1 p1 T308.heap n0 Z308 G315 G316 G310 G317 G311) hZ (own_w hw 22 rfl) (own_w hw 2 rfl) (by decide) (by decide)) q322a q322c (g := (mkF m 138 #[.val (.int p0), .val (.int p1), .val (.int p2), .val (.int p3), .val (.int p4), .val (.int p0), .val (.int p1), .val (.ref b285), .val (.ref b299), .val (.int (1 : Int32)), .unset] [(.ref b285), (.ref b299)])) rfl (by rw [hml]; rfl) (Steps.refl _) (argsL := [(.ref b285)]) (rest := []) (lenOf own_pd3 rfl) rfl (by show 2 * 0 + _ ≤ _; exact Nat.le_of_eq rfl) (hb hby at_138) (fun _ _ => ⟨rfl, e320, (by decide : 2 + 0 ≤ _), (by decide : 4 + 0 ≤ _)⟩)
        dsimp only [Pt.U, Pt.locs, Pt.cells, Pt.slots] at X322 l322 y322 z322 st322 hQ322
        subst l322 y322 z322
        obtain ⟨rfl, N322q, e322⟩ := hQ322
        have N322 := Fr.app N320 N322q
        refine own_step (fun _ k => st322.trans k) ?_
        show own_Fin p e below s _ _ _ (T322.setTop (mkF m 141 #[.val (.int p0), .val (.int p1), .val (.int p2), .val (.int p3), .val (.int p4), .val (.int p0), .val (.int p1), .val (.ref b285), .val (.ref b299), .val (.int (1 : Int32)), .unset] [(.int (own_r8 p0 p0 p1 p1))]))
        refine own_step (fun _ k => XS.iload X322.here hx rfl (hb hby at_141) rfl k) ?_
        show own_Fin p e below s _ _ _ (T322.setTop (mkF m 143 #[.val (.int p0), .val (.int p1), .val (.int p2), .val (.int p3), .val (.int p4), .val (.int p0), .val (.int p1), .val (.ref b285), .val (.ref b299), .val (.int (1 : Int32)), .unset] [(.int (1 : Int32)), (.int (own_r8 p0 p0 p1 p1))]))
        refine own_step (fun _ k => XS.icmpNo X322.here hx rfl (hb hby at_143) rfl (teq hf321).2 k) ?_
        show own_Fin p e below s _ _ _ (T322.setTop (mkF m 146 #[.val (.int p0), .val (.int p1), .val (.int p2), .val (.int p3), .val (.int p4), .val (.int p0), .val (.int p1), .val (.ref b285), .val (.ref b299), .val (.int (1 : Int32)), .unset] []))
        refine own_step (fun _ k => XS.aload X322.here hx rfl (hb hby at_146) rfl rfl k) ?_
        show own_Fin p e below s _ _ _ (T322.setTop (mkF m 148 #[.val (.int p0), .val (.int p1), .val (.int p2), .val (.int p3), .val (.int p4), .val (.int p0), .val (.int p1), .val (.ref b285), .val (.ref b299), .val (.int (1 : Int32)), .unset] [(.ref b285)]))
        refine own_step (fun _ k => XS.aload X322.here hx rfl (hb hby at_148) rfl rfl k) ?_
        show own_Fin p e below s _ _ _ (T322.setTop (mkF m 150 #[.val (.int p0), .val (.int p1), .val (.int p2), .val (.int p3), .val (.int p4), .val (.int p0), .val (.int p1), .val (.ref b285), .val (.ref b299), .val (.int (1 : Int32)), .unset] [(.ref b285), (.ref b285)]))
        obtain ⟨cq323, kq323, q323a, q323b, q323c⟩ := isOf hZ e322 G315
        obtain ⟨_, _, ⟨T323, L323, k323, n323⟩, -, X323, ⟨Lc323, hQ323, l323, y323, z323⟩, st323⟩ := X322.virtualBack hx (y := own_y4) (z := own_y4) hown (mvT hZ (own_w hw 18 rfl)) (mvT hZ (own_w hw 19 rfl)) (notFace_of_selects (args := #[]) (mvT hZ (own_w hw 21 rfl))) (mvT hZ (own_w hw 21 rfl)) (mvT hZ (own_w hw 20 rfl)) (by decide) (backOf (W := 0) (own_rm8 l Z a0 hw hs [] b285 b285 p0 p0 p1 p1 T308.heap n0 Z308 G315 G316 G316 G317 G317) hZ (own_w hw 22 rfl) (own_w hw 2 rfl) (by decide) (by decide)) q323a q323c (g := (mkF m 150 #[.val (.int p0), .val (.int p1), .val (.int p2), .val (.int p3), .val (.int p4), .val (.int p0), .val (.int p1), .val (.ref b285), .val (.ref b299), .val (.int (1 : Int32)), .unset] [(.ref b285), (.ref b285)])) rfl (by rw [hml]; rfl) (Steps.refl _) (argsL := [(.ref b285)]) (rest := []) (lenOf own_pd3 rfl) rfl (by show 2 * 0 + _ ≤ _; exact Nat.le_of_eq rfl) (hb hby at_150) (fun _ _ => ⟨rfl, e322, (by decide : 2 + 0 ≤ _), (by decide : 4 + 0 ≤ _)⟩)
        dsimp only [Pt.U, Pt.locs, Pt.cells, Pt.slots] at X323 l323 y323 z323 st323 hQ323
        subst l323 y323 z323
        obtain ⟨rfl, N323q, e323⟩ := hQ323
        have N323 := Fr.app N322 N323q
        refine own_step (fun _ k => st323.trans k) ?_
        show own_Fin p e below s _ _ _ (T323.setTop (mkF m 153 #[.val (.int p0), .val (.int p1), .val (.int p2), .val (.int p3), .val (.int p4), .val (.int p0), .val (.int p1), .val (.ref b285), .val (.ref b299), .val (.int (1 : Int32)), .unset] [(.int (own_r8 p0 p0 p1 p1))]))
        have hf324 : ¬ ((own_r8 p0 p0 p1 p1) = (0 : Int32)) := by rw [show (own_r8 p0 p0 p1 p1) = (1 : Int32) from by rw [own_r8, if_pos (rfl), if_pos (rfl)]]; decide
        refine own_step (fun _ k => XS.ifNo X323.here hx rfl (hb hby at_153) rfl ((if0 _ _).trans (feq hf324).1) k) ?_
        show own_Fin p e below s _ _ _ (T323.setTop (mkF m 156 #[.val (.int p0), .val (.int p1), .val (.int p2), .val (.int p3), .val (.int p4), .val (.int p0), .val (.int p1), .val (.ref b285), .val (.ref b299), .val (.int (1 : Int32)), .unset] []))
        refine own_step (fun _ k => XS.iconst X323.here hx rfl (hb hby at_156) k) ?_
        show own_Fin p e below s _ _ _ (T323.setTop (mkF m 157 #[.val (.int p0), .val (.int p1), .val (.int p2), .val (.int p3), .val (.int p4), .val (.int p0), .val (.int p1), .val (.ref b285), .val (.ref b299), .val (.int (1 : Int32)), .unset] [(.int (1 : Int32))]))
        refine own_step (fun _ k => XS.goto X323.here hx rfl (pc0 := 157) (pc' := 161) rfl (hb hby at_157) (by decide) (by decide) k) ?_
        show own_Fin p e below s _ _ _ (T323.setTop (mkF m 161 #[.val (.int p0), .val (.int p1), .val (.int p2), .val (.int p3), .val (.int p4), .val (.int p0), .val (.int p1), .val (.ref b285), .val (.ref b299), .val (.int (1 : Int32)), .unset] [(.int (1 : Int32))]))
        exact own_ret X323 hlk (v := some (.int (1 : Int32))) (fun h => by rw [Bd.returns] at h; cases h) (by decide) (by decide) (by show own_Q9 Z p0 p1 p2 p3 p4 s_cache cl_cache h0 n0 _ T323.heap _; rw [e323]; exact ⟨rfl, N323⟩) (fun fs hr => retN X323 hx (t := .boolean) Bd.returns (by simp) (hb hby at_161) hr)
      · refine own_step (fun _ k => XS.ifNo X308.here hx rfl (hb hby at_75) rfl ((if0 _ _).trans (feq hc319).1) k) ?_
        show own_Fin p e below s _ _ _ (T308.setTop (mkF m 78 #[.val (.int p0), .val (.int p1), .val (.int p2), .val (.int p3), .val (.int p4), .val (.int p0), .val (.int p1), .val (.ref b285), .val (.ref b299), .val (.int (1 : Int32)), .unset] []))
        refine own_step (fun _ k => XS.iload X308.here hx rfl (hb hby at_78) rfl k) ?_
        show own_Fin p e below s _ _ _ (T308.setTop (mkF m 80 #[.val (.int p0), .val (.int p1), .val (.int p2), .val (.int p3), .val (.int p4), .val (.int p0), .val (.int p1), .val (.ref b285), .val (.ref b299), .val (.int (1 : Int32)), .unset] [(.int p4)]))
        refine own_step (fun _ k => XS.bipush X308.here hx rfl (hb hby at_80) k) ?_
        show own_Fin p e below s _ _ _ (T308.setTop (mkF m 82 #[.val (.int p0), .val (.int p1), .val (.int p2), .val (.int p3), .val (.int p4), .val (.int p0), .val (.int p1), .val (.ref b285), .val (.ref b299), .val (.int (1 : Int32)), .unset] [(.int (8 : Int32)), (.int p4)]))
        refine own_step (fun _ k => XS.iand X308.here hx rfl (hb hby at_82) rfl k) ?_
        show own_Fin p e below s _ _ _ (T308.setTop (mkF m 83 #[.val (.int p0), .val (.int p1), .val (.int p2), .val (.int p3), .val (.int p4), .val (.int p0), .val (.int p1), .val (.ref b285), .val (.ref b299), .val (.int (1 : Int32)), .unset] [(.int (p4 &&& (8 : Int32)))]))
        by_cases hc325 : (p4 &&& (8 : Int32)) = (0 : Int32)
        · refine own_step (fun _ k => XS.ifYes X308.here hx rfl (pc0 := 83) (pc' := 90) rfl (hb hby at_83) rfl ((if0 _ _).trans (teq hc325).1) (by decide) (by decide) k) ?_
          show own_Fin p e below s _ _ _ (T308.setTop (mkF m 90 #[.val (.int p0), .val (.int p1), .val (.int p2), .val (.int p3), .val (.int p4), .val (.int p0), .val (.int p1), .val (.ref b285), .val (.ref b299), .val (.int (1 : Int32)), .unset] []))
          refine own_step (fun _ k => XS.iloadN X308.here hx rfl (hb hby at_90) rfl k) ?_
          show own_Fin p e below s _ _ _ (T308.setTop (mkF m 91 #[.val (.int p0), .val (.int p1), .val (.int p2), .val (.int p3), .val (.int p4), .val (.int p0), .val (.int p1), .val (.ref b285), .val (.ref b299), .val (.int (1 : Int32)), .unset] [(.int p0)]))
          obtain ⟨_, _, ⟨T326, L326, k326, n326⟩, -, X326, ⟨Lc326, hQ326, l326, y326, z326⟩, st326⟩ := Jvm.LawKit.callS X308 hx (y := own_y5) hown (mvT hZ (own_w hw 25 rfl)) (mvT hZ (own_w hw 26 rfl)) (mvT hZ (own_w hw 27 rfl)) (mvT hZ (own_w hw 28 rfl)) (by decide) (backOf (W := 0) (own_rm5 l Z a0 hw hs [] p0 s_cache cl_cache T308.heap n0 Z308 G312 G313 G314 Bx) hZ (own_w hw 28 rfl) (own_w hw 27 rfl) (by decide) (by decide)) (g := (mkF m 91 #[.val (.int p0), .val (.int p1), .val (.int p2), .val (.int p3), .val (.int p4), .val (.int p0), .val (.int p1), .val (.ref b285), .val (.ref b299), .val (.int (1 : Int32)), .unset] [(.int p0)])) rfl (by rw [hml]; rfl) (argsL := [(.int p0)]) (rest := []) (lenOf own_pd4 rfl) rfl (by show 2 * 0 + _ ≤ _; exact Nat.le_of_eq rfl) (hb hby at_91) (fun _ _ => ⟨rfl, rfl, (by decide : 2 + 1 ≤ _), (by decide : 4 + 1 ≤ _)⟩)
          dsimp only [Pt.U, Pt.locs, Pt.cells, Pt.slots] at X326 l326 y326 z326 st326 hQ326
          subst l326 y326 z326
          obtain ⟨N326q, K326q, b326_o0, rfl, G327⟩ := hQ326
          have N326 := Fr.app N308 N326q
          have K326 : Keep h0 T326.heap [] := K308.trans K326q all0
          have Z326 : n0 ≤ T326.heap.size := Nat.le_trans Z308 K326q.1
          have G328 := (G312.keep K326q all0)
          have G329 := (own_sta_keep0 G313 K326q)
          have G330 := (own_sta_keep0 G314 K326q)
          have G331 := (G315.keep K326q)
          have G332 := (G316.keep K326q nin0)
          have G333 := (G317.keep K326q nin0)
          have G334 := (G309.keep K326q)
          have G335 := (G310.keep K326q nin0)
          have G336 := (G311.keep K326q nin0)
          refine own_step (fun _ k => st326 _ k) ?_
          show own_Fin p e below s _ _ _ (T326.setTop (mkF m 94 #[.val (.int p0), .val (.int p1), .val (.int p2), .val (.int p3), .val (.int p4), .val (.int p0), .val (.int p1), .val (.ref b285), .val (.ref b299), .val (.int (1 : Int32)), .unset] [(.ref b326_o0)]))
          refine own_step (fun _ k => XS.astore X326.here hx rfl (hb hby at_94) rfl rfl (l' := #[.val (.int p0), .val (.int p1), .val (.int p2), .val (.int p3), .val (.int p4), .val (.int p0), .val (.int p1), .val (.ref b285), .val (.ref b299), .val (.int (1 : Int32)), .val (.ref b326_o0)]) rfl k) ?_
          show own_Fin p e below s _ _ _ (T326.setTop (mkF m 96 #[.val (.int p0), .val (.int p1), .val (.int p2), .val (.int p3), .val (.int p4), .val (.int p0), .val (.int p1), .val (.ref b285), .val (.ref b299), .val (.int (1 : Int32)), .val (.ref b326_o0)] []))
          refine own_step (fun _ k => XS.aload X326.here hx rfl (hb hby at_96) rfl rfl k) ?_
          show own_Fin p e below s _ _ _ (T326.setTop (mkF m 98 #[.val (.int p0), .val (.int p1), .val (.int p2), .val (.int p3), .val (.int p4), .val (.int p0), .val (.int p1), .val (.ref b285), .val (.ref b299), .val (.int (1 : Int32)), .val (.ref b326_o0)] [(.ref b285)]))
          refine own_step (fun _ k => XS.aload X326.here hx rfl (hb hby at_98) rfl rfl k) ?_
          show own_Fin p e below s _ _ _ (T326.setTop (mkF m 100 #[.val (.int p0), .val (.int p1), .val (.int p2), .val (.int p3), .val (.int p4), .val (.int p0), .val (.int p1), .val (.ref b285), .val (.ref b299), .val (.int (1 : Int32)), .val (.ref b326_o0)] [(.ref b326_o0), (.ref b285)]))
          obtain ⟨cq337, kq337, q337a, q337b, q337c⟩ := isOf hZ rfl G331
          obtain ⟨_, _, ⟨T337, L337, k337, n337⟩, -, X337, ⟨Lc337, hQ337, l337, y337, z337⟩, st337⟩ := X326.virtualBack hx (y := own_y4) (z := own_y4) hown (mvT hZ (own_w hw 18 rfl)) (mvT hZ (own_w hw 19 rfl)) (notFace_of_selects (args := #[]) (mvT hZ (own_w hw 21 rfl))) (mvT hZ (own_w hw 21 rfl)) (mvT hZ (own_w hw 20 rfl)) (by decide) (backOf (W := 0) (own_rm7 l Z a0 hw hs [] b285 b326_o0 T326.heap n0 Z326 G327) hZ (own_w hw 22 rfl) (own_w hw 2 rfl) (by decide) (by decide)) q337a q337c (g := (mkF m 100 #[.val (.int p0), .val (.int p1), .val (.int p2), .val (.int p3), .val (.int p4), .val (.int p0), .val (.int p1), .val (.ref b285), .val (.ref b299), .val (.int (1 : Int32)), .val (.ref b326_o0)] [(.ref b326_o0), (.ref b285)])) rfl (by rw [hml]; rfl) (Steps.refl _) (argsL := [(.ref b326_o0)]) (rest := []) (lenOf own_pd3 rfl) rfl (by show 2 * 0 + _ ≤ _; exact Nat.le_of_eq rfl) (hb hby at_100) (fun _ _ => ⟨rfl, rfl, (by decide : 3 + 0 ≤ _), (by decide : 5 + 0 ≤ _)⟩)
          dsimp only [Pt.U, Pt.locs, Pt.cells, Pt.slots] at X337 l337 y337 z337 st337 hQ337
          subst l337 y337 z337
          obtain ⟨rfl, N337q, e337⟩ := hQ337
          have N337 := Fr.app N326 N337q
          refine own_step (fun _ k => st337.trans k) ?_
          show own_Fin p e below s _ _ _ (T337.setTop (mkF m 103 #[.val (.int p0), .val (.int p1), .val (.int p2), .val (.int p3), .val (.int p4), .val (.int p0), .val (.int p1), .val (.ref b285), .val (.ref b299), .val (.int (1 : Int32)), .val (.ref b326_o0)] [(.int (0 : Int32))]))
          refine own_step (fun _ k => XS.ifNo X337.here hx rfl (hb hby at_103) rfl ((if0 _ _).trans (teq (by decide : (0 : Int32) = (0 : Int32))).2) k) ?_
          show own_Fin p e below s _ _ _ (T337.setTop (mkF m 106 #[.val (.int p0), .val (.int p1), .val (.int p2), .val (.int p3), .val (.int p4), .val (.int p0), .val (.int p1), .val (.ref b285), .val (.ref b299), .val (.int (1 : Int32)), .val (.ref b326_o0)] []))
          refine own_step (fun _ k => XS.aload X337.here hx rfl (hb hby at_106) rfl rfl k) ?_
          show own_Fin p e below s _ _ _ (T337.setTop (mkF m 108 #[.val (.int p0), .val (.int p1), .val (.int p2), .val (.int p3), .val (.int p4), .val (.int p0), .val (.int p1), .val (.ref b285), .val (.ref b299), .val (.int (1 : Int32)), .val (.ref b326_o0)] [(.ref b285)]))
          refine own_step (fun _ k => XS.aload X337.here hx rfl (hb hby at_108) rfl rfl k) ?_
          show own_Fin p e below s _ _ _ (T337.setTop (mkF m 110 #[.val (.int p0), .val (.int p1), .val (.int p2), .val (.int p3), .val (.int p4), .val (.int p0), .val (.int p1), .val (.ref b285), .val (.ref b299), .val (.int (1 : Int32)), .val (.ref b326_o0)] [(.ref b285), (.ref b285)]))
          obtain ⟨cq338, kq338, q338a, q338b, q338c⟩ := isOf hZ e337 G331
          obtain ⟨_, _, ⟨T338, L338, k338, n338⟩, -, X338, ⟨Lc338, hQ338, l338, y338, z338⟩, st338⟩ := X337.virtualBack hx (y := own_y4) (z := own_y4) hown (mvT hZ (own_w hw 18 rfl)) (mvT hZ (own_w hw 19 rfl)) (notFace_of_selects (args := #[]) (mvT hZ (own_w hw 21 rfl))) (mvT hZ (own_w hw 21 rfl)) (mvT hZ (own_w hw 20 rfl)) (by decide) (backOf (W := 0) (own_rm8 l Z a0 hw hs [] b285 b285 p0 p0 p1 p1 T326.heap n0 Z326 G331 G332 G332 G333 G333) hZ (own_w hw 22 rfl) (own_w hw 2 rfl) (by decide) (by decide)) q338a q338c (g := (mkF m 110 #[.val (.int p0), .val (.int p1), .val (.int p2), .val (.int p3), .val (.int p4), .val (.int p0), .val (.int p1), .val (.ref b285), .val (.ref b299), .val (.int (1 : Int32)), .val (.ref b326_o0)] [(.ref b285), (.ref b285)])) rfl (by rw [hml]; rfl) (Steps.refl _) (argsL := [(.ref b285)]) (rest := []) (lenOf own_pd3 rfl) rfl (by show 2 * 0 + _ ≤ _; exact Nat.le_of_eq rfl) (hb hby at_110) (fun _ _ => ⟨rfl, e337, (by decide : 3 + 0 ≤ _), (by decide : 5 + 0 ≤ _)⟩)
          dsimp only [Pt.U, Pt.locs, Pt.cells, Pt.slots] at X338 l338 y338 z338 st338 hQ338
          subst l338 y338 z338
          obtain ⟨rfl, N338q, e338⟩ := hQ338
          have N338 := Fr.app N337 N338q
          refine own_step (fun _ k => st338.trans k) ?_
          show own_Fin p e below s _ _ _ (T338.setTop (mkF m 113 #[.val (.int p0), .val (.int p1), .val (.int p2), .val (.int p3), .val (.int p4), .val (.int p0), .val (.int p1), .val (.ref b285), .val (.ref b299), .val (.int (1 : Int32)), .val (.ref b326_o0)] [(.int (own_r8 p0 p0 p1 p1))]))
          have hf339 : ¬ ((own_r8 p0 p0 p1 p1) = (0 : Int32)) := by rw [show (own_r8 p0 p0 p1 p1) = (1 : Int32) from by rw [own_r8, if_pos (rfl), if_pos (rfl)]]; decide
          refine own_step (fun _ k => XS.ifNo X338.here hx rfl (hb hby at_113) rfl ((if0 _ _).trans (feq hf339).1) k) ?_
          show own_Fin p e below s _ _ _ (T338.setTop (mkF m 116 #[.val (.int p0), .val (.int p1), .val (.int p2), .val (.int p3), .val (.int p4), .val (.int p0), .val (.int p1), .val (.ref b285), .val (.ref b299), .val (.int (1 : Int32)), .val (.ref b326_o0)] []))
          refine own_step (fun _ k => XS.iconst X338.here hx rfl (hb hby at_116) k) ?_
          show own_Fin p e below s _ _ _ (T338.setTop (mkF m 117 #[.val (.int p0), .val (.int p1), .val (.int p2), .val (.int p3), .val (.int p4), .val (.int p0), .val (.int p1), .val (.ref b285), .val (.ref b299), .val (.int (1 : Int32)), .val (.ref b326_o0)] [(.int (1 : Int32))]))
          refine own_step (fun _ k => XS.goto X338.here hx rfl (pc0 := 117) (pc' := 121) rfl (hb hby at_117) (by decide) (by decide) k) ?_
          show own_Fin p e below s _ _ _ (T338.setTop (mkF m 121 #[.val (.int p0), .val (.int p1), .val (.int p2), .val (.int p3), .val (.int p4), .val (.int p0), .val (.int p1), .val (.ref b285), .val (.ref b299), .val (.int (1 : Int32)), .val (.ref b326_o0)] [(.int (1 : Int32))]))
          exact own_ret X338 hlk (v := some (.int (1 : Int32))) (fun h => by rw [Bd.returns] at h; cases h) (by decide) (by decide) (by show own_Q9 Z p0 p1 p2 p3 p4 s_cache cl_cache h0 n0 _ T338.heap _; rw [e338]; exact ⟨rfl, N338⟩) (fun fs hr => retN X338 hx (t := .boolean) Bd.returns (by simp) (hb hby at_121) hr)
        · refine own_step (fun _ k => XS.ifNo X308.here hx rfl (hb hby at_83) rfl ((if0 _ _).trans (feq hc325).1) k) ?_
          show own_Fin p e below s _ _ _ (T308.setTop (mkF m 86 #[.val (.int p0), .val (.int p1), .val (.int p2), .val (.int p3), .val (.int p4), .val (.int p0), .val (.int p1), .val (.ref b285), .val (.ref b299), .val (.int (1 : Int32)), .unset] []))
          refine own_step (fun _ k => XS.aconstNull X308.here hx rfl (hb hby at_86) k) ?_
          show own_Fin p e below s _ _ _ (T308.setTop (mkF m 87 #[.val (.int p0), .val (.int p1), .val (.int p2), .val (.int p3), .val (.int p4), .val (.int p0), .val (.int p1), .val (.ref b285), .val (.ref b299), .val (.int (1 : Int32)), .unset] [.null]))
          refine own_step (fun _ k => XS.goto X308.here hx rfl (pc0 := 87) (pc' := 94) rfl (hb hby at_87) (by decide) (by decide) k) ?_
          show own_Fin p e below s _ _ _ (T308.setTop (mkF m 94 #[.val (.int p0), .val (.int p1), .val (.int p2), .val (.int p3), .val (.int p4), .val (.int p0), .val (.int p1), .val (.ref b285), .val (.ref b299), .val (.int (1 : Int32)), .unset] [.null]))
          refine own_step (fun _ k => XS.astore X308.here hx rfl (hb hby at_94) rfl rfl (l' := #[.val (.int p0), .val (.int p1), .val (.int p2), .val (.int p3), .val (.int p4), .val (.int p0), .val (.int p1), .val (.ref b285), .val (.ref b299), .val (.int (1 : Int32)), .val .null]) rfl k) ?_
          show own_Fin p e below s _ _ _ (T308.setTop (mkF m 96 #[.val (.int p0), .val (.int p1), .val (.int p2), .val (.int p3), .val (.int p4), .val (.int p0), .val (.int p1), .val (.ref b285), .val (.ref b299), .val (.int (1 : Int32)), .val .null] []))
          refine own_step (fun _ k => XS.aload X308.here hx rfl (hb hby at_96) rfl rfl k) ?_
          show own_Fin p e below s _ _ _ (T308.setTop (mkF m 98 #[.val (.int p0), .val (.int p1), .val (.int p2), .val (.int p3), .val (.int p4), .val (.int p0), .val (.int p1), .val (.ref b285), .val (.ref b299), .val (.int (1 : Int32)), .val .null] [(.ref b285)]))
          refine own_step (fun _ k => XS.aload X308.here hx rfl (hb hby at_98) rfl rfl k) ?_
          show own_Fin p e below s _ _ _ (T308.setTop (mkF m 100 #[.val (.int p0), .val (.int p1), .val (.int p2), .val (.int p3), .val (.int p4), .val (.int p0), .val (.int p1), .val (.ref b285), .val (.ref b299), .val (.int (1 : Int32)), .val .null] [.null, (.ref b285)]))
          obtain ⟨cq340, kq340, q340a, q340b, q340c⟩ := isOf hZ rfl G315
          obtain ⟨_, _, ⟨T340, L340, k340, n340⟩, -, X340, ⟨Lc340, hQ340, l340, y340, z340⟩, st340⟩ := X308.virtualBack hx (y := own_y4) (z := own_y4) hown (mvT hZ (own_w hw 18 rfl)) (mvT hZ (own_w hw 19 rfl)) (notFace_of_selects (args := #[]) (mvT hZ (own_w hw 21 rfl))) (mvT hZ (own_w hw 21 rfl)) (mvT hZ (own_w hw 20 rfl)) (by decide) (backOf (W := 0) (own_rm6 l Z a0 hw hs [] b285 T308.heap n0 Z308 ) hZ (own_w hw 22 rfl) (own_w hw 2 rfl) (by decide) (by decide)) q340a q340c (g := (mkF m 100 #[.val (.int p0), .val (.int p1), .val (.int p2), .val (.int p3), .val (.int p4), .val (.int p0), .val (.int p1), .val (.ref b285), .val (.ref b299), .val (.int (1 : Int32)), .val .null] [.null, (.ref b285)])) rfl (by rw [hml]; rfl) (Steps.refl _) (argsL := [.null]) (rest := []) (lenOf own_pd3 rfl) rfl (by show 2 * 0 + _ ≤ _; exact Nat.le_of_eq rfl) (hb hby at_100) (fun _ _ => ⟨rfl, rfl, (by decide : 2 + 0 ≤ _), (by decide : 4 + 0 ≤ _)⟩)
          dsimp only [Pt.U, Pt.locs, Pt.cells, Pt.slots] at X340 l340 y340 z340 st340 hQ340
          subst l340 y340 z340
          obtain ⟨rfl, N340q, e340⟩ := hQ340
          have N340 := Fr.app N308 N340q
          refine own_step (fun _ k => st340.trans k) ?_
          show own_Fin p e below s _ _ _ (T340.setTop (mkF m 103 #[.val (.int p0), .val (.int p1), .val (.int p2), .val (.int p3), .val (.int p4), .val (.int p0), .val (.int p1), .val (.ref b285), .val (.ref b299), .val (.int (1 : Int32)), .val .null] [(.int (0 : Int32))]))
          refine own_step (fun _ k => XS.ifNo X340.here hx rfl (hb hby at_103) rfl ((if0 _ _).trans (teq (by decide : (0 : Int32) = (0 : Int32))).2) k) ?_
          show own_Fin p e below s _ _ _ (T340.setTop (mkF m 106 #[.val (.int p0), .val (.int p1), .val (.int p2), .val (.int p3), .val (.int p4), .val (.int p0), .val (.int p1), .val (.ref b285), .val (.ref b299), .val (.int (1 : Int32)), .val .null] []))
          refine own_step (fun _ k => XS.aload X340.here hx rfl (hb hby at_106) rfl rfl k) ?_
          show own_Fin p e below s _ _ _ (T340.setTop (mkF m 108 #[.val (.int p0), .val (.int p1), .val (.int p2), .val (.int p3), .val (.int p4), .val (.int p0), .val (.int p1), .val (.ref b285), .val (.ref b299), .val (.int (1 : Int32)), .val .null] [(.ref b285)]))
          refine own_step (fun _ k => XS.aload X340.here hx rfl (hb hby at_108) rfl rfl k) ?_
          show own_Fin p e below s _ _ _ (T340.setTop (mkF m 110 #[.val (.int p0), .val (.int p1), .val (.int p2), .val (.int p3), .val (.int p4), .val (.int p0), .val (.int p1), .val (.ref b285), .val (.ref b299), .val (.int (1 : Int32)), .val .null] [(.ref b285), (.ref b285)]))
          obtain ⟨cq341, kq341, q341a, q341b, q341c⟩ := isOf hZ e340 G315
          obtain ⟨_, _, ⟨T341, L341, k341, n341⟩, -, X341, ⟨Lc341, hQ341, l341, y341, z341⟩, st341⟩ := X340.virtualBack hx (y := own_y4) (z := own_y4) hown (mvT hZ (own_w hw 18 rfl)) (mvT hZ (own_w hw 19 rfl)) (notFace_of_selects (args := #[]) (mvT hZ (own_w hw 21 rfl))) (mvT hZ (own_w hw 21 rfl)) (mvT hZ (own_w hw 20 rfl)) (by decide) (backOf (W := 0) (own_rm8 l Z a0 hw hs [] b285 b285 p0 p0 p1 p1 T308.heap n0 Z308 G315 G316 G316 G317 G317) hZ (own_w hw 22 rfl) (own_w hw 2 rfl) (by decide) (by decide)) q341a q341c (g := (mkF m 110 #[.val (.int p0), .val (.int p1), .val (.int p2), .val (.int p3), .val (.int p4), .val (.int p0), .val (.int p1), .val (.ref b285), .val (.ref b299), .val (.int (1 : Int32)), .val .null] [(.ref b285), (.ref b285)])) rfl (by rw [hml]; rfl) (Steps.refl _) (argsL := [(.ref b285)]) (rest := []) (lenOf own_pd3 rfl) rfl (by show 2 * 0 + _ ≤ _; exact Nat.le_of_eq rfl) (hb hby at_110) (fun _ _ => ⟨rfl, e340, (by decide : 2 + 0 ≤ _), (by decide : 4 + 0 ≤ _)⟩)
          dsimp only [Pt.U, Pt.locs, Pt.cells, Pt.slots] at X341 l341 y341 z341 st341 hQ341
          subst l341 y341 z341
          obtain ⟨rfl, N341q, e341⟩ := hQ341
          have N341 := Fr.app N340 N341q
          refine own_step (fun _ k => st341.trans k) ?_
          show own_Fin p e below s _ _ _ (T341.setTop (mkF m 113 #[.val (.int p0), .val (.int p1), .val (.int p2), .val (.int p3), .val (.int p4), .val (.int p0), .val (.int p1), .val (.ref b285), .val (.ref b299), .val (.int (1 : Int32)), .val .null] [(.int (own_r8 p0 p0 p1 p1))]))
          have hf342 : ¬ ((own_r8 p0 p0 p1 p1) = (0 : Int32)) := by rw [show (own_r8 p0 p0 p1 p1) = (1 : Int32) from by rw [own_r8, if_pos (rfl), if_pos (rfl)]]; decide
          refine own_step (fun _ k => XS.ifNo X341.here hx rfl (hb hby at_113) rfl ((if0 _ _).trans (feq hf342).1) k) ?_
          show own_Fin p e below s _ _ _ (T341.setTop (mkF m 116 #[.val (.int p0), .val (.int p1), .val (.int p2), .val (.int p3), .val (.int p4), .val (.int p0), .val (.int p1), .val (.ref b285), .val (.ref b299), .val (.int (1 : Int32)), .val .null] []))
          refine own_step (fun _ k => XS.iconst X341.here hx rfl (hb hby at_116) k) ?_
          show own_Fin p e below s _ _ _ (T341.setTop (mkF m 117 #[.val (.int p0), .val (.int p1), .val (.int p2), .val (.int p3), .val (.int p4), .val (.int p0), .val (.int p1), .val (.ref b285), .val (.ref b299), .val (.int (1 : Int32)), .val .null] [(.int (1 : Int32))]))
          refine own_step (fun _ k => XS.goto X341.here hx rfl (pc0 := 117) (pc' := 121) rfl (hb hby at_117) (by decide) (by decide) k) ?_
          show own_Fin p e below s _ _ _ (T341.setTop (mkF m 121 #[.val (.int p0), .val (.int p1), .val (.int p2), .val (.int p3), .val (.int p4), .val (.int p0), .val (.int p1), .val (.ref b285), .val (.ref b299), .val (.int (1 : Int32)), .val .null] [(.int (1 : Int32))]))
          exact own_ret X341 hlk (v := some (.int (1 : Int32))) (fun h => by rw [Bd.returns] at h; cases h) (by decide) (by decide) (by show own_Q9 Z p0 p1 p2 p3 p4 s_cache cl_cache h0 n0 _ T341.heap _; rw [e341]; exact ⟨rfl, N341⟩) (fun fs hr => retN X341 hx (t := .boolean) Bd.returns (by simp) (hb hby at_121) hr)

set_option maxRecDepth 65536 in
set_option maxHeartbeats 40000000 in
theorem comes_1 {Post : Tables → Env → Array Value → State → Outcome → State → Prop} (hpost : ∀ tb e args s v u, (limb_1_1.after args s (.returned v) u = true ∧ limb_1_2.after args s (.returned v) u = true ∧ True) → FrameEnd s (.returned v) u (Jvm.fieldLocs frame_1_writes args s ++ Jvm.arrayLocs frame_1_arrays args s ++ Jvm.staticLocs frame_1_statics s) 16 128 → Post tb e args s (.returned v) u) :
    ArmFor flags0 classFile x code maxLocals ret World_1 tables_1 room_1 Calls_1 rest_1 Pre_1 Post := by
  intro l hfl _ _ p e ha hc hk s m args below hf hA hF happ hP
  obtain ⟨hcalls, hrest, hpre⟩ := hP
  obtain ⟨-, -, -, hnamed, -, -, -, hat⟩ := (Spec.applies_iff hf).mp happ
  obtain ⟨hg, hn⟩ := and_e (Cond.before_iff.mp (show (Jvm.Cond.and given_1 narrow_1).before args s = true from hpre))
  obtain ⟨cj1a, cj1b⟩ := and_e hg
  obtain ⟨cj2a, cj2b⟩ := and_e cj1b
  obtain ⟨cj3a, cj3b⟩ := and_e cj2b
  obtain ⟨cj4a, cj4b⟩ := and_e cj3b
  obtain ⟨cj5a, cj5b⟩ := and_e cj4b
  obtain ⟨w0, w1, w2, w3, w4, rfl⟩ : ∃ w0 w1 w2 w3 w4 : Value, args = #[w0, w1, w2, w3, w4] := by
    have hs : args.size = 5 := by simpa [Cond.value, given_1] using cj1a
    obtain ⟨L⟩ := args
    match L, hs with
    | [w0, w1, w2, w3, w4], _ => exact ⟨w0, w1, w2, w3, w4, rfl⟩
  have hw := fun d (hd : d ∈ tables_1) => atoms_spec (ws := Jvm.Cond.code x code maxLocals ret :: tables_1) hat d (List.mem_cons_of_mem _ hd)
  have hfit : Fit s := fun {y c} hc i hi => by
    obtain ⟨ha, rfl⟩ := Array.getElem?_eq_some_iff.mp hc
    have q := List.all_eq_true.mp ((Array.all_eq_true_iff_forall_mem.mp hF) _ (Array.getElem_mem ha)) i (List.mem_range.mpr hi)
    simpa [Array.getElem?_eq_getElem hi] using q
  obtain ⟨hs, hown0⟩ := atoms_of _ (rest_1_c_eq ▸ (show rest_1_c.before _ s = true from hrest))
  have hr0 := Cond.before_iff.mp hown0
  obtain ⟨i0, ei0⟩ := is_v cj2a
  obtain rfl : w0 = (.int i0) := Option.some.inj ei0
  obtain ⟨i1, ei1⟩ := is_v cj3a
  obtain rfl : w1 = (.int i1) := Option.some.inj ei1
  obtain ⟨i2, ei2⟩ := is_v cj4a
  obtain rfl : w2 = (.int i2) := Option.some.inj ei2
  obtain ⟨i3, ei3⟩ := is_v cj5a
  obtain rfl : w3 = (.int i3) := Option.some.inj ei3
  obtain ⟨i4, ei4⟩ := is_v cj5b
  obtain rfl : w4 = (.int i4) := Option.some.inj ei4
  have ev_s_high := eqv_i rfl (Cond.before_iff.mp (hs _ (List.mem_of_getElem? (i := 3) rfl)))
  have S_high : Sta s s.heap "java/lang/Integer$IntegerCache" "high" "I" (.int (127 : Int32)) := Sta.start ev_s_high (Or.inl (own_w hs 1 rfl))
  obtain ⟨s_cache, ev_s_cache⟩ := arr_v (Cond.before_iff.mp (hs _ (List.mem_of_getElem? (i := 4) rfl)))
  have S_cache : Sta s s.heap "java/lang/Integer$IntegerCache" "cache" "[Ljava/lang/Integer;" (.ref s_cache) := Sta.start ev_s_cache (Or.inr ⟨(own_w hw 30 rfl), (own_w hs 2 rfl)⟩)
  obtain ⟨cl_s_cache, Ar_s_cache⟩ := Arr.start ev_s_cache (Cond.before_iff.mp (hs _ (List.mem_of_getElem? (i := 4) rfl)))
  have E_s_cache : Exa s s.heap s_cache "[Ljava/lang/Integer;" := Exa.start ev_s_cache (Cond.before_iff.mp (hs _ (List.mem_of_getElem? (i := 5) rfl)))
  obtain ⟨lb_s_cache, le_s_cache⟩ := own_len ev_s_cache Ar_s_cache (Cond.before_iff.mp (hs _ (List.mem_of_getElem? (i := 6) rfl)))
  have Bx : Bxs s s_cache cl_s_cache "java/lang/Integer" "I" (256 : Int32) (fun j => .int (j - (128 : Int32))) := Bxs.start (fun _ => ev_s_cache) Ar_s_cache lb_s_cache le_s_cache (by decide) (Cond.before_iff.mp (hs _ (List.mem_of_getElem? (i := 7) rfl))) (fun X j hj h => eqv_i (y := j - (128 : Int32)) (by simp [Term.eval, (back32 hj).1]) h)
  obtain ⟨n, o, h1, h2, h3, _, L, rfl, ⟨rfl, N⟩, hq⟩ := own_rm9 l s _ hw hs tables_1 i0 i1 i2 i3 i4 s_cache cl_s_cache s.heap s.heap.size (Nat.le_refl _) (Old.start s) S_high S_cache Bx p e ha hc hk s m _ below hf ((Spec.applies_iff_loose hf).mp happ).1 ⟨rfl, State.Warmed39.refl s, rfl⟩ trivial
  refine ⟨n, _, h1, h2, h3, hpost _ _ _ _ _ _ ⟨Cond.after_iff.mpr rfl, Cond.after_iff.mpr (eq_i res_at (Term.int_eval (1)) rfl), trivial⟩ ⟨hq.1, hq.2.1, (hq.2.2.sift fun y hy => Or.inr (N y hy)).mono (by decide) (by decide)⟩⟩
theorem main_1_1 : Claimed_1_1 := comes_1 fun _ _ _ _ _ _ h hF => ⟨h.1, hF⟩
theorem main_1_2 : Claimed_1_2 := comes_1 fun _ _ _ _ _ _ h hF => ⟨h.2.1, hF⟩
end Jvm.Pilot.@@N@@
namespace Jvm.Pilot.@@N@@
open Jvm Jvm.ClassFile Sem Op Lib Jvm.Free Jvm.Stand Jvm.Pilot.@@N@@.Jvm.D
/-! MADE BY PROGRAM (witnessworld.py) out of the Statement's table words and the real class files: 17 classes; the members and pool entries that the words name. The judged class is class 1, her method 1. -/
namespace start1
open Jvm.ClassFile
def u (s : String) : CpInfo := .utf8 (stringToUtf16 s)
/-- a pool by its gaps: so many unusable entries, then the entry; so many at the end -/
def gap : Nat → List CpInfo → List CpInfo
  | 0, r => r
  | n + 1, r => .unusable :: gap n r
def poolList (es : List (Nat × CpInfo)) (last : Nat) : List CpInfo := es.foldr (fun e r => gap e.1 (e.2 :: r)) (gap last [])
def pool (es : List (Nat × CpInfo)) (last : Nat) : Array CpInfo := ⟨poolList es last⟩
def fileOf (pool : Array CpInfo) (this : Nat) (attrs : Array Attribute := #[]) (ms : Array MethodInfo := #[]) (fl : Nat := 33) (sup : Nat := 0) (ifs : Array Nat := #[]) (fds : Array FieldInfo := #[]) : ClassFile where
  minorVersion := 0
  majorVersion := 65
  constantPool := pool
  accessFlags := fl
  thisClass := this
  superClass := sup
  interfaces := ifs
  fields := fds
  methods := ms
  attributes := attrs
def plain (name : String) (sup : Option ClassId) : Class where
  name := name
  kind := .ordinary
  loader := none
  accessFlags := 33
  super := sup
  interfaces := #[]
  cf := none
  fields := #[]
  methods := #[]
  instanceTypes := #[]
  staticTypes := #[]
  resolved := #[]
  callSites := []
  init := .initialized
  statics := none
  mirror := none

def pool0 : Array CpInfo := pool [(5, u "<init>"), (0, u "()V"), (1, .class_ 10), (1, u "java/lang/Object")] 113

def k0c0 : Code := { maxStack := 0, maxLocals := 1, code := object_method_1_code, exceptionTable := #[], attributes := #[] }
def k0m0 : Method := { name := "<init>", desc := "()V", sig := { parameters := [], returnType := none }, accessFlags := 1, code := some k0c0 }
/-- java/lang/Object -/
def k0 : Class := { plain "java/lang/Object" none with
  accessFlags := 33
  interfaces := #[]
  cf := some (fileOf pool0 8 #[] #[{ accessFlags := 1, nameIndex := 5, descriptorIndex := 6, attributes := #[] }] 33 0 #[] #[])
  fields := #[]
  methods := #[k0m0]
  instanceTypes := #[]
  staticTypes := #[]
  resolved := Array.replicate 124 none
  statics := none }

def pool1 : Array CpInfo := pool [(2, .class_ 4), (1, u "java/lang/Object"), (0, u "<init>"), (0, u "()V"), (0, .class_ 8), (0, u "com/example/tandem/tandem/analysis/Cuts$Range"), (0, .methodref 7 10), (0, .nameAndType 5 11), (0, u "(II)V"), (0, .methodref 13 14), (0, .class_ 15), (0, .nameAndType 16 17), (0, u "java/lang/Integer"), (0, u "valueOf"), (0, u "(I)Ljava/lang/Integer;"), (0, .methodref 7 19), (0, .nameAndType 20 21), (0, u "equals"), (0, u "(Ljava/lang/Object;)Z"), (0, .class_ 23), (0, u "com/example/tandem/tandem/analysis/RangeEqualsPinLaw"), (2, u "law"), (0, u "(IIIII)Z")] 7

def k1m0 : Method := { name := "<init>", desc := "()V", sig := { parameters := [], returnType := none }, accessFlags := 1, code := none }
def k1c1 : Code := { maxStack := 4, maxLocals := 11, code := code, exceptionTable := #[], attributes := #[] }
def k1m1 : Method := { name := "law", desc := "(IIIII)Z", sig := { parameters := [.int, .int, .int, .int, .int], returnType := some .boolean }, accessFlags := 9, code := some k1c1 }
/-- com/example/tandem/tandem/analysis/RangeEqualsPinLaw -/
def k1 : Class := { plain "com/example/tandem/tandem/analysis/RangeEqualsPinLaw" (some 0) with
  accessFlags := 49
  interfaces := #[]
  cf := some (fileOf pool1 22 #[] #[{ accessFlags := 1, nameIndex := 5, descriptorIndex := 6, attributes := #[] }, { accessFlags := 9, nameIndex := 26, descriptorIndex := 27, attributes := #[] }] 49 2 #[] #[])
  fields := #[]
  methods := #[k1m0, k1m1]
  instanceTypes := #[]
  staticTypes := #[]
  resolved := Array.replicate 35 none
  statics := none }

def pool2 : Array CpInfo := pool [(1, .methodref 2 3), (0, .class_ 4), (0, .nameAndType 5 6), (0, u "java/lang/Object"), (0, u "<init>"), (0, u "()V"), (0, .class_ 8), (0, u "java/lang/Record")] 13

def k2c0 : Code := { maxStack := 1, maxLocals := 1, code := jdk_30_method_1_code, exceptionTable := #[], attributes := #[] }
def k2m0 : Method := { name := "<init>", desc := "()V", sig := { parameters := [], returnType := none }, accessFlags := 4, code := some k2c0 }
/-- java/lang/Record -/
def k2 : Class := { plain "java/lang/Record" (some 0) with
  accessFlags := 1057
  interfaces := #[]
  cf := some (fileOf pool2 7 #[] #[{ accessFlags := 4, nameIndex := 5, descriptorIndex := 6, attributes := #[] }] 1057 2 #[] #[])
  fields := #[]
  methods := #[k2m0]
  instanceTypes := #[]
  staticTypes := #[]
  resolved := Array.replicate 22 none
  statics := none }

def pool3 : Array CpInfo := pool [(1, .methodref 2 3), (0, .class_ 4), (0, .nameAndType 5 6), (0, u "java/lang/Record"), (0, u "<init>"), (0, u "()V"), (0, .fieldref 8 9), (0, .class_ 10), (0, .nameAndType 11 12), (0, u "com/example/tandem/tandem/analysis/Cuts$Range"), (0, u "from"), (0, u "I"), (0, .fieldref 8 14), (0, .nameAndType 15 12), (0, u "to"), (4, u "(II)V"), (3, u "equals"), (0, u "(Ljava/lang/Object;)Z"), (7, .class_ 34), (0, u "com/example/tandem/tandem/analysis/Cuts")] 20

def k3c0 : Code := { maxStack := 2, maxLocals := 3, code := prog_10_method_1_code, exceptionTable := #[], attributes := #[] }
def k3m0 : Method := { name := "<init>", desc := "(II)V", sig := { parameters := [.int, .int], returnType := none }, accessFlags := 0, code := some k3c0 }
def k3c1 : Code := { maxStack := 2, maxLocals := 3, code := prog_10_method_2_code, exceptionTable := #[], attributes := #[] }
def k3m1 : Method := { name := "equals", desc := "(Ljava/lang/Object;)Z", sig := { parameters := [(.object "java/lang/Object")], returnType := some .boolean }, accessFlags := 1, code := some k3c1 }
/-- com/example/tandem/tandem/analysis/Cuts$Range -/
def k3 : Class := { plain "com/example/tandem/tandem/analysis/Cuts$Range" (some 2) with
  accessFlags := 48
  interfaces := #[]
  cf := some (fileOf pool3 8 #[.nestHost 33] #[{ accessFlags := 0, nameIndex := 5, descriptorIndex := 20, attributes := #[] }, { accessFlags := 1, nameIndex := 24, descriptorIndex := 25, attributes := #[] }] 48 2 #[] #[{ accessFlags := 18, nameIndex := 11, descriptorIndex := 12, attributes := #[] }, { accessFlags := 18, nameIndex := 15, descriptorIndex := 12, attributes := #[] }])
  fields := #[{ name := "from", type := .int, accessFlags := 18, slot := 0, constantValue := 0 }, { name := "to", type := .int, accessFlags := 18, slot := 1, constantValue := 0 }]
  methods := #[k3m0, k3m1]
  instanceTypes := #[.int, .int]
  staticTypes := #[]
  resolved := Array.replicate 55 none
  statics := none }

def pool4 : Array CpInfo := pool [(1, .class_ 2), (0, u "java/io/Serializable"), (0, .class_ 4), (0, u "java/lang/Object")] 2

/-- java/io/Serializable -/
def k4 : Class := { plain "java/io/Serializable" (some 0) with
  accessFlags := 1537
  interfaces := #[]
  cf := some (fileOf pool4 1 #[] #[] 1537 3 #[] #[])
  fields := #[]
  methods := #[]
  instanceTypes := #[]
  staticTypes := #[]
  resolved := Array.replicate 7 none
  statics := none }

def pool5 : Array CpInfo := pool [(1, .methodref 2 3), (0, .class_ 4), (0, .nameAndType 5 6), (0, u "java/lang/Object"), (0, u "<init>"), (0, u "()V"), (1, .class_ 10), (1, u "java/lang/Number"), (2, .class_ 14), (0, u "java/io/Serializable"), (0, u "serialVersionUID"), (0, u "J")] 20

def k5c0 : Code := { maxStack := 1, maxLocals := 1, code := jdk_18_method_1_code, exceptionTable := #[], attributes := #[] }
def k5m0 : Method := { name := "<init>", desc := "()V", sig := { parameters := [], returnType := none }, accessFlags := 1, code := some k5c0 }
/-- java/lang/Number -/
def k5 : Class := { plain "java/lang/Number" (some 0) with
  accessFlags := 1057
  interfaces := #[4]
  cf := some (fileOf pool5 8 #[] #[{ accessFlags := 1, nameIndex := 5, descriptorIndex := 6, attributes := #[] }] 1057 2 #[13] #[{ accessFlags := 26, nameIndex := 15, descriptorIndex := 16, attributes := #[] }])
  fields := #[{ name := "serialVersionUID", type := .long, accessFlags := 26, slot := 0, constantValue := 0 }]
  methods := #[k5m0]
  instanceTypes := #[]
  staticTypes := #[.long]
  resolved := Array.replicate 37 none
  statics := none }

def pool6 : Array CpInfo := pool [(1, .class_ 2), (0, u "java/lang/Comparable"), (0, .class_ 4), (0, u "java/lang/Object")] 7

/-- java/lang/Comparable -/
def k6 : Class := { plain "java/lang/Comparable" (some 0) with
  accessFlags := 1537
  interfaces := #[]
  cf := some (fileOf pool6 1 #[] #[] 1537 3 #[] #[])
  fields := #[]
  methods := #[]
  instanceTypes := #[]
  staticTypes := #[]
  resolved := Array.replicate 12 none
  statics := none }

def pool7 : Array CpInfo := pool [(1, .class_ 2), (0, u "java/lang/constant/Constable"), (0, .class_ 4), (0, u "java/lang/Object")] 6

/-- java/lang/constant/Constable -/
def k7 : Class := { plain "java/lang/constant/Constable" (some 0) with
  accessFlags := 1537
  interfaces := #[]
  cf := some (fileOf pool7 1 #[] #[] 1537 3 #[] #[])
  fields := #[]
  methods := #[]
  instanceTypes := #[]
  staticTypes := #[]
  resolved := Array.replicate 11 none
  statics := none }

def pool8 : Array CpInfo := pool [(1, .class_ 2), (0, u "java/lang/constant/ConstantDesc"), (0, .class_ 4), (0, u "java/lang/Object")] 32

/-- java/lang/constant/ConstantDesc -/
def k8 : Class := { plain "java/lang/constant/ConstantDesc" (some 0) with
  accessFlags := 1537
  interfaces := #[]
  cf := some (fileOf pool8 1 #[] #[] 1537 3 #[] #[])
  fields := #[]
  methods := #[]
  instanceTypes := #[]
  staticTypes := #[]
  resolved := Array.replicate 37 none
  statics := none }

def pool9 : Array CpInfo := pool [(1, .class_ 2), (0, u "java/lang/Integer"), (16, u "digits"), (0, u "[C"), (46, u "<init>"), (17, u "DigitOnes"), (0, u "[B"), (2, u "DigitTens"), (10, .nameAndType 67 101), (0, u "()V"), (85, u "valueOf"), (0, u "(I)Ljava/lang/Integer;"), (0, .class_ 190), (0, u "java/lang/Integer$IntegerCache"), (0, .fieldref 189 192), (0, .nameAndType 193 194), (0, u "high"), (0, u "I"), (0, .fieldref 189 196), (0, .nameAndType 197 198), (0, u "cache"), (0, u "[Ljava/lang/Integer;"), (0, .methodref 1 200), (0, .nameAndType 67 201), (0, u "(I)V"), (0, .methodref 203 100), (0, .class_ 204), (0, u "java/lang/Number"), (0, .fieldref 1 206), (0, .nameAndType 207 194), (0, u "value"), (94, u "TYPE"), (0, u "Ljava/lang/Class;"), (0, .class_ 305), (0, u "java/lang/Comparable"), (0, .class_ 307), (0, u "java/lang/constant/Constable"), (0, .class_ 309), (0, u "java/lang/constant/ConstantDesc"), (0, u "MIN_VALUE"), (1, u "MAX_VALUE"), (3, u "SIZE"), (1, u "BYTES"), (1, u "serialVersionUID"), (0, u "J")] 131

def k9c0 : Code := { maxStack := 3, maxLocals := 1, code := jdk_33_method_22_code, exceptionTable := #[], attributes := #[] }
def k9m0 : Method := { name := "valueOf", desc := "(I)Ljava/lang/Integer;", sig := { parameters := [.int], returnType := some (.object "java/lang/Integer") }, accessFlags := 9, code := some k9c0 }
def k9c1 : Code := { maxStack := 2, maxLocals := 2, code := jdk_33_method_23_code, exceptionTable := #[], attributes := #[] }
def k9m1 : Method := { name := "<init>", desc := "(I)V", sig := { parameters := [.int], returnType := none }, accessFlags := 1, code := some k9c1 }
/-- java/lang/Integer -/
def k9 : Class := { plain "java/lang/Integer" (some 5) with
  accessFlags := 49
  interfaces := #[6, 7, 8]
  cf := some (fileOf pool9 1 #[.nestMembers #[189]] #[{ accessFlags := 9, nameIndex := 187, descriptorIndex := 188, attributes := #[] }, { accessFlags := 1, nameIndex := 67, descriptorIndex := 201, attributes := #[] }] 49 203 #[304, 306, 308] #[{ accessFlags := 25, nameIndex := 310, descriptorIndex := 194, attributes := #[] }, { accessFlags := 25, nameIndex := 312, descriptorIndex := 194, attributes := #[] }, { accessFlags := 25, nameIndex := 302, descriptorIndex := 303, attributes := #[] }, { accessFlags := 24, nameIndex := 19, descriptorIndex := 20, attributes := #[] }, { accessFlags := 24, nameIndex := 89, descriptorIndex := 86, attributes := #[] }, { accessFlags := 24, nameIndex := 85, descriptorIndex := 86, attributes := #[] }, { accessFlags := 18, nameIndex := 207, descriptorIndex := 194, attributes := #[] }, { accessFlags := 25, nameIndex := 316, descriptorIndex := 194, attributes := #[] }, { accessFlags := 25, nameIndex := 318, descriptorIndex := 194, attributes := #[] }, { accessFlags := 26, nameIndex := 320, descriptorIndex := 321, attributes := #[] }])
  fields := #[{ name := "MIN_VALUE", type := .int, accessFlags := 25, slot := 0, constantValue := 0 }, { name := "MAX_VALUE", type := .int, accessFlags := 25, slot := 1, constantValue := 0 }, { name := "TYPE", type := (.object "java/lang/Class"), accessFlags := 25, slot := 2, constantValue := 0 }, { name := "digits", type := (.array .char), accessFlags := 24, slot := 3, constantValue := 0 }, { name := "DigitTens", type := (.array .byte), accessFlags := 24, slot := 4, constantValue := 0 }, { name := "DigitOnes", type := (.array .byte), accessFlags := 24, slot := 5, constantValue := 0 }, { name := "value", type := .int, accessFlags := 18, slot := 0, constantValue := 0 }, { name := "SIZE", type := .int, accessFlags := 25, slot := 6, constantValue := 0 }, { name := "BYTES", type := .int, accessFlags := 25, slot := 7, constantValue := 0 }, { name := "serialVersionUID", type := .long, accessFlags := 26, slot := 8, constantValue := 0 }]
  methods := #[k9m0, k9m1]
  instanceTypes := #[.int]
  staticTypes := #[.int, .int, (.object "java/lang/Class"), (.array .char), (.array .byte), (.array .byte), .int, .int, .long]
  resolved := Array.replicate 453 none
  statics := none }

def pool10 : Array CpInfo := pool [(2, .class_ 4), (1, u "java/lang/Object"), (0, u "<init>"), (0, u "()V"), (0, .class_ 8), (0, u "java/lang/Integer"), (7, .class_ 18), (1, u "java/lang/Integer$IntegerCache"), (0, u "$assertionsDisabled"), (0, u "Z"), (26, u "high"), (0, u "I"), (8, u "archivedCache"), (0, u "[Ljava/lang/Integer;"), (12, u "cache"), (0, u "low")] 27

def k10m0 : Method := { name := "<init>", desc := "()V", sig := { parameters := [], returnType := none }, accessFlags := 2, code := none }
/-- java/lang/Integer$IntegerCache -/
def k10 : Class := { plain "java/lang/Integer$IntegerCache" (some 0) with
  accessFlags := 48
  interfaces := #[]
  cf := some (fileOf pool10 16 #[.nestHost 7] #[{ accessFlags := 2, nameIndex := 5, descriptorIndex := 6, attributes := #[] }] 48 2 #[] #[{ accessFlags := 24, nameIndex := 72, descriptorIndex := 48, attributes := #[] }, { accessFlags := 24, nameIndex := 47, descriptorIndex := 48, attributes := #[] }, { accessFlags := 24, nameIndex := 71, descriptorIndex := 58, attributes := #[] }, { accessFlags := 8, nameIndex := 57, descriptorIndex := 58, attributes := #[] }, { accessFlags := 4120, nameIndex := 19, descriptorIndex := 20, attributes := #[] }])
  fields := #[{ name := "low", type := .int, accessFlags := 24, slot := 0, constantValue := 0 }, { name := "high", type := .int, accessFlags := 24, slot := 1, constantValue := 0 }, { name := "cache", type := (.array (.object "java/lang/Integer")), accessFlags := 24, slot := 2, constantValue := 0 }, { name := "archivedCache", type := (.array (.object "java/lang/Integer")), accessFlags := 8, slot := 3, constantValue := 0 }, { name := "$assertionsDisabled", type := .boolean, accessFlags := 4120, slot := 4, constantValue := 0 }]
  methods := #[k10m0]
  instanceTypes := #[]
  staticTypes := #[.int, .int, (.array (.object "java/lang/Integer")), (.array (.object "java/lang/Integer")), .boolean]
  resolved := Array.replicate 100 none
  statics := some 0 }

def pool11 : Array CpInfo := pool [(1, u "java/lang/Cloneable"), (0, .class_ 1), (0, u "java/lang/Object"), (0, .class_ 3)] 3

/-- java/lang/Cloneable -/
def k11 : Class := { plain "java/lang/Cloneable" (some 0) with
  accessFlags := 1537
  interfaces := #[]
  cf := some (fileOf pool11 2 #[] #[] 1537 4 #[] #[])
  fields := #[]
  methods := #[]
  instanceTypes := #[]
  staticTypes := #[]
  resolved := Array.replicate 8 none
  statics := none }

/-- the primitive byte -/
def k12 : Class := { plain "byte" none with kind := .primitive 'B', accessFlags := 0x411 }
/-- [B -/
def k13 : Class := { plain "[B" (some 0) with kind := .array 12 .byte, interfaces := #[11, 4], accessFlags := 1041 }

/-- the primitive int -/
def k14 : Class := { plain "int" none with kind := .primitive 'I', accessFlags := 0x411 }
/-- [I -/
def k15 : Class := { plain "[I" (some 0) with kind := .array 14 .int, interfaces := #[11, 4], accessFlags := 1041 }

/-- [Ljava/lang/Integer; -/
def k16 : Class := { plain "[Ljava/lang/Integer;" (some 0) with kind := .array 9 (.object "java/lang/Integer"), interfaces := #[11, 4], accessFlags := 1041 }

def heap : Heap := #[{ cls := 10, slots := #[.int 0, .int 127, .ref 1, .null, .int 0], vm := .statics 10 },
  { cls := 16, slots := #[.ref 2, .ref 3, .ref 4, .ref 5, .ref 6, .ref 7, .ref 8, .ref 9, .ref 10, .ref 11, .ref 12, .ref 13, .ref 14, .ref 15, .ref 16, .ref 17, .ref 18, .ref 19, .ref 20, .ref 21, .ref 22, .ref 23, .ref 24, .ref 25, .ref 26, .ref 27, .ref 28, .ref 29, .ref 30, .ref 31, .ref 32, .ref 33, .ref 34, .ref 35, .ref 36, .ref 37, .ref 38, .ref 39, .ref 40, .ref 41, .ref 42, .ref 43, .ref 44, .ref 45, .ref 46, .ref 47, .ref 48, .ref 49, .ref 50, .ref 51, .ref 52, .ref 53, .ref 54, .ref 55, .ref 56, .ref 57, .ref 58, .ref 59, .ref 60, .ref 61, .ref 62, .ref 63, .ref 64, .ref 65, .ref 66, .ref 67, .ref 68, .ref 69, .ref 70, .ref 71, .ref 72, .ref 73, .ref 74, .ref 75, .ref 76, .ref 77, .ref 78, .ref 79, .ref 80, .ref 81, .ref 82, .ref 83, .ref 84, .ref 85, .ref 86, .ref 87, .ref 88, .ref 89, .ref 90, .ref 91, .ref 92, .ref 93, .ref 94, .ref 95, .ref 96, .ref 97, .ref 98, .ref 99, .ref 100, .ref 101, .ref 102, .ref 103, .ref 104, .ref 105, .ref 106, .ref 107, .ref 108, .ref 109, .ref 110, .ref 111, .ref 112, .ref 113, .ref 114, .ref 115, .ref 116, .ref 117, .ref 118, .ref 119, .ref 120, .ref 121, .ref 122, .ref 123, .ref 124, .ref 125, .ref 126, .ref 127, .ref 128, .ref 129, .ref 130, .ref 131, .ref 132, .ref 133, .ref 134, .ref 135, .ref 136, .ref 137, .ref 138, .ref 139, .ref 140, .ref 141, .ref 142, .ref 143, .ref 144, .ref 145, .ref 146, .ref 147, .ref 148, .ref 149, .ref 150, .ref 151, .ref 152, .ref 153, .ref 154, .ref 155, .ref 156, .ref 157, .ref 158, .ref 159, .ref 160, .ref 161, .ref 162, .ref 163, .ref 164, .ref 165, .ref 166, .ref 167, .ref 168, .ref 169, .ref 170, .ref 171, .ref 172, .ref 173, .ref 174, .ref 175, .ref 176, .ref 177, .ref 178, .ref 179, .ref 180, .ref 181, .ref 182, .ref 183, .ref 184, .ref 185, .ref 186, .ref 187, .ref 188, .ref 189, .ref 190, .ref 191, .ref 192, .ref 193, .ref 194, .ref 195, .ref 196, .ref 197, .ref 198, .ref 199, .ref 200, .ref 201, .ref 202, .ref 203, .ref 204, .ref 205, .ref 206, .ref 207, .ref 208, .ref 209, .ref 210, .ref 211, .ref 212, .ref 213, .ref 214, .ref 215, .ref 216, .ref 217, .ref 218, .ref 219, .ref 220, .ref 221, .ref 222, .ref 223, .ref 224, .ref 225, .ref 226, .ref 227, .ref 228, .ref 229, .ref 230, .ref 231, .ref 232, .ref 233, .ref 234, .ref 235, .ref 236, .ref 237, .ref 238, .ref 239, .ref 240, .ref 241, .ref 242, .ref 243, .ref 244, .ref 245, .ref 246, .ref 247, .ref 248, .ref 249, .ref 250, .ref 251, .ref 252, .ref 253, .ref 254, .ref 255, .ref 256, .ref 257], vm := .none },
  { cls := 9, slots := #[.int (-128)], vm := .none },
  { cls := 9, slots := #[.int (-127)], vm := .none },
  { cls := 9, slots := #[.int (-126)], vm := .none },
  { cls := 9, slots := #[.int (-125)], vm := .none },
  { cls := 9, slots := #[.int (-124)], vm := .none },
  { cls := 9, slots := #[.int (-123)], vm := .none },
  { cls := 9, slots := #[.int (-122)], vm := .none },
  { cls := 9, slots := #[.int (-121)], vm := .none },
  { cls := 9, slots := #[.int (-120)], vm := .none },
  { cls := 9, slots := #[.int (-119)], vm := .none },
  { cls := 9, slots := #[.int (-118)], vm := .none },
  { cls := 9, slots := #[.int (-117)], vm := .none },
  { cls := 9, slots := #[.int (-116)], vm := .none },
  { cls := 9, slots := #[.int (-115)], vm := .none },
  { cls := 9, slots := #[.int (-114)], vm := .none },
  { cls := 9, slots := #[.int (-113)], vm := .none },
  { cls := 9, slots := #[.int (-112)], vm := .none },
  { cls := 9, slots := #[.int (-111)], vm := .none },
  { cls := 9, slots := #[.int (-110)], vm := .none },
  { cls := 9, slots := #[.int (-109)], vm := .none },
  { cls := 9, slots := #[.int (-108)], vm := .none },
  { cls := 9, slots := #[.int (-107)], vm := .none },
  { cls := 9, slots := #[.int (-106)], vm := .none },
  { cls := 9, slots := #[.int (-105)], vm := .none },
  { cls := 9, slots := #[.int (-104)], vm := .none },
  { cls := 9, slots := #[.int (-103)], vm := .none },
  { cls := 9, slots := #[.int (-102)], vm := .none },
  { cls := 9, slots := #[.int (-101)], vm := .none },
  { cls := 9, slots := #[.int (-100)], vm := .none },
  { cls := 9, slots := #[.int (-99)], vm := .none },
  { cls := 9, slots := #[.int (-98)], vm := .none },
  { cls := 9, slots := #[.int (-97)], vm := .none },
  { cls := 9, slots := #[.int (-96)], vm := .none },
  { cls := 9, slots := #[.int (-95)], vm := .none },
  { cls := 9, slots := #[.int (-94)], vm := .none },
  { cls := 9, slots := #[.int (-93)], vm := .none },
  { cls := 9, slots := #[.int (-92)], vm := .none },
  { cls := 9, slots := #[.int (-91)], vm := .none },
  { cls := 9, slots := #[.int (-90)], vm := .none },
  { cls := 9, slots := #[.int (-89)], vm := .none },
  { cls := 9, slots := #[.int (-88)], vm := .none },
  { cls := 9, slots := #[.int (-87)], vm := .none },
  { cls := 9, slots := #[.int (-86)], vm := .none },
  { cls := 9, slots := #[.int (-85)], vm := .none },
  { cls := 9, slots := #[.int (-84)], vm := .none },
  { cls := 9, slots := #[.int (-83)], vm := .none },
  { cls := 9, slots := #[.int (-82)], vm := .none },
  { cls := 9, slots := #[.int (-81)], vm := .none },
  { cls := 9, slots := #[.int (-80)], vm := .none },
  { cls := 9, slots := #[.int (-79)], vm := .none },
  { cls := 9, slots := #[.int (-78)], vm := .none },
  { cls := 9, slots := #[.int (-77)], vm := .none },
  { cls := 9, slots := #[.int (-76)], vm := .none },
  { cls := 9, slots := #[.int (-75)], vm := .none },
  { cls := 9, slots := #[.int (-74)], vm := .none },
  { cls := 9, slots := #[.int (-73)], vm := .none },
  { cls := 9, slots := #[.int (-72)], vm := .none },
  { cls := 9, slots := #[.int (-71)], vm := .none },
  { cls := 9, slots := #[.int (-70)], vm := .none },
  { cls := 9, slots := #[.int (-69)], vm := .none },
  { cls := 9, slots := #[.int (-68)], vm := .none },
  { cls := 9, slots := #[.int (-67)], vm := .none },
  { cls := 9, slots := #[.int (-66)], vm := .none },
  { cls := 9, slots := #[.int (-65)], vm := .none },
  { cls := 9, slots := #[.int (-64)], vm := .none },
  { cls := 9, slots := #[.int (-63)], vm := .none },
  { cls := 9, slots := #[.int (-62)], vm := .none },
  { cls := 9, slots := #[.int (-61)], vm := .none },
  { cls := 9, slots := #[.int (-60)], vm := .none },
  { cls := 9, slots := #[.int (-59)], vm := .none },
  { cls := 9, slots := #[.int (-58)], vm := .none },
  { cls := 9, slots := #[.int (-57)], vm := .none },
  { cls := 9, slots := #[.int (-56)], vm := .none },
  { cls := 9, slots := #[.int (-55)], vm := .none },
  { cls := 9, slots := #[.int (-54)], vm := .none },
  { cls := 9, slots := #[.int (-53)], vm := .none },
  { cls := 9, slots := #[.int (-52)], vm := .none },
  { cls := 9, slots := #[.int (-51)], vm := .none },
  { cls := 9, slots := #[.int (-50)], vm := .none },
  { cls := 9, slots := #[.int (-49)], vm := .none },
  { cls := 9, slots := #[.int (-48)], vm := .none },
  { cls := 9, slots := #[.int (-47)], vm := .none },
  { cls := 9, slots := #[.int (-46)], vm := .none },
  { cls := 9, slots := #[.int (-45)], vm := .none },
  { cls := 9, slots := #[.int (-44)], vm := .none },
  { cls := 9, slots := #[.int (-43)], vm := .none },
  { cls := 9, slots := #[.int (-42)], vm := .none },
  { cls := 9, slots := #[.int (-41)], vm := .none },
  { cls := 9, slots := #[.int (-40)], vm := .none },
  { cls := 9, slots := #[.int (-39)], vm := .none },
  { cls := 9, slots := #[.int (-38)], vm := .none },
  { cls := 9, slots := #[.int (-37)], vm := .none },
  { cls := 9, slots := #[.int (-36)], vm := .none },
  { cls := 9, slots := #[.int (-35)], vm := .none },
  { cls := 9, slots := #[.int (-34)], vm := .none },
  { cls := 9, slots := #[.int (-33)], vm := .none },
  { cls := 9, slots := #[.int (-32)], vm := .none },
  { cls := 9, slots := #[.int (-31)], vm := .none },
  { cls := 9, slots := #[.int (-30)], vm := .none },
  { cls := 9, slots := #[.int (-29)], vm := .none },
  { cls := 9, slots := #[.int (-28)], vm := .none },
  { cls := 9, slots := #[.int (-27)], vm := .none },
  { cls := 9, slots := #[.int (-26)], vm := .none },
  { cls := 9, slots := #[.int (-25)], vm := .none },
  { cls := 9, slots := #[.int (-24)], vm := .none },
  { cls := 9, slots := #[.int (-23)], vm := .none },
  { cls := 9, slots := #[.int (-22)], vm := .none },
  { cls := 9, slots := #[.int (-21)], vm := .none },
  { cls := 9, slots := #[.int (-20)], vm := .none },
  { cls := 9, slots := #[.int (-19)], vm := .none },
  { cls := 9, slots := #[.int (-18)], vm := .none },
  { cls := 9, slots := #[.int (-17)], vm := .none },
  { cls := 9, slots := #[.int (-16)], vm := .none },
  { cls := 9, slots := #[.int (-15)], vm := .none },
  { cls := 9, slots := #[.int (-14)], vm := .none },
  { cls := 9, slots := #[.int (-13)], vm := .none },
  { cls := 9, slots := #[.int (-12)], vm := .none },
  { cls := 9, slots := #[.int (-11)], vm := .none },
  { cls := 9, slots := #[.int (-10)], vm := .none },
  { cls := 9, slots := #[.int (-9)], vm := .none },
  { cls := 9, slots := #[.int (-8)], vm := .none },
  { cls := 9, slots := #[.int (-7)], vm := .none },
  { cls := 9, slots := #[.int (-6)], vm := .none },
  { cls := 9, slots := #[.int (-5)], vm := .none },
  { cls := 9, slots := #[.int (-4)], vm := .none },
  { cls := 9, slots := #[.int (-3)], vm := .none },
  { cls := 9, slots := #[.int (-2)], vm := .none },
  { cls := 9, slots := #[.int (-1)], vm := .none },
  { cls := 9, slots := #[.int 0], vm := .none },
  { cls := 9, slots := #[.int 1], vm := .none },
  { cls := 9, slots := #[.int 2], vm := .none },
  { cls := 9, slots := #[.int 3], vm := .none },
  { cls := 9, slots := #[.int 4], vm := .none },
  { cls := 9, slots := #[.int 5], vm := .none },
  { cls := 9, slots := #[.int 6], vm := .none },
  { cls := 9, slots := #[.int 7], vm := .none },
  { cls := 9, slots := #[.int 8], vm := .none },
  { cls := 9, slots := #[.int 9], vm := .none },
  { cls := 9, slots := #[.int 10], vm := .none },
  { cls := 9, slots := #[.int 11], vm := .none },
  { cls := 9, slots := #[.int 12], vm := .none },
  { cls := 9, slots := #[.int 13], vm := .none },
  { cls := 9, slots := #[.int 14], vm := .none },
  { cls := 9, slots := #[.int 15], vm := .none },
  { cls := 9, slots := #[.int 16], vm := .none },
  { cls := 9, slots := #[.int 17], vm := .none },
  { cls := 9, slots := #[.int 18], vm := .none },
  { cls := 9, slots := #[.int 19], vm := .none },
  { cls := 9, slots := #[.int 20], vm := .none },
  { cls := 9, slots := #[.int 21], vm := .none },
  { cls := 9, slots := #[.int 22], vm := .none },
  { cls := 9, slots := #[.int 23], vm := .none },
  { cls := 9, slots := #[.int 24], vm := .none },
  { cls := 9, slots := #[.int 25], vm := .none },
  { cls := 9, slots := #[.int 26], vm := .none },
  { cls := 9, slots := #[.int 27], vm := .none },
  { cls := 9, slots := #[.int 28], vm := .none },
  { cls := 9, slots := #[.int 29], vm := .none },
  { cls := 9, slots := #[.int 30], vm := .none },
  { cls := 9, slots := #[.int 31], vm := .none },
  { cls := 9, slots := #[.int 32], vm := .none },
  { cls := 9, slots := #[.int 33], vm := .none },
  { cls := 9, slots := #[.int 34], vm := .none },
  { cls := 9, slots := #[.int 35], vm := .none },
  { cls := 9, slots := #[.int 36], vm := .none },
  { cls := 9, slots := #[.int 37], vm := .none },
  { cls := 9, slots := #[.int 38], vm := .none },
  { cls := 9, slots := #[.int 39], vm := .none },
  { cls := 9, slots := #[.int 40], vm := .none },
  { cls := 9, slots := #[.int 41], vm := .none },
  { cls := 9, slots := #[.int 42], vm := .none },
  { cls := 9, slots := #[.int 43], vm := .none },
  { cls := 9, slots := #[.int 44], vm := .none },
  { cls := 9, slots := #[.int 45], vm := .none },
  { cls := 9, slots := #[.int 46], vm := .none },
  { cls := 9, slots := #[.int 47], vm := .none },
  { cls := 9, slots := #[.int 48], vm := .none },
  { cls := 9, slots := #[.int 49], vm := .none },
  { cls := 9, slots := #[.int 50], vm := .none },
  { cls := 9, slots := #[.int 51], vm := .none },
  { cls := 9, slots := #[.int 52], vm := .none },
  { cls := 9, slots := #[.int 53], vm := .none },
  { cls := 9, slots := #[.int 54], vm := .none },
  { cls := 9, slots := #[.int 55], vm := .none },
  { cls := 9, slots := #[.int 56], vm := .none },
  { cls := 9, slots := #[.int 57], vm := .none },
  { cls := 9, slots := #[.int 58], vm := .none },
  { cls := 9, slots := #[.int 59], vm := .none },
  { cls := 9, slots := #[.int 60], vm := .none },
  { cls := 9, slots := #[.int 61], vm := .none },
  { cls := 9, slots := #[.int 62], vm := .none },
  { cls := 9, slots := #[.int 63], vm := .none },
  { cls := 9, slots := #[.int 64], vm := .none },
  { cls := 9, slots := #[.int 65], vm := .none },
  { cls := 9, slots := #[.int 66], vm := .none },
  { cls := 9, slots := #[.int 67], vm := .none },
  { cls := 9, slots := #[.int 68], vm := .none },
  { cls := 9, slots := #[.int 69], vm := .none },
  { cls := 9, slots := #[.int 70], vm := .none },
  { cls := 9, slots := #[.int 71], vm := .none },
  { cls := 9, slots := #[.int 72], vm := .none },
  { cls := 9, slots := #[.int 73], vm := .none },
  { cls := 9, slots := #[.int 74], vm := .none },
  { cls := 9, slots := #[.int 75], vm := .none },
  { cls := 9, slots := #[.int 76], vm := .none },
  { cls := 9, slots := #[.int 77], vm := .none },
  { cls := 9, slots := #[.int 78], vm := .none },
  { cls := 9, slots := #[.int 79], vm := .none },
  { cls := 9, slots := #[.int 80], vm := .none },
  { cls := 9, slots := #[.int 81], vm := .none },
  { cls := 9, slots := #[.int 82], vm := .none },
  { cls := 9, slots := #[.int 83], vm := .none },
  { cls := 9, slots := #[.int 84], vm := .none },
  { cls := 9, slots := #[.int 85], vm := .none },
  { cls := 9, slots := #[.int 86], vm := .none },
  { cls := 9, slots := #[.int 87], vm := .none },
  { cls := 9, slots := #[.int 88], vm := .none },
  { cls := 9, slots := #[.int 89], vm := .none },
  { cls := 9, slots := #[.int 90], vm := .none },
  { cls := 9, slots := #[.int 91], vm := .none },
  { cls := 9, slots := #[.int 92], vm := .none },
  { cls := 9, slots := #[.int 93], vm := .none },
  { cls := 9, slots := #[.int 94], vm := .none },
  { cls := 9, slots := #[.int 95], vm := .none },
  { cls := 9, slots := #[.int 96], vm := .none },
  { cls := 9, slots := #[.int 97], vm := .none },
  { cls := 9, slots := #[.int 98], vm := .none },
  { cls := 9, slots := #[.int 99], vm := .none },
  { cls := 9, slots := #[.int 100], vm := .none },
  { cls := 9, slots := #[.int 101], vm := .none },
  { cls := 9, slots := #[.int 102], vm := .none },
  { cls := 9, slots := #[.int 103], vm := .none },
  { cls := 9, slots := #[.int 104], vm := .none },
  { cls := 9, slots := #[.int 105], vm := .none },
  { cls := 9, slots := #[.int 106], vm := .none },
  { cls := 9, slots := #[.int 107], vm := .none },
  { cls := 9, slots := #[.int 108], vm := .none },
  { cls := 9, slots := #[.int 109], vm := .none },
  { cls := 9, slots := #[.int 110], vm := .none },
  { cls := 9, slots := #[.int 111], vm := .none },
  { cls := 9, slots := #[.int 112], vm := .none },
  { cls := 9, slots := #[.int 113], vm := .none },
  { cls := 9, slots := #[.int 114], vm := .none },
  { cls := 9, slots := #[.int 115], vm := .none },
  { cls := 9, slots := #[.int 116], vm := .none },
  { cls := 9, slots := #[.int 117], vm := .none },
  { cls := 9, slots := #[.int 118], vm := .none },
  { cls := 9, slots := #[.int 119], vm := .none },
  { cls := 9, slots := #[.int 120], vm := .none },
  { cls := 9, slots := #[.int 121], vm := .none },
  { cls := 9, slots := #[.int 122], vm := .none },
  { cls := 9, slots := #[.int 123], vm := .none },
  { cls := 9, slots := #[.int 124], vm := .none },
  { cls := 9, slots := #[.int 125], vm := .none },
  { cls := 9, slots := #[.int 126], vm := .none },
  { cls := 9, slots := #[.int 127], vm := .none }]
def classes : Array Class := #[k0, k1, k2, k3, k4, k5, k6, k7, k8, k9, k10, k11, k12, k13, k14, k15, k16]
def interned : List (Array UInt16 × Addr) := []
def slotsUsed : Nat := 517
def theMethod : MethodId := ⟨1, 1⟩
def args0 : Array Value := #[.int 5, .int 3, .int 7, .int 1, .int 4]
def aboutOver (below : List Frame) : State where
  vm := { classes := classes, interned := interned.toArray }
  heap := heap
  slotsUsed := slotsUsed
  threads := #[{ frames := .invoking theMethod args0 :: below }]
def below0 : List Frame := [.native { method := ⟨0, 0⟩, args := #[] }]
def about1 : State := aboutOver below0
def p0 : Program := .bare "" "" ""
def e0 : Env := launch0.env 0 0 0
theorem w_frames : about1.frames = Frame.invoking theMethod args0 :: below0 := rfl
set_option maxRecDepth 65536 in
theorem w_args : argsFit about1.vm theMethod args0 = true := by decide +kernel
set_option maxRecDepth 65536 in
theorem w_heap : heapFits about1 = true := by decide +kernel
set_option maxRecDepth 65536 in
theorem w_runnable : about1.curStatus? = some .runnable := by decide +kernel
set_option maxRecDepth 65536 in
theorem w_alone : about1.alone = true := by decide +kernel
set_option maxRecDepth 65536 in
theorem w_named : about1.methodNamed? x = some theMethod := by decide +kernel
set_option maxRecDepth 65536 in
theorem w_hears : about1.hears theMethod below0 = true := by decide +kernel
set_option maxRecDepth 65536 in
theorem w_ripe : about1.ripe theMethod args0 below0 = true := by decide +kernel
theorem w_running : about1.status = .running := rfl
set_option maxRecDepth 65536 in
theorem w_room : about1.hasRoom e0.platform room_1 = true :=
  launch0.hasRoom_least _ room_1 (by decide +kernel) (by decide +kernel) (by decide +kernel) (by decide +kernel) (by decide +kernel) (by decide +kernel)
theorem allAtoms_all (ts : List Jvm.Cond) (a : Array Jvm.Value) (st : Jvm.State) : (allAtoms ts).before a st = ts.all (fun c => c.before a st) := by
  induction ts with
  | nil => rfl
  | cons c t ih =>
    show (Jvm.Cond.and c (allAtoms t)).before a st = _
    rw [Jvm.Cond.before_and, ih, List.all_cons]
def words1 : List Jvm.Cond := Jvm.Cond.code x code maxLocals ret :: tables_1
/-- a 'code' word, met by the world's own term for the bytes: nothing is compared byte by byte -/
theorem code_word {y : MethodName} {bytes : ByteArray} {mx : Nat} {rt : Option FieldType} {a : Array Value} {s : State} {m : MethodId} {meth : Method} {c : Code} (h1 : s.methodNamed? y = some m) (h2 : s.vm.method? m = some meth) (h3 : meth.code = some c) (h4 : c.code = bytes)
    (h5 : (c.maxLocals == mx && c.exceptionTable.isEmpty && decide (c.maxStack ≤ mostOperands) && decide (meth.sig.returnType = rt) && !meth.locks && decide (parseMethodDescriptor y.desc = some meth.sig)) = true) : (Jvm.Cond.code y bytes mx rt).before a s = true := by
  simp only [Bool.and_eq_true, beq_iff_eq, Bool.not_eq_true', decide_eq_true_eq] at h5
  obtain ⟨⟨⟨⟨⟨g1, g2⟩, g3⟩, g4⟩, g5⟩, g6⟩ := h5
  simp [Cond.before, Cond.holds, Cond.value, h1, h2, h3, h4, g1, g2, g3, g4, g5, g6]
def isCode : Jvm.Cond → Bool
  | .code _ _ _ _ => true
  | _ => false
theorem all_split {L : List Jvm.Cond} {P : Jvm.Cond → Bool} (h1 : L.all (fun c => isCode c || P c) = true) (h2 : ∀ c ∈ L.filter isCode, P c = true) : L.all P = true := by
  refine List.all_eq_true.mpr fun c hc => ?_
  have h := List.all_eq_true.mp h1 c hc
  rcases Bool.eq_false_or_eq_true (isCode c) with hi | hi
  · exact h2 c (List.mem_filter.mpr ⟨hc, hi⟩)
  · simpa [hi] using h
set_option maxRecDepth 65536 in
theorem w_c0 : (Jvm.Cond.code x code maxLocals ret).before args0 about1 = true := code_word (m := ⟨1, 1⟩) (meth := k1m1) (c := k1c1) (by decide +kernel) rfl rfl rfl (by decide +kernel)
set_option maxRecDepth 65536 in
theorem w_c1 : (Jvm.Cond.code ({ cls := "com/example/tandem/tandem/analysis/Cuts$Range", name := "<init>", desc := "(II)V" } : Jvm.MethodName) prog_10_method_1_code (3 : Nat) (Option.none : Option Jvm.ClassFile.FieldType)).before args0 about1 = true := code_word (m := ⟨3, 0⟩) (meth := k3m0) (c := k3c0) (by decide +kernel) rfl rfl rfl (by decide +kernel)
set_option maxRecDepth 65536 in
theorem w_c2 : (Jvm.Cond.code ({ cls := "java/lang/Record", name := "<init>", desc := "()V" } : Jvm.MethodName) jdk_30_method_1_code (1 : Nat) (Option.none : Option Jvm.ClassFile.FieldType)).before args0 about1 = true := code_word (m := ⟨2, 0⟩) (meth := k2m0) (c := k2c0) (by decide +kernel) rfl rfl rfl (by decide +kernel)
set_option maxRecDepth 65536 in
theorem w_c3 : (Jvm.Cond.code ({ cls := "java/lang/Object", name := "<init>", desc := "()V" } : Jvm.MethodName) object_method_1_code (1 : Nat) (Option.none : Option Jvm.ClassFile.FieldType)).before args0 about1 = true := code_word (m := ⟨0, 0⟩) (meth := k0m0) (c := k0c0) (by decide +kernel) rfl rfl rfl (by decide +kernel)
set_option maxRecDepth 65536 in
theorem w_c4 : (Jvm.Cond.code ({ cls := "com/example/tandem/tandem/analysis/Cuts$Range", name := "equals", desc := "(Ljava/lang/Object;)Z" } : Jvm.MethodName) prog_10_method_2_code (3 : Nat) (Option.some Jvm.ClassFile.FieldType.boolean)).before args0 about1 = true := code_word (m := ⟨3, 1⟩) (meth := k3m1) (c := k3c1) (by decide +kernel) rfl rfl rfl (by decide +kernel)
set_option maxRecDepth 65536 in
theorem w_c5 : (Jvm.Cond.code ({ cls := "java/lang/Integer", name := "valueOf", desc := "(I)Ljava/lang/Integer;" } : Jvm.MethodName) jdk_33_method_22_code (1 : Nat) (Option.some (Jvm.ClassFile.FieldType.object "java/lang/Integer"))).before args0 about1 = true := code_word (m := ⟨9, 0⟩) (meth := k9m0) (c := k9c0) (by decide +kernel) rfl rfl rfl (by decide +kernel)
set_option maxRecDepth 65536 in
theorem w_c6 : (Jvm.Cond.code ({ cls := "java/lang/Integer", name := "<init>", desc := "(I)V" } : Jvm.MethodName) jdk_33_method_23_code (2 : Nat) (Option.none : Option Jvm.ClassFile.FieldType)).before args0 about1 = true := code_word (m := ⟨9, 1⟩) (meth := k9m1) (c := k9c1) (by decide +kernel) rfl rfl rfl (by decide +kernel)
set_option maxRecDepth 65536 in
theorem w_c7 : (Jvm.Cond.code ({ cls := "java/lang/Number", name := "<init>", desc := "()V" } : Jvm.MethodName) jdk_18_method_1_code (1 : Nat) (Option.none : Option Jvm.ClassFile.FieldType)).before args0 about1 = true := code_word (m := ⟨5, 0⟩) (meth := k5m0) (c := k5c0) (by decide +kernel) rfl rfl rfl (by decide +kernel)
def codes1 : List Jvm.Cond := [Jvm.Cond.code x code maxLocals ret, Jvm.Cond.code ({ cls := "com/example/tandem/tandem/analysis/Cuts$Range", name := "<init>", desc := "(II)V" } : Jvm.MethodName) prog_10_method_1_code (3 : Nat) (Option.none : Option Jvm.ClassFile.FieldType), Jvm.Cond.code ({ cls := "java/lang/Record", name := "<init>", desc := "()V" } : Jvm.MethodName) jdk_30_method_1_code (1 : Nat) (Option.none : Option Jvm.ClassFile.FieldType), Jvm.Cond.code ({ cls := "java/lang/Object", name := "<init>", desc := "()V" } : Jvm.MethodName) object_method_1_code (1 : Nat) (Option.none : Option Jvm.ClassFile.FieldType), Jvm.Cond.code ({ cls := "com/example/tandem/tandem/analysis/Cuts$Range", name := "equals", desc := "(Ljava/lang/Object;)Z" } : Jvm.MethodName) prog_10_method_2_code (3 : Nat) (Option.some Jvm.ClassFile.FieldType.boolean), Jvm.Cond.code ({ cls := "java/lang/Integer", name := "valueOf", desc := "(I)Ljava/lang/Integer;" } : Jvm.MethodName) jdk_33_method_22_code (1 : Nat) (Option.some (Jvm.ClassFile.FieldType.object "java/lang/Integer")), Jvm.Cond.code ({ cls := "java/lang/Integer", name := "<init>", desc := "(I)V" } : Jvm.MethodName) jdk_33_method_23_code (2 : Nat) (Option.none : Option Jvm.ClassFile.FieldType), Jvm.Cond.code ({ cls := "java/lang/Number", name := "<init>", desc := "()V" } : Jvm.MethodName) jdk_18_method_1_code (1 : Nat) (Option.none : Option Jvm.ClassFile.FieldType)]
set_option maxRecDepth 65536 in
theorem codes_eq : words1.filter isCode = codes1 := rfl
theorem w_codes : ∀ c ∈ words1.filter isCode, c.before args0 about1 = true := by
  rw [codes_eq]
  intro c hc
  simp only [codes1, List.mem_cons, List.not_mem_nil, or_false] at hc
  rcases hc with rfl | rfl | rfl | rfl | rfl | rfl | rfl | rfl
  · exact w_c0
  · exact w_c1
  · exact w_c2
  · exact w_c3
  · exact w_c4
  · exact w_c5
  · exact w_c6
  · exact w_c7
set_option maxRecDepth 65536 in
theorem w_t1 : (words1.take 24).all (fun c => isCode c || c.before args0 about1) = true := by decide +kernel
set_option maxRecDepth 65536 in
theorem w_t2 : ((words1.drop 24).take 24).all (fun c => isCode c || c.before args0 about1) = true := by decide +kernel
set_option maxRecDepth 65536 in
theorem w_t3 : ((words1.drop 24).drop 24).all (fun c => isCode c || c.before args0 about1) = true := by decide +kernel
theorem w_tables : (allAtoms (Jvm.Cond.code x code maxLocals ret :: tables_1)).before args0 about1 = true := by
  rw [allAtoms_all]
  show words1.all (fun c => c.before args0 about1) = true
  refine all_split ?_ w_codes
  rw [← List.take_append_drop 24 words1, List.all_append, w_t1, ← List.take_append_drop 24 (words1.drop 24), List.all_append, w_t2, w_t3]
  rfl
set_option maxRecDepth 65536 in
theorem w_rest : rest_1_c.before args0 about1 = true := by decide +kernel
set_option maxRecDepth 65536 in
theorem w_case : (Jvm.Cond.and given_1 narrow_1).before args0 about1 = true := by decide +kernel
theorem w_applies : (headSpec (Jvm.Cond.code x code maxLocals ret :: tables_1) room_1).applies x e0.platform about1 = true :=
  (Spec.applies_iff w_frames).mpr ⟨w_running, w_runnable, w_alone, w_named, w_hears, w_ripe, w_room, w_tables⟩
theorem atStart : AtStart classFile x code maxLocals ret World_1 tables_1 room_1 Calls_1 rest_1 Pre_1 launch0 p0 e0 about1 theMethod args0 below0 :=
  ⟨lists_1, trivial, launch0.admits_env _ _ _, launch0.least_env, fairChoices_fair.cas, fairChoices_fair.clock, w_frames, w_args, w_heap, w_applies, trivial, w_rest, w_case⟩
end start1
theorem witness_1 : WitnessClaimed_1 := ⟨start1.p0, start1.e0, start1.about1, start1.theMethod, start1.args0, start1.below0, start1.atStart⟩
end Jvm.Pilot.@@N@@
