import JvmDerived
import JvmDerived.Pilot.@@N@@Statement
import JvmDerived.Pilot.@@N@@Code
set_option linter.unusedVariables false
set_option linter.unusedSimpArgs false
namespace Jvm.RoadKit
open Sem ClassFile Op Lib Jvm.Stand Jvm.Free Jvm.LawKit
section Own
variable {p : Program} {l : Launch} {e : Env} {R : Room} {s : State} {m : MethodId} {args : Array Value} {below : List Frame} {meth : Method} {c : Code} {T : State} {locs : List Loc} {cells slots : Nat} {Q : Option Value → Heap → List Loc → Prop} {kc ks : Nat}
/-- the run from S comes to its end and leaves what Q says -/
def own_Fin (p : Program) (e : Env) (below : List Frame) (s : State) (kc ks : Nat) (Q : Option Value → Heap → List Loc → Prop) (S : State) : Prop :=
  ∃ U o, Steps p.tables e below S U ∧ U.status = .running ∧ Ended U below o ∧ ∃ v L, o = .returned v ∧ Q v U.heap L ∧ FrameEnd s o U L kc ks
theorem own_step {S S' : State} (h : ∀ t, Steps p.tables e below S' t → Steps p.tables e below S t) (k : own_Fin p e below s kc ks Q S') : own_Fin p e below s kc ks Q S := by
  obtain ⟨U, o, h1, r⟩ := k
  exact ⟨U, o, h _ h1, r⟩
theorem own_ret (X : Stand p l e R s m args below meth c T locs cells slots) (hlk : meth.locks = false) {v : Option Value} (hv : meth.sig.returnType = none → v = none) (hc : cells ≤ kc) (hs : slots ≤ ks) (hQ : Q v T.heap locs) {S : State}
    (hst : ∀ fs, (∀ (f : JFrame) (acts : List Action), f.method = m → f.locked = none → f.entered = [] → (doReturn e (T.setTop f) acts v).1 = T.setFrames fs) → Steps p.tables e below S (T.setFrames fs)) : own_Fin p e below s kc ks Q S := by
  obtain ⟨fs, hr, hrun, hended, hW, hsame⟩ := X.leave (v := v) hv hlk
  exact ⟨_, _, hst fs hr, hrun, hended, _, _, rfl, hQ, ⟨_, rfl⟩, hW, hsame.mono hc hs⟩
def own_FinW (p : Program) (e : Env) (below : List Frame) (s : State) (kc ks : Nat) (Q : Option Value → Heap → List Loc → Prop) (S : State) : Prop :=
  ∃ U o, Steps p.tables e below S U ∧ U.status = .running ∧ Ended U below o ∧ ∃ v L, o = .returned v ∧ Q v U.heap L ∧ ReturnedEndW s o U L kc ks
theorem own_stepW {S S' : State} (h : ∀ t, Steps p.tables e below S' t → Steps p.tables e below S t) (k : own_FinW p e below s kc ks Q S') : own_FinW p e below s kc ks Q S := by
  obtain ⟨U, o, h1, r⟩ := k
  exact ⟨U, o, h _ h1, r⟩
theorem own_retW {vm1 : Vm} (X : Stand p l e R (s.setVm vm1) m args below meth c T locs cells slots) (hlk : meth.locks = false) {n : Nat} (hS : s.Since vm1 n) {h : Heap} (eT : T.heap = h) (hn : n ≤ h.size) {v : Option Value} (hv : meth.sig.returnType = none → v = none) (hc : cells ≤ kc) (hs : slots ≤ ks) (hQ : Q v T.heap locs) {S : State}
    (hst : ∀ fs, (∀ (f : JFrame) (acts : List Action), f.method = m → f.locked = none → f.entered = [] → (doReturn e (T.setTop f) acts v).1 = T.setFrames fs) → Steps p.tables e below S (T.setFrames fs)) : own_FinW p e below s kc ks Q S := by
  obtain ⟨fs, hr, hrun, hended, hE⟩ := X.leaveW hS (by rw [eT]; exact hn) (v := v) hv hlk
  exact ⟨_, _, hst fs hr, hrun, hended, _, _, rfl, hQ, hE.1, hE.2.1, hE.2.2.1, hE.2.2.2.mono hc hs⟩
theorem own_castW {g g' : JFrame} (q : g = g') (k : own_FinW p e below s kc ks Q (T.setTop g')) : own_FinW p e below s kc ks Q (T.setTop g) := q ▸ k
theorem own_m0 : Jvm.Free.Fl.Mag64 1 FP.dconst0 := by unfold Jvm.Free.Fl.Mag64; decide
theorem own_mz : Jvm.Free.Fl.Mag64 1 (0 : UInt64) := by unfold Jvm.Free.Fl.Mag64; decide
theorem own_m1 : Jvm.Free.Fl.Mag64 1024 FP.dconst1 := by unfold Jvm.Free.Fl.Mag64; decide
/-- roads that meet again: what lies behind the meeting is walked once -/
theorem own_join {G : Prop} {F : State → Prop} (X : Stand p l e R s m args below meth c T locs cells slots) {h : Heap} (eT : T.heap = h) {β : Type} (g : β → JFrame) (hyp : β → Prop)
    (body : ∀ Tj : State, Stand p l e R s m args below meth c Tj locs cells slots → Tj.heap = h → ∀ b, hyp b → F (Tj.setTop (g b)))
    (cont : (∀ Tj : State, Stand p l e R s m args below meth c Tj locs cells slots → Tj.heap = h → ∀ b, hyp b → F (Tj.setTop (g b))) → G) : G := cont body
theorem own_ltn {n k j : Int32} (h : ¬ n < k) (q : j < k) : j < n := by
  rw [Int32.lt_iff_toInt_lt] at *
  omega
theorem own_cast {g g' : JFrame} (q : g = g') (k : own_Fin p e below s kc ks Q (T.setTop g')) : own_Fin p e below s kc ks Q (T.setTop g) := q ▸ k
theorem own_getJ {cl : Cell} {vs : List Int64} {j : Int32} (H : Has cl (vs.map Value.long) (.long 0)) (q : ¬ (j < 0 ∨ cl.slots.size ≤ j.toNatClampNeg)) : cl.slots[j.toNatClampNeg]? = some (.long (vs.getD j.toNatClampNeg 0)) := by
  refine Has.at H q ?_
  simp only [List.getD_eq_getElem?_getD, List.getElem?_map]
  cases vs[j.toNatClampNeg]? <;> rfl
def own_Nst (h : Heap) (x : Addr) : Prop := ∃ c : Cell, h[x]? = some c ∧ c.vm.isStatics = false
theorem own_nst_exa {Z : State} {h : Heap} {a : Addr} {C : String} (F : Exa Z h a C) : own_Nst h a := by
  obtain ⟨c, _, h1, _, _, h4, _⟩ := F
  exact ⟨c, h1, h4⟩
theorem own_nst_arv {Z : State} {h : Heap} {a : Addr} {k : ClassId} {ty : FieldType} {n : Int32} {vs : List Value} {d : Value} (F : Arv Z h a k ty n vs d) : own_Nst h a := by
  obtain ⟨c, A, _⟩ := F
  exact ⟨c, A.1, A.plain⟩
theorem own_sta_keep {Z : State} {h h' : Heap} {C n d : String} {v : Value} {ws : List Addr} (F : Sta Z h C n d v) (K : Keep h h' ws) (q : ∀ x ∈ ws, own_Nst h x) : Sta Z h' C n d v := by
  obtain ⟨cf, i, k, f, st, cell, h1, h2, h3, h4, h5, h6, h7⟩ := F
  refine ⟨cf, i, k, f, st, cell, h1, h2, h3, h4, K.2.1 _ _ h5 (fun z => ?_), h6, h7⟩
  obtain ⟨c, e1, e2⟩ := q _ z
  cases h5.symm.trans e1
  rw [h6] at e2
  cases e2
theorem own_sta_keep0 {Z : State} {h h' : Heap} {C n d : String} {v : Value} (F : Sta Z h C n d v) (K : Keep h h' []) : Sta Z h' C n d v := own_sta_keep F K (fun _ z => nomatch z)
end Own
section OwnStart
variable {args : Array Value} {Z : State} {t : Term} {a : Addr} {O n d : String}
theorem own_fldV {v : Value} (ev : t.eval args Z none [] Z = some (.ref a)) (h : (Term.field t O n d).eval args Z none [] Z = some v) : Fld Z Z.heap a O n d v := Fld.start ((fld_at ev).symm.trans h)
theorem own_len {cl : Cell} {ty : FieldType} {k : Int32} (ev : t.eval args Z none [] Z = some (.ref a)) (A : Arr Z Z.heap a cl ty) (h : (Cond.eq (.length t) (.int k)).value args Z none Z [] = some true) : cl.slots.size < 2 ^ 31 ∧ cl.slots.size.toInt32 = k := by
  have e := eqv_i (y := k) rfl h
  have ha := A.fin (Vm.Alike.refl _)
  by_cases q : cl.slots.size < 2 ^ 31
  · exact ⟨q, Value.int.inj (Option.some.inj ((len_f ev ha q).symm.trans e))⟩
  · simp [Term.eval, ev, ha, q] at e
theorem own_elI {cl : Cell} {ty : FieldType} {i k : Int32} (ev : t.eval args Z none [] Z = some (.ref a)) (A : Arr Z Z.heap a cl ty) (hi : ¬ i < 0) (h : (Cond.eq (.elem t (.int i)) (.int k)).value args Z none Z [] = some true) : cl.slots[i.toNatClampNeg]? = some (.int k) :=
  (elem_f ev rfl (A.fin (Vm.Alike.refl _)) hi).symm.trans (eqv_i (y := k) rfl h)
theorem own_elJ {cl : Cell} {ty : FieldType} {i : Int32} {k : Int64} (ev : t.eval args Z none [] Z = some (.ref a)) (A : Arr Z Z.heap a cl ty) (hi : ¬ i < 0) (h : (Cond.eq (.elem t (.int i)) (.long k)).value args Z none Z [] = some true) : cl.slots[i.toNatClampNeg]? = some (.long k) :=
  (elem_f ev rfl (A.fin (Vm.Alike.refl _)) hi).symm.trans (eqv_l (y := k) rfl h)
end OwnStart
end Jvm.RoadKit
namespace Jvm.Pilot.@@N@@
open Jvm Jvm.ClassFile Sem Op Lib Jvm.Free Jvm.Stand Jvm.LawKit Jvm.RoadKit Bundle Jvm.Pilot.@@N@@.Jvm.D
theorem own_w {ts : List Jvm.Cond} {Z : State} {a0 : Array Value} (hw : ∀ d ∈ ts, d.before a0 Z = true) (i : Nat) {d : Jvm.Cond} (h : ts[i]? = some d) : d.before a0 Z = true := hw d (List.mem_of_getElem? h)
abbrev own_N (p0 : Int32) : Int32 := ((1 : Int32) + ((p0 &&& (2147483647 : Int32)) % (38 : Int32)))
theorem own_n (x : Int32) : 1 ≤ (own_N x).toInt ∧ (own_N x).toInt ≤ 38 := by
  have h1 : (x &&& (2147483647 : Int32)).toInt = x.toInt % 2147483648 := c_mask x _ 31 (by decide) (by decide)
  have h2 := (c_irem (x &&& (2147483647 : Int32)) (38 : Int32) 38 (by decide)).1 (by omega)
  have h3 := c_iadd 1 ((x &&& (2147483647 : Int32)) % (38 : Int32))
  have h4 : (1 : Int32).toInt = 1 := by decide
  have h5 := rng32 (own_N x)
  unfold own_N at *
  omega
theorem own_n0 (x : Int32) : 0 ≤ (own_N x).toInt := Int.le_trans (by decide) (own_n x).1
theorem own_n1 (x : Int32) : (own_N x + (1 : Int32)).toInt = (own_N x).toInt + 1 := by
  have h1 := own_n x
  have h3 := c_iadd (own_N x) 1
  have h4 : (1 : Int32).toInt = 1 := by decide
  have h5 := rng32 (own_N x + 1)
  omega
theorem own_nz (x : Int32) : own_N x + (1 : Int32) ≠ 0 := fun q => by
  have h1 := own_n1 x
  have h2 := own_n x
  rw [q] at h1
  have : (0 : Int32).toInt = 0 := by decide
  omega
theorem own_m (x y : Int32) : 0 ≤ ((y &&& (2147483647 : Int32)) % (own_N x + (1 : Int32))).toInt ∧ ((y &&& (2147483647 : Int32)) % (own_N x + (1 : Int32))).toInt ≤ (own_N x).toInt := by
  have h1 : (y &&& (2147483647 : Int32)).toInt = y.toInt % 2147483648 := c_mask y _ 31 (by decide) (by decide)
  have h2 := own_n1 x
  have h3 := own_n x
  have h4 := (c_iremV (y &&& (2147483647 : Int32)) (own_N x + (1 : Int32))).1 (by omega) (by omega)
  omega
theorem own_q1 (x : Int32) : ¬ (lcmpW ((own_N x).toInt64) (1 : Int64) < (0 : Int32)) := by
  rw [lw_lt, Int64.lt_iff_toInt_lt, c_i2l, show (1 : Int64).toInt = 1 from by decide]
  have := own_n x
  omega
theorem own_q2 (x : Int32) : ¬ ((0 : Int32) < lcmpW ((own_N x).toInt64) (38 : Int64)) := by
  rw [lw_gt, Int64.lt_iff_toInt_lt, c_i2l, show (38 : Int64).toInt = 38 from by decide]
  have := own_n x
  omega
theorem own_q3 (x y : Int32) : ¬ (((y &&& (2147483647 : Int32)) % (own_N x + (1 : Int32))) < (0 : Int32)) := by
  rw [Int32.lt_iff_toInt_lt, show (0 : Int32).toInt = 0 from by decide]
  have := own_m x y
  omega
theorem own_q4 (x y : Int32) : ¬ (own_N x < ((y &&& (2147483647 : Int32)) % (own_N x + (1 : Int32)))) := by
  rw [Int32.lt_iff_toInt_lt]
  have := own_m x y
  omega
theorem own_of (n : Int32) (h0 : 0 ≤ n.toInt) : Int32.ofNat n.toInt.toNat = n := by
  have := rng32 n
  apply Int32.toInt_inj.mp
  rw [Int32.toInt_ofNat_of_lt (by omega)]
  omega
theorem own_sa {Z : State} {a0 : Array Value} (hw : ∀ d ∈ tables_1, d.before a0 Z = true) : ∀ a ∈ Bundle.stringAtoms, a.before a0 Z = true := by
  intro a ha
  simp only [Bundle.stringAtoms, List.mem_cons, List.not_mem_nil, or_false] at ha
  rcases ha with rfl | rfl | rfl | rfl | rfl | rfl | rfl
  · exact (own_w hw 35 rfl)
  · exact (own_w hw 36 rfl)
  · exact (own_w hw 37 rfl)
  · exact (own_w hw 38 rfl)
  · exact (own_w hw 39 rfl)
  · exact (own_w hw 40 rfl)
  · exact (own_w hw 41 rfl)
theorem own_d1_0 : decode jdk_30_method_1_code 0 = .ok (.aload_n 0, 1) := by decide +kernel
theorem own_d1_1 : decode jdk_30_method_1_code 1 = .ok (.invokespecial 1, 3) := by decide +kernel
theorem own_d1_4 : decode jdk_30_method_1_code 4 = .ok (.return_, 1) := by decide +kernel
theorem own_pn0 : plainName "java/lang/Record" = true := by first | (simp [plainName, overriddenIn]; done) | decide +kernel
theorem own_ef1 (m : MethodId) (ad0 : Addr) : entryFrame m #[(.ref ad0)] 1 = mkF m 0 #[.val (.ref ad0)] [] := by first | (simp [entryFrame, mkF, argsToLocals, Value.category]; done) | rfl
def own_Q1 (Z : State) (ad0 : Addr) (h0 : Heap) (n0 : Nat) (v : Option Value) (h : Heap) (L : List Loc) : Prop := v = none ∧ Fr n0 L ∧ h = h0
set_option maxRecDepth 65536 in
set_option maxHeartbeats 40000000 in
theorem own_rm1 (l : Launch) (Z : State) (a0 : Array Value) (hw : ∀ d ∈ tables_1, d.before a0 Z = true) (ws : List Jvm.Cond) (ad0 : Addr) (h0 : Heap) (n0 : Nat) (Z0 : n0 ≤ h0.size) :
    MetFree l (⟨"java/lang/Record", "<init>", "()V"⟩ : MethodName) (head1 (Jvm.Cond.code (⟨"java/lang/Record", "<init>", "()V"⟩ : MethodName) jdk_30_method_1_code 1 none :: ws) ({ frames := 1, cells := 0, slots := 0, locals := 12 } : Room)) (fun a U => a = #[(.ref ad0)] ∧ Z.Warmed39 U.vm ∧ U.heap = h0) (fun _ _ _ _ _ => True) (fun _ U o U' => ∃ v L, o = .returned v ∧ own_Q1 Z ad0 h0 n0 v U'.heap L ∧ FrameEnd U o U' L ({ frames := 1, cells := 0, slots := 0, locals := 12 } : Room).cells ({ frames := 1, cells := 0, slots := 0, locals := 12 } : Room).slots) := by
  refine MetFree.of_bodySF (plainFor_of_name own_pn0) hisR ?_
  intro p e s m args below meth c s₁ Bd hml0 hP hK
  obtain ⟨rfl, hZ, hh⟩ := hP
  have hx := Bd.exec
  have hby := Bd.bytes
  have hlk := Bd.notSynchronized
  have hml : c.maxLocals = 1 := hml0
  have hown : s.vm.findClass "java/lang/Record" = some m.cls := findClass_of_methodNamed Bd.named
  have hnm := (name_of_methodNamed Bd.named Bd.method).1
  have X0 : Stand p l e ({ frames := 1, cells := 0, slots := 0, locals := 12 } : Room) s m #[(.ref ad0)] below meth c s₁ [] 0 0 := Stand.of_body Bd
  have e0 : s₁.heap = h0 := by rw [← hh, Bd.state]; rfl
  have N0 := Fr.nil n0
  have KR : Keep h0 h0 [] := Keep.refl _ _
  show own_Fin p e below s ({ frames := 1, cells := 0, slots := 0, locals := 12 } : Room).cells ({ frames := 1, cells := 0, slots := 0, locals := 12 } : Room).slots (own_Q1 Z ad0 h0 n0) (s₁.setTop (entryFrame m #[(.ref ad0)] 1))
  refine own_cast (own_ef1 m ad0) ?_
  refine own_step (fun _ k => XS.aloadN X0.here hx rfl (hb hby own_d1_0) rfl rfl k) ?_
  show own_Fin p e below s _ _ _ (s₁.setTop (mkF m 1 #[.val (.ref ad0)] [(.ref ad0)]))
  obtain ⟨T1, X1, e1, st1⟩ := initO X0 hx hZ hown (own_w hw 31 rfl) (own_w hw 32 rfl) (own_w hw 33 rfl) e0 (g := (mkF m 1 #[.val (.ref ad0)] [(.ref ad0)])) rfl (by rw [hml]; rfl) rfl (hb hby own_d1_1) (by decide) (W := 0) (by show 2 * 0 + _ ≤ _; exact Nat.le_of_eq rfl) (by decide)
  refine own_step st1 ?_
  show own_Fin p e below s _ _ _ (T1.setTop (mkF m 4 #[.val (.ref ad0)] []))
  exact own_ret X1 hlk (v := none) (fun _ => rfl) (by decide) (by decide) (by show own_Q1 Z ad0 h0 n0 _ T1.heap _; rw [e1]; exact ⟨rfl, N0, rfl⟩) (fun fs hr => X1.returnOut hx Bd.returns (hb hby own_d1_4) hr)

theorem own_d2_0 : decode prog_33_method_2_code 0 = .ok (.lload_n 1, 1) := by decide +kernel
theorem own_d2_1 : decode prog_33_method_2_code 1 = .ok (.lload_n 3, 1) := by decide +kernel
theorem own_d2_2 : decode prog_33_method_2_code 2 = .ok (.lcmp, 1) := by decide +kernel
theorem own_d2_3 : decode prog_33_method_2_code 3 = .ok (.ifCond .lt 10, 3) := by decide +kernel
theorem own_d2_6 : decode prog_33_method_2_code 6 = .ok (.lload_n 1, 1) := by decide +kernel
theorem own_d2_7 : decode prog_33_method_2_code 7 = .ok (.lload 5, 2) := by decide +kernel
theorem own_d2_9 : decode prog_33_method_2_code 9 = .ok (.lcmp, 1) := by decide +kernel
theorem own_d2_10 : decode prog_33_method_2_code 10 = .ok (.ifCond .le 21, 3) := by decide +kernel
theorem own_d2_31 : decode prog_33_method_2_code 31 = .ok (.return_, 1) := by decide +kernel
theorem own_pn1 : plainName "com/example/castwright/castwright/model/Bounds" = true := by first | (simp [plainName, overriddenIn]; done) | decide +kernel
theorem own_ef2 (m : MethodId) (ad0 : Addr) (q1 : Int64) (q2 : Int64) (q3 : Int64) : entryFrame m #[(.ref ad0), (.long q1), (.long q2), (.long q3)] 7 = mkF m 0 #[.val (.ref ad0), .val (.long q1), .second, .val (.long q2), .second, .val (.long q3), .second] [] := by first | (simp [entryFrame, mkF, argsToLocals, Value.category]; done) | rfl
def own_Q2 (Z : State) (ad0 : Addr) (q1 : Int64) (q2 : Int64) (q3 : Int64) (h0 : Heap) (n0 : Nat) (v : Option Value) (h : Heap) (L : List Loc) : Prop := v = none ∧ Fr n0 L ∧ h = h0
set_option maxRecDepth 65536 in
set_option maxHeartbeats 40000000 in
theorem own_rm2 (l : Launch) (Z : State) (a0 : Array Value) (hw : ∀ d ∈ tables_1, d.before a0 Z = true) (ws : List Jvm.Cond) (ad0 : Addr) (q1 : Int64) (q2 : Int64) (q3 : Int64) (h0 : Heap) (n0 : Nat) (Z0 : n0 ≤ h0.size) (hc3 : ¬ ((lcmpW q1 q2) < (0 : Int32))) (hc10 : ¬ ((0 : Int32) < (lcmpW q1 q3))) :
    MetFree l (⟨"com/example/castwright/castwright/model/Bounds", "require", "(Ljava/lang/String;JJJ)V"⟩ : MethodName) (head1 (Jvm.Cond.code (⟨"com/example/castwright/castwright/model/Bounds", "require", "(Ljava/lang/String;JJJ)V"⟩ : MethodName) prog_33_method_2_code 7 none :: ws) ({ frames := 0, cells := 0, slots := 0, locals := 0 } : Room)) (fun a U => a = #[(.ref ad0), (.long q1), (.long q2), (.long q3)] ∧ Z.Warmed39 U.vm ∧ U.heap = h0) (fun _ _ _ _ _ => True) (fun _ U o U' => ∃ v L, o = .returned v ∧ own_Q2 Z ad0 q1 q2 q3 h0 n0 v U'.heap L ∧ FrameEnd U o U' L ({ frames := 0, cells := 0, slots := 0, locals := 0 } : Room).cells ({ frames := 0, cells := 0, slots := 0, locals := 0 } : Room).slots) := by
  refine MetFree.of_bodySF (plainFor_of_name own_pn1) hisR ?_
  intro p e s m args below meth c s₁ Bd hml0 hP hK
  obtain ⟨rfl, hZ, hh⟩ := hP
  have hx := Bd.exec
  have hby := Bd.bytes
  have hlk := Bd.notSynchronized
  have hml : c.maxLocals = 7 := hml0
  have hown : s.vm.findClass "com/example/castwright/castwright/model/Bounds" = some m.cls := findClass_of_methodNamed Bd.named
  have hnm := (name_of_methodNamed Bd.named Bd.method).1
  have X0 : Stand p l e ({ frames := 0, cells := 0, slots := 0, locals := 0 } : Room) s m #[(.ref ad0), (.long q1), (.long q2), (.long q3)] below meth c s₁ [] 0 0 := Stand.of_body Bd
  have e0 : s₁.heap = h0 := by rw [← hh, Bd.state]; rfl
  have N0 := Fr.nil n0
  have KR : Keep h0 h0 [] := Keep.refl _ _
  show own_Fin p e below s ({ frames := 0, cells := 0, slots := 0, locals := 0 } : Room).cells ({ frames := 0, cells := 0, slots := 0, locals := 0 } : Room).slots (own_Q2 Z ad0 q1 q2 q3 h0 n0) (s₁.setTop (entryFrame m #[(.ref ad0), (.long q1), (.long q2), (.long q3)] 7))
  refine own_cast (own_ef2 m ad0 q1 q2 q3) ?_
  refine own_step (fun _ k => XS.lloadN X0.here hx rfl (hb hby own_d2_0) rfl k) ?_
  show own_Fin p e below s _ _ _ (s₁.setTop (mkF m 1 #[.val (.ref ad0), .val (.long q1), .second, .val (.long q2), .second, .val (.long q3), .second] [(.long q1)]))
  refine own_step (fun _ k => XS.lloadN X0.here hx rfl (hb hby own_d2_1) rfl k) ?_
  show own_Fin p e below s _ _ _ (s₁.setTop (mkF m 2 #[.val (.ref ad0), .val (.long q1), .second, .val (.long q2), .second, .val (.long q3), .second] [(.long q2), (.long q1)]))
  refine own_step (fun _ k => XS.lcmp X0.here hx rfl (hb hby own_d2_2) rfl k) ?_
  show own_Fin p e below s _ _ _ (s₁.setTop (mkF m 3 #[.val (.ref ad0), .val (.long q1), .second, .val (.long q2), .second, .val (.long q3), .second] [(.int (lcmpW q1 q2))]))
  refine own_step (fun _ k => XS.ifNo X0.here hx rfl (hb hby own_d2_3) rfl ((if0 _ _).trans (flt hc3).1) k) ?_
  show own_Fin p e below s _ _ _ (s₁.setTop (mkF m 6 #[.val (.ref ad0), .val (.long q1), .second, .val (.long q2), .second, .val (.long q3), .second] []))
  refine own_step (fun _ k => XS.lloadN X0.here hx rfl (hb hby own_d2_6) rfl k) ?_
  show own_Fin p e below s _ _ _ (s₁.setTop (mkF m 7 #[.val (.ref ad0), .val (.long q1), .second, .val (.long q2), .second, .val (.long q3), .second] [(.long q1)]))
  refine own_step (fun _ k => XS.lload X0.here hx rfl (hb hby own_d2_7) rfl k) ?_
  show own_Fin p e below s _ _ _ (s₁.setTop (mkF m 9 #[.val (.ref ad0), .val (.long q1), .second, .val (.long q2), .second, .val (.long q3), .second] [(.long q3), (.long q1)]))
  refine own_step (fun _ k => XS.lcmp X0.here hx rfl (hb hby own_d2_9) rfl k) ?_
  show own_Fin p e below s _ _ _ (s₁.setTop (mkF m 10 #[.val (.ref ad0), .val (.long q1), .second, .val (.long q2), .second, .val (.long q3), .second] [(.int (lcmpW q1 q3))]))
  refine own_step (fun _ k => XS.ifYes X0.here hx rfl (pc0 := 10) (pc' := 31) rfl (hb hby own_d2_10) rfl ((if0 _ _).trans (flt hc10).2.2.2) (by decide) (by decide) k) ?_
  show own_Fin p e below s _ _ _ (s₁.setTop (mkF m 31 #[.val (.ref ad0), .val (.long q1), .second, .val (.long q2), .second, .val (.long q3), .second] []))
  exact own_ret X0 hlk (v := none) (fun _ => rfl) (by decide) (by decide) (by show own_Q2 Z ad0 q1 q2 q3 h0 n0 _ s₁.heap _; rw [e0]; exact ⟨rfl, N0, rfl⟩) (fun fs hr => X0.returnOut hx Bd.returns (hb hby own_d2_31) hr)

theorem own_pd0 : parseMethodDescriptor "()V" = some ⟨[], none⟩ := by decide +kernel
abbrev own_y0 : MethodName := (⟨"java/lang/Record", "<init>", "()V"⟩ : MethodName)
theorem own_pd1 : parseMethodDescriptor "(Ljava/lang/String;JJJ)V" = some ⟨[(.object "java/lang/String"), .long, .long, .long], none⟩ := by decide +kernel
abbrev own_y1 : MethodName := (⟨"com/example/castwright/castwright/model/Bounds", "require", "(Ljava/lang/String;JJJ)V"⟩ : MethodName)
theorem own_d3_0 : decode prog_40_method_1_code 0 = .ok (.aload_n 0, 1) := by decide +kernel
theorem own_d3_1 : decode prog_40_method_1_code 1 = .ok (.invokespecial 13, 3) := by decide +kernel
theorem own_d3_4 : decode prog_40_method_1_code 4 = .ok (.ldc 19, 2) := by decide +kernel
theorem own_d3_6 : decode prog_40_method_1_code 6 = .ok (.iload_n 1, 1) := by decide +kernel
theorem own_d3_7 : decode prog_40_method_1_code 7 = .ok (.i2l, 1) := by decide +kernel
theorem own_d3_8 : decode prog_40_method_1_code 8 = .ok (.lconst 1, 1) := by decide +kernel
theorem own_d3_9 : decode prog_40_method_1_code 9 = .ok (.ldc2_w 23, 3) := by decide +kernel
theorem own_d3_12 : decode prog_40_method_1_code 12 = .ok (.invokestatic 25, 3) := by decide +kernel
theorem own_d3_15 : decode prog_40_method_1_code 15 = .ok (.iload_n 2, 1) := by decide +kernel
theorem own_d3_16 : decode prog_40_method_1_code 16 = .ok (.ifCond .lt 8, 3) := by decide +kernel
theorem own_d3_19 : decode prog_40_method_1_code 19 = .ok (.iload_n 2, 1) := by decide +kernel
theorem own_d3_20 : decode prog_40_method_1_code 20 = .ok (.iload_n 1, 1) := by decide +kernel
theorem own_d3_21 : decode prog_40_method_1_code 21 = .ok (.if_icmp .le 18, 3) := by decide +kernel
theorem own_d3_39 : decode prog_40_method_1_code 39 = .ok (.aload_n 0, 1) := by decide +kernel
theorem own_d3_40 : decode prog_40_method_1_code 40 = .ok (.iload_n 1, 1) := by decide +kernel
theorem own_d3_41 : decode prog_40_method_1_code 41 = .ok (.putfield 40, 3) := by decide +kernel
theorem own_d3_44 : decode prog_40_method_1_code 44 = .ok (.aload_n 0, 1) := by decide +kernel
theorem own_d3_45 : decode prog_40_method_1_code 45 = .ok (.iload_n 2, 1) := by decide +kernel
theorem own_d3_46 : decode prog_40_method_1_code 46 = .ok (.putfield 44, 3) := by decide +kernel
theorem own_d3_49 : decode prog_40_method_1_code 49 = .ok (.return_, 1) := by decide +kernel
theorem own_pn2 : plainName "com/example/castwright/castwright/model/DecimalType" = true := by first | (simp [plainName, overriddenIn]; done) | decide +kernel
theorem own_ef3 (m : MethodId) (ad0 : Addr) (p1 : Int32) (p2 : Int32) : entryFrame m #[(.ref ad0), (.int p1), (.int p2)] 3 = mkF m 0 #[.val (.ref ad0), .val (.int p1), .val (.int p2)] [] := by first | (simp [entryFrame, mkF, argsToLocals, Value.category]; done) | rfl
def own_Q3 (Z : State) (ad0 : Addr) (p1 : Int32) (p2 : Int32) (uprecision_ad0 : Value) (uscale_ad0 : Value) (h0 : Heap) (n0 : Nat) (v : Option Value) (h : Heap) (L : List Loc) : Prop := Fr n0 L ∧ Keep h0 h [ad0] ∧ v = none ∧ Exa Z h ad0 "com/example/castwright/castwright/model/DecimalType" ∧ Fld Z h ad0 "com/example/castwright/castwright/model/DecimalType" "precision" "I" (.int p1) ∧ Fld Z h ad0 "com/example/castwright/castwright/model/DecimalType" "scale" "I" (.int p2)
set_option maxRecDepth 65536 in
set_option maxHeartbeats 40000000 in
theorem own_rm3 (l : Launch) (Z : State) (a0 : Array Value) (hw : ∀ d ∈ tables_1, d.before a0 Z = true) (ws : List Jvm.Cond) (ad0 : Addr) (p1 : Int32) (p2 : Int32) (uprecision_ad0 : Value) (uscale_ad0 : Value) (h0 : Heap) (n0 : Nat) (Z0 : n0 ≤ h0.size) (E_ad0 : Exa Z h0 ad0 "com/example/castwright/castwright/model/DecimalType") (F_precision_ad0 : Fld Z h0 ad0 "com/example/castwright/castwright/model/DecimalType" "precision" "I" uprecision_ad0) (F_scale_ad0 : Fld Z h0 ad0 "com/example/castwright/castwright/model/DecimalType" "scale" "I" uscale_ad0) (hc3_12 : ¬ ((lcmpW (p1.toInt64) (1 : Int64)) < (0 : Int32))) (hc10_12 : ¬ ((0 : Int32) < (lcmpW (p1.toInt64) (38 : Int64)))) (hc16 : ¬ (p2 < (0 : Int32))) (hc21 : ¬ (p1 < p2)) (g_ad0 : n0 ≤ ad0) :
    MetFree l (⟨"com/example/castwright/castwright/model/DecimalType", "<init>", "(II)V"⟩ : MethodName) (head1 (Jvm.Cond.code (⟨"com/example/castwright/castwright/model/DecimalType", "<init>", "(II)V"⟩ : MethodName) prog_40_method_1_code 3 none :: ws) ({ frames := 2, cells := 2, slots := 48, locals := 24 } : Room)) (fun a U => a = #[(.ref ad0), (.int p1), (.int p2)] ∧ Z.Warmed39 U.vm ∧ U.heap = h0) (fun _ _ _ _ _ => True) (fun _ U o U' => ∃ v L, o = .returned v ∧ own_Q3 Z ad0 p1 p2 uprecision_ad0 uscale_ad0 h0 n0 v U'.heap L ∧ ReturnedEndW U o U' L ({ frames := 2, cells := 2, slots := 48, locals := 24 } : Room).cells ({ frames := 2, cells := 2, slots := 48, locals := 24 } : Room).slots) := by
  refine MetFree.of_bodySF (plainFor_of_name own_pn2) hisR ?_
  intro p e s m args below meth c s₁ Bd hml0 hP hK
  obtain ⟨rfl, hZ, hh⟩ := hP
  have hx := Bd.exec
  have hby := Bd.bytes
  have hlk := Bd.notSynchronized
  have hml : c.maxLocals = 3 := hml0
  have hown : s.vm.findClass "com/example/castwright/castwright/model/DecimalType" = some m.cls := findClass_of_methodNamed Bd.named
  have hnm := (name_of_methodNamed Bd.named Bd.method).1
  have X0 : Stand p l e ({ frames := 2, cells := 2, slots := 48, locals := 24 } : Room) (s.setVm s.vm) m #[(.ref ad0), (.int p1), (.int p2)] below meth c s₁ [] 0 0 := Stand.of_body Bd
  have e0 : s₁.heap = h0 := by rw [← hh, Bd.state]; rfl
  have N0 := Fr.nil n0
  have KR : Keep h0 h0 [ad0] := Keep.refl _ _
  have hS0 : s.Since s.vm h0.size := (State.WarmedH.refl s).since _
  have hk0 : h0.size ≤ h0.size := Nat.le_refl _
  show own_FinW p e below s ({ frames := 2, cells := 2, slots := 48, locals := 24 } : Room).cells ({ frames := 2, cells := 2, slots := 48, locals := 24 } : Room).slots (own_Q3 Z ad0 p1 p2 uprecision_ad0 uscale_ad0 h0 n0) (s₁.setTop (entryFrame m #[(.ref ad0), (.int p1), (.int p2)] 3))
  refine own_castW (own_ef3 m ad0 p1 p2) ?_
  refine own_stepW (fun _ k => XS.aloadN X0.here hx rfl (hb hby own_d3_0) rfl rfl k) ?_
  show own_FinW p e below s _ _ _ (s₁.setTop (mkF m 1 #[.val (.ref ad0), .val (.int p1), .val (.int p2)] [(.ref ad0)]))
  obtain ⟨_, _, ⟨T1, L1, k1, n1⟩, -, X1, ⟨Lc1, hQ1, l1, y1, z1⟩, st1⟩ := X0.specialBack hx (y := own_y0) rfl hown (mvT hZ (own_w hw 26 rfl)) (mvT hZ (own_w hw 27 rfl)) (mvT hZ (own_w hw 30 rfl)) (by decide) (backOf (W := 0) (own_rm1 l Z a0 hw [] ad0 h0 n0 Z0 ) hZ (own_w hw 30 rfl) (own_w hw 29 rfl) (by decide) (by decide)) (g := (mkF m 1 #[.val (.ref ad0), .val (.int p1), .val (.int p2)] [(.ref ad0)])) rfl (by rw [hml]; rfl) (Steps.refl _) (a := ad0) (argsL := []) (rest := []) (lenOf own_pd0 rfl) rfl (by show 2 * 0 + _ ≤ _; exact Nat.le_of_eq rfl) (hb hby own_d3_1) (fun _ _ => ⟨rfl, e0, (by decide : 0 + 0 ≤ _), (by decide : 0 + 0 ≤ _)⟩)
  dsimp only [Pt.U, Pt.locs, Pt.cells, Pt.slots] at X1 l1 y1 z1 st1 hQ1
  subst l1 y1 z1
  obtain ⟨rfl, N1q, e1⟩ := hQ1
  have N1 := Fr.app N0 N1q
  refine own_stepW (fun _ k => st1.trans k) ?_
  show own_FinW p e below s _ _ _ (T1.setTop (mkF m 4 #[.val (.ref ad0), .val (.int p1), .val (.int p2)] []))
  obtain ⟨a2, T2, h2, kb2, X2, e2, E2, hS2, hk2, hZ2, hown2, st2⟩ := ldcS X1 hx hZ hown (own_w hw 34 rfl) (own_sa hw) e1 hS0 hk0 (g := (mkF m 4 #[.val (.ref ad0), .val (.int p1), .val (.int p2)] [])) rfl (hb hby own_d3_4) (n := 44) (by decide +kernel) (by decide) (by decide) (by decide)
  have K2 : Keep h0 h2 [ad0] := KR.ext E2
  have Z2 : n0 ≤ h2.size := Nat.le_trans Z0 E2.1
  have G3 := (E_ad0.ext E2)
  have G4 := (F_precision_ad0.ext E2)
  have G5 := (F_scale_ad0.ext E2)
  refine own_stepW st2 ?_
  show own_FinW p e below s _ _ _ (T2.setTop (mkF m 6 #[.val (.ref ad0), .val (.int p1), .val (.int p2)] [(.ref a2)]))
  refine own_stepW (fun _ k => XS.iloadN X2.here hx rfl (hb hby own_d3_6) rfl k) ?_
  show own_FinW p e below s _ _ _ (T2.setTop (mkF m 7 #[.val (.ref ad0), .val (.int p1), .val (.int p2)] [(.int p1), (.ref a2)]))
  refine own_stepW (fun _ k => XS.i2l X2.here hx rfl (hb hby own_d3_7) rfl k) ?_
  show own_FinW p e below s _ _ _ (T2.setTop (mkF m 8 #[.val (.ref ad0), .val (.int p1), .val (.int p2)] [(.long (p1.toInt64)), (.ref a2)]))
  refine own_stepW (fun _ k => XS.lconst X2.here hx rfl (hb hby own_d3_8) k) ?_
  show own_FinW p e below s _ _ _ (T2.setTop (mkF m 9 #[.val (.ref ad0), .val (.int p1), .val (.int p2)] [(.long (1 : Int64)), (.long (p1.toInt64)), (.ref a2)]))
  refine own_stepW (fun _ k => X2.ldc2Long hx hown2 (mvT hZ2 (own_w hw 42 rfl)) (g := (mkF m 9 #[.val (.ref ad0), .val (.int p1), .val (.int p2)] [(.long (1 : Int64)), (.long (p1.toInt64)), (.ref a2)])) rfl (hb hby own_d3_9) _ k) ?_
  show own_FinW p e below s _ _ _ (T2.setTop (mkF m 12 #[.val (.ref ad0), .val (.int p1), .val (.int p2)] [(.long (38 : Int64)), (.long (1 : Int64)), (.long (p1.toInt64)), (.ref a2)]))
  obtain ⟨_, _, ⟨T6, L6, k6, n6⟩, -, X6, ⟨Lc6, hQ6, l6, y6, z6⟩, st6⟩ := Jvm.LawKit.callS X2 hx (y := own_y1) hown2 (mvT hZ2 (own_w hw 43 rfl)) (mvT hZ2 (own_w hw 44 rfl)) (mvT hZ2 (own_w hw 45 rfl)) (mvT hZ2 (own_w hw 46 rfl)) (by decide) (backOf (W := 0) (own_rm2 l Z a0 hw [] a2 (p1.toInt64) ((1 : Int64)) ((38 : Int64)) h2 n0 Z2 (show ¬ ((lcmpW (p1.toInt64) (1 : Int64)) < (0 : Int32)) from hc3_12) (show ¬ ((0 : Int32) < (lcmpW (p1.toInt64) (38 : Int64))) from hc10_12)) hZ2 (own_w hw 46 rfl) (own_w hw 45 rfl) (by decide) (by decide)) (g := (mkF m 12 #[.val (.ref ad0), .val (.int p1), .val (.int p2)] [(.long (38 : Int64)), (.long (1 : Int64)), (.long (p1.toInt64)), (.ref a2)])) rfl (by rw [hml]; rfl) (argsL := [(.ref a2), (.long (p1.toInt64)), (.long (1 : Int64)), (.long (38 : Int64))]) (rest := []) (lenOf own_pd1 rfl) rfl (by show 2 * 0 + _ ≤ _; exact Nat.le_of_eq rfl) (hb hby own_d3_12) (fun _ _ => ⟨rfl, e2, (by decide : 2 + 0 ≤ _), (by decide : 48 + 0 ≤ _)⟩)
  dsimp only [Pt.U, Pt.locs, Pt.cells, Pt.slots] at X6 l6 y6 z6 st6 hQ6
  subst l6 y6 z6
  obtain ⟨rfl, N6q, e6⟩ := hQ6
  have N6 := Fr.app N1 N6q
  refine own_stepW (fun _ k => st6 _ k) ?_
  show own_FinW p e below s _ _ _ (T6.setTop (mkF m 15 #[.val (.ref ad0), .val (.int p1), .val (.int p2)] []))
  refine own_stepW (fun _ k => XS.iloadN X6.here hx rfl (hb hby own_d3_15) rfl k) ?_
  show own_FinW p e below s _ _ _ (T6.setTop (mkF m 16 #[.val (.ref ad0), .val (.int p1), .val (.int p2)] [(.int p2)]))
  refine own_stepW (fun _ k => XS.ifNo X6.here hx rfl (hb hby own_d3_16) rfl ((if0 _ _).trans (flt hc16).1) k) ?_
  show own_FinW p e below s _ _ _ (T6.setTop (mkF m 19 #[.val (.ref ad0), .val (.int p1), .val (.int p2)] []))
  refine own_stepW (fun _ k => XS.iloadN X6.here hx rfl (hb hby own_d3_19) rfl k) ?_
  show own_FinW p e below s _ _ _ (T6.setTop (mkF m 20 #[.val (.ref ad0), .val (.int p1), .val (.int p2)] [(.int p2)]))
  refine own_stepW (fun _ k => XS.iloadN X6.here hx rfl (hb hby own_d3_20) rfl k) ?_
  show own_FinW p e below s _ _ _ (T6.setTop (mkF m 21 #[.val (.ref ad0), .val (.int p1), .val (.int p2)] [(.int p1), (.int p2)]))
  refine own_stepW (fun _ k => XS.icmpYes X6.here hx rfl (pc0 := 21) (pc' := 39) rfl (hb hby own_d3_21) rfl (flt hc21).2.2.2 (by decide) (by decide) k) ?_
  show own_FinW p e below s _ _ _ (T6.setTop (mkF m 39 #[.val (.ref ad0), .val (.int p1), .val (.int p2)] []))
  refine own_stepW (fun _ k => XS.aloadN X6.here hx rfl (hb hby own_d3_39) rfl rfl k) ?_
  show own_FinW p e below s _ _ _ (T6.setTop (mkF m 40 #[.val (.ref ad0), .val (.int p1), .val (.int p2)] [(.ref ad0)]))
  refine own_stepW (fun _ k => XS.iloadN X6.here hx rfl (hb hby own_d3_40) rfl k) ?_
  show own_FinW p e below s _ _ _ (T6.setTop (mkF m 41 #[.val (.ref ad0), .val (.int p1), .val (.int p2)] [(.int p1), (.ref ad0)]))
  obtain ⟨T7, h7, X7, e7, W7, st7⟩ := putF X6 hx hZ2 hown2 (host := "") (Or.inl (own_w hw 47 rfl)) Via.refl e6 G4 G3 (Or.inr ⟨(own_w hw 48 rfl), rfl, hnm⟩) (own_w hw 21 rfl) (ty := .int) (by decide) rfl rfl (g := (mkF m 41 #[.val (.ref ad0), .val (.int p1), .val (.int p2)] [(.int p1), (.ref ad0)])) rfl rfl (hb hby own_d3_41)
  have N7 := Fr.snoc X7 N6 g_ad0
  have K7 : Keep h0 h7 [ad0] := K2.wr W7 (Or.inl (List.mem_of_getElem? (i := 0) rfl))
  have Z7 : n0 ≤ h7.size := Nat.le_trans Z2 (Keep.of_wr W7).1
  have hk7 := Nat.le_trans hk2 (Keep.of_wr W7).1
  have G8 := (G3.wr W7)
  have G9 := (G5.other W7 (Or.inr (slot_ne (Or.inr (own_w hw 50 rfl)) (Or.inr (own_w hw 48 rfl)) (by decide) (t := .int) (t' := .int) (by decide) (by decide))))
  have G10 := G4.same W7
  refine own_stepW st7 ?_
  show own_FinW p e below s _ _ _ (T7.setTop (mkF m 44 #[.val (.ref ad0), .val (.int p1), .val (.int p2)] []))
  refine own_stepW (fun _ k => XS.aloadN X7.here hx rfl (hb hby own_d3_44) rfl rfl k) ?_
  show own_FinW p e below s _ _ _ (T7.setTop (mkF m 45 #[.val (.ref ad0), .val (.int p1), .val (.int p2)] [(.ref ad0)]))
  refine own_stepW (fun _ k => XS.iloadN X7.here hx rfl (hb hby own_d3_45) rfl k) ?_
  show own_FinW p e below s _ _ _ (T7.setTop (mkF m 46 #[.val (.ref ad0), .val (.int p1), .val (.int p2)] [(.int p2), (.ref ad0)]))
  obtain ⟨T11, h11, X11, e11, W11, st11⟩ := putF X7 hx hZ2 hown2 (host := "") (Or.inl (own_w hw 49 rfl)) Via.refl e7 G9 G8 (Or.inr ⟨(own_w hw 50 rfl), rfl, hnm⟩) (own_w hw 21 rfl) (ty := .int) (by decide) rfl rfl (g := (mkF m 46 #[.val (.ref ad0), .val (.int p1), .val (.int p2)] [(.int p2), (.ref ad0)])) rfl rfl (hb hby own_d3_46)
  have N11 := Fr.snoc X11 N7 g_ad0
  have K11 : Keep h0 h11 [ad0] := K7.wr W11 (Or.inl (List.mem_of_getElem? (i := 0) rfl))
  have Z11 : n0 ≤ h11.size := Nat.le_trans Z7 (Keep.of_wr W11).1
  have hk11 := Nat.le_trans hk7 (Keep.of_wr W11).1
  have G12 := (G8.wr W11)
  have G13 := (G10.other W11 (Or.inr (slot_ne (Or.inr (own_w hw 48 rfl)) (Or.inr (own_w hw 50 rfl)) (by decide) (t := .int) (t' := .int) (by decide) (by decide))))
  have G14 := G9.same W11
  refine own_stepW st11 ?_
  show own_FinW p e below s _ _ _ (T11.setTop (mkF m 49 #[.val (.ref ad0), .val (.int p1), .val (.int p2)] []))
  exact own_retW X11 hlk hS2 e11 hk11 (v := none) (fun _ => rfl) (by decide) (by decide) (by show own_Q3 Z ad0 p1 p2 uprecision_ad0 uscale_ad0 h0 n0 _ T11.heap _; rw [e11]; exact ⟨N11, K11, rfl, G12, G13, G14⟩) (fun fs hr => X11.returnOut hx Bd.returns (hb hby own_d3_49) hr)

def own_r4 (wprecision_ad0 : Int32) : Int32 := (if (2 : Int32) < wprecision_ad0 then (if (4 : Int32) < wprecision_ad0 then (if (9 : Int32) < wprecision_ad0 then (if (18 : Int32) < wprecision_ad0 then (16 : Int32) else (8 : Int32)) else (4 : Int32)) else (2 : Int32)) else (1 : Int32))
theorem own_d4_0 : decode prog_40_method_3_code 0 = .ok (.aload_n 0, 1) := by decide +kernel
theorem own_d4_1 : decode prog_40_method_3_code 1 = .ok (.getfield 40, 3) := by decide +kernel
theorem own_d4_4 : decode prog_40_method_3_code 4 = .ok (.iconst 2, 1) := by decide +kernel
theorem own_d4_5 : decode prog_40_method_3_code 5 = .ok (.if_icmp .gt 5, 3) := by decide +kernel
theorem own_d4_8 : decode prog_40_method_3_code 8 = .ok (.iconst 1, 1) := by decide +kernel
theorem own_d4_9 : decode prog_40_method_3_code 9 = .ok (.ireturn, 1) := by decide +kernel
theorem own_d4_10 : decode prog_40_method_3_code 10 = .ok (.aload_n 0, 1) := by decide +kernel
theorem own_d4_11 : decode prog_40_method_3_code 11 = .ok (.getfield 40, 3) := by decide +kernel
theorem own_d4_14 : decode prog_40_method_3_code 14 = .ok (.iconst 4, 1) := by decide +kernel
theorem own_d4_15 : decode prog_40_method_3_code 15 = .ok (.if_icmp .gt 5, 3) := by decide +kernel
theorem own_d4_18 : decode prog_40_method_3_code 18 = .ok (.iconst 2, 1) := by decide +kernel
theorem own_d4_19 : decode prog_40_method_3_code 19 = .ok (.ireturn, 1) := by decide +kernel
theorem own_d4_20 : decode prog_40_method_3_code 20 = .ok (.aload_n 0, 1) := by decide +kernel
theorem own_d4_21 : decode prog_40_method_3_code 21 = .ok (.getfield 40, 3) := by decide +kernel
theorem own_d4_24 : decode prog_40_method_3_code 24 = .ok (.bipush 9, 2) := by decide +kernel
theorem own_d4_26 : decode prog_40_method_3_code 26 = .ok (.if_icmp .gt 5, 3) := by decide +kernel
theorem own_d4_29 : decode prog_40_method_3_code 29 = .ok (.iconst 4, 1) := by decide +kernel
theorem own_d4_30 : decode prog_40_method_3_code 30 = .ok (.ireturn, 1) := by decide +kernel
theorem own_d4_31 : decode prog_40_method_3_code 31 = .ok (.aload_n 0, 1) := by decide +kernel
theorem own_d4_32 : decode prog_40_method_3_code 32 = .ok (.getfield 40, 3) := by decide +kernel
theorem own_d4_35 : decode prog_40_method_3_code 35 = .ok (.bipush 18, 2) := by decide +kernel
theorem own_d4_37 : decode prog_40_method_3_code 37 = .ok (.if_icmp .gt 6, 3) := by decide +kernel
theorem own_d4_40 : decode prog_40_method_3_code 40 = .ok (.bipush 8, 2) := by decide +kernel
theorem own_d4_42 : decode prog_40_method_3_code 42 = .ok (.ireturn, 1) := by decide +kernel
theorem own_d4_43 : decode prog_40_method_3_code 43 = .ok (.bipush 16, 2) := by decide +kernel
theorem own_d4_45 : decode prog_40_method_3_code 45 = .ok (.ireturn, 1) := by decide +kernel
theorem own_ef4 (m : MethodId) (ad0 : Addr) : entryFrame m #[(.ref ad0)] 1 = mkF m 0 #[.val (.ref ad0)] [] := by first | (simp [entryFrame, mkF, argsToLocals, Value.category]; done) | rfl
def own_Q4 (Z : State) (ad0 : Addr) (wprecision_ad0 : Int32) (h0 : Heap) (n0 : Nat) (v : Option Value) (h : Heap) (L : List Loc) : Prop := v = some (.int (own_r4 wprecision_ad0)) ∧ Fr n0 L ∧ h = h0
set_option maxRecDepth 65536 in
set_option maxHeartbeats 40000000 in
theorem own_rm4 (l : Launch) (Z : State) (a0 : Array Value) (hw : ∀ d ∈ tables_1, d.before a0 Z = true) (ws : List Jvm.Cond) (ad0 : Addr) (wprecision_ad0 : Int32) (h0 : Heap) (n0 : Nat) (Z0 : n0 ≤ h0.size) (F_precision_ad0 : Fld Z h0 ad0 "com/example/castwright/castwright/model/DecimalType" "precision" "I" (.int wprecision_ad0)) :
    MetFree l (⟨"com/example/castwright/castwright/model/DecimalType", "width", "()I"⟩ : MethodName) (head1 (Jvm.Cond.code (⟨"com/example/castwright/castwright/model/DecimalType", "width", "()I"⟩ : MethodName) prog_40_method_3_code 1 (some .int) :: ws) ({ frames := 0, cells := 0, slots := 0, locals := 0 } : Room)) (fun a U => a = #[(.ref ad0)] ∧ Z.Warmed39 U.vm ∧ U.heap = h0) (fun _ _ _ _ _ => True) (fun _ U o U' => ∃ v L, o = .returned v ∧ own_Q4 Z ad0 wprecision_ad0 h0 n0 v U'.heap L ∧ FrameEnd U o U' L ({ frames := 0, cells := 0, slots := 0, locals := 0 } : Room).cells ({ frames := 0, cells := 0, slots := 0, locals := 0 } : Room).slots) := by
  refine MetFree.of_bodySF (plainFor_of_name own_pn2) hisR ?_
  intro p e s m args below meth c s₁ Bd hml0 hP hK
  obtain ⟨rfl, hZ, hh⟩ := hP
  have hx := Bd.exec
  have hby := Bd.bytes
  have hlk := Bd.notSynchronized
  have hml : c.maxLocals = 1 := hml0
  have hown : s.vm.findClass "com/example/castwright/castwright/model/DecimalType" = some m.cls := findClass_of_methodNamed Bd.named
  have hnm := (name_of_methodNamed Bd.named Bd.method).1
  have X0 : Stand p l e ({ frames := 0, cells := 0, slots := 0, locals := 0 } : Room) s m #[(.ref ad0)] below meth c s₁ [] 0 0 := Stand.of_body Bd
  have e0 : s₁.heap = h0 := by rw [← hh, Bd.state]; rfl
  have N0 := Fr.nil n0
  have KR : Keep h0 h0 [] := Keep.refl _ _
  show own_Fin p e below s ({ frames := 0, cells := 0, slots := 0, locals := 0 } : Room).cells ({ frames := 0, cells := 0, slots := 0, locals := 0 } : Room).slots (own_Q4 Z ad0 wprecision_ad0 h0 n0) (s₁.setTop (entryFrame m #[(.ref ad0)] 1))
  refine own_cast (own_ef4 m ad0) ?_
  refine own_step (fun _ k => XS.aloadN X0.here hx rfl (hb hby own_d4_0) rfl rfl k) ?_
  show own_Fin p e below s _ _ _ (s₁.setTop (mkF m 1 #[.val (.ref ad0)] [(.ref ad0)]))
  obtain ⟨T1, X1, e1, st1⟩ := getF X0 hx hZ hown (host := "") (Or.inl (own_w hw 47 rfl)) Via.refl e0 F_precision_ad0 (g := (mkF m 1 #[.val (.ref ad0)] [(.ref ad0)])) rfl rfl (hb hby own_d4_1)
  refine own_step st1 ?_
  show own_Fin p e below s _ _ _ (T1.setTop (mkF m 4 #[.val (.ref ad0)] [(.int wprecision_ad0)]))
  refine own_step (fun _ k => XS.iconst X1.here hx rfl (hb hby own_d4_4) k) ?_
  show own_Fin p e below s _ _ _ (T1.setTop (mkF m 5 #[.val (.ref ad0)] [(.int (2 : Int32)), (.int wprecision_ad0)]))
  by_cases hc2 : (2 : Int32) < wprecision_ad0
  · refine own_step (fun _ k => XS.icmpYes X1.here hx rfl (pc0 := 5) (pc' := 10) rfl (hb hby own_d4_5) rfl (tlt hc2).2.2.1 (by decide) (by decide) k) ?_
    show own_Fin p e below s _ _ _ (T1.setTop (mkF m 10 #[.val (.ref ad0)] []))
    refine own_step (fun _ k => XS.aloadN X1.here hx rfl (hb hby own_d4_10) rfl rfl k) ?_
    show own_Fin p e below s _ _ _ (T1.setTop (mkF m 11 #[.val (.ref ad0)] [(.ref ad0)]))
    obtain ⟨T3, X3, e3, st3⟩ := getF X1 hx hZ hown (host := "") (Or.inl (own_w hw 47 rfl)) Via.refl e1 F_precision_ad0 (g := (mkF m 11 #[.val (.ref ad0)] [(.ref ad0)])) rfl rfl (hb hby own_d4_11)
    refine own_step st3 ?_
    show own_Fin p e below s _ _ _ (T3.setTop (mkF m 14 #[.val (.ref ad0)] [(.int wprecision_ad0)]))
    refine own_step (fun _ k => XS.iconst X3.here hx rfl (hb hby own_d4_14) k) ?_
    show own_Fin p e below s _ _ _ (T3.setTop (mkF m 15 #[.val (.ref ad0)] [(.int (4 : Int32)), (.int wprecision_ad0)]))
    by_cases hc4 : (4 : Int32) < wprecision_ad0
    · refine own_step (fun _ k => XS.icmpYes X3.here hx rfl (pc0 := 15) (pc' := 20) rfl (hb hby own_d4_15) rfl (tlt hc4).2.2.1 (by decide) (by decide) k) ?_
      show own_Fin p e below s _ _ _ (T3.setTop (mkF m 20 #[.val (.ref ad0)] []))
      refine own_step (fun _ k => XS.aloadN X3.here hx rfl (hb hby own_d4_20) rfl rfl k) ?_
      show own_Fin p e below s _ _ _ (T3.setTop (mkF m 21 #[.val (.ref ad0)] [(.ref ad0)]))
      obtain ⟨T5, X5, e5, st5⟩ := getF X3 hx hZ hown (host := "") (Or.inl (own_w hw 47 rfl)) Via.refl e3 F_precision_ad0 (g := (mkF m 21 #[.val (.ref ad0)] [(.ref ad0)])) rfl rfl (hb hby own_d4_21)
      refine own_step st5 ?_
      show own_Fin p e below s _ _ _ (T5.setTop (mkF m 24 #[.val (.ref ad0)] [(.int wprecision_ad0)]))
      refine own_step (fun _ k => XS.bipush X5.here hx rfl (hb hby own_d4_24) k) ?_
      show own_Fin p e below s _ _ _ (T5.setTop (mkF m 26 #[.val (.ref ad0)] [(.int (9 : Int32)), (.int wprecision_ad0)]))
      by_cases hc6 : (9 : Int32) < wprecision_ad0
      · refine own_step (fun _ k => XS.icmpYes X5.here hx rfl (pc0 := 26) (pc' := 31) rfl (hb hby own_d4_26) rfl (tlt hc6).2.2.1 (by decide) (by decide) k) ?_
        show own_Fin p e below s _ _ _ (T5.setTop (mkF m 31 #[.val (.ref ad0)] []))
        refine own_step (fun _ k => XS.aloadN X5.here hx rfl (hb hby own_d4_31) rfl rfl k) ?_
        show own_Fin p e below s _ _ _ (T5.setTop (mkF m 32 #[.val (.ref ad0)] [(.ref ad0)]))
        obtain ⟨T7, X7, e7, st7⟩ := getF X5 hx hZ hown (host := "") (Or.inl (own_w hw 47 rfl)) Via.refl e5 F_precision_ad0 (g := (mkF m 32 #[.val (.ref ad0)] [(.ref ad0)])) rfl rfl (hb hby own_d4_32)
        refine own_step st7 ?_
        show own_Fin p e below s _ _ _ (T7.setTop (mkF m 35 #[.val (.ref ad0)] [(.int wprecision_ad0)]))
        refine own_step (fun _ k => XS.bipush X7.here hx rfl (hb hby own_d4_35) k) ?_
        show own_Fin p e below s _ _ _ (T7.setTop (mkF m 37 #[.val (.ref ad0)] [(.int (18 : Int32)), (.int wprecision_ad0)]))
        by_cases hc8 : (18 : Int32) < wprecision_ad0
        · refine own_step (fun _ k => XS.icmpYes X7.here hx rfl (pc0 := 37) (pc' := 43) rfl (hb hby own_d4_37) rfl (tlt hc8).2.2.1 (by decide) (by decide) k) ?_
          show own_Fin p e below s _ _ _ (T7.setTop (mkF m 43 #[.val (.ref ad0)] []))
          refine own_step (fun _ k => XS.bipush X7.here hx rfl (hb hby own_d4_43) k) ?_
          show own_Fin p e below s _ _ _ (T7.setTop (mkF m 45 #[.val (.ref ad0)] [(.int (16 : Int32))]))
          exact own_ret X7 hlk (v := some (.int (16 : Int32))) (fun h => by rw [Bd.returns] at h; cases h) (by decide) (by decide) (by show own_Q4 Z ad0 wprecision_ad0 h0 n0 _ T7.heap _; rw [e7]; exact ⟨(congrArg (fun z => some (Value.int z)) (show (own_r4 wprecision_ad0) = (16 : Int32) from by rw [own_r4, if_pos hc2, if_pos hc4, if_pos hc6, if_pos hc8]).symm), N0, rfl⟩) (fun fs hr => retOut X7 hx Bd.returns rfl (Or.inl ⟨rfl, Or.inl rfl, _, rfl⟩) (hb hby own_d4_45) hr)
        · refine own_step (fun _ k => XS.icmpNo X7.here hx rfl (hb hby own_d4_37) rfl (flt hc8).2.2.1 k) ?_
          show own_Fin p e below s _ _ _ (T7.setTop (mkF m 40 #[.val (.ref ad0)] []))
          refine own_step (fun _ k => XS.bipush X7.here hx rfl (hb hby own_d4_40) k) ?_
          show own_Fin p e below s _ _ _ (T7.setTop (mkF m 42 #[.val (.ref ad0)] [(.int (8 : Int32))]))
          exact own_ret X7 hlk (v := some (.int (8 : Int32))) (fun h => by rw [Bd.returns] at h; cases h) (by decide) (by decide) (by show own_Q4 Z ad0 wprecision_ad0 h0 n0 _ T7.heap _; rw [e7]; exact ⟨(congrArg (fun z => some (Value.int z)) (show (own_r4 wprecision_ad0) = (8 : Int32) from by rw [own_r4, if_pos hc2, if_pos hc4, if_pos hc6, if_neg hc8]).symm), N0, rfl⟩) (fun fs hr => retOut X7 hx Bd.returns rfl (Or.inl ⟨rfl, Or.inl rfl, _, rfl⟩) (hb hby own_d4_42) hr)
      · refine own_step (fun _ k => XS.icmpNo X5.here hx rfl (hb hby own_d4_26) rfl (flt hc6).2.2.1 k) ?_
        show own_Fin p e below s _ _ _ (T5.setTop (mkF m 29 #[.val (.ref ad0)] []))
        refine own_step (fun _ k => XS.iconst X5.here hx rfl (hb hby own_d4_29) k) ?_
        show own_Fin p e below s _ _ _ (T5.setTop (mkF m 30 #[.val (.ref ad0)] [(.int (4 : Int32))]))
        exact own_ret X5 hlk (v := some (.int (4 : Int32))) (fun h => by rw [Bd.returns] at h; cases h) (by decide) (by decide) (by show own_Q4 Z ad0 wprecision_ad0 h0 n0 _ T5.heap _; rw [e5]; exact ⟨(congrArg (fun z => some (Value.int z)) (show (own_r4 wprecision_ad0) = (4 : Int32) from by rw [own_r4, if_pos hc2, if_pos hc4, if_neg hc6]).symm), N0, rfl⟩) (fun fs hr => retOut X5 hx Bd.returns rfl (Or.inl ⟨rfl, Or.inl rfl, _, rfl⟩) (hb hby own_d4_30) hr)
    · refine own_step (fun _ k => XS.icmpNo X3.here hx rfl (hb hby own_d4_15) rfl (flt hc4).2.2.1 k) ?_
      show own_Fin p e below s _ _ _ (T3.setTop (mkF m 18 #[.val (.ref ad0)] []))
      refine own_step (fun _ k => XS.iconst X3.here hx rfl (hb hby own_d4_18) k) ?_
      show own_Fin p e below s _ _ _ (T3.setTop (mkF m 19 #[.val (.ref ad0)] [(.int (2 : Int32))]))
      exact own_ret X3 hlk (v := some (.int (2 : Int32))) (fun h => by rw [Bd.returns] at h; cases h) (by decide) (by decide) (by show own_Q4 Z ad0 wprecision_ad0 h0 n0 _ T3.heap _; rw [e3]; exact ⟨(congrArg (fun z => some (Value.int z)) (show (own_r4 wprecision_ad0) = (2 : Int32) from by rw [own_r4, if_pos hc2, if_neg hc4]).symm), N0, rfl⟩) (fun fs hr => retOut X3 hx Bd.returns rfl (Or.inl ⟨rfl, Or.inl rfl, _, rfl⟩) (hb hby own_d4_19) hr)
  · refine own_step (fun _ k => XS.icmpNo X1.here hx rfl (hb hby own_d4_5) rfl (flt hc2).2.2.1 k) ?_
    show own_Fin p e below s _ _ _ (T1.setTop (mkF m 8 #[.val (.ref ad0)] []))
    refine own_step (fun _ k => XS.iconst X1.here hx rfl (hb hby own_d4_8) k) ?_
    show own_Fin p e below s _ _ _ (T1.setTop (mkF m 9 #[.val (.ref ad0)] [(.int (1 : Int32))]))
    exact own_ret X1 hlk (v := some (.int (1 : Int32))) (fun h => by rw [Bd.returns] at h; cases h) (by decide) (by decide) (by show own_Q4 Z ad0 wprecision_ad0 h0 n0 _ T1.heap _; rw [e1]; exact ⟨(congrArg (fun z => some (Value.int z)) (show (own_r4 wprecision_ad0) = (1 : Int32) from by rw [own_r4, if_neg hc2]).symm), N0, rfl⟩) (fun fs hr => retOut X1 hx Bd.returns rfl (Or.inl ⟨rfl, Or.inl rfl, _, rfl⟩) (hb hby own_d4_9) hr)

def own_P0 (i : Int32) : Int64 := List.getD [(1 : Int64), (10 : Int64), (100 : Int64), (1000 : Int64), (10000 : Int64), (100000 : Int64), (1000000 : Int64), (10000000 : Int64), (100000000 : Int64), (1000000000 : Int64), (10000000000 : Int64), (100000000000 : Int64), (1000000000000 : Int64), (10000000000000 : Int64), (100000000000000 : Int64), (1000000000000000 : Int64), (10000000000000000 : Int64), (100000000000000000 : Int64), (1000000000000000000 : Int64)] i.toNatClampNeg (0 : Int64)
theorem own_small : ∀ k : Fin 19, own_r4 (Int32.ofNat k.val) = if (0 : Int32) < lcmpW (own_P0 (Int32.ofNat k.val) - (1 : Int64)) (127 : Int64) then (if (0 : Int32) < lcmpW (own_P0 (Int32.ofNat k.val) - (1 : Int64)) (32767 : Int64) then (if (0 : Int32) < lcmpW (own_P0 (Int32.ofNat k.val) - (1 : Int64)) (2147483647 : Int64) then (8 : Int32) else 4) else 2) else 1 := by decide +kernel
theorem own_law (n : Int32) (h0 : 0 ≤ n.toInt) (h1 : ¬ ((18 : Int32) < n)) : own_r4 n = if (0 : Int32) < lcmpW (own_P0 n - (1 : Int64)) (127 : Int64) then (if (0 : Int32) < lcmpW (own_P0 n - (1 : Int64)) (32767 : Int64) then (if (0 : Int32) < lcmpW (own_P0 n - (1 : Int64)) (2147483647 : Int64) then (8 : Int32) else 4) else 2) else 1 := by
  rw [Int32.lt_iff_toInt_lt, show (18 : Int32).toInt = 18 from by decide] at h1
  have := own_small ⟨n.toInt.toNat, by omega⟩
  rw [own_of n h0] at this
  exact this
theorem own_big (n : Int32) (h1 : (18 : Int32) < n) : own_r4 n = 16 := by
  have e (k : Int32) (hk : k.toInt ≤ 18) : k < n := by
    rw [Int32.lt_iff_toInt_lt, show (18 : Int32).toInt = 18 from by decide] at *
    omega
  rw [own_r4, if_pos (e 2 (by decide)), if_pos (e 4 (by decide)), if_pos (e 9 (by decide)), if_pos h1]
theorem own_in (x : Int32) (h1 : ¬ ((18 : Int32) < own_N x)) : ¬ (own_N x < 0) ∧ own_N x < (19 : Int32) := by
  have := own_n x
  simp only [Int32.lt_iff_toInt_lt, show (18 : Int32).toInt = 18 from by decide, show (0 : Int32).toInt = 0 from by decide, show (19 : Int32).toInt = 19 from by decide] at *
  omega

theorem own_pd2 : parseMethodDescriptor "(II)V" = some ⟨[.int, .int], none⟩ := by decide +kernel
abbrev own_y2 : MethodName := (⟨"com/example/castwright/castwright/model/DecimalType", "<init>", "(II)V"⟩ : MethodName)
theorem own_pd3 : parseMethodDescriptor "()I" = some ⟨[], some .int⟩ := by decide +kernel
abbrev own_y3 : MethodName := (⟨"com/example/castwright/castwright/model/DecimalType", "width", "()I"⟩ : MethodName)
theorem own_pn3 : plainName "com/example/castwright/castwright/model/DecimalTypeWidthPinLaw" = true := by first | (simp [plainName, overriddenIn]; done) | decide +kernel
theorem own_ef5 (m : MethodId) (p0 : Int32) (p1 : Int32) : entryFrame m #[(.int p0), (.int p1)] maxLocals = mkF m 0 #[.val (.int p0), .val (.int p1), .unset, .unset, .unset, .unset, .unset, .unset, .unset] [] := by first | (simp [entryFrame, mkF, argsToLocals, Value.category, maxLocals]; done) | rfl
def own_Q5 (Z : State) (p0 : Int32) (p1 : Int32) (h0 : Heap) (n0 : Nat) (v : Option Value) (h : Heap) (L : List Loc) : Prop := v = some (.int 1) ∧ Fr n0 L
set_option maxRecDepth 65536 in
set_option maxHeartbeats 40000000 in
theorem own_rm5 (l : Launch) (Z : State) (a0 : Array Value) (hw : ∀ d ∈ tables_1, d.before a0 Z = true) (ws : List Jvm.Cond) (p0 : Int32) (p1 : Int32) (h0 : Heap) (n0 : Nat) (Z0 : n0 ≤ h0.size) :
    MetFree l x (head1 (Jvm.Cond.code x code maxLocals ret :: ws) room_1) (fun a U => a = #[(.int p0), (.int p1)] ∧ Z.Warmed39 U.vm ∧ U.heap = h0) (fun _ _ _ _ _ => True) (fun _ U o U' => ∃ v L, o = .returned v ∧ own_Q5 Z p0 p1 h0 n0 v U'.heap L ∧ ReturnedEndW U o U' L room_1.cells room_1.slots) := by
  refine MetFree.of_bodySF (plainFor_of_name own_pn3) hisR ?_
  intro p e s m args below meth c s₁ Bd hml0 hP hK
  obtain ⟨rfl, hZ, hh⟩ := hP
  have hx := Bd.exec
  have hby := Bd.bytes
  have hlk := Bd.notSynchronized
  have hml : c.maxLocals = 9 := hml0
  have hown : s.vm.findClass "com/example/castwright/castwright/model/DecimalTypeWidthPinLaw" = some m.cls := findClass_of_methodNamed Bd.named
  have hnm := (name_of_methodNamed Bd.named Bd.method).1
  have X0 : Stand p l e room_1 (s.setVm s.vm) m #[(.int p0), (.int p1)] below meth c s₁ [] 0 0 := Stand.of_body Bd
  have e0 : s₁.heap = h0 := by rw [← hh, Bd.state]; rfl
  have N0 := Fr.nil n0
  have KR : Keep h0 h0 [] := Keep.refl _ _
  have hS0 : s.Since s.vm h0.size := (State.WarmedH.refl s).since _
  have hk0 : h0.size ≤ h0.size := Nat.le_refl _
  show own_FinW p e below s room_1.cells room_1.slots (own_Q5 Z p0 p1 h0 n0) (s₁.setTop (entryFrame m #[(.int p0), (.int p1)] maxLocals))
  refine own_castW (own_ef5 m p0 p1) ?_
  refine own_stepW (fun _ k => XS.iconst X0.here hx rfl (hb hby at_0) k) ?_
  show own_FinW p e below s _ _ _ (s₁.setTop (mkF m 1 #[.val (.int p0), .val (.int p1), .unset, .unset, .unset, .unset, .unset, .unset, .unset] [(.int (1 : Int32))]))
  refine own_stepW (fun _ k => XS.iloadN X0.here hx rfl (hb hby at_1) rfl k) ?_
  show own_FinW p e below s _ _ _ (s₁.setTop (mkF m 2 #[.val (.int p0), .val (.int p1), .unset, .unset, .unset, .unset, .unset, .unset, .unset] [(.int p0), (.int (1 : Int32))]))
  refine own_stepW (fun _ k => X0.ldcInt hx hown (mvT hZ (own_w hw 0 rfl)) (g := (mkF m 2 #[.val (.int p0), .val (.int p1), .unset, .unset, .unset, .unset, .unset, .unset, .unset] [(.int p0), (.int (1 : Int32))])) rfl (hb hby at_2) _ k) ?_
  show own_FinW p e below s _ _ _ (s₁.setTop (mkF m 4 #[.val (.int p0), .val (.int p1), .unset, .unset, .unset, .unset, .unset, .unset, .unset] [(.int (2147483647 : Int32)), (.int p0), (.int (1 : Int32))]))
  refine own_stepW (fun _ k => XS.iand X0.here hx rfl (hb hby at_4) rfl k) ?_
  show own_FinW p e below s _ _ _ (s₁.setTop (mkF m 5 #[.val (.int p0), .val (.int p1), .unset, .unset, .unset, .unset, .unset, .unset, .unset] [(.int (p0 &&& (2147483647 : Int32))), (.int (1 : Int32))]))
  refine own_stepW (fun _ k => XS.bipush X0.here hx rfl (hb hby at_5) k) ?_
  show own_FinW p e below s _ _ _ (s₁.setTop (mkF m 7 #[.val (.int p0), .val (.int p1), .unset, .unset, .unset, .unset, .unset, .unset, .unset] [(.int (38 : Int32)), (.int (p0 &&& (2147483647 : Int32))), (.int (1 : Int32))]))
  refine own_stepW (fun _ k => iremM (g := (mkF m 7 #[.val (.int p0), .val (.int p1), .unset, .unset, .unset, .unset, .unset, .unset, .unset] [(.int (38 : Int32)), (.int (p0 &&& (2147483647 : Int32))), (.int (1 : Int32))])) X0 hx rfl (hb hby at_7) rfl (by decide) k) ?_
  show own_FinW p e below s _ _ _ (s₁.setTop (mkF m 8 #[.val (.int p0), .val (.int p1), .unset, .unset, .unset, .unset, .unset, .unset, .unset] [(.int ((p0 &&& (2147483647 : Int32)) % (38 : Int32))), (.int (1 : Int32))]))
  refine own_stepW (fun _ k => XS.iadd X0.here hx rfl (hb hby at_8) rfl k) ?_
  show own_FinW p e below s _ _ _ (s₁.setTop (mkF m 9 #[.val (.int p0), .val (.int p1), .unset, .unset, .unset, .unset, .unset, .unset, .unset] [(.int ((1 : Int32) + ((p0 &&& (2147483647 : Int32)) % (38 : Int32))))]))
  refine own_stepW (fun _ k => XS.istoreN X0.here hx rfl (hb hby at_9) rfl (l' := #[.val (.int p0), .val (.int p1), .val (.int ((1 : Int32) + ((p0 &&& (2147483647 : Int32)) % (38 : Int32)))), .unset, .unset, .unset, .unset, .unset, .unset]) rfl k) ?_
  show own_FinW p e below s _ _ _ (s₁.setTop (mkF m 10 #[.val (.int p0), .val (.int p1), .val (.int ((1 : Int32) + ((p0 &&& (2147483647 : Int32)) % (38 : Int32)))), .unset, .unset, .unset, .unset, .unset, .unset] []))
  refine own_stepW (fun _ k => XS.iloadN X0.here hx rfl (hb hby at_10) rfl k) ?_
  show own_FinW p e below s _ _ _ (s₁.setTop (mkF m 11 #[.val (.int p0), .val (.int p1), .val (.int ((1 : Int32) + ((p0 &&& (2147483647 : Int32)) % (38 : Int32)))), .unset, .unset, .unset, .unset, .unset, .unset] [(.int p1)]))
  refine own_stepW (fun _ k => X0.ldcInt hx hown (mvT hZ (own_w hw 0 rfl)) (g := (mkF m 11 #[.val (.int p0), .val (.int p1), .val (.int ((1 : Int32) + ((p0 &&& (2147483647 : Int32)) % (38 : Int32)))), .unset, .unset, .unset, .unset, .unset, .unset] [(.int p1)])) rfl (hb hby at_11) _ k) ?_
  show own_FinW p e below s _ _ _ (s₁.setTop (mkF m 13 #[.val (.int p0), .val (.int p1), .val (.int ((1 : Int32) + ((p0 &&& (2147483647 : Int32)) % (38 : Int32)))), .unset, .unset, .unset, .unset, .unset, .unset] [(.int (2147483647 : Int32)), (.int p1)]))
  refine own_stepW (fun _ k => XS.iand X0.here hx rfl (hb hby at_13) rfl k) ?_
  show own_FinW p e below s _ _ _ (s₁.setTop (mkF m 14 #[.val (.int p0), .val (.int p1), .val (.int ((1 : Int32) + ((p0 &&& (2147483647 : Int32)) % (38 : Int32)))), .unset, .unset, .unset, .unset, .unset, .unset] [(.int (p1 &&& (2147483647 : Int32)))]))
  refine own_stepW (fun _ k => XS.iloadN X0.here hx rfl (hb hby at_14) rfl k) ?_
  show own_FinW p e below s _ _ _ (s₁.setTop (mkF m 15 #[.val (.int p0), .val (.int p1), .val (.int ((1 : Int32) + ((p0 &&& (2147483647 : Int32)) % (38 : Int32)))), .unset, .unset, .unset, .unset, .unset, .unset] [(.int ((1 : Int32) + ((p0 &&& (2147483647 : Int32)) % (38 : Int32)))), (.int (p1 &&& (2147483647 : Int32)))]))
  refine own_stepW (fun _ k => XS.iconst X0.here hx rfl (hb hby at_15) k) ?_
  show own_FinW p e below s _ _ _ (s₁.setTop (mkF m 16 #[.val (.int p0), .val (.int p1), .val (.int ((1 : Int32) + ((p0 &&& (2147483647 : Int32)) % (38 : Int32)))), .unset, .unset, .unset, .unset, .unset, .unset] [(.int (1 : Int32)), (.int ((1 : Int32) + ((p0 &&& (2147483647 : Int32)) % (38 : Int32)))), (.int (p1 &&& (2147483647 : Int32)))]))
  refine own_stepW (fun _ k => XS.iadd X0.here hx rfl (hb hby at_16) rfl k) ?_
  show own_FinW p e below s _ _ _ (s₁.setTop (mkF m 17 #[.val (.int p0), .val (.int p1), .val (.int ((1 : Int32) + ((p0 &&& (2147483647 : Int32)) % (38 : Int32)))), .unset, .unset, .unset, .unset, .unset, .unset] [(.int (((1 : Int32) + ((p0 &&& (2147483647 : Int32)) % (38 : Int32))) + (1 : Int32))), (.int (p1 &&& (2147483647 : Int32)))]))
  refine own_stepW (fun _ k => iremM (g := (mkF m 17 #[.val (.int p0), .val (.int p1), .val (.int ((1 : Int32) + ((p0 &&& (2147483647 : Int32)) % (38 : Int32)))), .unset, .unset, .unset, .unset, .unset, .unset] [(.int (((1 : Int32) + ((p0 &&& (2147483647 : Int32)) % (38 : Int32))) + (1 : Int32))), (.int (p1 &&& (2147483647 : Int32)))])) X0 hx rfl (hb hby at_17) rfl (own_nz p0) k) ?_
  show own_FinW p e below s _ _ _ (s₁.setTop (mkF m 18 #[.val (.int p0), .val (.int p1), .val (.int ((1 : Int32) + ((p0 &&& (2147483647 : Int32)) % (38 : Int32)))), .unset, .unset, .unset, .unset, .unset, .unset] [(.int ((p1 &&& (2147483647 : Int32)) % (((1 : Int32) + ((p0 &&& (2147483647 : Int32)) % (38 : Int32))) + (1 : Int32))))]))
  refine own_stepW (fun _ k => XS.istoreN X0.here hx rfl (hb hby at_18) rfl (l' := #[.val (.int p0), .val (.int p1), .val (.int ((1 : Int32) + ((p0 &&& (2147483647 : Int32)) % (38 : Int32)))), .val (.int ((p1 &&& (2147483647 : Int32)) % (((1 : Int32) + ((p0 &&& (2147483647 : Int32)) % (38 : Int32))) + (1 : Int32)))), .unset, .unset, .unset, .unset, .unset]) rfl k) ?_
  show own_FinW p e below s _ _ _ (s₁.setTop (mkF m 19 #[.val (.int p0), .val (.int p1), .val (.int ((1 : Int32) + ((p0 &&& (2147483647 : Int32)) % (38 : Int32)))), .val (.int ((p1 &&& (2147483647 : Int32)) % (((1 : Int32) + ((p0 &&& (2147483647 : Int32)) % (38 : Int32))) + (1 : Int32)))), .unset, .unset, .unset, .unset, .unset] []))
  refine own_stepW (fun _ k => XS.bipush X0.here hx rfl (hb hby at_19) k) ?_
  show own_FinW p e below s _ _ _ (s₁.setTop (mkF m 21 #[.val (.int p0), .val (.int p1), .val (.int ((1 : Int32) + ((p0 &&& (2147483647 : Int32)) % (38 : Int32)))), .val (.int ((p1 &&& (2147483647 : Int32)) % (((1 : Int32) + ((p0 &&& (2147483647 : Int32)) % (38 : Int32))) + (1 : Int32)))), .unset, .unset, .unset, .unset, .unset] [(.int (19 : Int32))]))
  obtain ⟨T1, h1, k1, X1, e1, E1, A1, st1⟩ := newP X0 hx hZ (own_w hw 1 rfl) e0 (g := (mkF m 21 #[.val (.int p0), .val (.int p1), .val (.int ((1 : Int32) + ((p0 &&& (2147483647 : Int32)) % (38 : Int32)))), .val (.int ((p1 &&& (2147483647 : Int32)) % (((1 : Int32) + ((p0 &&& (2147483647 : Int32)) % (38 : Int32))) + (1 : Int32)))), .unset, .unset, .unset, .unset, .unset] [(.int (19 : Int32))])) rfl (hb hby at_21) rfl (by decide) (cap := 19) (by decide) (by decide) (by decide) (by decide)
  obtain ⟨b1, g1⟩ : ∃ z, z = h0.size := ⟨_, rfl⟩
  rw [← g1] at A1 st1
  have gg1 : n0 ≤ b1 := Nat.le_trans Z0 (Nat.le_of_eq g1.symm)
  have sz1 : h0.size ≤ b1 := Nat.le_trans KR.1 (Nat.le_of_eq g1.symm)
  have K1 : Keep h0 h1 [] := KR.ext E1
  have Z1 : n0 ≤ h1.size := Nat.le_trans Z0 E1.1
  have hk1 := Nat.le_trans hk0 E1.1
  have G2 : Arv Z h1 b1 k1 .long (19 : Int32) [(.long (0 : Int64)), (.long (0 : Int64)), (.long (0 : Int64)), (.long (0 : Int64)), (.long (0 : Int64)), (.long (0 : Int64)), (.long (0 : Int64)), (.long (0 : Int64)), (.long (0 : Int64)), (.long (0 : Int64)), (.long (0 : Int64)), (.long (0 : Int64)), (.long (0 : Int64)), (.long (0 : Int64)), (.long (0 : Int64)), (.long (0 : Int64)), (.long (0 : Int64)), (.long (0 : Int64)), (.long (0 : Int64))] (.long (0 : Int64)) := (Arv.new A1 (by decide)).pad (pad_rep [] (.long (0 : Int64)) 19)
  refine own_stepW st1 ?_
  show own_FinW p e below s _ _ _ (T1.setTop (mkF m 23 #[.val (.int p0), .val (.int p1), .val (.int ((1 : Int32) + ((p0 &&& (2147483647 : Int32)) % (38 : Int32)))), .val (.int ((p1 &&& (2147483647 : Int32)) % (((1 : Int32) + ((p0 &&& (2147483647 : Int32)) % (38 : Int32))) + (1 : Int32)))), .unset, .unset, .unset, .unset, .unset] [(.ref b1)]))
  refine own_stepW (fun _ k => XS.dup X1.here hx rfl (hb hby at_23) rfl rfl k) ?_
  show own_FinW p e below s _ _ _ (T1.setTop (mkF m 24 #[.val (.int p0), .val (.int p1), .val (.int ((1 : Int32) + ((p0 &&& (2147483647 : Int32)) % (38 : Int32)))), .val (.int ((p1 &&& (2147483647 : Int32)) % (((1 : Int32) + ((p0 &&& (2147483647 : Int32)) % (38 : Int32))) + (1 : Int32)))), .unset, .unset, .unset, .unset, .unset] [(.ref b1), (.ref b1)]))
  refine own_stepW (fun _ k => XS.iconst X1.here hx rfl (hb hby at_24) k) ?_
  show own_FinW p e below s _ _ _ (T1.setTop (mkF m 25 #[.val (.int p0), .val (.int p1), .val (.int ((1 : Int32) + ((p0 &&& (2147483647 : Int32)) % (38 : Int32)))), .val (.int ((p1 &&& (2147483647 : Int32)) % (((1 : Int32) + ((p0 &&& (2147483647 : Int32)) % (38 : Int32))) + (1 : Int32)))), .unset, .unset, .unset, .unset, .unset] [(.int (0 : Int32)), (.ref b1), (.ref b1)]))
  refine own_stepW (fun _ k => XS.lconst X1.here hx rfl (hb hby at_25) k) ?_
  show own_FinW p e below s _ _ _ (T1.setTop (mkF m 26 #[.val (.int p0), .val (.int p1), .val (.int ((1 : Int32) + ((p0 &&& (2147483647 : Int32)) % (38 : Int32)))), .val (.int ((p1 &&& (2147483647 : Int32)) % (((1 : Int32) + ((p0 &&& (2147483647 : Int32)) % (38 : Int32))) + (1 : Int32)))), .unset, .unset, .unset, .unset, .unset] [(.long (1 : Int64)), (.int (0 : Int32)), (.ref b1), (.ref b1)]))
  obtain ⟨cl3, Ar3, q3, Sz3, Ng3, Hs3, Gf3⟩ := id G2
  have hin3 : ¬ ((0 : Int32) < 0 ∨ cl3.slots.size ≤ ((0 : Int32)).toNatClampNeg) := inb_of Sz3 ⟨by decide, by decide⟩
  obtain ⟨T3, h3, X3, e3, W3, st3⟩ := stJ X1 hx hZ e1 Ar3 (j := (0 : Int32)) hin3 (g := (mkF m 26 #[.val (.int p0), .val (.int p1), .val (.int ((1 : Int32) + ((p0 &&& (2147483647 : Int32)) % (38 : Int32)))), .val (.int ((p1 &&& (2147483647 : Int32)) % (((1 : Int32) + ((p0 &&& (2147483647 : Int32)) % (38 : Int32))) + (1 : Int32)))), .unset, .unset, .unset, .unset, .unset] [(.long (1 : Int64)), (.int (0 : Int32)), (.ref b1), (.ref b1)])) rfl rfl (hb hby at_26)
  have N3 := Fr.snoc X3 N0 gg1
  have K3 : Keep h0 h3 [] := K1.wr W3 (Or.inr sz1)
  have Z3 : n0 ≤ h3.size := Nat.le_trans Z1 (Keep.of_wr W3).1
  have hk3 := Nat.le_trans hk1 (Keep.of_wr W3).1
  have G4 : Arv Z h3 b1 k1 .long (19 : Int32) [(.long (1 : Int64)), (.long (0 : Int64)), (.long (0 : Int64)), (.long (0 : Int64)), (.long (0 : Int64)), (.long (0 : Int64)), (.long (0 : Int64)), (.long (0 : Int64)), (.long (0 : Int64)), (.long (0 : Int64)), (.long (0 : Int64)), (.long (0 : Int64)), (.long (0 : Int64)), (.long (0 : Int64)), (.long (0 : Int64)), (.long (0 : Int64)), (.long (0 : Int64)), (.long (0 : Int64)), (.long (0 : Int64))] (.long (0 : Int64)) := Arv.set Ar3 q3 Sz3 Ng3 Hs3 Gf3 rfl W3 0 rfl (Nat.le_of_ble_eq_true rfl)
  refine own_stepW st3 ?_
  show own_FinW p e below s _ _ _ (T3.setTop (mkF m 27 #[.val (.int p0), .val (.int p1), .val (.int ((1 : Int32) + ((p0 &&& (2147483647 : Int32)) % (38 : Int32)))), .val (.int ((p1 &&& (2147483647 : Int32)) % (((1 : Int32) + ((p0 &&& (2147483647 : Int32)) % (38 : Int32))) + (1 : Int32)))), .unset, .unset, .unset, .unset, .unset] [(.ref b1)]))
  refine own_stepW (fun _ k => XS.dup X3.here hx rfl (hb hby at_27) rfl rfl k) ?_
  show own_FinW p e below s _ _ _ (T3.setTop (mkF m 28 #[.val (.int p0), .val (.int p1), .val (.int ((1 : Int32) + ((p0 &&& (2147483647 : Int32)) % (38 : Int32)))), .val (.int ((p1 &&& (2147483647 : Int32)) % (((1 : Int32) + ((p0 &&& (2147483647 : Int32)) % (38 : Int32))) + (1 : Int32)))), .unset, .unset, .unset, .unset, .unset] [(.ref b1), (.ref b1)]))
  refine own_stepW (fun _ k => XS.iconst X3.here hx rfl (hb hby at_28) k) ?_
  show own_FinW p e below s _ _ _ (T3.setTop (mkF m 29 #[.val (.int p0), .val (.int p1), .val (.int ((1 : Int32) + ((p0 &&& (2147483647 : Int32)) % (38 : Int32)))), .val (.int ((p1 &&& (2147483647 : Int32)) % (((1 : Int32) + ((p0 &&& (2147483647 : Int32)) % (38 : Int32))) + (1 : Int32)))), .unset, .unset, .unset, .unset, .unset] [(.int (1 : Int32)), (.ref b1), (.ref b1)]))
  refine own_stepW (fun _ k => X3.ldc2Long hx hown (mvT hZ (own_w hw 2 rfl)) (g := (mkF m 29 #[.val (.int p0), .val (.int p1), .val (.int ((1 : Int32) + ((p0 &&& (2147483647 : Int32)) % (38 : Int32)))), .val (.int ((p1 &&& (2147483647 : Int32)) % (((1 : Int32) + ((p0 &&& (2147483647 : Int32)) % (38 : Int32))) + (1 : Int32)))), .unset, .unset, .unset, .unset, .unset] [(.int (1 : Int32)), (.ref b1), (.ref b1)])) rfl (hb hby at_29) _ k) ?_
  show own_FinW p e below s _ _ _ (T3.setTop (mkF m 32 #[.val (.int p0), .val (.int p1), .val (.int ((1 : Int32) + ((p0 &&& (2147483647 : Int32)) % (38 : Int32)))), .val (.int ((p1 &&& (2147483647 : Int32)) % (((1 : Int32) + ((p0 &&& (2147483647 : Int32)) % (38 : Int32))) + (1 : Int32)))), .unset, .unset, .unset, .unset, .unset] [(.long (10 : Int64)), (.int (1 : Int32)), (.ref b1), (.ref b1)]))
  obtain ⟨cl5, Ar5, q5, Sz5, Ng5, Hs5, Gf5⟩ := id G4
  have hin5 : ¬ ((1 : Int32) < 0 ∨ cl5.slots.size ≤ ((1 : Int32)).toNatClampNeg) := inb_of Sz5 ⟨by decide, by decide⟩
  obtain ⟨T5, h5, X5, e5, W5, st5⟩ := stJ X3 hx hZ e3 Ar5 (j := (1 : Int32)) hin5 (g := (mkF m 32 #[.val (.int p0), .val (.int p1), .val (.int ((1 : Int32) + ((p0 &&& (2147483647 : Int32)) % (38 : Int32)))), .val (.int ((p1 &&& (2147483647 : Int32)) % (((1 : Int32) + ((p0 &&& (2147483647 : Int32)) % (38 : Int32))) + (1 : Int32)))), .unset, .unset, .unset, .unset, .unset] [(.long (10 : Int64)), (.int (1 : Int32)), (.ref b1), (.ref b1)])) rfl rfl (hb hby at_32)
  have N5 := Fr.snoc X5 N3 gg1
  have K5 : Keep h0 h5 [] := K3.wr W5 (Or.inr sz1)
  have Z5 : n0 ≤ h5.size := Nat.le_trans Z3 (Keep.of_wr W5).1
  have hk5 := Nat.le_trans hk3 (Keep.of_wr W5).1
  have G6 : Arv Z h5 b1 k1 .long (19 : Int32) [(.long (1 : Int64)), (.long (10 : Int64)), (.long (0 : Int64)), (.long (0 : Int64)), (.long (0 : Int64)), (.long (0 : Int64)), (.long (0 : Int64)), (.long (0 : Int64)), (.long (0 : Int64)), (.long (0 : Int64)), (.long (0 : Int64)), (.long (0 : Int64)), (.long (0 : Int64)), (.long (0 : Int64)), (.long (0 : Int64)), (.long (0 : Int64)), (.long (0 : Int64)), (.long (0 : Int64)), (.long (0 : Int64))] (.long (0 : Int64)) := Arv.set Ar5 q5 Sz5 Ng5 Hs5 Gf5 rfl W5 1 rfl (Nat.le_of_ble_eq_true rfl)
  refine own_stepW st5 ?_
  show own_FinW p e below s _ _ _ (T5.setTop (mkF m 33 #[.val (.int p0), .val (.int p1), .val (.int ((1 : Int32) + ((p0 &&& (2147483647 : Int32)) % (38 : Int32)))), .val (.int ((p1 &&& (2147483647 : Int32)) % (((1 : Int32) + ((p0 &&& (2147483647 : Int32)) % (38 : Int32))) + (1 : Int32)))), .unset, .unset, .unset, .unset, .unset] [(.ref b1)]))
  refine own_stepW (fun _ k => XS.dup X5.here hx rfl (hb hby at_33) rfl rfl k) ?_
  show own_FinW p e below s _ _ _ (T5.setTop (mkF m 34 #[.val (.int p0), .val (.int p1), .val (.int ((1 : Int32) + ((p0 &&& (2147483647 : Int32)) % (38 : Int32)))), .val (.int ((p1 &&& (2147483647 : Int32)) % (((1 : Int32) + ((p0 &&& (2147483647 : Int32)) % (38 : Int32))) + (1 : Int32)))), .unset, .unset, .unset, .unset, .unset] [(.ref b1), (.ref b1)]))
  refine own_stepW (fun _ k => XS.iconst X5.here hx rfl (hb hby at_34) k) ?_
  show own_FinW p e below s _ _ _ (T5.setTop (mkF m 35 #[.val (.int p0), .val (.int p1), .val (.int ((1 : Int32) + ((p0 &&& (2147483647 : Int32)) % (38 : Int32)))), .val (.int ((p1 &&& (2147483647 : Int32)) % (((1 : Int32) + ((p0 &&& (2147483647 : Int32)) % (38 : Int32))) + (1 : Int32)))), .unset, .unset, .unset, .unset, .unset] [(.int (2 : Int32)), (.ref b1), (.ref b1)]))
  refine own_stepW (fun _ k => X5.ldc2Long hx hown (mvT hZ (own_w hw 3 rfl)) (g := (mkF m 35 #[.val (.int p0), .val (.int p1), .val (.int ((1 : Int32) + ((p0 &&& (2147483647 : Int32)) % (38 : Int32)))), .val (.int ((p1 &&& (2147483647 : Int32)) % (((1 : Int32) + ((p0 &&& (2147483647 : Int32)) % (38 : Int32))) + (1 : Int32)))), .unset, .unset, .unset, .unset, .unset] [(.int (2 : Int32)), (.ref b1), (.ref b1)])) rfl (hb hby at_35) _ k) ?_
  show own_FinW p e below s _ _ _ (T5.setTop (mkF m 38 #[.val (.int p0), .val (.int p1), .val (.int ((1 : Int32) + ((p0 &&& (2147483647 : Int32)) % (38 : Int32)))), .val (.int ((p1 &&& (2147483647 : Int32)) % (((1 : Int32) + ((p0 &&& (2147483647 : Int32)) % (38 : Int32))) + (1 : Int32)))), .unset, .unset, .unset, .unset, .unset] [(.long (100 : Int64)), (.int (2 : Int32)), (.ref b1), (.ref b1)]))
  obtain ⟨cl7, Ar7, q7, Sz7, Ng7, Hs7, Gf7⟩ := id G6
  have hin7 : ¬ ((2 : Int32) < 0 ∨ cl7.slots.size ≤ ((2 : Int32)).toNatClampNeg) := inb_of Sz7 ⟨by decide, by decide⟩
  obtain ⟨T7, h7, X7, e7, W7, st7⟩ := stJ X5 hx hZ e5 Ar7 (j := (2 : Int32)) hin7 (g := (mkF m 38 #[.val (.int p0), .val (.int p1), .val (.int ((1 : Int32) + ((p0 &&& (2147483647 : Int32)) % (38 : Int32)))), .val (.int ((p1 &&& (2147483647 : Int32)) % (((1 : Int32) + ((p0 &&& (2147483647 : Int32)) % (38 : Int32))) + (1 : Int32)))), .unset, .unset, .unset, .unset, .unset] [(.long (100 : Int64)), (.int (2 : Int32)), (.ref b1), (.ref b1)])) rfl rfl (hb hby at_38)
  have N7 := Fr.snoc X7 N5 gg1
  have K7 : Keep h0 h7 [] := K5.wr W7 (Or.inr sz1)
  have Z7 : n0 ≤ h7.size := Nat.le_trans Z5 (Keep.of_wr W7).1
  have hk7 := Nat.le_trans hk5 (Keep.of_wr W7).1
  have G8 : Arv Z h7 b1 k1 .long (19 : Int32) [(.long (1 : Int64)), (.long (10 : Int64)), (.long (100 : Int64)), (.long (0 : Int64)), (.long (0 : Int64)), (.long (0 : Int64)), (.long (0 : Int64)), (.long (0 : Int64)), (.long (0 : Int64)), (.long (0 : Int64)), (.long (0 : Int64)), (.long (0 : Int64)), (.long (0 : Int64)), (.long (0 : Int64)), (.long (0 : Int64)), (.long (0 : Int64)), (.long (0 : Int64)), (.long (0 : Int64)), (.long (0 : Int64))] (.long (0 : Int64)) := Arv.set Ar7 q7 Sz7 Ng7 Hs7 Gf7 rfl W7 2 rfl (Nat.le_of_ble_eq_true rfl)
  refine own_stepW st7 ?_
  show own_FinW p e below s _ _ _ (T7.setTop (mkF m 39 #[.val (.int p0), .val (.int p1), .val (.int ((1 : Int32) + ((p0 &&& (2147483647 : Int32)) % (38 : Int32)))), .val (.int ((p1 &&& (2147483647 : Int32)) % (((1 : Int32) + ((p0 &&& (2147483647 : Int32)) % (38 : Int32))) + (1 : Int32)))), .unset, .unset, .unset, .unset, .unset] [(.ref b1)]))
  refine own_stepW (fun _ k => XS.dup X7.here hx rfl (hb hby at_39) rfl rfl k) ?_
  show own_FinW p e below s _ _ _ (T7.setTop (mkF m 40 #[.val (.int p0), .val (.int p1), .val (.int ((1 : Int32) + ((p0 &&& (2147483647 : Int32)) % (38 : Int32)))), .val (.int ((p1 &&& (2147483647 : Int32)) % (((1 : Int32) + ((p0 &&& (2147483647 : Int32)) % (38 : Int32))) + (1 : Int32)))), .unset, .unset, .unset, .unset, .unset] [(.ref b1), (.ref b1)]))
  refine own_stepW (fun _ k => XS.iconst X7.here hx rfl (hb hby at_40) k) ?_
  show own_FinW p e below s _ _ _ (T7.setTop (mkF m 41 #[.val (.int p0), .val (.int p1), .val (.int ((1 : Int32) + ((p0 &&& (2147483647 : Int32)) % (38 : Int32)))), .val (.int ((p1 &&& (2147483647 : Int32)) % (((1 : Int32) + ((p0 &&& (2147483647 : Int32)) % (38 : Int32))) + (1 : Int32)))), .unset, .unset, .unset, .unset, .unset] [(.int (3 : Int32)), (.ref b1), (.ref b1)]))
  refine own_stepW (fun _ k => X7.ldc2Long hx hown (mvT hZ (own_w hw 4 rfl)) (g := (mkF m 41 #[.val (.int p0), .val (.int p1), .val (.int ((1 : Int32) + ((p0 &&& (2147483647 : Int32)) % (38 : Int32)))), .val (.int ((p1 &&& (2147483647 : Int32)) % (((1 : Int32) + ((p0 &&& (2147483647 : Int32)) % (38 : Int32))) + (1 : Int32)))), .unset, .unset, .unset, .unset, .unset] [(.int (3 : Int32)), (.ref b1), (.ref b1)])) rfl (hb hby at_41) _ k) ?_
  show own_FinW p e below s _ _ _ (T7.setTop (mkF m 44 #[.val (.int p0), .val (.int p1), .val (.int ((1 : Int32) + ((p0 &&& (2147483647 : Int32)) % (38 : Int32)))), .val (.int ((p1 &&& (2147483647 : Int32)) % (((1 : Int32) + ((p0 &&& (2147483647 : Int32)) % (38 : Int32))) + (1 : Int32)))), .unset, .unset, .unset, .unset, .unset] [(.long (1000 : Int64)), (.int (3 : Int32)), (.ref b1), (.ref b1)]))
  obtain ⟨cl9, Ar9, q9, Sz9, Ng9, Hs9, Gf9⟩ := id G8
  have hin9 : ¬ ((3 : Int32) < 0 ∨ cl9.slots.size ≤ ((3 : Int32)).toNatClampNeg) := inb_of Sz9 ⟨by decide, by decide⟩
  obtain ⟨T9, h9, X9, e9, W9, st9⟩ := stJ X7 hx hZ e7 Ar9 (j := (3 : Int32)) hin9 (g := (mkF m 44 #[.val (.int p0), .val (.int p1), .val (.int ((1 : Int32) + ((p0 &&& (2147483647 : Int32)) % (38 : Int32)))), .val (.int ((p1 &&& (2147483647 : Int32)) % (((1 : Int32) + ((p0 &&& (2147483647 : Int32)) % (38 : Int32))) + (1 : Int32)))), .unset, .unset, .unset, .unset, .unset] [(.long (1000 : Int64)), (.int (3 : Int32)), (.ref b1), (.ref b1)])) rfl rfl (hb hby at_44)
  have N9 := Fr.snoc X9 N7 gg1
  have K9 : Keep h0 h9 [] := K7.wr W9 (Or.inr sz1)
  have Z9 : n0 ≤ h9.size := Nat.le_trans Z7 (Keep.of_wr W9).1
  have hk9 := Nat.le_trans hk7 (Keep.of_wr W9).1
  have G10 : Arv Z h9 b1 k1 .long (19 : Int32) [(.long (1 : Int64)), (.long (10 : Int64)), (.long (100 : Int64)), (.long (1000 : Int64)), (.long (0 : Int64)), (.long (0 : Int64)), (.long (0 : Int64)), (.long (0 : Int64)), (.long (0 : Int64)), (.long (0 : Int64)), (.long (0 : Int64)), (.long (0 : Int64)), (.long (0 : Int64)), (.long (0 : Int64)), (.long (0 : Int64)), (.long (0 : Int64)), (.long (0 : Int64)), (.long (0 : Int64)), (.long (0 : Int64))] (.long (0 : Int64)) := Arv.set Ar9 q9 Sz9 Ng9 Hs9 Gf9 rfl W9 3 rfl (Nat.le_of_ble_eq_true rfl)
  refine own_stepW st9 ?_
  show own_FinW p e below s _ _ _ (T9.setTop (mkF m 45 #[.val (.int p0), .val (.int p1), .val (.int ((1 : Int32) + ((p0 &&& (2147483647 : Int32)) % (38 : Int32)))), .val (.int ((p1 &&& (2147483647 : Int32)) % (((1 : Int32) + ((p0 &&& (2147483647 : Int32)) % (38 : Int32))) + (1 : Int32)))), .unset, .unset, .unset, .unset, .unset] [(.ref b1)]))
  refine own_stepW (fun _ k => XS.dup X9.here hx rfl (hb hby at_45) rfl rfl k) ?_
  show own_FinW p e below s _ _ _ (T9.setTop (mkF m 46 #[.val (.int p0), .val (.int p1), .val (.int ((1 : Int32) + ((p0 &&& (2147483647 : Int32)) % (38 : Int32)))), .val (.int ((p1 &&& (2147483647 : Int32)) % (((1 : Int32) + ((p0 &&& (2147483647 : Int32)) % (38 : Int32))) + (1 : Int32)))), .unset, .unset, .unset, .unset, .unset] [(.ref b1), (.ref b1)]))
  refine own_stepW (fun _ k => XS.iconst X9.here hx rfl (hb hby at_46) k) ?_
  show own_FinW p e below s _ _ _ (T9.setTop (mkF m 47 #[.val (.int p0), .val (.int p1), .val (.int ((1 : Int32) + ((p0 &&& (2147483647 : Int32)) % (38 : Int32)))), .val (.int ((p1 &&& (2147483647 : Int32)) % (((1 : Int32) + ((p0 &&& (2147483647 : Int32)) % (38 : Int32))) + (1 : Int32)))), .unset, .unset, .unset, .unset, .unset] [(.int (4 : Int32)), (.ref b1), (.ref b1)]))
  refine own_stepW (fun _ k => X9.ldc2Long hx hown (mvT hZ (own_w hw 5 rfl)) (g := (mkF m 47 #[.val (.int p0), .val (.int p1), .val (.int ((1 : Int32) + ((p0 &&& (2147483647 : Int32)) % (38 : Int32)))), .val (.int ((p1 &&& (2147483647 : Int32)) % (((1 : Int32) + ((p0 &&& (2147483647 : Int32)) % (38 : Int32))) + (1 : Int32)))), .unset, .unset, .unset, .unset, .unset] [(.int (4 : Int32)), (.ref b1), (.ref b1)])) rfl (hb hby at_47) _ k) ?_
  show own_FinW p e below s _ _ _ (T9.setTop (mkF m 50 #[.val (.int p0), .val (.int p1), .val (.int ((1 : Int32) + ((p0 &&& (2147483647 : Int32)) % (38 : Int32)))), .val (.int ((p1 &&& (2147483647 : Int32)) % (((1 : Int32) + ((p0 &&& (2147483647 : Int32)) % (38 : Int32))) + (1 : Int32)))), .unset, .unset, .unset, .unset, .unset] [(.long (10000 : Int64)), (.int (4 : Int32)), (.ref b1), (.ref b1)]))
  obtain ⟨cl11, Ar11, q11, Sz11, Ng11, Hs11, Gf11⟩ := id G10
  have hin11 : ¬ ((4 : Int32) < 0 ∨ cl11.slots.size ≤ ((4 : Int32)).toNatClampNeg) := inb_of Sz11 ⟨by decide, by decide⟩
  obtain ⟨T11, h11, X11, e11, W11, st11⟩ := stJ X9 hx hZ e9 Ar11 (j := (4 : Int32)) hin11 (g := (mkF m 50 #[.val (.int p0), .val (.int p1), .val (.int ((1 : Int32) + ((p0 &&& (2147483647 : Int32)) % (38 : Int32)))), .val (.int ((p1 &&& (2147483647 : Int32)) % (((1 : Int32) + ((p0 &&& (2147483647 : Int32)) % (38 : Int32))) + (1 : Int32)))), .unset, .unset, .unset, .unset, .unset] [(.long (10000 : Int64)), (.int (4 : Int32)), (.ref b1), (.ref b1)])) rfl rfl (hb hby at_50)
  have N11 := Fr.snoc X11 N9 gg1
  have K11 : Keep h0 h11 [] := K9.wr W11 (Or.inr sz1)
  have Z11 : n0 ≤ h11.size := Nat.le_trans Z9 (Keep.of_wr W11).1
  have hk11 := Nat.le_trans hk9 (Keep.of_wr W11).1
  have G12 : Arv Z h11 b1 k1 .long (19 : Int32) [(.long (1 : Int64)), (.long (10 : Int64)), (.long (100 : Int64)), (.long (1000 : Int64)), (.long (10000 : Int64)), (.long (0 : Int64)), (.long (0 : Int64)), (.long (0 : Int64)), (.long (0 : Int64)), (.long (0 : Int64)), (.long (0 : Int64)), (.long (0 : Int64)), (.long (0 : Int64)), (.long (0 : Int64)), (.long (0 : Int64)), (.long (0 : Int64)), (.long (0 : Int64)), (.long (0 : Int64)), (.long (0 : Int64))] (.long (0 : Int64)) := Arv.set Ar11 q11 Sz11 Ng11 Hs11 Gf11 rfl W11 4 rfl (Nat.le_of_ble_eq_true rfl)
  refine own_stepW st11 ?_
  show own_FinW p e below s _ _ _ (T11.setTop (mkF m 51 #[.val (.int p0), .val (.int p1), .val (.int ((1 : Int32) + ((p0 &&& (2147483647 : Int32)) % (38 : Int32)))), .val (.int ((p1 &&& (2147483647 : Int32)) % (((1 : Int32) + ((p0 &&& (2147483647 : Int32)) % (38 : Int32))) + (1 : Int32)))), .unset, .unset, .unset, .unset, .unset] [(.ref b1)]))
  refine own_stepW (fun _ k => XS.dup X11.here hx rfl (hb hby at_51) rfl rfl k) ?_
  show own_FinW p e below s _ _ _ (T11.setTop (mkF m 52 #[.val (.int p0), .val (.int p1), .val (.int ((1 : Int32) + ((p0 &&& (2147483647 : Int32)) % (38 : Int32)))), .val (.int ((p1 &&& (2147483647 : Int32)) % (((1 : Int32) + ((p0 &&& (2147483647 : Int32)) % (38 : Int32))) + (1 : Int32)))), .unset, .unset, .unset, .unset, .unset] [(.ref b1), (.ref b1)]))
  refine own_stepW (fun _ k => XS.iconst X11.here hx rfl (hb hby at_52) k) ?_
  show own_FinW p e below s _ _ _ (T11.setTop (mkF m 53 #[.val (.int p0), .val (.int p1), .val (.int ((1 : Int32) + ((p0 &&& (2147483647 : Int32)) % (38 : Int32)))), .val (.int ((p1 &&& (2147483647 : Int32)) % (((1 : Int32) + ((p0 &&& (2147483647 : Int32)) % (38 : Int32))) + (1 : Int32)))), .unset, .unset, .unset, .unset, .unset] [(.int (5 : Int32)), (.ref b1), (.ref b1)]))
  refine own_stepW (fun _ k => X11.ldc2Long hx hown (mvT hZ (own_w hw 6 rfl)) (g := (mkF m 53 #[.val (.int p0), .val (.int p1), .val (.int ((1 : Int32) + ((p0 &&& (2147483647 : Int32)) % (38 : Int32)))), .val (.int ((p1 &&& (2147483647 : Int32)) % (((1 : Int32) + ((p0 &&& (2147483647 : Int32)) % (38 : Int32))) + (1 : Int32)))), .unset, .unset, .unset, .unset, .unset] [(.int (5 : Int32)), (.ref b1), (.ref b1)])) rfl (hb hby at_53) _ k) ?_
  show own_FinW p e below s _ _ _ (T11.setTop (mkF m 56 #[.val (.int p0), .val (.int p1), .val (.int ((1 : Int32) + ((p0 &&& (2147483647 : Int32)) % (38 : Int32)))), .val (.int ((p1 &&& (2147483647 : Int32)) % (((1 : Int32) + ((p0 &&& (2147483647 : Int32)) % (38 : Int32))) + (1 : Int32)))), .unset, .unset, .unset, .unset, .unset] [(.long (100000 : Int64)), (.int (5 : Int32)), (.ref b1), (.ref b1)]))
  obtain ⟨cl13, Ar13, q13, Sz13, Ng13, Hs13, Gf13⟩ := id G12
  have hin13 : ¬ ((5 : Int32) < 0 ∨ cl13.slots.size ≤ ((5 : Int32)).toNatClampNeg) := inb_of Sz13 ⟨by decide, by decide⟩
  obtain ⟨T13, h13, X13, e13, W13, st13⟩ := stJ X11 hx hZ e11 Ar13 (j := (5 : Int32)) hin13 (g := (mkF m 56 #[.val (.int p0), .val (.int p1), .val (.int ((1 : Int32) + ((p0 &&& (2147483647 : Int32)) % (38 : Int32)))), .val (.int ((p1 &&& (2147483647 : Int32)) % (((1 : Int32) + ((p0 &&& (2147483647 : Int32)) % (38 : Int32))) + (1 : Int32)))), .unset, .unset, .unset, .unset, .unset] [(.long (100000 : Int64)), (.int (5 : Int32)), (.ref b1), (.ref b1)])) rfl rfl (hb hby at_56)
  have N13 := Fr.snoc X13 N11 gg1
  have K13 : Keep h0 h13 [] := K11.wr W13 (Or.inr sz1)
  have Z13 : n0 ≤ h13.size := Nat.le_trans Z11 (Keep.of_wr W13).1
  have hk13 := Nat.le_trans hk11 (Keep.of_wr W13).1
  have G14 : Arv Z h13 b1 k1 .long (19 : Int32) [(.long (1 : Int64)), (.long (10 : Int64)), (.long (100 : Int64)), (.long (1000 : Int64)), (.long (10000 : Int64)), (.long (100000 : Int64)), (.long (0 : Int64)), (.long (0 : Int64)), (.long (0 : Int64)), (.long (0 : Int64)), (.long (0 : Int64)), (.long (0 : Int64)), (.long (0 : Int64)), (.long (0 : Int64)), (.long (0 : Int64)), (.long (0 : Int64)), (.long (0 : Int64)), (.long (0 : Int64)), (.long (0 : Int64))] (.long (0 : Int64)) := Arv.set Ar13 q13 Sz13 Ng13 Hs13 Gf13 rfl W13 5 rfl (Nat.le_of_ble_eq_true rfl)
  refine own_stepW st13 ?_
  show own_FinW p e below s _ _ _ (T13.setTop (mkF m 57 #[.val (.int p0), .val (.int p1), .val (.int ((1 : Int32) + ((p0 &&& (2147483647 : Int32)) % (38 : Int32)))), .val (.int ((p1 &&& (2147483647 : Int32)) % (((1 : Int32) + ((p0 &&& (2147483647 : Int32)) % (38 : Int32))) + (1 : Int32)))), .unset, .unset, .unset, .unset, .unset] [(.ref b1)]))
  refine own_stepW (fun _ k => XS.dup X13.here hx rfl (hb hby at_57) rfl rfl k) ?_
  show own_FinW p e below s _ _ _ (T13.setTop (mkF m 58 #[.val (.int p0), .val (.int p1), .val (.int ((1 : Int32) + ((p0 &&& (2147483647 : Int32)) % (38 : Int32)))), .val (.int ((p1 &&& (2147483647 : Int32)) % (((1 : Int32) + ((p0 &&& (2147483647 : Int32)) % (38 : Int32))) + (1 : Int32)))), .unset, .unset, .unset, .unset, .unset] [(.ref b1), (.ref b1)]))
  refine own_stepW (fun _ k => XS.bipush X13.here hx rfl (hb hby at_58) k) ?_
  show own_FinW p e below s _ _ _ (T13.setTop (mkF m 60 #[.val (.int p0), .val (.int p1), .val (.int ((1 : Int32) + ((p0 &&& (2147483647 : Int32)) % (38 : Int32)))), .val (.int ((p1 &&& (2147483647 : Int32)) % (((1 : Int32) + ((p0 &&& (2147483647 : Int32)) % (38 : Int32))) + (1 : Int32)))), .unset, .unset, .unset, .unset, .unset] [(.int (6 : Int32)), (.ref b1), (.ref b1)]))
  refine own_stepW (fun _ k => X13.ldc2Long hx hown (mvT hZ (own_w hw 7 rfl)) (g := (mkF m 60 #[.val (.int p0), .val (.int p1), .val (.int ((1 : Int32) + ((p0 &&& (2147483647 : Int32)) % (38 : Int32)))), .val (.int ((p1 &&& (2147483647 : Int32)) % (((1 : Int32) + ((p0 &&& (2147483647 : Int32)) % (38 : Int32))) + (1 : Int32)))), .unset, .unset, .unset, .unset, .unset] [(.int (6 : Int32)), (.ref b1), (.ref b1)])) rfl (hb hby at_60) _ k) ?_
  show own_FinW p e below s _ _ _ (T13.setTop (mkF m 63 #[.val (.int p0), .val (.int p1), .val (.int ((1 : Int32) + ((p0 &&& (2147483647 : Int32)) % (38 : Int32)))), .val (.int ((p1 &&& (2147483647 : Int32)) % (((1 : Int32) + ((p0 &&& (2147483647 : Int32)) % (38 : Int32))) + (1 : Int32)))), .unset, .unset, .unset, .unset, .unset] [(.long (1000000 : Int64)), (.int (6 : Int32)), (.ref b1), (.ref b1)]))
  obtain ⟨cl15, Ar15, q15, Sz15, Ng15, Hs15, Gf15⟩ := id G14
  have hin15 : ¬ ((6 : Int32) < 0 ∨ cl15.slots.size ≤ ((6 : Int32)).toNatClampNeg) := inb_of Sz15 ⟨by decide, by decide⟩
  obtain ⟨T15, h15, X15, e15, W15, st15⟩ := stJ X13 hx hZ e13 Ar15 (j := (6 : Int32)) hin15 (g := (mkF m 63 #[.val (.int p0), .val (.int p1), .val (.int ((1 : Int32) + ((p0 &&& (2147483647 : Int32)) % (38 : Int32)))), .val (.int ((p1 &&& (2147483647 : Int32)) % (((1 : Int32) + ((p0 &&& (2147483647 : Int32)) % (38 : Int32))) + (1 : Int32)))), .unset, .unset, .unset, .unset, .unset] [(.long (1000000 : Int64)), (.int (6 : Int32)), (.ref b1), (.ref b1)])) rfl rfl (hb hby at_63)
  have N15 := Fr.snoc X15 N13 gg1
  have K15 : Keep h0 h15 [] := K13.wr W15 (Or.inr sz1)
  have Z15 : n0 ≤ h15.size := Nat.le_trans Z13 (Keep.of_wr W15).1
  have hk15 := Nat.le_trans hk13 (Keep.of_wr W15).1
  have G16 : Arv Z h15 b1 k1 .long (19 : Int32) [(.long (1 : Int64)), (.long (10 : Int64)), (.long (100 : Int64)), (.long (1000 : Int64)), (.long (10000 : Int64)), (.long (100000 : Int64)), (.long (1000000 : Int64)), (.long (0 : Int64)), (.long (0 : Int64)), (.long (0 : Int64)), (.long (0 : Int64)), (.long (0 : Int64)), (.long (0 : Int64)), (.long (0 : Int64)), (.long (0 : Int64)), (.long (0 : Int64)), (.long (0 : Int64)), (.long (0 : Int64)), (.long (0 : Int64))] (.long (0 : Int64)) := Arv.set Ar15 q15 Sz15 Ng15 Hs15 Gf15 rfl W15 6 rfl (Nat.le_of_ble_eq_true rfl)
  refine own_stepW st15 ?_
  show own_FinW p e below s _ _ _ (T15.setTop (mkF m 64 #[.val (.int p0), .val (.int p1), .val (.int ((1 : Int32) + ((p0 &&& (2147483647 : Int32)) % (38 : Int32)))), .val (.int ((p1 &&& (2147483647 : Int32)) % (((1 : Int32) + ((p0 &&& (2147483647 : Int32)) % (38 : Int32))) + (1 : Int32)))), .unset, .unset, .unset, .unset, .unset] [(.ref b1)]))
  refine own_stepW (fun _ k => XS.dup X15.here hx rfl (hb hby at_64) rfl rfl k) ?_
  show own_FinW p e below s _ _ _ (T15.setTop (mkF m 65 #[.val (.int p0), .val (.int p1), .val (.int ((1 : Int32) + ((p0 &&& (2147483647 : Int32)) % (38 : Int32)))), .val (.int ((p1 &&& (2147483647 : Int32)) % (((1 : Int32) + ((p0 &&& (2147483647 : Int32)) % (38 : Int32))) + (1 : Int32)))), .unset, .unset, .unset, .unset, .unset] [(.ref b1), (.ref b1)]))
  refine own_stepW (fun _ k => XS.bipush X15.here hx rfl (hb hby at_65) k) ?_
  show own_FinW p e below s _ _ _ (T15.setTop (mkF m 67 #[.val (.int p0), .val (.int p1), .val (.int ((1 : Int32) + ((p0 &&& (2147483647 : Int32)) % (38 : Int32)))), .val (.int ((p1 &&& (2147483647 : Int32)) % (((1 : Int32) + ((p0 &&& (2147483647 : Int32)) % (38 : Int32))) + (1 : Int32)))), .unset, .unset, .unset, .unset, .unset] [(.int (7 : Int32)), (.ref b1), (.ref b1)]))
  refine own_stepW (fun _ k => X15.ldc2Long hx hown (mvT hZ (own_w hw 8 rfl)) (g := (mkF m 67 #[.val (.int p0), .val (.int p1), .val (.int ((1 : Int32) + ((p0 &&& (2147483647 : Int32)) % (38 : Int32)))), .val (.int ((p1 &&& (2147483647 : Int32)) % (((1 : Int32) + ((p0 &&& (2147483647 : Int32)) % (38 : Int32))) + (1 : Int32)))), .unset, .unset, .unset, .unset, .unset] [(.int (7 : Int32)), (.ref b1), (.ref b1)])) rfl (hb hby at_67) _ k) ?_
  show own_FinW p e below s _ _ _ (T15.setTop (mkF m 70 #[.val (.int p0), .val (.int p1), .val (.int ((1 : Int32) + ((p0 &&& (2147483647 : Int32)) % (38 : Int32)))), .val (.int ((p1 &&& (2147483647 : Int32)) % (((1 : Int32) + ((p0 &&& (2147483647 : Int32)) % (38 : Int32))) + (1 : Int32)))), .unset, .unset, .unset, .unset, .unset] [(.long (10000000 : Int64)), (.int (7 : Int32)), (.ref b1), (.ref b1)]))
  obtain ⟨cl17, Ar17, q17, Sz17, Ng17, Hs17, Gf17⟩ := id G16
  have hin17 : ¬ ((7 : Int32) < 0 ∨ cl17.slots.size ≤ ((7 : Int32)).toNatClampNeg) := inb_of Sz17 ⟨by decide, by decide⟩
  obtain ⟨T17, h17, X17, e17, W17, st17⟩ := stJ X15 hx hZ e15 Ar17 (j := (7 : Int32)) hin17 (g := (mkF m 70 #[.val (.int p0), .val (.int p1), .val (.int ((1 : Int32) + ((p0 &&& (2147483647 : Int32)) % (38 : Int32)))), .val (.int ((p1 &&& (2147483647 : Int32)) % (((1 : Int32) + ((p0 &&& (2147483647 : Int32)) % (38 : Int32))) + (1 : Int32)))), .unset, .unset, .unset, .unset, .unset] [(.long (10000000 : Int64)), (.int (7 : Int32)), (.ref b1), (.ref b1)])) rfl rfl (hb hby at_70)
  have N17 := Fr.snoc X17 N15 gg1
  have K17 : Keep h0 h17 [] := K15.wr W17 (Or.inr sz1)
  have Z17 : n0 ≤ h17.size := Nat.le_trans Z15 (Keep.of_wr W17).1
  have hk17 := Nat.le_trans hk15 (Keep.of_wr W17).1
  have G18 : Arv Z h17 b1 k1 .long (19 : Int32) [(.long (1 : Int64)), (.long (10 : Int64)), (.long (100 : Int64)), (.long (1000 : Int64)), (.long (10000 : Int64)), (.long (100000 : Int64)), (.long (1000000 : Int64)), (.long (10000000 : Int64)), (.long (0 : Int64)), (.long (0 : Int64)), (.long (0 : Int64)), (.long (0 : Int64)), (.long (0 : Int64)), (.long (0 : Int64)), (.long (0 : Int64)), (.long (0 : Int64)), (.long (0 : Int64)), (.long (0 : Int64)), (.long (0 : Int64))] (.long (0 : Int64)) := Arv.set Ar17 q17 Sz17 Ng17 Hs17 Gf17 rfl W17 7 rfl (Nat.le_of_ble_eq_true rfl)
  refine own_stepW st17 ?_
  show own_FinW p e below s _ _ _ (T17.setTop (mkF m 71 #[.val (.int p0), .val (.int p1), .val (.int ((1 : Int32) + ((p0 &&& (2147483647 : Int32)) % (38 : Int32)))), .val (.int ((p1 &&& (2147483647 : Int32)) % (((1 : Int32) + ((p0 &&& (2147483647 : Int32)) % (38 : Int32))) + (1 : Int32)))), .unset, .unset, .unset, .unset, .unset] [(.ref b1)]))
  refine own_stepW (fun _ k => XS.dup X17.here hx rfl (hb hby at_71) rfl rfl k) ?_
  show own_FinW p e below s _ _ _ (T17.setTop (mkF m 72 #[.val (.int p0), .val (.int p1), .val (.int ((1 : Int32) + ((p0 &&& (2147483647 : Int32)) % (38 : Int32)))), .val (.int ((p1 &&& (2147483647 : Int32)) % (((1 : Int32) + ((p0 &&& (2147483647 : Int32)) % (38 : Int32))) + (1 : Int32)))), .unset, .unset, .unset, .unset, .unset] [(.ref b1), (.ref b1)]))
  refine own_stepW (fun _ k => XS.bipush X17.here hx rfl (hb hby at_72) k) ?_
  show own_FinW p e below s _ _ _ (T17.setTop (mkF m 74 #[.val (.int p0), .val (.int p1), .val (.int ((1 : Int32) + ((p0 &&& (2147483647 : Int32)) % (38 : Int32)))), .val (.int ((p1 &&& (2147483647 : Int32)) % (((1 : Int32) + ((p0 &&& (2147483647 : Int32)) % (38 : Int32))) + (1 : Int32)))), .unset, .unset, .unset, .unset, .unset] [(.int (8 : Int32)), (.ref b1), (.ref b1)]))
  refine own_stepW (fun _ k => X17.ldc2Long hx hown (mvT hZ (own_w hw 9 rfl)) (g := (mkF m 74 #[.val (.int p0), .val (.int p1), .val (.int ((1 : Int32) + ((p0 &&& (2147483647 : Int32)) % (38 : Int32)))), .val (.int ((p1 &&& (2147483647 : Int32)) % (((1 : Int32) + ((p0 &&& (2147483647 : Int32)) % (38 : Int32))) + (1 : Int32)))), .unset, .unset, .unset, .unset, .unset] [(.int (8 : Int32)), (.ref b1), (.ref b1)])) rfl (hb hby at_74) _ k) ?_
  show own_FinW p e below s _ _ _ (T17.setTop (mkF m 77 #[.val (.int p0), .val (.int p1), .val (.int ((1 : Int32) + ((p0 &&& (2147483647 : Int32)) % (38 : Int32)))), .val (.int ((p1 &&& (2147483647 : Int32)) % (((1 : Int32) + ((p0 &&& (2147483647 : Int32)) % (38 : Int32))) + (1 : Int32)))), .unset, .unset, .unset, .unset, .unset] [(.long (100000000 : Int64)), (.int (8 : Int32)), (.ref b1), (.ref b1)]))
  obtain ⟨cl19, Ar19, q19, Sz19, Ng19, Hs19, Gf19⟩ := id G18
  have hin19 : ¬ ((8 : Int32) < 0 ∨ cl19.slots.size ≤ ((8 : Int32)).toNatClampNeg) := inb_of Sz19 ⟨by decide, by decide⟩
  obtain ⟨T19, h19, X19, e19, W19, st19⟩ := stJ X17 hx hZ e17 Ar19 (j := (8 : Int32)) hin19 (g := (mkF m 77 #[.val (.int p0), .val (.int p1), .val (.int ((1 : Int32) + ((p0 &&& (2147483647 : Int32)) % (38 : Int32)))), .val (.int ((p1 &&& (2147483647 : Int32)) % (((1 : Int32) + ((p0 &&& (2147483647 : Int32)) % (38 : Int32))) + (1 : Int32)))), .unset, .unset, .unset, .unset, .unset] [(.long (100000000 : Int64)), (.int (8 : Int32)), (.ref b1), (.ref b1)])) rfl rfl (hb hby at_77)
  have N19 := Fr.snoc X19 N17 gg1
  have K19 : Keep h0 h19 [] := K17.wr W19 (Or.inr sz1)
  have Z19 : n0 ≤ h19.size := Nat.le_trans Z17 (Keep.of_wr W19).1
  have hk19 := Nat.le_trans hk17 (Keep.of_wr W19).1
  have G20 : Arv Z h19 b1 k1 .long (19 : Int32) [(.long (1 : Int64)), (.long (10 : Int64)), (.long (100 : Int64)), (.long (1000 : Int64)), (.long (10000 : Int64)), (.long (100000 : Int64)), (.long (1000000 : Int64)), (.long (10000000 : Int64)), (.long (100000000 : Int64)), (.long (0 : Int64)), (.long (0 : Int64)), (.long (0 : Int64)), (.long (0 : Int64)), (.long (0 : Int64)), (.long (0 : Int64)), (.long (0 : Int64)), (.long (0 : Int64)), (.long (0 : Int64)), (.long (0 : Int64))] (.long (0 : Int64)) := Arv.set Ar19 q19 Sz19 Ng19 Hs19 Gf19 rfl W19 8 rfl (Nat.le_of_ble_eq_true rfl)
  refine own_stepW st19 ?_
  show own_FinW p e below s _ _ _ (T19.setTop (mkF m 78 #[.val (.int p0), .val (.int p1), .val (.int ((1 : Int32) + ((p0 &&& (2147483647 : Int32)) % (38 : Int32)))), .val (.int ((p1 &&& (2147483647 : Int32)) % (((1 : Int32) + ((p0 &&& (2147483647 : Int32)) % (38 : Int32))) + (1 : Int32)))), .unset, .unset, .unset, .unset, .unset] [(.ref b1)]))
  refine own_stepW (fun _ k => XS.dup X19.here hx rfl (hb hby at_78) rfl rfl k) ?_
  show own_FinW p e below s _ _ _ (T19.setTop (mkF m 79 #[.val (.int p0), .val (.int p1), .val (.int ((1 : Int32) + ((p0 &&& (2147483647 : Int32)) % (38 : Int32)))), .val (.int ((p1 &&& (2147483647 : Int32)) % (((1 : Int32) + ((p0 &&& (2147483647 : Int32)) % (38 : Int32))) + (1 : Int32)))), .unset, .unset, .unset, .unset, .unset] [(.ref b1), (.ref b1)]))
  refine own_stepW (fun _ k => XS.bipush X19.here hx rfl (hb hby at_79) k) ?_
  show own_FinW p e below s _ _ _ (T19.setTop (mkF m 81 #[.val (.int p0), .val (.int p1), .val (.int ((1 : Int32) + ((p0 &&& (2147483647 : Int32)) % (38 : Int32)))), .val (.int ((p1 &&& (2147483647 : Int32)) % (((1 : Int32) + ((p0 &&& (2147483647 : Int32)) % (38 : Int32))) + (1 : Int32)))), .unset, .unset, .unset, .unset, .unset] [(.int (9 : Int32)), (.ref b1), (.ref b1)]))
  refine own_stepW (fun _ k => X19.ldc2Long hx hown (mvT hZ (own_w hw 10 rfl)) (g := (mkF m 81 #[.val (.int p0), .val (.int p1), .val (.int ((1 : Int32) + ((p0 &&& (2147483647 : Int32)) % (38 : Int32)))), .val (.int ((p1 &&& (2147483647 : Int32)) % (((1 : Int32) + ((p0 &&& (2147483647 : Int32)) % (38 : Int32))) + (1 : Int32)))), .unset, .unset, .unset, .unset, .unset] [(.int (9 : Int32)), (.ref b1), (.ref b1)])) rfl (hb hby at_81) _ k) ?_
  show own_FinW p e below s _ _ _ (T19.setTop (mkF m 84 #[.val (.int p0), .val (.int p1), .val (.int ((1 : Int32) + ((p0 &&& (2147483647 : Int32)) % (38 : Int32)))), .val (.int ((p1 &&& (2147483647 : Int32)) % (((1 : Int32) + ((p0 &&& (2147483647 : Int32)) % (38 : Int32))) + (1 : Int32)))), .unset, .unset, .unset, .unset, .unset] [(.long (1000000000 : Int64)), (.int (9 : Int32)), (.ref b1), (.ref b1)]))
  obtain ⟨cl21, Ar21, q21, Sz21, Ng21, Hs21, Gf21⟩ := id G20
  have hin21 : ¬ ((9 : Int32) < 0 ∨ cl21.slots.size ≤ ((9 : Int32)).toNatClampNeg) := inb_of Sz21 ⟨by decide, by decide⟩
  obtain ⟨T21, h21, X21, e21, W21, st21⟩ := stJ X19 hx hZ e19 Ar21 (j := (9 : Int32)) hin21 (g := (mkF m 84 #[.val (.int p0), .val (.int p1), .val (.int ((1 : Int32) + ((p0 &&& (2147483647 : Int32)) % (38 : Int32)))), .val (.int ((p1 &&& (2147483647 : Int32)) % (((1 : Int32) + ((p0 &&& (2147483647 : Int32)) % (38 : Int32))) + (1 : Int32)))), .unset, .unset, .unset, .unset, .unset] [(.long (1000000000 : Int64)), (.int (9 : Int32)), (.ref b1), (.ref b1)])) rfl rfl (hb hby at_84)
  have N21 := Fr.snoc X21 N19 gg1
  have K21 : Keep h0 h21 [] := K19.wr W21 (Or.inr sz1)
  have Z21 : n0 ≤ h21.size := Nat.le_trans Z19 (Keep.of_wr W21).1
  have hk21 := Nat.le_trans hk19 (Keep.of_wr W21).1
  have G22 : Arv Z h21 b1 k1 .long (19 : Int32) [(.long (1 : Int64)), (.long (10 : Int64)), (.long (100 : Int64)), (.long (1000 : Int64)), (.long (10000 : Int64)), (.long (100000 : Int64)), (.long (1000000 : Int64)), (.long (10000000 : Int64)), (.long (100000000 : Int64)), (.long (1000000000 : Int64)), (.long (0 : Int64)), (.long (0 : Int64)), (.long (0 : Int64)), (.long (0 : Int64)), (.long (0 : Int64)), (.long (0 : Int64)), (.long (0 : Int64)), (.long (0 : Int64)), (.long (0 : Int64))] (.long (0 : Int64)) := Arv.set Ar21 q21 Sz21 Ng21 Hs21 Gf21 rfl W21 9 rfl (Nat.le_of_ble_eq_true rfl)
  refine own_stepW st21 ?_
  show own_FinW p e below s _ _ _ (T21.setTop (mkF m 85 #[.val (.int p0), .val (.int p1), .val (.int ((1 : Int32) + ((p0 &&& (2147483647 : Int32)) % (38 : Int32)))), .val (.int ((p1 &&& (2147483647 : Int32)) % (((1 : Int32) + ((p0 &&& (2147483647 : Int32)) % (38 : Int32))) + (1 : Int32)))), .unset, .unset, .unset, .unset, .unset] [(.ref b1)]))
  refine own_stepW (fun _ k => XS.dup X21.here hx rfl (hb hby at_85) rfl rfl k) ?_
  show own_FinW p e below s _ _ _ (T21.setTop (mkF m 86 #[.val (.int p0), .val (.int p1), .val (.int ((1 : Int32) + ((p0 &&& (2147483647 : Int32)) % (38 : Int32)))), .val (.int ((p1 &&& (2147483647 : Int32)) % (((1 : Int32) + ((p0 &&& (2147483647 : Int32)) % (38 : Int32))) + (1 : Int32)))), .unset, .unset, .unset, .unset, .unset] [(.ref b1), (.ref b1)]))
  refine own_stepW (fun _ k => XS.bipush X21.here hx rfl (hb hby at_86) k) ?_
  show own_FinW p e below s _ _ _ (T21.setTop (mkF m 88 #[.val (.int p0), .val (.int p1), .val (.int ((1 : Int32) + ((p0 &&& (2147483647 : Int32)) % (38 : Int32)))), .val (.int ((p1 &&& (2147483647 : Int32)) % (((1 : Int32) + ((p0 &&& (2147483647 : Int32)) % (38 : Int32))) + (1 : Int32)))), .unset, .unset, .unset, .unset, .unset] [(.int (10 : Int32)), (.ref b1), (.ref b1)]))
  refine own_stepW (fun _ k => X21.ldc2Long hx hown (mvT hZ (own_w hw 11 rfl)) (g := (mkF m 88 #[.val (.int p0), .val (.int p1), .val (.int ((1 : Int32) + ((p0 &&& (2147483647 : Int32)) % (38 : Int32)))), .val (.int ((p1 &&& (2147483647 : Int32)) % (((1 : Int32) + ((p0 &&& (2147483647 : Int32)) % (38 : Int32))) + (1 : Int32)))), .unset, .unset, .unset, .unset, .unset] [(.int (10 : Int32)), (.ref b1), (.ref b1)])) rfl (hb hby at_88) _ k) ?_
  show own_FinW p e below s _ _ _ (T21.setTop (mkF m 91 #[.val (.int p0), .val (.int p1), .val (.int ((1 : Int32) + ((p0 &&& (2147483647 : Int32)) % (38 : Int32)))), .val (.int ((p1 &&& (2147483647 : Int32)) % (((1 : Int32) + ((p0 &&& (2147483647 : Int32)) % (38 : Int32))) + (1 : Int32)))), .unset, .unset, .unset, .unset, .unset] [(.long (10000000000 : Int64)), (.int (10 : Int32)), (.ref b1), (.ref b1)]))
  obtain ⟨cl23, Ar23, q23, Sz23, Ng23, Hs23, Gf23⟩ := id G22
  have hin23 : ¬ ((10 : Int32) < 0 ∨ cl23.slots.size ≤ ((10 : Int32)).toNatClampNeg) := inb_of Sz23 ⟨by decide, by decide⟩
  obtain ⟨T23, h23, X23, e23, W23, st23⟩ := stJ X21 hx hZ e21 Ar23 (j := (10 : Int32)) hin23 (g := (mkF m 91 #[.val (.int p0), .val (.int p1), .val (.int ((1 : Int32) + ((p0 &&& (2147483647 : Int32)) % (38 : Int32)))), .val (.int ((p1 &&& (2147483647 : Int32)) % (((1 : Int32) + ((p0 &&& (2147483647 : Int32)) % (38 : Int32))) + (1 : Int32)))), .unset, .unset, .unset, .unset, .unset] [(.long (10000000000 : Int64)), (.int (10 : Int32)), (.ref b1), (.ref b1)])) rfl rfl (hb hby at_91)
  have N23 := Fr.snoc X23 N21 gg1
  have K23 : Keep h0 h23 [] := K21.wr W23 (Or.inr sz1)
  have Z23 : n0 ≤ h23.size := Nat.le_trans Z21 (Keep.of_wr W23).1
  have hk23 := Nat.le_trans hk21 (Keep.of_wr W23).1
  have G24 : Arv Z h23 b1 k1 .long (19 : Int32) [(.long (1 : Int64)), (.long (10 : Int64)), (.long (100 : Int64)), (.long (1000 : Int64)), (.long (10000 : Int64)), (.long (100000 : Int64)), (.long (1000000 : Int64)), (.long (10000000 : Int64)), (.long (100000000 : Int64)), (.long (1000000000 : Int64)), (.long (10000000000 : Int64)), (.long (0 : Int64)), (.long (0 : Int64)), (.long (0 : Int64)), (.long (0 : Int64)), (.long (0 : Int64)), (.long (0 : Int64)), (.long (0 : Int64)), (.long (0 : Int64))] (.long (0 : Int64)) := Arv.set Ar23 q23 Sz23 Ng23 Hs23 Gf23 rfl W23 10 rfl (Nat.le_of_ble_eq_true rfl)
  refine own_stepW st23 ?_
  show own_FinW p e below s _ _ _ (T23.setTop (mkF m 92 #[.val (.int p0), .val (.int p1), .val (.int ((1 : Int32) + ((p0 &&& (2147483647 : Int32)) % (38 : Int32)))), .val (.int ((p1 &&& (2147483647 : Int32)) % (((1 : Int32) + ((p0 &&& (2147483647 : Int32)) % (38 : Int32))) + (1 : Int32)))), .unset, .unset, .unset, .unset, .unset] [(.ref b1)]))
  refine own_stepW (fun _ k => XS.dup X23.here hx rfl (hb hby at_92) rfl rfl k) ?_
  show own_FinW p e below s _ _ _ (T23.setTop (mkF m 93 #[.val (.int p0), .val (.int p1), .val (.int ((1 : Int32) + ((p0 &&& (2147483647 : Int32)) % (38 : Int32)))), .val (.int ((p1 &&& (2147483647 : Int32)) % (((1 : Int32) + ((p0 &&& (2147483647 : Int32)) % (38 : Int32))) + (1 : Int32)))), .unset, .unset, .unset, .unset, .unset] [(.ref b1), (.ref b1)]))
  refine own_stepW (fun _ k => XS.bipush X23.here hx rfl (hb hby at_93) k) ?_
  show own_FinW p e below s _ _ _ (T23.setTop (mkF m 95 #[.val (.int p0), .val (.int p1), .val (.int ((1 : Int32) + ((p0 &&& (2147483647 : Int32)) % (38 : Int32)))), .val (.int ((p1 &&& (2147483647 : Int32)) % (((1 : Int32) + ((p0 &&& (2147483647 : Int32)) % (38 : Int32))) + (1 : Int32)))), .unset, .unset, .unset, .unset, .unset] [(.int (11 : Int32)), (.ref b1), (.ref b1)]))
  refine own_stepW (fun _ k => X23.ldc2Long hx hown (mvT hZ (own_w hw 12 rfl)) (g := (mkF m 95 #[.val (.int p0), .val (.int p1), .val (.int ((1 : Int32) + ((p0 &&& (2147483647 : Int32)) % (38 : Int32)))), .val (.int ((p1 &&& (2147483647 : Int32)) % (((1 : Int32) + ((p0 &&& (2147483647 : Int32)) % (38 : Int32))) + (1 : Int32)))), .unset, .unset, .unset, .unset, .unset] [(.int (11 : Int32)), (.ref b1), (.ref b1)])) rfl (hb hby at_95) _ k) ?_
  show own_FinW p e below s _ _ _ (T23.setTop (mkF m 98 #[.val (.int p0), .val (.int p1), .val (.int ((1 : Int32) + ((p0 &&& (2147483647 : Int32)) % (38 : Int32)))), .val (.int ((p1 &&& (2147483647 : Int32)) % (((1 : Int32) + ((p0 &&& (2147483647 : Int32)) % (38 : Int32))) + (1 : Int32)))), .unset, .unset, .unset, .unset, .unset] [(.long (100000000000 : Int64)), (.int (11 : Int32)), (.ref b1), (.ref b1)]))
  obtain ⟨cl25, Ar25, q25, Sz25, Ng25, Hs25, Gf25⟩ := id G24
  have hin25 : ¬ ((11 : Int32) < 0 ∨ cl25.slots.size ≤ ((11 : Int32)).toNatClampNeg) := inb_of Sz25 ⟨by decide, by decide⟩
  obtain ⟨T25, h25, X25, e25, W25, st25⟩ := stJ X23 hx hZ e23 Ar25 (j := (11 : Int32)) hin25 (g := (mkF m 98 #[.val (.int p0), .val (.int p1), .val (.int ((1 : Int32) + ((p0 &&& (2147483647 : Int32)) % (38 : Int32)))), .val (.int ((p1 &&& (2147483647 : Int32)) % (((1 : Int32) + ((p0 &&& (2147483647 : Int32)) % (38 : Int32))) + (1 : Int32)))), .unset, .unset, .unset, .unset, .unset] [(.long (100000000000 : Int64)), (.int (11 : Int32)), (.ref b1), (.ref b1)])) rfl rfl (hb hby at_98)
  have N25 := Fr.snoc X25 N23 gg1
  have K25 : Keep h0 h25 [] := K23.wr W25 (Or.inr sz1)
  have Z25 : n0 ≤ h25.size := Nat.le_trans Z23 (Keep.of_wr W25).1
  have hk25 := Nat.le_trans hk23 (Keep.of_wr W25).1
  have G26 : Arv Z h25 b1 k1 .long (19 : Int32) [(.long (1 : Int64)), (.long (10 : Int64)), (.long (100 : Int64)), (.long (1000 : Int64)), (.long (10000 : Int64)), (.long (100000 : Int64)), (.long (1000000 : Int64)), (.long (10000000 : Int64)), (.long (100000000 : Int64)), (.long (1000000000 : Int64)), (.long (10000000000 : Int64)), (.long (100000000000 : Int64)), (.long (0 : Int64)), (.long (0 : Int64)), (.long (0 : Int64)), (.long (0 : Int64)), (.long (0 : Int64)), (.long (0 : Int64)), (.long (0 : Int64))] (.long (0 : Int64)) := Arv.set Ar25 q25 Sz25 Ng25 Hs25 Gf25 rfl W25 11 rfl (Nat.le_of_ble_eq_true rfl)
  refine own_stepW st25 ?_
  show own_FinW p e below s _ _ _ (T25.setTop (mkF m 99 #[.val (.int p0), .val (.int p1), .val (.int ((1 : Int32) + ((p0 &&& (2147483647 : Int32)) % (38 : Int32)))), .val (.int ((p1 &&& (2147483647 : Int32)) % (((1 : Int32) + ((p0 &&& (2147483647 : Int32)) % (38 : Int32))) + (1 : Int32)))), .unset, .unset, .unset, .unset, .unset] [(.ref b1)]))
  refine own_stepW (fun _ k => XS.dup X25.here hx rfl (hb hby at_99) rfl rfl k) ?_
  show own_FinW p e below s _ _ _ (T25.setTop (mkF m 100 #[.val (.int p0), .val (.int p1), .val (.int ((1 : Int32) + ((p0 &&& (2147483647 : Int32)) % (38 : Int32)))), .val (.int ((p1 &&& (2147483647 : Int32)) % (((1 : Int32) + ((p0 &&& (2147483647 : Int32)) % (38 : Int32))) + (1 : Int32)))), .unset, .unset, .unset, .unset, .unset] [(.ref b1), (.ref b1)]))
  refine own_stepW (fun _ k => XS.bipush X25.here hx rfl (hb hby at_100) k) ?_
  show own_FinW p e below s _ _ _ (T25.setTop (mkF m 102 #[.val (.int p0), .val (.int p1), .val (.int ((1 : Int32) + ((p0 &&& (2147483647 : Int32)) % (38 : Int32)))), .val (.int ((p1 &&& (2147483647 : Int32)) % (((1 : Int32) + ((p0 &&& (2147483647 : Int32)) % (38 : Int32))) + (1 : Int32)))), .unset, .unset, .unset, .unset, .unset] [(.int (12 : Int32)), (.ref b1), (.ref b1)]))
  refine own_stepW (fun _ k => X25.ldc2Long hx hown (mvT hZ (own_w hw 13 rfl)) (g := (mkF m 102 #[.val (.int p0), .val (.int p1), .val (.int ((1 : Int32) + ((p0 &&& (2147483647 : Int32)) % (38 : Int32)))), .val (.int ((p1 &&& (2147483647 : Int32)) % (((1 : Int32) + ((p0 &&& (2147483647 : Int32)) % (38 : Int32))) + (1 : Int32)))), .unset, .unset, .unset, .unset, .unset] [(.int (12 : Int32)), (.ref b1), (.ref b1)])) rfl (hb hby at_102) _ k) ?_
  show own_FinW p e below s _ _ _ (T25.setTop (mkF m 105 #[.val (.int p0), .val (.int p1), .val (.int ((1 : Int32) + ((p0 &&& (2147483647 : Int32)) % (38 : Int32)))), .val (.int ((p1 &&& (2147483647 : Int32)) % (((1 : Int32) + ((p0 &&& (2147483647 : Int32)) % (38 : Int32))) + (1 : Int32)))), .unset, .unset, .unset, .unset, .unset] [(.long (1000000000000 : Int64)), (.int (12 : Int32)), (.ref b1), (.ref b1)]))
  obtain ⟨cl27, Ar27, q27, Sz27, Ng27, Hs27, Gf27⟩ := id G26
  have hin27 : ¬ ((12 : Int32) < 0 ∨ cl27.slots.size ≤ ((12 : Int32)).toNatClampNeg) := inb_of Sz27 ⟨by decide, by decide⟩
  obtain ⟨T27, h27, X27, e27, W27, st27⟩ := stJ X25 hx hZ e25 Ar27 (j := (12 : Int32)) hin27 (g := (mkF m 105 #[.val (.int p0), .val (.int p1), .val (.int ((1 : Int32) + ((p0 &&& (2147483647 : Int32)) % (38 : Int32)))), .val (.int ((p1 &&& (2147483647 : Int32)) % (((1 : Int32) + ((p0 &&& (2147483647 : Int32)) % (38 : Int32))) + (1 : Int32)))), .unset, .unset, .unset, .unset, .unset] [(.long (1000000000000 : Int64)), (.int (12 : Int32)), (.ref b1), (.ref b1)])) rfl rfl (hb hby at_105)
  have N27 := Fr.snoc X27 N25 gg1
  have K27 : Keep h0 h27 [] := K25.wr W27 (Or.inr sz1)
  have Z27 : n0 ≤ h27.size := Nat.le_trans Z25 (Keep.of_wr W27).1
  have hk27 := Nat.le_trans hk25 (Keep.of_wr W27).1
  have G28 : Arv Z h27 b1 k1 .long (19 : Int32) [(.long (1 : Int64)), (.long (10 : Int64)), (.long (100 : Int64)), (.long (1000 : Int64)), (.long (10000 : Int64)), (.long (100000 : Int64)), (.long (1000000 : Int64)), (.long (10000000 : Int64)), (.long (100000000 : Int64)), (.long (1000000000 : Int64)), (.long (10000000000 : Int64)), (.long (100000000000 : Int64)), (.long (1000000000000 : Int64)), (.long (0 : Int64)), (.long (0 : Int64)), (.long (0 : Int64)), (.long (0 : Int64)), (.long (0 : Int64)), (.long (0 : Int64))] (.long (0 : Int64)) := Arv.set Ar27 q27 Sz27 Ng27 Hs27 Gf27 rfl W27 12 rfl (Nat.le_of_ble_eq_true rfl)
  refine own_stepW st27 ?_
  show own_FinW p e below s _ _ _ (T27.setTop (mkF m 106 #[.val (.int p0), .val (.int p1), .val (.int ((1 : Int32) + ((p0 &&& (2147483647 : Int32)) % (38 : Int32)))), .val (.int ((p1 &&& (2147483647 : Int32)) % (((1 : Int32) + ((p0 &&& (2147483647 : Int32)) % (38 : Int32))) + (1 : Int32)))), .unset, .unset, .unset, .unset, .unset] [(.ref b1)]))
  refine own_stepW (fun _ k => XS.dup X27.here hx rfl (hb hby at_106) rfl rfl k) ?_
  show own_FinW p e below s _ _ _ (T27.setTop (mkF m 107 #[.val (.int p0), .val (.int p1), .val (.int ((1 : Int32) + ((p0 &&& (2147483647 : Int32)) % (38 : Int32)))), .val (.int ((p1 &&& (2147483647 : Int32)) % (((1 : Int32) + ((p0 &&& (2147483647 : Int32)) % (38 : Int32))) + (1 : Int32)))), .unset, .unset, .unset, .unset, .unset] [(.ref b1), (.ref b1)]))
  refine own_stepW (fun _ k => XS.bipush X27.here hx rfl (hb hby at_107) k) ?_
  show own_FinW p e below s _ _ _ (T27.setTop (mkF m 109 #[.val (.int p0), .val (.int p1), .val (.int ((1 : Int32) + ((p0 &&& (2147483647 : Int32)) % (38 : Int32)))), .val (.int ((p1 &&& (2147483647 : Int32)) % (((1 : Int32) + ((p0 &&& (2147483647 : Int32)) % (38 : Int32))) + (1 : Int32)))), .unset, .unset, .unset, .unset, .unset] [(.int (13 : Int32)), (.ref b1), (.ref b1)]))
  refine own_stepW (fun _ k => X27.ldc2Long hx hown (mvT hZ (own_w hw 14 rfl)) (g := (mkF m 109 #[.val (.int p0), .val (.int p1), .val (.int ((1 : Int32) + ((p0 &&& (2147483647 : Int32)) % (38 : Int32)))), .val (.int ((p1 &&& (2147483647 : Int32)) % (((1 : Int32) + ((p0 &&& (2147483647 : Int32)) % (38 : Int32))) + (1 : Int32)))), .unset, .unset, .unset, .unset, .unset] [(.int (13 : Int32)), (.ref b1), (.ref b1)])) rfl (hb hby at_109) _ k) ?_
  show own_FinW p e below s _ _ _ (T27.setTop (mkF m 112 #[.val (.int p0), .val (.int p1), .val (.int ((1 : Int32) + ((p0 &&& (2147483647 : Int32)) % (38 : Int32)))), .val (.int ((p1 &&& (2147483647 : Int32)) % (((1 : Int32) + ((p0 &&& (2147483647 : Int32)) % (38 : Int32))) + (1 : Int32)))), .unset, .unset, .unset, .unset, .unset] [(.long (10000000000000 : Int64)), (.int (13 : Int32)), (.ref b1), (.ref b1)]))
  obtain ⟨cl29, Ar29, q29, Sz29, Ng29, Hs29, Gf29⟩ := id G28
  have hin29 : ¬ ((13 : Int32) < 0 ∨ cl29.slots.size ≤ ((13 : Int32)).toNatClampNeg) := inb_of Sz29 ⟨by decide, by decide⟩
  obtain ⟨T29, h29, X29, e29, W29, st29⟩ := stJ X27 hx hZ e27 Ar29 (j := (13 : Int32)) hin29 (g := (mkF m 112 #[.val (.int p0), .val (.int p1), .val (.int ((1 : Int32) + ((p0 &&& (2147483647 : Int32)) % (38 : Int32)))), .val (.int ((p1 &&& (2147483647 : Int32)) % (((1 : Int32) + ((p0 &&& (2147483647 : Int32)) % (38 : Int32))) + (1 : Int32)))), .unset, .unset, .unset, .unset, .unset] [(.long (10000000000000 : Int64)), (.int (13 : Int32)), (.ref b1), (.ref b1)])) rfl rfl (hb hby at_112)
  have N29 := Fr.snoc X29 N27 gg1
  have K29 : Keep h0 h29 [] := K27.wr W29 (Or.inr sz1)
  have Z29 : n0 ≤ h29.size := Nat.le_trans Z27 (Keep.of_wr W29).1
  have hk29 := Nat.le_trans hk27 (Keep.of_wr W29).1
  have G30 : Arv Z h29 b1 k1 .long (19 : Int32) [(.long (1 : Int64)), (.long (10 : Int64)), (.long (100 : Int64)), (.long (1000 : Int64)), (.long (10000 : Int64)), (.long (100000 : Int64)), (.long (1000000 : Int64)), (.long (10000000 : Int64)), (.long (100000000 : Int64)), (.long (1000000000 : Int64)), (.long (10000000000 : Int64)), (.long (100000000000 : Int64)), (.long (1000000000000 : Int64)), (.long (10000000000000 : Int64)), (.long (0 : Int64)), (.long (0 : Int64)), (.long (0 : Int64)), (.long (0 : Int64)), (.long (0 : Int64))] (.long (0 : Int64)) := Arv.set Ar29 q29 Sz29 Ng29 Hs29 Gf29 rfl W29 13 rfl (Nat.le_of_ble_eq_true rfl)
  refine own_stepW st29 ?_
  show own_FinW p e below s _ _ _ (T29.setTop (mkF m 113 #[.val (.int p0), .val (.int p1), .val (.int ((1 : Int32) + ((p0 &&& (2147483647 : Int32)) % (38 : Int32)))), .val (.int ((p1 &&& (2147483647 : Int32)) % (((1 : Int32) + ((p0 &&& (2147483647 : Int32)) % (38 : Int32))) + (1 : Int32)))), .unset, .unset, .unset, .unset, .unset] [(.ref b1)]))
  refine own_stepW (fun _ k => XS.dup X29.here hx rfl (hb hby at_113) rfl rfl k) ?_
  show own_FinW p e below s _ _ _ (T29.setTop (mkF m 114 #[.val (.int p0), .val (.int p1), .val (.int ((1 : Int32) + ((p0 &&& (2147483647 : Int32)) % (38 : Int32)))), .val (.int ((p1 &&& (2147483647 : Int32)) % (((1 : Int32) + ((p0 &&& (2147483647 : Int32)) % (38 : Int32))) + (1 : Int32)))), .unset, .unset, .unset, .unset, .unset] [(.ref b1), (.ref b1)]))
  refine own_stepW (fun _ k => XS.bipush X29.here hx rfl (hb hby at_114) k) ?_
  show own_FinW p e below s _ _ _ (T29.setTop (mkF m 116 #[.val (.int p0), .val (.int p1), .val (.int ((1 : Int32) + ((p0 &&& (2147483647 : Int32)) % (38 : Int32)))), .val (.int ((p1 &&& (2147483647 : Int32)) % (((1 : Int32) + ((p0 &&& (2147483647 : Int32)) % (38 : Int32))) + (1 : Int32)))), .unset, .unset, .unset, .unset, .unset] [(.int (14 : Int32)), (.ref b1), (.ref b1)]))
  refine own_stepW (fun _ k => X29.ldc2Long hx hown (mvT hZ (own_w hw 15 rfl)) (g := (mkF m 116 #[.val (.int p0), .val (.int p1), .val (.int ((1 : Int32) + ((p0 &&& (2147483647 : Int32)) % (38 : Int32)))), .val (.int ((p1 &&& (2147483647 : Int32)) % (((1 : Int32) + ((p0 &&& (2147483647 : Int32)) % (38 : Int32))) + (1 : Int32)))), .unset, .unset, .unset, .unset, .unset] [(.int (14 : Int32)), (.ref b1), (.ref b1)])) rfl (hb hby at_116) _ k) ?_
  show own_FinW p e below s _ _ _ (T29.setTop (mkF m 119 #[.val (.int p0), .val (.int p1), .val (.int ((1 : Int32) + ((p0 &&& (2147483647 : Int32)) % (38 : Int32)))), .val (.int ((p1 &&& (2147483647 : Int32)) % (((1 : Int32) + ((p0 &&& (2147483647 : Int32)) % (38 : Int32))) + (1 : Int32)))), .unset, .unset, .unset, .unset, .unset] [(.long (100000000000000 : Int64)), (.int (14 : Int32)), (.ref b1), (.ref b1)]))
  obtain ⟨cl31, Ar31, q31, Sz31, Ng31, Hs31, Gf31⟩ := id G30
  have hin31 : ¬ ((14 : Int32) < 0 ∨ cl31.slots.size ≤ ((14 : Int32)).toNatClampNeg) := inb_of Sz31 ⟨by decide, by decide⟩
  obtain ⟨T31, h31, X31, e31, W31, st31⟩ := stJ X29 hx hZ e29 Ar31 (j := (14 : Int32)) hin31 (g := (mkF m 119 #[.val (.int p0), .val (.int p1), .val (.int ((1 : Int32) + ((p0 &&& (2147483647 : Int32)) % (38 : Int32)))), .val (.int ((p1 &&& (2147483647 : Int32)) % (((1 : Int32) + ((p0 &&& (2147483647 : Int32)) % (38 : Int32))) + (1 : Int32)))), .unset, .unset, .unset, .unset, .unset] [(.long (100000000000000 : Int64)), (.int (14 : Int32)), (.ref b1), (.ref b1)])) rfl rfl (hb hby at_119)
  have N31 := Fr.snoc X31 N29 gg1
  have K31 : Keep h0 h31 [] := K29.wr W31 (Or.inr sz1)
  have Z31 : n0 ≤ h31.size := Nat.le_trans Z29 (Keep.of_wr W31).1
  have hk31 := Nat.le_trans hk29 (Keep.of_wr W31).1
  have G32 : Arv Z h31 b1 k1 .long (19 : Int32) [(.long (1 : Int64)), (.long (10 : Int64)), (.long (100 : Int64)), (.long (1000 : Int64)), (.long (10000 : Int64)), (.long (100000 : Int64)), (.long (1000000 : Int64)), (.long (10000000 : Int64)), (.long (100000000 : Int64)), (.long (1000000000 : Int64)), (.long (10000000000 : Int64)), (.long (100000000000 : Int64)), (.long (1000000000000 : Int64)), (.long (10000000000000 : Int64)), (.long (100000000000000 : Int64)), (.long (0 : Int64)), (.long (0 : Int64)), (.long (0 : Int64)), (.long (0 : Int64))] (.long (0 : Int64)) := Arv.set Ar31 q31 Sz31 Ng31 Hs31 Gf31 rfl W31 14 rfl (Nat.le_of_ble_eq_true rfl)
  refine own_stepW st31 ?_
  show own_FinW p e below s _ _ _ (T31.setTop (mkF m 120 #[.val (.int p0), .val (.int p1), .val (.int ((1 : Int32) + ((p0 &&& (2147483647 : Int32)) % (38 : Int32)))), .val (.int ((p1 &&& (2147483647 : Int32)) % (((1 : Int32) + ((p0 &&& (2147483647 : Int32)) % (38 : Int32))) + (1 : Int32)))), .unset, .unset, .unset, .unset, .unset] [(.ref b1)]))
  refine own_stepW (fun _ k => XS.dup X31.here hx rfl (hb hby at_120) rfl rfl k) ?_
  show own_FinW p e below s _ _ _ (T31.setTop (mkF m 121 #[.val (.int p0), .val (.int p1), .val (.int ((1 : Int32) + ((p0 &&& (2147483647 : Int32)) % (38 : Int32)))), .val (.int ((p1 &&& (2147483647 : Int32)) % (((1 : Int32) + ((p0 &&& (2147483647 : Int32)) % (38 : Int32))) + (1 : Int32)))), .unset, .unset, .unset, .unset, .unset] [(.ref b1), (.ref b1)]))
  refine own_stepW (fun _ k => XS.bipush X31.here hx rfl (hb hby at_121) k) ?_
  show own_FinW p e below s _ _ _ (T31.setTop (mkF m 123 #[.val (.int p0), .val (.int p1), .val (.int ((1 : Int32) + ((p0 &&& (2147483647 : Int32)) % (38 : Int32)))), .val (.int ((p1 &&& (2147483647 : Int32)) % (((1 : Int32) + ((p0 &&& (2147483647 : Int32)) % (38 : Int32))) + (1 : Int32)))), .unset, .unset, .unset, .unset, .unset] [(.int (15 : Int32)), (.ref b1), (.ref b1)]))
  refine own_stepW (fun _ k => X31.ldc2Long hx hown (mvT hZ (own_w hw 16 rfl)) (g := (mkF m 123 #[.val (.int p0), .val (.int p1), .val (.int ((1 : Int32) + ((p0 &&& (2147483647 : Int32)) % (38 : Int32)))), .val (.int ((p1 &&& (2147483647 : Int32)) % (((1 : Int32) + ((p0 &&& (2147483647 : Int32)) % (38 : Int32))) + (1 : Int32)))), .unset, .unset, .unset, .unset, .unset] [(.int (15 : Int32)), (.ref b1), (.ref b1)])) rfl (hb hby at_123) _ k) ?_
  show own_FinW p e below s _ _ _ (T31.setTop (mkF m 126 #[.val (.int p0), .val (.int p1), .val (.int ((1 : Int32) + ((p0 &&& (2147483647 : Int32)) % (38 : Int32)))), .val (.int ((p1 &&& (2147483647 : Int32)) % (((1 : Int32) + ((p0 &&& (2147483647 : Int32)) % (38 : Int32))) + (1 : Int32)))), .unset, .unset, .unset, .unset, .unset] [(.long (1000000000000000 : Int64)), (.int (15 : Int32)), (.ref b1), (.ref b1)]))
  obtain ⟨cl33, Ar33, q33, Sz33, Ng33, Hs33, Gf33⟩ := id G32
  have hin33 : ¬ ((15 : Int32) < 0 ∨ cl33.slots.size ≤ ((15 : Int32)).toNatClampNeg) := inb_of Sz33 ⟨by decide, by decide⟩
  obtain ⟨T33, h33, X33, e33, W33, st33⟩ := stJ X31 hx hZ e31 Ar33 (j := (15 : Int32)) hin33 (g := (mkF m 126 #[.val (.int p0), .val (.int p1), .val (.int ((1 : Int32) + ((p0 &&& (2147483647 : Int32)) % (38 : Int32)))), .val (.int ((p1 &&& (2147483647 : Int32)) % (((1 : Int32) + ((p0 &&& (2147483647 : Int32)) % (38 : Int32))) + (1 : Int32)))), .unset, .unset, .unset, .unset, .unset] [(.long (1000000000000000 : Int64)), (.int (15 : Int32)), (.ref b1), (.ref b1)])) rfl rfl (hb hby at_126)
  have N33 := Fr.snoc X33 N31 gg1
  have K33 : Keep h0 h33 [] := K31.wr W33 (Or.inr sz1)
  have Z33 : n0 ≤ h33.size := Nat.le_trans Z31 (Keep.of_wr W33).1
  have hk33 := Nat.le_trans hk31 (Keep.of_wr W33).1
  have G34 : Arv Z h33 b1 k1 .long (19 : Int32) [(.long (1 : Int64)), (.long (10 : Int64)), (.long (100 : Int64)), (.long (1000 : Int64)), (.long (10000 : Int64)), (.long (100000 : Int64)), (.long (1000000 : Int64)), (.long (10000000 : Int64)), (.long (100000000 : Int64)), (.long (1000000000 : Int64)), (.long (10000000000 : Int64)), (.long (100000000000 : Int64)), (.long (1000000000000 : Int64)), (.long (10000000000000 : Int64)), (.long (100000000000000 : Int64)), (.long (1000000000000000 : Int64)), (.long (0 : Int64)), (.long (0 : Int64)), (.long (0 : Int64))] (.long (0 : Int64)) := Arv.set Ar33 q33 Sz33 Ng33 Hs33 Gf33 rfl W33 15 rfl (Nat.le_of_ble_eq_true rfl)
  refine own_stepW st33 ?_
  show own_FinW p e below s _ _ _ (T33.setTop (mkF m 127 #[.val (.int p0), .val (.int p1), .val (.int ((1 : Int32) + ((p0 &&& (2147483647 : Int32)) % (38 : Int32)))), .val (.int ((p1 &&& (2147483647 : Int32)) % (((1 : Int32) + ((p0 &&& (2147483647 : Int32)) % (38 : Int32))) + (1 : Int32)))), .unset, .unset, .unset, .unset, .unset] [(.ref b1)]))
  refine own_stepW (fun _ k => XS.dup X33.here hx rfl (hb hby at_127) rfl rfl k) ?_
  show own_FinW p e below s _ _ _ (T33.setTop (mkF m 128 #[.val (.int p0), .val (.int p1), .val (.int ((1 : Int32) + ((p0 &&& (2147483647 : Int32)) % (38 : Int32)))), .val (.int ((p1 &&& (2147483647 : Int32)) % (((1 : Int32) + ((p0 &&& (2147483647 : Int32)) % (38 : Int32))) + (1 : Int32)))), .unset, .unset, .unset, .unset, .unset] [(.ref b1), (.ref b1)]))
  refine own_stepW (fun _ k => XS.bipush X33.here hx rfl (hb hby at_128) k) ?_
  show own_FinW p e below s _ _ _ (T33.setTop (mkF m 130 #[.val (.int p0), .val (.int p1), .val (.int ((1 : Int32) + ((p0 &&& (2147483647 : Int32)) % (38 : Int32)))), .val (.int ((p1 &&& (2147483647 : Int32)) % (((1 : Int32) + ((p0 &&& (2147483647 : Int32)) % (38 : Int32))) + (1 : Int32)))), .unset, .unset, .unset, .unset, .unset] [(.int (16 : Int32)), (.ref b1), (.ref b1)]))
  refine own_stepW (fun _ k => X33.ldc2Long hx hown (mvT hZ (own_w hw 17 rfl)) (g := (mkF m 130 #[.val (.int p0), .val (.int p1), .val (.int ((1 : Int32) + ((p0 &&& (2147483647 : Int32)) % (38 : Int32)))), .val (.int ((p1 &&& (2147483647 : Int32)) % (((1 : Int32) + ((p0 &&& (2147483647 : Int32)) % (38 : Int32))) + (1 : Int32)))), .unset, .unset, .unset, .unset, .unset] [(.int (16 : Int32)), (.ref b1), (.ref b1)])) rfl (hb hby at_130) _ k) ?_
  show own_FinW p e below s _ _ _ (T33.setTop (mkF m 133 #[.val (.int p0), .val (.int p1), .val (.int ((1 : Int32) + ((p0 &&& (2147483647 : Int32)) % (38 : Int32)))), .val (.int ((p1 &&& (2147483647 : Int32)) % (((1 : Int32) + ((p0 &&& (2147483647 : Int32)) % (38 : Int32))) + (1 : Int32)))), .unset, .unset, .unset, .unset, .unset] [(.long (10000000000000000 : Int64)), (.int (16 : Int32)), (.ref b1), (.ref b1)]))
  obtain ⟨cl35, Ar35, q35, Sz35, Ng35, Hs35, Gf35⟩ := id G34
  have hin35 : ¬ ((16 : Int32) < 0 ∨ cl35.slots.size ≤ ((16 : Int32)).toNatClampNeg) := inb_of Sz35 ⟨by decide, by decide⟩
  obtain ⟨T35, h35, X35, e35, W35, st35⟩ := stJ X33 hx hZ e33 Ar35 (j := (16 : Int32)) hin35 (g := (mkF m 133 #[.val (.int p0), .val (.int p1), .val (.int ((1 : Int32) + ((p0 &&& (2147483647 : Int32)) % (38 : Int32)))), .val (.int ((p1 &&& (2147483647 : Int32)) % (((1 : Int32) + ((p0 &&& (2147483647 : Int32)) % (38 : Int32))) + (1 : Int32)))), .unset, .unset, .unset, .unset, .unset] [(.long (10000000000000000 : Int64)), (.int (16 : Int32)), (.ref b1), (.ref b1)])) rfl rfl (hb hby at_133)
  have N35 := Fr.snoc X35 N33 gg1
  have K35 : Keep h0 h35 [] := K33.wr W35 (Or.inr sz1)
  have Z35 : n0 ≤ h35.size := Nat.le_trans Z33 (Keep.of_wr W35).1
  have hk35 := Nat.le_trans hk33 (Keep.of_wr W35).1
  have G36 : Arv Z h35 b1 k1 .long (19 : Int32) [(.long (1 : Int64)), (.long (10 : Int64)), (.long (100 : Int64)), (.long (1000 : Int64)), (.long (10000 : Int64)), (.long (100000 : Int64)), (.long (1000000 : Int64)), (.long (10000000 : Int64)), (.long (100000000 : Int64)), (.long (1000000000 : Int64)), (.long (10000000000 : Int64)), (.long (100000000000 : Int64)), (.long (1000000000000 : Int64)), (.long (10000000000000 : Int64)), (.long (100000000000000 : Int64)), (.long (1000000000000000 : Int64)), (.long (10000000000000000 : Int64)), (.long (0 : Int64)), (.long (0 : Int64))] (.long (0 : Int64)) := Arv.set Ar35 q35 Sz35 Ng35 Hs35 Gf35 rfl W35 16 rfl (Nat.le_of_ble_eq_true rfl)
  refine own_stepW st35 ?_
  show own_FinW p e below s _ _ _ (T35.setTop (mkF m 134 #[.val (.int p0), .val (.int p1), .val (.int ((1 : Int32) + ((p0 &&& (2147483647 : Int32)) % (38 : Int32)))), .val (.int ((p1 &&& (2147483647 : Int32)) % (((1 : Int32) + ((p0 &&& (2147483647 : Int32)) % (38 : Int32))) + (1 : Int32)))), .unset, .unset, .unset, .unset, .unset] [(.ref b1)]))
  refine own_stepW (fun _ k => XS.dup X35.here hx rfl (hb hby at_134) rfl rfl k) ?_
  show own_FinW p e below s _ _ _ (T35.setTop (mkF m 135 #[.val (.int p0), .val (.int p1), .val (.int ((1 : Int32) + ((p0 &&& (2147483647 : Int32)) % (38 : Int32)))), .val (.int ((p1 &&& (2147483647 : Int32)) % (((1 : Int32) + ((p0 &&& (2147483647 : Int32)) % (38 : Int32))) + (1 : Int32)))), .unset, .unset, .unset, .unset, .unset] [(.ref b1), (.ref b1)]))
  refine own_stepW (fun _ k => XS.bipush X35.here hx rfl (hb hby at_135) k) ?_
  show own_FinW p e below s _ _ _ (T35.setTop (mkF m 137 #[.val (.int p0), .val (.int p1), .val (.int ((1 : Int32) + ((p0 &&& (2147483647 : Int32)) % (38 : Int32)))), .val (.int ((p1 &&& (2147483647 : Int32)) % (((1 : Int32) + ((p0 &&& (2147483647 : Int32)) % (38 : Int32))) + (1 : Int32)))), .unset, .unset, .unset, .unset, .unset] [(.int (17 : Int32)), (.ref b1), (.ref b1)]))
  refine own_stepW (fun _ k => X35.ldc2Long hx hown (mvT hZ (own_w hw 18 rfl)) (g := (mkF m 137 #[.val (.int p0), .val (.int p1), .val (.int ((1 : Int32) + ((p0 &&& (2147483647 : Int32)) % (38 : Int32)))), .val (.int ((p1 &&& (2147483647 : Int32)) % (((1 : Int32) + ((p0 &&& (2147483647 : Int32)) % (38 : Int32))) + (1 : Int32)))), .unset, .unset, .unset, .unset, .unset] [(.int (17 : Int32)), (.ref b1), (.ref b1)])) rfl (hb hby at_137) _ k) ?_
  show own_FinW p e below s _ _ _ (T35.setTop (mkF m 140 #[.val (.int p0), .val (.int p1), .val (.int ((1 : Int32) + ((p0 &&& (2147483647 : Int32)) % (38 : Int32)))), .val (.int ((p1 &&& (2147483647 : Int32)) % (((1 : Int32) + ((p0 &&& (2147483647 : Int32)) % (38 : Int32))) + (1 : Int32)))), .unset, .unset, .unset, .unset, .unset] [(.long (100000000000000000 : Int64)), (.int (17 : Int32)), (.ref b1), (.ref b1)]))
  obtain ⟨cl37, Ar37, q37, Sz37, Ng37, Hs37, Gf37⟩ := id G36
  have hin37 : ¬ ((17 : Int32) < 0 ∨ cl37.slots.size ≤ ((17 : Int32)).toNatClampNeg) := inb_of Sz37 ⟨by decide, by decide⟩
  obtain ⟨T37, h37, X37, e37, W37, st37⟩ := stJ X35 hx hZ e35 Ar37 (j := (17 : Int32)) hin37 (g := (mkF m 140 #[.val (.int p0), .val (.int p1), .val (.int ((1 : Int32) + ((p0 &&& (2147483647 : Int32)) % (38 : Int32)))), .val (.int ((p1 &&& (2147483647 : Int32)) % (((1 : Int32) + ((p0 &&& (2147483647 : Int32)) % (38 : Int32))) + (1 : Int32)))), .unset, .unset, .unset, .unset, .unset] [(.long (100000000000000000 : Int64)), (.int (17 : Int32)), (.ref b1), (.ref b1)])) rfl rfl (hb hby at_140)
  have N37 := Fr.snoc X37 N35 gg1
  have K37 : Keep h0 h37 [] := K35.wr W37 (Or.inr sz1)
  have Z37 : n0 ≤ h37.size := Nat.le_trans Z35 (Keep.of_wr W37).1
  have hk37 := Nat.le_trans hk35 (Keep.of_wr W37).1
  have G38 : Arv Z h37 b1 k1 .long (19 : Int32) [(.long (1 : Int64)), (.long (10 : Int64)), (.long (100 : Int64)), (.long (1000 : Int64)), (.long (10000 : Int64)), (.long (100000 : Int64)), (.long (1000000 : Int64)), (.long (10000000 : Int64)), (.long (100000000 : Int64)), (.long (1000000000 : Int64)), (.long (10000000000 : Int64)), (.long (100000000000 : Int64)), (.long (1000000000000 : Int64)), (.long (10000000000000 : Int64)), (.long (100000000000000 : Int64)), (.long (1000000000000000 : Int64)), (.long (10000000000000000 : Int64)), (.long (100000000000000000 : Int64)), (.long (0 : Int64))] (.long (0 : Int64)) := Arv.set Ar37 q37 Sz37 Ng37 Hs37 Gf37 rfl W37 17 rfl (Nat.le_of_ble_eq_true rfl)
  refine own_stepW st37 ?_
  show own_FinW p e below s _ _ _ (T37.setTop (mkF m 141 #[.val (.int p0), .val (.int p1), .val (.int ((1 : Int32) + ((p0 &&& (2147483647 : Int32)) % (38 : Int32)))), .val (.int ((p1 &&& (2147483647 : Int32)) % (((1 : Int32) + ((p0 &&& (2147483647 : Int32)) % (38 : Int32))) + (1 : Int32)))), .unset, .unset, .unset, .unset, .unset] [(.ref b1)]))
  refine own_stepW (fun _ k => XS.dup X37.here hx rfl (hb hby at_141) rfl rfl k) ?_
  show own_FinW p e below s _ _ _ (T37.setTop (mkF m 142 #[.val (.int p0), .val (.int p1), .val (.int ((1 : Int32) + ((p0 &&& (2147483647 : Int32)) % (38 : Int32)))), .val (.int ((p1 &&& (2147483647 : Int32)) % (((1 : Int32) + ((p0 &&& (2147483647 : Int32)) % (38 : Int32))) + (1 : Int32)))), .unset, .unset, .unset, .unset, .unset] [(.ref b1), (.ref b1)]))
  refine own_stepW (fun _ k => XS.bipush X37.here hx rfl (hb hby at_142) k) ?_
  show own_FinW p e below s _ _ _ (T37.setTop (mkF m 144 #[.val (.int p0), .val (.int p1), .val (.int ((1 : Int32) + ((p0 &&& (2147483647 : Int32)) % (38 : Int32)))), .val (.int ((p1 &&& (2147483647 : Int32)) % (((1 : Int32) + ((p0 &&& (2147483647 : Int32)) % (38 : Int32))) + (1 : Int32)))), .unset, .unset, .unset, .unset, .unset] [(.int (18 : Int32)), (.ref b1), (.ref b1)]))
  refine own_stepW (fun _ k => X37.ldc2Long hx hown (mvT hZ (own_w hw 19 rfl)) (g := (mkF m 144 #[.val (.int p0), .val (.int p1), .val (.int ((1 : Int32) + ((p0 &&& (2147483647 : Int32)) % (38 : Int32)))), .val (.int ((p1 &&& (2147483647 : Int32)) % (((1 : Int32) + ((p0 &&& (2147483647 : Int32)) % (38 : Int32))) + (1 : Int32)))), .unset, .unset, .unset, .unset, .unset] [(.int (18 : Int32)), (.ref b1), (.ref b1)])) rfl (hb hby at_144) _ k) ?_
  show own_FinW p e below s _ _ _ (T37.setTop (mkF m 147 #[.val (.int p0), .val (.int p1), .val (.int ((1 : Int32) + ((p0 &&& (2147483647 : Int32)) % (38 : Int32)))), .val (.int ((p1 &&& (2147483647 : Int32)) % (((1 : Int32) + ((p0 &&& (2147483647 : Int32)) % (38 : Int32))) + (1 : Int32)))), .unset, .unset, .unset, .unset, .unset] [(.long (1000000000000000000 : Int64)), (.int (18 : Int32)), (.ref b1), (.ref b1)]))
  obtain ⟨cl39, Ar39, q39, Sz39, Ng39, Hs39, Gf39⟩ := id G38
  have hin39 : ¬ ((18 : Int32) < 0 ∨ cl39.slots.size ≤ ((18 : Int32)).toNatClampNeg) := inb_of Sz39 ⟨by decide, by decide⟩
  obtain ⟨T39, h39, X39, e39, W39, st39⟩ := stJ X37 hx hZ e37 Ar39 (j := (18 : Int32)) hin39 (g := (mkF m 147 #[.val (.int p0), .val (.int p1), .val (.int ((1 : Int32) + ((p0 &&& (2147483647 : Int32)) % (38 : Int32)))), .val (.int ((p1 &&& (2147483647 : Int32)) % (((1 : Int32) + ((p0 &&& (2147483647 : Int32)) % (38 : Int32))) + (1 : Int32)))), .unset, .unset, .unset, .unset, .unset] [(.long (1000000000000000000 : Int64)), (.int (18 : Int32)), (.ref b1), (.ref b1)])) rfl rfl (hb hby at_147)
  have N39 := Fr.snoc X39 N37 gg1
  have K39 : Keep h0 h39 [] := K37.wr W39 (Or.inr sz1)
  have Z39 : n0 ≤ h39.size := Nat.le_trans Z37 (Keep.of_wr W39).1
  have hk39 := Nat.le_trans hk37 (Keep.of_wr W39).1
  have G40 : Arv Z h39 b1 k1 .long (19 : Int32) [(.long (1 : Int64)), (.long (10 : Int64)), (.long (100 : Int64)), (.long (1000 : Int64)), (.long (10000 : Int64)), (.long (100000 : Int64)), (.long (1000000 : Int64)), (.long (10000000 : Int64)), (.long (100000000 : Int64)), (.long (1000000000 : Int64)), (.long (10000000000 : Int64)), (.long (100000000000 : Int64)), (.long (1000000000000 : Int64)), (.long (10000000000000 : Int64)), (.long (100000000000000 : Int64)), (.long (1000000000000000 : Int64)), (.long (10000000000000000 : Int64)), (.long (100000000000000000 : Int64)), (.long (1000000000000000000 : Int64))] (.long (0 : Int64)) := Arv.set Ar39 q39 Sz39 Ng39 Hs39 Gf39 rfl W39 18 rfl (Nat.le_of_ble_eq_true rfl)
  refine own_stepW st39 ?_
  show own_FinW p e below s _ _ _ (T39.setTop (mkF m 148 #[.val (.int p0), .val (.int p1), .val (.int ((1 : Int32) + ((p0 &&& (2147483647 : Int32)) % (38 : Int32)))), .val (.int ((p1 &&& (2147483647 : Int32)) % (((1 : Int32) + ((p0 &&& (2147483647 : Int32)) % (38 : Int32))) + (1 : Int32)))), .unset, .unset, .unset, .unset, .unset] [(.ref b1)]))
  refine own_stepW (fun _ k => XS.astore X39.here hx rfl (hb hby at_148) rfl rfl (l' := #[.val (.int p0), .val (.int p1), .val (.int ((1 : Int32) + ((p0 &&& (2147483647 : Int32)) % (38 : Int32)))), .val (.int ((p1 &&& (2147483647 : Int32)) % (((1 : Int32) + ((p0 &&& (2147483647 : Int32)) % (38 : Int32))) + (1 : Int32)))), .val (.ref b1), .unset, .unset, .unset, .unset]) rfl k) ?_
  show own_FinW p e below s _ _ _ (T39.setTop (mkF m 150 #[.val (.int p0), .val (.int p1), .val (.int ((1 : Int32) + ((p0 &&& (2147483647 : Int32)) % (38 : Int32)))), .val (.int ((p1 &&& (2147483647 : Int32)) % (((1 : Int32) + ((p0 &&& (2147483647 : Int32)) % (38 : Int32))) + (1 : Int32)))), .val (.ref b1), .unset, .unset, .unset, .unset] []))
  obtain ⟨T41, h41, X41, e41, E41, A41, D41, -, st41⟩ := newO X39 hx hZ hown (own_w hw 20 rfl) (own_w hw 21 rfl) (own_w hw 22 rfl) e39 (g := (mkF m 150 #[.val (.int p0), .val (.int p1), .val (.int ((1 : Int32) + ((p0 &&& (2147483647 : Int32)) % (38 : Int32)))), .val (.int ((p1 &&& (2147483647 : Int32)) % (((1 : Int32) + ((p0 &&& (2147483647 : Int32)) % (38 : Int32))) + (1 : Int32)))), .val (.ref b1), .unset, .unset, .unset, .unset] [])) rfl (hb hby at_150) (by decide) (by decide)
  obtain ⟨b41, g41⟩ : ∃ z, z = h39.size := ⟨_, rfl⟩
  rw [← g41] at A41 D41 st41
  have ne41_b1 : b1 ≠ b41 := Nat.ne_of_lt (Nat.lt_of_lt_of_le G40.lt (Nat.le_of_eq g41.symm))
  have gg41 : n0 ≤ b41 := Nat.le_trans Z39 (Nat.le_of_eq g41.symm)
  have sz41 : h0.size ≤ b41 := Nat.le_trans K39.1 (Nat.le_of_eq g41.symm)
  have K41 : Keep h0 h41 [] := K39.ext E41
  have Z41 : n0 ≤ h41.size := Nat.le_trans Z39 E41.1
  have hk41 := Nat.le_trans hk39 E41.1
  have G42 := (G40.ext E41)
  have G43 : Fld Z h41 b41 "com/example/castwright/castwright/model/DecimalType" "precision" "I" (.int (0 : Int32)) := D41 (Or.inr (own_w hw 48 rfl)) (ty := .int) (by decide)
  have G44 : Fld Z h41 b41 "com/example/castwright/castwright/model/DecimalType" "scale" "I" (.int (0 : Int32)) := D41 (Or.inr (own_w hw 50 rfl)) (ty := .int) (by decide)
  refine own_stepW st41 ?_
  show own_FinW p e below s _ _ _ (T41.setTop (mkF m 153 #[.val (.int p0), .val (.int p1), .val (.int ((1 : Int32) + ((p0 &&& (2147483647 : Int32)) % (38 : Int32)))), .val (.int ((p1 &&& (2147483647 : Int32)) % (((1 : Int32) + ((p0 &&& (2147483647 : Int32)) % (38 : Int32))) + (1 : Int32)))), .val (.ref b1), .unset, .unset, .unset, .unset] [(.ref b41)]))
  refine own_stepW (fun _ k => XS.dup X41.here hx rfl (hb hby at_153) rfl rfl k) ?_
  show own_FinW p e below s _ _ _ (T41.setTop (mkF m 154 #[.val (.int p0), .val (.int p1), .val (.int ((1 : Int32) + ((p0 &&& (2147483647 : Int32)) % (38 : Int32)))), .val (.int ((p1 &&& (2147483647 : Int32)) % (((1 : Int32) + ((p0 &&& (2147483647 : Int32)) % (38 : Int32))) + (1 : Int32)))), .val (.ref b1), .unset, .unset, .unset, .unset] [(.ref b41), (.ref b41)]))
  refine own_stepW (fun _ k => XS.iloadN X41.here hx rfl (hb hby at_154) rfl k) ?_
  show own_FinW p e below s _ _ _ (T41.setTop (mkF m 155 #[.val (.int p0), .val (.int p1), .val (.int ((1 : Int32) + ((p0 &&& (2147483647 : Int32)) % (38 : Int32)))), .val (.int ((p1 &&& (2147483647 : Int32)) % (((1 : Int32) + ((p0 &&& (2147483647 : Int32)) % (38 : Int32))) + (1 : Int32)))), .val (.ref b1), .unset, .unset, .unset, .unset] [(.int ((1 : Int32) + ((p0 &&& (2147483647 : Int32)) % (38 : Int32)))), (.ref b41), (.ref b41)]))
  refine own_stepW (fun _ k => XS.iloadN X41.here hx rfl (hb hby at_155) rfl k) ?_
  show own_FinW p e below s _ _ _ (T41.setTop (mkF m 156 #[.val (.int p0), .val (.int p1), .val (.int ((1 : Int32) + ((p0 &&& (2147483647 : Int32)) % (38 : Int32)))), .val (.int ((p1 &&& (2147483647 : Int32)) % (((1 : Int32) + ((p0 &&& (2147483647 : Int32)) % (38 : Int32))) + (1 : Int32)))), .val (.ref b1), .unset, .unset, .unset, .unset] [(.int ((p1 &&& (2147483647 : Int32)) % (((1 : Int32) + ((p0 &&& (2147483647 : Int32)) % (38 : Int32))) + (1 : Int32)))), (.int ((1 : Int32) + ((p0 &&& (2147483647 : Int32)) % (38 : Int32)))), (.ref b41), (.ref b41)]))
  obtain ⟨_, _, ⟨T45, L45, k45, n45⟩, -, Y45, hT45, hg45, ⟨Lc45, hQ45, l45, y45, z45⟩, st45⟩ := X41.specialBackS hx (y := own_y2) rfl hown (mvT hZ (own_w hw 23 rfl)) (mvT hZ (own_w hw 24 rfl)) (mvT hZ (own_w hw 25 rfl)) (by decide) (backOfS (W := 1) (own_rm3 l Z a0 hw [] b41 (((1 : Int32) + ((p0 &&& (2147483647 : Int32)) % (38 : Int32)))) (((p1 &&& (2147483647 : Int32)) % (((1 : Int32) + ((p0 &&& (2147483647 : Int32)) % (38 : Int32))) + (1 : Int32)))) ((.int (0 : Int32))) ((.int (0 : Int32))) h41 n0 Z41 A41 G43 G44 (show ¬ ((lcmpW (((1 : Int32) + ((p0 &&& (2147483647 : Int32)) % (38 : Int32))).toInt64) (1 : Int64)) < (0 : Int32)) from own_q1 p0) (show ¬ ((0 : Int32) < (lcmpW (((1 : Int32) + ((p0 &&& (2147483647 : Int32)) % (38 : Int32))).toInt64) (38 : Int64))) from own_q2 p0) (show ¬ (((p1 &&& (2147483647 : Int32)) % (((1 : Int32) + ((p0 &&& (2147483647 : Int32)) % (38 : Int32))) + (1 : Int32))) < (0 : Int32)) from own_q3 p0 p1) (show ¬ (((1 : Int32) + ((p0 &&& (2147483647 : Int32)) % (38 : Int32))) < ((p1 &&& (2147483647 : Int32)) % (((1 : Int32) + ((p0 &&& (2147483647 : Int32)) % (38 : Int32))) + (1 : Int32)))) from own_q4 p0 p1) gg41) hZ (own_w hw 25 rfl) (own_w hw 22 rfl) (by decide) (by decide)) (g := (mkF m 156 #[.val (.int p0), .val (.int p1), .val (.int ((1 : Int32) + ((p0 &&& (2147483647 : Int32)) % (38 : Int32)))), .val (.int ((p1 &&& (2147483647 : Int32)) % (((1 : Int32) + ((p0 &&& (2147483647 : Int32)) % (38 : Int32))) + (1 : Int32)))), .val (.ref b1), .unset, .unset, .unset, .unset] [(.int ((p1 &&& (2147483647 : Int32)) % (((1 : Int32) + ((p0 &&& (2147483647 : Int32)) % (38 : Int32))) + (1 : Int32)))), (.int ((1 : Int32) + ((p0 &&& (2147483647 : Int32)) % (38 : Int32)))), (.ref b41), (.ref b41)])) rfl (by rw [hml]; rfl) (Steps.refl _) (a := b41) (argsL := [(.int ((1 : Int32) + ((p0 &&& (2147483647 : Int32)) % (38 : Int32)))), (.int ((p1 &&& (2147483647 : Int32)) % (((1 : Int32) + ((p0 &&& (2147483647 : Int32)) % (38 : Int32))) + (1 : Int32))))]) (rest := [(.ref b41)]) (lenOf own_pd2 rfl) rfl (by show 2 * 0 + _ ≤ _; exact Nat.le_of_eq rfl) (hb hby at_156) (fun _ _ => ⟨rfl, e41, (by decide : 2 + 2 ≤ _), (by decide : 21 + 48 ≤ _)⟩)
  dsimp only [Pt.U, Pt.locs, Pt.cells, Pt.slots] at Y45 hT45 hg45 l45 y45 z45 st45 hQ45
  subst l45 y45 z45
  obtain ⟨X45, hS45, hZ45, hown45⟩ := rebS hS0 (by rw [e41]; exact hk41) Y45 hT45 hg45 hZ hown
  obtain ⟨N45q, K45q, rfl, G46, G47, G48⟩ := hQ45
  have N45 := Fr.app N39 N45q
  have K45 : Keep h0 T45.heap [] := K41.trans K45q (allS (P := fun x => x ∈ [] ∨ h0.size ≤ x) (Or.inr sz41) all0)
  have Z45 : n0 ≤ T45.heap.size := Nat.le_trans Z41 K45q.1
  have hk45 := Nat.le_refl T45.heap.size
  have G49 := (G42.keep K45q (ninS ne41_b1 nin0))
  have G50 := (A41.keep K45q)
  refine own_stepW (fun _ k => st45.trans k) ?_
  show own_FinW p e below s _ _ _ (T45.setTop (mkF m 159 #[.val (.int p0), .val (.int p1), .val (.int ((1 : Int32) + ((p0 &&& (2147483647 : Int32)) % (38 : Int32)))), .val (.int ((p1 &&& (2147483647 : Int32)) % (((1 : Int32) + ((p0 &&& (2147483647 : Int32)) % (38 : Int32))) + (1 : Int32)))), .val (.ref b1), .unset, .unset, .unset, .unset] [(.ref b41)]))
  refine own_stepW (fun _ k => XS.astore X45.here hx rfl (hb hby at_159) rfl rfl (l' := #[.val (.int p0), .val (.int p1), .val (.int ((1 : Int32) + ((p0 &&& (2147483647 : Int32)) % (38 : Int32)))), .val (.int ((p1 &&& (2147483647 : Int32)) % (((1 : Int32) + ((p0 &&& (2147483647 : Int32)) % (38 : Int32))) + (1 : Int32)))), .val (.ref b1), .val (.ref b41), .unset, .unset, .unset]) rfl k) ?_
  show own_FinW p e below s _ _ _ (T45.setTop (mkF m 161 #[.val (.int p0), .val (.int p1), .val (.int ((1 : Int32) + ((p0 &&& (2147483647 : Int32)) % (38 : Int32)))), .val (.int ((p1 &&& (2147483647 : Int32)) % (((1 : Int32) + ((p0 &&& (2147483647 : Int32)) % (38 : Int32))) + (1 : Int32)))), .val (.ref b1), .val (.ref b41), .unset, .unset, .unset] []))
  refine own_stepW (fun _ k => XS.iloadN X45.here hx rfl (hb hby at_161) rfl k) ?_
  show own_FinW p e below s _ _ _ (T45.setTop (mkF m 162 #[.val (.int p0), .val (.int p1), .val (.int ((1 : Int32) + ((p0 &&& (2147483647 : Int32)) % (38 : Int32)))), .val (.int ((p1 &&& (2147483647 : Int32)) % (((1 : Int32) + ((p0 &&& (2147483647 : Int32)) % (38 : Int32))) + (1 : Int32)))), .val (.ref b1), .val (.ref b41), .unset, .unset, .unset] [(.int ((1 : Int32) + ((p0 &&& (2147483647 : Int32)) % (38 : Int32))))]))
  refine own_stepW (fun _ k => XS.bipush X45.here hx rfl (hb hby at_162) k) ?_
  show own_FinW p e below s _ _ _ (T45.setTop (mkF m 164 #[.val (.int p0), .val (.int p1), .val (.int ((1 : Int32) + ((p0 &&& (2147483647 : Int32)) % (38 : Int32)))), .val (.int ((p1 &&& (2147483647 : Int32)) % (((1 : Int32) + ((p0 &&& (2147483647 : Int32)) % (38 : Int32))) + (1 : Int32)))), .val (.ref b1), .val (.ref b41), .unset, .unset, .unset] [(.int (18 : Int32)), (.int ((1 : Int32) + ((p0 &&& (2147483647 : Int32)) % (38 : Int32))))]))
  by_cases hc51 : (18 : Int32) < ((1 : Int32) + ((p0 &&& (2147483647 : Int32)) % (38 : Int32)))
  · refine own_stepW (fun _ k => XS.icmpNo X45.here hx rfl (hb hby at_164) rfl (tlt hc51).2.2.2 k) ?_
    show own_FinW p e below s _ _ _ (T45.setTop (mkF m 167 #[.val (.int p0), .val (.int p1), .val (.int ((1 : Int32) + ((p0 &&& (2147483647 : Int32)) % (38 : Int32)))), .val (.int ((p1 &&& (2147483647 : Int32)) % (((1 : Int32) + ((p0 &&& (2147483647 : Int32)) % (38 : Int32))) + (1 : Int32)))), .val (.ref b1), .val (.ref b41), .unset, .unset, .unset] []))
    refine own_stepW (fun _ k => XS.bipush X45.here hx rfl (hb hby at_167) k) ?_
    show own_FinW p e below s _ _ _ (T45.setTop (mkF m 169 #[.val (.int p0), .val (.int p1), .val (.int ((1 : Int32) + ((p0 &&& (2147483647 : Int32)) % (38 : Int32)))), .val (.int ((p1 &&& (2147483647 : Int32)) % (((1 : Int32) + ((p0 &&& (2147483647 : Int32)) % (38 : Int32))) + (1 : Int32)))), .val (.ref b1), .val (.ref b41), .unset, .unset, .unset] [(.int (16 : Int32))]))
    refine own_stepW (fun _ k => XS.istore X45.here hx rfl (hb hby at_169) rfl (l' := #[.val (.int p0), .val (.int p1), .val (.int ((1 : Int32) + ((p0 &&& (2147483647 : Int32)) % (38 : Int32)))), .val (.int ((p1 &&& (2147483647 : Int32)) % (((1 : Int32) + ((p0 &&& (2147483647 : Int32)) % (38 : Int32))) + (1 : Int32)))), .val (.ref b1), .val (.ref b41), .val (.int (16 : Int32)), .unset, .unset]) rfl k) ?_
    show own_FinW p e below s _ _ _ (T45.setTop (mkF m 171 #[.val (.int p0), .val (.int p1), .val (.int ((1 : Int32) + ((p0 &&& (2147483647 : Int32)) % (38 : Int32)))), .val (.int ((p1 &&& (2147483647 : Int32)) % (((1 : Int32) + ((p0 &&& (2147483647 : Int32)) % (38 : Int32))) + (1 : Int32)))), .val (.ref b1), .val (.ref b41), .val (.int (16 : Int32)), .unset, .unset] []))
    refine own_stepW (fun _ k => XS.goto X45.here hx rfl (pc0 := 171) (pc' := 231) rfl (hb hby at_171) (by decide) (by decide) k) ?_
    show own_FinW p e below s _ _ _ (T45.setTop (mkF m 231 #[.val (.int p0), .val (.int p1), .val (.int ((1 : Int32) + ((p0 &&& (2147483647 : Int32)) % (38 : Int32)))), .val (.int ((p1 &&& (2147483647 : Int32)) % (((1 : Int32) + ((p0 &&& (2147483647 : Int32)) % (38 : Int32))) + (1 : Int32)))), .val (.ref b1), .val (.ref b41), .val (.int (16 : Int32)), .unset, .unset] []))
    refine own_stepW (fun _ k => XS.aload X45.here hx rfl (hb hby at_231) rfl rfl k) ?_
    show own_FinW p e below s _ _ _ (T45.setTop (mkF m 233 #[.val (.int p0), .val (.int p1), .val (.int ((1 : Int32) + ((p0 &&& (2147483647 : Int32)) % (38 : Int32)))), .val (.int ((p1 &&& (2147483647 : Int32)) % (((1 : Int32) + ((p0 &&& (2147483647 : Int32)) % (38 : Int32))) + (1 : Int32)))), .val (.ref b1), .val (.ref b41), .val (.int (16 : Int32)), .unset, .unset] [(.ref b41)]))
    obtain ⟨cq52, kq52, q52a, q52b, q52c⟩ := isOf hZ45 rfl G46
    obtain ⟨_, _, ⟨T52, L52, k52, n52⟩, -, X52, ⟨Lc52, hQ52, l52, y52, z52⟩, st52⟩ := X45.virtualBack hx (y := own_y3) (z := own_y3) hown45 (mvT hZ45 (own_w hw 52 rfl)) (mvT hZ45 (own_w hw 53 rfl)) (notFace_of_selects (args := #[]) (mvT hZ45 (own_w hw 55 rfl))) (mvT hZ45 (own_w hw 55 rfl)) (mvT hZ45 (own_w hw 54 rfl)) (by decide) (backOf (W := 0) (own_rm4 l Z a0 hw [] b41 (((1 : Int32) + ((p0 &&& (2147483647 : Int32)) % (38 : Int32)))) T45.heap n0 Z45 G47) hZ45 (own_w hw 56 rfl) (own_w hw 22 rfl) (by decide) (by decide)) q52a q52c (g := (mkF m 233 #[.val (.int p0), .val (.int p1), .val (.int ((1 : Int32) + ((p0 &&& (2147483647 : Int32)) % (38 : Int32)))), .val (.int ((p1 &&& (2147483647 : Int32)) % (((1 : Int32) + ((p0 &&& (2147483647 : Int32)) % (38 : Int32))) + (1 : Int32)))), .val (.ref b1), .val (.ref b41), .val (.int (16 : Int32)), .unset, .unset] [(.ref b41)])) rfl (by rw [hml]; rfl) (Steps.refl _) (argsL := []) (rest := []) (lenOf own_pd3 rfl) rfl (by show 2 * 0 + _ ≤ _; exact Nat.le_of_eq rfl) (hb hby at_233) (fun _ _ => ⟨rfl, rfl, (by decide : 4 + 0 ≤ _), (by decide : 69 + 0 ≤ _)⟩)
    dsimp only [Pt.U, Pt.locs, Pt.cells, Pt.slots] at X52 l52 y52 z52 st52 hQ52
    subst l52 y52 z52
    obtain ⟨rfl, N52q, e52⟩ := hQ52
    have N52 := Fr.app N45 N52q
    refine own_stepW (fun _ k => st52.trans k) ?_
    show own_FinW p e below s _ _ _ (T52.setTop (mkF m 236 #[.val (.int p0), .val (.int p1), .val (.int ((1 : Int32) + ((p0 &&& (2147483647 : Int32)) % (38 : Int32)))), .val (.int ((p1 &&& (2147483647 : Int32)) % (((1 : Int32) + ((p0 &&& (2147483647 : Int32)) % (38 : Int32))) + (1 : Int32)))), .val (.ref b1), .val (.ref b41), .val (.int (16 : Int32)), .unset, .unset] [(.int (own_r4 ((1 : Int32) + ((p0 &&& (2147483647 : Int32)) % (38 : Int32)))))]))
    refine own_stepW (fun _ k => XS.iload X52.here hx rfl (hb hby at_236) rfl k) ?_
    show own_FinW p e below s _ _ _ (T52.setTop (mkF m 238 #[.val (.int p0), .val (.int p1), .val (.int ((1 : Int32) + ((p0 &&& (2147483647 : Int32)) % (38 : Int32)))), .val (.int ((p1 &&& (2147483647 : Int32)) % (((1 : Int32) + ((p0 &&& (2147483647 : Int32)) % (38 : Int32))) + (1 : Int32)))), .val (.ref b1), .val (.ref b41), .val (.int (16 : Int32)), .unset, .unset] [(.int (16 : Int32)), (.int (own_r4 ((1 : Int32) + ((p0 &&& (2147483647 : Int32)) % (38 : Int32)))))]))
    have hf53 : (own_r4 ((1 : Int32) + ((p0 &&& (2147483647 : Int32)) % (38 : Int32)))) = (16 : Int32) := own_big _ hc51
    refine own_stepW (fun _ k => XS.icmpNo X52.here hx rfl (hb hby at_238) rfl (teq hf53).2 k) ?_
    show own_FinW p e below s _ _ _ (T52.setTop (mkF m 241 #[.val (.int p0), .val (.int p1), .val (.int ((1 : Int32) + ((p0 &&& (2147483647 : Int32)) % (38 : Int32)))), .val (.int ((p1 &&& (2147483647 : Int32)) % (((1 : Int32) + ((p0 &&& (2147483647 : Int32)) % (38 : Int32))) + (1 : Int32)))), .val (.ref b1), .val (.ref b41), .val (.int (16 : Int32)), .unset, .unset] []))
    refine own_stepW (fun _ k => XS.iconst X52.here hx rfl (hb hby at_241) k) ?_
    show own_FinW p e below s _ _ _ (T52.setTop (mkF m 242 #[.val (.int p0), .val (.int p1), .val (.int ((1 : Int32) + ((p0 &&& (2147483647 : Int32)) % (38 : Int32)))), .val (.int ((p1 &&& (2147483647 : Int32)) % (((1 : Int32) + ((p0 &&& (2147483647 : Int32)) % (38 : Int32))) + (1 : Int32)))), .val (.ref b1), .val (.ref b41), .val (.int (16 : Int32)), .unset, .unset] [(.int (1 : Int32))]))
    refine own_stepW (fun _ k => XS.goto X52.here hx rfl (pc0 := 242) (pc' := 246) rfl (hb hby at_242) (by decide) (by decide) k) ?_
    show own_FinW p e below s _ _ _ (T52.setTop (mkF m 246 #[.val (.int p0), .val (.int p1), .val (.int ((1 : Int32) + ((p0 &&& (2147483647 : Int32)) % (38 : Int32)))), .val (.int ((p1 &&& (2147483647 : Int32)) % (((1 : Int32) + ((p0 &&& (2147483647 : Int32)) % (38 : Int32))) + (1 : Int32)))), .val (.ref b1), .val (.ref b41), .val (.int (16 : Int32)), .unset, .unset] [(.int (1 : Int32))]))
    exact own_retW X52 hlk hS45 e52 hk45 (v := some (.int (1 : Int32))) (fun h => by rw [Bd.returns] at h; cases h) (by decide) (by decide) (by show own_Q5 Z p0 p1 h0 n0 _ T52.heap _; rw [e52]; exact ⟨rfl, N52⟩) (fun fs hr => retN X52 hx (t := .boolean) Bd.returns (by simp) (hb hby at_246) hr)
  · refine own_stepW (fun _ k => XS.icmpYes X45.here hx rfl (pc0 := 164) (pc' := 174) rfl (hb hby at_164) rfl (flt hc51).2.2.2 (by decide) (by decide) k) ?_
    show own_FinW p e below s _ _ _ (T45.setTop (mkF m 174 #[.val (.int p0), .val (.int p1), .val (.int ((1 : Int32) + ((p0 &&& (2147483647 : Int32)) % (38 : Int32)))), .val (.int ((p1 &&& (2147483647 : Int32)) % (((1 : Int32) + ((p0 &&& (2147483647 : Int32)) % (38 : Int32))) + (1 : Int32)))), .val (.ref b1), .val (.ref b41), .unset, .unset, .unset] []))
    refine own_stepW (fun _ k => XS.aload X45.here hx rfl (hb hby at_174) rfl rfl k) ?_
    show own_FinW p e below s _ _ _ (T45.setTop (mkF m 176 #[.val (.int p0), .val (.int p1), .val (.int ((1 : Int32) + ((p0 &&& (2147483647 : Int32)) % (38 : Int32)))), .val (.int ((p1 &&& (2147483647 : Int32)) % (((1 : Int32) + ((p0 &&& (2147483647 : Int32)) % (38 : Int32))) + (1 : Int32)))), .val (.ref b1), .val (.ref b41), .unset, .unset, .unset] [(.ref b1)]))
    refine own_stepW (fun _ k => XS.iloadN X45.here hx rfl (hb hby at_176) rfl k) ?_
    show own_FinW p e below s _ _ _ (T45.setTop (mkF m 177 #[.val (.int p0), .val (.int p1), .val (.int ((1 : Int32) + ((p0 &&& (2147483647 : Int32)) % (38 : Int32)))), .val (.int ((p1 &&& (2147483647 : Int32)) % (((1 : Int32) + ((p0 &&& (2147483647 : Int32)) % (38 : Int32))) + (1 : Int32)))), .val (.ref b1), .val (.ref b41), .unset, .unset, .unset] [(.int ((1 : Int32) + ((p0 &&& (2147483647 : Int32)) % (38 : Int32)))), (.ref b1)]))
    obtain ⟨cl54, Ar54, q54, Sz54, Ng54, Hs54, Gf54⟩ := id G49
    have hin54 : ¬ (((1 : Int32) + ((p0 &&& (2147483647 : Int32)) % (38 : Int32))) < 0 ∨ cl54.slots.size ≤ (((1 : Int32) + ((p0 &&& (2147483647 : Int32)) % (38 : Int32)))).toNatClampNeg) := inb_of Sz54 (own_in p0 hc51)
    refine own_stepW (fun _ k => X45.laload hx (j := ((1 : Int32) + ((p0 &&& (2147483647 : Int32)) % (38 : Int32)))) (v := (.long (own_P0 ((1 : Int32) + ((p0 &&& (2147483647 : Int32)) % (38 : Int32)))))) Ar54.1 (State.isArrayOf_alike hZ45.alike Ar54.2.1) Ar54.2.2 hin54 (own_getJ (vs := [(1 : Int64), (10 : Int64), (100 : Int64), (1000 : Int64), (10000 : Int64), (100000 : Int64), (1000000 : Int64), (10000000 : Int64), (100000000 : Int64), (1000000000 : Int64), (10000000000 : Int64), (100000000000 : Int64), (1000000000000 : Int64), (10000000000000 : Int64), (100000000000000 : Int64), (1000000000000000 : Int64), (10000000000000000 : Int64), (100000000000000000 : Int64), (1000000000000000000 : Int64)]) Hs54 hin54) (g := (mkF m 177 #[.val (.int p0), .val (.int p1), .val (.int ((1 : Int32) + ((p0 &&& (2147483647 : Int32)) % (38 : Int32)))), .val (.int ((p1 &&& (2147483647 : Int32)) % (((1 : Int32) + ((p0 &&& (2147483647 : Int32)) % (38 : Int32))) + (1 : Int32)))), .val (.ref b1), .val (.ref b41), .unset, .unset, .unset] [(.int ((1 : Int32) + ((p0 &&& (2147483647 : Int32)) % (38 : Int32)))), (.ref b1)])) rfl rfl (hb hby at_177) _ k) ?_
    show own_FinW p e below s _ _ _ (T45.setTop (mkF m 178 #[.val (.int p0), .val (.int p1), .val (.int ((1 : Int32) + ((p0 &&& (2147483647 : Int32)) % (38 : Int32)))), .val (.int ((p1 &&& (2147483647 : Int32)) % (((1 : Int32) + ((p0 &&& (2147483647 : Int32)) % (38 : Int32))) + (1 : Int32)))), .val (.ref b1), .val (.ref b41), .unset, .unset, .unset] [(.long (own_P0 ((1 : Int32) + ((p0 &&& (2147483647 : Int32)) % (38 : Int32)))))]))
    refine own_stepW (fun _ k => XS.lconst X45.here hx rfl (hb hby at_178) k) ?_
    show own_FinW p e below s _ _ _ (T45.setTop (mkF m 179 #[.val (.int p0), .val (.int p1), .val (.int ((1 : Int32) + ((p0 &&& (2147483647 : Int32)) % (38 : Int32)))), .val (.int ((p1 &&& (2147483647 : Int32)) % (((1 : Int32) + ((p0 &&& (2147483647 : Int32)) % (38 : Int32))) + (1 : Int32)))), .val (.ref b1), .val (.ref b41), .unset, .unset, .unset] [(.long (1 : Int64)), (.long (own_P0 ((1 : Int32) + ((p0 &&& (2147483647 : Int32)) % (38 : Int32)))))]))
    refine own_stepW (fun _ k => XS.lsub X45.here hx rfl (hb hby at_179) rfl k) ?_
    show own_FinW p e below s _ _ _ (T45.setTop (mkF m 180 #[.val (.int p0), .val (.int p1), .val (.int ((1 : Int32) + ((p0 &&& (2147483647 : Int32)) % (38 : Int32)))), .val (.int ((p1 &&& (2147483647 : Int32)) % (((1 : Int32) + ((p0 &&& (2147483647 : Int32)) % (38 : Int32))) + (1 : Int32)))), .val (.ref b1), .val (.ref b41), .unset, .unset, .unset] [(.long ((own_P0 ((1 : Int32) + ((p0 &&& (2147483647 : Int32)) % (38 : Int32)))) - (1 : Int64)))]))
    refine own_stepW (fun _ k => XS.lstore X45.here hx rfl (hb hby at_180) rfl (l' := #[.val (.int p0), .val (.int p1), .val (.int ((1 : Int32) + ((p0 &&& (2147483647 : Int32)) % (38 : Int32)))), .val (.int ((p1 &&& (2147483647 : Int32)) % (((1 : Int32) + ((p0 &&& (2147483647 : Int32)) % (38 : Int32))) + (1 : Int32)))), .val (.ref b1), .val (.ref b41), .unset, .val (.long ((own_P0 ((1 : Int32) + ((p0 &&& (2147483647 : Int32)) % (38 : Int32)))) - (1 : Int64))), .second]) rfl k) ?_
    show own_FinW p e below s _ _ _ (T45.setTop (mkF m 182 #[.val (.int p0), .val (.int p1), .val (.int ((1 : Int32) + ((p0 &&& (2147483647 : Int32)) % (38 : Int32)))), .val (.int ((p1 &&& (2147483647 : Int32)) % (((1 : Int32) + ((p0 &&& (2147483647 : Int32)) % (38 : Int32))) + (1 : Int32)))), .val (.ref b1), .val (.ref b41), .unset, .val (.long ((own_P0 ((1 : Int32) + ((p0 &&& (2147483647 : Int32)) % (38 : Int32)))) - (1 : Int64))), .second] []))
    refine own_stepW (fun _ k => XS.lload X45.here hx rfl (hb hby at_182) rfl k) ?_
    show own_FinW p e below s _ _ _ (T45.setTop (mkF m 184 #[.val (.int p0), .val (.int p1), .val (.int ((1 : Int32) + ((p0 &&& (2147483647 : Int32)) % (38 : Int32)))), .val (.int ((p1 &&& (2147483647 : Int32)) % (((1 : Int32) + ((p0 &&& (2147483647 : Int32)) % (38 : Int32))) + (1 : Int32)))), .val (.ref b1), .val (.ref b41), .unset, .val (.long ((own_P0 ((1 : Int32) + ((p0 &&& (2147483647 : Int32)) % (38 : Int32)))) - (1 : Int64))), .second] [(.long ((own_P0 ((1 : Int32) + ((p0 &&& (2147483647 : Int32)) % (38 : Int32)))) - (1 : Int64)))]))
    refine own_stepW (fun _ k => X45.ldc2Long hx hown45 (mvT hZ45 (own_w hw 51 rfl)) (g := (mkF m 184 #[.val (.int p0), .val (.int p1), .val (.int ((1 : Int32) + ((p0 &&& (2147483647 : Int32)) % (38 : Int32)))), .val (.int ((p1 &&& (2147483647 : Int32)) % (((1 : Int32) + ((p0 &&& (2147483647 : Int32)) % (38 : Int32))) + (1 : Int32)))), .val (.ref b1), .val (.ref b41), .unset, .val (.long ((own_P0 ((1 : Int32) + ((p0 &&& (2147483647 : Int32)) % (38 : Int32)))) - (1 : Int64))), .second] [(.long ((own_P0 ((1 : Int32) + ((p0 &&& (2147483647 : Int32)) % (38 : Int32)))) - (1 : Int64)))])) rfl (hb hby at_184) _ k) ?_
    show own_FinW p e below s _ _ _ (T45.setTop (mkF m 187 #[.val (.int p0), .val (.int p1), .val (.int ((1 : Int32) + ((p0 &&& (2147483647 : Int32)) % (38 : Int32)))), .val (.int ((p1 &&& (2147483647 : Int32)) % (((1 : Int32) + ((p0 &&& (2147483647 : Int32)) % (38 : Int32))) + (1 : Int32)))), .val (.ref b1), .val (.ref b41), .unset, .val (.long ((own_P0 ((1 : Int32) + ((p0 &&& (2147483647 : Int32)) % (38 : Int32)))) - (1 : Int64))), .second] [(.long (127 : Int64)), (.long ((own_P0 ((1 : Int32) + ((p0 &&& (2147483647 : Int32)) % (38 : Int32)))) - (1 : Int64)))]))
    refine own_stepW (fun _ k => XS.lcmp X45.here hx rfl (hb hby at_187) rfl k) ?_
    show own_FinW p e below s _ _ _ (T45.setTop (mkF m 188 #[.val (.int p0), .val (.int p1), .val (.int ((1 : Int32) + ((p0 &&& (2147483647 : Int32)) % (38 : Int32)))), .val (.int ((p1 &&& (2147483647 : Int32)) % (((1 : Int32) + ((p0 &&& (2147483647 : Int32)) % (38 : Int32))) + (1 : Int32)))), .val (.ref b1), .val (.ref b41), .unset, .val (.long ((own_P0 ((1 : Int32) + ((p0 &&& (2147483647 : Int32)) % (38 : Int32)))) - (1 : Int64))), .second] [(.int (lcmpW ((own_P0 ((1 : Int32) + ((p0 &&& (2147483647 : Int32)) % (38 : Int32)))) - (1 : Int64)) (127 : Int64)))]))
    by_cases hc55 : (0 : Int32) < (lcmpW ((own_P0 ((1 : Int32) + ((p0 &&& (2147483647 : Int32)) % (38 : Int32)))) - (1 : Int64)) (127 : Int64))
    · refine own_stepW (fun _ k => XS.ifYes X45.here hx rfl (pc0 := 188) (pc' := 197) rfl (hb hby at_188) rfl ((if0 _ _).trans (tlt hc55).2.2.1) (by decide) (by decide) k) ?_
      show own_FinW p e below s _ _ _ (T45.setTop (mkF m 197 #[.val (.int p0), .val (.int p1), .val (.int ((1 : Int32) + ((p0 &&& (2147483647 : Int32)) % (38 : Int32)))), .val (.int ((p1 &&& (2147483647 : Int32)) % (((1 : Int32) + ((p0 &&& (2147483647 : Int32)) % (38 : Int32))) + (1 : Int32)))), .val (.ref b1), .val (.ref b41), .unset, .val (.long ((own_P0 ((1 : Int32) + ((p0 &&& (2147483647 : Int32)) % (38 : Int32)))) - (1 : Int64))), .second] []))
      refine own_stepW (fun _ k => XS.lload X45.here hx rfl (hb hby at_197) rfl k) ?_
      show own_FinW p e below s _ _ _ (T45.setTop (mkF m 199 #[.val (.int p0), .val (.int p1), .val (.int ((1 : Int32) + ((p0 &&& (2147483647 : Int32)) % (38 : Int32)))), .val (.int ((p1 &&& (2147483647 : Int32)) % (((1 : Int32) + ((p0 &&& (2147483647 : Int32)) % (38 : Int32))) + (1 : Int32)))), .val (.ref b1), .val (.ref b41), .unset, .val (.long ((own_P0 ((1 : Int32) + ((p0 &&& (2147483647 : Int32)) % (38 : Int32)))) - (1 : Int64))), .second] [(.long ((own_P0 ((1 : Int32) + ((p0 &&& (2147483647 : Int32)) % (38 : Int32)))) - (1 : Int64)))]))
      refine own_stepW (fun _ k => X45.ldc2Long hx hown45 (mvT hZ45 (own_w hw 57 rfl)) (g := (mkF m 199 #[.val (.int p0), .val (.int p1), .val (.int ((1 : Int32) + ((p0 &&& (2147483647 : Int32)) % (38 : Int32)))), .val (.int ((p1 &&& (2147483647 : Int32)) % (((1 : Int32) + ((p0 &&& (2147483647 : Int32)) % (38 : Int32))) + (1 : Int32)))), .val (.ref b1), .val (.ref b41), .unset, .val (.long ((own_P0 ((1 : Int32) + ((p0 &&& (2147483647 : Int32)) % (38 : Int32)))) - (1 : Int64))), .second] [(.long ((own_P0 ((1 : Int32) + ((p0 &&& (2147483647 : Int32)) % (38 : Int32)))) - (1 : Int64)))])) rfl (hb hby at_199) _ k) ?_
      show own_FinW p e below s _ _ _ (T45.setTop (mkF m 202 #[.val (.int p0), .val (.int p1), .val (.int ((1 : Int32) + ((p0 &&& (2147483647 : Int32)) % (38 : Int32)))), .val (.int ((p1 &&& (2147483647 : Int32)) % (((1 : Int32) + ((p0 &&& (2147483647 : Int32)) % (38 : Int32))) + (1 : Int32)))), .val (.ref b1), .val (.ref b41), .unset, .val (.long ((own_P0 ((1 : Int32) + ((p0 &&& (2147483647 : Int32)) % (38 : Int32)))) - (1 : Int64))), .second] [(.long (32767 : Int64)), (.long ((own_P0 ((1 : Int32) + ((p0 &&& (2147483647 : Int32)) % (38 : Int32)))) - (1 : Int64)))]))
      refine own_stepW (fun _ k => XS.lcmp X45.here hx rfl (hb hby at_202) rfl k) ?_
      show own_FinW p e below s _ _ _ (T45.setTop (mkF m 203 #[.val (.int p0), .val (.int p1), .val (.int ((1 : Int32) + ((p0 &&& (2147483647 : Int32)) % (38 : Int32)))), .val (.int ((p1 &&& (2147483647 : Int32)) % (((1 : Int32) + ((p0 &&& (2147483647 : Int32)) % (38 : Int32))) + (1 : Int32)))), .val (.ref b1), .val (.ref b41), .unset, .val (.long ((own_P0 ((1 : Int32) + ((p0 &&& (2147483647 : Int32)) % (38 : Int32)))) - (1 : Int64))), .second] [(.int (lcmpW ((own_P0 ((1 : Int32) + ((p0 &&& (2147483647 : Int32)) % (38 : Int32)))) - (1 : Int64)) (32767 : Int64)))]))
      by_cases hc56 : (0 : Int32) < (lcmpW ((own_P0 ((1 : Int32) + ((p0 &&& (2147483647 : Int32)) % (38 : Int32)))) - (1 : Int64)) (32767 : Int64))
      · refine own_stepW (fun _ k => XS.ifYes X45.here hx rfl (pc0 := 203) (pc' := 212) rfl (hb hby at_203) rfl ((if0 _ _).trans (tlt hc56).2.2.1) (by decide) (by decide) k) ?_
        show own_FinW p e below s _ _ _ (T45.setTop (mkF m 212 #[.val (.int p0), .val (.int p1), .val (.int ((1 : Int32) + ((p0 &&& (2147483647 : Int32)) % (38 : Int32)))), .val (.int ((p1 &&& (2147483647 : Int32)) % (((1 : Int32) + ((p0 &&& (2147483647 : Int32)) % (38 : Int32))) + (1 : Int32)))), .val (.ref b1), .val (.ref b41), .unset, .val (.long ((own_P0 ((1 : Int32) + ((p0 &&& (2147483647 : Int32)) % (38 : Int32)))) - (1 : Int64))), .second] []))
        refine own_stepW (fun _ k => XS.lload X45.here hx rfl (hb hby at_212) rfl k) ?_
        show own_FinW p e below s _ _ _ (T45.setTop (mkF m 214 #[.val (.int p0), .val (.int p1), .val (.int ((1 : Int32) + ((p0 &&& (2147483647 : Int32)) % (38 : Int32)))), .val (.int ((p1 &&& (2147483647 : Int32)) % (((1 : Int32) + ((p0 &&& (2147483647 : Int32)) % (38 : Int32))) + (1 : Int32)))), .val (.ref b1), .val (.ref b41), .unset, .val (.long ((own_P0 ((1 : Int32) + ((p0 &&& (2147483647 : Int32)) % (38 : Int32)))) - (1 : Int64))), .second] [(.long ((own_P0 ((1 : Int32) + ((p0 &&& (2147483647 : Int32)) % (38 : Int32)))) - (1 : Int64)))]))
        refine own_stepW (fun _ k => X45.ldc2Long hx hown45 (mvT hZ45 (own_w hw 58 rfl)) (g := (mkF m 214 #[.val (.int p0), .val (.int p1), .val (.int ((1 : Int32) + ((p0 &&& (2147483647 : Int32)) % (38 : Int32)))), .val (.int ((p1 &&& (2147483647 : Int32)) % (((1 : Int32) + ((p0 &&& (2147483647 : Int32)) % (38 : Int32))) + (1 : Int32)))), .val (.ref b1), .val (.ref b41), .unset, .val (.long ((own_P0 ((1 : Int32) + ((p0 &&& (2147483647 : Int32)) % (38 : Int32)))) - (1 : Int64))), .second] [(.long ((own_P0 ((1 : Int32) + ((p0 &&& (2147483647 : Int32)) % (38 : Int32)))) - (1 : Int64)))])) rfl (hb hby at_214) _ k) ?_
        show own_FinW p e below s _ _ _ (T45.setTop (mkF m 217 #[.val (.int p0), .val (.int p1), .val (.int ((1 : Int32) + ((p0 &&& (2147483647 : Int32)) % (38 : Int32)))), .val (.int ((p1 &&& (2147483647 : Int32)) % (((1 : Int32) + ((p0 &&& (2147483647 : Int32)) % (38 : Int32))) + (1 : Int32)))), .val (.ref b1), .val (.ref b41), .unset, .val (.long ((own_P0 ((1 : Int32) + ((p0 &&& (2147483647 : Int32)) % (38 : Int32)))) - (1 : Int64))), .second] [(.long (2147483647 : Int64)), (.long ((own_P0 ((1 : Int32) + ((p0 &&& (2147483647 : Int32)) % (38 : Int32)))) - (1 : Int64)))]))
        refine own_stepW (fun _ k => XS.lcmp X45.here hx rfl (hb hby at_217) rfl k) ?_
        show own_FinW p e below s _ _ _ (T45.setTop (mkF m 218 #[.val (.int p0), .val (.int p1), .val (.int ((1 : Int32) + ((p0 &&& (2147483647 : Int32)) % (38 : Int32)))), .val (.int ((p1 &&& (2147483647 : Int32)) % (((1 : Int32) + ((p0 &&& (2147483647 : Int32)) % (38 : Int32))) + (1 : Int32)))), .val (.ref b1), .val (.ref b41), .unset, .val (.long ((own_P0 ((1 : Int32) + ((p0 &&& (2147483647 : Int32)) % (38 : Int32)))) - (1 : Int64))), .second] [(.int (lcmpW ((own_P0 ((1 : Int32) + ((p0 &&& (2147483647 : Int32)) % (38 : Int32)))) - (1 : Int64)) (2147483647 : Int64)))]))
        by_cases hc57 : (0 : Int32) < (lcmpW ((own_P0 ((1 : Int32) + ((p0 &&& (2147483647 : Int32)) % (38 : Int32)))) - (1 : Int64)) (2147483647 : Int64))
        · refine own_stepW (fun _ k => XS.ifYes X45.here hx rfl (pc0 := 218) (pc' := 227) rfl (hb hby at_218) rfl ((if0 _ _).trans (tlt hc57).2.2.1) (by decide) (by decide) k) ?_
          show own_FinW p e below s _ _ _ (T45.setTop (mkF m 227 #[.val (.int p0), .val (.int p1), .val (.int ((1 : Int32) + ((p0 &&& (2147483647 : Int32)) % (38 : Int32)))), .val (.int ((p1 &&& (2147483647 : Int32)) % (((1 : Int32) + ((p0 &&& (2147483647 : Int32)) % (38 : Int32))) + (1 : Int32)))), .val (.ref b1), .val (.ref b41), .unset, .val (.long ((own_P0 ((1 : Int32) + ((p0 &&& (2147483647 : Int32)) % (38 : Int32)))) - (1 : Int64))), .second] []))
          refine own_stepW (fun _ k => XS.bipush X45.here hx rfl (hb hby at_227) k) ?_
          show own_FinW p e below s _ _ _ (T45.setTop (mkF m 229 #[.val (.int p0), .val (.int p1), .val (.int ((1 : Int32) + ((p0 &&& (2147483647 : Int32)) % (38 : Int32)))), .val (.int ((p1 &&& (2147483647 : Int32)) % (((1 : Int32) + ((p0 &&& (2147483647 : Int32)) % (38 : Int32))) + (1 : Int32)))), .val (.ref b1), .val (.ref b41), .unset, .val (.long ((own_P0 ((1 : Int32) + ((p0 &&& (2147483647 : Int32)) % (38 : Int32)))) - (1 : Int64))), .second] [(.int (8 : Int32))]))
          refine own_stepW (fun _ k => XS.istore X45.here hx rfl (hb hby at_229) rfl (l' := #[.val (.int p0), .val (.int p1), .val (.int ((1 : Int32) + ((p0 &&& (2147483647 : Int32)) % (38 : Int32)))), .val (.int ((p1 &&& (2147483647 : Int32)) % (((1 : Int32) + ((p0 &&& (2147483647 : Int32)) % (38 : Int32))) + (1 : Int32)))), .val (.ref b1), .val (.ref b41), .val (.int (8 : Int32)), .val (.long ((own_P0 ((1 : Int32) + ((p0 &&& (2147483647 : Int32)) % (38 : Int32)))) - (1 : Int64))), .second]) rfl k) ?_
          show own_FinW p e below s _ _ _ (T45.setTop (mkF m 231 #[.val (.int p0), .val (.int p1), .val (.int ((1 : Int32) + ((p0 &&& (2147483647 : Int32)) % (38 : Int32)))), .val (.int ((p1 &&& (2147483647 : Int32)) % (((1 : Int32) + ((p0 &&& (2147483647 : Int32)) % (38 : Int32))) + (1 : Int32)))), .val (.ref b1), .val (.ref b41), .val (.int (8 : Int32)), .val (.long ((own_P0 ((1 : Int32) + ((p0 &&& (2147483647 : Int32)) % (38 : Int32)))) - (1 : Int64))), .second] []))
          refine own_stepW (fun _ k => XS.aload X45.here hx rfl (hb hby at_231) rfl rfl k) ?_
          show own_FinW p e below s _ _ _ (T45.setTop (mkF m 233 #[.val (.int p0), .val (.int p1), .val (.int ((1 : Int32) + ((p0 &&& (2147483647 : Int32)) % (38 : Int32)))), .val (.int ((p1 &&& (2147483647 : Int32)) % (((1 : Int32) + ((p0 &&& (2147483647 : Int32)) % (38 : Int32))) + (1 : Int32)))), .val (.ref b1), .val (.ref b41), .val (.int (8 : Int32)), .val (.long ((own_P0 ((1 : Int32) + ((p0 &&& (2147483647 : Int32)) % (38 : Int32)))) - (1 : Int64))), .second] [(.ref b41)]))
          obtain ⟨cq58, kq58, q58a, q58b, q58c⟩ := isOf hZ45 rfl G46
          obtain ⟨_, _, ⟨T58, L58, k58, n58⟩, -, X58, ⟨Lc58, hQ58, l58, y58, z58⟩, st58⟩ := X45.virtualBack hx (y := own_y3) (z := own_y3) hown45 (mvT hZ45 (own_w hw 52 rfl)) (mvT hZ45 (own_w hw 53 rfl)) (notFace_of_selects (args := #[]) (mvT hZ45 (own_w hw 55 rfl))) (mvT hZ45 (own_w hw 55 rfl)) (mvT hZ45 (own_w hw 54 rfl)) (by decide) (backOf (W := 0) (own_rm4 l Z a0 hw [] b41 (((1 : Int32) + ((p0 &&& (2147483647 : Int32)) % (38 : Int32)))) T45.heap n0 Z45 G47) hZ45 (own_w hw 56 rfl) (own_w hw 22 rfl) (by decide) (by decide)) q58a q58c (g := (mkF m 233 #[.val (.int p0), .val (.int p1), .val (.int ((1 : Int32) + ((p0 &&& (2147483647 : Int32)) % (38 : Int32)))), .val (.int ((p1 &&& (2147483647 : Int32)) % (((1 : Int32) + ((p0 &&& (2147483647 : Int32)) % (38 : Int32))) + (1 : Int32)))), .val (.ref b1), .val (.ref b41), .val (.int (8 : Int32)), .val (.long ((own_P0 ((1 : Int32) + ((p0 &&& (2147483647 : Int32)) % (38 : Int32)))) - (1 : Int64))), .second] [(.ref b41)])) rfl (by rw [hml]; rfl) (Steps.refl _) (argsL := []) (rest := []) (lenOf own_pd3 rfl) rfl (by show 2 * 0 + _ ≤ _; exact Nat.le_of_eq rfl) (hb hby at_233) (fun _ _ => ⟨rfl, rfl, (by decide : 4 + 0 ≤ _), (by decide : 69 + 0 ≤ _)⟩)
          dsimp only [Pt.U, Pt.locs, Pt.cells, Pt.slots] at X58 l58 y58 z58 st58 hQ58
          subst l58 y58 z58
          obtain ⟨rfl, N58q, e58⟩ := hQ58
          have N58 := Fr.app N45 N58q
          refine own_stepW (fun _ k => st58.trans k) ?_
          show own_FinW p e below s _ _ _ (T58.setTop (mkF m 236 #[.val (.int p0), .val (.int p1), .val (.int ((1 : Int32) + ((p0 &&& (2147483647 : Int32)) % (38 : Int32)))), .val (.int ((p1 &&& (2147483647 : Int32)) % (((1 : Int32) + ((p0 &&& (2147483647 : Int32)) % (38 : Int32))) + (1 : Int32)))), .val (.ref b1), .val (.ref b41), .val (.int (8 : Int32)), .val (.long ((own_P0 ((1 : Int32) + ((p0 &&& (2147483647 : Int32)) % (38 : Int32)))) - (1 : Int64))), .second] [(.int (own_r4 ((1 : Int32) + ((p0 &&& (2147483647 : Int32)) % (38 : Int32)))))]))
          refine own_stepW (fun _ k => XS.iload X58.here hx rfl (hb hby at_236) rfl k) ?_
          show own_FinW p e below s _ _ _ (T58.setTop (mkF m 238 #[.val (.int p0), .val (.int p1), .val (.int ((1 : Int32) + ((p0 &&& (2147483647 : Int32)) % (38 : Int32)))), .val (.int ((p1 &&& (2147483647 : Int32)) % (((1 : Int32) + ((p0 &&& (2147483647 : Int32)) % (38 : Int32))) + (1 : Int32)))), .val (.ref b1), .val (.ref b41), .val (.int (8 : Int32)), .val (.long ((own_P0 ((1 : Int32) + ((p0 &&& (2147483647 : Int32)) % (38 : Int32)))) - (1 : Int64))), .second] [(.int (8 : Int32)), (.int (own_r4 ((1 : Int32) + ((p0 &&& (2147483647 : Int32)) % (38 : Int32)))))]))
          have hf59 : (own_r4 ((1 : Int32) + ((p0 &&& (2147483647 : Int32)) % (38 : Int32)))) = (8 : Int32) := (own_law _ (own_n0 p0) hc51).trans (by rw [if_pos (show _ from hc55), if_pos (show _ from hc56), if_pos (show _ from hc57)])
          refine own_stepW (fun _ k => XS.icmpNo X58.here hx rfl (hb hby at_238) rfl (teq hf59).2 k) ?_
          show own_FinW p e below s _ _ _ (T58.setTop (mkF m 241 #[.val (.int p0), .val (.int p1), .val (.int ((1 : Int32) + ((p0 &&& (2147483647 : Int32)) % (38 : Int32)))), .val (.int ((p1 &&& (2147483647 : Int32)) % (((1 : Int32) + ((p0 &&& (2147483647 : Int32)) % (38 : Int32))) + (1 : Int32)))), .val (.ref b1), .val (.ref b41), .val (.int (8 : Int32)), .val (.long ((own_P0 ((1 : Int32) + ((p0 &&& (2147483647 : Int32)) % (38 : Int32)))) - (1 : Int64))), .second] []))
          refine own_stepW (fun _ k => XS.iconst X58.here hx rfl (hb hby at_241) k) ?_
          show own_FinW p e below s _ _ _ (T58.setTop (mkF m 242 #[.val (.int p0), .val (.int p1), .val (.int ((1 : Int32) + ((p0 &&& (2147483647 : Int32)) % (38 : Int32)))), .val (.int ((p1 &&& (2147483647 : Int32)) % (((1 : Int32) + ((p0 &&& (2147483647 : Int32)) % (38 : Int32))) + (1 : Int32)))), .val (.ref b1), .val (.ref b41), .val (.int (8 : Int32)), .val (.long ((own_P0 ((1 : Int32) + ((p0 &&& (2147483647 : Int32)) % (38 : Int32)))) - (1 : Int64))), .second] [(.int (1 : Int32))]))
          refine own_stepW (fun _ k => XS.goto X58.here hx rfl (pc0 := 242) (pc' := 246) rfl (hb hby at_242) (by decide) (by decide) k) ?_
          show own_FinW p e below s _ _ _ (T58.setTop (mkF m 246 #[.val (.int p0), .val (.int p1), .val (.int ((1 : Int32) + ((p0 &&& (2147483647 : Int32)) % (38 : Int32)))), .val (.int ((p1 &&& (2147483647 : Int32)) % (((1 : Int32) + ((p0 &&& (2147483647 : Int32)) % (38 : Int32))) + (1 : Int32)))), .val (.ref b1), .val (.ref b41), .val (.int (8 : Int32)), .val (.long ((own_P0 ((1 : Int32) + ((p0 &&& (2147483647 : Int32)) % (38 : Int32)))) - (1 : Int64))), .second] [(.int (1 : Int32))]))
          exact own_retW X58 hlk hS45 e58 hk45 (v := some (.int (1 : Int32))) (fun h => by rw [Bd.returns] at h; cases h) (by decide) (by decide) (by show own_Q5 Z p0 p1 h0 n0 _ T58.heap _; rw [e58]; exact ⟨rfl, N58⟩) (fun fs hr => retN X58 hx (t := .boolean) Bd.returns (by simp) (hb hby at_246) hr)
        · refine own_stepW (fun _ k => XS.ifNo X45.here hx rfl (hb hby at_218) rfl ((if0 _ _).trans (flt hc57).2.2.1) k) ?_
          show own_FinW p e below s _ _ _ (T45.setTop (mkF m 221 #[.val (.int p0), .val (.int p1), .val (.int ((1 : Int32) + ((p0 &&& (2147483647 : Int32)) % (38 : Int32)))), .val (.int ((p1 &&& (2147483647 : Int32)) % (((1 : Int32) + ((p0 &&& (2147483647 : Int32)) % (38 : Int32))) + (1 : Int32)))), .val (.ref b1), .val (.ref b41), .unset, .val (.long ((own_P0 ((1 : Int32) + ((p0 &&& (2147483647 : Int32)) % (38 : Int32)))) - (1 : Int64))), .second] []))
          refine own_stepW (fun _ k => XS.iconst X45.here hx rfl (hb hby at_221) k) ?_
          show own_FinW p e below s _ _ _ (T45.setTop (mkF m 222 #[.val (.int p0), .val (.int p1), .val (.int ((1 : Int32) + ((p0 &&& (2147483647 : Int32)) % (38 : Int32)))), .val (.int ((p1 &&& (2147483647 : Int32)) % (((1 : Int32) + ((p0 &&& (2147483647 : Int32)) % (38 : Int32))) + (1 : Int32)))), .val (.ref b1), .val (.ref b41), .unset, .val (.long ((own_P0 ((1 : Int32) + ((p0 &&& (2147483647 : Int32)) % (38 : Int32)))) - (1 : Int64))), .second] [(.int (4 : Int32))]))
          refine own_stepW (fun _ k => XS.istore X45.here hx rfl (hb hby at_222) rfl (l' := #[.val (.int p0), .val (.int p1), .val (.int ((1 : Int32) + ((p0 &&& (2147483647 : Int32)) % (38 : Int32)))), .val (.int ((p1 &&& (2147483647 : Int32)) % (((1 : Int32) + ((p0 &&& (2147483647 : Int32)) % (38 : Int32))) + (1 : Int32)))), .val (.ref b1), .val (.ref b41), .val (.int (4 : Int32)), .val (.long ((own_P0 ((1 : Int32) + ((p0 &&& (2147483647 : Int32)) % (38 : Int32)))) - (1 : Int64))), .second]) rfl k) ?_
          show own_FinW p e below s _ _ _ (T45.setTop (mkF m 224 #[.val (.int p0), .val (.int p1), .val (.int ((1 : Int32) + ((p0 &&& (2147483647 : Int32)) % (38 : Int32)))), .val (.int ((p1 &&& (2147483647 : Int32)) % (((1 : Int32) + ((p0 &&& (2147483647 : Int32)) % (38 : Int32))) + (1 : Int32)))), .val (.ref b1), .val (.ref b41), .val (.int (4 : Int32)), .val (.long ((own_P0 ((1 : Int32) + ((p0 &&& (2147483647 : Int32)) % (38 : Int32)))) - (1 : Int64))), .second] []))
          refine own_stepW (fun _ k => XS.goto X45.here hx rfl (pc0 := 224) (pc' := 231) rfl (hb hby at_224) (by decide) (by decide) k) ?_
          show own_FinW p e below s _ _ _ (T45.setTop (mkF m 231 #[.val (.int p0), .val (.int p1), .val (.int ((1 : Int32) + ((p0 &&& (2147483647 : Int32)) % (38 : Int32)))), .val (.int ((p1 &&& (2147483647 : Int32)) % (((1 : Int32) + ((p0 &&& (2147483647 : Int32)) % (38 : Int32))) + (1 : Int32)))), .val (.ref b1), .val (.ref b41), .val (.int (4 : Int32)), .val (.long ((own_P0 ((1 : Int32) + ((p0 &&& (2147483647 : Int32)) % (38 : Int32)))) - (1 : Int64))), .second] []))
          refine own_stepW (fun _ k => XS.aload X45.here hx rfl (hb hby at_231) rfl rfl k) ?_
          show own_FinW p e below s _ _ _ (T45.setTop (mkF m 233 #[.val (.int p0), .val (.int p1), .val (.int ((1 : Int32) + ((p0 &&& (2147483647 : Int32)) % (38 : Int32)))), .val (.int ((p1 &&& (2147483647 : Int32)) % (((1 : Int32) + ((p0 &&& (2147483647 : Int32)) % (38 : Int32))) + (1 : Int32)))), .val (.ref b1), .val (.ref b41), .val (.int (4 : Int32)), .val (.long ((own_P0 ((1 : Int32) + ((p0 &&& (2147483647 : Int32)) % (38 : Int32)))) - (1 : Int64))), .second] [(.ref b41)]))
          obtain ⟨cq60, kq60, q60a, q60b, q60c⟩ := isOf hZ45 rfl G46
          obtain ⟨_, _, ⟨T60, L60, k60, n60⟩, -, X60, ⟨Lc60, hQ60, l60, y60, z60⟩, st60⟩ := X45.virtualBack hx (y := own_y3) (z := own_y3) hown45 (mvT hZ45 (own_w hw 52 rfl)) (mvT hZ45 (own_w hw 53 rfl)) (notFace_of_selects (args := #[]) (mvT hZ45 (own_w hw 55 rfl))) (mvT hZ45 (own_w hw 55 rfl)) (mvT hZ45 (own_w hw 54 rfl)) (by decide) (backOf (W := 0) (own_rm4 l Z a0 hw [] b41 (((1 : Int32) + ((p0 &&& (2147483647 : Int32)) % (38 : Int32)))) T45.heap n0 Z45 G47) hZ45 (own_w hw 56 rfl) (own_w hw 22 rfl) (by decide) (by decide)) q60a q60c (g := (mkF m 233 #[.val (.int p0), .val (.int p1), .val (.int ((1 : Int32) + ((p0 &&& (2147483647 : Int32)) % (38 : Int32)))), .val (.int ((p1 &&& (2147483647 : Int32)) % (((1 : Int32) + ((p0 &&& (2147483647 : Int32)) % (38 : Int32))) + (1 : Int32)))), .val (.ref b1), .val (.ref b41), .val (.int (4 : Int32)), .val (.long ((own_P0 ((1 : Int32) + ((p0 &&& (2147483647 : Int32)) % (38 : Int32)))) - (1 : Int64))), .second] [(.ref b41)])) rfl (by rw [hml]; rfl) (Steps.refl _) (argsL := []) (rest := []) (lenOf own_pd3 rfl) rfl (by show 2 * 0 + _ ≤ _; exact Nat.le_of_eq rfl) (hb hby at_233) (fun _ _ => ⟨rfl, rfl, (by decide : 4 + 0 ≤ _), (by decide : 69 + 0 ≤ _)⟩)
          dsimp only [Pt.U, Pt.locs, Pt.cells, Pt.slots] at X60 l60 y60 z60 st60 hQ60
          subst l60 y60 z60
          obtain ⟨rfl, N60q, e60⟩ := hQ60
          have N60 := Fr.app N45 N60q
          refine own_stepW (fun _ k => st60.trans k) ?_
          show own_FinW p e below s _ _ _ (T60.setTop (mkF m 236 #[.val (.int p0), .val (.int p1), .val (.int ((1 : Int32) + ((p0 &&& (2147483647 : Int32)) % (38 : Int32)))), .val (.int ((p1 &&& (2147483647 : Int32)) % (((1 : Int32) + ((p0 &&& (2147483647 : Int32)) % (38 : Int32))) + (1 : Int32)))), .val (.ref b1), .val (.ref b41), .val (.int (4 : Int32)), .val (.long ((own_P0 ((1 : Int32) + ((p0 &&& (2147483647 : Int32)) % (38 : Int32)))) - (1 : Int64))), .second] [(.int (own_r4 ((1 : Int32) + ((p0 &&& (2147483647 : Int32)) % (38 : Int32)))))]))
          refine own_stepW (fun _ k => XS.iload X60.here hx rfl (hb hby at_236) rfl k) ?_
          show own_FinW p e below s _ _ _ (T60.setTop (mkF m 238 #[.val (.int p0), .val (.int p1), .val (.int ((1 : Int32) + ((p0 &&& (2147483647 : Int32)) % (38 : Int32)))), .val (.int ((p1 &&& (2147483647 : Int32)) % (((1 : Int32) + ((p0 &&& (2147483647 : Int32)) % (38 : Int32))) + (1 : Int32)))), .val (.ref b1), .val (.ref b41), .val (.int (4 : Int32)), .val (.long ((own_P0 ((1 : Int32) + ((p0 &&& (2147483647 : Int32)) % (38 : Int32)))) - (1 : Int64))), .second] [(.int (4 : Int32)), (.int (own_r4 ((1 : Int32) + ((p0 &&& (2147483647 : Int32)) % (38 : Int32)))))]))
          have hf61 : (own_r4 ((1 : Int32) + ((p0 &&& (2147483647 : Int32)) % (38 : Int32)))) = (4 : Int32) := (own_law _ (own_n0 p0) hc51).trans (by rw [if_pos (show _ from hc55), if_pos (show _ from hc56), if_neg (show _ from hc57)])
          refine own_stepW (fun _ k => XS.icmpNo X60.here hx rfl (hb hby at_238) rfl (teq hf61).2 k) ?_
          show own_FinW p e below s _ _ _ (T60.setTop (mkF m 241 #[.val (.int p0), .val (.int p1), .val (.int ((1 : Int32) + ((p0 &&& (2147483647 : Int32)) % (38 : Int32)))), .val (.int ((p1 &&& (2147483647 : Int32)) % (((1 : Int32) + ((p0 &&& (2147483647 : Int32)) % (38 : Int32))) + (1 : Int32)))), .val (.ref b1), .val (.ref b41), .val (.int (4 : Int32)), .val (.long ((own_P0 ((1 : Int32) + ((p0 &&& (2147483647 : Int32)) % (38 : Int32)))) - (1 : Int64))), .second] []))
          refine own_stepW (fun _ k => XS.iconst X60.here hx rfl (hb hby at_241) k) ?_
          show own_FinW p e below s _ _ _ (T60.setTop (mkF m 242 #[.val (.int p0), .val (.int p1), .val (.int ((1 : Int32) + ((p0 &&& (2147483647 : Int32)) % (38 : Int32)))), .val (.int ((p1 &&& (2147483647 : Int32)) % (((1 : Int32) + ((p0 &&& (2147483647 : Int32)) % (38 : Int32))) + (1 : Int32)))), .val (.ref b1), .val (.ref b41), .val (.int (4 : Int32)), .val (.long ((own_P0 ((1 : Int32) + ((p0 &&& (2147483647 : Int32)) % (38 : Int32)))) - (1 : Int64))), .second] [(.int (1 : Int32))]))
          refine own_stepW (fun _ k => XS.goto X60.here hx rfl (pc0 := 242) (pc' := 246) rfl (hb hby at_242) (by decide) (by decide) k) ?_
          show own_FinW p e below s _ _ _ (T60.setTop (mkF m 246 #[.val (.int p0), .val (.int p1), .val (.int ((1 : Int32) + ((p0 &&& (2147483647 : Int32)) % (38 : Int32)))), .val (.int ((p1 &&& (2147483647 : Int32)) % (((1 : Int32) + ((p0 &&& (2147483647 : Int32)) % (38 : Int32))) + (1 : Int32)))), .val (.ref b1), .val (.ref b41), .val (.int (4 : Int32)), .val (.long ((own_P0 ((1 : Int32) + ((p0 &&& (2147483647 : Int32)) % (38 : Int32)))) - (1 : Int64))), .second] [(.int (1 : Int32))]))
          exact own_retW X60 hlk hS45 e60 hk45 (v := some (.int (1 : Int32))) (fun h => by rw [Bd.returns] at h; cases h) (by decide) (by decide) (by show own_Q5 Z p0 p1 h0 n0 _ T60.heap _; rw [e60]; exact ⟨rfl, N60⟩) (fun fs hr => retN X60 hx (t := .boolean) Bd.returns (by simp) (hb hby at_246) hr)
      · refine own_stepW (fun _ k => XS.ifNo X45.here hx rfl (hb hby at_203) rfl ((if0 _ _).trans (flt hc56).2.2.1) k) ?_
        show own_FinW p e below s _ _ _ (T45.setTop (mkF m 206 #[.val (.int p0), .val (.int p1), .val (.int ((1 : Int32) + ((p0 &&& (2147483647 : Int32)) % (38 : Int32)))), .val (.int ((p1 &&& (2147483647 : Int32)) % (((1 : Int32) + ((p0 &&& (2147483647 : Int32)) % (38 : Int32))) + (1 : Int32)))), .val (.ref b1), .val (.ref b41), .unset, .val (.long ((own_P0 ((1 : Int32) + ((p0 &&& (2147483647 : Int32)) % (38 : Int32)))) - (1 : Int64))), .second] []))
        refine own_stepW (fun _ k => XS.iconst X45.here hx rfl (hb hby at_206) k) ?_
        show own_FinW p e below s _ _ _ (T45.setTop (mkF m 207 #[.val (.int p0), .val (.int p1), .val (.int ((1 : Int32) + ((p0 &&& (2147483647 : Int32)) % (38 : Int32)))), .val (.int ((p1 &&& (2147483647 : Int32)) % (((1 : Int32) + ((p0 &&& (2147483647 : Int32)) % (38 : Int32))) + (1 : Int32)))), .val (.ref b1), .val (.ref b41), .unset, .val (.long ((own_P0 ((1 : Int32) + ((p0 &&& (2147483647 : Int32)) % (38 : Int32)))) - (1 : Int64))), .second] [(.int (2 : Int32))]))
        refine own_stepW (fun _ k => XS.istore X45.here hx rfl (hb hby at_207) rfl (l' := #[.val (.int p0), .val (.int p1), .val (.int ((1 : Int32) + ((p0 &&& (2147483647 : Int32)) % (38 : Int32)))), .val (.int ((p1 &&& (2147483647 : Int32)) % (((1 : Int32) + ((p0 &&& (2147483647 : Int32)) % (38 : Int32))) + (1 : Int32)))), .val (.ref b1), .val (.ref b41), .val (.int (2 : Int32)), .val (.long ((own_P0 ((1 : Int32) + ((p0 &&& (2147483647 : Int32)) % (38 : Int32)))) - (1 : Int64))), .second]) rfl k) ?_
        show own_FinW p e below s _ _ _ (T45.setTop (mkF m 209 #[.val (.int p0), .val (.int p1), .val (.int ((1 : Int32) + ((p0 &&& (2147483647 : Int32)) % (38 : Int32)))), .val (.int ((p1 &&& (2147483647 : Int32)) % (((1 : Int32) + ((p0 &&& (2147483647 : Int32)) % (38 : Int32))) + (1 : Int32)))), .val (.ref b1), .val (.ref b41), .val (.int (2 : Int32)), .val (.long ((own_P0 ((1 : Int32) + ((p0 &&& (2147483647 : Int32)) % (38 : Int32)))) - (1 : Int64))), .second] []))
        refine own_stepW (fun _ k => XS.goto X45.here hx rfl (pc0 := 209) (pc' := 231) rfl (hb hby at_209) (by decide) (by decide) k) ?_
        show own_FinW p e below s _ _ _ (T45.setTop (mkF m 231 #[.val (.int p0), .val (.int p1), .val (.int ((1 : Int32) + ((p0 &&& (2147483647 : Int32)) % (38 : Int32)))), .val (.int ((p1 &&& (2147483647 : Int32)) % (((1 : Int32) + ((p0 &&& (2147483647 : Int32)) % (38 : Int32))) + (1 : Int32)))), .val (.ref b1), .val (.ref b41), .val (.int (2 : Int32)), .val (.long ((own_P0 ((1 : Int32) + ((p0 &&& (2147483647 : Int32)) % (38 : Int32)))) - (1 : Int64))), .second] []))
        refine own_stepW (fun _ k => XS.aload X45.here hx rfl (hb hby at_231) rfl rfl k) ?_
        show own_FinW p e below s _ _ _ (T45.setTop (mkF m 233 #[.val (.int p0), .val (.int p1), .val (.int ((1 : Int32) + ((p0 &&& (2147483647 : Int32)) % (38 : Int32)))), .val (.int ((p1 &&& (2147483647 : Int32)) % (((1 : Int32) + ((p0 &&& (2147483647 : Int32)) % (38 : Int32))) + (1 : Int32)))), .val (.ref b1), .val (.ref b41), .val (.int (2 : Int32)), .val (.long ((own_P0 ((1 : Int32) + ((p0 &&& (2147483647 : Int32)) % (38 : Int32)))) - (1 : Int64))), .second] [(.ref b41)]))
        obtain ⟨cq62, kq62, q62a, q62b, q62c⟩ := isOf hZ45 rfl G46
        obtain ⟨_, _, ⟨T62, L62, k62, n62⟩, -, X62, ⟨Lc62, hQ62, l62, y62, z62⟩, st62⟩ := X45.virtualBack hx (y := own_y3) (z := own_y3) hown45 (mvT hZ45 (own_w hw 52 rfl)) (mvT hZ45 (own_w hw 53 rfl)) (notFace_of_selects (args := #[]) (mvT hZ45 (own_w hw 55 rfl))) (mvT hZ45 (own_w hw 55 rfl)) (mvT hZ45 (own_w hw 54 rfl)) (by decide) (backOf (W := 0) (own_rm4 l Z a0 hw [] b41 (((1 : Int32) + ((p0 &&& (2147483647 : Int32)) % (38 : Int32)))) T45.heap n0 Z45 G47) hZ45 (own_w hw 56 rfl) (own_w hw 22 rfl) (by decide) (by decide)) q62a q62c (g := (mkF m 233 #[.val (.int p0), .val (.int p1), .val (.int ((1 : Int32) + ((p0 &&& (2147483647 : Int32)) % (38 : Int32)))), .val (.int ((p1 &&& (2147483647 : Int32)) % (((1 : Int32) + ((p0 &&& (2147483647 : Int32)) % (38 : Int32))) + (1 : Int32)))), .val (.ref b1), .val (.ref b41), .val (.int (2 : Int32)), .val (.long ((own_P0 ((1 : Int32) + ((p0 &&& (2147483647 : Int32)) % (38 : Int32)))) - (1 : Int64))), .second] [(.ref b41)])) rfl (by rw [hml]; rfl) (Steps.refl _) (argsL := []) (rest := []) (lenOf own_pd3 rfl) rfl (by show 2 * 0 + _ ≤ _; exact Nat.le_of_eq rfl) (hb hby at_233) (fun _ _ => ⟨rfl, rfl, (by decide : 4 + 0 ≤ _), (by decide : 69 + 0 ≤ _)⟩)
        dsimp only [Pt.U, Pt.locs, Pt.cells, Pt.slots] at X62 l62 y62 z62 st62 hQ62
        subst l62 y62 z62
        obtain ⟨rfl, N62q, e62⟩ := hQ62
        have N62 := Fr.app N45 N62q
        refine own_stepW (fun _ k => st62.trans k) ?_
        show own_FinW p e below s _ _ _ (T62.setTop (mkF m 236 #[.val (.int p0), .val (.int p1), .val (.int ((1 : Int32) + ((p0 &&& (2147483647 : Int32)) % (38 : Int32)))), .val (.int ((p1 &&& (2147483647 : Int32)) % (((1 : Int32) + ((p0 &&& (2147483647 : Int32)) % (38 : Int32))) + (1 : Int32)))), .val (.ref b1), .val (.ref b41), .val (.int (2 : Int32)), .val (.long ((own_P0 ((1 : Int32) + ((p0 &&& (2147483647 : Int32)) % (38 : Int32)))) - (1 : Int64))), .second] [(.int (own_r4 ((1 : Int32) + ((p0 &&& (2147483647 : Int32)) % (38 : Int32)))))]))
        refine own_stepW (fun _ k => XS.iload X62.here hx rfl (hb hby at_236) rfl k) ?_
        show own_FinW p e below s _ _ _ (T62.setTop (mkF m 238 #[.val (.int p0), .val (.int p1), .val (.int ((1 : Int32) + ((p0 &&& (2147483647 : Int32)) % (38 : Int32)))), .val (.int ((p1 &&& (2147483647 : Int32)) % (((1 : Int32) + ((p0 &&& (2147483647 : Int32)) % (38 : Int32))) + (1 : Int32)))), .val (.ref b1), .val (.ref b41), .val (.int (2 : Int32)), .val (.long ((own_P0 ((1 : Int32) + ((p0 &&& (2147483647 : Int32)) % (38 : Int32)))) - (1 : Int64))), .second] [(.int (2 : Int32)), (.int (own_r4 ((1 : Int32) + ((p0 &&& (2147483647 : Int32)) % (38 : Int32)))))]))
        have hf63 : (own_r4 ((1 : Int32) + ((p0 &&& (2147483647 : Int32)) % (38 : Int32)))) = (2 : Int32) := (own_law _ (own_n0 p0) hc51).trans (by rw [if_pos (show _ from hc55), if_neg (show _ from hc56)])
        refine own_stepW (fun _ k => XS.icmpNo X62.here hx rfl (hb hby at_238) rfl (teq hf63).2 k) ?_
        show own_FinW p e below s _ _ _ (T62.setTop (mkF m 241 #[.val (.int p0), .val (.int p1), .val (.int ((1 : Int32) + ((p0 &&& (2147483647 : Int32)) % (38 : Int32)))), .val (.int ((p1 &&& (2147483647 : Int32)) % (((1 : Int32) + ((p0 &&& (2147483647 : Int32)) % (38 : Int32))) + (1 : Int32)))), .val (.ref b1), .val (.ref b41), .val (.int (2 : Int32)), .val (.long ((own_P0 ((1 : Int32) + ((p0 &&& (2147483647 : Int32)) % (38 : Int32)))) - (1 : Int64))), .second] []))
        refine own_stepW (fun _ k => XS.iconst X62.here hx rfl (hb hby at_241) k) ?_
        show own_FinW p e below s _ _ _ (T62.setTop (mkF m 242 #[.val (.int p0), .val (.int p1), .val (.int ((1 : Int32) + ((p0 &&& (2147483647 : Int32)) % (38 : Int32)))), .val (.int ((p1 &&& (2147483647 : Int32)) % (((1 : Int32) + ((p0 &&& (2147483647 : Int32)) % (38 : Int32))) + (1 : Int32)))), .val (.ref b1), .val (.ref b41), .val (.int (2 : Int32)), .val (.long ((own_P0 ((1 : Int32) + ((p0 &&& (2147483647 : Int32)) % (38 : Int32)))) - (1 : Int64))), .second] [(.int (1 : Int32))]))
        refine own_stepW (fun _ k => XS.goto X62.here hx rfl (pc0 := 242) (pc' := 246) rfl (hb hby at_242) (by decide) (by decide) k) ?_
        show own_FinW p e below s _ _ _ (T62.setTop (mkF m 246 #[.val (.int p0), .val (.int p1), .val (.int ((1 : Int32) + ((p0 &&& (2147483647 : Int32)) % (38 : Int32)))), .val (.int ((p1 &&& (2147483647 : Int32)) % (((1 : Int32) + ((p0 &&& (2147483647 : Int32)) % (38 : Int32))) + (1 : Int32)))), .val (.ref b1), .val (.ref b41), .val (.int (2 : Int32)), .val (.long ((own_P0 ((1 : Int32) + ((p0 &&& (2147483647 : Int32)) % (38 : Int32)))) - (1 : Int64))), .second] [(.int (1 : Int32))]))
        exact own_retW X62 hlk hS45 e62 hk45 (v := some (.int (1 : Int32))) (fun h => by rw [Bd.returns] at h; cases h) (by decide) (by decide) (by show own_Q5 Z p0 p1 h0 n0 _ T62.heap _; rw [e62]; exact ⟨rfl, N62⟩) (fun fs hr => retN X62 hx (t := .boolean) Bd.returns (by simp) (hb hby at_246) hr)
    · refine own_stepW (fun _ k => XS.ifNo X45.here hx rfl (hb hby at_188) rfl ((if0 _ _).trans (flt hc55).2.2.1) k) ?_
      show own_FinW p e below s _ _ _ (T45.setTop (mkF m 191 #[.val (.int p0), .val (.int p1), .val (.int ((1 : Int32) + ((p0 &&& (2147483647 : Int32)) % (38 : Int32)))), .val (.int ((p1 &&& (2147483647 : Int32)) % (((1 : Int32) + ((p0 &&& (2147483647 : Int32)) % (38 : Int32))) + (1 : Int32)))), .val (.ref b1), .val (.ref b41), .unset, .val (.long ((own_P0 ((1 : Int32) + ((p0 &&& (2147483647 : Int32)) % (38 : Int32)))) - (1 : Int64))), .second] []))
      refine own_stepW (fun _ k => XS.iconst X45.here hx rfl (hb hby at_191) k) ?_
      show own_FinW p e below s _ _ _ (T45.setTop (mkF m 192 #[.val (.int p0), .val (.int p1), .val (.int ((1 : Int32) + ((p0 &&& (2147483647 : Int32)) % (38 : Int32)))), .val (.int ((p1 &&& (2147483647 : Int32)) % (((1 : Int32) + ((p0 &&& (2147483647 : Int32)) % (38 : Int32))) + (1 : Int32)))), .val (.ref b1), .val (.ref b41), .unset, .val (.long ((own_P0 ((1 : Int32) + ((p0 &&& (2147483647 : Int32)) % (38 : Int32)))) - (1 : Int64))), .second] [(.int (1 : Int32))]))
      refine own_stepW (fun _ k => XS.istore X45.here hx rfl (hb hby at_192) rfl (l' := #[.val (.int p0), .val (.int p1), .val (.int ((1 : Int32) + ((p0 &&& (2147483647 : Int32)) % (38 : Int32)))), .val (.int ((p1 &&& (2147483647 : Int32)) % (((1 : Int32) + ((p0 &&& (2147483647 : Int32)) % (38 : Int32))) + (1 : Int32)))), .val (.ref b1), .val (.ref b41), .val (.int (1 : Int32)), .val (.long ((own_P0 ((1 : Int32) + ((p0 &&& (2147483647 : Int32)) % (38 : Int32)))) - (1 : Int64))), .second]) rfl k) ?_
      show own_FinW p e below s _ _ _ (T45.setTop (mkF m 194 #[.val (.int p0), .val (.int p1), .val (.int ((1 : Int32) + ((p0 &&& (2147483647 : Int32)) % (38 : Int32)))), .val (.int ((p1 &&& (2147483647 : Int32)) % (((1 : Int32) + ((p0 &&& (2147483647 : Int32)) % (38 : Int32))) + (1 : Int32)))), .val (.ref b1), .val (.ref b41), .val (.int (1 : Int32)), .val (.long ((own_P0 ((1 : Int32) + ((p0 &&& (2147483647 : Int32)) % (38 : Int32)))) - (1 : Int64))), .second] []))
      refine own_stepW (fun _ k => XS.goto X45.here hx rfl (pc0 := 194) (pc' := 231) rfl (hb hby at_194) (by decide) (by decide) k) ?_
      show own_FinW p e below s _ _ _ (T45.setTop (mkF m 231 #[.val (.int p0), .val (.int p1), .val (.int ((1 : Int32) + ((p0 &&& (2147483647 : Int32)) % (38 : Int32)))), .val (.int ((p1 &&& (2147483647 : Int32)) % (((1 : Int32) + ((p0 &&& (2147483647 : Int32)) % (38 : Int32))) + (1 : Int32)))), .val (.ref b1), .val (.ref b41), .val (.int (1 : Int32)), .val (.long ((own_P0 ((1 : Int32) + ((p0 &&& (2147483647 : Int32)) % (38 : Int32)))) - (1 : Int64))), .second] []))
      refine own_stepW (fun _ k => XS.aload X45.here hx rfl (hb hby at_231) rfl rfl k) ?_
      show own_FinW p e below s _ _ _ (T45.setTop (mkF m 233 #[.val (.int p0), .val (.int p1), .val (.int ((1 : Int32) + ((p0 &&& (2147483647 : Int32)) % (38 : Int32)))), .val (.int ((p1 &&& (2147483647 : Int32)) % (((1 : Int32) + ((p0 &&& (2147483647 : Int32)) % (38 : Int32))) + (1 : Int32)))), .val (.ref b1), .val (.ref b41), .val (.int (1 : Int32)), .val (.long ((own_P0 ((1 : Int32) + ((p0 &&& (2147483647 : Int32)) % (38 : Int32)))) - (1 : Int64))), .second] [(.ref b41)]))
      obtain ⟨cq64, kq64, q64a, q64b, q64c⟩ := isOf hZ45 rfl G46
      obtain ⟨_, _, ⟨T64, L64, k64, n64⟩, -, X64, ⟨Lc64, hQ64, l64, y64, z64⟩, st64⟩ := X45.virtualBack hx (y := own_y3) (z := own_y3) hown45 (mvT hZ45 (own_w hw 52 rfl)) (mvT hZ45 (own_w hw 53 rfl)) (notFace_of_selects (args := #[]) (mvT hZ45 (own_w hw 55 rfl))) (mvT hZ45 (own_w hw 55 rfl)) (mvT hZ45 (own_w hw 54 rfl)) (by decide) (backOf (W := 0) (own_rm4 l Z a0 hw [] b41 (((1 : Int32) + ((p0 &&& (2147483647 : Int32)) % (38 : Int32)))) T45.heap n0 Z45 G47) hZ45 (own_w hw 56 rfl) (own_w hw 22 rfl) (by decide) (by decide)) q64a q64c (g := (mkF m 233 #[.val (.int p0), .val (.int p1), .val (.int ((1 : Int32) + ((p0 &&& (2147483647 : Int32)) % (38 : Int32)))), .val (.int ((p1 &&& (2147483647 : Int32)) % (((1 : Int32) + ((p0 &&& (2147483647 : Int32)) % (38 : Int32))) + (1 : Int32)))), .val (.ref b1), .val (.ref b41), .val (.int (1 : Int32)), .val (.long ((own_P0 ((1 : Int32) + ((p0 &&& (2147483647 : Int32)) % (38 : Int32)))) - (1 : Int64))), .second] [(.ref b41)])) rfl (by rw [hml]; rfl) (Steps.refl _) (argsL := []) (rest := []) (lenOf own_pd3 rfl) rfl (by show 2 * 0 + _ ≤ _; exact Nat.le_of_eq rfl) (hb hby at_233) (fun _ _ => ⟨rfl, rfl, (by decide : 4 + 0 ≤ _), (by decide : 69 + 0 ≤ _)⟩)
      dsimp only [Pt.U, Pt.locs, Pt.cells, Pt.slots] at X64 l64 y64 z64 st64 hQ64
      subst l64 y64 z64
      obtain ⟨rfl, N64q, e64⟩ := hQ64
      have N64 := Fr.app N45 N64q
      refine own_stepW (fun _ k => st64.trans k) ?_
      show own_FinW p e below s _ _ _ (T64.setTop (mkF m 236 #[.val (.int p0), .val (.int p1), .val (.int ((1 : Int32) + ((p0 &&& (2147483647 : Int32)) % (38 : Int32)))), .val (.int ((p1 &&& (2147483647 : Int32)) % (((1 : Int32) + ((p0 &&& (2147483647 : Int32)) % (38 : Int32))) + (1 : Int32)))), .val (.ref b1), .val (.ref b41), .val (.int (1 : Int32)), .val (.long ((own_P0 ((1 : Int32) + ((p0 &&& (2147483647 : Int32)) % (38 : Int32)))) - (1 : Int64))), .second] [(.int (own_r4 ((1 : Int32) + ((p0 &&& (2147483647 : Int32)) % (38 : Int32)))))]))
      refine own_stepW (fun _ k => XS.iload X64.here hx rfl (hb hby at_236) rfl k) ?_
      show own_FinW p e below s _ _ _ (T64.setTop (mkF m 238 #[.val (.int p0), .val (.int p1), .val (.int ((1 : Int32) + ((p0 &&& (2147483647 : Int32)) % (38 : Int32)))), .val (.int ((p1 &&& (2147483647 : Int32)) % (((1 : Int32) + ((p0 &&& (2147483647 : Int32)) % (38 : Int32))) + (1 : Int32)))), .val (.ref b1), .val (.ref b41), .val (.int (1 : Int32)), .val (.long ((own_P0 ((1 : Int32) + ((p0 &&& (2147483647 : Int32)) % (38 : Int32)))) - (1 : Int64))), .second] [(.int (1 : Int32)), (.int (own_r4 ((1 : Int32) + ((p0 &&& (2147483647 : Int32)) % (38 : Int32)))))]))
      have hf65 : (own_r4 ((1 : Int32) + ((p0 &&& (2147483647 : Int32)) % (38 : Int32)))) = (1 : Int32) := (own_law _ (own_n0 p0) hc51).trans (by rw [if_neg (show _ from hc55)])
      refine own_stepW (fun _ k => XS.icmpNo X64.here hx rfl (hb hby at_238) rfl (teq hf65).2 k) ?_
      show own_FinW p e below s _ _ _ (T64.setTop (mkF m 241 #[.val (.int p0), .val (.int p1), .val (.int ((1 : Int32) + ((p0 &&& (2147483647 : Int32)) % (38 : Int32)))), .val (.int ((p1 &&& (2147483647 : Int32)) % (((1 : Int32) + ((p0 &&& (2147483647 : Int32)) % (38 : Int32))) + (1 : Int32)))), .val (.ref b1), .val (.ref b41), .val (.int (1 : Int32)), .val (.long ((own_P0 ((1 : Int32) + ((p0 &&& (2147483647 : Int32)) % (38 : Int32)))) - (1 : Int64))), .second] []))
      refine own_stepW (fun _ k => XS.iconst X64.here hx rfl (hb hby at_241) k) ?_
      show own_FinW p e below s _ _ _ (T64.setTop (mkF m 242 #[.val (.int p0), .val (.int p1), .val (.int ((1 : Int32) + ((p0 &&& (2147483647 : Int32)) % (38 : Int32)))), .val (.int ((p1 &&& (2147483647 : Int32)) % (((1 : Int32) + ((p0 &&& (2147483647 : Int32)) % (38 : Int32))) + (1 : Int32)))), .val (.ref b1), .val (.ref b41), .val (.int (1 : Int32)), .val (.long ((own_P0 ((1 : Int32) + ((p0 &&& (2147483647 : Int32)) % (38 : Int32)))) - (1 : Int64))), .second] [(.int (1 : Int32))]))
      refine own_stepW (fun _ k => XS.goto X64.here hx rfl (pc0 := 242) (pc' := 246) rfl (hb hby at_242) (by decide) (by decide) k) ?_
      show own_FinW p e below s _ _ _ (T64.setTop (mkF m 246 #[.val (.int p0), .val (.int p1), .val (.int ((1 : Int32) + ((p0 &&& (2147483647 : Int32)) % (38 : Int32)))), .val (.int ((p1 &&& (2147483647 : Int32)) % (((1 : Int32) + ((p0 &&& (2147483647 : Int32)) % (38 : Int32))) + (1 : Int32)))), .val (.ref b1), .val (.ref b41), .val (.int (1 : Int32)), .val (.long ((own_P0 ((1 : Int32) + ((p0 &&& (2147483647 : Int32)) % (38 : Int32)))) - (1 : Int64))), .second] [(.int (1 : Int32))]))
      exact own_retW X64 hlk hS45 e64 hk45 (v := some (.int (1 : Int32))) (fun h => by rw [Bd.returns] at h; cases h) (by decide) (by decide) (by show own_Q5 Z p0 p1 h0 n0 _ T64.heap _; rw [e64]; exact ⟨rfl, N64⟩) (fun fs hr => retN X64 hx (t := .boolean) Bd.returns (by simp) (hb hby at_246) hr)

set_option maxRecDepth 65536 in
set_option maxHeartbeats 40000000 in
theorem comes_1 {Post : Tables → Env → Array Value → State → Outcome → State → Prop} (hpost : ∀ tb e args s v u, (limb_1_1.after args s (.returned v) u = true ∧ limb_1_2.after args s (.returned v) u = true ∧ True) → ReturnedEndW s (.returned v) u (Jvm.fieldLocs frame_1_writes args s ++ Jvm.arrayLocs frame_1_arrays args s ++ Jvm.staticLocs frame_1_statics s) 16 1152 → Post tb e args s (.returned v) u) :
    ArmFor flags0 classFile x code maxLocals ret World_1 tables_1 room_1 Calls_1 rest_1 Pre_1 Post := by
  intro l hfl _ _ p e ha hc hk s m args below hf hA hF happ hP
  obtain ⟨hcalls, hrest, hpre⟩ := hP
  obtain ⟨-, -, -, hnamed, -, -, -, hat⟩ := (Spec.applies_iff hf).mp happ
  obtain ⟨hg, hn⟩ := and_e (Cond.before_iff.mp (show (Jvm.Cond.and given_1 narrow_1).before args s = true from hpre))
  obtain ⟨cj1a, cj1b⟩ := and_e hg
  obtain ⟨cj2a, cj2b⟩ := and_e cj1b
  obtain ⟨w0, w1, rfl⟩ : ∃ w0 w1 : Value, args = #[w0, w1] := by
    have hs : args.size = 2 := by simpa [Cond.value, given_1] using cj1a
    obtain ⟨L⟩ := args
    match L, hs with
    | [w0, w1], _ => exact ⟨w0, w1, rfl⟩
  have hw := fun d (hd : d ∈ tables_1) => atoms_spec (ws := Jvm.Cond.code x code maxLocals ret :: tables_1) hat d (List.mem_cons_of_mem _ hd)
  have hfit : Fit s := fun {y c} hc i hi => by
    obtain ⟨ha, rfl⟩ := Array.getElem?_eq_some_iff.mp hc
    have q := List.all_eq_true.mp ((Array.all_eq_true_iff_forall_mem.mp hF) _ (Array.getElem_mem ha)) i (List.mem_range.mpr hi)
    simpa [Array.getElem?_eq_getElem hi] using q
  obtain ⟨i0, ei0⟩ := is_v cj2a
  obtain rfl : w0 = (.int i0) := Option.some.inj ei0
  obtain ⟨i1, ei1⟩ := is_v cj2b
  obtain rfl : w1 = (.int i1) := Option.some.inj ei1
  obtain ⟨n, o, h1, h2, h3, _, L, rfl, ⟨rfl, N⟩, hq⟩ := own_rm5 l s _ hw tables_1 i0 i1 s.heap s.heap.size (Nat.le_refl _)  p e ha hc hk s m _ below hf ((Spec.applies_iff_loose hf).mp happ).1 ⟨rfl, State.Warmed39.refl s, rfl⟩ trivial
  refine ⟨n, _, h1, h2, h3, hpost _ _ _ _ _ _ ⟨Cond.after_iff.mpr rfl, Cond.after_iff.mpr (eq_i res_at (Term.int_eval (1)) rfl), trivial⟩ ⟨hq.1, hq.2.1, hq.2.2.1, (hq.2.2.2.sift fun y hy => Or.inr (N y hy)).mono (by decide) (by decide)⟩⟩
theorem main_1_1 : Claimed_1_1 := comes_1 fun _ _ _ _ _ _ h hF => ⟨h.1, hF⟩
theorem main_1_2 : Claimed_1_2 := comes_1 fun _ _ _ _ _ _ h hF => ⟨h.2.1, hF⟩
end Jvm.Pilot.@@N@@
namespace Jvm.Pilot.@@N@@
open Jvm Jvm.ClassFile Sem Op Lib Jvm.Free Jvm.Stand Jvm.Pilot.@@N@@.Jvm.D
/-! MADE BY PROGRAM (witnessworld.py) out of the Statement's table words and the real class files: 19 classes; the members and pool entries that the words name. The judged class is class 1, her method 1. -/
namespace start1
open Jvm.ClassFile
def u (s : String) : CpInfo := .utf8 (stringToUtf16 s)
/-- a pool by its gaps: so many unusable entries, then the entry; so many at the end -/
def gap : Nat → List CpInfo → List CpInfo
  | 0, r => r
  | n + 1, r => .unusable :: gap n r
def poolList (es : List (Nat × CpInfo)) (last : Nat) : List CpInfo := es.foldr (fun e r => gap e.1 (e.2 :: r)) (gap last [])
def pool (es : List (Nat × CpInfo)) (last : Nat) : Array CpInfo := ⟨poolList es last⟩
def fileOf (pool : Array CpInfo) (this : Nat) (attrs : Array Attribute := #[]) (ms : Array MethodInfo := #[]) (fl : Nat := 33) (sup : Nat := 0) (ifs : Array Nat := #[]) (fds : Array FieldInfo := #[]) : ClassFile where
  minorVersion := 0
  majorVersion := 65
  constantPool := pool
  accessFlags := fl
  thisClass := this
  superClass := sup
  interfaces := ifs
  fields := fds
  methods := ms
  attributes := attrs
def plain (name : String) (sup : Option ClassId) : Class where
  name := name
  kind := .ordinary
  loader := none
  accessFlags := 33
  super := sup
  interfaces := #[]
  cf := none
  fields := #[]
  methods := #[]
  instanceTypes := #[]
  staticTypes := #[]
  resolved := #[]
  callSites := []
  init := .initialized
  statics := none
  mirror := none

def pool0 : Array CpInfo := pool [(5, u "<init>"), (0, u "()V"), (1, .class_ 10), (1, u "java/lang/Object")] 113

def k0c0 : Code := { maxStack := 0, maxLocals := 1, code := object_method_1_code, exceptionTable := #[], attributes := #[] }
def k0m0 : Method := { name := "<init>", desc := "()V", sig := { parameters := [], returnType := none }, accessFlags := 1, code := some k0c0 }
/-- java/lang/Object -/
def k0 : Class := { plain "java/lang/Object" none with
  accessFlags := 33
  interfaces := #[]
  cf := some (fileOf pool0 8 #[] #[{ accessFlags := 1, nameIndex := 5, descriptorIndex := 6, attributes := #[] }] 33 0 #[] #[])
  fields := #[]
  methods := #[k0m0]
  instanceTypes := #[]
  staticTypes := #[]
  resolved := Array.replicate 124 none
  statics := none }

def pool1 : Array CpInfo := pool [(2, .class_ 4), (1, u "java/lang/Object"), (0, u "<init>"), (0, u "()V"), (0, .integer 2147483647), (0, .long 10), (1, .long 100), (1, .long 1000), (1, .long 10000), (1, .long 100000), (1, .long 1000000), (1, .long 10000000), (1, .long 100000000), (1, .long 1000000000), (1, .long 10000000000), (1, .long 100000000000), (1, .long 1000000000000), (1, .long 10000000000000), (1, .long 100000000000000), (1, .long 1000000000000000), (1, .long 10000000000000000), (1, .long 100000000000000000), (1, .long 1000000000000000000), (1, .class_ 45), (0, u "com/example/castwright/castwright/model/DecimalType"), (0, .methodref 44 47), (0, .nameAndType 5 48), (0, u "(II)V"), (0, .long 127), (1, .long 32767), (1, .long 2147483647), (1, .methodref 44 56), (0, .nameAndType 57 58), (0, u "width"), (0, u "()I"), (0, .class_ 60), (0, u "com/example/castwright/castwright/model/DecimalTypeWidthPinLaw"), (2, u "law"), (0, u "(II)Z")] 5

def k1m0 : Method := { name := "<init>", desc := "()V", sig := { parameters := [], returnType := none }, accessFlags := 2, code := none }
def k1c1 : Code := { maxStack := 5, maxLocals := 9, code := code, exceptionTable := #[], attributes := #[] }
def k1m1 : Method := { name := "law", desc := "(II)Z", sig := { parameters := [.int, .int], returnType := some .boolean }, accessFlags := 9, code := some k1c1 }
/-- com/example/castwright/castwright/model/DecimalTypeWidthPinLaw -/
def k1 : Class := { plain "com/example/castwright/castwright/model/DecimalTypeWidthPinLaw" (some 0) with
  accessFlags := 49
  interfaces := #[]
  cf := some (fileOf pool1 59 #[] #[{ accessFlags := 2, nameIndex := 5, descriptorIndex := 6, attributes := #[] }, { accessFlags := 9, nameIndex := 63, descriptorIndex := 64, attributes := #[] }] 49 2 #[] #[])
  fields := #[]
  methods := #[k1m0, k1m1]
  instanceTypes := #[]
  staticTypes := #[]
  resolved := Array.replicate 70 none
  statics := none }

def pool2 : Array CpInfo := pool [(1, .methodref 2 3), (0, .class_ 4), (0, .nameAndType 5 6), (0, u "java/lang/Object"), (0, u "<init>"), (0, u "()V"), (0, .class_ 8), (0, u "java/lang/Record")] 13

def k2c0 : Code := { maxStack := 1, maxLocals := 1, code := jdk_30_method_1_code, exceptionTable := #[], attributes := #[] }
def k2m0 : Method := { name := "<init>", desc := "()V", sig := { parameters := [], returnType := none }, accessFlags := 4, code := some k2c0 }
/-- java/lang/Record -/
def k2 : Class := { plain "java/lang/Record" (some 0) with
  accessFlags := 1057
  interfaces := #[]
  cf := some (fileOf pool2 7 #[] #[{ accessFlags := 4, nameIndex := 5, descriptorIndex := 6, attributes := #[] }] 1057 2 #[] #[])
  fields := #[]
  methods := #[k2m0]
  instanceTypes := #[]
  staticTypes := #[]
  resolved := Array.replicate 22 none
  statics := none }

def pool3 : Array CpInfo := pool [(1, .class_ 2), (0, u "com/example/castwright/castwright/model/Type"), (0, .class_ 4), (0, u "java/lang/Object")] 31

/-- com/example/castwright/castwright/model/Type -/
def k3 : Class := { plain "com/example/castwright/castwright/model/Type" (some 0) with
  accessFlags := 1537
  interfaces := #[]
  cf := some (fileOf pool3 1 #[] #[] 1537 3 #[] #[])
  fields := #[]
  methods := #[]
  instanceTypes := #[]
  staticTypes := #[]
  resolved := Array.replicate 36 none
  statics := none }

def pool4 : Array CpInfo := pool [(13, .methodref 14 15), (0, .class_ 16), (0, .nameAndType 17 18), (0, u "java/lang/Record"), (0, u "<init>"), (0, u "()V"), (0, .string 20), (0, u "a precision"), (0, .class_ 22), (0, u "com/example/castwright/castwright/model/DecimalType"), (0, .long 38), (1, .methodref 26 27), (0, .class_ 28), (0, .nameAndType 29 30), (0, u "com/example/castwright/castwright/model/Bounds"), (0, u "require"), (0, u "(Ljava/lang/String;JJJ)V"), (9, .fieldref 21 41), (0, .nameAndType 42 43), (0, u "precision"), (0, u "I"), (0, .fieldref 21 45), (0, .nameAndType 46 43), (0, u "scale"), (4, u "POWERS_OF_TEN"), (0, u "[Ljava/math/BigInteger;"), (20, u "LONG_POWERS_OF_TEN"), (0, u "[J"), (10, u "WIDE_POWERS_OF_TEN"), (0, u "[[J"), (2, u "WIDE_NEGATIVE_POWERS_OF_TEN"), (11, u "()I"), (80, .class_ 183), (0, u "com/example/castwright/castwright/model/Type"), (0, u "MAX_PRECISION"), (2, u "DEFAULT_PRECISION"), (1, u "(II)V"), (4, u "width")] 45

def k4c0 : Code := { maxStack := 7, maxLocals := 3, code := prog_40_method_1_code, exceptionTable := #[], attributes := #[] }
def k4m0 : Method := { name := "<init>", desc := "(II)V", sig := { parameters := [.int, .int], returnType := none }, accessFlags := 1, code := some k4c0 }
def k4c1 : Code := { maxStack := 2, maxLocals := 1, code := prog_40_method_3_code, exceptionTable := #[], attributes := #[] }
def k4m1 : Method := { name := "width", desc := "()I", sig := { parameters := [], returnType := some .int }, accessFlags := 1, code := some k4c1 }
/-- com/example/castwright/castwright/model/DecimalType -/
def k4 : Class := { plain "com/example/castwright/castwright/model/DecimalType" (some 2) with
  accessFlags := 49
  interfaces := #[3]
  cf := some (fileOf pool4 21 #[] #[{ accessFlags := 1, nameIndex := 17, descriptorIndex := 189, attributes := #[] }, { accessFlags := 1, nameIndex := 194, descriptorIndex := 101, attributes := #[] }] 49 14 #[182] #[{ accessFlags := 18, nameIndex := 42, descriptorIndex := 43, attributes := #[] }, { accessFlags := 18, nameIndex := 46, descriptorIndex := 43, attributes := #[] }, { accessFlags := 25, nameIndex := 184, descriptorIndex := 43, attributes := #[] }, { accessFlags := 25, nameIndex := 187, descriptorIndex := 43, attributes := #[] }, { accessFlags := 26, nameIndex := 51, descriptorIndex := 52, attributes := #[] }, { accessFlags := 26, nameIndex := 73, descriptorIndex := 74, attributes := #[] }, { accessFlags := 26, nameIndex := 85, descriptorIndex := 86, attributes := #[] }, { accessFlags := 26, nameIndex := 89, descriptorIndex := 86, attributes := #[] }])
  fields := #[{ name := "precision", type := .int, accessFlags := 18, slot := 0, constantValue := 0 }, { name := "scale", type := .int, accessFlags := 18, slot := 1, constantValue := 0 }, { name := "MAX_PRECISION", type := .int, accessFlags := 25, slot := 0, constantValue := 0 }, { name := "DEFAULT_PRECISION", type := .int, accessFlags := 25, slot := 1, constantValue := 0 }, { name := "POWERS_OF_TEN", type := (.array (.object "java/math/BigInteger")), accessFlags := 26, slot := 2, constantValue := 0 }, { name := "LONG_POWERS_OF_TEN", type := (.array .long), accessFlags := 26, slot := 3, constantValue := 0 }, { name := "WIDE_POWERS_OF_TEN", type := (.array (.array .long)), accessFlags := 26, slot := 4, constantValue := 0 }, { name := "WIDE_NEGATIVE_POWERS_OF_TEN", type := (.array (.array .long)), accessFlags := 26, slot := 5, constantValue := 0 }]
  methods := #[k4m0, k4m1]
  instanceTypes := #[.int, .int]
  staticTypes := #[.int, .int, (.array (.object "java/math/BigInteger")), (.array .long), (.array (.array .long)), (.array (.array .long))]
  resolved := Array.replicate 240 none
  statics := none }

def pool5 : Array CpInfo := pool [(1, .class_ 2), (0, u "java/io/Serializable"), (0, .class_ 4), (0, u "java/lang/Object")] 2

/-- java/io/Serializable -/
def k5 : Class := { plain "java/io/Serializable" (some 0) with
  accessFlags := 1537
  interfaces := #[]
  cf := some (fileOf pool5 1 #[] #[] 1537 3 #[] #[])
  fields := #[]
  methods := #[]
  instanceTypes := #[]
  staticTypes := #[]
  resolved := Array.replicate 7 none
  statics := none }

def pool6 : Array CpInfo := pool [(1, .class_ 2), (0, u "java/lang/Comparable"), (0, .class_ 4), (0, u "java/lang/Object")] 7

/-- java/lang/Comparable -/
def k6 : Class := { plain "java/lang/Comparable" (some 0) with
  accessFlags := 1537
  interfaces := #[]
  cf := some (fileOf pool6 1 #[] #[] 1537 3 #[] #[])
  fields := #[]
  methods := #[]
  instanceTypes := #[]
  staticTypes := #[]
  resolved := Array.replicate 12 none
  statics := none }

def pool7 : Array CpInfo := pool [(2, .class_ 4), (1, u "java/lang/CharSequence"), (42, .class_ 48), (0, u "java/lang/CharSequence$1CodePointIterator"), (10, .class_ 60), (0, u "java/lang/CharSequence$1CharIterator"), (5, .class_ 67), (0, u "java/lang/Object")] 63

/-- java/lang/CharSequence -/
def k7 : Class := { plain "java/lang/CharSequence" (some 0) with
  accessFlags := 1537
  interfaces := #[]
  cf := some (fileOf pool7 2 #[.nestMembers #[47, 59]] #[] 1537 66 #[] #[])
  fields := #[]
  methods := #[]
  instanceTypes := #[]
  staticTypes := #[]
  resolved := Array.replicate 131 none
  statics := none }

def pool8 : Array CpInfo := pool [(1, .class_ 2), (0, u "java/lang/constant/Constable"), (0, .class_ 4), (0, u "java/lang/Object")] 6

/-- java/lang/constant/Constable -/
def k8 : Class := { plain "java/lang/constant/Constable" (some 0) with
  accessFlags := 1537
  interfaces := #[]
  cf := some (fileOf pool8 1 #[] #[] 1537 3 #[] #[])
  fields := #[]
  methods := #[]
  instanceTypes := #[]
  staticTypes := #[]
  resolved := Array.replicate 11 none
  statics := none }

def pool9 : Array CpInfo := pool [(1, .class_ 2), (0, u "java/lang/constant/ConstantDesc"), (0, .class_ 4), (0, u "java/lang/Object")] 32

/-- java/lang/constant/ConstantDesc -/
def k9 : Class := { plain "java/lang/constant/ConstantDesc" (some 0) with
  accessFlags := 1537
  interfaces := #[]
  cf := some (fileOf pool9 1 #[] #[] 1537 3 #[] #[])
  fields := #[]
  methods := #[]
  instanceTypes := #[]
  staticTypes := #[]
  resolved := Array.replicate 37 none
  statics := none }

def pool10 : Array CpInfo := pool [(2, .class_ 4), (1, u "java/lang/Object"), (0, u "<init>"), (0, u "()V"), (3, .class_ 12), (1, u "java/lang/String"), (0, u "value"), (0, u "[B"), (2, u "coder"), (0, u "B"), (2, u "hash"), (0, u "I"), (2, u "hashIsZero"), (0, u "Z"), (13, u "COMPACT_STRINGS"), (534, .class_ 576), (0, u "java/lang/CharSequence"), (22, u "CASE_INSENSITIVE_ORDER"), (0, u "Ljava/util/Comparator;"), (500, u "serialPersistentFields"), (0, u "[Ljava/io/ObjectStreamField;"), (0, .class_ 1104), (0, u "java/lang/String$CaseInsensitiveComparator"), (1, .class_ 1107), (0, u "java/io/Serializable"), (0, .class_ 1109), (0, u "java/lang/Comparable"), (0, .class_ 1111), (0, u "java/lang/constant/Constable"), (0, .class_ 1113), (0, u "java/lang/constant/ConstantDesc"), (2, u "serialVersionUID"), (0, u "J"), (3, u "REPL"), (0, u "C"), (2, u "LATIN1"), (1, u "UTF16")] 323

def k10m0 : Method := { name := "<init>", desc := "()V", sig := { parameters := [], returnType := none }, accessFlags := 1, code := none }
/-- java/lang/String -/
def k10 : Class := { plain "java/lang/String" (some 0) with
  accessFlags := 49
  interfaces := #[5, 6, 7, 8, 9]
  cf := some (fileOf pool10 10 #[.nestMembers #[1103]] #[{ accessFlags := 1, nameIndex := 5, descriptorIndex := 6, attributes := #[] }] 49 2 #[1106, 1108, 575, 1110, 1112] #[{ accessFlags := 18, nameIndex := 13, descriptorIndex := 14, attributes := #[] }, { accessFlags := 18, nameIndex := 17, descriptorIndex := 18, attributes := #[] }, { accessFlags := 2, nameIndex := 21, descriptorIndex := 22, attributes := #[] }, { accessFlags := 2, nameIndex := 25, descriptorIndex := 26, attributes := #[] }, { accessFlags := 26, nameIndex := 1116, descriptorIndex := 1117, attributes := #[] }, { accessFlags := 24, nameIndex := 40, descriptorIndex := 26, attributes := #[] }, { accessFlags := 26, nameIndex := 1101, descriptorIndex := 1102, attributes := #[] }, { accessFlags := 26, nameIndex := 1121, descriptorIndex := 1122, attributes := #[] }, { accessFlags := 25, nameIndex := 599, descriptorIndex := 600, attributes := #[] }, { accessFlags := 24, nameIndex := 1125, descriptorIndex := 18, attributes := #[] }, { accessFlags := 24, nameIndex := 1127, descriptorIndex := 18, attributes := #[] }])
  fields := #[{ name := "value", type := (.array .byte), accessFlags := 18, slot := 0, constantValue := 0 }, { name := "coder", type := .byte, accessFlags := 18, slot := 1, constantValue := 0 }, { name := "hash", type := .int, accessFlags := 2, slot := 2, constantValue := 0 }, { name := "hashIsZero", type := .boolean, accessFlags := 2, slot := 3, constantValue := 0 }, { name := "serialVersionUID", type := .long, accessFlags := 26, slot := 0, constantValue := 0 }, { name := "COMPACT_STRINGS", type := .boolean, accessFlags := 24, slot := 1, constantValue := 0 }, { name := "serialPersistentFields", type := (.array (.object "java/io/ObjectStreamField")), accessFlags := 26, slot := 2, constantValue := 0 }, { name := "REPL", type := .char, accessFlags := 26, slot := 3, constantValue := 0 }, { name := "CASE_INSENSITIVE_ORDER", type := (.object "java/util/Comparator"), accessFlags := 25, slot := 4, constantValue := 0 }, { name := "LATIN1", type := .byte, accessFlags := 24, slot := 5, constantValue := 0 }, { name := "UTF16", type := .byte, accessFlags := 24, slot := 6, constantValue := 0 }]
  methods := #[k10m0]
  instanceTypes := #[(.array .byte), .byte, .int, .boolean]
  staticTypes := #[.long, .boolean, (.array (.object "java/io/ObjectStreamField")), .char, (.object "java/util/Comparator"), .byte, .byte]
  resolved := Array.replicate 1451 none
  statics := none }

def pool11 : Array CpInfo := pool [(2, .class_ 4), (1, u "java/lang/Object"), (0, u "<init>"), (0, u "()V"), (9, .class_ 17), (0, u "com/example/castwright/castwright/model/Bounds"), (2, u "require"), (0, u "(Ljava/lang/String;JJJ)V")] 18

def k11m0 : Method := { name := "<init>", desc := "()V", sig := { parameters := [], returnType := none }, accessFlags := 2, code := none }
def k11c1 : Code := { maxStack := 9, maxLocals := 7, code := prog_33_method_2_code, exceptionTable := #[], attributes := #[] }
def k11m1 : Method := { name := "require", desc := "(Ljava/lang/String;JJJ)V", sig := { parameters := [(.object "java/lang/String"), .long, .long, .long], returnType := none }, accessFlags := 8, code := some k11c1 }
/-- com/example/castwright/castwright/model/Bounds -/
def k11 : Class := { plain "com/example/castwright/castwright/model/Bounds" (some 0) with
  accessFlags := 48
  interfaces := #[]
  cf := some (fileOf pool11 16 #[] #[{ accessFlags := 2, nameIndex := 5, descriptorIndex := 6, attributes := #[] }, { accessFlags := 8, nameIndex := 20, descriptorIndex := 21, attributes := #[] }] 48 2 #[] #[])
  fields := #[]
  methods := #[k11m0, k11m1]
  instanceTypes := #[]
  staticTypes := #[]
  resolved := Array.replicate 40 none
  statics := none }

def pool12 : Array CpInfo := pool [(1, u "java/lang/Cloneable"), (0, .class_ 1), (0, u "java/lang/Object"), (0, .class_ 3)] 3

/-- java/lang/Cloneable -/
def k12 : Class := { plain "java/lang/Cloneable" (some 0) with
  accessFlags := 1537
  interfaces := #[]
  cf := some (fileOf pool12 2 #[] #[] 1537 4 #[] #[])
  fields := #[]
  methods := #[]
  instanceTypes := #[]
  staticTypes := #[]
  resolved := Array.replicate 8 none
  statics := none }

/-- the primitive byte -/
def k13 : Class := { plain "byte" none with kind := .primitive 'B', accessFlags := 0x411 }
/-- [B -/
def k14 : Class := { plain "[B" (some 0) with kind := .array 13 .byte, interfaces := #[12, 5], accessFlags := 1041 }

/-- the primitive int -/
def k15 : Class := { plain "int" none with kind := .primitive 'I', accessFlags := 0x411 }
/-- [I -/
def k16 : Class := { plain "[I" (some 0) with kind := .array 15 .int, interfaces := #[12, 5], accessFlags := 1041 }

/-- the primitive long -/
def k17 : Class := { plain "long" none with kind := .primitive 'J', accessFlags := 0x411 }
/-- [J -/
def k18 : Class := { plain "[J" (some 0) with kind := .array 17 .long, interfaces := #[12, 5], accessFlags := 1041 }

def heap : Heap := #[]
def classes : Array Class := #[k0, k1, k2, k3, k4, k5, k6, k7, k8, k9, k10, k11, k12, k13, k14, k15, k16, k17, k18]
def interned : List (Array UInt16 × Addr) := []
def slotsUsed : Nat := 0
def theMethod : MethodId := ⟨1, 1⟩
def args0 : Array Value := #[.int 5, .int 3]
def aboutOver (below : List Frame) : State where
  vm := { classes := classes, interned := interned.toArray }
  heap := heap
  slotsUsed := slotsUsed
  threads := #[{ frames := .invoking theMethod args0 :: below }]
def below0 : List Frame := [.native { method := ⟨0, 0⟩, args := #[] }]
def about1 : State := aboutOver below0
def p0 : Program := .bare "" "" ""
def e0 : Env := launch0.env 0 0 0
theorem w_frames : about1.frames = Frame.invoking theMethod args0 :: below0 := rfl
set_option maxRecDepth 65536 in
theorem w_args : argsFit about1.vm theMethod args0 = true := by decide +kernel
set_option maxRecDepth 65536 in
theorem w_heap : heapFits about1 = true := by decide +kernel
set_option maxRecDepth 65536 in
theorem w_runnable : about1.curStatus? = some .runnable := by decide +kernel
set_option maxRecDepth 65536 in
theorem w_alone : about1.alone = true := by decide +kernel
set_option maxRecDepth 65536 in
theorem w_named : about1.methodNamed? x = some theMethod := by decide +kernel
set_option maxRecDepth 65536 in
theorem w_hears : about1.hears theMethod below0 = true := by decide +kernel
set_option maxRecDepth 65536 in
theorem w_ripe : about1.ripe theMethod args0 below0 = true := by decide +kernel
theorem w_running : about1.status = .running := rfl
set_option maxRecDepth 65536 in
theorem w_room : about1.hasRoom e0.platform room_1 = true :=
  launch0.hasRoom_least _ room_1 (by decide +kernel) (by decide +kernel) (by decide +kernel) (by decide +kernel) (by decide +kernel) (by decide +kernel)
theorem allAtoms_all (ts : List Jvm.Cond) (a : Array Jvm.Value) (st : Jvm.State) : (allAtoms ts).before a st = ts.all (fun c => c.before a st) := by
  induction ts with
  | nil => rfl
  | cons c t ih =>
    show (Jvm.Cond.and c (allAtoms t)).before a st = _
    rw [Jvm.Cond.before_and, ih, List.all_cons]
def words1 : List Jvm.Cond := Jvm.Cond.code x code maxLocals ret :: tables_1
/-- a 'code' word, met by the world's own term for the bytes: nothing is compared byte by byte -/
theorem code_word {y : MethodName} {bytes : ByteArray} {mx : Nat} {rt : Option FieldType} {a : Array Value} {s : State} {m : MethodId} {meth : Method} {c : Code} (h1 : s.methodNamed? y = some m) (h2 : s.vm.method? m = some meth) (h3 : meth.code = some c) (h4 : c.code = bytes)
    (h5 : (c.maxLocals == mx && c.exceptionTable.isEmpty && decide (c.maxStack ≤ mostOperands) && decide (meth.sig.returnType = rt) && !meth.locks && decide (parseMethodDescriptor y.desc = some meth.sig)) = true) : (Jvm.Cond.code y bytes mx rt).before a s = true := by
  simp only [Bool.and_eq_true, beq_iff_eq, Bool.not_eq_true', decide_eq_true_eq] at h5
  obtain ⟨⟨⟨⟨⟨g1, g2⟩, g3⟩, g4⟩, g5⟩, g6⟩ := h5
  simp [Cond.before, Cond.holds, Cond.value, h1, h2, h3, h4, g1, g2, g3, g4, g5, g6]
def isCode : Jvm.Cond → Bool
  | .code _ _ _ _ => true
  | _ => false
theorem all_split {L : List Jvm.Cond} {P : Jvm.Cond → Bool} (h1 : L.all (fun c => isCode c || P c) = true) (h2 : ∀ c ∈ L.filter isCode, P c = true) : L.all P = true := by
  refine List.all_eq_true.mpr fun c hc => ?_
  have h := List.all_eq_true.mp h1 c hc
  rcases Bool.eq_false_or_eq_true (isCode c) with hi | hi
  · exact h2 c (List.mem_filter.mpr ⟨hc, hi⟩)
  · simpa [hi] using h
set_option maxRecDepth 65536 in
theorem w_c0 : (Jvm.Cond.code x code maxLocals ret).before args0 about1 = true := code_word (m := ⟨1, 1⟩) (meth := k1m1) (c := k1c1) (by decide +kernel) rfl rfl rfl (by decide +kernel)
set_option maxRecDepth 65536 in
theorem w_c1 : (Jvm.Cond.code ({ cls := "com/example/castwright/castwright/model/DecimalType", name := "<init>", desc := "(II)V" } : Jvm.MethodName) prog_40_method_1_code (3 : Nat) (Option.none : Option Jvm.ClassFile.FieldType)).before args0 about1 = true := code_word (m := ⟨4, 0⟩) (meth := k4m0) (c := k4c0) (by decide +kernel) rfl rfl rfl (by decide +kernel)
set_option maxRecDepth 65536 in
theorem w_c2 : (Jvm.Cond.code ({ cls := "java/lang/Record", name := "<init>", desc := "()V" } : Jvm.MethodName) jdk_30_method_1_code (1 : Nat) (Option.none : Option Jvm.ClassFile.FieldType)).before args0 about1 = true := code_word (m := ⟨2, 0⟩) (meth := k2m0) (c := k2c0) (by decide +kernel) rfl rfl rfl (by decide +kernel)
set_option maxRecDepth 65536 in
theorem w_c3 : (Jvm.Cond.code ({ cls := "java/lang/Object", name := "<init>", desc := "()V" } : Jvm.MethodName) object_method_1_code (1 : Nat) (Option.none : Option Jvm.ClassFile.FieldType)).before args0 about1 = true := code_word (m := ⟨0, 0⟩) (meth := k0m0) (c := k0c0) (by decide +kernel) rfl rfl rfl (by decide +kernel)
set_option maxRecDepth 65536 in
theorem w_c4 : (Jvm.Cond.code ({ cls := "com/example/castwright/castwright/model/Bounds", name := "require", desc := "(Ljava/lang/String;JJJ)V" } : Jvm.MethodName) prog_33_method_2_code (7 : Nat) (Option.none : Option Jvm.ClassFile.FieldType)).before args0 about1 = true := code_word (m := ⟨11, 1⟩) (meth := k11m1) (c := k11c1) (by decide +kernel) rfl rfl rfl (by decide +kernel)
set_option maxRecDepth 65536 in
theorem w_c5 : (Jvm.Cond.code ({ cls := "com/example/castwright/castwright/model/DecimalType", name := "width", desc := "()I" } : Jvm.MethodName) prog_40_method_3_code (1 : Nat) (Option.some Jvm.ClassFile.FieldType.int)).before args0 about1 = true := code_word (m := ⟨4, 1⟩) (meth := k4m1) (c := k4c1) (by decide +kernel) rfl rfl rfl (by decide +kernel)
def codes1 : List Jvm.Cond := [Jvm.Cond.code x code maxLocals ret, Jvm.Cond.code ({ cls := "com/example/castwright/castwright/model/DecimalType", name := "<init>", desc := "(II)V" } : Jvm.MethodName) prog_40_method_1_code (3 : Nat) (Option.none : Option Jvm.ClassFile.FieldType), Jvm.Cond.code ({ cls := "java/lang/Record", name := "<init>", desc := "()V" } : Jvm.MethodName) jdk_30_method_1_code (1 : Nat) (Option.none : Option Jvm.ClassFile.FieldType), Jvm.Cond.code ({ cls := "java/lang/Object", name := "<init>", desc := "()V" } : Jvm.MethodName) object_method_1_code (1 : Nat) (Option.none : Option Jvm.ClassFile.FieldType), Jvm.Cond.code ({ cls := "com/example/castwright/castwright/model/Bounds", name := "require", desc := "(Ljava/lang/String;JJJ)V" } : Jvm.MethodName) prog_33_method_2_code (7 : Nat) (Option.none : Option Jvm.ClassFile.FieldType), Jvm.Cond.code ({ cls := "com/example/castwright/castwright/model/DecimalType", name := "width", desc := "()I" } : Jvm.MethodName) prog_40_method_3_code (1 : Nat) (Option.some Jvm.ClassFile.FieldType.int)]
set_option maxRecDepth 65536 in
theorem codes_eq : words1.filter isCode = codes1 := rfl
theorem w_codes : ∀ c ∈ words1.filter isCode, c.before args0 about1 = true := by
  rw [codes_eq]
  intro c hc
  simp only [codes1, List.mem_cons, List.not_mem_nil, or_false] at hc
  rcases hc with rfl | rfl | rfl | rfl | rfl | rfl
  · exact w_c0
  · exact w_c1
  · exact w_c2
  · exact w_c3
  · exact w_c4
  · exact w_c5
set_option maxRecDepth 65536 in
theorem w_t1 : (words1.take 24).all (fun c => isCode c || c.before args0 about1) = true := by decide +kernel
set_option maxRecDepth 65536 in
theorem w_t2 : ((words1.drop 24).take 24).all (fun c => isCode c || c.before args0 about1) = true := by decide +kernel
set_option maxRecDepth 65536 in
theorem w_t3 : ((words1.drop 24).drop 24).all (fun c => isCode c || c.before args0 about1) = true := by decide +kernel
theorem w_tables : (allAtoms (Jvm.Cond.code x code maxLocals ret :: tables_1)).before args0 about1 = true := by
  rw [allAtoms_all]
  show words1.all (fun c => c.before args0 about1) = true
  refine all_split ?_ w_codes
  rw [← List.take_append_drop 24 words1, List.all_append, w_t1, ← List.take_append_drop 24 (words1.drop 24), List.all_append, w_t2, w_t3]
  rfl
set_option maxRecDepth 65536 in
theorem w_case : (Jvm.Cond.and given_1 narrow_1).before args0 about1 = true := by decide +kernel
theorem w_applies : (headSpec (Jvm.Cond.code x code maxLocals ret :: tables_1) room_1).applies x e0.platform about1 = true :=
  (Spec.applies_iff w_frames).mpr ⟨w_running, w_runnable, w_alone, w_named, w_hears, w_ripe, w_room, w_tables⟩
theorem atStart : AtStart classFile x code maxLocals ret World_1 tables_1 room_1 Calls_1 rest_1 Pre_1 launch0 p0 e0 about1 theMethod args0 below0 :=
  ⟨lists_1, trivial, launch0.admits_env _ _ _, launch0.least_env, fairChoices_fair.cas, fairChoices_fair.clock, w_frames, w_args, w_heap, w_applies, trivial, trivial, w_case⟩
end start1
theorem witness_1 : WitnessClaimed_1 := ⟨start1.p0, start1.e0, start1.about1, start1.theMethod, start1.args0, start1.below0, start1.atStart⟩
end Jvm.Pilot.@@N@@
