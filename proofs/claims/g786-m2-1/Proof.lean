import JvmDerived
import JvmDerived.Pilot.@@N@@Statement
import JvmDerived.Pilot.@@N@@Code
set_option linter.unusedVariables false
set_option linter.unusedSimpArgs false
namespace Jvm.RoadKit
open Sem ClassFile Op Lib Jvm.Stand Jvm.Free Jvm.LawKit
section Own
variable {p : Program} {l : Launch} {e : Env} {R : Room} {s : State} {m : MethodId} {args : Array Value} {below : List Frame} {meth : Method} {c : Code} {T : State} {locs : List Loc} {cells slots : Nat} {Q : Option Value → Heap → List Loc → Prop} {kc ks : Nat}
/-- the run from S comes to its end and leaves what Q says -/
def own_Fin (p : Program) (e : Env) (below : List Frame) (s : State) (kc ks : Nat) (Q : Option Value → Heap → List Loc → Prop) (S : State) : Prop :=
  ∃ U o, Steps p.tables e below S U ∧ U.status = .running ∧ Ended U below o ∧ ∃ v L, o = .returned v ∧ Q v U.heap L ∧ FrameEnd s o U L kc ks
theorem own_step {S S' : State} (h : ∀ t, Steps p.tables e below S' t → Steps p.tables e below S t) (k : own_Fin p e below s kc ks Q S') : own_Fin p e below s kc ks Q S := by
  obtain ⟨U, o, h1, r⟩ := k
  exact ⟨U, o, h _ h1, r⟩
theorem own_ret (X : Stand p l e R s m args below meth c T locs cells slots) (hlk : meth.locks = false) {v : Option Value} (hv : meth.sig.returnType = none → v = none) (hc : cells ≤ kc) (hs : slots ≤ ks) (hQ : Q v T.heap locs) {S : State}
    (hst : ∀ fs, (∀ (f : JFrame) (acts : List Action), f.method = m → f.locked = none → f.entered = [] → (doReturn e (T.setTop f) acts v).1 = T.setFrames fs) → Steps p.tables e below S (T.setFrames fs)) : own_Fin p e below s kc ks Q S := by
  obtain ⟨fs, hr, hrun, hended, hW, hsame⟩ := X.leave (v := v) hv hlk
  exact ⟨_, _, hst fs hr, hrun, hended, _, _, rfl, hQ, ⟨_, rfl⟩, hW, hsame.mono hc hs⟩
def own_FinW (p : Program) (e : Env) (below : List Frame) (s : State) (kc ks : Nat) (Q : Option Value → Heap → List Loc → Prop) (S : State) : Prop :=
  ∃ U o, Steps p.tables e below S U ∧ U.status = .running ∧ Ended U below o ∧ ∃ v L, o = .returned v ∧ Q v U.heap L ∧ ReturnedEndW s o U L kc ks
theorem own_stepW {S S' : State} (h : ∀ t, Steps p.tables e below S' t → Steps p.tables e below S t) (k : own_FinW p e below s kc ks Q S') : own_FinW p e below s kc ks Q S := by
  obtain ⟨U, o, h1, r⟩ := k
  exact ⟨U, o, h _ h1, r⟩
theorem own_retW {vm1 : Vm} (X : Stand p l e R (s.setVm vm1) m args below meth c T locs cells slots) (hlk : meth.locks = false) {n : Nat} (hS : s.Since vm1 n) {h : Heap} (eT : T.heap = h) (hn : n ≤ h.size) {v : Option Value} (hv : meth.sig.returnType = none → v = none) (hc : cells ≤ kc) (hs : slots ≤ ks) (hQ : Q v T.heap locs) {S : State}
    (hst : ∀ fs, (∀ (f : JFrame) (acts : List Action), f.method = m → f.locked = none → f.entered = [] → (doReturn e (T.setTop f) acts v).1 = T.setFrames fs) → Steps p.tables e below S (T.setFrames fs)) : own_FinW p e below s kc ks Q S := by
  obtain ⟨fs, hr, hrun, hended, hE⟩ := X.leaveW hS (by rw [eT]; exact hn) (v := v) hv hlk
  exact ⟨_, _, hst fs hr, hrun, hended, _, _, rfl, hQ, hE.1, hE.2.1, hE.2.2.1, hE.2.2.2.mono hc hs⟩
theorem own_castW {g g' : JFrame} (q : g = g') (k : own_FinW p e below s kc ks Q (T.setTop g')) : own_FinW p e below s kc ks Q (T.setTop g) := q ▸ k
theorem own_m0 : Jvm.Free.Fl.Mag64 1 FP.dconst0 := by unfold Jvm.Free.Fl.Mag64; decide
theorem own_mz : Jvm.Free.Fl.Mag64 1 (0 : UInt64) := by unfold Jvm.Free.Fl.Mag64; decide
theorem own_m1 : Jvm.Free.Fl.Mag64 1024 FP.dconst1 := by unfold Jvm.Free.Fl.Mag64; decide
/-- roads that meet again: what lies behind the meeting is walked once -/
theorem own_join {G : Prop} {F : State → Prop} (X : Stand p l e R s m args below meth c T locs cells slots) {h : Heap} (eT : T.heap = h) {β : Type} (g : β → JFrame) (hyp : β → Prop)
    (body : ∀ Tj : State, Stand p l e R s m args below meth c Tj locs cells slots → Tj.heap = h → ∀ b, hyp b → F (Tj.setTop (g b)))
    (cont : (∀ Tj : State, Stand p l e R s m args below meth c Tj locs cells slots → Tj.heap = h → ∀ b, hyp b → F (Tj.setTop (g b))) → G) : G := cont body
theorem own_ltn {n k j : Int32} (h : ¬ n < k) (q : j < k) : j < n := by
  rw [Int32.lt_iff_toInt_lt] at *
  omega
theorem own_cast {g g' : JFrame} (q : g = g') (k : own_Fin p e below s kc ks Q (T.setTop g')) : own_Fin p e below s kc ks Q (T.setTop g) := q ▸ k
theorem own_getJ {cl : Cell} {vs : List Int64} {j : Int32} (H : Has cl (vs.map Value.long) (.long 0)) (q : ¬ (j < 0 ∨ cl.slots.size ≤ j.toNatClampNeg)) : cl.slots[j.toNatClampNeg]? = some (.long (vs.getD j.toNatClampNeg 0)) := by
  refine Has.at H q ?_
  simp only [List.getD_eq_getElem?_getD, List.getElem?_map]
  cases vs[j.toNatClampNeg]? <;> rfl
def own_Nst (h : Heap) (x : Addr) : Prop := ∃ c : Cell, h[x]? = some c ∧ c.vm.isStatics = false
theorem own_nst_exa {Z : State} {h : Heap} {a : Addr} {C : String} (F : Exa Z h a C) : own_Nst h a := by
  obtain ⟨c, _, h1, _, _, h4, _⟩ := F
  exact ⟨c, h1, h4⟩
theorem own_nst_arv {Z : State} {h : Heap} {a : Addr} {k : ClassId} {ty : FieldType} {n : Int32} {vs : List Value} {d : Value} (F : Arv Z h a k ty n vs d) : own_Nst h a := by
  obtain ⟨c, A, _⟩ := F
  exact ⟨c, A.1, A.plain⟩
theorem own_sta_keep {Z : State} {h h' : Heap} {C n d : String} {v : Value} {ws : List Addr} (F : Sta Z h C n d v) (K : Keep h h' ws) (q : ∀ x ∈ ws, own_Nst h x) : Sta Z h' C n d v := by
  obtain ⟨cf, i, k, f, st, cell, h1, h2, h3, h4, h5, h6, h7⟩ := F
  refine ⟨cf, i, k, f, st, cell, h1, h2, h3, h4, K.2.1 _ _ h5 (fun z => ?_), h6, h7⟩
  obtain ⟨c, e1, e2⟩ := q _ z
  cases h5.symm.trans e1
  rw [h6] at e2
  cases e2
theorem own_sta_keep0 {Z : State} {h h' : Heap} {C n d : String} {v : Value} (F : Sta Z h C n d v) (K : Keep h h' []) : Sta Z h' C n d v := own_sta_keep F K (fun _ z => nomatch z)
end Own
section OwnStart
variable {args : Array Value} {Z : State} {t : Term} {a : Addr} {O n d : String}
theorem own_fldV {v : Value} (ev : t.eval args Z none [] Z = some (.ref a)) (h : (Term.field t O n d).eval args Z none [] Z = some v) : Fld Z Z.heap a O n d v := Fld.start ((fld_at ev).symm.trans h)
theorem own_len {cl : Cell} {ty : FieldType} {k : Int32} (ev : t.eval args Z none [] Z = some (.ref a)) (A : Arr Z Z.heap a cl ty) (h : (Cond.eq (.length t) (.int k)).value args Z none Z [] = some true) : cl.slots.size < 2 ^ 31 ∧ cl.slots.size.toInt32 = k := by
  have e := eqv_i (y := k) rfl h
  have ha := A.fin (Vm.Alike.refl _)
  by_cases q : cl.slots.size < 2 ^ 31
  · exact ⟨q, Value.int.inj (Option.some.inj ((len_f ev ha q).symm.trans e))⟩
  · simp [Term.eval, ev, ha, q] at e
theorem own_elI {cl : Cell} {ty : FieldType} {i k : Int32} (ev : t.eval args Z none [] Z = some (.ref a)) (A : Arr Z Z.heap a cl ty) (hi : ¬ i < 0) (h : (Cond.eq (.elem t (.int i)) (.int k)).value args Z none Z [] = some true) : cl.slots[i.toNatClampNeg]? = some (.int k) :=
  (elem_f ev rfl (A.fin (Vm.Alike.refl _)) hi).symm.trans (eqv_i (y := k) rfl h)
theorem own_elJ {cl : Cell} {ty : FieldType} {i : Int32} {k : Int64} (ev : t.eval args Z none [] Z = some (.ref a)) (A : Arr Z Z.heap a cl ty) (hi : ¬ i < 0) (h : (Cond.eq (.elem t (.int i)) (.long k)).value args Z none Z [] = some true) : cl.slots[i.toNatClampNeg]? = some (.long k) :=
  (elem_f ev rfl (A.fin (Vm.Alike.refl _)) hi).symm.trans (eqv_l (y := k) rfl h)
end OwnStart
end Jvm.RoadKit
namespace Jvm.Pilot.@@N@@
open Jvm Jvm.ClassFile Sem Op Lib Jvm.Free Jvm.Stand Jvm.LawKit Jvm.RoadKit Bundle Jvm.Pilot.@@N@@.Jvm.D
theorem own_w {ts : List Jvm.Cond} {Z : State} {a0 : Array Value} (hw : ∀ d ∈ ts, d.before a0 Z = true) (i : Nat) {d : Jvm.Cond} (h : ts[i]? = some d) : d.before a0 Z = true := hw d (List.mem_of_getElem? h)
abbrev own_N (p0 : Int32) : Int32 := ((1 : Int32) + ((p0 &&& (2147483647 : Int32)) % (38 : Int32)))
theorem own_n (x : Int32) : 1 ≤ (own_N x).toInt ∧ (own_N x).toInt ≤ 38 := by
  have h1 : (x &&& (2147483647 : Int32)).toInt = x.toInt % 2147483648 := c_mask x _ 31 (by decide) (by decide)
  have h2 := (c_irem (x &&& (2147483647 : Int32)) (38 : Int32) 38 (by decide)).1 (by omega)
  have h3 := c_iadd 1 ((x &&& (2147483647 : Int32)) % (38 : Int32))
  have h4 : (1 : Int32).toInt = 1 := by decide
  have h5 := rng32 (own_N x)
  unfold own_N at *
  omega
theorem own_n0 (x : Int32) : 0 ≤ (own_N x).toInt := Int.le_trans (by decide) (own_n x).1
theorem own_n1 (x : Int32) : (own_N x + (1 : Int32)).toInt = (own_N x).toInt + 1 := by
  have h1 := own_n x
  have h3 := c_iadd (own_N x) 1
  have h4 : (1 : Int32).toInt = 1 := by decide
  have h5 := rng32 (own_N x + 1)
  omega
theorem own_nz (x : Int32) : own_N x + (1 : Int32) ≠ 0 := fun q => by
  have h1 := own_n1 x
  have h2 := own_n x
  rw [q] at h1
  have : (0 : Int32).toInt = 0 := by decide
  omega
theorem own_m (x y : Int32) : 0 ≤ ((y &&& (2147483647 : Int32)) % (own_N x + (1 : Int32))).toInt ∧ ((y &&& (2147483647 : Int32)) % (own_N x + (1 : Int32))).toInt ≤ (own_N x).toInt := by
  have h1 : (y &&& (2147483647 : Int32)).toInt = y.toInt % 2147483648 := c_mask y _ 31 (by decide) (by decide)
  have h2 := own_n1 x
  have h3 := own_n x
  have h4 := (c_iremV (y &&& (2147483647 : Int32)) (own_N x + (1 : Int32))).1 (by omega) (by omega)
  omega
theorem own_q1 (x : Int32) : ¬ (lcmpW ((own_N x).toInt64) (1 : Int64) < (0 : Int32)) := by
  rw [lw_lt, Int64.lt_iff_toInt_lt, c_i2l, show (1 : Int64).toInt = 1 from by decide]
  have := own_n x
  omega
theorem own_q2 (x : Int32) : ¬ ((0 : Int32) < lcmpW ((own_N x).toInt64) (38 : Int64)) := by
  rw [lw_gt, Int64.lt_iff_toInt_lt, c_i2l, show (38 : Int64).toInt = 38 from by decide]
  have := own_n x
  omega
theorem own_q3 (x y : Int32) : ¬ (((y &&& (2147483647 : Int32)) % (own_N x + (1 : Int32))) < (0 : Int32)) := by
  rw [Int32.lt_iff_toInt_lt, show (0 : Int32).toInt = 0 from by decide]
  have := own_m x y
  omega
theorem own_q4 (x y : Int32) : ¬ (own_N x < ((y &&& (2147483647 : Int32)) % (own_N x + (1 : Int32)))) := by
  rw [Int32.lt_iff_toInt_lt]
  have := own_m x y
  omega
theorem own_of (n : Int32) (h0 : 0 ≤ n.toInt) : Int32.ofNat n.toInt.toNat = n := by
  have := rng32 n
  apply Int32.toInt_inj.mp
  rw [Int32.toInt_ofNat_of_lt (by omega)]
  omega
theorem own_sa {Z : State} {a0 : Array Value} (hw : ∀ d ∈ tables_1, d.before a0 Z = true) : ∀ a ∈ Bundle.stringAtoms, a.before a0 Z = true := by
  intro a ha
  simp only [Bundle.stringAtoms, List.mem_cons, List.not_mem_nil, or_false] at ha
  rcases ha with rfl | rfl | rfl | rfl | rfl | rfl | rfl
  · exact (own_w hw 16 rfl)
  · exact (own_w hw 17 rfl)
  · exact (own_w hw 18 rfl)
  · exact (own_w hw 19 rfl)
  · exact (own_w hw 20 rfl)
  · exact (own_w hw 21 rfl)
  · exact (own_w hw 22 rfl)
theorem own_d1_0 : decode jdk_30_method_1_code 0 = .ok (.aload_n 0, 1) := by decide +kernel
theorem own_d1_1 : decode jdk_30_method_1_code 1 = .ok (.invokespecial 1, 3) := by decide +kernel
theorem own_d1_4 : decode jdk_30_method_1_code 4 = .ok (.return_, 1) := by decide +kernel
theorem own_pn0 : plainName "java/lang/Record" = true := by first | (simp [plainName, overriddenIn]; done) | decide +kernel
theorem own_ef1 (m : MethodId) (ad0 : Addr) : entryFrame m #[(.ref ad0)] 1 = mkF m 0 #[.val (.ref ad0)] [] := by first | (simp [entryFrame, mkF, argsToLocals, Value.category]; done) | rfl
def own_Q1 (Z : State) (ad0 : Addr) (h0 : Heap) (n0 : Nat) (v : Option Value) (h : Heap) (L : List Loc) : Prop := v = none ∧ Fr n0 L ∧ h = h0
set_option maxRecDepth 65536 in
set_option maxHeartbeats 40000000 in
theorem own_rm1 (l : Launch) (Z : State) (a0 : Array Value) (hw : ∀ d ∈ tables_1, d.before a0 Z = true) (ws : List Jvm.Cond) (ad0 : Addr) (h0 : Heap) (n0 : Nat) (Z0 : n0 ≤ h0.size) :
    MetFree l (⟨"java/lang/Record", "<init>", "()V"⟩ : MethodName) (head1 (Jvm.Cond.code (⟨"java/lang/Record", "<init>", "()V"⟩ : MethodName) jdk_30_method_1_code 1 none :: ws) ({ frames := 1, cells := 0, slots := 0, locals := 12 } : Room)) (fun a U => a = #[(.ref ad0)] ∧ Z.Warmed39 U.vm ∧ U.heap = h0) (fun _ _ _ _ _ => True) (fun _ U o U' => ∃ v L, o = .returned v ∧ own_Q1 Z ad0 h0 n0 v U'.heap L ∧ FrameEnd U o U' L ({ frames := 1, cells := 0, slots := 0, locals := 12 } : Room).cells ({ frames := 1, cells := 0, slots := 0, locals := 12 } : Room).slots) := by
  refine MetFree.of_bodySF (plainFor_of_name own_pn0) hisR ?_
  intro p e s m args below meth c s₁ Bd hml0 hP hK
  obtain ⟨rfl, hZ, hh⟩ := hP
  have hx := Bd.exec
  have hby := Bd.bytes
  have hlk := Bd.notSynchronized
  have hml : c.maxLocals = 1 := hml0
  have hown : s.vm.findClass "java/lang/Record" = some m.cls := findClass_of_methodNamed Bd.named
  have hnm := (name_of_methodNamed Bd.named Bd.method).1
  have X0 : Stand p l e ({ frames := 1, cells := 0, slots := 0, locals := 12 } : Room) s m #[(.ref ad0)] below meth c s₁ [] 0 0 := Stand.of_body Bd
  have e0 : s₁.heap = h0 := by rw [← hh, Bd.state]; rfl
  have N0 := Fr.nil n0
  have KR : Keep h0 h0 [] := Keep.refl _ _
  show own_Fin p e below s ({ frames := 1, cells := 0, slots := 0, locals := 12 } : Room).cells ({ frames := 1, cells := 0, slots := 0, locals := 12 } : Room).slots (own_Q1 Z ad0 h0 n0) (s₁.setTop (entryFrame m #[(.ref ad0)] 1))
  refine own_cast (own_ef1 m ad0) ?_
  refine own_step (fun _ k => XS.aloadN X0.here hx rfl (hb hby own_d1_0) rfl rfl k) ?_
  show own_Fin p e below s _ _ _ (s₁.setTop (mkF m 1 #[.val (.ref ad0)] [(.ref ad0)]))
  obtain ⟨T1, X1, e1, st1⟩ := initO X0 hx hZ hown (own_w hw 12 rfl) (own_w hw 13 rfl) (own_w hw 14 rfl) e0 (g := (mkF m 1 #[.val (.ref ad0)] [(.ref ad0)])) rfl (by rw [hml]; rfl) rfl (hb hby own_d1_1) (by decide) (W := 0) (by show 2 * 0 + _ ≤ _; exact Nat.le_of_eq rfl) (by decide)
  refine own_step st1 ?_
  show own_Fin p e below s _ _ _ (T1.setTop (mkF m 4 #[.val (.ref ad0)] []))
  exact own_ret X1 hlk (v := none) (fun _ => rfl) (by decide) (by decide) (by show own_Q1 Z ad0 h0 n0 _ T1.heap _; rw [e1]; exact ⟨rfl, N0, rfl⟩) (fun fs hr => X1.returnOut hx Bd.returns (hb hby own_d1_4) hr)

theorem own_d2_0 : decode prog_33_method_2_code 0 = .ok (.lload_n 1, 1) := by decide +kernel
theorem own_d2_1 : decode prog_33_method_2_code 1 = .ok (.lload_n 3, 1) := by decide +kernel
theorem own_d2_2 : decode prog_33_method_2_code 2 = .ok (.lcmp, 1) := by decide +kernel
theorem own_d2_3 : decode prog_33_method_2_code 3 = .ok (.ifCond .lt 10, 3) := by decide +kernel
theorem own_d2_6 : decode prog_33_method_2_code 6 = .ok (.lload_n 1, 1) := by decide +kernel
theorem own_d2_7 : decode prog_33_method_2_code 7 = .ok (.lload 5, 2) := by decide +kernel
theorem own_d2_9 : decode prog_33_method_2_code 9 = .ok (.lcmp, 1) := by decide +kernel
theorem own_d2_10 : decode prog_33_method_2_code 10 = .ok (.ifCond .le 21, 3) := by decide +kernel
theorem own_d2_31 : decode prog_33_method_2_code 31 = .ok (.return_, 1) := by decide +kernel
theorem own_pn1 : plainName "com/example/castwright/castwright/model/Bounds" = true := by first | (simp [plainName, overriddenIn]; done) | decide +kernel
theorem own_ef2 (m : MethodId) (ad0 : Addr) (q1 : Int64) (q2 : Int64) (q3 : Int64) : entryFrame m #[(.ref ad0), (.long q1), (.long q2), (.long q3)] 7 = mkF m 0 #[.val (.ref ad0), .val (.long q1), .second, .val (.long q2), .second, .val (.long q3), .second] [] := by first | (simp [entryFrame, mkF, argsToLocals, Value.category]; done) | rfl
def own_Q2 (Z : State) (ad0 : Addr) (q1 : Int64) (q2 : Int64) (q3 : Int64) (h0 : Heap) (n0 : Nat) (v : Option Value) (h : Heap) (L : List Loc) : Prop := v = none ∧ Fr n0 L ∧ h = h0
set_option maxRecDepth 65536 in
set_option maxHeartbeats 40000000 in
theorem own_rm2 (l : Launch) (Z : State) (a0 : Array Value) (hw : ∀ d ∈ tables_1, d.before a0 Z = true) (ws : List Jvm.Cond) (ad0 : Addr) (q1 : Int64) (q2 : Int64) (q3 : Int64) (h0 : Heap) (n0 : Nat) (Z0 : n0 ≤ h0.size) (hc3 : ¬ ((lcmpW q1 q2) < (0 : Int32))) (hc10 : ¬ ((0 : Int32) < (lcmpW q1 q3))) :
    MetFree l (⟨"com/example/castwright/castwright/model/Bounds", "require", "(Ljava/lang/String;JJJ)V"⟩ : MethodName) (head1 (Jvm.Cond.code (⟨"com/example/castwright/castwright/model/Bounds", "require", "(Ljava/lang/String;JJJ)V"⟩ : MethodName) prog_33_method_2_code 7 none :: ws) ({ frames := 0, cells := 0, slots := 0, locals := 0 } : Room)) (fun a U => a = #[(.ref ad0), (.long q1), (.long q2), (.long q3)] ∧ Z.Warmed39 U.vm ∧ U.heap = h0) (fun _ _ _ _ _ => True) (fun _ U o U' => ∃ v L, o = .returned v ∧ own_Q2 Z ad0 q1 q2 q3 h0 n0 v U'.heap L ∧ FrameEnd U o U' L ({ frames := 0, cells := 0, slots := 0, locals := 0 } : Room).cells ({ frames := 0, cells := 0, slots := 0, locals := 0 } : Room).slots) := by
  refine MetFree.of_bodySF (plainFor_of_name own_pn1) hisR ?_
  intro p e s m args below meth c s₁ Bd hml0 hP hK
  obtain ⟨rfl, hZ, hh⟩ := hP
  have hx := Bd.exec
  have hby := Bd.bytes
  have hlk := Bd.notSynchronized
  have hml : c.maxLocals = 7 := hml0
  have hown : s.vm.findClass "com/example/castwright/castwright/model/Bounds" = some m.cls := findClass_of_methodNamed Bd.named
  have hnm := (name_of_methodNamed Bd.named Bd.method).1
  have X0 : Stand p l e ({ frames := 0, cells := 0, slots := 0, locals := 0 } : Room) s m #[(.ref ad0), (.long q1), (.long q2), (.long q3)] below meth c s₁ [] 0 0 := Stand.of_body Bd
  have e0 : s₁.heap = h0 := by rw [← hh, Bd.state]; rfl
  have N0 := Fr.nil n0
  have KR : Keep h0 h0 [] := Keep.refl _ _
  show own_Fin p e below s ({ frames := 0, cells := 0, slots := 0, locals := 0 } : Room).cells ({ frames := 0, cells := 0, slots := 0, locals := 0 } : Room).slots (own_Q2 Z ad0 q1 q2 q3 h0 n0) (s₁.setTop (entryFrame m #[(.ref ad0), (.long q1), (.long q2), (.long q3)] 7))
  refine own_cast (own_ef2 m ad0 q1 q2 q3) ?_
  refine own_step (fun _ k => XS.lloadN X0.here hx rfl (hb hby own_d2_0) rfl k) ?_
  show own_Fin p e below s _ _ _ (s₁.setTop (mkF m 1 #[.val (.ref ad0), .val (.long q1), .second, .val (.long q2), .second, .val (.long q3), .second] [(.long q1)]))
  refine own_step (fun _ k => XS.lloadN X0.here hx rfl (hb hby own_d2_1) rfl k) ?_
  show own_Fin p e below s _ _ _ (s₁.setTop (mkF m 2 #[.val (.ref ad0), .val (.long q1), .second, .val (.long q2), .second, .val (.long q3), .second] [(.long q2), (.long q1)]))
  refine own_step (fun _ k => XS.lcmp X0.here hx rfl (hb hby own_d2_2) rfl k) ?_
  show own_Fin p e below s _ _ _ (s₁.setTop (mkF m 3 #[.val (.ref ad0), .val (.long q1), .second, .val (.long q2), .second, .val (.long q3), .second] [(.int (lcmpW q1 q2))]))
  refine own_step (fun _ k => XS.ifNo X0.here hx rfl (hb hby own_d2_3) rfl ((if0 _ _).trans (flt hc3).1) k) ?_
  show own_Fin p e below s _ _ _ (s₁.setTop (mkF m 6 #[.val (.ref ad0), .val (.long q1), .second, .val (.long q2), .second, .val (.long q3), .second] []))
  refine own_step (fun _ k => XS.lloadN X0.here hx rfl (hb hby own_d2_6) rfl k) ?_
  show own_Fin p e below s _ _ _ (s₁.setTop (mkF m 7 #[.val (.ref ad0), .val (.long q1), .second, .val (.long q2), .second, .val (.long q3), .second] [(.long q1)]))
  refine own_step (fun _ k => XS.lload X0.here hx rfl (hb hby own_d2_7) rfl k) ?_
  show own_Fin p e below s _ _ _ (s₁.setTop (mkF m 9 #[.val (.ref ad0), .val (.long q1), .second, .val (.long q2), .second, .val (.long q3), .second] [(.long q3), (.long q1)]))
  refine own_step (fun _ k => XS.lcmp X0.here hx rfl (hb hby own_d2_9) rfl k) ?_
  show own_Fin p e below s _ _ _ (s₁.setTop (mkF m 10 #[.val (.ref ad0), .val (.long q1), .second, .val (.long q2), .second, .val (.long q3), .second] [(.int (lcmpW q1 q3))]))
  refine own_step (fun _ k => XS.ifYes X0.here hx rfl (pc0 := 10) (pc' := 31) rfl (hb hby own_d2_10) rfl ((if0 _ _).trans (flt hc10).2.2.2) (by decide) (by decide) k) ?_
  show own_Fin p e below s _ _ _ (s₁.setTop (mkF m 31 #[.val (.ref ad0), .val (.long q1), .second, .val (.long q2), .second, .val (.long q3), .second] []))
  exact own_ret X0 hlk (v := none) (fun _ => rfl) (by decide) (by decide) (by show own_Q2 Z ad0 q1 q2 q3 h0 n0 _ s₁.heap _; rw [e0]; exact ⟨rfl, N0, rfl⟩) (fun fs hr => X0.returnOut hx Bd.returns (hb hby own_d2_31) hr)

theorem own_pd0 : parseMethodDescriptor "()V" = some ⟨[], none⟩ := by decide +kernel
abbrev own_y0 : MethodName := (⟨"java/lang/Record", "<init>", "()V"⟩ : MethodName)
theorem own_pd1 : parseMethodDescriptor "(Ljava/lang/String;JJJ)V" = some ⟨[(.object "java/lang/String"), .long, .long, .long], none⟩ := by decide +kernel
abbrev own_y1 : MethodName := (⟨"com/example/castwright/castwright/model/Bounds", "require", "(Ljava/lang/String;JJJ)V"⟩ : MethodName)
theorem own_d3_0 : decode prog_40_method_1_code 0 = .ok (.aload_n 0, 1) := by decide +kernel
theorem own_d3_1 : decode prog_40_method_1_code 1 = .ok (.invokespecial 13, 3) := by decide +kernel
theorem own_d3_4 : decode prog_40_method_1_code 4 = .ok (.ldc 19, 2) := by decide +kernel
theorem own_d3_6 : decode prog_40_method_1_code 6 = .ok (.iload_n 1, 1) := by decide +kernel
theorem own_d3_7 : decode prog_40_method_1_code 7 = .ok (.i2l, 1) := by decide +kernel
theorem own_d3_8 : decode prog_40_method_1_code 8 = .ok (.lconst 1, 1) := by decide +kernel
theorem own_d3_9 : decode prog_40_method_1_code 9 = .ok (.ldc2_w 23, 3) := by decide +kernel
theorem own_d3_12 : decode prog_40_method_1_code 12 = .ok (.invokestatic 25, 3) := by decide +kernel
theorem own_d3_15 : decode prog_40_method_1_code 15 = .ok (.iload_n 2, 1) := by decide +kernel
theorem own_d3_16 : decode prog_40_method_1_code 16 = .ok (.ifCond .lt 8, 3) := by decide +kernel
theorem own_d3_19 : decode prog_40_method_1_code 19 = .ok (.iload_n 2, 1) := by decide +kernel
theorem own_d3_20 : decode prog_40_method_1_code 20 = .ok (.iload_n 1, 1) := by decide +kernel
theorem own_d3_21 : decode prog_40_method_1_code 21 = .ok (.if_icmp .le 18, 3) := by decide +kernel
theorem own_d3_39 : decode prog_40_method_1_code 39 = .ok (.aload_n 0, 1) := by decide +kernel
theorem own_d3_40 : decode prog_40_method_1_code 40 = .ok (.iload_n 1, 1) := by decide +kernel
theorem own_d3_41 : decode prog_40_method_1_code 41 = .ok (.putfield 40, 3) := by decide +kernel
theorem own_d3_44 : decode prog_40_method_1_code 44 = .ok (.aload_n 0, 1) := by decide +kernel
theorem own_d3_45 : decode prog_40_method_1_code 45 = .ok (.iload_n 2, 1) := by decide +kernel
theorem own_d3_46 : decode prog_40_method_1_code 46 = .ok (.putfield 44, 3) := by decide +kernel
theorem own_d3_49 : decode prog_40_method_1_code 49 = .ok (.return_, 1) := by decide +kernel
theorem own_pn2 : plainName "com/example/castwright/castwright/model/DecimalType" = true := by first | (simp [plainName, overriddenIn]; done) | decide +kernel
theorem own_ef3 (m : MethodId) (ad0 : Addr) (p1 : Int32) (p2 : Int32) : entryFrame m #[(.ref ad0), (.int p1), (.int p2)] 3 = mkF m 0 #[.val (.ref ad0), .val (.int p1), .val (.int p2)] [] := by first | (simp [entryFrame, mkF, argsToLocals, Value.category]; done) | rfl
def own_Q3 (Z : State) (ad0 : Addr) (p1 : Int32) (p2 : Int32) (uprecision_ad0 : Value) (uscale_ad0 : Value) (h0 : Heap) (n0 : Nat) (v : Option Value) (h : Heap) (L : List Loc) : Prop := Fr n0 L ∧ Keep h0 h [ad0] ∧ v = none ∧ Exa Z h ad0 "com/example/castwright/castwright/model/DecimalType" ∧ Fld Z h ad0 "com/example/castwright/castwright/model/DecimalType" "precision" "I" (.int p1) ∧ Fld Z h ad0 "com/example/castwright/castwright/model/DecimalType" "scale" "I" (.int p2)
set_option maxRecDepth 65536 in
set_option maxHeartbeats 40000000 in
theorem own_rm3 (l : Launch) (Z : State) (a0 : Array Value) (hw : ∀ d ∈ tables_1, d.before a0 Z = true) (ws : List Jvm.Cond) (ad0 : Addr) (p1 : Int32) (p2 : Int32) (uprecision_ad0 : Value) (uscale_ad0 : Value) (h0 : Heap) (n0 : Nat) (Z0 : n0 ≤ h0.size) (E_ad0 : Exa Z h0 ad0 "com/example/castwright/castwright/model/DecimalType") (F_precision_ad0 : Fld Z h0 ad0 "com/example/castwright/castwright/model/DecimalType" "precision" "I" uprecision_ad0) (F_scale_ad0 : Fld Z h0 ad0 "com/example/castwright/castwright/model/DecimalType" "scale" "I" uscale_ad0) (hc3_12 : ¬ ((lcmpW (p1.toInt64) (1 : Int64)) < (0 : Int32))) (hc10_12 : ¬ ((0 : Int32) < (lcmpW (p1.toInt64) (38 : Int64)))) (hc16 : ¬ (p2 < (0 : Int32))) (hc21 : ¬ (p1 < p2)) (g_ad0 : n0 ≤ ad0) :
    MetFree l (⟨"com/example/castwright/castwright/model/DecimalType", "<init>", "(II)V"⟩ : MethodName) (head1 (Jvm.Cond.code (⟨"com/example/castwright/castwright/model/DecimalType", "<init>", "(II)V"⟩ : MethodName) prog_40_method_1_code 3 none :: ws) ({ frames := 2, cells := 2, slots := 48, locals := 24 } : Room)) (fun a U => a = #[(.ref ad0), (.int p1), (.int p2)] ∧ Z.Warmed39 U.vm ∧ U.heap = h0) (fun _ _ _ _ _ => True) (fun _ U o U' => ∃ v L, o = .returned v ∧ own_Q3 Z ad0 p1 p2 uprecision_ad0 uscale_ad0 h0 n0 v U'.heap L ∧ ReturnedEndW U o U' L ({ frames := 2, cells := 2, slots := 48, locals := 24 } : Room).cells ({ frames := 2, cells := 2, slots := 48, locals := 24 } : Room).slots) := by
  refine MetFree.of_bodySF (plainFor_of_name own_pn2) hisR ?_
  intro p e s m args below meth c s₁ Bd hml0 hP hK
  obtain ⟨rfl, hZ, hh⟩ := hP
  have hx := Bd.exec
  have hby := Bd.bytes
  have hlk := Bd.notSynchronized
  have hml : c.maxLocals = 3 := hml0
  have hown : s.vm.findClass "com/example/castwright/castwright/model/DecimalType" = some m.cls := findClass_of_methodNamed Bd.named
  have hnm := (name_of_methodNamed Bd.named Bd.method).1
  have X0 : Stand p l e ({ frames := 2, cells := 2, slots := 48, locals := 24 } : Room) (s.setVm s.vm) m #[(.ref ad0), (.int p1), (.int p2)] below meth c s₁ [] 0 0 := Stand.of_body Bd
  have e0 : s₁.heap = h0 := by rw [← hh, Bd.state]; rfl
  have N0 := Fr.nil n0
  have KR : Keep h0 h0 [ad0] := Keep.refl _ _
  have hS0 : s.Since s.vm h0.size := (State.WarmedH.refl s).since _
  have hk0 : h0.size ≤ h0.size := Nat.le_refl _
  show own_FinW p e below s ({ frames := 2, cells := 2, slots := 48, locals := 24 } : Room).cells ({ frames := 2, cells := 2, slots := 48, locals := 24 } : Room).slots (own_Q3 Z ad0 p1 p2 uprecision_ad0 uscale_ad0 h0 n0) (s₁.setTop (entryFrame m #[(.ref ad0), (.int p1), (.int p2)] 3))
  refine own_castW (own_ef3 m ad0 p1 p2) ?_
  refine own_stepW (fun _ k => XS.aloadN X0.here hx rfl (hb hby own_d3_0) rfl rfl k) ?_
  show own_FinW p e below s _ _ _ (s₁.setTop (mkF m 1 #[.val (.ref ad0), .val (.int p1), .val (.int p2)] [(.ref ad0)]))
  obtain ⟨_, _, ⟨T1, L1, k1, n1⟩, -, X1, ⟨Lc1, hQ1, l1, y1, z1⟩, st1⟩ := X0.specialBack hx (y := own_y0) rfl hown (mvT hZ (own_w hw 7 rfl)) (mvT hZ (own_w hw 8 rfl)) (mvT hZ (own_w hw 11 rfl)) (by decide) (backOf (W := 0) (own_rm1 l Z a0 hw [] ad0 h0 n0 Z0 ) hZ (own_w hw 11 rfl) (own_w hw 10 rfl) (by decide) (by decide)) (g := (mkF m 1 #[.val (.ref ad0), .val (.int p1), .val (.int p2)] [(.ref ad0)])) rfl (by rw [hml]; rfl) (Steps.refl _) (a := ad0) (argsL := []) (rest := []) (lenOf own_pd0 rfl) rfl (by show 2 * 0 + _ ≤ _; exact Nat.le_of_eq rfl) (hb hby own_d3_1) (fun _ _ => ⟨rfl, e0, (by decide : 0 + 0 ≤ _), (by decide : 0 + 0 ≤ _)⟩)
  dsimp only [Pt.U, Pt.locs, Pt.cells, Pt.slots] at X1 l1 y1 z1 st1 hQ1
  subst l1 y1 z1
  obtain ⟨rfl, N1q, e1⟩ := hQ1
  have N1 := Fr.app N0 N1q
  refine own_stepW (fun _ k => st1.trans k) ?_
  show own_FinW p e below s _ _ _ (T1.setTop (mkF m 4 #[.val (.ref ad0), .val (.int p1), .val (.int p2)] []))
  obtain ⟨a2, T2, h2, kb2, X2, e2, E2, hS2, hk2, hZ2, hown2, st2⟩ := ldcS X1 hx hZ hown (own_w hw 15 rfl) (own_sa hw) e1 hS0 hk0 (g := (mkF m 4 #[.val (.ref ad0), .val (.int p1), .val (.int p2)] [])) rfl (hb hby own_d3_4) (n := 44) (by decide +kernel) (by decide) (by decide) (by decide)
  have K2 : Keep h0 h2 [ad0] := KR.ext E2
  have Z2 : n0 ≤ h2.size := Nat.le_trans Z0 E2.1
  have G3 := (E_ad0.ext E2)
  have G4 := (F_precision_ad0.ext E2)
  have G5 := (F_scale_ad0.ext E2)
  refine own_stepW st2 ?_
  show own_FinW p e below s _ _ _ (T2.setTop (mkF m 6 #[.val (.ref ad0), .val (.int p1), .val (.int p2)] [(.ref a2)]))
  refine own_stepW (fun _ k => XS.iloadN X2.here hx rfl (hb hby own_d3_6) rfl k) ?_
  show own_FinW p e below s _ _ _ (T2.setTop (mkF m 7 #[.val (.ref ad0), .val (.int p1), .val (.int p2)] [(.int p1), (.ref a2)]))
  refine own_stepW (fun _ k => XS.i2l X2.here hx rfl (hb hby own_d3_7) rfl k) ?_
  show own_FinW p e below s _ _ _ (T2.setTop (mkF m 8 #[.val (.ref ad0), .val (.int p1), .val (.int p2)] [(.long (p1.toInt64)), (.ref a2)]))
  refine own_stepW (fun _ k => XS.lconst X2.here hx rfl (hb hby own_d3_8) k) ?_
  show own_FinW p e below s _ _ _ (T2.setTop (mkF m 9 #[.val (.ref ad0), .val (.int p1), .val (.int p2)] [(.long (1 : Int64)), (.long (p1.toInt64)), (.ref a2)]))
  refine own_stepW (fun _ k => X2.ldc2Long hx hown2 (mvT hZ2 (own_w hw 23 rfl)) (g := (mkF m 9 #[.val (.ref ad0), .val (.int p1), .val (.int p2)] [(.long (1 : Int64)), (.long (p1.toInt64)), (.ref a2)])) rfl (hb hby own_d3_9) _ k) ?_
  show own_FinW p e below s _ _ _ (T2.setTop (mkF m 12 #[.val (.ref ad0), .val (.int p1), .val (.int p2)] [(.long (38 : Int64)), (.long (1 : Int64)), (.long (p1.toInt64)), (.ref a2)]))
  obtain ⟨_, _, ⟨T6, L6, k6, n6⟩, -, X6, ⟨Lc6, hQ6, l6, y6, z6⟩, st6⟩ := Jvm.LawKit.callS X2 hx (y := own_y1) hown2 (mvT hZ2 (own_w hw 24 rfl)) (mvT hZ2 (own_w hw 25 rfl)) (mvT hZ2 (own_w hw 26 rfl)) (mvT hZ2 (own_w hw 27 rfl)) (by decide) (backOf (W := 0) (own_rm2 l Z a0 hw [] a2 (p1.toInt64) ((1 : Int64)) ((38 : Int64)) h2 n0 Z2 (show ¬ ((lcmpW (p1.toInt64) (1 : Int64)) < (0 : Int32)) from hc3_12) (show ¬ ((0 : Int32) < (lcmpW (p1.toInt64) (38 : Int64))) from hc10_12)) hZ2 (own_w hw 27 rfl) (own_w hw 26 rfl) (by decide) (by decide)) (g := (mkF m 12 #[.val (.ref ad0), .val (.int p1), .val (.int p2)] [(.long (38 : Int64)), (.long (1 : Int64)), (.long (p1.toInt64)), (.ref a2)])) rfl (by rw [hml]; rfl) (argsL := [(.ref a2), (.long (p1.toInt64)), (.long (1 : Int64)), (.long (38 : Int64))]) (rest := []) (lenOf own_pd1 rfl) rfl (by show 2 * 0 + _ ≤ _; exact Nat.le_of_eq rfl) (hb hby own_d3_12) (fun _ _ => ⟨rfl, e2, (by decide : 2 + 0 ≤ _), (by decide : 48 + 0 ≤ _)⟩)
  dsimp only [Pt.U, Pt.locs, Pt.cells, Pt.slots] at X6 l6 y6 z6 st6 hQ6
  subst l6 y6 z6
  obtain ⟨rfl, N6q, e6⟩ := hQ6
  have N6 := Fr.app N1 N6q
  refine own_stepW (fun _ k => st6 _ k) ?_
  show own_FinW p e below s _ _ _ (T6.setTop (mkF m 15 #[.val (.ref ad0), .val (.int p1), .val (.int p2)] []))
  refine own_stepW (fun _ k => XS.iloadN X6.here hx rfl (hb hby own_d3_15) rfl k) ?_
  show own_FinW p e below s _ _ _ (T6.setTop (mkF m 16 #[.val (.ref ad0), .val (.int p1), .val (.int p2)] [(.int p2)]))
  refine own_stepW (fun _ k => XS.ifNo X6.here hx rfl (hb hby own_d3_16) rfl ((if0 _ _).trans (flt hc16).1) k) ?_
  show own_FinW p e below s _ _ _ (T6.setTop (mkF m 19 #[.val (.ref ad0), .val (.int p1), .val (.int p2)] []))
  refine own_stepW (fun _ k => XS.iloadN X6.here hx rfl (hb hby own_d3_19) rfl k) ?_
  show own_FinW p e below s _ _ _ (T6.setTop (mkF m 20 #[.val (.ref ad0), .val (.int p1), .val (.int p2)] [(.int p2)]))
  refine own_stepW (fun _ k => XS.iloadN X6.here hx rfl (hb hby own_d3_20) rfl k) ?_
  show own_FinW p e below s _ _ _ (T6.setTop (mkF m 21 #[.val (.ref ad0), .val (.int p1), .val (.int p2)] [(.int p1), (.int p2)]))
  refine own_stepW (fun _ k => XS.icmpYes X6.here hx rfl (pc0 := 21) (pc' := 39) rfl (hb hby own_d3_21) rfl (flt hc21).2.2.2 (by decide) (by decide) k) ?_
  show own_FinW p e below s _ _ _ (T6.setTop (mkF m 39 #[.val (.ref ad0), .val (.int p1), .val (.int p2)] []))
  refine own_stepW (fun _ k => XS.aloadN X6.here hx rfl (hb hby own_d3_39) rfl rfl k) ?_
  show own_FinW p e below s _ _ _ (T6.setTop (mkF m 40 #[.val (.ref ad0), .val (.int p1), .val (.int p2)] [(.ref ad0)]))
  refine own_stepW (fun _ k => XS.iloadN X6.here hx rfl (hb hby own_d3_40) rfl k) ?_
  show own_FinW p e below s _ _ _ (T6.setTop (mkF m 41 #[.val (.ref ad0), .val (.int p1), .val (.int p2)] [(.int p1), (.ref ad0)]))
  obtain ⟨T7, h7, X7, e7, W7, st7⟩ := putF X6 hx hZ2 hown2 (host := "") (Or.inl (own_w hw 28 rfl)) Via.refl e6 G4 G3 (Or.inr ⟨(own_w hw 29 rfl), rfl, hnm⟩) (own_w hw 2 rfl) (ty := .int) (by decide) rfl rfl (g := (mkF m 41 #[.val (.ref ad0), .val (.int p1), .val (.int p2)] [(.int p1), (.ref ad0)])) rfl rfl (hb hby own_d3_41)
  have N7 := Fr.snoc X7 N6 g_ad0
  have K7 : Keep h0 h7 [ad0] := K2.wr W7 (Or.inl (List.mem_of_getElem? (i := 0) rfl))
  have Z7 : n0 ≤ h7.size := Nat.le_trans Z2 (Keep.of_wr W7).1
  have hk7 := Nat.le_trans hk2 (Keep.of_wr W7).1
  have G8 := (G3.wr W7)
  have G9 := (G5.other W7 (Or.inr (slot_ne (Or.inr (own_w hw 31 rfl)) (Or.inr (own_w hw 29 rfl)) (by decide) (t := .int) (t' := .int) (by decide) (by decide))))
  have G10 := G4.same W7
  refine own_stepW st7 ?_
  show own_FinW p e below s _ _ _ (T7.setTop (mkF m 44 #[.val (.ref ad0), .val (.int p1), .val (.int p2)] []))
  refine own_stepW (fun _ k => XS.aloadN X7.here hx rfl (hb hby own_d3_44) rfl rfl k) ?_
  show own_FinW p e below s _ _ _ (T7.setTop (mkF m 45 #[.val (.ref ad0), .val (.int p1), .val (.int p2)] [(.ref ad0)]))
  refine own_stepW (fun _ k => XS.iloadN X7.here hx rfl (hb hby own_d3_45) rfl k) ?_
  show own_FinW p e below s _ _ _ (T7.setTop (mkF m 46 #[.val (.ref ad0), .val (.int p1), .val (.int p2)] [(.int p2), (.ref ad0)]))
  obtain ⟨T11, h11, X11, e11, W11, st11⟩ := putF X7 hx hZ2 hown2 (host := "") (Or.inl (own_w hw 30 rfl)) Via.refl e7 G9 G8 (Or.inr ⟨(own_w hw 31 rfl), rfl, hnm⟩) (own_w hw 2 rfl) (ty := .int) (by decide) rfl rfl (g := (mkF m 46 #[.val (.ref ad0), .val (.int p1), .val (.int p2)] [(.int p2), (.ref ad0)])) rfl rfl (hb hby own_d3_46)
  have N11 := Fr.snoc X11 N7 g_ad0
  have K11 : Keep h0 h11 [ad0] := K7.wr W11 (Or.inl (List.mem_of_getElem? (i := 0) rfl))
  have Z11 : n0 ≤ h11.size := Nat.le_trans Z7 (Keep.of_wr W11).1
  have hk11 := Nat.le_trans hk7 (Keep.of_wr W11).1
  have G12 := (G8.wr W11)
  have G13 := (G10.other W11 (Or.inr (slot_ne (Or.inr (own_w hw 29 rfl)) (Or.inr (own_w hw 31 rfl)) (by decide) (t := .int) (t' := .int) (by decide) (by decide))))
  have G14 := G9.same W11
  refine own_stepW st11 ?_
  show own_FinW p e below s _ _ _ (T11.setTop (mkF m 49 #[.val (.ref ad0), .val (.int p1), .val (.int p2)] []))
  exact own_retW X11 hlk hS2 e11 hk11 (v := none) (fun _ => rfl) (by decide) (by decide) (by show own_Q3 Z ad0 p1 p2 uprecision_ad0 uscale_ad0 h0 n0 _ T11.heap _; rw [e11]; exact ⟨N11, K11, rfl, G12, G13, G14⟩) (fun fs hr => X11.returnOut hx Bd.returns (hb hby own_d3_49) hr)

theorem own_d4_0 : decode jdk_29_method_69_code 0 = .ok (.iload_n 0, 1) := by decide +kernel
theorem own_d4_1 : decode jdk_29_method_69_code 1 = .ok (.iload_n 1, 1) := by decide +kernel
theorem own_d4_2 : decode jdk_29_method_69_code 2 = .ok (.if_icmp .gt 7, 3) := by decide +kernel
theorem own_d4_9 : decode jdk_29_method_69_code 9 = .ok (.iload_n 1, 1) := by decide +kernel
theorem own_d4_10 : decode jdk_29_method_69_code 10 = .ok (.ireturn, 1) := by decide +kernel
theorem own_ef4 (m : MethodId) (p0 : Int32) (p1 : Int32) : entryFrame m #[(.int p0), (.int p1)] 2 = mkF m 0 #[.val (.int p0), .val (.int p1)] [] := by first | (simp [entryFrame, mkF, argsToLocals, Value.category]; done) | rfl
def own_Q4 (Z : State) (p0 : Int32) (p1 : Int32) (h0 : Heap) (n0 : Nat) (v : Option Value) (h : Heap) (L : List Loc) : Prop := v = some (.int p1) ∧ Fr n0 L ∧ h = h0
set_option maxRecDepth 65536 in
set_option maxHeartbeats 40000000 in
theorem own_rm4 (l : Launch) (Z : State) (a0 : Array Value) (hw : ∀ d ∈ tables_1, d.before a0 Z = true) (ws : List Jvm.Cond) (p0 : Int32) (p1 : Int32) (h0 : Heap) (n0 : Nat) (Z0 : n0 ≤ h0.size) (hc2 : p1 < p0) :
    MetFree l (⟨"java/lang/Math", "min", "(II)I"⟩ : MethodName) (head1 (Jvm.Cond.code (⟨"java/lang/Math", "min", "(II)I"⟩ : MethodName) jdk_29_method_69_code 2 (some .int) :: ws) ({ frames := 0, cells := 0, slots := 0, locals := 0 } : Room)) (fun a U => a = #[(.int p0), (.int p1)] ∧ Z.Warmed39 U.vm ∧ U.heap = h0) (fun _ _ _ _ _ => True) (fun _ U o U' => ∃ v L, o = .returned v ∧ own_Q4 Z p0 p1 h0 n0 v U'.heap L ∧ FrameEnd U o U' L ({ frames := 0, cells := 0, slots := 0, locals := 0 } : Room).cells ({ frames := 0, cells := 0, slots := 0, locals := 0 } : Room).slots) := by
  refine MetFree.of_bodySF (Jvm.Free.JP.mathPlain rfl (by decide +kernel)) hisR ?_
  intro p e s m args below meth c s₁ Bd hml0 hP hK
  obtain ⟨rfl, hZ, hh⟩ := hP
  have hx := Bd.exec
  have hby := Bd.bytes
  have hlk := Bd.notSynchronized
  have hml : c.maxLocals = 2 := hml0
  have hown : s.vm.findClass "java/lang/Math" = some m.cls := findClass_of_methodNamed Bd.named
  have hnm := (name_of_methodNamed Bd.named Bd.method).1
  have X0 : Stand p l e ({ frames := 0, cells := 0, slots := 0, locals := 0 } : Room) s m #[(.int p0), (.int p1)] below meth c s₁ [] 0 0 := Stand.of_body Bd
  have e0 : s₁.heap = h0 := by rw [← hh, Bd.state]; rfl
  have N0 := Fr.nil n0
  have KR : Keep h0 h0 [] := Keep.refl _ _
  show own_Fin p e below s ({ frames := 0, cells := 0, slots := 0, locals := 0 } : Room).cells ({ frames := 0, cells := 0, slots := 0, locals := 0 } : Room).slots (own_Q4 Z p0 p1 h0 n0) (s₁.setTop (entryFrame m #[(.int p0), (.int p1)] 2))
  refine own_cast (own_ef4 m p0 p1) ?_
  refine own_step (fun _ k => XS.iloadN X0.here hx rfl (hb hby own_d4_0) rfl k) ?_
  show own_Fin p e below s _ _ _ (s₁.setTop (mkF m 1 #[.val (.int p0), .val (.int p1)] [(.int p0)]))
  refine own_step (fun _ k => XS.iloadN X0.here hx rfl (hb hby own_d4_1) rfl k) ?_
  show own_Fin p e below s _ _ _ (s₁.setTop (mkF m 2 #[.val (.int p0), .val (.int p1)] [(.int p1), (.int p0)]))
  refine own_step (fun _ k => XS.icmpYes X0.here hx rfl (pc0 := 2) (pc' := 9) rfl (hb hby own_d4_2) rfl (tlt hc2).2.2.1 (by decide) (by decide) k) ?_
  show own_Fin p e below s _ _ _ (s₁.setTop (mkF m 9 #[.val (.int p0), .val (.int p1)] []))
  refine own_step (fun _ k => XS.iloadN X0.here hx rfl (hb hby own_d4_9) rfl k) ?_
  show own_Fin p e below s _ _ _ (s₁.setTop (mkF m 10 #[.val (.int p0), .val (.int p1)] [(.int p1)]))
  exact own_ret X0 hlk (v := some (.int p1)) (fun h => by rw [Bd.returns] at h; cases h) (by decide) (by decide) (by show own_Q4 Z p0 p1 h0 n0 _ s₁.heap _; rw [e0]; exact ⟨rfl, N0, rfl⟩) (fun fs hr => retOut X0 hx Bd.returns rfl (Or.inl ⟨rfl, Or.inl rfl, _, rfl⟩) (hb hby own_d4_10) hr)

theorem own_d5_0 : decode jdk_29_method_69_code 0 = .ok (.iload_n 0, 1) := by decide +kernel
theorem own_d5_1 : decode jdk_29_method_69_code 1 = .ok (.iload_n 1, 1) := by decide +kernel
theorem own_d5_2 : decode jdk_29_method_69_code 2 = .ok (.if_icmp .gt 7, 3) := by decide +kernel
theorem own_d5_5 : decode jdk_29_method_69_code 5 = .ok (.iload_n 0, 1) := by decide +kernel
theorem own_d5_6 : decode jdk_29_method_69_code 6 = .ok (.goto 4, 3) := by decide +kernel
theorem own_d5_10 : decode jdk_29_method_69_code 10 = .ok (.ireturn, 1) := by decide +kernel
theorem own_ef5 (m : MethodId) (p0 : Int32) (p1 : Int32) : entryFrame m #[(.int p0), (.int p1)] 2 = mkF m 0 #[.val (.int p0), .val (.int p1)] [] := by first | (simp [entryFrame, mkF, argsToLocals, Value.category]; done) | rfl
def own_Q5 (Z : State) (p0 : Int32) (p1 : Int32) (h0 : Heap) (n0 : Nat) (v : Option Value) (h : Heap) (L : List Loc) : Prop := v = some (.int p0) ∧ Fr n0 L ∧ h = h0
set_option maxRecDepth 65536 in
set_option maxHeartbeats 40000000 in
theorem own_rm5 (l : Launch) (Z : State) (a0 : Array Value) (hw : ∀ d ∈ tables_1, d.before a0 Z = true) (ws : List Jvm.Cond) (p0 : Int32) (p1 : Int32) (h0 : Heap) (n0 : Nat) (Z0 : n0 ≤ h0.size) (hc2 : ¬ (p1 < p0)) :
    MetFree l (⟨"java/lang/Math", "min", "(II)I"⟩ : MethodName) (head1 (Jvm.Cond.code (⟨"java/lang/Math", "min", "(II)I"⟩ : MethodName) jdk_29_method_69_code 2 (some .int) :: ws) ({ frames := 0, cells := 0, slots := 0, locals := 0 } : Room)) (fun a U => a = #[(.int p0), (.int p1)] ∧ Z.Warmed39 U.vm ∧ U.heap = h0) (fun _ _ _ _ _ => True) (fun _ U o U' => ∃ v L, o = .returned v ∧ own_Q5 Z p0 p1 h0 n0 v U'.heap L ∧ FrameEnd U o U' L ({ frames := 0, cells := 0, slots := 0, locals := 0 } : Room).cells ({ frames := 0, cells := 0, slots := 0, locals := 0 } : Room).slots) := by
  refine MetFree.of_bodySF (Jvm.Free.JP.mathPlain rfl (by decide +kernel)) hisR ?_
  intro p e s m args below meth c s₁ Bd hml0 hP hK
  obtain ⟨rfl, hZ, hh⟩ := hP
  have hx := Bd.exec
  have hby := Bd.bytes
  have hlk := Bd.notSynchronized
  have hml : c.maxLocals = 2 := hml0
  have hown : s.vm.findClass "java/lang/Math" = some m.cls := findClass_of_methodNamed Bd.named
  have hnm := (name_of_methodNamed Bd.named Bd.method).1
  have X0 : Stand p l e ({ frames := 0, cells := 0, slots := 0, locals := 0 } : Room) s m #[(.int p0), (.int p1)] below meth c s₁ [] 0 0 := Stand.of_body Bd
  have e0 : s₁.heap = h0 := by rw [← hh, Bd.state]; rfl
  have N0 := Fr.nil n0
  have KR : Keep h0 h0 [] := Keep.refl _ _
  show own_Fin p e below s ({ frames := 0, cells := 0, slots := 0, locals := 0 } : Room).cells ({ frames := 0, cells := 0, slots := 0, locals := 0 } : Room).slots (own_Q5 Z p0 p1 h0 n0) (s₁.setTop (entryFrame m #[(.int p0), (.int p1)] 2))
  refine own_cast (own_ef5 m p0 p1) ?_
  refine own_step (fun _ k => XS.iloadN X0.here hx rfl (hb hby own_d5_0) rfl k) ?_
  show own_Fin p e below s _ _ _ (s₁.setTop (mkF m 1 #[.val (.int p0), .val (.int p1)] [(.int p0)]))
  refine own_step (fun _ k => XS.iloadN X0.here hx rfl (hb hby own_d5_1) rfl k) ?_
  show own_Fin p e below s _ _ _ (s₁.setTop (mkF m 2 #[.val (.int p0), .val (.int p1)] [(.int p1), (.int p0)]))
  refine own_step (fun _ k => XS.icmpNo X0.here hx rfl (hb hby own_d5_2) rfl (flt hc2).2.2.1 k) ?_
  show own_Fin p e below s _ _ _ (s₁.setTop (mkF m 5 #[.val (.int p0), .val (.int p1)] []))
  refine own_step (fun _ k => XS.iloadN X0.here hx rfl (hb hby own_d5_5) rfl k) ?_
  show own_Fin p e below s _ _ _ (s₁.setTop (mkF m 6 #[.val (.int p0), .val (.int p1)] [(.int p0)]))
  refine own_step (fun _ k => XS.goto X0.here hx rfl (pc0 := 6) (pc' := 10) rfl (hb hby own_d5_6) (by decide) (by decide) k) ?_
  show own_Fin p e below s _ _ _ (s₁.setTop (mkF m 10 #[.val (.int p0), .val (.int p1)] [(.int p0)]))
  exact own_ret X0 hlk (v := some (.int p0)) (fun h => by rw [Bd.returns] at h; cases h) (by decide) (by decide) (by show own_Q5 Z p0 p1 h0 n0 _ s₁.heap _; rw [e0]; exact ⟨rfl, N0, rfl⟩) (fun fs hr => retOut X0 hx Bd.returns rfl (Or.inl ⟨rfl, Or.inl rfl, _, rfl⟩) (hb hby own_d5_10) hr)

def own_P0 (i : Int32) : Int64 := List.getD [(1 : Int64), (10 : Int64), (100 : Int64), (1000 : Int64), (10000 : Int64), (100000 : Int64), (1000000 : Int64), (10000000 : Int64), (100000000 : Int64), (1000000000 : Int64), (10000000000 : Int64), (100000000000 : Int64), (1000000000000 : Int64), (10000000000000 : Int64), (100000000000000 : Int64), (1000000000000000 : Int64), (10000000000000000 : Int64), (100000000000000000 : Int64), (1000000000000000000 : Int64)] i.toNatClampNeg (0 : Int64)
theorem own_d6_0 : decode method_2_code 0 = .ok (.bipush 19, 2) := by decide +kernel
theorem own_d6_2 : decode method_2_code 2 = .ok (.newarray .long, 2) := by decide +kernel
theorem own_d6_4 : decode method_2_code 4 = .ok (.dup, 1) := by decide +kernel
theorem own_d6_5 : decode method_2_code 5 = .ok (.iconst 0, 1) := by decide +kernel
theorem own_d6_6 : decode method_2_code 6 = .ok (.lconst 1, 1) := by decide +kernel
theorem own_d6_7 : decode method_2_code 7 = .ok (.lastore, 1) := by decide +kernel
theorem own_d6_8 : decode method_2_code 8 = .ok (.dup, 1) := by decide +kernel
theorem own_d6_9 : decode method_2_code 9 = .ok (.iconst 1, 1) := by decide +kernel
theorem own_d6_10 : decode method_2_code 10 = .ok (.ldc2_w 7, 3) := by decide +kernel
theorem own_d6_13 : decode method_2_code 13 = .ok (.lastore, 1) := by decide +kernel
theorem own_d6_14 : decode method_2_code 14 = .ok (.dup, 1) := by decide +kernel
theorem own_d6_15 : decode method_2_code 15 = .ok (.iconst 2, 1) := by decide +kernel
theorem own_d6_16 : decode method_2_code 16 = .ok (.ldc2_w 9, 3) := by decide +kernel
theorem own_d6_19 : decode method_2_code 19 = .ok (.lastore, 1) := by decide +kernel
theorem own_d6_20 : decode method_2_code 20 = .ok (.dup, 1) := by decide +kernel
theorem own_d6_21 : decode method_2_code 21 = .ok (.iconst 3, 1) := by decide +kernel
theorem own_d6_22 : decode method_2_code 22 = .ok (.ldc2_w 11, 3) := by decide +kernel
theorem own_d6_25 : decode method_2_code 25 = .ok (.lastore, 1) := by decide +kernel
theorem own_d6_26 : decode method_2_code 26 = .ok (.dup, 1) := by decide +kernel
theorem own_d6_27 : decode method_2_code 27 = .ok (.iconst 4, 1) := by decide +kernel
theorem own_d6_28 : decode method_2_code 28 = .ok (.ldc2_w 13, 3) := by decide +kernel
theorem own_d6_31 : decode method_2_code 31 = .ok (.lastore, 1) := by decide +kernel
theorem own_d6_32 : decode method_2_code 32 = .ok (.dup, 1) := by decide +kernel
theorem own_d6_33 : decode method_2_code 33 = .ok (.iconst 5, 1) := by decide +kernel
theorem own_d6_34 : decode method_2_code 34 = .ok (.ldc2_w 15, 3) := by decide +kernel
theorem own_d6_37 : decode method_2_code 37 = .ok (.lastore, 1) := by decide +kernel
theorem own_d6_38 : decode method_2_code 38 = .ok (.dup, 1) := by decide +kernel
theorem own_d6_39 : decode method_2_code 39 = .ok (.bipush 6, 2) := by decide +kernel
theorem own_d6_41 : decode method_2_code 41 = .ok (.ldc2_w 17, 3) := by decide +kernel
theorem own_d6_44 : decode method_2_code 44 = .ok (.lastore, 1) := by decide +kernel
theorem own_d6_45 : decode method_2_code 45 = .ok (.dup, 1) := by decide +kernel
theorem own_d6_46 : decode method_2_code 46 = .ok (.bipush 7, 2) := by decide +kernel
theorem own_d6_48 : decode method_2_code 48 = .ok (.ldc2_w 19, 3) := by decide +kernel
theorem own_d6_51 : decode method_2_code 51 = .ok (.lastore, 1) := by decide +kernel
theorem own_d6_52 : decode method_2_code 52 = .ok (.dup, 1) := by decide +kernel
theorem own_d6_53 : decode method_2_code 53 = .ok (.bipush 8, 2) := by decide +kernel
theorem own_d6_55 : decode method_2_code 55 = .ok (.ldc2_w 21, 3) := by decide +kernel
theorem own_d6_58 : decode method_2_code 58 = .ok (.lastore, 1) := by decide +kernel
theorem own_d6_59 : decode method_2_code 59 = .ok (.dup, 1) := by decide +kernel
theorem own_d6_60 : decode method_2_code 60 = .ok (.bipush 9, 2) := by decide +kernel
theorem own_d6_62 : decode method_2_code 62 = .ok (.ldc2_w 23, 3) := by decide +kernel
theorem own_d6_65 : decode method_2_code 65 = .ok (.lastore, 1) := by decide +kernel
theorem own_d6_66 : decode method_2_code 66 = .ok (.dup, 1) := by decide +kernel
theorem own_d6_67 : decode method_2_code 67 = .ok (.bipush 10, 2) := by decide +kernel
theorem own_d6_69 : decode method_2_code 69 = .ok (.ldc2_w 25, 3) := by decide +kernel
theorem own_d6_72 : decode method_2_code 72 = .ok (.lastore, 1) := by decide +kernel
theorem own_d6_73 : decode method_2_code 73 = .ok (.dup, 1) := by decide +kernel
theorem own_d6_74 : decode method_2_code 74 = .ok (.bipush 11, 2) := by decide +kernel
theorem own_d6_76 : decode method_2_code 76 = .ok (.ldc2_w 27, 3) := by decide +kernel
theorem own_d6_79 : decode method_2_code 79 = .ok (.lastore, 1) := by decide +kernel
theorem own_d6_80 : decode method_2_code 80 = .ok (.dup, 1) := by decide +kernel
theorem own_d6_81 : decode method_2_code 81 = .ok (.bipush 12, 2) := by decide +kernel
theorem own_d6_83 : decode method_2_code 83 = .ok (.ldc2_w 29, 3) := by decide +kernel
theorem own_d6_86 : decode method_2_code 86 = .ok (.lastore, 1) := by decide +kernel
theorem own_d6_87 : decode method_2_code 87 = .ok (.dup, 1) := by decide +kernel
theorem own_d6_88 : decode method_2_code 88 = .ok (.bipush 13, 2) := by decide +kernel
theorem own_d6_90 : decode method_2_code 90 = .ok (.ldc2_w 31, 3) := by decide +kernel
theorem own_d6_93 : decode method_2_code 93 = .ok (.lastore, 1) := by decide +kernel
theorem own_d6_94 : decode method_2_code 94 = .ok (.dup, 1) := by decide +kernel
theorem own_d6_95 : decode method_2_code 95 = .ok (.bipush 14, 2) := by decide +kernel
theorem own_d6_97 : decode method_2_code 97 = .ok (.ldc2_w 33, 3) := by decide +kernel
theorem own_d6_100 : decode method_2_code 100 = .ok (.lastore, 1) := by decide +kernel
theorem own_d6_101 : decode method_2_code 101 = .ok (.dup, 1) := by decide +kernel
theorem own_d6_102 : decode method_2_code 102 = .ok (.bipush 15, 2) := by decide +kernel
theorem own_d6_104 : decode method_2_code 104 = .ok (.ldc2_w 35, 3) := by decide +kernel
theorem own_d6_107 : decode method_2_code 107 = .ok (.lastore, 1) := by decide +kernel
theorem own_d6_108 : decode method_2_code 108 = .ok (.dup, 1) := by decide +kernel
theorem own_d6_109 : decode method_2_code 109 = .ok (.bipush 16, 2) := by decide +kernel
theorem own_d6_111 : decode method_2_code 111 = .ok (.ldc2_w 37, 3) := by decide +kernel
theorem own_d6_114 : decode method_2_code 114 = .ok (.lastore, 1) := by decide +kernel
theorem own_d6_115 : decode method_2_code 115 = .ok (.dup, 1) := by decide +kernel
theorem own_d6_116 : decode method_2_code 116 = .ok (.bipush 17, 2) := by decide +kernel
theorem own_d6_118 : decode method_2_code 118 = .ok (.ldc2_w 39, 3) := by decide +kernel
theorem own_d6_121 : decode method_2_code 121 = .ok (.lastore, 1) := by decide +kernel
theorem own_d6_122 : decode method_2_code 122 = .ok (.dup, 1) := by decide +kernel
theorem own_d6_123 : decode method_2_code 123 = .ok (.bipush 18, 2) := by decide +kernel
theorem own_d6_125 : decode method_2_code 125 = .ok (.ldc2_w 41, 3) := by decide +kernel
theorem own_d6_128 : decode method_2_code 128 = .ok (.lastore, 1) := by decide +kernel
theorem own_d6_129 : decode method_2_code 129 = .ok (.astore_n 1, 1) := by decide +kernel
theorem own_d6_130 : decode method_2_code 130 = .ok (.aload_n 1, 1) := by decide +kernel
theorem own_d6_131 : decode method_2_code 131 = .ok (.iload_n 0, 1) := by decide +kernel
theorem own_d6_132 : decode method_2_code 132 = .ok (.laload, 1) := by decide +kernel
theorem own_d6_133 : decode method_2_code 133 = .ok (.lreturn, 1) := by decide +kernel
theorem own_pn3 : plainName "com/example/castwright/castwright/model/DecimalTypeHoldsPinLaw" = true := by first | (simp [plainName, overriddenIn]; done) | decide +kernel
theorem own_ef6 (m : MethodId) (p0 : Int32) : entryFrame m #[(.int p0)] 2 = mkF m 0 #[.val (.int p0), .unset] [] := by first | (simp [entryFrame, mkF, argsToLocals, Value.category]; done) | rfl
def own_Q6 (Z : State) (p0 : Int32) (h0 : Heap) (n0 : Nat) (v : Option Value) (h : Heap) (L : List Loc) : Prop := Fr n0 L ∧ Keep h0 h [] ∧ v = some (.long (own_P0 p0))
set_option maxRecDepth 65536 in
set_option maxHeartbeats 40000000 in
theorem own_rm6 (l : Launch) (Z : State) (a0 : Array Value) (hw : ∀ d ∈ tables_1, d.before a0 Z = true) (ws : List Jvm.Cond) (p0 : Int32) (h0 : Heap) (n0 : Nat) (Z0 : n0 ≤ h0.size) (hin : ¬ (p0 < (0 : Int32)) ∧ p0 < (19 : Int32)) :
    MetFree l (⟨"com/example/castwright/castwright/model/DecimalTypeHoldsPinLaw", "pow10", "(I)J"⟩ : MethodName) (head1 (Jvm.Cond.code (⟨"com/example/castwright/castwright/model/DecimalTypeHoldsPinLaw", "pow10", "(I)J"⟩ : MethodName) method_2_code 2 (some .long) :: ws) ({ frames := 0, cells := 1, slots := 19, locals := 0 } : Room)) (fun a U => a = #[(.int p0)] ∧ Z.Warmed39 U.vm ∧ U.heap = h0) (fun _ _ _ _ _ => True) (fun _ U o U' => ∃ v L, o = .returned v ∧ own_Q6 Z p0 h0 n0 v U'.heap L ∧ FrameEnd U o U' L ({ frames := 0, cells := 1, slots := 19, locals := 0 } : Room).cells ({ frames := 0, cells := 1, slots := 19, locals := 0 } : Room).slots) := by
  refine MetFree.of_bodySF (plainFor_of_name own_pn3) hisR ?_
  intro p e s m args below meth c s₁ Bd hml0 hP hK
  obtain ⟨rfl, hZ, hh⟩ := hP
  have hx := Bd.exec
  have hby := Bd.bytes
  have hlk := Bd.notSynchronized
  have hml : c.maxLocals = 2 := hml0
  have hown : s.vm.findClass "com/example/castwright/castwright/model/DecimalTypeHoldsPinLaw" = some m.cls := findClass_of_methodNamed Bd.named
  have hnm := (name_of_methodNamed Bd.named Bd.method).1
  have X0 : Stand p l e ({ frames := 0, cells := 1, slots := 19, locals := 0 } : Room) s m #[(.int p0)] below meth c s₁ [] 0 0 := Stand.of_body Bd
  have e0 : s₁.heap = h0 := by rw [← hh, Bd.state]; rfl
  have N0 := Fr.nil n0
  have KR : Keep h0 h0 [] := Keep.refl _ _
  show own_Fin p e below s ({ frames := 0, cells := 1, slots := 19, locals := 0 } : Room).cells ({ frames := 0, cells := 1, slots := 19, locals := 0 } : Room).slots (own_Q6 Z p0 h0 n0) (s₁.setTop (entryFrame m #[(.int p0)] 2))
  refine own_cast (own_ef6 m p0) ?_
  refine own_step (fun _ k => XS.bipush X0.here hx rfl (hb hby own_d6_0) k) ?_
  show own_Fin p e below s _ _ _ (s₁.setTop (mkF m 2 #[.val (.int p0), .unset] [(.int (19 : Int32))]))
  obtain ⟨T1, h1, k1, X1, e1, E1, A1, st1⟩ := newP X0 hx hZ (own_w hw 40 rfl) e0 (g := (mkF m 2 #[.val (.int p0), .unset] [(.int (19 : Int32))])) rfl (hb hby own_d6_2) rfl (by decide) (cap := 19) (by decide) (by decide) (by decide) (by decide)
  obtain ⟨b1, g1⟩ : ∃ z, z = h0.size := ⟨_, rfl⟩
  rw [← g1] at A1 st1
  have gg1 : n0 ≤ b1 := Nat.le_trans Z0 (Nat.le_of_eq g1.symm)
  have sz1 : h0.size ≤ b1 := Nat.le_trans KR.1 (Nat.le_of_eq g1.symm)
  have K1 : Keep h0 h1 [] := KR.ext E1
  have Z1 : n0 ≤ h1.size := Nat.le_trans Z0 E1.1
  have G2 : Arv Z h1 b1 k1 .long (19 : Int32) [(.long (0 : Int64)), (.long (0 : Int64)), (.long (0 : Int64)), (.long (0 : Int64)), (.long (0 : Int64)), (.long (0 : Int64)), (.long (0 : Int64)), (.long (0 : Int64)), (.long (0 : Int64)), (.long (0 : Int64)), (.long (0 : Int64)), (.long (0 : Int64)), (.long (0 : Int64)), (.long (0 : Int64)), (.long (0 : Int64)), (.long (0 : Int64)), (.long (0 : Int64)), (.long (0 : Int64)), (.long (0 : Int64))] (.long (0 : Int64)) := (Arv.new A1 (by decide)).pad (pad_rep [] (.long (0 : Int64)) 19)
  refine own_step st1 ?_
  show own_Fin p e below s _ _ _ (T1.setTop (mkF m 4 #[.val (.int p0), .unset] [(.ref b1)]))
  refine own_step (fun _ k => XS.dup X1.here hx rfl (hb hby own_d6_4) rfl rfl k) ?_
  show own_Fin p e below s _ _ _ (T1.setTop (mkF m 5 #[.val (.int p0), .unset] [(.ref b1), (.ref b1)]))
  refine own_step (fun _ k => XS.iconst X1.here hx rfl (hb hby own_d6_5) k) ?_
  show own_Fin p e below s _ _ _ (T1.setTop (mkF m 6 #[.val (.int p0), .unset] [(.int (0 : Int32)), (.ref b1), (.ref b1)]))
  refine own_step (fun _ k => XS.lconst X1.here hx rfl (hb hby own_d6_6) k) ?_
  show own_Fin p e below s _ _ _ (T1.setTop (mkF m 7 #[.val (.int p0), .unset] [(.long (1 : Int64)), (.int (0 : Int32)), (.ref b1), (.ref b1)]))
  obtain ⟨cl3, Ar3, q3, Sz3, Ng3, Hs3, Gf3⟩ := id G2
  have hin3 : ¬ ((0 : Int32) < 0 ∨ cl3.slots.size ≤ ((0 : Int32)).toNatClampNeg) := inb_of Sz3 ⟨by decide, by decide⟩
  obtain ⟨T3, h3, X3, e3, W3, st3⟩ := stJ X1 hx hZ e1 Ar3 (j := (0 : Int32)) hin3 (g := (mkF m 7 #[.val (.int p0), .unset] [(.long (1 : Int64)), (.int (0 : Int32)), (.ref b1), (.ref b1)])) rfl rfl (hb hby own_d6_7)
  have N3 := Fr.snoc X3 N0 gg1
  have K3 : Keep h0 h3 [] := K1.wr W3 (Or.inr sz1)
  have Z3 : n0 ≤ h3.size := Nat.le_trans Z1 (Keep.of_wr W3).1
  have G4 : Arv Z h3 b1 k1 .long (19 : Int32) [(.long (1 : Int64)), (.long (0 : Int64)), (.long (0 : Int64)), (.long (0 : Int64)), (.long (0 : Int64)), (.long (0 : Int64)), (.long (0 : Int64)), (.long (0 : Int64)), (.long (0 : Int64)), (.long (0 : Int64)), (.long (0 : Int64)), (.long (0 : Int64)), (.long (0 : Int64)), (.long (0 : Int64)), (.long (0 : Int64)), (.long (0 : Int64)), (.long (0 : Int64)), (.long (0 : Int64)), (.long (0 : Int64))] (.long (0 : Int64)) := Arv.set Ar3 q3 Sz3 Ng3 Hs3 Gf3 rfl W3 0 rfl (Nat.le_of_ble_eq_true rfl)
  refine own_step st3 ?_
  show own_Fin p e below s _ _ _ (T3.setTop (mkF m 8 #[.val (.int p0), .unset] [(.ref b1)]))
  refine own_step (fun _ k => XS.dup X3.here hx rfl (hb hby own_d6_8) rfl rfl k) ?_
  show own_Fin p e below s _ _ _ (T3.setTop (mkF m 9 #[.val (.int p0), .unset] [(.ref b1), (.ref b1)]))
  refine own_step (fun _ k => XS.iconst X3.here hx rfl (hb hby own_d6_9) k) ?_
  show own_Fin p e below s _ _ _ (T3.setTop (mkF m 10 #[.val (.int p0), .unset] [(.int (1 : Int32)), (.ref b1), (.ref b1)]))
  refine own_step (fun _ k => X3.ldc2Long hx hown (mvT hZ (own_w hw 41 rfl)) (g := (mkF m 10 #[.val (.int p0), .unset] [(.int (1 : Int32)), (.ref b1), (.ref b1)])) rfl (hb hby own_d6_10) _ k) ?_
  show own_Fin p e below s _ _ _ (T3.setTop (mkF m 13 #[.val (.int p0), .unset] [(.long (10 : Int64)), (.int (1 : Int32)), (.ref b1), (.ref b1)]))
  obtain ⟨cl5, Ar5, q5, Sz5, Ng5, Hs5, Gf5⟩ := id G4
  have hin5 : ¬ ((1 : Int32) < 0 ∨ cl5.slots.size ≤ ((1 : Int32)).toNatClampNeg) := inb_of Sz5 ⟨by decide, by decide⟩
  obtain ⟨T5, h5, X5, e5, W5, st5⟩ := stJ X3 hx hZ e3 Ar5 (j := (1 : Int32)) hin5 (g := (mkF m 13 #[.val (.int p0), .unset] [(.long (10 : Int64)), (.int (1 : Int32)), (.ref b1), (.ref b1)])) rfl rfl (hb hby own_d6_13)
  have N5 := Fr.snoc X5 N3 gg1
  have K5 : Keep h0 h5 [] := K3.wr W5 (Or.inr sz1)
  have Z5 : n0 ≤ h5.size := Nat.le_trans Z3 (Keep.of_wr W5).1
  have G6 : Arv Z h5 b1 k1 .long (19 : Int32) [(.long (1 : Int64)), (.long (10 : Int64)), (.long (0 : Int64)), (.long (0 : Int64)), (.long (0 : Int64)), (.long (0 : Int64)), (.long (0 : Int64)), (.long (0 : Int64)), (.long (0 : Int64)), (.long (0 : Int64)), (.long (0 : Int64)), (.long (0 : Int64)), (.long (0 : Int64)), (.long (0 : Int64)), (.long (0 : Int64)), (.long (0 : Int64)), (.long (0 : Int64)), (.long (0 : Int64)), (.long (0 : Int64))] (.long (0 : Int64)) := Arv.set Ar5 q5 Sz5 Ng5 Hs5 Gf5 rfl W5 1 rfl (Nat.le_of_ble_eq_true rfl)
  refine own_step st5 ?_
  show own_Fin p e below s _ _ _ (T5.setTop (mkF m 14 #[.val (.int p0), .unset] [(.ref b1)]))
  refine own_step (fun _ k => XS.dup X5.here hx rfl (hb hby own_d6_14) rfl rfl k) ?_
  show own_Fin p e below s _ _ _ (T5.setTop (mkF m 15 #[.val (.int p0), .unset] [(.ref b1), (.ref b1)]))
  refine own_step (fun _ k => XS.iconst X5.here hx rfl (hb hby own_d6_15) k) ?_
  show own_Fin p e below s _ _ _ (T5.setTop (mkF m 16 #[.val (.int p0), .unset] [(.int (2 : Int32)), (.ref b1), (.ref b1)]))
  refine own_step (fun _ k => X5.ldc2Long hx hown (mvT hZ (own_w hw 42 rfl)) (g := (mkF m 16 #[.val (.int p0), .unset] [(.int (2 : Int32)), (.ref b1), (.ref b1)])) rfl (hb hby own_d6_16) _ k) ?_
  show own_Fin p e below s _ _ _ (T5.setTop (mkF m 19 #[.val (.int p0), .unset] [(.long (100 : Int64)), (.int (2 : Int32)), (.ref b1), (.ref b1)]))
  obtain ⟨cl7, Ar7, q7, Sz7, Ng7, Hs7, Gf7⟩ := id G6
  have hin7 : ¬ ((2 : Int32) < 0 ∨ cl7.slots.size ≤ ((2 : Int32)).toNatClampNeg) := inb_of Sz7 ⟨by decide, by decide⟩
  obtain ⟨T7, h7, X7, e7, W7, st7⟩ := stJ X5 hx hZ e5 Ar7 (j := (2 : Int32)) hin7 (g := (mkF m 19 #[.val (.int p0), .unset] [(.long (100 : Int64)), (.int (2 : Int32)), (.ref b1), (.ref b1)])) rfl rfl (hb hby own_d6_19)
  have N7 := Fr.snoc X7 N5 gg1
  have K7 : Keep h0 h7 [] := K5.wr W7 (Or.inr sz1)
  have Z7 : n0 ≤ h7.size := Nat.le_trans Z5 (Keep.of_wr W7).1
  have G8 : Arv Z h7 b1 k1 .long (19 : Int32) [(.long (1 : Int64)), (.long (10 : Int64)), (.long (100 : Int64)), (.long (0 : Int64)), (.long (0 : Int64)), (.long (0 : Int64)), (.long (0 : Int64)), (.long (0 : Int64)), (.long (0 : Int64)), (.long (0 : Int64)), (.long (0 : Int64)), (.long (0 : Int64)), (.long (0 : Int64)), (.long (0 : Int64)), (.long (0 : Int64)), (.long (0 : Int64)), (.long (0 : Int64)), (.long (0 : Int64)), (.long (0 : Int64))] (.long (0 : Int64)) := Arv.set Ar7 q7 Sz7 Ng7 Hs7 Gf7 rfl W7 2 rfl (Nat.le_of_ble_eq_true rfl)
  refine own_step st7 ?_
  show own_Fin p e below s _ _ _ (T7.setTop (mkF m 20 #[.val (.int p0), .unset] [(.ref b1)]))
  refine own_step (fun _ k => XS.dup X7.here hx rfl (hb hby own_d6_20) rfl rfl k) ?_
  show own_Fin p e below s _ _ _ (T7.setTop (mkF m 21 #[.val (.int p0), .unset] [(.ref b1), (.ref b1)]))
  refine own_step (fun _ k => XS.iconst X7.here hx rfl (hb hby own_d6_21) k) ?_
  show own_Fin p e below s _ _ _ (T7.setTop (mkF m 22 #[.val (.int p0), .unset] [(.int (3 : Int32)), (.ref b1), (.ref b1)]))
  refine own_step (fun _ k => X7.ldc2Long hx hown (mvT hZ (own_w hw 43 rfl)) (g := (mkF m 22 #[.val (.int p0), .unset] [(.int (3 : Int32)), (.ref b1), (.ref b1)])) rfl (hb hby own_d6_22) _ k) ?_
  show own_Fin p e below s _ _ _ (T7.setTop (mkF m 25 #[.val (.int p0), .unset] [(.long (1000 : Int64)), (.int (3 : Int32)), (.ref b1), (.ref b1)]))
  obtain ⟨cl9, Ar9, q9, Sz9, Ng9, Hs9, Gf9⟩ := id G8
  have hin9 : ¬ ((3 : Int32) < 0 ∨ cl9.slots.size ≤ ((3 : Int32)).toNatClampNeg) := inb_of Sz9 ⟨by decide, by decide⟩
  obtain ⟨T9, h9, X9, e9, W9, st9⟩ := stJ X7 hx hZ e7 Ar9 (j := (3 : Int32)) hin9 (g := (mkF m 25 #[.val (.int p0), .unset] [(.long (1000 : Int64)), (.int (3 : Int32)), (.ref b1), (.ref b1)])) rfl rfl (hb hby own_d6_25)
  have N9 := Fr.snoc X9 N7 gg1
  have K9 : Keep h0 h9 [] := K7.wr W9 (Or.inr sz1)
  have Z9 : n0 ≤ h9.size := Nat.le_trans Z7 (Keep.of_wr W9).1
  have G10 : Arv Z h9 b1 k1 .long (19 : Int32) [(.long (1 : Int64)), (.long (10 : Int64)), (.long (100 : Int64)), (.long (1000 : Int64)), (.long (0 : Int64)), (.long (0 : Int64)), (.long (0 : Int64)), (.long (0 : Int64)), (.long (0 : Int64)), (.long (0 : Int64)), (.long (0 : Int64)), (.long (0 : Int64)), (.long (0 : Int64)), (.long (0 : Int64)), (.long (0 : Int64)), (.long (0 : Int64)), (.long (0 : Int64)), (.long (0 : Int64)), (.long (0 : Int64))] (.long (0 : Int64)) := Arv.set Ar9 q9 Sz9 Ng9 Hs9 Gf9 rfl W9 3 rfl (Nat.le_of_ble_eq_true rfl)
  refine own_step st9 ?_
  show own_Fin p e below s _ _ _ (T9.setTop (mkF m 26 #[.val (.int p0), .unset] [(.ref b1)]))
  refine own_step (fun _ k => XS.dup X9.here hx rfl (hb hby own_d6_26) rfl rfl k) ?_
  show own_Fin p e below s _ _ _ (T9.setTop (mkF m 27 #[.val (.int p0), .unset] [(.ref b1), (.ref b1)]))
  refine own_step (fun _ k => XS.iconst X9.here hx rfl (hb hby own_d6_27) k) ?_
  show own_Fin p e below s _ _ _ (T9.setTop (mkF m 28 #[.val (.int p0), .unset] [(.int (4 : Int32)), (.ref b1), (.ref b1)]))
  refine own_step (fun _ k => X9.ldc2Long hx hown (mvT hZ (own_w hw 44 rfl)) (g := (mkF m 28 #[.val (.int p0), .unset] [(.int (4 : Int32)), (.ref b1), (.ref b1)])) rfl (hb hby own_d6_28) _ k) ?_
  show own_Fin p e below s _ _ _ (T9.setTop (mkF m 31 #[.val (.int p0), .unset] [(.long (10000 : Int64)), (.int (4 : Int32)), (.ref b1), (.ref b1)]))
  obtain ⟨cl11, Ar11, q11, Sz11, Ng11, Hs11, Gf11⟩ := id G10
  have hin11 : ¬ ((4 : Int32) < 0 ∨ cl11.slots.size ≤ ((4 : Int32)).toNatClampNeg) := inb_of Sz11 ⟨by decide, by decide⟩
  obtain ⟨T11, h11, X11, e11, W11, st11⟩ := stJ X9 hx hZ e9 Ar11 (j := (4 : Int32)) hin11 (g := (mkF m 31 #[.val (.int p0), .unset] [(.long (10000 : Int64)), (.int (4 : Int32)), (.ref b1), (.ref b1)])) rfl rfl (hb hby own_d6_31)
  have N11 := Fr.snoc X11 N9 gg1
  have K11 : Keep h0 h11 [] := K9.wr W11 (Or.inr sz1)
  have Z11 : n0 ≤ h11.size := Nat.le_trans Z9 (Keep.of_wr W11).1
  have G12 : Arv Z h11 b1 k1 .long (19 : Int32) [(.long (1 : Int64)), (.long (10 : Int64)), (.long (100 : Int64)), (.long (1000 : Int64)), (.long (10000 : Int64)), (.long (0 : Int64)), (.long (0 : Int64)), (.long (0 : Int64)), (.long (0 : Int64)), (.long (0 : Int64)), (.long (0 : Int64)), (.long (0 : Int64)), (.long (0 : Int64)), (.long (0 : Int64)), (.long (0 : Int64)), (.long (0 : Int64)), (.long (0 : Int64)), (.long (0 : Int64)), (.long (0 : Int64))] (.long (0 : Int64)) := Arv.set Ar11 q11 Sz11 Ng11 Hs11 Gf11 rfl W11 4 rfl (Nat.le_of_ble_eq_true rfl)
  refine own_step st11 ?_
  show own_Fin p e below s _ _ _ (T11.setTop (mkF m 32 #[.val (.int p0), .unset] [(.ref b1)]))
  refine own_step (fun _ k => XS.dup X11.here hx rfl (hb hby own_d6_32) rfl rfl k) ?_
  show own_Fin p e below s _ _ _ (T11.setTop (mkF m 33 #[.val (.int p0), .unset] [(.ref b1), (.ref b1)]))
  refine own_step (fun _ k => XS.iconst X11.here hx rfl (hb hby own_d6_33) k) ?_
  show own_Fin p e below s _ _ _ (T11.setTop (mkF m 34 #[.val (.int p0), .unset] [(.int (5 : Int32)), (.ref b1), (.ref b1)]))
  refine own_step (fun _ k => X11.ldc2Long hx hown (mvT hZ (own_w hw 45 rfl)) (g := (mkF m 34 #[.val (.int p0), .unset] [(.int (5 : Int32)), (.ref b1), (.ref b1)])) rfl (hb hby own_d6_34) _ k) ?_
  show own_Fin p e below s _ _ _ (T11.setTop (mkF m 37 #[.val (.int p0), .unset] [(.long (100000 : Int64)), (.int (5 : Int32)), (.ref b1), (.ref b1)]))
  obtain ⟨cl13, Ar13, q13, Sz13, Ng13, Hs13, Gf13⟩ := id G12
  have hin13 : ¬ ((5 : Int32) < 0 ∨ cl13.slots.size ≤ ((5 : Int32)).toNatClampNeg) := inb_of Sz13 ⟨by decide, by decide⟩
  obtain ⟨T13, h13, X13, e13, W13, st13⟩ := stJ X11 hx hZ e11 Ar13 (j := (5 : Int32)) hin13 (g := (mkF m 37 #[.val (.int p0), .unset] [(.long (100000 : Int64)), (.int (5 : Int32)), (.ref b1), (.ref b1)])) rfl rfl (hb hby own_d6_37)
  have N13 := Fr.snoc X13 N11 gg1
  have K13 : Keep h0 h13 [] := K11.wr W13 (Or.inr sz1)
  have Z13 : n0 ≤ h13.size := Nat.le_trans Z11 (Keep.of_wr W13).1
  have G14 : Arv Z h13 b1 k1 .long (19 : Int32) [(.long (1 : Int64)), (.long (10 : Int64)), (.long (100 : Int64)), (.long (1000 : Int64)), (.long (10000 : Int64)), (.long (100000 : Int64)), (.long (0 : Int64)), (.long (0 : Int64)), (.long (0 : Int64)), (.long (0 : Int64)), (.long (0 : Int64)), (.long (0 : Int64)), (.long (0 : Int64)), (.long (0 : Int64)), (.long (0 : Int64)), (.long (0 : Int64)), (.long (0 : Int64)), (.long (0 : Int64)), (.long (0 : Int64))] (.long (0 : Int64)) := Arv.set Ar13 q13 Sz13 Ng13 Hs13 Gf13 rfl W13 5 rfl (Nat.le_of_ble_eq_true rfl)
  refine own_step st13 ?_
  show own_Fin p e below s _ _ _ (T13.setTop (mkF m 38 #[.val (.int p0), .unset] [(.ref b1)]))
  refine own_step (fun _ k => XS.dup X13.here hx rfl (hb hby own_d6_38) rfl rfl k) ?_
  show own_Fin p e below s _ _ _ (T13.setTop (mkF m 39 #[.val (.int p0), .unset] [(.ref b1), (.ref b1)]))
  refine own_step (fun _ k => XS.bipush X13.here hx rfl (hb hby own_d6_39) k) ?_
  show own_Fin p e below s _ _ _ (T13.setTop (mkF m 41 #[.val (.int p0), .unset] [(.int (6 : Int32)), (.ref b1), (.ref b1)]))
  refine own_step (fun _ k => X13.ldc2Long hx hown (mvT hZ (own_w hw 46 rfl)) (g := (mkF m 41 #[.val (.int p0), .unset] [(.int (6 : Int32)), (.ref b1), (.ref b1)])) rfl (hb hby own_d6_41) _ k) ?_
  show own_Fin p e below s _ _ _ (T13.setTop (mkF m 44 #[.val (.int p0), .unset] [(.long (1000000 : Int64)), (.int (6 : Int32)), (.ref b1), (.ref b1)]))
  obtain ⟨cl15, Ar15, q15, Sz15, Ng15, Hs15, Gf15⟩ := id G14
  have hin15 : ¬ ((6 : Int32) < 0 ∨ cl15.slots.size ≤ ((6 : Int32)).toNatClampNeg) := inb_of Sz15 ⟨by decide, by decide⟩
  obtain ⟨T15, h15, X15, e15, W15, st15⟩ := stJ X13 hx hZ e13 Ar15 (j := (6 : Int32)) hin15 (g := (mkF m 44 #[.val (.int p0), .unset] [(.long (1000000 : Int64)), (.int (6 : Int32)), (.ref b1), (.ref b1)])) rfl rfl (hb hby own_d6_44)
  have N15 := Fr.snoc X15 N13 gg1
  have K15 : Keep h0 h15 [] := K13.wr W15 (Or.inr sz1)
  have Z15 : n0 ≤ h15.size := Nat.le_trans Z13 (Keep.of_wr W15).1
  have G16 : Arv Z h15 b1 k1 .long (19 : Int32) [(.long (1 : Int64)), (.long (10 : Int64)), (.long (100 : Int64)), (.long (1000 : Int64)), (.long (10000 : Int64)), (.long (100000 : Int64)), (.long (1000000 : Int64)), (.long (0 : Int64)), (.long (0 : Int64)), (.long (0 : Int64)), (.long (0 : Int64)), (.long (0 : Int64)), (.long (0 : Int64)), (.long (0 : Int64)), (.long (0 : Int64)), (.long (0 : Int64)), (.long (0 : Int64)), (.long (0 : Int64)), (.long (0 : Int64))] (.long (0 : Int64)) := Arv.set Ar15 q15 Sz15 Ng15 Hs15 Gf15 rfl W15 6 rfl (Nat.le_of_ble_eq_true rfl)
  refine own_step st15 ?_
  show own_Fin p e below s _ _ _ (T15.setTop (mkF m 45 #[.val (.int p0), .unset] [(.ref b1)]))
  refine own_step (fun _ k => XS.dup X15.here hx rfl (hb hby own_d6_45) rfl rfl k) ?_
  show own_Fin p e below s _ _ _ (T15.setTop (mkF m 46 #[.val (.int p0), .unset] [(.ref b1), (.ref b1)]))
  refine own_step (fun _ k => XS.bipush X15.here hx rfl (hb hby own_d6_46) k) ?_
  show own_Fin p e below s _ _ _ (T15.setTop (mkF m 48 #[.val (.int p0), .unset] [(.int (7 : Int32)), (.ref b1), (.ref b1)]))
  refine own_step (fun _ k => X15.ldc2Long hx hown (mvT hZ (own_w hw 47 rfl)) (g := (mkF m 48 #[.val (.int p0), .unset] [(.int (7 : Int32)), (.ref b1), (.ref b1)])) rfl (hb hby own_d6_48) _ k) ?_
  show own_Fin p e below s _ _ _ (T15.setTop (mkF m 51 #[.val (.int p0), .unset] [(.long (10000000 : Int64)), (.int (7 : Int32)), (.ref b1), (.ref b1)]))
  obtain ⟨cl17, Ar17, q17, Sz17, Ng17, Hs17, Gf17⟩ := id G16
  have hin17 : ¬ ((7 : Int32) < 0 ∨ cl17.slots.size ≤ ((7 : Int32)).toNatClampNeg) := inb_of Sz17 ⟨by decide, by decide⟩
  obtain ⟨T17, h17, X17, e17, W17, st17⟩ := stJ X15 hx hZ e15 Ar17 (j := (7 : Int32)) hin17 (g := (mkF m 51 #[.val (.int p0), .unset] [(.long (10000000 : Int64)), (.int (7 : Int32)), (.ref b1), (.ref b1)])) rfl rfl (hb hby own_d6_51)
  have N17 := Fr.snoc X17 N15 gg1
  have K17 : Keep h0 h17 [] := K15.wr W17 (Or.inr sz1)
  have Z17 : n0 ≤ h17.size := Nat.le_trans Z15 (Keep.of_wr W17).1
  have G18 : Arv Z h17 b1 k1 .long (19 : Int32) [(.long (1 : Int64)), (.long (10 : Int64)), (.long (100 : Int64)), (.long (1000 : Int64)), (.long (10000 : Int64)), (.long (100000 : Int64)), (.long (1000000 : Int64)), (.long (10000000 : Int64)), (.long (0 : Int64)), (.long (0 : Int64)), (.long (0 : Int64)), (.long (0 : Int64)), (.long (0 : Int64)), (.long (0 : Int64)), (.long (0 : Int64)), (.long (0 : Int64)), (.long (0 : Int64)), (.long (0 : Int64)), (.long (0 : Int64))] (.long (0 : Int64)) := Arv.set Ar17 q17 Sz17 Ng17 Hs17 Gf17 rfl W17 7 rfl (Nat.le_of_ble_eq_true rfl)
  refine own_step st17 ?_
  show own_Fin p e below s _ _ _ (T17.setTop (mkF m 52 #[.val (.int p0), .unset] [(.ref b1)]))
  refine own_step (fun _ k => XS.dup X17.here hx rfl (hb hby own_d6_52) rfl rfl k) ?_
  show own_Fin p e below s _ _ _ (T17.setTop (mkF m 53 #[.val (.int p0), .unset] [(.ref b1), (.ref b1)]))
  refine own_step (fun _ k => XS.bipush X17.here hx rfl (hb hby own_d6_53) k) ?_
  show own_Fin p e below s _ _ _ (T17.setTop (mkF m 55 #[.val (.int p0), .unset] [(.int (8 : Int32)), (.ref b1), (.ref b1)]))
  refine own_step (fun _ k => X17.ldc2Long hx hown (mvT hZ (own_w hw 48 rfl)) (g := (mkF m 55 #[.val (.int p0), .unset] [(.int (8 : Int32)), (.ref b1), (.ref b1)])) rfl (hb hby own_d6_55) _ k) ?_
  show own_Fin p e below s _ _ _ (T17.setTop (mkF m 58 #[.val (.int p0), .unset] [(.long (100000000 : Int64)), (.int (8 : Int32)), (.ref b1), (.ref b1)]))
  obtain ⟨cl19, Ar19, q19, Sz19, Ng19, Hs19, Gf19⟩ := id G18
  have hin19 : ¬ ((8 : Int32) < 0 ∨ cl19.slots.size ≤ ((8 : Int32)).toNatClampNeg) := inb_of Sz19 ⟨by decide, by decide⟩
  obtain ⟨T19, h19, X19, e19, W19, st19⟩ := stJ X17 hx hZ e17 Ar19 (j := (8 : Int32)) hin19 (g := (mkF m 58 #[.val (.int p0), .unset] [(.long (100000000 : Int64)), (.int (8 : Int32)), (.ref b1), (.ref b1)])) rfl rfl (hb hby own_d6_58)
  have N19 := Fr.snoc X19 N17 gg1
  have K19 : Keep h0 h19 [] := K17.wr W19 (Or.inr sz1)
  have Z19 : n0 ≤ h19.size := Nat.le_trans Z17 (Keep.of_wr W19).1
  have G20 : Arv Z h19 b1 k1 .long (19 : Int32) [(.long (1 : Int64)), (.long (10 : Int64)), (.long (100 : Int64)), (.long (1000 : Int64)), (.long (10000 : Int64)), (.long (100000 : Int64)), (.long (1000000 : Int64)), (.long (10000000 : Int64)), (.long (100000000 : Int64)), (.long (0 : Int64)), (.long (0 : Int64)), (.long (0 : Int64)), (.long (0 : Int64)), (.long (0 : Int64)), (.long (0 : Int64)), (.long (0 : Int64)), (.long (0 : Int64)), (.long (0 : Int64)), (.long (0 : Int64))] (.long (0 : Int64)) := Arv.set Ar19 q19 Sz19 Ng19 Hs19 Gf19 rfl W19 8 rfl (Nat.le_of_ble_eq_true rfl)
  refine own_step st19 ?_
  show own_Fin p e below s _ _ _ (T19.setTop (mkF m 59 #[.val (.int p0), .unset] [(.ref b1)]))
  refine own_step (fun _ k => XS.dup X19.here hx rfl (hb hby own_d6_59) rfl rfl k) ?_
  show own_Fin p e below s _ _ _ (T19.setTop (mkF m 60 #[.val (.int p0), .unset] [(.ref b1), (.ref b1)]))
  refine own_step (fun _ k => XS.bipush X19.here hx rfl (hb hby own_d6_60) k) ?_
  show own_Fin p e below s _ _ _ (T19.setTop (mkF m 62 #[.val (.int p0), .unset] [(.int (9 : Int32)), (.ref b1), (.ref b1)]))
  refine own_step (fun _ k => X19.ldc2Long hx hown (mvT hZ (own_w hw 49 rfl)) (g := (mkF m 62 #[.val (.int p0), .unset] [(.int (9 : Int32)), (.ref b1), (.ref b1)])) rfl (hb hby own_d6_62) _ k) ?_
  show own_Fin p e below s _ _ _ (T19.setTop (mkF m 65 #[.val (.int p0), .unset] [(.long (1000000000 : Int64)), (.int (9 : Int32)), (.ref b1), (.ref b1)]))
  obtain ⟨cl21, Ar21, q21, Sz21, Ng21, Hs21, Gf21⟩ := id G20
  have hin21 : ¬ ((9 : Int32) < 0 ∨ cl21.slots.size ≤ ((9 : Int32)).toNatClampNeg) := inb_of Sz21 ⟨by decide, by decide⟩
  obtain ⟨T21, h21, X21, e21, W21, st21⟩ := stJ X19 hx hZ e19 Ar21 (j := (9 : Int32)) hin21 (g := (mkF m 65 #[.val (.int p0), .unset] [(.long (1000000000 : Int64)), (.int (9 : Int32)), (.ref b1), (.ref b1)])) rfl rfl (hb hby own_d6_65)
  have N21 := Fr.snoc X21 N19 gg1
  have K21 : Keep h0 h21 [] := K19.wr W21 (Or.inr sz1)
  have Z21 : n0 ≤ h21.size := Nat.le_trans Z19 (Keep.of_wr W21).1
  have G22 : Arv Z h21 b1 k1 .long (19 : Int32) [(.long (1 : Int64)), (.long (10 : Int64)), (.long (100 : Int64)), (.long (1000 : Int64)), (.long (10000 : Int64)), (.long (100000 : Int64)), (.long (1000000 : Int64)), (.long (10000000 : Int64)), (.long (100000000 : Int64)), (.long (1000000000 : Int64)), (.long (0 : Int64)), (.long (0 : Int64)), (.long (0 : Int64)), (.long (0 : Int64)), (.long (0 : Int64)), (.long (0 : Int64)), (.long (0 : Int64)), (.long (0 : Int64)), (.long (0 : Int64))] (.long (0 : Int64)) := Arv.set Ar21 q21 Sz21 Ng21 Hs21 Gf21 rfl W21 9 rfl (Nat.le_of_ble_eq_true rfl)
  refine own_step st21 ?_
  show own_Fin p e below s _ _ _ (T21.setTop (mkF m 66 #[.val (.int p0), .unset] [(.ref b1)]))
  refine own_step (fun _ k => XS.dup X21.here hx rfl (hb hby own_d6_66) rfl rfl k) ?_
  show own_Fin p e below s _ _ _ (T21.setTop (mkF m 67 #[.val (.int p0), .unset] [(.ref b1), (.ref b1)]))
  refine own_step (fun _ k => XS.bipush X21.here hx rfl (hb hby own_d6_67) k) ?_
  show own_Fin p e below s _ _ _ (T21.setTop (mkF m 69 #[.val (.int p0), .unset] [(.int (10 : Int32)), (.ref b1), (.ref b1)]))
  refine own_step (fun _ k => X21.ldc2Long hx hown (mvT hZ (own_w hw 50 rfl)) (g := (mkF m 69 #[.val (.int p0), .unset] [(.int (10 : Int32)), (.ref b1), (.ref b1)])) rfl (hb hby own_d6_69) _ k) ?_
  show own_Fin p e below s _ _ _ (T21.setTop (mkF m 72 #[.val (.int p0), .unset] [(.long (10000000000 : Int64)), (.int (10 : Int32)), (.ref b1), (.ref b1)]))
  obtain ⟨cl23, Ar23, q23, Sz23, Ng23, Hs23, Gf23⟩ := id G22
  have hin23 : ¬ ((10 : Int32) < 0 ∨ cl23.slots.size ≤ ((10 : Int32)).toNatClampNeg) := inb_of Sz23 ⟨by decide, by decide⟩
  obtain ⟨T23, h23, X23, e23, W23, st23⟩ := stJ X21 hx hZ e21 Ar23 (j := (10 : Int32)) hin23 (g := (mkF m 72 #[.val (.int p0), .unset] [(.long (10000000000 : Int64)), (.int (10 : Int32)), (.ref b1), (.ref b1)])) rfl rfl (hb hby own_d6_72)
  have N23 := Fr.snoc X23 N21 gg1
  have K23 : Keep h0 h23 [] := K21.wr W23 (Or.inr sz1)
  have Z23 : n0 ≤ h23.size := Nat.le_trans Z21 (Keep.of_wr W23).1
  have G24 : Arv Z h23 b1 k1 .long (19 : Int32) [(.long (1 : Int64)), (.long (10 : Int64)), (.long (100 : Int64)), (.long (1000 : Int64)), (.long (10000 : Int64)), (.long (100000 : Int64)), (.long (1000000 : Int64)), (.long (10000000 : Int64)), (.long (100000000 : Int64)), (.long (1000000000 : Int64)), (.long (10000000000 : Int64)), (.long (0 : Int64)), (.long (0 : Int64)), (.long (0 : Int64)), (.long (0 : Int64)), (.long (0 : Int64)), (.long (0 : Int64)), (.long (0 : Int64)), (.long (0 : Int64))] (.long (0 : Int64)) := Arv.set Ar23 q23 Sz23 Ng23 Hs23 Gf23 rfl W23 10 rfl (Nat.le_of_ble_eq_true rfl)
  refine own_step st23 ?_
  show own_Fin p e below s _ _ _ (T23.setTop (mkF m 73 #[.val (.int p0), .unset] [(.ref b1)]))
  refine own_step (fun _ k => XS.dup X23.here hx rfl (hb hby own_d6_73) rfl rfl k) ?_
  show own_Fin p e below s _ _ _ (T23.setTop (mkF m 74 #[.val (.int p0), .unset] [(.ref b1), (.ref b1)]))
  refine own_step (fun _ k => XS.bipush X23.here hx rfl (hb hby own_d6_74) k) ?_
  show own_Fin p e below s _ _ _ (T23.setTop (mkF m 76 #[.val (.int p0), .unset] [(.int (11 : Int32)), (.ref b1), (.ref b1)]))
  refine own_step (fun _ k => X23.ldc2Long hx hown (mvT hZ (own_w hw 51 rfl)) (g := (mkF m 76 #[.val (.int p0), .unset] [(.int (11 : Int32)), (.ref b1), (.ref b1)])) rfl (hb hby own_d6_76) _ k) ?_
  show own_Fin p e below s _ _ _ (T23.setTop (mkF m 79 #[.val (.int p0), .unset] [(.long (100000000000 : Int64)), (.int (11 : Int32)), (.ref b1), (.ref b1)]))
  obtain ⟨cl25, Ar25, q25, Sz25, Ng25, Hs25, Gf25⟩ := id G24
  have hin25 : ¬ ((11 : Int32) < 0 ∨ cl25.slots.size ≤ ((11 : Int32)).toNatClampNeg) := inb_of Sz25 ⟨by decide, by decide⟩
  obtain ⟨T25, h25, X25, e25, W25, st25⟩ := stJ X23 hx hZ e23 Ar25 (j := (11 : Int32)) hin25 (g := (mkF m 79 #[.val (.int p0), .unset] [(.long (100000000000 : Int64)), (.int (11 : Int32)), (.ref b1), (.ref b1)])) rfl rfl (hb hby own_d6_79)
  have N25 := Fr.snoc X25 N23 gg1
  have K25 : Keep h0 h25 [] := K23.wr W25 (Or.inr sz1)
  have Z25 : n0 ≤ h25.size := Nat.le_trans Z23 (Keep.of_wr W25).1
  have G26 : Arv Z h25 b1 k1 .long (19 : Int32) [(.long (1 : Int64)), (.long (10 : Int64)), (.long (100 : Int64)), (.long (1000 : Int64)), (.long (10000 : Int64)), (.long (100000 : Int64)), (.long (1000000 : Int64)), (.long (10000000 : Int64)), (.long (100000000 : Int64)), (.long (1000000000 : Int64)), (.long (10000000000 : Int64)), (.long (100000000000 : Int64)), (.long (0 : Int64)), (.long (0 : Int64)), (.long (0 : Int64)), (.long (0 : Int64)), (.long (0 : Int64)), (.long (0 : Int64)), (.long (0 : Int64))] (.long (0 : Int64)) := Arv.set Ar25 q25 Sz25 Ng25 Hs25 Gf25 rfl W25 11 rfl (Nat.le_of_ble_eq_true rfl)
  refine own_step st25 ?_
  show own_Fin p e below s _ _ _ (T25.setTop (mkF m 80 #[.val (.int p0), .unset] [(.ref b1)]))
  refine own_step (fun _ k => XS.dup X25.here hx rfl (hb hby own_d6_80) rfl rfl k) ?_
  show own_Fin p e below s _ _ _ (T25.setTop (mkF m 81 #[.val (.int p0), .unset] [(.ref b1), (.ref b1)]))
  refine own_step (fun _ k => XS.bipush X25.here hx rfl (hb hby own_d6_81) k) ?_
  show own_Fin p e below s _ _ _ (T25.setTop (mkF m 83 #[.val (.int p0), .unset] [(.int (12 : Int32)), (.ref b1), (.ref b1)]))
  refine own_step (fun _ k => X25.ldc2Long hx hown (mvT hZ (own_w hw 52 rfl)) (g := (mkF m 83 #[.val (.int p0), .unset] [(.int (12 : Int32)), (.ref b1), (.ref b1)])) rfl (hb hby own_d6_83) _ k) ?_
  show own_Fin p e below s _ _ _ (T25.setTop (mkF m 86 #[.val (.int p0), .unset] [(.long (1000000000000 : Int64)), (.int (12 : Int32)), (.ref b1), (.ref b1)]))
  obtain ⟨cl27, Ar27, q27, Sz27, Ng27, Hs27, Gf27⟩ := id G26
  have hin27 : ¬ ((12 : Int32) < 0 ∨ cl27.slots.size ≤ ((12 : Int32)).toNatClampNeg) := inb_of Sz27 ⟨by decide, by decide⟩
  obtain ⟨T27, h27, X27, e27, W27, st27⟩ := stJ X25 hx hZ e25 Ar27 (j := (12 : Int32)) hin27 (g := (mkF m 86 #[.val (.int p0), .unset] [(.long (1000000000000 : Int64)), (.int (12 : Int32)), (.ref b1), (.ref b1)])) rfl rfl (hb hby own_d6_86)
  have N27 := Fr.snoc X27 N25 gg1
  have K27 : Keep h0 h27 [] := K25.wr W27 (Or.inr sz1)
  have Z27 : n0 ≤ h27.size := Nat.le_trans Z25 (Keep.of_wr W27).1
  have G28 : Arv Z h27 b1 k1 .long (19 : Int32) [(.long (1 : Int64)), (.long (10 : Int64)), (.long (100 : Int64)), (.long (1000 : Int64)), (.long (10000 : Int64)), (.long (100000 : Int64)), (.long (1000000 : Int64)), (.long (10000000 : Int64)), (.long (100000000 : Int64)), (.long (1000000000 : Int64)), (.long (10000000000 : Int64)), (.long (100000000000 : Int64)), (.long (1000000000000 : Int64)), (.long (0 : Int64)), (.long (0 : Int64)), (.long (0 : Int64)), (.long (0 : Int64)), (.long (0 : Int64)), (.long (0 : Int64))] (.long (0 : Int64)) := Arv.set Ar27 q27 Sz27 Ng27 Hs27 Gf27 rfl W27 12 rfl (Nat.le_of_ble_eq_true rfl)
  refine own_step st27 ?_
  show own_Fin p e below s _ _ _ (T27.setTop (mkF m 87 #[.val (.int p0), .unset] [(.ref b1)]))
  refine own_step (fun _ k => XS.dup X27.here hx rfl (hb hby own_d6_87) rfl rfl k) ?_
  show own_Fin p e below s _ _ _ (T27.setTop (mkF m 88 #[.val (.int p0), .unset] [(.ref b1), (.ref b1)]))
  refine own_step (fun _ k => XS.bipush X27.here hx rfl (hb hby own_d6_88) k) ?_
  show own_Fin p e below s _ _ _ (T27.setTop (mkF m 90 #[.val (.int p0), .unset] [(.int (13 : Int32)), (.ref b1), (.ref b1)]))
  refine own_step (fun _ k => X27.ldc2Long hx hown (mvT hZ (own_w hw 53 rfl)) (g := (mkF m 90 #[.val (.int p0), .unset] [(.int (13 : Int32)), (.ref b1), (.ref b1)])) rfl (hb hby own_d6_90) _ k) ?_
  show own_Fin p e below s _ _ _ (T27.setTop (mkF m 93 #[.val (.int p0), .unset] [(.long (10000000000000 : Int64)), (.int (13 : Int32)), (.ref b1), (.ref b1)]))
  obtain ⟨cl29, Ar29, q29, Sz29, Ng29, Hs29, Gf29⟩ := id G28
  have hin29 : ¬ ((13 : Int32) < 0 ∨ cl29.slots.size ≤ ((13 : Int32)).toNatClampNeg) := inb_of Sz29 ⟨by decide, by decide⟩
  obtain ⟨T29, h29, X29, e29, W29, st29⟩ := stJ X27 hx hZ e27 Ar29 (j := (13 : Int32)) hin29 (g := (mkF m 93 #[.val (.int p0), .unset] [(.long (10000000000000 : Int64)), (.int (13 : Int32)), (.ref b1), (.ref b1)])) rfl rfl (hb hby own_d6_93)
  have N29 := Fr.snoc X29 N27 gg1
  have K29 : Keep h0 h29 [] := K27.wr W29 (Or.inr sz1)
  have Z29 : n0 ≤ h29.size := Nat.le_trans Z27 (Keep.of_wr W29).1
  have G30 : Arv Z h29 b1 k1 .long (19 : Int32) [(.long (1 : Int64)), (.long (10 : Int64)), (.long (100 : Int64)), (.long (1000 : Int64)), (.long (10000 : Int64)), (.long (100000 : Int64)), (.long (1000000 : Int64)), (.long (10000000 : Int64)), (.long (100000000 : Int64)), (.long (1000000000 : Int64)), (.long (10000000000 : Int64)), (.long (100000000000 : Int64)), (.long (1000000000000 : Int64)), (.long (10000000000000 : Int64)), (.long (0 : Int64)), (.long (0 : Int64)), (.long (0 : Int64)), (.long (0 : Int64)), (.long (0 : Int64))] (.long (0 : Int64)) := Arv.set Ar29 q29 Sz29 Ng29 Hs29 Gf29 rfl W29 13 rfl (Nat.le_of_ble_eq_true rfl)
  refine own_step st29 ?_
  show own_Fin p e below s _ _ _ (T29.setTop (mkF m 94 #[.val (.int p0), .unset] [(.ref b1)]))
  refine own_step (fun _ k => XS.dup X29.here hx rfl (hb hby own_d6_94) rfl rfl k) ?_
  show own_Fin p e below s _ _ _ (T29.setTop (mkF m 95 #[.val (.int p0), .unset] [(.ref b1), (.ref b1)]))
  refine own_step (fun _ k => XS.bipush X29.here hx rfl (hb hby own_d6_95) k) ?_
  show own_Fin p e below s _ _ _ (T29.setTop (mkF m 97 #[.val (.int p0), .unset] [(.int (14 : Int32)), (.ref b1), (.ref b1)]))
  refine own_step (fun _ k => X29.ldc2Long hx hown (mvT hZ (own_w hw 54 rfl)) (g := (mkF m 97 #[.val (.int p0), .unset] [(.int (14 : Int32)), (.ref b1), (.ref b1)])) rfl (hb hby own_d6_97) _ k) ?_
  show own_Fin p e below s _ _ _ (T29.setTop (mkF m 100 #[.val (.int p0), .unset] [(.long (100000000000000 : Int64)), (.int (14 : Int32)), (.ref b1), (.ref b1)]))
  obtain ⟨cl31, Ar31, q31, Sz31, Ng31, Hs31, Gf31⟩ := id G30
  have hin31 : ¬ ((14 : Int32) < 0 ∨ cl31.slots.size ≤ ((14 : Int32)).toNatClampNeg) := inb_of Sz31 ⟨by decide, by decide⟩
  obtain ⟨T31, h31, X31, e31, W31, st31⟩ := stJ X29 hx hZ e29 Ar31 (j := (14 : Int32)) hin31 (g := (mkF m 100 #[.val (.int p0), .unset] [(.long (100000000000000 : Int64)), (.int (14 : Int32)), (.ref b1), (.ref b1)])) rfl rfl (hb hby own_d6_100)
  have N31 := Fr.snoc X31 N29 gg1
  have K31 : Keep h0 h31 [] := K29.wr W31 (Or.inr sz1)
  have Z31 : n0 ≤ h31.size := Nat.le_trans Z29 (Keep.of_wr W31).1
  have G32 : Arv Z h31 b1 k1 .long (19 : Int32) [(.long (1 : Int64)), (.long (10 : Int64)), (.long (100 : Int64)), (.long (1000 : Int64)), (.long (10000 : Int64)), (.long (100000 : Int64)), (.long (1000000 : Int64)), (.long (10000000 : Int64)), (.long (100000000 : Int64)), (.long (1000000000 : Int64)), (.long (10000000000 : Int64)), (.long (100000000000 : Int64)), (.long (1000000000000 : Int64)), (.long (10000000000000 : Int64)), (.long (100000000000000 : Int64)), (.long (0 : Int64)), (.long (0 : Int64)), (.long (0 : Int64)), (.long (0 : Int64))] (.long (0 : Int64)) := Arv.set Ar31 q31 Sz31 Ng31 Hs31 Gf31 rfl W31 14 rfl (Nat.le_of_ble_eq_true rfl)
  refine own_step st31 ?_
  show own_Fin p e below s _ _ _ (T31.setTop (mkF m 101 #[.val (.int p0), .unset] [(.ref b1)]))
  refine own_step (fun _ k => XS.dup X31.here hx rfl (hb hby own_d6_101) rfl rfl k) ?_
  show own_Fin p e below s _ _ _ (T31.setTop (mkF m 102 #[.val (.int p0), .unset] [(.ref b1), (.ref b1)]))
  refine own_step (fun _ k => XS.bipush X31.here hx rfl (hb hby own_d6_102) k) ?_
  show own_Fin p e below s _ _ _ (T31.setTop (mkF m 104 #[.val (.int p0), .unset] [(.int (15 : Int32)), (.ref b1), (.ref b1)]))
  refine own_step (fun _ k => X31.ldc2Long hx hown (mvT hZ (own_w hw 55 rfl)) (g := (mkF m 104 #[.val (.int p0), .unset] [(.int (15 : Int32)), (.ref b1), (.ref b1)])) rfl (hb hby own_d6_104) _ k) ?_
  show own_Fin p e below s _ _ _ (T31.setTop (mkF m 107 #[.val (.int p0), .unset] [(.long (1000000000000000 : Int64)), (.int (15 : Int32)), (.ref b1), (.ref b1)]))
  obtain ⟨cl33, Ar33, q33, Sz33, Ng33, Hs33, Gf33⟩ := id G32
  have hin33 : ¬ ((15 : Int32) < 0 ∨ cl33.slots.size ≤ ((15 : Int32)).toNatClampNeg) := inb_of Sz33 ⟨by decide, by decide⟩
  obtain ⟨T33, h33, X33, e33, W33, st33⟩ := stJ X31 hx hZ e31 Ar33 (j := (15 : Int32)) hin33 (g := (mkF m 107 #[.val (.int p0), .unset] [(.long (1000000000000000 : Int64)), (.int (15 : Int32)), (.ref b1), (.ref b1)])) rfl rfl (hb hby own_d6_107)
  have N33 := Fr.snoc X33 N31 gg1
  have K33 : Keep h0 h33 [] := K31.wr W33 (Or.inr sz1)
  have Z33 : n0 ≤ h33.size := Nat.le_trans Z31 (Keep.of_wr W33).1
  have G34 : Arv Z h33 b1 k1 .long (19 : Int32) [(.long (1 : Int64)), (.long (10 : Int64)), (.long (100 : Int64)), (.long (1000 : Int64)), (.long (10000 : Int64)), (.long (100000 : Int64)), (.long (1000000 : Int64)), (.long (10000000 : Int64)), (.long (100000000 : Int64)), (.long (1000000000 : Int64)), (.long (10000000000 : Int64)), (.long (100000000000 : Int64)), (.long (1000000000000 : Int64)), (.long (10000000000000 : Int64)), (.long (100000000000000 : Int64)), (.long (1000000000000000 : Int64)), (.long (0 : Int64)), (.long (0 : Int64)), (.long (0 : Int64))] (.long (0 : Int64)) := Arv.set Ar33 q33 Sz33 Ng33 Hs33 Gf33 rfl W33 15 rfl (Nat.le_of_ble_eq_true rfl)
  refine own_step st33 ?_
  show own_Fin p e below s _ _ _ (T33.setTop (mkF m 108 #[.val (.int p0), .unset] [(.ref b1)]))
  refine own_step (fun _ k => XS.dup X33.here hx rfl (hb hby own_d6_108) rfl rfl k) ?_
  show own_Fin p e below s _ _ _ (T33.setTop (mkF m 109 #[.val (.int p0), .unset] [(.ref b1), (.ref b1)]))
  refine own_step (fun _ k => XS.bipush X33.here hx rfl (hb hby own_d6_109) k) ?_
  show own_Fin p e below s _ _ _ (T33.setTop (mkF m 111 #[.val (.int p0), .unset] [(.int (16 : Int32)), (.ref b1), (.ref b1)]))
  refine own_step (fun _ k => X33.ldc2Long hx hown (mvT hZ (own_w hw 56 rfl)) (g := (mkF m 111 #[.val (.int p0), .unset] [(.int (16 : Int32)), (.ref b1), (.ref b1)])) rfl (hb hby own_d6_111) _ k) ?_
  show own_Fin p e below s _ _ _ (T33.setTop (mkF m 114 #[.val (.int p0), .unset] [(.long (10000000000000000 : Int64)), (.int (16 : Int32)), (.ref b1), (.ref b1)]))
  obtain ⟨cl35, Ar35, q35, Sz35, Ng35, Hs35, Gf35⟩ := id G34
  have hin35 : ¬ ((16 : Int32) < 0 ∨ cl35.slots.size ≤ ((16 : Int32)).toNatClampNeg) := inb_of Sz35 ⟨by decide, by decide⟩
  obtain ⟨T35, h35, X35, e35, W35, st35⟩ := stJ X33 hx hZ e33 Ar35 (j := (16 : Int32)) hin35 (g := (mkF m 114 #[.val (.int p0), .unset] [(.long (10000000000000000 : Int64)), (.int (16 : Int32)), (.ref b1), (.ref b1)])) rfl rfl (hb hby own_d6_114)
  have N35 := Fr.snoc X35 N33 gg1
  have K35 : Keep h0 h35 [] := K33.wr W35 (Or.inr sz1)
  have Z35 : n0 ≤ h35.size := Nat.le_trans Z33 (Keep.of_wr W35).1
  have G36 : Arv Z h35 b1 k1 .long (19 : Int32) [(.long (1 : Int64)), (.long (10 : Int64)), (.long (100 : Int64)), (.long (1000 : Int64)), (.long (10000 : Int64)), (.long (100000 : Int64)), (.long (1000000 : Int64)), (.long (10000000 : Int64)), (.long (100000000 : Int64)), (.long (1000000000 : Int64)), (.long (10000000000 : Int64)), (.long (100000000000 : Int64)), (.long (1000000000000 : Int64)), (.long (10000000000000 : Int64)), (.long (100000000000000 : Int64)), (.long (1000000000000000 : Int64)), (.long (10000000000000000 : Int64)), (.long (0 : Int64)), (.long (0 : Int64))] (.long (0 : Int64)) := Arv.set Ar35 q35 Sz35 Ng35 Hs35 Gf35 rfl W35 16 rfl (Nat.le_of_ble_eq_true rfl)
  refine own_step st35 ?_
  show own_Fin p e below s _ _ _ (T35.setTop (mkF m 115 #[.val (.int p0), .unset] [(.ref b1)]))
  refine own_step (fun _ k => XS.dup X35.here hx rfl (hb hby own_d6_115) rfl rfl k) ?_
  show own_Fin p e below s _ _ _ (T35.setTop (mkF m 116 #[.val (.int p0), .unset] [(.ref b1), (.ref b1)]))
  refine own_step (fun _ k => XS.bipush X35.here hx rfl (hb hby own_d6_116) k) ?_
  show own_Fin p e below s _ _ _ (T35.setTop (mkF m 118 #[.val (.int p0), .unset] [(.int (17 : Int32)), (.ref b1), (.ref b1)]))
  refine own_step (fun _ k => X35.ldc2Long hx hown (mvT hZ (own_w hw 57 rfl)) (g := (mkF m 118 #[.val (.int p0), .unset] [(.int (17 : Int32)), (.ref b1), (.ref b1)])) rfl (hb hby own_d6_118) _ k) ?_
  show own_Fin p e below s _ _ _ (T35.setTop (mkF m 121 #[.val (.int p0), .unset] [(.long (100000000000000000 : Int64)), (.int (17 : Int32)), (.ref b1), (.ref b1)]))
  obtain ⟨cl37, Ar37, q37, Sz37, Ng37, Hs37, Gf37⟩ := id G36
  have hin37 : ¬ ((17 : Int32) < 0 ∨ cl37.slots.size ≤ ((17 : Int32)).toNatClampNeg) := inb_of Sz37 ⟨by decide, by decide⟩
  obtain ⟨T37, h37, X37, e37, W37, st37⟩ := stJ X35 hx hZ e35 Ar37 (j := (17 : Int32)) hin37 (g := (mkF m 121 #[.val (.int p0), .unset] [(.long (100000000000000000 : Int64)), (.int (17 : Int32)), (.ref b1), (.ref b1)])) rfl rfl (hb hby own_d6_121)
  have N37 := Fr.snoc X37 N35 gg1
  have K37 : Keep h0 h37 [] := K35.wr W37 (Or.inr sz1)
  have Z37 : n0 ≤ h37.size := Nat.le_trans Z35 (Keep.of_wr W37).1
  have G38 : Arv Z h37 b1 k1 .long (19 : Int32) [(.long (1 : Int64)), (.long (10 : Int64)), (.long (100 : Int64)), (.long (1000 : Int64)), (.long (10000 : Int64)), (.long (100000 : Int64)), (.long (1000000 : Int64)), (.long (10000000 : Int64)), (.long (100000000 : Int64)), (.long (1000000000 : Int64)), (.long (10000000000 : Int64)), (.long (100000000000 : Int64)), (.long (1000000000000 : Int64)), (.long (10000000000000 : Int64)), (.long (100000000000000 : Int64)), (.long (1000000000000000 : Int64)), (.long (10000000000000000 : Int64)), (.long (100000000000000000 : Int64)), (.long (0 : Int64))] (.long (0 : Int64)) := Arv.set Ar37 q37 Sz37 Ng37 Hs37 Gf37 rfl W37 17 rfl (Nat.le_of_ble_eq_true rfl)
  refine own_step st37 ?_
  show own_Fin p e below s _ _ _ (T37.setTop (mkF m 122 #[.val (.int p0), .unset] [(.ref b1)]))
  refine own_step (fun _ k => XS.dup X37.here hx rfl (hb hby own_d6_122) rfl rfl k) ?_
  show own_Fin p e below s _ _ _ (T37.setTop (mkF m 123 #[.val (.int p0), .unset] [(.ref b1), (.ref b1)]))
  refine own_step (fun _ k => XS.bipush X37.here hx rfl (hb hby own_d6_123) k) ?_
  show own_Fin p e below s _ _ _ (T37.setTop (mkF m 125 #[.val (.int p0), .unset] [(.int (18 : Int32)), (.ref b1), (.ref b1)]))
  refine own_step (fun _ k => X37.ldc2Long hx hown (mvT hZ (own_w hw 58 rfl)) (g := (mkF m 125 #[.val (.int p0), .unset] [(.int (18 : Int32)), (.ref b1), (.ref b1)])) rfl (hb hby own_d6_125) _ k) ?_
  show own_Fin p e below s _ _ _ (T37.setTop (mkF m 128 #[.val (.int p0), .unset] [(.long (1000000000000000000 : Int64)), (.int (18 : Int32)), (.ref b1), (.ref b1)]))
  obtain ⟨cl39, Ar39, q39, Sz39, Ng39, Hs39, Gf39⟩ := id G38
  have hin39 : ¬ ((18 : Int32) < 0 ∨ cl39.slots.size ≤ ((18 : Int32)).toNatClampNeg) := inb_of Sz39 ⟨by decide, by decide⟩
  obtain ⟨T39, h39, X39, e39, W39, st39⟩ := stJ X37 hx hZ e37 Ar39 (j := (18 : Int32)) hin39 (g := (mkF m 128 #[.val (.int p0), .unset] [(.long (1000000000000000000 : Int64)), (.int (18 : Int32)), (.ref b1), (.ref b1)])) rfl rfl (hb hby own_d6_128)
  have N39 := Fr.snoc X39 N37 gg1
  have K39 : Keep h0 h39 [] := K37.wr W39 (Or.inr sz1)
  have Z39 : n0 ≤ h39.size := Nat.le_trans Z37 (Keep.of_wr W39).1
  have G40 : Arv Z h39 b1 k1 .long (19 : Int32) [(.long (1 : Int64)), (.long (10 : Int64)), (.long (100 : Int64)), (.long (1000 : Int64)), (.long (10000 : Int64)), (.long (100000 : Int64)), (.long (1000000 : Int64)), (.long (10000000 : Int64)), (.long (100000000 : Int64)), (.long (1000000000 : Int64)), (.long (10000000000 : Int64)), (.long (100000000000 : Int64)), (.long (1000000000000 : Int64)), (.long (10000000000000 : Int64)), (.long (100000000000000 : Int64)), (.long (1000000000000000 : Int64)), (.long (10000000000000000 : Int64)), (.long (100000000000000000 : Int64)), (.long (1000000000000000000 : Int64))] (.long (0 : Int64)) := Arv.set Ar39 q39 Sz39 Ng39 Hs39 Gf39 rfl W39 18 rfl (Nat.le_of_ble_eq_true rfl)
  refine own_step st39 ?_
  show own_Fin p e below s _ _ _ (T39.setTop (mkF m 129 #[.val (.int p0), .unset] [(.ref b1)]))
  refine own_step (fun _ k => XS.astoreN X39.here hx rfl (hb hby own_d6_129) rfl rfl (l' := #[.val (.int p0), .val (.ref b1)]) rfl k) ?_
  show own_Fin p e below s _ _ _ (T39.setTop (mkF m 130 #[.val (.int p0), .val (.ref b1)] []))
  refine own_step (fun _ k => XS.aloadN X39.here hx rfl (hb hby own_d6_130) rfl rfl k) ?_
  show own_Fin p e below s _ _ _ (T39.setTop (mkF m 131 #[.val (.int p0), .val (.ref b1)] [(.ref b1)]))
  refine own_step (fun _ k => XS.iloadN X39.here hx rfl (hb hby own_d6_131) rfl k) ?_
  show own_Fin p e below s _ _ _ (T39.setTop (mkF m 132 #[.val (.int p0), .val (.ref b1)] [(.int p0), (.ref b1)]))
  obtain ⟨cl41, Ar41, q41, Sz41, Ng41, Hs41, Gf41⟩ := id G40
  have hin41 : ¬ (p0 < 0 ∨ cl41.slots.size ≤ (p0).toNatClampNeg) := inb_of Sz41 hin
  refine own_step (fun _ k => X39.laload hx (j := p0) (v := (.long (own_P0 p0))) (by rw [e39]; exact Ar41.1) (State.isArrayOf_alike hZ.alike Ar41.2.1) Ar41.2.2 hin41 (own_getJ (vs := [(1 : Int64), (10 : Int64), (100 : Int64), (1000 : Int64), (10000 : Int64), (100000 : Int64), (1000000 : Int64), (10000000 : Int64), (100000000 : Int64), (1000000000 : Int64), (10000000000 : Int64), (100000000000 : Int64), (1000000000000 : Int64), (10000000000000 : Int64), (100000000000000 : Int64), (1000000000000000 : Int64), (10000000000000000 : Int64), (100000000000000000 : Int64), (1000000000000000000 : Int64)]) Hs41 hin41) (g := (mkF m 132 #[.val (.int p0), .val (.ref b1)] [(.int p0), (.ref b1)])) rfl rfl (hb hby own_d6_132) _ k) ?_
  show own_Fin p e below s _ _ _ (T39.setTop (mkF m 133 #[.val (.int p0), .val (.ref b1)] [(.long (own_P0 p0))]))
  exact own_ret X39 hlk (v := some (.long (own_P0 p0))) (fun h => by rw [Bd.returns] at h; cases h) (by decide) (by decide) (by show own_Q6 Z p0 h0 n0 _ T39.heap _; rw [e39]; exact ⟨N39, K39, rfl⟩) (fun fs hr => retOut X39 hx Bd.returns rfl (Or.inr (Or.inl ⟨rfl, rfl, _, rfl⟩)) (hb hby own_d6_133) hr)

def own_r7 (q1 : Int64) (wprecision_ad0 : Int32) : Int32 := (if wprecision_ad0 < (19 : Int32) then (if (0 : Int32) < (lcmpW q1 (-(own_P0 wprecision_ad0))) then (if (lcmpW q1 (own_P0 wprecision_ad0)) < (0 : Int32) then (1 : Int32) else (0 : Int32)) else (0 : Int32)) else (1 : Int32))
theorem own_d7_0 : decode prog_40_method_7_code 0 = .ok (.aload_n 0, 1) := by decide +kernel
theorem own_d7_1 : decode prog_40_method_7_code 1 = .ok (.getfield 40, 3) := by decide +kernel
theorem own_d7_4 : decode prog_40_method_7_code 4 = .ok (.getstatic 71, 3) := by decide +kernel
theorem own_d7_7 : decode prog_40_method_7_code 7 = .ok (.arraylength, 1) := by decide +kernel
theorem own_d7_8 : decode prog_40_method_7_code 8 = .ok (.if_icmp .lt 5, 3) := by decide +kernel
theorem own_d7_11 : decode prog_40_method_7_code 11 = .ok (.iconst 1, 1) := by decide +kernel
theorem own_d7_12 : decode prog_40_method_7_code 12 = .ok (.ireturn, 1) := by decide +kernel
theorem own_d7_13 : decode prog_40_method_7_code 13 = .ok (.getstatic 71, 3) := by decide +kernel
theorem own_d7_16 : decode prog_40_method_7_code 16 = .ok (.aload_n 0, 1) := by decide +kernel
theorem own_d7_17 : decode prog_40_method_7_code 17 = .ok (.getfield 40, 3) := by decide +kernel
theorem own_d7_20 : decode prog_40_method_7_code 20 = .ok (.laload, 1) := by decide +kernel
theorem own_d7_21 : decode prog_40_method_7_code 21 = .ok (.lstore_n 3, 1) := by decide +kernel
theorem own_d7_22 : decode prog_40_method_7_code 22 = .ok (.lload_n 1, 1) := by decide +kernel
theorem own_d7_23 : decode prog_40_method_7_code 23 = .ok (.lload_n 3, 1) := by decide +kernel
theorem own_d7_24 : decode prog_40_method_7_code 24 = .ok (.lneg, 1) := by decide +kernel
theorem own_d7_25 : decode prog_40_method_7_code 25 = .ok (.lcmp, 1) := by decide +kernel
theorem own_d7_26 : decode prog_40_method_7_code 26 = .ok (.ifCond .le 13, 3) := by decide +kernel
theorem own_d7_29 : decode prog_40_method_7_code 29 = .ok (.lload_n 1, 1) := by decide +kernel
theorem own_d7_30 : decode prog_40_method_7_code 30 = .ok (.lload_n 3, 1) := by decide +kernel
theorem own_d7_31 : decode prog_40_method_7_code 31 = .ok (.lcmp, 1) := by decide +kernel
theorem own_d7_32 : decode prog_40_method_7_code 32 = .ok (.ifCond .ge 7, 3) := by decide +kernel
theorem own_d7_35 : decode prog_40_method_7_code 35 = .ok (.iconst 1, 1) := by decide +kernel
theorem own_d7_36 : decode prog_40_method_7_code 36 = .ok (.goto 4, 3) := by decide +kernel
theorem own_d7_39 : decode prog_40_method_7_code 39 = .ok (.iconst 0, 1) := by decide +kernel
theorem own_d7_40 : decode prog_40_method_7_code 40 = .ok (.ireturn, 1) := by decide +kernel
theorem own_ef7 (m : MethodId) (ad0 : Addr) (q1 : Int64) : entryFrame m #[(.ref ad0), (.long q1)] 5 = mkF m 0 #[.val (.ref ad0), .val (.long q1), .second, .unset, .unset] [] := by first | (simp [entryFrame, mkF, argsToLocals, Value.category]; done) | rfl
def own_Q7 (Z : State) (ad0 : Addr) (q1 : Int64) (wprecision_ad0 : Int32) (s_LONG_POWERS_OF_TEN : Addr) (k_s_LONG_POWERS_OF_TEN : ClassId) (h0 : Heap) (n0 : Nat) (v : Option Value) (h : Heap) (L : List Loc) : Prop := v = some (.int (own_r7 q1 wprecision_ad0)) ∧ Fr n0 L ∧ h = h0
set_option maxRecDepth 65536 in
set_option maxHeartbeats 40000000 in
theorem own_rm7 (l : Launch) (Z : State) (a0 : Array Value) (hw : ∀ d ∈ tables_1, d.before a0 Z = true) (ws : List Jvm.Cond) (ad0 : Addr) (q1 : Int64) (wprecision_ad0 : Int32) (s_LONG_POWERS_OF_TEN : Addr) (k_s_LONG_POWERS_OF_TEN : ClassId) (h0 : Heap) (n0 : Nat) (Z0 : n0 ≤ h0.size) (F_precision_ad0 : Fld Z h0 ad0 "com/example/castwright/castwright/model/DecimalType" "precision" "I" (.int wprecision_ad0)) (S_LONG_POWERS_OF_TEN : Sta Z h0 "com/example/castwright/castwright/model/DecimalType" "LONG_POWERS_OF_TEN" "[J" (.ref s_LONG_POWERS_OF_TEN)) (A_s_LONG_POWERS_OF_TEN : Arv Z h0 s_LONG_POWERS_OF_TEN k_s_LONG_POWERS_OF_TEN .long (19 : Int32) [(.long (1 : Int64)), (.long (10 : Int64)), (.long (100 : Int64)), (.long (1000 : Int64)), (.long (10000 : Int64)), (.long (100000 : Int64)), (.long (1000000 : Int64)), (.long (10000000 : Int64)), (.long (100000000 : Int64)), (.long (1000000000 : Int64)), (.long (10000000000 : Int64)), (.long (100000000000 : Int64)), (.long (1000000000000 : Int64)), (.long (10000000000000 : Int64)), (.long (100000000000000 : Int64)), (.long (1000000000000000 : Int64)), (.long (10000000000000000 : Int64)), (.long (100000000000000000 : Int64)), (.long (1000000000000000000 : Int64))] (.long (0 : Int64))) (hneg : ¬ (wprecision_ad0 < (0 : Int32))) :
    MetFree l (⟨"com/example/castwright/castwright/model/DecimalType", "holds", "(J)Z"⟩ : MethodName) (head1 (Jvm.Cond.code (⟨"com/example/castwright/castwright/model/DecimalType", "holds", "(J)Z"⟩ : MethodName) prog_40_method_7_code 5 (some .boolean) :: ws) ({ frames := 0, cells := 0, slots := 0, locals := 0 } : Room)) (fun a U => a = #[(.ref ad0), (.long q1)] ∧ Z.Warmed39 U.vm ∧ U.heap = h0) (fun _ _ _ _ _ => True) (fun _ U o U' => ∃ v L, o = .returned v ∧ own_Q7 Z ad0 q1 wprecision_ad0 s_LONG_POWERS_OF_TEN k_s_LONG_POWERS_OF_TEN h0 n0 v U'.heap L ∧ FrameEnd U o U' L ({ frames := 0, cells := 0, slots := 0, locals := 0 } : Room).cells ({ frames := 0, cells := 0, slots := 0, locals := 0 } : Room).slots) := by
  refine MetFree.of_bodySF (plainFor_of_name own_pn2) hisR ?_
  intro p e s m args below meth c s₁ Bd hml0 hP hK
  obtain ⟨rfl, hZ, hh⟩ := hP
  have hx := Bd.exec
  have hby := Bd.bytes
  have hlk := Bd.notSynchronized
  have hml : c.maxLocals = 5 := hml0
  have hown : s.vm.findClass "com/example/castwright/castwright/model/DecimalType" = some m.cls := findClass_of_methodNamed Bd.named
  have hnm := (name_of_methodNamed Bd.named Bd.method).1
  have X0 : Stand p l e ({ frames := 0, cells := 0, slots := 0, locals := 0 } : Room) s m #[(.ref ad0), (.long q1)] below meth c s₁ [] 0 0 := Stand.of_body Bd
  have e0 : s₁.heap = h0 := by rw [← hh, Bd.state]; rfl
  have N0 := Fr.nil n0
  have KR : Keep h0 h0 [] := Keep.refl _ _
  show own_Fin p e below s ({ frames := 0, cells := 0, slots := 0, locals := 0 } : Room).cells ({ frames := 0, cells := 0, slots := 0, locals := 0 } : Room).slots (own_Q7 Z ad0 q1 wprecision_ad0 s_LONG_POWERS_OF_TEN k_s_LONG_POWERS_OF_TEN h0 n0) (s₁.setTop (entryFrame m #[(.ref ad0), (.long q1)] 5))
  refine own_cast (own_ef7 m ad0 q1) ?_
  refine own_step (fun _ k => XS.aloadN X0.here hx rfl (hb hby own_d7_0) rfl rfl k) ?_
  show own_Fin p e below s _ _ _ (s₁.setTop (mkF m 1 #[.val (.ref ad0), .val (.long q1), .second, .unset, .unset] [(.ref ad0)]))
  obtain ⟨T1, X1, e1, st1⟩ := getF X0 hx hZ hown (host := "") (Or.inl (own_w hw 28 rfl)) Via.refl e0 F_precision_ad0 (g := (mkF m 1 #[.val (.ref ad0), .val (.long q1), .second, .unset, .unset] [(.ref ad0)])) rfl rfl (hb hby own_d7_1)
  refine own_step st1 ?_
  show own_Fin p e below s _ _ _ (T1.setTop (mkF m 4 #[.val (.ref ad0), .val (.long q1), .second, .unset, .unset] [(.int wprecision_ad0)]))
  obtain ⟨T2, X2, e2, st2⟩ := getS2 X1 hx hZ hown (host := "") (Or.inl (own_w hw 64 rfl)) Via.refl e1 S_LONG_POWERS_OF_TEN (g := (mkF m 4 #[.val (.ref ad0), .val (.long q1), .second, .unset, .unset] [(.int wprecision_ad0)])) rfl (hb hby own_d7_4)
  refine own_step st2 ?_
  show own_Fin p e below s _ _ _ (T2.setTop (mkF m 7 #[.val (.ref ad0), .val (.long q1), .second, .unset, .unset] [(.ref s_LONG_POWERS_OF_TEN), (.int wprecision_ad0)]))
  obtain ⟨cl3, Ar3, q3, Sz3, Ng3, Hs3, Gf3⟩ := id A_s_LONG_POWERS_OF_TEN
  refine own_step (fun _ k => X2.arraylength hx (by rw [e2]; exact Ar3.1) (State.isArrayOf_alike hZ.alike Ar3.2.1) (g := (mkF m 7 #[.val (.ref ad0), .val (.long q1), .second, .unset, .unset] [(.ref s_LONG_POWERS_OF_TEN), (.int wprecision_ad0)])) rfl rfl (hb hby own_d7_7) _ k) ?_
  rw [len_of Sz3 Ng3]
  show own_Fin p e below s _ _ _ (T2.setTop (mkF m 8 #[.val (.ref ad0), .val (.long q1), .second, .unset, .unset] [(.int (19 : Int32)), (.int wprecision_ad0)]))
  by_cases hc4 : wprecision_ad0 < (19 : Int32)
  · refine own_step (fun _ k => XS.icmpYes X2.here hx rfl (pc0 := 8) (pc' := 13) rfl (hb hby own_d7_8) rfl (tlt hc4).1 (by decide) (by decide) k) ?_
    show own_Fin p e below s _ _ _ (T2.setTop (mkF m 13 #[.val (.ref ad0), .val (.long q1), .second, .unset, .unset] []))
    obtain ⟨T5, X5, e5, st5⟩ := getS2 X2 hx hZ hown (host := "") (Or.inl (own_w hw 64 rfl)) Via.refl e2 S_LONG_POWERS_OF_TEN (g := (mkF m 13 #[.val (.ref ad0), .val (.long q1), .second, .unset, .unset] [])) rfl (hb hby own_d7_13)
    refine own_step st5 ?_
    show own_Fin p e below s _ _ _ (T5.setTop (mkF m 16 #[.val (.ref ad0), .val (.long q1), .second, .unset, .unset] [(.ref s_LONG_POWERS_OF_TEN)]))
    refine own_step (fun _ k => XS.aloadN X5.here hx rfl (hb hby own_d7_16) rfl rfl k) ?_
    show own_Fin p e below s _ _ _ (T5.setTop (mkF m 17 #[.val (.ref ad0), .val (.long q1), .second, .unset, .unset] [(.ref ad0), (.ref s_LONG_POWERS_OF_TEN)]))
    obtain ⟨T6, X6, e6, st6⟩ := getF X5 hx hZ hown (host := "") (Or.inl (own_w hw 28 rfl)) Via.refl e5 F_precision_ad0 (g := (mkF m 17 #[.val (.ref ad0), .val (.long q1), .second, .unset, .unset] [(.ref ad0), (.ref s_LONG_POWERS_OF_TEN)])) rfl rfl (hb hby own_d7_17)
    refine own_step st6 ?_
    show own_Fin p e below s _ _ _ (T6.setTop (mkF m 20 #[.val (.ref ad0), .val (.long q1), .second, .unset, .unset] [(.int wprecision_ad0), (.ref s_LONG_POWERS_OF_TEN)]))
    obtain ⟨cl7, Ar7, q7, Sz7, Ng7, Hs7, Gf7⟩ := id A_s_LONG_POWERS_OF_TEN
    have hin7 : ¬ (wprecision_ad0 < 0 ∨ cl7.slots.size ≤ (wprecision_ad0).toNatClampNeg) := inb_of Sz7 ⟨hneg, hc4⟩
    refine own_step (fun _ k => X6.laload hx (j := wprecision_ad0) (v := (.long (own_P0 wprecision_ad0))) (by rw [e6]; exact Ar7.1) (State.isArrayOf_alike hZ.alike Ar7.2.1) Ar7.2.2 hin7 (own_getJ (vs := [(1 : Int64), (10 : Int64), (100 : Int64), (1000 : Int64), (10000 : Int64), (100000 : Int64), (1000000 : Int64), (10000000 : Int64), (100000000 : Int64), (1000000000 : Int64), (10000000000 : Int64), (100000000000 : Int64), (1000000000000 : Int64), (10000000000000 : Int64), (100000000000000 : Int64), (1000000000000000 : Int64), (10000000000000000 : Int64), (100000000000000000 : Int64), (1000000000000000000 : Int64)]) Hs7 hin7) (g := (mkF m 20 #[.val (.ref ad0), .val (.long q1), .second, .unset, .unset] [(.int wprecision_ad0), (.ref s_LONG_POWERS_OF_TEN)])) rfl rfl (hb hby own_d7_20) _ k) ?_
    show own_Fin p e below s _ _ _ (T6.setTop (mkF m 21 #[.val (.ref ad0), .val (.long q1), .second, .unset, .unset] [(.long (own_P0 wprecision_ad0))]))
    refine own_step (fun _ k => XS.lstoreN X6.here hx rfl (hb hby own_d7_21) rfl (l' := #[.val (.ref ad0), .val (.long q1), .second, .val (.long (own_P0 wprecision_ad0)), .second]) rfl k) ?_
    show own_Fin p e below s _ _ _ (T6.setTop (mkF m 22 #[.val (.ref ad0), .val (.long q1), .second, .val (.long (own_P0 wprecision_ad0)), .second] []))
    refine own_step (fun _ k => XS.lloadN X6.here hx rfl (hb hby own_d7_22) rfl k) ?_
    show own_Fin p e below s _ _ _ (T6.setTop (mkF m 23 #[.val (.ref ad0), .val (.long q1), .second, .val (.long (own_P0 wprecision_ad0)), .second] [(.long q1)]))
    refine own_step (fun _ k => XS.lloadN X6.here hx rfl (hb hby own_d7_23) rfl k) ?_
    show own_Fin p e below s _ _ _ (T6.setTop (mkF m 24 #[.val (.ref ad0), .val (.long q1), .second, .val (.long (own_P0 wprecision_ad0)), .second] [(.long (own_P0 wprecision_ad0)), (.long q1)]))
    refine own_step (fun _ k => XS.lneg X6.here hx rfl (hb hby own_d7_24) rfl k) ?_
    show own_Fin p e below s _ _ _ (T6.setTop (mkF m 25 #[.val (.ref ad0), .val (.long q1), .second, .val (.long (own_P0 wprecision_ad0)), .second] [(.long (-(own_P0 wprecision_ad0))), (.long q1)]))
    refine own_step (fun _ k => XS.lcmp X6.here hx rfl (hb hby own_d7_25) rfl k) ?_
    show own_Fin p e below s _ _ _ (T6.setTop (mkF m 26 #[.val (.ref ad0), .val (.long q1), .second, .val (.long (own_P0 wprecision_ad0)), .second] [(.int (lcmpW q1 (-(own_P0 wprecision_ad0))))]))
    by_cases hc8 : (0 : Int32) < (lcmpW q1 (-(own_P0 wprecision_ad0)))
    · refine own_step (fun _ k => XS.ifNo X6.here hx rfl (hb hby own_d7_26) rfl ((if0 _ _).trans (tlt hc8).2.2.2) k) ?_
      show own_Fin p e below s _ _ _ (T6.setTop (mkF m 29 #[.val (.ref ad0), .val (.long q1), .second, .val (.long (own_P0 wprecision_ad0)), .second] []))
      refine own_step (fun _ k => XS.lloadN X6.here hx rfl (hb hby own_d7_29) rfl k) ?_
      show own_Fin p e below s _ _ _ (T6.setTop (mkF m 30 #[.val (.ref ad0), .val (.long q1), .second, .val (.long (own_P0 wprecision_ad0)), .second] [(.long q1)]))
      refine own_step (fun _ k => XS.lloadN X6.here hx rfl (hb hby own_d7_30) rfl k) ?_
      show own_Fin p e below s _ _ _ (T6.setTop (mkF m 31 #[.val (.ref ad0), .val (.long q1), .second, .val (.long (own_P0 wprecision_ad0)), .second] [(.long (own_P0 wprecision_ad0)), (.long q1)]))
      refine own_step (fun _ k => XS.lcmp X6.here hx rfl (hb hby own_d7_31) rfl k) ?_
      show own_Fin p e below s _ _ _ (T6.setTop (mkF m 32 #[.val (.ref ad0), .val (.long q1), .second, .val (.long (own_P0 wprecision_ad0)), .second] [(.int (lcmpW q1 (own_P0 wprecision_ad0)))]))
      by_cases hc9 : (lcmpW q1 (own_P0 wprecision_ad0)) < (0 : Int32)
      · refine own_step (fun _ k => XS.ifNo X6.here hx rfl (hb hby own_d7_32) rfl ((if0 _ _).trans (tlt hc9).2.1) k) ?_
        show own_Fin p e below s _ _ _ (T6.setTop (mkF m 35 #[.val (.ref ad0), .val (.long q1), .second, .val (.long (own_P0 wprecision_ad0)), .second] []))
        refine own_step (fun _ k => XS.iconst X6.here hx rfl (hb hby own_d7_35) k) ?_
        show own_Fin p e below s _ _ _ (T6.setTop (mkF m 36 #[.val (.ref ad0), .val (.long q1), .second, .val (.long (own_P0 wprecision_ad0)), .second] [(.int (1 : Int32))]))
        refine own_step (fun _ k => XS.goto X6.here hx rfl (pc0 := 36) (pc' := 40) rfl (hb hby own_d7_36) (by decide) (by decide) k) ?_
        show own_Fin p e below s _ _ _ (T6.setTop (mkF m 40 #[.val (.ref ad0), .val (.long q1), .second, .val (.long (own_P0 wprecision_ad0)), .second] [(.int (1 : Int32))]))
        exact own_ret X6 hlk (v := some (.int (1 : Int32))) (fun h => by rw [Bd.returns] at h; cases h) (by decide) (by decide) (by show own_Q7 Z ad0 q1 wprecision_ad0 s_LONG_POWERS_OF_TEN k_s_LONG_POWERS_OF_TEN h0 n0 _ T6.heap _; rw [e6]; exact ⟨(congrArg (fun z => some (Value.int z)) (show (own_r7 q1 wprecision_ad0) = (1 : Int32) from by rw [own_r7, if_pos hc4, if_pos hc8, if_pos hc9]).symm), N0, rfl⟩) (fun fs hr => retN X6 hx (t := .boolean) Bd.returns (by simp) (hb hby own_d7_40) hr)
      · refine own_step (fun _ k => XS.ifYes X6.here hx rfl (pc0 := 32) (pc' := 39) rfl (hb hby own_d7_32) rfl ((if0 _ _).trans (flt hc9).2.1) (by decide) (by decide) k) ?_
        show own_Fin p e below s _ _ _ (T6.setTop (mkF m 39 #[.val (.ref ad0), .val (.long q1), .second, .val (.long (own_P0 wprecision_ad0)), .second] []))
        refine own_step (fun _ k => XS.iconst X6.here hx rfl (hb hby own_d7_39) k) ?_
        show own_Fin p e below s _ _ _ (T6.setTop (mkF m 40 #[.val (.ref ad0), .val (.long q1), .second, .val (.long (own_P0 wprecision_ad0)), .second] [(.int (0 : Int32))]))
        exact own_ret X6 hlk (v := some (.int (0 : Int32))) (fun h => by rw [Bd.returns] at h; cases h) (by decide) (by decide) (by show own_Q7 Z ad0 q1 wprecision_ad0 s_LONG_POWERS_OF_TEN k_s_LONG_POWERS_OF_TEN h0 n0 _ T6.heap _; rw [e6]; exact ⟨(congrArg (fun z => some (Value.int z)) (show (own_r7 q1 wprecision_ad0) = (0 : Int32) from by rw [own_r7, if_pos hc4, if_pos hc8, if_neg hc9]).symm), N0, rfl⟩) (fun fs hr => retN X6 hx (t := .boolean) Bd.returns (by simp) (hb hby own_d7_40) hr)
    · refine own_step (fun _ k => XS.ifYes X6.here hx rfl (pc0 := 26) (pc' := 39) rfl (hb hby own_d7_26) rfl ((if0 _ _).trans (flt hc8).2.2.2) (by decide) (by decide) k) ?_
      show own_Fin p e below s _ _ _ (T6.setTop (mkF m 39 #[.val (.ref ad0), .val (.long q1), .second, .val (.long (own_P0 wprecision_ad0)), .second] []))
      refine own_step (fun _ k => XS.iconst X6.here hx rfl (hb hby own_d7_39) k) ?_
      show own_Fin p e below s _ _ _ (T6.setTop (mkF m 40 #[.val (.ref ad0), .val (.long q1), .second, .val (.long (own_P0 wprecision_ad0)), .second] [(.int (0 : Int32))]))
      exact own_ret X6 hlk (v := some (.int (0 : Int32))) (fun h => by rw [Bd.returns] at h; cases h) (by decide) (by decide) (by show own_Q7 Z ad0 q1 wprecision_ad0 s_LONG_POWERS_OF_TEN k_s_LONG_POWERS_OF_TEN h0 n0 _ T6.heap _; rw [e6]; exact ⟨(congrArg (fun z => some (Value.int z)) (show (own_r7 q1 wprecision_ad0) = (0 : Int32) from by rw [own_r7, if_pos hc4, if_neg hc8]).symm), N0, rfl⟩) (fun fs hr => retN X6 hx (t := .boolean) Bd.returns (by simp) (hb hby own_d7_40) hr)
  · refine own_step (fun _ k => XS.icmpNo X2.here hx rfl (hb hby own_d7_8) rfl (flt hc4).1 k) ?_
    show own_Fin p e below s _ _ _ (T2.setTop (mkF m 11 #[.val (.ref ad0), .val (.long q1), .second, .unset, .unset] []))
    refine own_step (fun _ k => XS.iconst X2.here hx rfl (hb hby own_d7_11) k) ?_
    show own_Fin p e below s _ _ _ (T2.setTop (mkF m 12 #[.val (.ref ad0), .val (.long q1), .second, .unset, .unset] [(.int (1 : Int32))]))
    exact own_ret X2 hlk (v := some (.int (1 : Int32))) (fun h => by rw [Bd.returns] at h; cases h) (by decide) (by decide) (by show own_Q7 Z ad0 q1 wprecision_ad0 s_LONG_POWERS_OF_TEN k_s_LONG_POWERS_OF_TEN h0 n0 _ T2.heap _; rw [e2]; exact ⟨(congrArg (fun z => some (Value.int z)) (show (own_r7 q1 wprecision_ad0) = (1 : Int32) from by rw [own_r7, if_neg hc4]).symm), N0, rfl⟩) (fun fs hr => retN X2 hx (t := .boolean) Bd.returns (by simp) (hb hby own_d7_12) hr)

theorem own_small : ∀ k : Fin 19, 1 ≤ (own_P0 (Int32.ofNat k.val)).toInt ∧ (own_P0 (Int32.ofNat k.val)).toInt ≤ 1000000000000000000 := by decide +kernel
theorem own_pb (n : Int32) (h0 : 0 ≤ n.toInt) (h1 : n.toInt < 19) : 1 ≤ (own_P0 n).toInt ∧ (own_P0 n).toInt ≤ 1000000000000000000 := by
  have := own_small ⟨n.toInt.toNat, by omega⟩
  rw [own_of n h0] at this
  exact this
theorem own_pz (n : Int32) (h0 : 0 ≤ n.toInt) (h1 : n.toInt < 19) : own_P0 n ≠ 0 := fun q => by
  have := own_pb n h0 h1
  rw [q] at this
  exact absurd this.1 (by decide)
theorem own_le (x : Int32) (h1 : ¬ ((18 : Int32) < own_N x)) : 0 ≤ (own_N x).toInt ∧ (own_N x).toInt < 19 := by
  have := own_n x
  rw [Int32.lt_iff_toInt_lt, show (18 : Int32).toInt = 18 from by decide] at h1
  omega
theorem own_in (x : Int32) (h1 : ¬ ((18 : Int32) < own_N x)) : ¬ (own_N x < (0 : Int32)) ∧ own_N x < (19 : Int32) := by
  have := own_le x h1
  simp only [Int32.lt_iff_toInt_lt, show (0 : Int32).toInt = 0 from by decide, show (19 : Int32).toInt = 19 from by decide]
  omega
theorem own_gt (x : Int32) (h1 : (18 : Int32) < own_N x) : ¬ (own_N x < (19 : Int32)) := by
  rw [Int32.lt_iff_toInt_lt, show (18 : Int32).toInt = 18 from by decide] at h1
  rw [Int32.lt_iff_toInt_lt, show (19 : Int32).toInt = 19 from by decide]
  omega
theorem own_neg (x : Int32) : ¬ (own_N x < (0 : Int32)) := by
  have := own_n x
  rw [Int32.lt_iff_toInt_lt, show (0 : Int32).toInt = 0 from by decide]
  omega
theorem own_big (v : Int64) (n : Int32) (h : ¬ (n < (19 : Int32))) : own_r7 v n = 1 := by rw [own_r7, if_neg h]
theorem own_posv (v : Int64) (n : Int32) (h : n < (19 : Int32)) (h0 : 0 ≤ n.toInt) (hv : ¬ (lcmpW v (0 : Int64) < (0 : Int32))) : own_r7 v n = if lcmpW v (own_P0 n) < (0 : Int32) then (1 : Int32) else 0 := by
  have hb := own_pb n h0 (by rw [Int32.lt_iff_toInt_lt, show (19 : Int32).toInt = 19 from by decide] at h; exact h)
  have hn := c_lneg (own_P0 n)
  have hr := rng64 (-(own_P0 n))
  have e0 : (0 : Int64).toInt = 0 := by decide
  rw [lw_lt, Int64.lt_iff_toInt_lt, e0] at hv
  rw [own_r7, if_pos h]
  show (if (0 : Int32) < lcmpW v (-(own_P0 n)) then (if lcmpW v (own_P0 n) < (0 : Int32) then (1 : Int32) else 0) else 0) = _
  rw [if_pos (show (0 : Int32) < lcmpW v (-(own_P0 n)) from by rw [lw_gt, Int64.lt_iff_toInt_lt]; omega)]
theorem own_negv (v : Int64) (n : Int32) (h : n < (19 : Int32)) (h0 : 0 ≤ n.toInt) (hv : lcmpW v (0 : Int64) < (0 : Int32)) : own_r7 v n = if (0 : Int32) < lcmpW v (-(own_P0 n)) then (1 : Int32) else 0 := by
  have hb := own_pb n h0 (by rw [Int32.lt_iff_toInt_lt, show (19 : Int32).toInt = 19 from by decide] at h; exact h)
  have e0 : (0 : Int64).toInt = 0 := by decide
  rw [lw_lt, Int64.lt_iff_toInt_lt, e0] at hv
  rw [own_r7, if_pos h]
  show (if (0 : Int32) < lcmpW v (-(own_P0 n)) then (if lcmpW v (own_P0 n) < (0 : Int32) then (1 : Int32) else 0) else 0) = _
  rw [if_pos (show lcmpW v (own_P0 n) < (0 : Int32) from by rw [lw_lt, Int64.lt_iff_toInt_lt]; omega)]

theorem own_pd2 : parseMethodDescriptor "(II)V" = some ⟨[.int, .int], none⟩ := by decide +kernel
abbrev own_y2 : MethodName := (⟨"com/example/castwright/castwright/model/DecimalType", "<init>", "(II)V"⟩ : MethodName)
theorem own_pd3 : parseMethodDescriptor "(II)I" = some ⟨[.int, .int], some .int⟩ := by decide +kernel
abbrev own_y3 : MethodName := (⟨"java/lang/Math", "min", "(II)I"⟩ : MethodName)
theorem own_pd4 : parseMethodDescriptor "(I)J" = some ⟨[.int], some .long⟩ := by decide +kernel
abbrev own_y4 : MethodName := (⟨"com/example/castwright/castwright/model/DecimalTypeHoldsPinLaw", "pow10", "(I)J"⟩ : MethodName)
theorem own_pd5 : parseMethodDescriptor "(J)Z" = some ⟨[.long], some .boolean⟩ := by decide +kernel
abbrev own_y5 : MethodName := (⟨"com/example/castwright/castwright/model/DecimalType", "holds", "(J)Z"⟩ : MethodName)
theorem own_ef8 (m : MethodId) (p0 : Int32) (p1 : Int32) (q2 : Int64) (p3 : Int32) : entryFrame m #[(.int p0), (.int p1), (.long q2), (.int p3)] maxLocals = mkF m 0 #[.val (.int p0), .val (.int p1), .val (.long q2), .second, .val (.int p3), .unset, .unset, .unset, .unset, .unset, .unset, .unset, .unset, .unset] [] := by first | (simp [entryFrame, mkF, argsToLocals, Value.category, maxLocals]; done) | rfl
def own_Q8 (Z : State) (p0 : Int32) (p1 : Int32) (q2 : Int64) (p3 : Int32) (s_LONG_POWERS_OF_TEN : Addr) (k_s_LONG_POWERS_OF_TEN : ClassId) (h0 : Heap) (n0 : Nat) (v : Option Value) (h : Heap) (L : List Loc) : Prop := v = some (.int 1) ∧ Fr n0 L
set_option maxRecDepth 65536 in
set_option maxHeartbeats 40000000 in
theorem own_rm8 (l : Launch) (Z : State) (a0 : Array Value) (hw : ∀ d ∈ tables_1, d.before a0 Z = true) (ws : List Jvm.Cond) (p0 : Int32) (p1 : Int32) (q2 : Int64) (p3 : Int32) (s_LONG_POWERS_OF_TEN : Addr) (k_s_LONG_POWERS_OF_TEN : ClassId) (h0 : Heap) (n0 : Nat) (Z0 : n0 ≤ h0.size) (S_LONG_POWERS_OF_TEN : Sta Z h0 "com/example/castwright/castwright/model/DecimalType" "LONG_POWERS_OF_TEN" "[J" (.ref s_LONG_POWERS_OF_TEN)) (A_s_LONG_POWERS_OF_TEN : Arv Z h0 s_LONG_POWERS_OF_TEN k_s_LONG_POWERS_OF_TEN .long (19 : Int32) [(.long (1 : Int64)), (.long (10 : Int64)), (.long (100 : Int64)), (.long (1000 : Int64)), (.long (10000 : Int64)), (.long (100000 : Int64)), (.long (1000000 : Int64)), (.long (10000000 : Int64)), (.long (100000000 : Int64)), (.long (1000000000 : Int64)), (.long (10000000000 : Int64)), (.long (100000000000 : Int64)), (.long (1000000000000 : Int64)), (.long (10000000000000 : Int64)), (.long (100000000000000 : Int64)), (.long (1000000000000000 : Int64)), (.long (10000000000000000 : Int64)), (.long (100000000000000000 : Int64)), (.long (1000000000000000000 : Int64))] (.long (0 : Int64))) :
    MetFree l x (head1 (Jvm.Cond.code x code maxLocals ret :: ws) room_1) (fun a U => a = #[(.int p0), (.int p1), (.long q2), (.int p3)] ∧ Z.Warmed39 U.vm ∧ U.heap = h0) (fun _ _ _ _ _ => True) (fun _ U o U' => ∃ v L, o = .returned v ∧ own_Q8 Z p0 p1 q2 p3 s_LONG_POWERS_OF_TEN k_s_LONG_POWERS_OF_TEN h0 n0 v U'.heap L ∧ ReturnedEndW U o U' L room_1.cells room_1.slots) := by
  refine MetFree.of_bodySF (plainFor_of_name own_pn3) hisR ?_
  intro p e s m args below meth c s₁ Bd hml0 hP hK
  obtain ⟨rfl, hZ, hh⟩ := hP
  have hx := Bd.exec
  have hby := Bd.bytes
  have hlk := Bd.notSynchronized
  have hml : c.maxLocals = 14 := hml0
  have hown : s.vm.findClass "com/example/castwright/castwright/model/DecimalTypeHoldsPinLaw" = some m.cls := findClass_of_methodNamed Bd.named
  have hnm := (name_of_methodNamed Bd.named Bd.method).1
  have X0 : Stand p l e room_1 (s.setVm s.vm) m #[(.int p0), (.int p1), (.long q2), (.int p3)] below meth c s₁ [] 0 0 := Stand.of_body Bd
  have e0 : s₁.heap = h0 := by rw [← hh, Bd.state]; rfl
  have N0 := Fr.nil n0
  have KR : Keep h0 h0 [] := Keep.refl _ _
  have hS0 : s.Since s.vm h0.size := (State.WarmedH.refl s).since _
  have hk0 : h0.size ≤ h0.size := Nat.le_refl _
  show own_FinW p e below s room_1.cells room_1.slots (own_Q8 Z p0 p1 q2 p3 s_LONG_POWERS_OF_TEN k_s_LONG_POWERS_OF_TEN h0 n0) (s₁.setTop (entryFrame m #[(.int p0), (.int p1), (.long q2), (.int p3)] maxLocals))
  refine own_castW (own_ef8 m p0 p1 q2 p3) ?_
  refine own_stepW (fun _ k => XS.iconst X0.here hx rfl (hb hby at_0) k) ?_
  show own_FinW p e below s _ _ _ (s₁.setTop (mkF m 1 #[.val (.int p0), .val (.int p1), .val (.long q2), .second, .val (.int p3), .unset, .unset, .unset, .unset, .unset, .unset, .unset, .unset, .unset] [(.int (1 : Int32))]))
  refine own_stepW (fun _ k => XS.iloadN X0.here hx rfl (hb hby at_1) rfl k) ?_
  show own_FinW p e below s _ _ _ (s₁.setTop (mkF m 2 #[.val (.int p0), .val (.int p1), .val (.long q2), .second, .val (.int p3), .unset, .unset, .unset, .unset, .unset, .unset, .unset, .unset, .unset] [(.int p0), (.int (1 : Int32))]))
  refine own_stepW (fun _ k => X0.ldcInt hx hown (mvT hZ (own_w hw 0 rfl)) (g := (mkF m 2 #[.val (.int p0), .val (.int p1), .val (.long q2), .second, .val (.int p3), .unset, .unset, .unset, .unset, .unset, .unset, .unset, .unset, .unset] [(.int p0), (.int (1 : Int32))])) rfl (hb hby at_2) _ k) ?_
  show own_FinW p e below s _ _ _ (s₁.setTop (mkF m 4 #[.val (.int p0), .val (.int p1), .val (.long q2), .second, .val (.int p3), .unset, .unset, .unset, .unset, .unset, .unset, .unset, .unset, .unset] [(.int (2147483647 : Int32)), (.int p0), (.int (1 : Int32))]))
  refine own_stepW (fun _ k => XS.iand X0.here hx rfl (hb hby at_4) rfl k) ?_
  show own_FinW p e below s _ _ _ (s₁.setTop (mkF m 5 #[.val (.int p0), .val (.int p1), .val (.long q2), .second, .val (.int p3), .unset, .unset, .unset, .unset, .unset, .unset, .unset, .unset, .unset] [(.int (p0 &&& (2147483647 : Int32))), (.int (1 : Int32))]))
  refine own_stepW (fun _ k => XS.bipush X0.here hx rfl (hb hby at_5) k) ?_
  show own_FinW p e below s _ _ _ (s₁.setTop (mkF m 7 #[.val (.int p0), .val (.int p1), .val (.long q2), .second, .val (.int p3), .unset, .unset, .unset, .unset, .unset, .unset, .unset, .unset, .unset] [(.int (38 : Int32)), (.int (p0 &&& (2147483647 : Int32))), (.int (1 : Int32))]))
  refine own_stepW (fun _ k => iremM (g := (mkF m 7 #[.val (.int p0), .val (.int p1), .val (.long q2), .second, .val (.int p3), .unset, .unset, .unset, .unset, .unset, .unset, .unset, .unset, .unset] [(.int (38 : Int32)), (.int (p0 &&& (2147483647 : Int32))), (.int (1 : Int32))])) X0 hx rfl (hb hby at_7) rfl (by decide) k) ?_
  show own_FinW p e below s _ _ _ (s₁.setTop (mkF m 8 #[.val (.int p0), .val (.int p1), .val (.long q2), .second, .val (.int p3), .unset, .unset, .unset, .unset, .unset, .unset, .unset, .unset, .unset] [(.int ((p0 &&& (2147483647 : Int32)) % (38 : Int32))), (.int (1 : Int32))]))
  refine own_stepW (fun _ k => XS.iadd X0.here hx rfl (hb hby at_8) rfl k) ?_
  show own_FinW p e below s _ _ _ (s₁.setTop (mkF m 9 #[.val (.int p0), .val (.int p1), .val (.long q2), .second, .val (.int p3), .unset, .unset, .unset, .unset, .unset, .unset, .unset, .unset, .unset] [(.int ((1 : Int32) + ((p0 &&& (2147483647 : Int32)) % (38 : Int32))))]))
  refine own_stepW (fun _ k => XS.istore X0.here hx rfl (hb hby at_9) rfl (l' := #[.val (.int p0), .val (.int p1), .val (.long q2), .second, .val (.int p3), .val (.int ((1 : Int32) + ((p0 &&& (2147483647 : Int32)) % (38 : Int32)))), .unset, .unset, .unset, .unset, .unset, .unset, .unset, .unset]) rfl k) ?_
  show own_FinW p e below s _ _ _ (s₁.setTop (mkF m 11 #[.val (.int p0), .val (.int p1), .val (.long q2), .second, .val (.int p3), .val (.int ((1 : Int32) + ((p0 &&& (2147483647 : Int32)) % (38 : Int32)))), .unset, .unset, .unset, .unset, .unset, .unset, .unset, .unset] []))
  refine own_stepW (fun _ k => XS.iloadN X0.here hx rfl (hb hby at_11) rfl k) ?_
  show own_FinW p e below s _ _ _ (s₁.setTop (mkF m 12 #[.val (.int p0), .val (.int p1), .val (.long q2), .second, .val (.int p3), .val (.int ((1 : Int32) + ((p0 &&& (2147483647 : Int32)) % (38 : Int32)))), .unset, .unset, .unset, .unset, .unset, .unset, .unset, .unset] [(.int p1)]))
  refine own_stepW (fun _ k => X0.ldcInt hx hown (mvT hZ (own_w hw 0 rfl)) (g := (mkF m 12 #[.val (.int p0), .val (.int p1), .val (.long q2), .second, .val (.int p3), .val (.int ((1 : Int32) + ((p0 &&& (2147483647 : Int32)) % (38 : Int32)))), .unset, .unset, .unset, .unset, .unset, .unset, .unset, .unset] [(.int p1)])) rfl (hb hby at_12) _ k) ?_
  show own_FinW p e below s _ _ _ (s₁.setTop (mkF m 14 #[.val (.int p0), .val (.int p1), .val (.long q2), .second, .val (.int p3), .val (.int ((1 : Int32) + ((p0 &&& (2147483647 : Int32)) % (38 : Int32)))), .unset, .unset, .unset, .unset, .unset, .unset, .unset, .unset] [(.int (2147483647 : Int32)), (.int p1)]))
  refine own_stepW (fun _ k => XS.iand X0.here hx rfl (hb hby at_14) rfl k) ?_
  show own_FinW p e below s _ _ _ (s₁.setTop (mkF m 15 #[.val (.int p0), .val (.int p1), .val (.long q2), .second, .val (.int p3), .val (.int ((1 : Int32) + ((p0 &&& (2147483647 : Int32)) % (38 : Int32)))), .unset, .unset, .unset, .unset, .unset, .unset, .unset, .unset] [(.int (p1 &&& (2147483647 : Int32)))]))
  refine own_stepW (fun _ k => XS.iload X0.here hx rfl (hb hby at_15) rfl k) ?_
  show own_FinW p e below s _ _ _ (s₁.setTop (mkF m 17 #[.val (.int p0), .val (.int p1), .val (.long q2), .second, .val (.int p3), .val (.int ((1 : Int32) + ((p0 &&& (2147483647 : Int32)) % (38 : Int32)))), .unset, .unset, .unset, .unset, .unset, .unset, .unset, .unset] [(.int ((1 : Int32) + ((p0 &&& (2147483647 : Int32)) % (38 : Int32)))), (.int (p1 &&& (2147483647 : Int32)))]))
  refine own_stepW (fun _ k => XS.iconst X0.here hx rfl (hb hby at_17) k) ?_
  show own_FinW p e below s _ _ _ (s₁.setTop (mkF m 18 #[.val (.int p0), .val (.int p1), .val (.long q2), .second, .val (.int p3), .val (.int ((1 : Int32) + ((p0 &&& (2147483647 : Int32)) % (38 : Int32)))), .unset, .unset, .unset, .unset, .unset, .unset, .unset, .unset] [(.int (1 : Int32)), (.int ((1 : Int32) + ((p0 &&& (2147483647 : Int32)) % (38 : Int32)))), (.int (p1 &&& (2147483647 : Int32)))]))
  refine own_stepW (fun _ k => XS.iadd X0.here hx rfl (hb hby at_18) rfl k) ?_
  show own_FinW p e below s _ _ _ (s₁.setTop (mkF m 19 #[.val (.int p0), .val (.int p1), .val (.long q2), .second, .val (.int p3), .val (.int ((1 : Int32) + ((p0 &&& (2147483647 : Int32)) % (38 : Int32)))), .unset, .unset, .unset, .unset, .unset, .unset, .unset, .unset] [(.int (((1 : Int32) + ((p0 &&& (2147483647 : Int32)) % (38 : Int32))) + (1 : Int32))), (.int (p1 &&& (2147483647 : Int32)))]))
  refine own_stepW (fun _ k => iremM (g := (mkF m 19 #[.val (.int p0), .val (.int p1), .val (.long q2), .second, .val (.int p3), .val (.int ((1 : Int32) + ((p0 &&& (2147483647 : Int32)) % (38 : Int32)))), .unset, .unset, .unset, .unset, .unset, .unset, .unset, .unset] [(.int (((1 : Int32) + ((p0 &&& (2147483647 : Int32)) % (38 : Int32))) + (1 : Int32))), (.int (p1 &&& (2147483647 : Int32)))])) X0 hx rfl (hb hby at_19) rfl (own_nz p0) k) ?_
  show own_FinW p e below s _ _ _ (s₁.setTop (mkF m 20 #[.val (.int p0), .val (.int p1), .val (.long q2), .second, .val (.int p3), .val (.int ((1 : Int32) + ((p0 &&& (2147483647 : Int32)) % (38 : Int32)))), .unset, .unset, .unset, .unset, .unset, .unset, .unset, .unset] [(.int ((p1 &&& (2147483647 : Int32)) % (((1 : Int32) + ((p0 &&& (2147483647 : Int32)) % (38 : Int32))) + (1 : Int32))))]))
  refine own_stepW (fun _ k => XS.istore X0.here hx rfl (hb hby at_20) rfl (l' := #[.val (.int p0), .val (.int p1), .val (.long q2), .second, .val (.int p3), .val (.int ((1 : Int32) + ((p0 &&& (2147483647 : Int32)) % (38 : Int32)))), .val (.int ((p1 &&& (2147483647 : Int32)) % (((1 : Int32) + ((p0 &&& (2147483647 : Int32)) % (38 : Int32))) + (1 : Int32)))), .unset, .unset, .unset, .unset, .unset, .unset, .unset]) rfl k) ?_
  show own_FinW p e below s _ _ _ (s₁.setTop (mkF m 22 #[.val (.int p0), .val (.int p1), .val (.long q2), .second, .val (.int p3), .val (.int ((1 : Int32) + ((p0 &&& (2147483647 : Int32)) % (38 : Int32)))), .val (.int ((p1 &&& (2147483647 : Int32)) % (((1 : Int32) + ((p0 &&& (2147483647 : Int32)) % (38 : Int32))) + (1 : Int32)))), .unset, .unset, .unset, .unset, .unset, .unset, .unset] []))
  obtain ⟨T1, h1, X1, e1, E1, A1, D1, -, st1⟩ := newO X0 hx hZ hown (own_w hw 1 rfl) (own_w hw 2 rfl) (own_w hw 3 rfl) e0 (g := (mkF m 22 #[.val (.int p0), .val (.int p1), .val (.long q2), .second, .val (.int p3), .val (.int ((1 : Int32) + ((p0 &&& (2147483647 : Int32)) % (38 : Int32)))), .val (.int ((p1 &&& (2147483647 : Int32)) % (((1 : Int32) + ((p0 &&& (2147483647 : Int32)) % (38 : Int32))) + (1 : Int32)))), .unset, .unset, .unset, .unset, .unset, .unset, .unset] [])) rfl (hb hby at_22) (by decide) (by decide)
  obtain ⟨b1, g1⟩ : ∃ z, z = h0.size := ⟨_, rfl⟩
  rw [← g1] at A1 D1 st1
  have ne1_s_LONG_POWERS_OF_TEN : s_LONG_POWERS_OF_TEN ≠ b1 := Nat.ne_of_lt (Nat.lt_of_lt_of_le A_s_LONG_POWERS_OF_TEN.lt (Nat.le_of_eq g1.symm))
  have gg1 : n0 ≤ b1 := Nat.le_trans Z0 (Nat.le_of_eq g1.symm)
  have sz1 : h0.size ≤ b1 := Nat.le_trans KR.1 (Nat.le_of_eq g1.symm)
  have K1 : Keep h0 h1 [] := KR.ext E1
  have Z1 : n0 ≤ h1.size := Nat.le_trans Z0 E1.1
  have hk1 := Nat.le_trans hk0 E1.1
  have G2 := (S_LONG_POWERS_OF_TEN.ext E1)
  have G3 := (A_s_LONG_POWERS_OF_TEN.ext E1)
  have G4 : Fld Z h1 b1 "com/example/castwright/castwright/model/DecimalType" "precision" "I" (.int (0 : Int32)) := D1 (Or.inr (own_w hw 29 rfl)) (ty := .int) (by decide)
  have G5 : Fld Z h1 b1 "com/example/castwright/castwright/model/DecimalType" "scale" "I" (.int (0 : Int32)) := D1 (Or.inr (own_w hw 31 rfl)) (ty := .int) (by decide)
  refine own_stepW st1 ?_
  show own_FinW p e below s _ _ _ (T1.setTop (mkF m 25 #[.val (.int p0), .val (.int p1), .val (.long q2), .second, .val (.int p3), .val (.int ((1 : Int32) + ((p0 &&& (2147483647 : Int32)) % (38 : Int32)))), .val (.int ((p1 &&& (2147483647 : Int32)) % (((1 : Int32) + ((p0 &&& (2147483647 : Int32)) % (38 : Int32))) + (1 : Int32)))), .unset, .unset, .unset, .unset, .unset, .unset, .unset] [(.ref b1)]))
  refine own_stepW (fun _ k => XS.dup X1.here hx rfl (hb hby at_25) rfl rfl k) ?_
  show own_FinW p e below s _ _ _ (T1.setTop (mkF m 26 #[.val (.int p0), .val (.int p1), .val (.long q2), .second, .val (.int p3), .val (.int ((1 : Int32) + ((p0 &&& (2147483647 : Int32)) % (38 : Int32)))), .val (.int ((p1 &&& (2147483647 : Int32)) % (((1 : Int32) + ((p0 &&& (2147483647 : Int32)) % (38 : Int32))) + (1 : Int32)))), .unset, .unset, .unset, .unset, .unset, .unset, .unset] [(.ref b1), (.ref b1)]))
  refine own_stepW (fun _ k => XS.iload X1.here hx rfl (hb hby at_26) rfl k) ?_
  show own_FinW p e below s _ _ _ (T1.setTop (mkF m 28 #[.val (.int p0), .val (.int p1), .val (.long q2), .second, .val (.int p3), .val (.int ((1 : Int32) + ((p0 &&& (2147483647 : Int32)) % (38 : Int32)))), .val (.int ((p1 &&& (2147483647 : Int32)) % (((1 : Int32) + ((p0 &&& (2147483647 : Int32)) % (38 : Int32))) + (1 : Int32)))), .unset, .unset, .unset, .unset, .unset, .unset, .unset] [(.int ((1 : Int32) + ((p0 &&& (2147483647 : Int32)) % (38 : Int32)))), (.ref b1), (.ref b1)]))
  refine own_stepW (fun _ k => XS.iload X1.here hx rfl (hb hby at_28) rfl k) ?_
  show own_FinW p e below s _ _ _ (T1.setTop (mkF m 30 #[.val (.int p0), .val (.int p1), .val (.long q2), .second, .val (.int p3), .val (.int ((1 : Int32) + ((p0 &&& (2147483647 : Int32)) % (38 : Int32)))), .val (.int ((p1 &&& (2147483647 : Int32)) % (((1 : Int32) + ((p0 &&& (2147483647 : Int32)) % (38 : Int32))) + (1 : Int32)))), .unset, .unset, .unset, .unset, .unset, .unset, .unset] [(.int ((p1 &&& (2147483647 : Int32)) % (((1 : Int32) + ((p0 &&& (2147483647 : Int32)) % (38 : Int32))) + (1 : Int32)))), (.int ((1 : Int32) + ((p0 &&& (2147483647 : Int32)) % (38 : Int32)))), (.ref b1), (.ref b1)]))
  obtain ⟨_, _, ⟨T6, L6, k6, n6⟩, -, Y6, hT6, hg6, ⟨Lc6, hQ6, l6, y6, z6⟩, st6⟩ := X1.specialBackS hx (y := own_y2) rfl hown (mvT hZ (own_w hw 4 rfl)) (mvT hZ (own_w hw 5 rfl)) (mvT hZ (own_w hw 6 rfl)) (by decide) (backOfS (W := 1) (own_rm3 l Z a0 hw [] b1 (((1 : Int32) + ((p0 &&& (2147483647 : Int32)) % (38 : Int32)))) (((p1 &&& (2147483647 : Int32)) % (((1 : Int32) + ((p0 &&& (2147483647 : Int32)) % (38 : Int32))) + (1 : Int32)))) ((.int (0 : Int32))) ((.int (0 : Int32))) h1 n0 Z1 A1 G4 G5 (show ¬ ((lcmpW (((1 : Int32) + ((p0 &&& (2147483647 : Int32)) % (38 : Int32))).toInt64) (1 : Int64)) < (0 : Int32)) from own_q1 p0) (show ¬ ((0 : Int32) < (lcmpW (((1 : Int32) + ((p0 &&& (2147483647 : Int32)) % (38 : Int32))).toInt64) (38 : Int64))) from own_q2 p0) (show ¬ (((p1 &&& (2147483647 : Int32)) % (((1 : Int32) + ((p0 &&& (2147483647 : Int32)) % (38 : Int32))) + (1 : Int32))) < (0 : Int32)) from own_q3 p0 p1) (show ¬ (((1 : Int32) + ((p0 &&& (2147483647 : Int32)) % (38 : Int32))) < ((p1 &&& (2147483647 : Int32)) % (((1 : Int32) + ((p0 &&& (2147483647 : Int32)) % (38 : Int32))) + (1 : Int32)))) from own_q4 p0 p1) gg1) hZ (own_w hw 6 rfl) (own_w hw 3 rfl) (by decide) (by decide)) (g := (mkF m 30 #[.val (.int p0), .val (.int p1), .val (.long q2), .second, .val (.int p3), .val (.int ((1 : Int32) + ((p0 &&& (2147483647 : Int32)) % (38 : Int32)))), .val (.int ((p1 &&& (2147483647 : Int32)) % (((1 : Int32) + ((p0 &&& (2147483647 : Int32)) % (38 : Int32))) + (1 : Int32)))), .unset, .unset, .unset, .unset, .unset, .unset, .unset] [(.int ((p1 &&& (2147483647 : Int32)) % (((1 : Int32) + ((p0 &&& (2147483647 : Int32)) % (38 : Int32))) + (1 : Int32)))), (.int ((1 : Int32) + ((p0 &&& (2147483647 : Int32)) % (38 : Int32)))), (.ref b1), (.ref b1)])) rfl (by rw [hml]; rfl) (Steps.refl _) (a := b1) (argsL := [(.int ((1 : Int32) + ((p0 &&& (2147483647 : Int32)) % (38 : Int32)))), (.int ((p1 &&& (2147483647 : Int32)) % (((1 : Int32) + ((p0 &&& (2147483647 : Int32)) % (38 : Int32))) + (1 : Int32))))]) (rest := [(.ref b1)]) (lenOf own_pd2 rfl) rfl (by show 2 * 0 + _ ≤ _; exact Nat.le_of_eq rfl) (hb hby at_30) (fun _ _ => ⟨rfl, e1, (by decide : 1 + 2 ≤ _), (by decide : 2 + 48 ≤ _)⟩)
  dsimp only [Pt.U, Pt.locs, Pt.cells, Pt.slots] at Y6 hT6 hg6 l6 y6 z6 st6 hQ6
  subst l6 y6 z6
  obtain ⟨X6, hS6, hZ6, hown6⟩ := rebS hS0 (by rw [e1]; exact hk1) Y6 hT6 hg6 hZ hown
  obtain ⟨N6q, K6q, rfl, G7, G8, G9⟩ := hQ6
  have N6 := Fr.app N0 N6q
  have K6 : Keep h0 T6.heap [] := K1.trans K6q (allS (P := fun x => x ∈ [] ∨ h0.size ≤ x) (Or.inr sz1) all0)
  have Z6 : n0 ≤ T6.heap.size := Nat.le_trans Z1 K6q.1
  have hk6 := Nat.le_refl T6.heap.size
  have G10 := (own_sta_keep G2 K6q (allS (P := own_Nst _) (own_nst_exa A1) all0))
  have G11 := (G3.keep K6q (ninS ne1_s_LONG_POWERS_OF_TEN nin0))
  have G12 := (A1.keep K6q)
  refine own_stepW (fun _ k => st6.trans k) ?_
  show own_FinW p e below s _ _ _ (T6.setTop (mkF m 33 #[.val (.int p0), .val (.int p1), .val (.long q2), .second, .val (.int p3), .val (.int ((1 : Int32) + ((p0 &&& (2147483647 : Int32)) % (38 : Int32)))), .val (.int ((p1 &&& (2147483647 : Int32)) % (((1 : Int32) + ((p0 &&& (2147483647 : Int32)) % (38 : Int32))) + (1 : Int32)))), .unset, .unset, .unset, .unset, .unset, .unset, .unset] [(.ref b1)]))
  refine own_stepW (fun _ k => XS.astore X6.here hx rfl (hb hby at_33) rfl rfl (l' := #[.val (.int p0), .val (.int p1), .val (.long q2), .second, .val (.int p3), .val (.int ((1 : Int32) + ((p0 &&& (2147483647 : Int32)) % (38 : Int32)))), .val (.int ((p1 &&& (2147483647 : Int32)) % (((1 : Int32) + ((p0 &&& (2147483647 : Int32)) % (38 : Int32))) + (1 : Int32)))), .val (.ref b1), .unset, .unset, .unset, .unset, .unset, .unset]) rfl k) ?_
  show own_FinW p e below s _ _ _ (T6.setTop (mkF m 35 #[.val (.int p0), .val (.int p1), .val (.long q2), .second, .val (.int p3), .val (.int ((1 : Int32) + ((p0 &&& (2147483647 : Int32)) % (38 : Int32)))), .val (.int ((p1 &&& (2147483647 : Int32)) % (((1 : Int32) + ((p0 &&& (2147483647 : Int32)) % (38 : Int32))) + (1 : Int32)))), .val (.ref b1), .unset, .unset, .unset, .unset, .unset, .unset] []))
  by_cases hc13 : (18 : Int32) < ((1 : Int32) + ((p0 &&& (2147483647 : Int32)) % (38 : Int32)))
  · show own_FinW p e below s _ _ _ (T6.setTop (mkF m 35 #[.val (.int p0), .val (.int p1), .val (.long q2), .second, .val (.int p3), .val (.int ((1 : Int32) + ((p0 &&& (2147483647 : Int32)) % (38 : Int32)))), .val (.int ((p1 &&& (2147483647 : Int32)) % (((1 : Int32) + ((p0 &&& (2147483647 : Int32)) % (38 : Int32))) + (1 : Int32)))), .val (.ref b1), .unset, .unset, .unset, .unset, .unset, .unset] []))
    refine own_stepW (fun _ k => XS.iload X6.here hx rfl (hb hby at_35) rfl k) ?_
    show own_FinW p e below s _ _ _ (T6.setTop (mkF m 37 #[.val (.int p0), .val (.int p1), .val (.long q2), .second, .val (.int p3), .val (.int ((1 : Int32) + ((p0 &&& (2147483647 : Int32)) % (38 : Int32)))), .val (.int ((p1 &&& (2147483647 : Int32)) % (((1 : Int32) + ((p0 &&& (2147483647 : Int32)) % (38 : Int32))) + (1 : Int32)))), .val (.ref b1), .unset, .unset, .unset, .unset, .unset, .unset] [(.int ((1 : Int32) + ((p0 &&& (2147483647 : Int32)) % (38 : Int32))))]))
    refine own_stepW (fun _ k => XS.bipush X6.here hx rfl (hb hby at_37) k) ?_
    show own_FinW p e below s _ _ _ (T6.setTop (mkF m 39 #[.val (.int p0), .val (.int p1), .val (.long q2), .second, .val (.int p3), .val (.int ((1 : Int32) + ((p0 &&& (2147483647 : Int32)) % (38 : Int32)))), .val (.int ((p1 &&& (2147483647 : Int32)) % (((1 : Int32) + ((p0 &&& (2147483647 : Int32)) % (38 : Int32))) + (1 : Int32)))), .val (.ref b1), .unset, .unset, .unset, .unset, .unset, .unset] [(.int (18 : Int32)), (.int ((1 : Int32) + ((p0 &&& (2147483647 : Int32)) % (38 : Int32))))]))
    obtain ⟨_, _, ⟨T14, L14, k14, n14⟩, -, X14, ⟨Lc14, hQ14, l14, y14, z14⟩, st14⟩ := Jvm.LawKit.callS X6 hx (y := own_y3) hown6 (mvT hZ6 (own_w hw 32 rfl)) (mvT hZ6 (own_w hw 33 rfl)) (mvT hZ6 (own_w hw 34 rfl)) (mvT hZ6 (own_w hw 35 rfl)) (by decide) (backOf (W := 0) (own_rm4 l Z a0 hw [] (((1 : Int32) + ((p0 &&& (2147483647 : Int32)) % (38 : Int32)))) ((18 : Int32)) T6.heap n0 Z6 (show (18 : Int32) < ((1 : Int32) + ((p0 &&& (2147483647 : Int32)) % (38 : Int32))) from hc13)) hZ6 (own_w hw 35 rfl) (own_w hw 34 rfl) (by decide) (by decide)) (g := (mkF m 39 #[.val (.int p0), .val (.int p1), .val (.long q2), .second, .val (.int p3), .val (.int ((1 : Int32) + ((p0 &&& (2147483647 : Int32)) % (38 : Int32)))), .val (.int ((p1 &&& (2147483647 : Int32)) % (((1 : Int32) + ((p0 &&& (2147483647 : Int32)) % (38 : Int32))) + (1 : Int32)))), .val (.ref b1), .unset, .unset, .unset, .unset, .unset, .unset] [(.int (18 : Int32)), (.int ((1 : Int32) + ((p0 &&& (2147483647 : Int32)) % (38 : Int32))))])) rfl (by rw [hml]; rfl) (argsL := [(.int ((1 : Int32) + ((p0 &&& (2147483647 : Int32)) % (38 : Int32)))), (.int (18 : Int32))]) (rest := []) (lenOf own_pd3 rfl) rfl (by show 2 * 0 + _ ≤ _; exact Nat.le_of_eq rfl) (hb hby at_39) (fun _ _ => ⟨rfl, rfl, (by decide : 3 + 0 ≤ _), (by decide : 50 + 0 ≤ _)⟩)
    dsimp only [Pt.U, Pt.locs, Pt.cells, Pt.slots] at X14 l14 y14 z14 st14 hQ14
    subst l14 y14 z14
    obtain ⟨rfl, N14q, e14⟩ := hQ14
    have N14 := Fr.app N6 N14q
    refine own_stepW (fun _ k => st14 _ k) ?_
    show own_FinW p e below s _ _ _ (T14.setTop (mkF m 42 #[.val (.int p0), .val (.int p1), .val (.long q2), .second, .val (.int p3), .val (.int ((1 : Int32) + ((p0 &&& (2147483647 : Int32)) % (38 : Int32)))), .val (.int ((p1 &&& (2147483647 : Int32)) % (((1 : Int32) + ((p0 &&& (2147483647 : Int32)) % (38 : Int32))) + (1 : Int32)))), .val (.ref b1), .unset, .unset, .unset, .unset, .unset, .unset] [(.int (18 : Int32))]))
    obtain ⟨_, _, ⟨T15, L15, k15, n15⟩, -, X15, ⟨Lc15, hQ15, l15, y15, z15⟩, st15⟩ := Jvm.LawKit.callS X14 hx (y := own_y4) hown6 (mvT hZ6 (own_w hw 36 rfl)) (mvT hZ6 (own_w hw 37 rfl)) (mvT hZ6 (own_w hw 38 rfl)) (mvT hZ6 (own_w hw 39 rfl)) (by decide) (backOf (W := 0) (own_rm6 l Z a0 hw [] ((18 : Int32)) T6.heap n0 Z6 (show ¬ ((18 : Int32) < (0 : Int32)) ∧ (18 : Int32) < (19 : Int32) from (by decide))) hZ6 (own_w hw 39 rfl) (own_w hw 38 rfl) (by decide) (by decide)) (g := (mkF m 42 #[.val (.int p0), .val (.int p1), .val (.long q2), .second, .val (.int p3), .val (.int ((1 : Int32) + ((p0 &&& (2147483647 : Int32)) % (38 : Int32)))), .val (.int ((p1 &&& (2147483647 : Int32)) % (((1 : Int32) + ((p0 &&& (2147483647 : Int32)) % (38 : Int32))) + (1 : Int32)))), .val (.ref b1), .unset, .unset, .unset, .unset, .unset, .unset] [(.int (18 : Int32))])) rfl (by rw [hml]; rfl) (argsL := [(.int (18 : Int32))]) (rest := []) (lenOf own_pd4 rfl) rfl (by show 2 * 0 + _ ≤ _; exact Nat.le_of_eq rfl) (hb hby at_42) (fun _ _ => ⟨rfl, e14, (by decide : 3 + 1 ≤ _), (by decide : 50 + 19 ≤ _)⟩)
    dsimp only [Pt.U, Pt.locs, Pt.cells, Pt.slots] at X15 l15 y15 z15 st15 hQ15
    subst l15 y15 z15
    obtain ⟨N15q, K15q, rfl⟩ := hQ15
    have N15 := Fr.app N14 N15q
    have K15 : Keep h0 T15.heap [] := K6.trans K15q all0
    have Z15 : n0 ≤ T15.heap.size := Nat.le_trans Z6 K15q.1
    have hk15 := Nat.le_trans hk6 K15q.1
    have G16 := (own_sta_keep0 G10 K15q)
    have G17 := (G11.keep K15q nin0)
    have G18 := (G7.keep K15q)
    have G19 := (G8.keep K15q nin0)
    have G20 := (G9.keep K15q nin0)
    refine own_stepW (fun _ k => st15 _ k) ?_
    show own_FinW p e below s _ _ _ (T15.setTop (mkF m 45 #[.val (.int p0), .val (.int p1), .val (.long q2), .second, .val (.int p3), .val (.int ((1 : Int32) + ((p0 &&& (2147483647 : Int32)) % (38 : Int32)))), .val (.int ((p1 &&& (2147483647 : Int32)) % (((1 : Int32) + ((p0 &&& (2147483647 : Int32)) % (38 : Int32))) + (1 : Int32)))), .val (.ref b1), .unset, .unset, .unset, .unset, .unset, .unset] [(.long (own_P0 (18 : Int32)))]))
    refine own_stepW (fun _ k => XS.lstore X15.here hx rfl (hb hby at_45) rfl (l' := #[.val (.int p0), .val (.int p1), .val (.long q2), .second, .val (.int p3), .val (.int ((1 : Int32) + ((p0 &&& (2147483647 : Int32)) % (38 : Int32)))), .val (.int ((p1 &&& (2147483647 : Int32)) % (((1 : Int32) + ((p0 &&& (2147483647 : Int32)) % (38 : Int32))) + (1 : Int32)))), .val (.ref b1), .val (.long (own_P0 (18 : Int32))), .second, .unset, .unset, .unset, .unset]) rfl k) ?_
    show own_FinW p e below s _ _ _ (T15.setTop (mkF m 47 #[.val (.int p0), .val (.int p1), .val (.long q2), .second, .val (.int p3), .val (.int ((1 : Int32) + ((p0 &&& (2147483647 : Int32)) % (38 : Int32)))), .val (.int ((p1 &&& (2147483647 : Int32)) % (((1 : Int32) + ((p0 &&& (2147483647 : Int32)) % (38 : Int32))) + (1 : Int32)))), .val (.ref b1), .val (.long (own_P0 (18 : Int32))), .second, .unset, .unset, .unset, .unset] []))
    refine own_stepW (fun _ k => XS.iload X15.here hx rfl (hb hby at_47) rfl k) ?_
    show own_FinW p e below s _ _ _ (T15.setTop (mkF m 49 #[.val (.int p0), .val (.int p1), .val (.long q2), .second, .val (.int p3), .val (.int ((1 : Int32) + ((p0 &&& (2147483647 : Int32)) % (38 : Int32)))), .val (.int ((p1 &&& (2147483647 : Int32)) % (((1 : Int32) + ((p0 &&& (2147483647 : Int32)) % (38 : Int32))) + (1 : Int32)))), .val (.ref b1), .val (.long (own_P0 (18 : Int32))), .second, .unset, .unset, .unset, .unset] [(.int p3)]))
    refine own_stepW (fun _ k => XS.bipush X15.here hx rfl (hb hby at_49) k) ?_
    show own_FinW p e below s _ _ _ (T15.setTop (mkF m 51 #[.val (.int p0), .val (.int p1), .val (.long q2), .second, .val (.int p3), .val (.int ((1 : Int32) + ((p0 &&& (2147483647 : Int32)) % (38 : Int32)))), .val (.int ((p1 &&& (2147483647 : Int32)) % (((1 : Int32) + ((p0 &&& (2147483647 : Int32)) % (38 : Int32))) + (1 : Int32)))), .val (.ref b1), .val (.long (own_P0 (18 : Int32))), .second, .unset, .unset, .unset, .unset] [(.int (7 : Int32)), (.int p3)]))
    refine own_stepW (fun _ k => XS.iand X15.here hx rfl (hb hby at_51) rfl k) ?_
    show own_FinW p e below s _ _ _ (T15.setTop (mkF m 52 #[.val (.int p0), .val (.int p1), .val (.long q2), .second, .val (.int p3), .val (.int ((1 : Int32) + ((p0 &&& (2147483647 : Int32)) % (38 : Int32)))), .val (.int ((p1 &&& (2147483647 : Int32)) % (((1 : Int32) + ((p0 &&& (2147483647 : Int32)) % (38 : Int32))) + (1 : Int32)))), .val (.ref b1), .val (.long (own_P0 (18 : Int32))), .second, .unset, .unset, .unset, .unset] [(.int (p3 &&& (7 : Int32)))]))
    refine own_stepW (fun _ k => XS.istore X15.here hx rfl (hb hby at_52) rfl (l' := #[.val (.int p0), .val (.int p1), .val (.long q2), .second, .val (.int p3), .val (.int ((1 : Int32) + ((p0 &&& (2147483647 : Int32)) % (38 : Int32)))), .val (.int ((p1 &&& (2147483647 : Int32)) % (((1 : Int32) + ((p0 &&& (2147483647 : Int32)) % (38 : Int32))) + (1 : Int32)))), .val (.ref b1), .val (.long (own_P0 (18 : Int32))), .second, .val (.int (p3 &&& (7 : Int32))), .unset, .unset, .unset]) rfl k) ?_
    show own_FinW p e below s _ _ _ (T15.setTop (mkF m 54 #[.val (.int p0), .val (.int p1), .val (.long q2), .second, .val (.int p3), .val (.int ((1 : Int32) + ((p0 &&& (2147483647 : Int32)) % (38 : Int32)))), .val (.int ((p1 &&& (2147483647 : Int32)) % (((1 : Int32) + ((p0 &&& (2147483647 : Int32)) % (38 : Int32))) + (1 : Int32)))), .val (.ref b1), .val (.long (own_P0 (18 : Int32))), .second, .val (.int (p3 &&& (7 : Int32))), .unset, .unset, .unset] []))
    refine own_join (F := own_FinW p e below s room_1.cells room_1.slots (own_Q8 Z p0 p1 q2 p3 s_LONG_POWERS_OF_TEN k_s_LONG_POWERS_OF_TEN h0 n0)) X15 rfl (β := Int64) (fun w21 => (mkF m 157 #[.val (.int p0), .val (.int p1), .val (.long q2), .second, .val (.int p3), .val (.int ((1 : Int32) + ((p0 &&& (2147483647 : Int32)) % (38 : Int32)))), .val (.int ((p1 &&& (2147483647 : Int32)) % (((1 : Int32) + ((p0 &&& (2147483647 : Int32)) % (38 : Int32))) + (1 : Int32)))), .val (.ref b1), .val (.long (own_P0 (18 : Int32))), .second, .val (.int (p3 &&& (7 : Int32))), .val (.long w21), .second, .unset] [])) (fun w21 => True) ?_ ?_
    · intro Tj21 Xj21 ej21 w21 hj21
      show own_FinW p e below s _ _ _ (Tj21.setTop (mkF m 157 #[.val (.int p0), .val (.int p1), .val (.long q2), .second, .val (.int p3), .val (.int ((1 : Int32) + ((p0 &&& (2147483647 : Int32)) % (38 : Int32)))), .val (.int ((p1 &&& (2147483647 : Int32)) % (((1 : Int32) + ((p0 &&& (2147483647 : Int32)) % (38 : Int32))) + (1 : Int32)))), .val (.ref b1), .val (.long (own_P0 (18 : Int32))), .second, .val (.int (p3 &&& (7 : Int32))), .val (.long w21), .second, .unset] []))
      refine own_stepW (fun _ k => XS.iload Xj21.here hx rfl (hb hby at_157) rfl k) ?_
      show own_FinW p e below s _ _ _ (Tj21.setTop (mkF m 159 #[.val (.int p0), .val (.int p1), .val (.long q2), .second, .val (.int p3), .val (.int ((1 : Int32) + ((p0 &&& (2147483647 : Int32)) % (38 : Int32)))), .val (.int ((p1 &&& (2147483647 : Int32)) % (((1 : Int32) + ((p0 &&& (2147483647 : Int32)) % (38 : Int32))) + (1 : Int32)))), .val (.ref b1), .val (.long (own_P0 (18 : Int32))), .second, .val (.int (p3 &&& (7 : Int32))), .val (.long w21), .second, .unset] [(.int ((1 : Int32) + ((p0 &&& (2147483647 : Int32)) % (38 : Int32))))]))
      refine own_stepW (fun _ k => XS.bipush Xj21.here hx rfl (hb hby at_159) k) ?_
      show own_FinW p e below s _ _ _ (Tj21.setTop (mkF m 161 #[.val (.int p0), .val (.int p1), .val (.long q2), .second, .val (.int p3), .val (.int ((1 : Int32) + ((p0 &&& (2147483647 : Int32)) % (38 : Int32)))), .val (.int ((p1 &&& (2147483647 : Int32)) % (((1 : Int32) + ((p0 &&& (2147483647 : Int32)) % (38 : Int32))) + (1 : Int32)))), .val (.ref b1), .val (.long (own_P0 (18 : Int32))), .second, .val (.int (p3 &&& (7 : Int32))), .val (.long w21), .second, .unset] [(.int (19 : Int32)), (.int ((1 : Int32) + ((p0 &&& (2147483647 : Int32)) % (38 : Int32))))]))
      have hf22 : ¬ (((1 : Int32) + ((p0 &&& (2147483647 : Int32)) % (38 : Int32))) < (19 : Int32)) := own_gt p0 hc13
      refine own_stepW (fun _ k => XS.icmpNo Xj21.here hx rfl (hb hby at_161) rfl (flt hf22).1 k) ?_
      show own_FinW p e below s _ _ _ (Tj21.setTop (mkF m 164 #[.val (.int p0), .val (.int p1), .val (.long q2), .second, .val (.int p3), .val (.int ((1 : Int32) + ((p0 &&& (2147483647 : Int32)) % (38 : Int32)))), .val (.int ((p1 &&& (2147483647 : Int32)) % (((1 : Int32) + ((p0 &&& (2147483647 : Int32)) % (38 : Int32))) + (1 : Int32)))), .val (.ref b1), .val (.long (own_P0 (18 : Int32))), .second, .val (.int (p3 &&& (7 : Int32))), .val (.long w21), .second, .unset] []))
      refine own_stepW (fun _ k => XS.iconst Xj21.here hx rfl (hb hby at_164) k) ?_
      show own_FinW p e below s _ _ _ (Tj21.setTop (mkF m 165 #[.val (.int p0), .val (.int p1), .val (.long q2), .second, .val (.int p3), .val (.int ((1 : Int32) + ((p0 &&& (2147483647 : Int32)) % (38 : Int32)))), .val (.int ((p1 &&& (2147483647 : Int32)) % (((1 : Int32) + ((p0 &&& (2147483647 : Int32)) % (38 : Int32))) + (1 : Int32)))), .val (.ref b1), .val (.long (own_P0 (18 : Int32))), .second, .val (.int (p3 &&& (7 : Int32))), .val (.long w21), .second, .unset] [(.int (1 : Int32))]))
      refine own_stepW (fun _ k => XS.istore Xj21.here hx rfl (hb hby at_165) rfl (l' := #[.val (.int p0), .val (.int p1), .val (.long q2), .second, .val (.int p3), .val (.int ((1 : Int32) + ((p0 &&& (2147483647 : Int32)) % (38 : Int32)))), .val (.int ((p1 &&& (2147483647 : Int32)) % (((1 : Int32) + ((p0 &&& (2147483647 : Int32)) % (38 : Int32))) + (1 : Int32)))), .val (.ref b1), .val (.long (own_P0 (18 : Int32))), .second, .val (.int (p3 &&& (7 : Int32))), .val (.long w21), .second, .val (.int (1 : Int32))]) rfl k) ?_
      show own_FinW p e below s _ _ _ (Tj21.setTop (mkF m 167 #[.val (.int p0), .val (.int p1), .val (.long q2), .second, .val (.int p3), .val (.int ((1 : Int32) + ((p0 &&& (2147483647 : Int32)) % (38 : Int32)))), .val (.int ((p1 &&& (2147483647 : Int32)) % (((1 : Int32) + ((p0 &&& (2147483647 : Int32)) % (38 : Int32))) + (1 : Int32)))), .val (.ref b1), .val (.long (own_P0 (18 : Int32))), .second, .val (.int (p3 &&& (7 : Int32))), .val (.long w21), .second, .val (.int (1 : Int32))] []))
      refine own_stepW (fun _ k => XS.goto Xj21.here hx rfl (pc0 := 167) (pc' := 211) rfl (hb hby at_167) (by decide) (by decide) k) ?_
      show own_FinW p e below s _ _ _ (Tj21.setTop (mkF m 211 #[.val (.int p0), .val (.int p1), .val (.long q2), .second, .val (.int p3), .val (.int ((1 : Int32) + ((p0 &&& (2147483647 : Int32)) % (38 : Int32)))), .val (.int ((p1 &&& (2147483647 : Int32)) % (((1 : Int32) + ((p0 &&& (2147483647 : Int32)) % (38 : Int32))) + (1 : Int32)))), .val (.ref b1), .val (.long (own_P0 (18 : Int32))), .second, .val (.int (p3 &&& (7 : Int32))), .val (.long w21), .second, .val (.int (1 : Int32))] []))
      refine own_stepW (fun _ k => XS.aload Xj21.here hx rfl (hb hby at_211) rfl rfl k) ?_
      show own_FinW p e below s _ _ _ (Tj21.setTop (mkF m 213 #[.val (.int p0), .val (.int p1), .val (.long q2), .second, .val (.int p3), .val (.int ((1 : Int32) + ((p0 &&& (2147483647 : Int32)) % (38 : Int32)))), .val (.int ((p1 &&& (2147483647 : Int32)) % (((1 : Int32) + ((p0 &&& (2147483647 : Int32)) % (38 : Int32))) + (1 : Int32)))), .val (.ref b1), .val (.long (own_P0 (18 : Int32))), .second, .val (.int (p3 &&& (7 : Int32))), .val (.long w21), .second, .val (.int (1 : Int32))] [(.ref b1)]))
      refine own_stepW (fun _ k => XS.lload Xj21.here hx rfl (hb hby at_213) rfl k) ?_
      show own_FinW p e below s _ _ _ (Tj21.setTop (mkF m 215 #[.val (.int p0), .val (.int p1), .val (.long q2), .second, .val (.int p3), .val (.int ((1 : Int32) + ((p0 &&& (2147483647 : Int32)) % (38 : Int32)))), .val (.int ((p1 &&& (2147483647 : Int32)) % (((1 : Int32) + ((p0 &&& (2147483647 : Int32)) % (38 : Int32))) + (1 : Int32)))), .val (.ref b1), .val (.long (own_P0 (18 : Int32))), .second, .val (.int (p3 &&& (7 : Int32))), .val (.long w21), .second, .val (.int (1 : Int32))] [(.long w21), (.ref b1)]))
      obtain ⟨cq23, kq23, q23a, q23b, q23c⟩ := isOf hZ6 ej21 G18
      obtain ⟨_, _, ⟨T23, L23, k23, n23⟩, -, X23, ⟨Lc23, hQ23, l23, y23, z23⟩, st23⟩ := Xj21.virtualBack hx (y := own_y5) (z := own_y5) hown6 (mvT hZ6 (own_w hw 59 rfl)) (mvT hZ6 (own_w hw 60 rfl)) (notFace_of_selects (args := #[]) (mvT hZ6 (own_w hw 62 rfl))) (mvT hZ6 (own_w hw 62 rfl)) (mvT hZ6 (own_w hw 61 rfl)) (by decide) (backOf (W := 0) (own_rm7 l Z a0 hw [] b1 w21 (((1 : Int32) + ((p0 &&& (2147483647 : Int32)) % (38 : Int32)))) s_LONG_POWERS_OF_TEN k_s_LONG_POWERS_OF_TEN T15.heap n0 Z15 G19 G16 G17 (show ¬ (((1 : Int32) + ((p0 &&& (2147483647 : Int32)) % (38 : Int32))) < (0 : Int32)) from own_neg p0)) hZ6 (own_w hw 63 rfl) (own_w hw 3 rfl) (by decide) (by decide)) q23a q23c (g := (mkF m 215 #[.val (.int p0), .val (.int p1), .val (.long q2), .second, .val (.int p3), .val (.int ((1 : Int32) + ((p0 &&& (2147483647 : Int32)) % (38 : Int32)))), .val (.int ((p1 &&& (2147483647 : Int32)) % (((1 : Int32) + ((p0 &&& (2147483647 : Int32)) % (38 : Int32))) + (1 : Int32)))), .val (.ref b1), .val (.long (own_P0 (18 : Int32))), .second, .val (.int (p3 &&& (7 : Int32))), .val (.long w21), .second, .val (.int (1 : Int32))] [(.long w21), (.ref b1)])) rfl (by rw [hml]; rfl) (Steps.refl _) (argsL := [(.long w21)]) (rest := []) (lenOf own_pd5 rfl) rfl (by show 2 * 0 + _ ≤ _; exact Nat.le_of_eq rfl) (hb hby at_215) (fun _ _ => ⟨rfl, ej21, (by decide : 4 + 0 ≤ _), (by decide : 69 + 0 ≤ _)⟩)
      dsimp only [Pt.U, Pt.locs, Pt.cells, Pt.slots] at X23 l23 y23 z23 st23 hQ23
      subst l23 y23 z23
      obtain ⟨rfl, N23q, e23⟩ := hQ23
      have N23 := Fr.app N15 N23q
      refine own_stepW (fun _ k => st23.trans k) ?_
      show own_FinW p e below s _ _ _ (T23.setTop (mkF m 218 #[.val (.int p0), .val (.int p1), .val (.long q2), .second, .val (.int p3), .val (.int ((1 : Int32) + ((p0 &&& (2147483647 : Int32)) % (38 : Int32)))), .val (.int ((p1 &&& (2147483647 : Int32)) % (((1 : Int32) + ((p0 &&& (2147483647 : Int32)) % (38 : Int32))) + (1 : Int32)))), .val (.ref b1), .val (.long (own_P0 (18 : Int32))), .second, .val (.int (p3 &&& (7 : Int32))), .val (.long w21), .second, .val (.int (1 : Int32))] [(.int (own_r7 w21 ((1 : Int32) + ((p0 &&& (2147483647 : Int32)) % (38 : Int32)))))]))
      refine own_stepW (fun _ k => XS.iload X23.here hx rfl (hb hby at_218) rfl k) ?_
      show own_FinW p e below s _ _ _ (T23.setTop (mkF m 220 #[.val (.int p0), .val (.int p1), .val (.long q2), .second, .val (.int p3), .val (.int ((1 : Int32) + ((p0 &&& (2147483647 : Int32)) % (38 : Int32)))), .val (.int ((p1 &&& (2147483647 : Int32)) % (((1 : Int32) + ((p0 &&& (2147483647 : Int32)) % (38 : Int32))) + (1 : Int32)))), .val (.ref b1), .val (.long (own_P0 (18 : Int32))), .second, .val (.int (p3 &&& (7 : Int32))), .val (.long w21), .second, .val (.int (1 : Int32))] [(.int (1 : Int32)), (.int (own_r7 w21 ((1 : Int32) + ((p0 &&& (2147483647 : Int32)) % (38 : Int32)))))]))
      have hf24 : (own_r7 w21 ((1 : Int32) + ((p0 &&& (2147483647 : Int32)) % (38 : Int32)))) = (1 : Int32) := own_big _ _ (own_gt p0 hc13)
      refine own_stepW (fun _ k => XS.icmpNo X23.here hx rfl (hb hby at_220) rfl (teq hf24).2 k) ?_
      show own_FinW p e below s _ _ _ (T23.setTop (mkF m 223 #[.val (.int p0), .val (.int p1), .val (.long q2), .second, .val (.int p3), .val (.int ((1 : Int32) + ((p0 &&& (2147483647 : Int32)) % (38 : Int32)))), .val (.int ((p1 &&& (2147483647 : Int32)) % (((1 : Int32) + ((p0 &&& (2147483647 : Int32)) % (38 : Int32))) + (1 : Int32)))), .val (.ref b1), .val (.long (own_P0 (18 : Int32))), .second, .val (.int (p3 &&& (7 : Int32))), .val (.long w21), .second, .val (.int (1 : Int32))] []))
      refine own_stepW (fun _ k => XS.iconst X23.here hx rfl (hb hby at_223) k) ?_
      show own_FinW p e below s _ _ _ (T23.setTop (mkF m 224 #[.val (.int p0), .val (.int p1), .val (.long q2), .second, .val (.int p3), .val (.int ((1 : Int32) + ((p0 &&& (2147483647 : Int32)) % (38 : Int32)))), .val (.int ((p1 &&& (2147483647 : Int32)) % (((1 : Int32) + ((p0 &&& (2147483647 : Int32)) % (38 : Int32))) + (1 : Int32)))), .val (.ref b1), .val (.long (own_P0 (18 : Int32))), .second, .val (.int (p3 &&& (7 : Int32))), .val (.long w21), .second, .val (.int (1 : Int32))] [(.int (1 : Int32))]))
      refine own_stepW (fun _ k => XS.goto X23.here hx rfl (pc0 := 224) (pc' := 228) rfl (hb hby at_224) (by decide) (by decide) k) ?_
      show own_FinW p e below s _ _ _ (T23.setTop (mkF m 228 #[.val (.int p0), .val (.int p1), .val (.long q2), .second, .val (.int p3), .val (.int ((1 : Int32) + ((p0 &&& (2147483647 : Int32)) % (38 : Int32)))), .val (.int ((p1 &&& (2147483647 : Int32)) % (((1 : Int32) + ((p0 &&& (2147483647 : Int32)) % (38 : Int32))) + (1 : Int32)))), .val (.ref b1), .val (.long (own_P0 (18 : Int32))), .second, .val (.int (p3 &&& (7 : Int32))), .val (.long w21), .second, .val (.int (1 : Int32))] [(.int (1 : Int32))]))
      exact own_retW X23 hlk hS6 e23 hk15 (v := some (.int (1 : Int32))) (fun h => by rw [Bd.returns] at h; cases h) (by decide) (by decide) (by show own_Q8 Z p0 p1 q2 p3 s_LONG_POWERS_OF_TEN k_s_LONG_POWERS_OF_TEN h0 n0 _ T23.heap _; rw [e23]; exact ⟨rfl, N23⟩) (fun fs hr => retN X23 hx (t := .boolean) Bd.returns (by simp) (hb hby at_228) hr)
    · intro J21
      show own_FinW p e below s _ _ _ (T15.setTop (mkF m 54 #[.val (.int p0), .val (.int p1), .val (.long q2), .second, .val (.int p3), .val (.int ((1 : Int32) + ((p0 &&& (2147483647 : Int32)) % (38 : Int32)))), .val (.int ((p1 &&& (2147483647 : Int32)) % (((1 : Int32) + ((p0 &&& (2147483647 : Int32)) % (38 : Int32))) + (1 : Int32)))), .val (.ref b1), .val (.long (own_P0 (18 : Int32))), .second, .val (.int (p3 &&& (7 : Int32))), .unset, .unset, .unset] []))
      refine own_stepW (fun _ k => XS.iload X15.here hx rfl (hb hby at_54) rfl k) ?_
      show own_FinW p e below s _ _ _ (T15.setTop (mkF m 56 #[.val (.int p0), .val (.int p1), .val (.long q2), .second, .val (.int p3), .val (.int ((1 : Int32) + ((p0 &&& (2147483647 : Int32)) % (38 : Int32)))), .val (.int ((p1 &&& (2147483647 : Int32)) % (((1 : Int32) + ((p0 &&& (2147483647 : Int32)) % (38 : Int32))) + (1 : Int32)))), .val (.ref b1), .val (.long (own_P0 (18 : Int32))), .second, .val (.int (p3 &&& (7 : Int32))), .unset, .unset, .unset] [(.int (p3 &&& (7 : Int32)))]))
      by_cases hc25 : (p3 &&& (7 : Int32)) = (0 : Int32)
      · refine own_stepW (fun _ k => XS.ifNo X15.here hx rfl (hb hby at_56) rfl ((if0 _ _).trans (teq hc25).2) k) ?_
        show own_FinW p e below s _ _ _ (T15.setTop (mkF m 59 #[.val (.int p0), .val (.int p1), .val (.long q2), .second, .val (.int p3), .val (.int ((1 : Int32) + ((p0 &&& (2147483647 : Int32)) % (38 : Int32)))), .val (.int ((p1 &&& (2147483647 : Int32)) % (((1 : Int32) + ((p0 &&& (2147483647 : Int32)) % (38 : Int32))) + (1 : Int32)))), .val (.ref b1), .val (.long (own_P0 (18 : Int32))), .second, .val (.int (p3 &&& (7 : Int32))), .unset, .unset, .unset] []))
        refine own_stepW (fun _ k => XS.lloadN X15.here hx rfl (hb hby at_59) rfl k) ?_
        show own_FinW p e below s _ _ _ (T15.setTop (mkF m 60 #[.val (.int p0), .val (.int p1), .val (.long q2), .second, .val (.int p3), .val (.int ((1 : Int32) + ((p0 &&& (2147483647 : Int32)) % (38 : Int32)))), .val (.int ((p1 &&& (2147483647 : Int32)) % (((1 : Int32) + ((p0 &&& (2147483647 : Int32)) % (38 : Int32))) + (1 : Int32)))), .val (.ref b1), .val (.long (own_P0 (18 : Int32))), .second, .val (.int (p3 &&& (7 : Int32))), .unset, .unset, .unset] [(.long q2)]))
        refine own_stepW (fun _ k => XS.lstore X15.here hx rfl (hb hby at_60) rfl (l' := #[.val (.int p0), .val (.int p1), .val (.long q2), .second, .val (.int p3), .val (.int ((1 : Int32) + ((p0 &&& (2147483647 : Int32)) % (38 : Int32)))), .val (.int ((p1 &&& (2147483647 : Int32)) % (((1 : Int32) + ((p0 &&& (2147483647 : Int32)) % (38 : Int32))) + (1 : Int32)))), .val (.ref b1), .val (.long (own_P0 (18 : Int32))), .second, .val (.int (p3 &&& (7 : Int32))), .val (.long q2), .second, .unset]) rfl k) ?_
        show own_FinW p e below s _ _ _ (T15.setTop (mkF m 62 #[.val (.int p0), .val (.int p1), .val (.long q2), .second, .val (.int p3), .val (.int ((1 : Int32) + ((p0 &&& (2147483647 : Int32)) % (38 : Int32)))), .val (.int ((p1 &&& (2147483647 : Int32)) % (((1 : Int32) + ((p0 &&& (2147483647 : Int32)) % (38 : Int32))) + (1 : Int32)))), .val (.ref b1), .val (.long (own_P0 (18 : Int32))), .second, .val (.int (p3 &&& (7 : Int32))), .val (.long q2), .second, .unset] []))
        refine own_stepW (fun _ k => XS.goto X15.here hx rfl (pc0 := 62) (pc' := 157) rfl (hb hby at_62) (by decide) (by decide) k) ?_
        show own_FinW p e below s _ _ _ (T15.setTop (mkF m 157 #[.val (.int p0), .val (.int p1), .val (.long q2), .second, .val (.int p3), .val (.int ((1 : Int32) + ((p0 &&& (2147483647 : Int32)) % (38 : Int32)))), .val (.int ((p1 &&& (2147483647 : Int32)) % (((1 : Int32) + ((p0 &&& (2147483647 : Int32)) % (38 : Int32))) + (1 : Int32)))), .val (.ref b1), .val (.long (own_P0 (18 : Int32))), .second, .val (.int (p3 &&& (7 : Int32))), .val (.long q2), .second, .unset] []))
        exact J21 _ X15 rfl q2 trivial
      · refine own_stepW (fun _ k => XS.ifYes X15.here hx rfl (pc0 := 56) (pc' := 65) rfl (hb hby at_56) rfl ((if0 _ _).trans (feq hc25).2) (by decide) (by decide) k) ?_
        show own_FinW p e below s _ _ _ (T15.setTop (mkF m 65 #[.val (.int p0), .val (.int p1), .val (.long q2), .second, .val (.int p3), .val (.int ((1 : Int32) + ((p0 &&& (2147483647 : Int32)) % (38 : Int32)))), .val (.int ((p1 &&& (2147483647 : Int32)) % (((1 : Int32) + ((p0 &&& (2147483647 : Int32)) % (38 : Int32))) + (1 : Int32)))), .val (.ref b1), .val (.long (own_P0 (18 : Int32))), .second, .val (.int (p3 &&& (7 : Int32))), .unset, .unset, .unset] []))
        refine own_stepW (fun _ k => XS.iload X15.here hx rfl (hb hby at_65) rfl k) ?_
        show own_FinW p e below s _ _ _ (T15.setTop (mkF m 67 #[.val (.int p0), .val (.int p1), .val (.long q2), .second, .val (.int p3), .val (.int ((1 : Int32) + ((p0 &&& (2147483647 : Int32)) % (38 : Int32)))), .val (.int ((p1 &&& (2147483647 : Int32)) % (((1 : Int32) + ((p0 &&& (2147483647 : Int32)) % (38 : Int32))) + (1 : Int32)))), .val (.ref b1), .val (.long (own_P0 (18 : Int32))), .second, .val (.int (p3 &&& (7 : Int32))), .unset, .unset, .unset] [(.int (p3 &&& (7 : Int32)))]))
        refine own_stepW (fun _ k => XS.iconst X15.here hx rfl (hb hby at_67) k) ?_
        show own_FinW p e below s _ _ _ (T15.setTop (mkF m 68 #[.val (.int p0), .val (.int p1), .val (.long q2), .second, .val (.int p3), .val (.int ((1 : Int32) + ((p0 &&& (2147483647 : Int32)) % (38 : Int32)))), .val (.int ((p1 &&& (2147483647 : Int32)) % (((1 : Int32) + ((p0 &&& (2147483647 : Int32)) % (38 : Int32))) + (1 : Int32)))), .val (.ref b1), .val (.long (own_P0 (18 : Int32))), .second, .val (.int (p3 &&& (7 : Int32))), .unset, .unset, .unset] [(.int (1 : Int32)), (.int (p3 &&& (7 : Int32)))]))
        by_cases hc26 : (p3 &&& (7 : Int32)) = (1 : Int32)
        · refine own_stepW (fun _ k => XS.icmpNo X15.here hx rfl (hb hby at_68) rfl (teq hc26).2 k) ?_
          show own_FinW p e below s _ _ _ (T15.setTop (mkF m 71 #[.val (.int p0), .val (.int p1), .val (.long q2), .second, .val (.int p3), .val (.int ((1 : Int32) + ((p0 &&& (2147483647 : Int32)) % (38 : Int32)))), .val (.int ((p1 &&& (2147483647 : Int32)) % (((1 : Int32) + ((p0 &&& (2147483647 : Int32)) % (38 : Int32))) + (1 : Int32)))), .val (.ref b1), .val (.long (own_P0 (18 : Int32))), .second, .val (.int (p3 &&& (7 : Int32))), .unset, .unset, .unset] []))
          refine own_stepW (fun _ k => XS.lloadN X15.here hx rfl (hb hby at_71) rfl k) ?_
          show own_FinW p e below s _ _ _ (T15.setTop (mkF m 72 #[.val (.int p0), .val (.int p1), .val (.long q2), .second, .val (.int p3), .val (.int ((1 : Int32) + ((p0 &&& (2147483647 : Int32)) % (38 : Int32)))), .val (.int ((p1 &&& (2147483647 : Int32)) % (((1 : Int32) + ((p0 &&& (2147483647 : Int32)) % (38 : Int32))) + (1 : Int32)))), .val (.ref b1), .val (.long (own_P0 (18 : Int32))), .second, .val (.int (p3 &&& (7 : Int32))), .unset, .unset, .unset] [(.long q2)]))
          refine own_stepW (fun _ k => XS.lload X15.here hx rfl (hb hby at_72) rfl k) ?_
          show own_FinW p e below s _ _ _ (T15.setTop (mkF m 74 #[.val (.int p0), .val (.int p1), .val (.long q2), .second, .val (.int p3), .val (.int ((1 : Int32) + ((p0 &&& (2147483647 : Int32)) % (38 : Int32)))), .val (.int ((p1 &&& (2147483647 : Int32)) % (((1 : Int32) + ((p0 &&& (2147483647 : Int32)) % (38 : Int32))) + (1 : Int32)))), .val (.ref b1), .val (.long (own_P0 (18 : Int32))), .second, .val (.int (p3 &&& (7 : Int32))), .unset, .unset, .unset] [(.long (own_P0 (18 : Int32))), (.long q2)]))
          refine own_stepW (fun _ k => XS.lrem X15.here hx rfl (hb hby at_74) rfl (by decide) k) ?_
          show own_FinW p e below s _ _ _ (T15.setTop (mkF m 75 #[.val (.int p0), .val (.int p1), .val (.long q2), .second, .val (.int p3), .val (.int ((1 : Int32) + ((p0 &&& (2147483647 : Int32)) % (38 : Int32)))), .val (.int ((p1 &&& (2147483647 : Int32)) % (((1 : Int32) + ((p0 &&& (2147483647 : Int32)) % (38 : Int32))) + (1 : Int32)))), .val (.ref b1), .val (.long (own_P0 (18 : Int32))), .second, .val (.int (p3 &&& (7 : Int32))), .unset, .unset, .unset] [(.long (q2 - (q2 / (own_P0 (18 : Int32))) * (own_P0 (18 : Int32))))]))
          refine own_stepW (fun _ k => XS.lstore X15.here hx rfl (hb hby at_75) rfl (l' := #[.val (.int p0), .val (.int p1), .val (.long q2), .second, .val (.int p3), .val (.int ((1 : Int32) + ((p0 &&& (2147483647 : Int32)) % (38 : Int32)))), .val (.int ((p1 &&& (2147483647 : Int32)) % (((1 : Int32) + ((p0 &&& (2147483647 : Int32)) % (38 : Int32))) + (1 : Int32)))), .val (.ref b1), .val (.long (own_P0 (18 : Int32))), .second, .val (.int (p3 &&& (7 : Int32))), .val (.long (q2 - (q2 / (own_P0 (18 : Int32))) * (own_P0 (18 : Int32)))), .second, .unset]) rfl k) ?_
          show own_FinW p e below s _ _ _ (T15.setTop (mkF m 77 #[.val (.int p0), .val (.int p1), .val (.long q2), .second, .val (.int p3), .val (.int ((1 : Int32) + ((p0 &&& (2147483647 : Int32)) % (38 : Int32)))), .val (.int ((p1 &&& (2147483647 : Int32)) % (((1 : Int32) + ((p0 &&& (2147483647 : Int32)) % (38 : Int32))) + (1 : Int32)))), .val (.ref b1), .val (.long (own_P0 (18 : Int32))), .second, .val (.int (p3 &&& (7 : Int32))), .val (.long (q2 - (q2 / (own_P0 (18 : Int32))) * (own_P0 (18 : Int32)))), .second, .unset] []))
          refine own_stepW (fun _ k => XS.goto X15.here hx rfl (pc0 := 77) (pc' := 157) rfl (hb hby at_77) (by decide) (by decide) k) ?_
          show own_FinW p e below s _ _ _ (T15.setTop (mkF m 157 #[.val (.int p0), .val (.int p1), .val (.long q2), .second, .val (.int p3), .val (.int ((1 : Int32) + ((p0 &&& (2147483647 : Int32)) % (38 : Int32)))), .val (.int ((p1 &&& (2147483647 : Int32)) % (((1 : Int32) + ((p0 &&& (2147483647 : Int32)) % (38 : Int32))) + (1 : Int32)))), .val (.ref b1), .val (.long (own_P0 (18 : Int32))), .second, .val (.int (p3 &&& (7 : Int32))), .val (.long (q2 - (q2 / (own_P0 (18 : Int32))) * (own_P0 (18 : Int32)))), .second, .unset] []))
          exact J21 _ X15 rfl (q2 - (q2 / (own_P0 (18 : Int32))) * (own_P0 (18 : Int32))) trivial
        · refine own_stepW (fun _ k => XS.icmpYes X15.here hx rfl (pc0 := 68) (pc' := 80) rfl (hb hby at_68) rfl (feq hc26).2 (by decide) (by decide) k) ?_
          show own_FinW p e below s _ _ _ (T15.setTop (mkF m 80 #[.val (.int p0), .val (.int p1), .val (.long q2), .second, .val (.int p3), .val (.int ((1 : Int32) + ((p0 &&& (2147483647 : Int32)) % (38 : Int32)))), .val (.int ((p1 &&& (2147483647 : Int32)) % (((1 : Int32) + ((p0 &&& (2147483647 : Int32)) % (38 : Int32))) + (1 : Int32)))), .val (.ref b1), .val (.long (own_P0 (18 : Int32))), .second, .val (.int (p3 &&& (7 : Int32))), .unset, .unset, .unset] []))
          refine own_stepW (fun _ k => XS.iload X15.here hx rfl (hb hby at_80) rfl k) ?_
          show own_FinW p e below s _ _ _ (T15.setTop (mkF m 82 #[.val (.int p0), .val (.int p1), .val (.long q2), .second, .val (.int p3), .val (.int ((1 : Int32) + ((p0 &&& (2147483647 : Int32)) % (38 : Int32)))), .val (.int ((p1 &&& (2147483647 : Int32)) % (((1 : Int32) + ((p0 &&& (2147483647 : Int32)) % (38 : Int32))) + (1 : Int32)))), .val (.ref b1), .val (.long (own_P0 (18 : Int32))), .second, .val (.int (p3 &&& (7 : Int32))), .unset, .unset, .unset] [(.int (p3 &&& (7 : Int32)))]))
          refine own_stepW (fun _ k => XS.iconst X15.here hx rfl (hb hby at_82) k) ?_
          show own_FinW p e below s _ _ _ (T15.setTop (mkF m 83 #[.val (.int p0), .val (.int p1), .val (.long q2), .second, .val (.int p3), .val (.int ((1 : Int32) + ((p0 &&& (2147483647 : Int32)) % (38 : Int32)))), .val (.int ((p1 &&& (2147483647 : Int32)) % (((1 : Int32) + ((p0 &&& (2147483647 : Int32)) % (38 : Int32))) + (1 : Int32)))), .val (.ref b1), .val (.long (own_P0 (18 : Int32))), .second, .val (.int (p3 &&& (7 : Int32))), .unset, .unset, .unset] [(.int (2 : Int32)), (.int (p3 &&& (7 : Int32)))]))
          by_cases hc27 : (p3 &&& (7 : Int32)) = (2 : Int32)
          · refine own_stepW (fun _ k => XS.icmpNo X15.here hx rfl (hb hby at_83) rfl (teq hc27).2 k) ?_
            show own_FinW p e below s _ _ _ (T15.setTop (mkF m 86 #[.val (.int p0), .val (.int p1), .val (.long q2), .second, .val (.int p3), .val (.int ((1 : Int32) + ((p0 &&& (2147483647 : Int32)) % (38 : Int32)))), .val (.int ((p1 &&& (2147483647 : Int32)) % (((1 : Int32) + ((p0 &&& (2147483647 : Int32)) % (38 : Int32))) + (1 : Int32)))), .val (.ref b1), .val (.long (own_P0 (18 : Int32))), .second, .val (.int (p3 &&& (7 : Int32))), .unset, .unset, .unset] []))
            refine own_stepW (fun _ k => XS.lload X15.here hx rfl (hb hby at_86) rfl k) ?_
            show own_FinW p e below s _ _ _ (T15.setTop (mkF m 88 #[.val (.int p0), .val (.int p1), .val (.long q2), .second, .val (.int p3), .val (.int ((1 : Int32) + ((p0 &&& (2147483647 : Int32)) % (38 : Int32)))), .val (.int ((p1 &&& (2147483647 : Int32)) % (((1 : Int32) + ((p0 &&& (2147483647 : Int32)) % (38 : Int32))) + (1 : Int32)))), .val (.ref b1), .val (.long (own_P0 (18 : Int32))), .second, .val (.int (p3 &&& (7 : Int32))), .unset, .unset, .unset] [(.long (own_P0 (18 : Int32)))]))
            refine own_stepW (fun _ k => XS.lconst X15.here hx rfl (hb hby at_88) k) ?_
            show own_FinW p e below s _ _ _ (T15.setTop (mkF m 89 #[.val (.int p0), .val (.int p1), .val (.long q2), .second, .val (.int p3), .val (.int ((1 : Int32) + ((p0 &&& (2147483647 : Int32)) % (38 : Int32)))), .val (.int ((p1 &&& (2147483647 : Int32)) % (((1 : Int32) + ((p0 &&& (2147483647 : Int32)) % (38 : Int32))) + (1 : Int32)))), .val (.ref b1), .val (.long (own_P0 (18 : Int32))), .second, .val (.int (p3 &&& (7 : Int32))), .unset, .unset, .unset] [(.long (1 : Int64)), (.long (own_P0 (18 : Int32)))]))
            refine own_stepW (fun _ k => XS.lsub X15.here hx rfl (hb hby at_89) rfl k) ?_
            show own_FinW p e below s _ _ _ (T15.setTop (mkF m 90 #[.val (.int p0), .val (.int p1), .val (.long q2), .second, .val (.int p3), .val (.int ((1 : Int32) + ((p0 &&& (2147483647 : Int32)) % (38 : Int32)))), .val (.int ((p1 &&& (2147483647 : Int32)) % (((1 : Int32) + ((p0 &&& (2147483647 : Int32)) % (38 : Int32))) + (1 : Int32)))), .val (.ref b1), .val (.long (own_P0 (18 : Int32))), .second, .val (.int (p3 &&& (7 : Int32))), .unset, .unset, .unset] [(.long ((own_P0 (18 : Int32)) - (1 : Int64)))]))
            refine own_stepW (fun _ k => XS.lstore X15.here hx rfl (hb hby at_90) rfl (l' := #[.val (.int p0), .val (.int p1), .val (.long q2), .second, .val (.int p3), .val (.int ((1 : Int32) + ((p0 &&& (2147483647 : Int32)) % (38 : Int32)))), .val (.int ((p1 &&& (2147483647 : Int32)) % (((1 : Int32) + ((p0 &&& (2147483647 : Int32)) % (38 : Int32))) + (1 : Int32)))), .val (.ref b1), .val (.long (own_P0 (18 : Int32))), .second, .val (.int (p3 &&& (7 : Int32))), .val (.long ((own_P0 (18 : Int32)) - (1 : Int64))), .second, .unset]) rfl k) ?_
            show own_FinW p e below s _ _ _ (T15.setTop (mkF m 92 #[.val (.int p0), .val (.int p1), .val (.long q2), .second, .val (.int p3), .val (.int ((1 : Int32) + ((p0 &&& (2147483647 : Int32)) % (38 : Int32)))), .val (.int ((p1 &&& (2147483647 : Int32)) % (((1 : Int32) + ((p0 &&& (2147483647 : Int32)) % (38 : Int32))) + (1 : Int32)))), .val (.ref b1), .val (.long (own_P0 (18 : Int32))), .second, .val (.int (p3 &&& (7 : Int32))), .val (.long ((own_P0 (18 : Int32)) - (1 : Int64))), .second, .unset] []))
            refine own_stepW (fun _ k => XS.goto X15.here hx rfl (pc0 := 92) (pc' := 157) rfl (hb hby at_92) (by decide) (by decide) k) ?_
            show own_FinW p e below s _ _ _ (T15.setTop (mkF m 157 #[.val (.int p0), .val (.int p1), .val (.long q2), .second, .val (.int p3), .val (.int ((1 : Int32) + ((p0 &&& (2147483647 : Int32)) % (38 : Int32)))), .val (.int ((p1 &&& (2147483647 : Int32)) % (((1 : Int32) + ((p0 &&& (2147483647 : Int32)) % (38 : Int32))) + (1 : Int32)))), .val (.ref b1), .val (.long (own_P0 (18 : Int32))), .second, .val (.int (p3 &&& (7 : Int32))), .val (.long ((own_P0 (18 : Int32)) - (1 : Int64))), .second, .unset] []))
            exact J21 _ X15 rfl ((own_P0 (18 : Int32)) - (1 : Int64)) trivial
          · refine own_stepW (fun _ k => XS.icmpYes X15.here hx rfl (pc0 := 83) (pc' := 95) rfl (hb hby at_83) rfl (feq hc27).2 (by decide) (by decide) k) ?_
            show own_FinW p e below s _ _ _ (T15.setTop (mkF m 95 #[.val (.int p0), .val (.int p1), .val (.long q2), .second, .val (.int p3), .val (.int ((1 : Int32) + ((p0 &&& (2147483647 : Int32)) % (38 : Int32)))), .val (.int ((p1 &&& (2147483647 : Int32)) % (((1 : Int32) + ((p0 &&& (2147483647 : Int32)) % (38 : Int32))) + (1 : Int32)))), .val (.ref b1), .val (.long (own_P0 (18 : Int32))), .second, .val (.int (p3 &&& (7 : Int32))), .unset, .unset, .unset] []))
            refine own_stepW (fun _ k => XS.iload X15.here hx rfl (hb hby at_95) rfl k) ?_
            show own_FinW p e below s _ _ _ (T15.setTop (mkF m 97 #[.val (.int p0), .val (.int p1), .val (.long q2), .second, .val (.int p3), .val (.int ((1 : Int32) + ((p0 &&& (2147483647 : Int32)) % (38 : Int32)))), .val (.int ((p1 &&& (2147483647 : Int32)) % (((1 : Int32) + ((p0 &&& (2147483647 : Int32)) % (38 : Int32))) + (1 : Int32)))), .val (.ref b1), .val (.long (own_P0 (18 : Int32))), .second, .val (.int (p3 &&& (7 : Int32))), .unset, .unset, .unset] [(.int (p3 &&& (7 : Int32)))]))
            refine own_stepW (fun _ k => XS.iconst X15.here hx rfl (hb hby at_97) k) ?_
            show own_FinW p e below s _ _ _ (T15.setTop (mkF m 98 #[.val (.int p0), .val (.int p1), .val (.long q2), .second, .val (.int p3), .val (.int ((1 : Int32) + ((p0 &&& (2147483647 : Int32)) % (38 : Int32)))), .val (.int ((p1 &&& (2147483647 : Int32)) % (((1 : Int32) + ((p0 &&& (2147483647 : Int32)) % (38 : Int32))) + (1 : Int32)))), .val (.ref b1), .val (.long (own_P0 (18 : Int32))), .second, .val (.int (p3 &&& (7 : Int32))), .unset, .unset, .unset] [(.int (3 : Int32)), (.int (p3 &&& (7 : Int32)))]))
            by_cases hc28 : (p3 &&& (7 : Int32)) = (3 : Int32)
            · refine own_stepW (fun _ k => XS.icmpNo X15.here hx rfl (hb hby at_98) rfl (teq hc28).2 k) ?_
              show own_FinW p e below s _ _ _ (T15.setTop (mkF m 101 #[.val (.int p0), .val (.int p1), .val (.long q2), .second, .val (.int p3), .val (.int ((1 : Int32) + ((p0 &&& (2147483647 : Int32)) % (38 : Int32)))), .val (.int ((p1 &&& (2147483647 : Int32)) % (((1 : Int32) + ((p0 &&& (2147483647 : Int32)) % (38 : Int32))) + (1 : Int32)))), .val (.ref b1), .val (.long (own_P0 (18 : Int32))), .second, .val (.int (p3 &&& (7 : Int32))), .unset, .unset, .unset] []))
              refine own_stepW (fun _ k => XS.lload X15.here hx rfl (hb hby at_101) rfl k) ?_
              show own_FinW p e below s _ _ _ (T15.setTop (mkF m 103 #[.val (.int p0), .val (.int p1), .val (.long q2), .second, .val (.int p3), .val (.int ((1 : Int32) + ((p0 &&& (2147483647 : Int32)) % (38 : Int32)))), .val (.int ((p1 &&& (2147483647 : Int32)) % (((1 : Int32) + ((p0 &&& (2147483647 : Int32)) % (38 : Int32))) + (1 : Int32)))), .val (.ref b1), .val (.long (own_P0 (18 : Int32))), .second, .val (.int (p3 &&& (7 : Int32))), .unset, .unset, .unset] [(.long (own_P0 (18 : Int32)))]))
              refine own_stepW (fun _ k => XS.lstore X15.here hx rfl (hb hby at_103) rfl (l' := #[.val (.int p0), .val (.int p1), .val (.long q2), .second, .val (.int p3), .val (.int ((1 : Int32) + ((p0 &&& (2147483647 : Int32)) % (38 : Int32)))), .val (.int ((p1 &&& (2147483647 : Int32)) % (((1 : Int32) + ((p0 &&& (2147483647 : Int32)) % (38 : Int32))) + (1 : Int32)))), .val (.ref b1), .val (.long (own_P0 (18 : Int32))), .second, .val (.int (p3 &&& (7 : Int32))), .val (.long (own_P0 (18 : Int32))), .second, .unset]) rfl k) ?_
              show own_FinW p e below s _ _ _ (T15.setTop (mkF m 105 #[.val (.int p0), .val (.int p1), .val (.long q2), .second, .val (.int p3), .val (.int ((1 : Int32) + ((p0 &&& (2147483647 : Int32)) % (38 : Int32)))), .val (.int ((p1 &&& (2147483647 : Int32)) % (((1 : Int32) + ((p0 &&& (2147483647 : Int32)) % (38 : Int32))) + (1 : Int32)))), .val (.ref b1), .val (.long (own_P0 (18 : Int32))), .second, .val (.int (p3 &&& (7 : Int32))), .val (.long (own_P0 (18 : Int32))), .second, .unset] []))
              refine own_stepW (fun _ k => XS.goto X15.here hx rfl (pc0 := 105) (pc' := 157) rfl (hb hby at_105) (by decide) (by decide) k) ?_
              show own_FinW p e below s _ _ _ (T15.setTop (mkF m 157 #[.val (.int p0), .val (.int p1), .val (.long q2), .second, .val (.int p3), .val (.int ((1 : Int32) + ((p0 &&& (2147483647 : Int32)) % (38 : Int32)))), .val (.int ((p1 &&& (2147483647 : Int32)) % (((1 : Int32) + ((p0 &&& (2147483647 : Int32)) % (38 : Int32))) + (1 : Int32)))), .val (.ref b1), .val (.long (own_P0 (18 : Int32))), .second, .val (.int (p3 &&& (7 : Int32))), .val (.long (own_P0 (18 : Int32))), .second, .unset] []))
              exact J21 _ X15 rfl (own_P0 (18 : Int32)) trivial
            · refine own_stepW (fun _ k => XS.icmpYes X15.here hx rfl (pc0 := 98) (pc' := 108) rfl (hb hby at_98) rfl (feq hc28).2 (by decide) (by decide) k) ?_
              show own_FinW p e below s _ _ _ (T15.setTop (mkF m 108 #[.val (.int p0), .val (.int p1), .val (.long q2), .second, .val (.int p3), .val (.int ((1 : Int32) + ((p0 &&& (2147483647 : Int32)) % (38 : Int32)))), .val (.int ((p1 &&& (2147483647 : Int32)) % (((1 : Int32) + ((p0 &&& (2147483647 : Int32)) % (38 : Int32))) + (1 : Int32)))), .val (.ref b1), .val (.long (own_P0 (18 : Int32))), .second, .val (.int (p3 &&& (7 : Int32))), .unset, .unset, .unset] []))
              refine own_stepW (fun _ k => XS.iload X15.here hx rfl (hb hby at_108) rfl k) ?_
              show own_FinW p e below s _ _ _ (T15.setTop (mkF m 110 #[.val (.int p0), .val (.int p1), .val (.long q2), .second, .val (.int p3), .val (.int ((1 : Int32) + ((p0 &&& (2147483647 : Int32)) % (38 : Int32)))), .val (.int ((p1 &&& (2147483647 : Int32)) % (((1 : Int32) + ((p0 &&& (2147483647 : Int32)) % (38 : Int32))) + (1 : Int32)))), .val (.ref b1), .val (.long (own_P0 (18 : Int32))), .second, .val (.int (p3 &&& (7 : Int32))), .unset, .unset, .unset] [(.int (p3 &&& (7 : Int32)))]))
              refine own_stepW (fun _ k => XS.iconst X15.here hx rfl (hb hby at_110) k) ?_
              show own_FinW p e below s _ _ _ (T15.setTop (mkF m 111 #[.val (.int p0), .val (.int p1), .val (.long q2), .second, .val (.int p3), .val (.int ((1 : Int32) + ((p0 &&& (2147483647 : Int32)) % (38 : Int32)))), .val (.int ((p1 &&& (2147483647 : Int32)) % (((1 : Int32) + ((p0 &&& (2147483647 : Int32)) % (38 : Int32))) + (1 : Int32)))), .val (.ref b1), .val (.long (own_P0 (18 : Int32))), .second, .val (.int (p3 &&& (7 : Int32))), .unset, .unset, .unset] [(.int (4 : Int32)), (.int (p3 &&& (7 : Int32)))]))
              by_cases hc29 : (p3 &&& (7 : Int32)) = (4 : Int32)
              · refine own_stepW (fun _ k => XS.icmpNo X15.here hx rfl (hb hby at_111) rfl (teq hc29).2 k) ?_
                show own_FinW p e below s _ _ _ (T15.setTop (mkF m 114 #[.val (.int p0), .val (.int p1), .val (.long q2), .second, .val (.int p3), .val (.int ((1 : Int32) + ((p0 &&& (2147483647 : Int32)) % (38 : Int32)))), .val (.int ((p1 &&& (2147483647 : Int32)) % (((1 : Int32) + ((p0 &&& (2147483647 : Int32)) % (38 : Int32))) + (1 : Int32)))), .val (.ref b1), .val (.long (own_P0 (18 : Int32))), .second, .val (.int (p3 &&& (7 : Int32))), .unset, .unset, .unset] []))
                refine own_stepW (fun _ k => XS.lconst X15.here hx rfl (hb hby at_114) k) ?_
                show own_FinW p e below s _ _ _ (T15.setTop (mkF m 115 #[.val (.int p0), .val (.int p1), .val (.long q2), .second, .val (.int p3), .val (.int ((1 : Int32) + ((p0 &&& (2147483647 : Int32)) % (38 : Int32)))), .val (.int ((p1 &&& (2147483647 : Int32)) % (((1 : Int32) + ((p0 &&& (2147483647 : Int32)) % (38 : Int32))) + (1 : Int32)))), .val (.ref b1), .val (.long (own_P0 (18 : Int32))), .second, .val (.int (p3 &&& (7 : Int32))), .unset, .unset, .unset] [(.long (1 : Int64))]))
                refine own_stepW (fun _ k => XS.lload X15.here hx rfl (hb hby at_115) rfl k) ?_
                show own_FinW p e below s _ _ _ (T15.setTop (mkF m 117 #[.val (.int p0), .val (.int p1), .val (.long q2), .second, .val (.int p3), .val (.int ((1 : Int32) + ((p0 &&& (2147483647 : Int32)) % (38 : Int32)))), .val (.int ((p1 &&& (2147483647 : Int32)) % (((1 : Int32) + ((p0 &&& (2147483647 : Int32)) % (38 : Int32))) + (1 : Int32)))), .val (.ref b1), .val (.long (own_P0 (18 : Int32))), .second, .val (.int (p3 &&& (7 : Int32))), .unset, .unset, .unset] [(.long (own_P0 (18 : Int32))), (.long (1 : Int64))]))
                refine own_stepW (fun _ k => XS.lsub X15.here hx rfl (hb hby at_117) rfl k) ?_
                show own_FinW p e below s _ _ _ (T15.setTop (mkF m 118 #[.val (.int p0), .val (.int p1), .val (.long q2), .second, .val (.int p3), .val (.int ((1 : Int32) + ((p0 &&& (2147483647 : Int32)) % (38 : Int32)))), .val (.int ((p1 &&& (2147483647 : Int32)) % (((1 : Int32) + ((p0 &&& (2147483647 : Int32)) % (38 : Int32))) + (1 : Int32)))), .val (.ref b1), .val (.long (own_P0 (18 : Int32))), .second, .val (.int (p3 &&& (7 : Int32))), .unset, .unset, .unset] [(.long ((1 : Int64) - (own_P0 (18 : Int32))))]))
                refine own_stepW (fun _ k => XS.lstore X15.here hx rfl (hb hby at_118) rfl (l' := #[.val (.int p0), .val (.int p1), .val (.long q2), .second, .val (.int p3), .val (.int ((1 : Int32) + ((p0 &&& (2147483647 : Int32)) % (38 : Int32)))), .val (.int ((p1 &&& (2147483647 : Int32)) % (((1 : Int32) + ((p0 &&& (2147483647 : Int32)) % (38 : Int32))) + (1 : Int32)))), .val (.ref b1), .val (.long (own_P0 (18 : Int32))), .second, .val (.int (p3 &&& (7 : Int32))), .val (.long ((1 : Int64) - (own_P0 (18 : Int32)))), .second, .unset]) rfl k) ?_
                show own_FinW p e below s _ _ _ (T15.setTop (mkF m 120 #[.val (.int p0), .val (.int p1), .val (.long q2), .second, .val (.int p3), .val (.int ((1 : Int32) + ((p0 &&& (2147483647 : Int32)) % (38 : Int32)))), .val (.int ((p1 &&& (2147483647 : Int32)) % (((1 : Int32) + ((p0 &&& (2147483647 : Int32)) % (38 : Int32))) + (1 : Int32)))), .val (.ref b1), .val (.long (own_P0 (18 : Int32))), .second, .val (.int (p3 &&& (7 : Int32))), .val (.long ((1 : Int64) - (own_P0 (18 : Int32)))), .second, .unset] []))
                refine own_stepW (fun _ k => XS.goto X15.here hx rfl (pc0 := 120) (pc' := 157) rfl (hb hby at_120) (by decide) (by decide) k) ?_
                show own_FinW p e below s _ _ _ (T15.setTop (mkF m 157 #[.val (.int p0), .val (.int p1), .val (.long q2), .second, .val (.int p3), .val (.int ((1 : Int32) + ((p0 &&& (2147483647 : Int32)) % (38 : Int32)))), .val (.int ((p1 &&& (2147483647 : Int32)) % (((1 : Int32) + ((p0 &&& (2147483647 : Int32)) % (38 : Int32))) + (1 : Int32)))), .val (.ref b1), .val (.long (own_P0 (18 : Int32))), .second, .val (.int (p3 &&& (7 : Int32))), .val (.long ((1 : Int64) - (own_P0 (18 : Int32)))), .second, .unset] []))
                exact J21 _ X15 rfl ((1 : Int64) - (own_P0 (18 : Int32))) trivial
              · refine own_stepW (fun _ k => XS.icmpYes X15.here hx rfl (pc0 := 111) (pc' := 123) rfl (hb hby at_111) rfl (feq hc29).2 (by decide) (by decide) k) ?_
                show own_FinW p e below s _ _ _ (T15.setTop (mkF m 123 #[.val (.int p0), .val (.int p1), .val (.long q2), .second, .val (.int p3), .val (.int ((1 : Int32) + ((p0 &&& (2147483647 : Int32)) % (38 : Int32)))), .val (.int ((p1 &&& (2147483647 : Int32)) % (((1 : Int32) + ((p0 &&& (2147483647 : Int32)) % (38 : Int32))) + (1 : Int32)))), .val (.ref b1), .val (.long (own_P0 (18 : Int32))), .second, .val (.int (p3 &&& (7 : Int32))), .unset, .unset, .unset] []))
                refine own_stepW (fun _ k => XS.iload X15.here hx rfl (hb hby at_123) rfl k) ?_
                show own_FinW p e below s _ _ _ (T15.setTop (mkF m 125 #[.val (.int p0), .val (.int p1), .val (.long q2), .second, .val (.int p3), .val (.int ((1 : Int32) + ((p0 &&& (2147483647 : Int32)) % (38 : Int32)))), .val (.int ((p1 &&& (2147483647 : Int32)) % (((1 : Int32) + ((p0 &&& (2147483647 : Int32)) % (38 : Int32))) + (1 : Int32)))), .val (.ref b1), .val (.long (own_P0 (18 : Int32))), .second, .val (.int (p3 &&& (7 : Int32))), .unset, .unset, .unset] [(.int (p3 &&& (7 : Int32)))]))
                refine own_stepW (fun _ k => XS.iconst X15.here hx rfl (hb hby at_125) k) ?_
                show own_FinW p e below s _ _ _ (T15.setTop (mkF m 126 #[.val (.int p0), .val (.int p1), .val (.long q2), .second, .val (.int p3), .val (.int ((1 : Int32) + ((p0 &&& (2147483647 : Int32)) % (38 : Int32)))), .val (.int ((p1 &&& (2147483647 : Int32)) % (((1 : Int32) + ((p0 &&& (2147483647 : Int32)) % (38 : Int32))) + (1 : Int32)))), .val (.ref b1), .val (.long (own_P0 (18 : Int32))), .second, .val (.int (p3 &&& (7 : Int32))), .unset, .unset, .unset] [(.int (5 : Int32)), (.int (p3 &&& (7 : Int32)))]))
                by_cases hc30 : (p3 &&& (7 : Int32)) = (5 : Int32)
                · refine own_stepW (fun _ k => XS.icmpNo X15.here hx rfl (hb hby at_126) rfl (teq hc30).2 k) ?_
                  show own_FinW p e below s _ _ _ (T15.setTop (mkF m 129 #[.val (.int p0), .val (.int p1), .val (.long q2), .second, .val (.int p3), .val (.int ((1 : Int32) + ((p0 &&& (2147483647 : Int32)) % (38 : Int32)))), .val (.int ((p1 &&& (2147483647 : Int32)) % (((1 : Int32) + ((p0 &&& (2147483647 : Int32)) % (38 : Int32))) + (1 : Int32)))), .val (.ref b1), .val (.long (own_P0 (18 : Int32))), .second, .val (.int (p3 &&& (7 : Int32))), .unset, .unset, .unset] []))
                  refine own_stepW (fun _ k => XS.lload X15.here hx rfl (hb hby at_129) rfl k) ?_
                  show own_FinW p e below s _ _ _ (T15.setTop (mkF m 131 #[.val (.int p0), .val (.int p1), .val (.long q2), .second, .val (.int p3), .val (.int ((1 : Int32) + ((p0 &&& (2147483647 : Int32)) % (38 : Int32)))), .val (.int ((p1 &&& (2147483647 : Int32)) % (((1 : Int32) + ((p0 &&& (2147483647 : Int32)) % (38 : Int32))) + (1 : Int32)))), .val (.ref b1), .val (.long (own_P0 (18 : Int32))), .second, .val (.int (p3 &&& (7 : Int32))), .unset, .unset, .unset] [(.long (own_P0 (18 : Int32)))]))
                  refine own_stepW (fun _ k => XS.lneg X15.here hx rfl (hb hby at_131) rfl k) ?_
                  show own_FinW p e below s _ _ _ (T15.setTop (mkF m 132 #[.val (.int p0), .val (.int p1), .val (.long q2), .second, .val (.int p3), .val (.int ((1 : Int32) + ((p0 &&& (2147483647 : Int32)) % (38 : Int32)))), .val (.int ((p1 &&& (2147483647 : Int32)) % (((1 : Int32) + ((p0 &&& (2147483647 : Int32)) % (38 : Int32))) + (1 : Int32)))), .val (.ref b1), .val (.long (own_P0 (18 : Int32))), .second, .val (.int (p3 &&& (7 : Int32))), .unset, .unset, .unset] [(.long (-(own_P0 (18 : Int32))))]))
                  refine own_stepW (fun _ k => XS.lstore X15.here hx rfl (hb hby at_132) rfl (l' := #[.val (.int p0), .val (.int p1), .val (.long q2), .second, .val (.int p3), .val (.int ((1 : Int32) + ((p0 &&& (2147483647 : Int32)) % (38 : Int32)))), .val (.int ((p1 &&& (2147483647 : Int32)) % (((1 : Int32) + ((p0 &&& (2147483647 : Int32)) % (38 : Int32))) + (1 : Int32)))), .val (.ref b1), .val (.long (own_P0 (18 : Int32))), .second, .val (.int (p3 &&& (7 : Int32))), .val (.long (-(own_P0 (18 : Int32)))), .second, .unset]) rfl k) ?_
                  show own_FinW p e below s _ _ _ (T15.setTop (mkF m 134 #[.val (.int p0), .val (.int p1), .val (.long q2), .second, .val (.int p3), .val (.int ((1 : Int32) + ((p0 &&& (2147483647 : Int32)) % (38 : Int32)))), .val (.int ((p1 &&& (2147483647 : Int32)) % (((1 : Int32) + ((p0 &&& (2147483647 : Int32)) % (38 : Int32))) + (1 : Int32)))), .val (.ref b1), .val (.long (own_P0 (18 : Int32))), .second, .val (.int (p3 &&& (7 : Int32))), .val (.long (-(own_P0 (18 : Int32)))), .second, .unset] []))
                  refine own_stepW (fun _ k => XS.goto X15.here hx rfl (pc0 := 134) (pc' := 157) rfl (hb hby at_134) (by decide) (by decide) k) ?_
                  show own_FinW p e below s _ _ _ (T15.setTop (mkF m 157 #[.val (.int p0), .val (.int p1), .val (.long q2), .second, .val (.int p3), .val (.int ((1 : Int32) + ((p0 &&& (2147483647 : Int32)) % (38 : Int32)))), .val (.int ((p1 &&& (2147483647 : Int32)) % (((1 : Int32) + ((p0 &&& (2147483647 : Int32)) % (38 : Int32))) + (1 : Int32)))), .val (.ref b1), .val (.long (own_P0 (18 : Int32))), .second, .val (.int (p3 &&& (7 : Int32))), .val (.long (-(own_P0 (18 : Int32)))), .second, .unset] []))
                  exact J21 _ X15 rfl (-(own_P0 (18 : Int32))) trivial
                · refine own_stepW (fun _ k => XS.icmpYes X15.here hx rfl (pc0 := 126) (pc' := 137) rfl (hb hby at_126) rfl (feq hc30).2 (by decide) (by decide) k) ?_
                  show own_FinW p e below s _ _ _ (T15.setTop (mkF m 137 #[.val (.int p0), .val (.int p1), .val (.long q2), .second, .val (.int p3), .val (.int ((1 : Int32) + ((p0 &&& (2147483647 : Int32)) % (38 : Int32)))), .val (.int ((p1 &&& (2147483647 : Int32)) % (((1 : Int32) + ((p0 &&& (2147483647 : Int32)) % (38 : Int32))) + (1 : Int32)))), .val (.ref b1), .val (.long (own_P0 (18 : Int32))), .second, .val (.int (p3 &&& (7 : Int32))), .unset, .unset, .unset] []))
                  refine own_stepW (fun _ k => XS.iload X15.here hx rfl (hb hby at_137) rfl k) ?_
                  show own_FinW p e below s _ _ _ (T15.setTop (mkF m 139 #[.val (.int p0), .val (.int p1), .val (.long q2), .second, .val (.int p3), .val (.int ((1 : Int32) + ((p0 &&& (2147483647 : Int32)) % (38 : Int32)))), .val (.int ((p1 &&& (2147483647 : Int32)) % (((1 : Int32) + ((p0 &&& (2147483647 : Int32)) % (38 : Int32))) + (1 : Int32)))), .val (.ref b1), .val (.long (own_P0 (18 : Int32))), .second, .val (.int (p3 &&& (7 : Int32))), .unset, .unset, .unset] [(.int (p3 &&& (7 : Int32)))]))
                  refine own_stepW (fun _ k => XS.bipush X15.here hx rfl (hb hby at_139) k) ?_
                  show own_FinW p e below s _ _ _ (T15.setTop (mkF m 141 #[.val (.int p0), .val (.int p1), .val (.long q2), .second, .val (.int p3), .val (.int ((1 : Int32) + ((p0 &&& (2147483647 : Int32)) % (38 : Int32)))), .val (.int ((p1 &&& (2147483647 : Int32)) % (((1 : Int32) + ((p0 &&& (2147483647 : Int32)) % (38 : Int32))) + (1 : Int32)))), .val (.ref b1), .val (.long (own_P0 (18 : Int32))), .second, .val (.int (p3 &&& (7 : Int32))), .unset, .unset, .unset] [(.int (6 : Int32)), (.int (p3 &&& (7 : Int32)))]))
                  by_cases hc31 : (p3 &&& (7 : Int32)) = (6 : Int32)
                  · refine own_stepW (fun _ k => XS.icmpNo X15.here hx rfl (hb hby at_141) rfl (teq hc31).2 k) ?_
                    show own_FinW p e below s _ _ _ (T15.setTop (mkF m 144 #[.val (.int p0), .val (.int p1), .val (.long q2), .second, .val (.int p3), .val (.int ((1 : Int32) + ((p0 &&& (2147483647 : Int32)) % (38 : Int32)))), .val (.int ((p1 &&& (2147483647 : Int32)) % (((1 : Int32) + ((p0 &&& (2147483647 : Int32)) % (38 : Int32))) + (1 : Int32)))), .val (.ref b1), .val (.long (own_P0 (18 : Int32))), .second, .val (.int (p3 &&& (7 : Int32))), .unset, .unset, .unset] []))
                    refine own_stepW (fun _ k => X15.ldc2Long hx hown6 (mvT hZ6 (own_w hw 67 rfl)) (g := (mkF m 144 #[.val (.int p0), .val (.int p1), .val (.long q2), .second, .val (.int p3), .val (.int ((1 : Int32) + ((p0 &&& (2147483647 : Int32)) % (38 : Int32)))), .val (.int ((p1 &&& (2147483647 : Int32)) % (((1 : Int32) + ((p0 &&& (2147483647 : Int32)) % (38 : Int32))) + (1 : Int32)))), .val (.ref b1), .val (.long (own_P0 (18 : Int32))), .second, .val (.int (p3 &&& (7 : Int32))), .unset, .unset, .unset] [])) rfl (hb hby at_144) _ k) ?_
                    show own_FinW p e below s _ _ _ (T15.setTop (mkF m 147 #[.val (.int p0), .val (.int p1), .val (.long q2), .second, .val (.int p3), .val (.int ((1 : Int32) + ((p0 &&& (2147483647 : Int32)) % (38 : Int32)))), .val (.int ((p1 &&& (2147483647 : Int32)) % (((1 : Int32) + ((p0 &&& (2147483647 : Int32)) % (38 : Int32))) + (1 : Int32)))), .val (.ref b1), .val (.long (own_P0 (18 : Int32))), .second, .val (.int (p3 &&& (7 : Int32))), .unset, .unset, .unset] [(.long (-9223372036854775808 : Int64))]))
                    refine own_stepW (fun _ k => XS.lstore X15.here hx rfl (hb hby at_147) rfl (l' := #[.val (.int p0), .val (.int p1), .val (.long q2), .second, .val (.int p3), .val (.int ((1 : Int32) + ((p0 &&& (2147483647 : Int32)) % (38 : Int32)))), .val (.int ((p1 &&& (2147483647 : Int32)) % (((1 : Int32) + ((p0 &&& (2147483647 : Int32)) % (38 : Int32))) + (1 : Int32)))), .val (.ref b1), .val (.long (own_P0 (18 : Int32))), .second, .val (.int (p3 &&& (7 : Int32))), .val (.long (-9223372036854775808 : Int64)), .second, .unset]) rfl k) ?_
                    show own_FinW p e below s _ _ _ (T15.setTop (mkF m 149 #[.val (.int p0), .val (.int p1), .val (.long q2), .second, .val (.int p3), .val (.int ((1 : Int32) + ((p0 &&& (2147483647 : Int32)) % (38 : Int32)))), .val (.int ((p1 &&& (2147483647 : Int32)) % (((1 : Int32) + ((p0 &&& (2147483647 : Int32)) % (38 : Int32))) + (1 : Int32)))), .val (.ref b1), .val (.long (own_P0 (18 : Int32))), .second, .val (.int (p3 &&& (7 : Int32))), .val (.long (-9223372036854775808 : Int64)), .second, .unset] []))
                    refine own_stepW (fun _ k => XS.goto X15.here hx rfl (pc0 := 149) (pc' := 157) rfl (hb hby at_149) (by decide) (by decide) k) ?_
                    show own_FinW p e below s _ _ _ (T15.setTop (mkF m 157 #[.val (.int p0), .val (.int p1), .val (.long q2), .second, .val (.int p3), .val (.int ((1 : Int32) + ((p0 &&& (2147483647 : Int32)) % (38 : Int32)))), .val (.int ((p1 &&& (2147483647 : Int32)) % (((1 : Int32) + ((p0 &&& (2147483647 : Int32)) % (38 : Int32))) + (1 : Int32)))), .val (.ref b1), .val (.long (own_P0 (18 : Int32))), .second, .val (.int (p3 &&& (7 : Int32))), .val (.long (-9223372036854775808 : Int64)), .second, .unset] []))
                    exact J21 _ X15 rfl (-9223372036854775808 : Int64) trivial
                  · refine own_stepW (fun _ k => XS.icmpYes X15.here hx rfl (pc0 := 141) (pc' := 152) rfl (hb hby at_141) rfl (feq hc31).2 (by decide) (by decide) k) ?_
                    show own_FinW p e below s _ _ _ (T15.setTop (mkF m 152 #[.val (.int p0), .val (.int p1), .val (.long q2), .second, .val (.int p3), .val (.int ((1 : Int32) + ((p0 &&& (2147483647 : Int32)) % (38 : Int32)))), .val (.int ((p1 &&& (2147483647 : Int32)) % (((1 : Int32) + ((p0 &&& (2147483647 : Int32)) % (38 : Int32))) + (1 : Int32)))), .val (.ref b1), .val (.long (own_P0 (18 : Int32))), .second, .val (.int (p3 &&& (7 : Int32))), .unset, .unset, .unset] []))
                    refine own_stepW (fun _ k => X15.ldc2Long hx hown6 (mvT hZ6 (own_w hw 66 rfl)) (g := (mkF m 152 #[.val (.int p0), .val (.int p1), .val (.long q2), .second, .val (.int p3), .val (.int ((1 : Int32) + ((p0 &&& (2147483647 : Int32)) % (38 : Int32)))), .val (.int ((p1 &&& (2147483647 : Int32)) % (((1 : Int32) + ((p0 &&& (2147483647 : Int32)) % (38 : Int32))) + (1 : Int32)))), .val (.ref b1), .val (.long (own_P0 (18 : Int32))), .second, .val (.int (p3 &&& (7 : Int32))), .unset, .unset, .unset] [])) rfl (hb hby at_152) _ k) ?_
                    show own_FinW p e below s _ _ _ (T15.setTop (mkF m 155 #[.val (.int p0), .val (.int p1), .val (.long q2), .second, .val (.int p3), .val (.int ((1 : Int32) + ((p0 &&& (2147483647 : Int32)) % (38 : Int32)))), .val (.int ((p1 &&& (2147483647 : Int32)) % (((1 : Int32) + ((p0 &&& (2147483647 : Int32)) % (38 : Int32))) + (1 : Int32)))), .val (.ref b1), .val (.long (own_P0 (18 : Int32))), .second, .val (.int (p3 &&& (7 : Int32))), .unset, .unset, .unset] [(.long (9223372036854775807 : Int64))]))
                    refine own_stepW (fun _ k => XS.lstore X15.here hx rfl (hb hby at_155) rfl (l' := #[.val (.int p0), .val (.int p1), .val (.long q2), .second, .val (.int p3), .val (.int ((1 : Int32) + ((p0 &&& (2147483647 : Int32)) % (38 : Int32)))), .val (.int ((p1 &&& (2147483647 : Int32)) % (((1 : Int32) + ((p0 &&& (2147483647 : Int32)) % (38 : Int32))) + (1 : Int32)))), .val (.ref b1), .val (.long (own_P0 (18 : Int32))), .second, .val (.int (p3 &&& (7 : Int32))), .val (.long (9223372036854775807 : Int64)), .second, .unset]) rfl k) ?_
                    show own_FinW p e below s _ _ _ (T15.setTop (mkF m 157 #[.val (.int p0), .val (.int p1), .val (.long q2), .second, .val (.int p3), .val (.int ((1 : Int32) + ((p0 &&& (2147483647 : Int32)) % (38 : Int32)))), .val (.int ((p1 &&& (2147483647 : Int32)) % (((1 : Int32) + ((p0 &&& (2147483647 : Int32)) % (38 : Int32))) + (1 : Int32)))), .val (.ref b1), .val (.long (own_P0 (18 : Int32))), .second, .val (.int (p3 &&& (7 : Int32))), .val (.long (9223372036854775807 : Int64)), .second, .unset] []))
                    exact J21 _ X15 rfl (9223372036854775807 : Int64) trivial
  · show own_FinW p e below s _ _ _ (T6.setTop (mkF m 35 #[.val (.int p0), .val (.int p1), .val (.long q2), .second, .val (.int p3), .val (.int ((1 : Int32) + ((p0 &&& (2147483647 : Int32)) % (38 : Int32)))), .val (.int ((p1 &&& (2147483647 : Int32)) % (((1 : Int32) + ((p0 &&& (2147483647 : Int32)) % (38 : Int32))) + (1 : Int32)))), .val (.ref b1), .unset, .unset, .unset, .unset, .unset, .unset] []))
    refine own_stepW (fun _ k => XS.iload X6.here hx rfl (hb hby at_35) rfl k) ?_
    show own_FinW p e below s _ _ _ (T6.setTop (mkF m 37 #[.val (.int p0), .val (.int p1), .val (.long q2), .second, .val (.int p3), .val (.int ((1 : Int32) + ((p0 &&& (2147483647 : Int32)) % (38 : Int32)))), .val (.int ((p1 &&& (2147483647 : Int32)) % (((1 : Int32) + ((p0 &&& (2147483647 : Int32)) % (38 : Int32))) + (1 : Int32)))), .val (.ref b1), .unset, .unset, .unset, .unset, .unset, .unset] [(.int ((1 : Int32) + ((p0 &&& (2147483647 : Int32)) % (38 : Int32))))]))
    refine own_stepW (fun _ k => XS.bipush X6.here hx rfl (hb hby at_37) k) ?_
    show own_FinW p e below s _ _ _ (T6.setTop (mkF m 39 #[.val (.int p0), .val (.int p1), .val (.long q2), .second, .val (.int p3), .val (.int ((1 : Int32) + ((p0 &&& (2147483647 : Int32)) % (38 : Int32)))), .val (.int ((p1 &&& (2147483647 : Int32)) % (((1 : Int32) + ((p0 &&& (2147483647 : Int32)) % (38 : Int32))) + (1 : Int32)))), .val (.ref b1), .unset, .unset, .unset, .unset, .unset, .unset] [(.int (18 : Int32)), (.int ((1 : Int32) + ((p0 &&& (2147483647 : Int32)) % (38 : Int32))))]))
    obtain ⟨_, _, ⟨T32, L32, k32, n32⟩, -, X32, ⟨Lc32, hQ32, l32, y32, z32⟩, st32⟩ := Jvm.LawKit.callS X6 hx (y := own_y3) hown6 (mvT hZ6 (own_w hw 32 rfl)) (mvT hZ6 (own_w hw 33 rfl)) (mvT hZ6 (own_w hw 34 rfl)) (mvT hZ6 (own_w hw 35 rfl)) (by decide) (backOf (W := 0) (own_rm5 l Z a0 hw [] (((1 : Int32) + ((p0 &&& (2147483647 : Int32)) % (38 : Int32)))) ((18 : Int32)) T6.heap n0 Z6 (show ¬ ((18 : Int32) < ((1 : Int32) + ((p0 &&& (2147483647 : Int32)) % (38 : Int32)))) from hc13)) hZ6 (own_w hw 35 rfl) (own_w hw 34 rfl) (by decide) (by decide)) (g := (mkF m 39 #[.val (.int p0), .val (.int p1), .val (.long q2), .second, .val (.int p3), .val (.int ((1 : Int32) + ((p0 &&& (2147483647 : Int32)) % (38 : Int32)))), .val (.int ((p1 &&& (2147483647 : Int32)) % (((1 : Int32) + ((p0 &&& (2147483647 : Int32)) % (38 : Int32))) + (1 : Int32)))), .val (.ref b1), .unset, .unset, .unset, .unset, .unset, .unset] [(.int (18 : Int32)), (.int ((1 : Int32) + ((p0 &&& (2147483647 : Int32)) % (38 : Int32))))])) rfl (by rw [hml]; rfl) (argsL := [(.int ((1 : Int32) + ((p0 &&& (2147483647 : Int32)) % (38 : Int32)))), (.int (18 : Int32))]) (rest := []) (lenOf own_pd3 rfl) rfl (by show 2 * 0 + _ ≤ _; exact Nat.le_of_eq rfl) (hb hby at_39) (fun _ _ => ⟨rfl, rfl, (by decide : 3 + 0 ≤ _), (by decide : 50 + 0 ≤ _)⟩)
    dsimp only [Pt.U, Pt.locs, Pt.cells, Pt.slots] at X32 l32 y32 z32 st32 hQ32
    subst l32 y32 z32
    obtain ⟨rfl, N32q, e32⟩ := hQ32
    have N32 := Fr.app N6 N32q
    refine own_stepW (fun _ k => st32 _ k) ?_
    show own_FinW p e below s _ _ _ (T32.setTop (mkF m 42 #[.val (.int p0), .val (.int p1), .val (.long q2), .second, .val (.int p3), .val (.int ((1 : Int32) + ((p0 &&& (2147483647 : Int32)) % (38 : Int32)))), .val (.int ((p1 &&& (2147483647 : Int32)) % (((1 : Int32) + ((p0 &&& (2147483647 : Int32)) % (38 : Int32))) + (1 : Int32)))), .val (.ref b1), .unset, .unset, .unset, .unset, .unset, .unset] [(.int ((1 : Int32) + ((p0 &&& (2147483647 : Int32)) % (38 : Int32))))]))
    obtain ⟨_, _, ⟨T33, L33, k33, n33⟩, -, X33, ⟨Lc33, hQ33, l33, y33, z33⟩, st33⟩ := Jvm.LawKit.callS X32 hx (y := own_y4) hown6 (mvT hZ6 (own_w hw 36 rfl)) (mvT hZ6 (own_w hw 37 rfl)) (mvT hZ6 (own_w hw 38 rfl)) (mvT hZ6 (own_w hw 39 rfl)) (by decide) (backOf (W := 0) (own_rm6 l Z a0 hw [] (((1 : Int32) + ((p0 &&& (2147483647 : Int32)) % (38 : Int32)))) T6.heap n0 Z6 (show ¬ (((1 : Int32) + ((p0 &&& (2147483647 : Int32)) % (38 : Int32))) < (0 : Int32)) ∧ ((1 : Int32) + ((p0 &&& (2147483647 : Int32)) % (38 : Int32))) < (19 : Int32) from own_in p0 hc13)) hZ6 (own_w hw 39 rfl) (own_w hw 38 rfl) (by decide) (by decide)) (g := (mkF m 42 #[.val (.int p0), .val (.int p1), .val (.long q2), .second, .val (.int p3), .val (.int ((1 : Int32) + ((p0 &&& (2147483647 : Int32)) % (38 : Int32)))), .val (.int ((p1 &&& (2147483647 : Int32)) % (((1 : Int32) + ((p0 &&& (2147483647 : Int32)) % (38 : Int32))) + (1 : Int32)))), .val (.ref b1), .unset, .unset, .unset, .unset, .unset, .unset] [(.int ((1 : Int32) + ((p0 &&& (2147483647 : Int32)) % (38 : Int32))))])) rfl (by rw [hml]; rfl) (argsL := [(.int ((1 : Int32) + ((p0 &&& (2147483647 : Int32)) % (38 : Int32))))]) (rest := []) (lenOf own_pd4 rfl) rfl (by show 2 * 0 + _ ≤ _; exact Nat.le_of_eq rfl) (hb hby at_42) (fun _ _ => ⟨rfl, e32, (by decide : 3 + 1 ≤ _), (by decide : 50 + 19 ≤ _)⟩)
    dsimp only [Pt.U, Pt.locs, Pt.cells, Pt.slots] at X33 l33 y33 z33 st33 hQ33
    subst l33 y33 z33
    obtain ⟨N33q, K33q, rfl⟩ := hQ33
    have N33 := Fr.app N32 N33q
    have K33 : Keep h0 T33.heap [] := K6.trans K33q all0
    have Z33 : n0 ≤ T33.heap.size := Nat.le_trans Z6 K33q.1
    have hk33 := Nat.le_trans hk6 K33q.1
    have G34 := (own_sta_keep0 G10 K33q)
    have G35 := (G11.keep K33q nin0)
    have G36 := (G7.keep K33q)
    have G37 := (G8.keep K33q nin0)
    have G38 := (G9.keep K33q nin0)
    refine own_stepW (fun _ k => st33 _ k) ?_
    show own_FinW p e below s _ _ _ (T33.setTop (mkF m 45 #[.val (.int p0), .val (.int p1), .val (.long q2), .second, .val (.int p3), .val (.int ((1 : Int32) + ((p0 &&& (2147483647 : Int32)) % (38 : Int32)))), .val (.int ((p1 &&& (2147483647 : Int32)) % (((1 : Int32) + ((p0 &&& (2147483647 : Int32)) % (38 : Int32))) + (1 : Int32)))), .val (.ref b1), .unset, .unset, .unset, .unset, .unset, .unset] [(.long (own_P0 ((1 : Int32) + ((p0 &&& (2147483647 : Int32)) % (38 : Int32)))))]))
    refine own_stepW (fun _ k => XS.lstore X33.here hx rfl (hb hby at_45) rfl (l' := #[.val (.int p0), .val (.int p1), .val (.long q2), .second, .val (.int p3), .val (.int ((1 : Int32) + ((p0 &&& (2147483647 : Int32)) % (38 : Int32)))), .val (.int ((p1 &&& (2147483647 : Int32)) % (((1 : Int32) + ((p0 &&& (2147483647 : Int32)) % (38 : Int32))) + (1 : Int32)))), .val (.ref b1), .val (.long (own_P0 ((1 : Int32) + ((p0 &&& (2147483647 : Int32)) % (38 : Int32))))), .second, .unset, .unset, .unset, .unset]) rfl k) ?_
    show own_FinW p e below s _ _ _ (T33.setTop (mkF m 47 #[.val (.int p0), .val (.int p1), .val (.long q2), .second, .val (.int p3), .val (.int ((1 : Int32) + ((p0 &&& (2147483647 : Int32)) % (38 : Int32)))), .val (.int ((p1 &&& (2147483647 : Int32)) % (((1 : Int32) + ((p0 &&& (2147483647 : Int32)) % (38 : Int32))) + (1 : Int32)))), .val (.ref b1), .val (.long (own_P0 ((1 : Int32) + ((p0 &&& (2147483647 : Int32)) % (38 : Int32))))), .second, .unset, .unset, .unset, .unset] []))
    refine own_stepW (fun _ k => XS.iload X33.here hx rfl (hb hby at_47) rfl k) ?_
    show own_FinW p e below s _ _ _ (T33.setTop (mkF m 49 #[.val (.int p0), .val (.int p1), .val (.long q2), .second, .val (.int p3), .val (.int ((1 : Int32) + ((p0 &&& (2147483647 : Int32)) % (38 : Int32)))), .val (.int ((p1 &&& (2147483647 : Int32)) % (((1 : Int32) + ((p0 &&& (2147483647 : Int32)) % (38 : Int32))) + (1 : Int32)))), .val (.ref b1), .val (.long (own_P0 ((1 : Int32) + ((p0 &&& (2147483647 : Int32)) % (38 : Int32))))), .second, .unset, .unset, .unset, .unset] [(.int p3)]))
    refine own_stepW (fun _ k => XS.bipush X33.here hx rfl (hb hby at_49) k) ?_
    show own_FinW p e below s _ _ _ (T33.setTop (mkF m 51 #[.val (.int p0), .val (.int p1), .val (.long q2), .second, .val (.int p3), .val (.int ((1 : Int32) + ((p0 &&& (2147483647 : Int32)) % (38 : Int32)))), .val (.int ((p1 &&& (2147483647 : Int32)) % (((1 : Int32) + ((p0 &&& (2147483647 : Int32)) % (38 : Int32))) + (1 : Int32)))), .val (.ref b1), .val (.long (own_P0 ((1 : Int32) + ((p0 &&& (2147483647 : Int32)) % (38 : Int32))))), .second, .unset, .unset, .unset, .unset] [(.int (7 : Int32)), (.int p3)]))
    refine own_stepW (fun _ k => XS.iand X33.here hx rfl (hb hby at_51) rfl k) ?_
    show own_FinW p e below s _ _ _ (T33.setTop (mkF m 52 #[.val (.int p0), .val (.int p1), .val (.long q2), .second, .val (.int p3), .val (.int ((1 : Int32) + ((p0 &&& (2147483647 : Int32)) % (38 : Int32)))), .val (.int ((p1 &&& (2147483647 : Int32)) % (((1 : Int32) + ((p0 &&& (2147483647 : Int32)) % (38 : Int32))) + (1 : Int32)))), .val (.ref b1), .val (.long (own_P0 ((1 : Int32) + ((p0 &&& (2147483647 : Int32)) % (38 : Int32))))), .second, .unset, .unset, .unset, .unset] [(.int (p3 &&& (7 : Int32)))]))
    refine own_stepW (fun _ k => XS.istore X33.here hx rfl (hb hby at_52) rfl (l' := #[.val (.int p0), .val (.int p1), .val (.long q2), .second, .val (.int p3), .val (.int ((1 : Int32) + ((p0 &&& (2147483647 : Int32)) % (38 : Int32)))), .val (.int ((p1 &&& (2147483647 : Int32)) % (((1 : Int32) + ((p0 &&& (2147483647 : Int32)) % (38 : Int32))) + (1 : Int32)))), .val (.ref b1), .val (.long (own_P0 ((1 : Int32) + ((p0 &&& (2147483647 : Int32)) % (38 : Int32))))), .second, .val (.int (p3 &&& (7 : Int32))), .unset, .unset, .unset]) rfl k) ?_
    show own_FinW p e below s _ _ _ (T33.setTop (mkF m 54 #[.val (.int p0), .val (.int p1), .val (.long q2), .second, .val (.int p3), .val (.int ((1 : Int32) + ((p0 &&& (2147483647 : Int32)) % (38 : Int32)))), .val (.int ((p1 &&& (2147483647 : Int32)) % (((1 : Int32) + ((p0 &&& (2147483647 : Int32)) % (38 : Int32))) + (1 : Int32)))), .val (.ref b1), .val (.long (own_P0 ((1 : Int32) + ((p0 &&& (2147483647 : Int32)) % (38 : Int32))))), .second, .val (.int (p3 &&& (7 : Int32))), .unset, .unset, .unset] []))
    refine own_join (F := own_FinW p e below s room_1.cells room_1.slots (own_Q8 Z p0 p1 q2 p3 s_LONG_POWERS_OF_TEN k_s_LONG_POWERS_OF_TEN h0 n0)) X33 rfl (β := Int64) (fun w39 => (mkF m 157 #[.val (.int p0), .val (.int p1), .val (.long q2), .second, .val (.int p3), .val (.int ((1 : Int32) + ((p0 &&& (2147483647 : Int32)) % (38 : Int32)))), .val (.int ((p1 &&& (2147483647 : Int32)) % (((1 : Int32) + ((p0 &&& (2147483647 : Int32)) % (38 : Int32))) + (1 : Int32)))), .val (.ref b1), .val (.long (own_P0 ((1 : Int32) + ((p0 &&& (2147483647 : Int32)) % (38 : Int32))))), .second, .val (.int (p3 &&& (7 : Int32))), .val (.long w39), .second, .unset] [])) (fun w39 => True) ?_ ?_
    · intro Tj39 Xj39 ej39 w39 hj39
      show own_FinW p e below s _ _ _ (Tj39.setTop (mkF m 157 #[.val (.int p0), .val (.int p1), .val (.long q2), .second, .val (.int p3), .val (.int ((1 : Int32) + ((p0 &&& (2147483647 : Int32)) % (38 : Int32)))), .val (.int ((p1 &&& (2147483647 : Int32)) % (((1 : Int32) + ((p0 &&& (2147483647 : Int32)) % (38 : Int32))) + (1 : Int32)))), .val (.ref b1), .val (.long (own_P0 ((1 : Int32) + ((p0 &&& (2147483647 : Int32)) % (38 : Int32))))), .second, .val (.int (p3 &&& (7 : Int32))), .val (.long w39), .second, .unset] []))
      refine own_stepW (fun _ k => XS.iload Xj39.here hx rfl (hb hby at_157) rfl k) ?_
      show own_FinW p e below s _ _ _ (Tj39.setTop (mkF m 159 #[.val (.int p0), .val (.int p1), .val (.long q2), .second, .val (.int p3), .val (.int ((1 : Int32) + ((p0 &&& (2147483647 : Int32)) % (38 : Int32)))), .val (.int ((p1 &&& (2147483647 : Int32)) % (((1 : Int32) + ((p0 &&& (2147483647 : Int32)) % (38 : Int32))) + (1 : Int32)))), .val (.ref b1), .val (.long (own_P0 ((1 : Int32) + ((p0 &&& (2147483647 : Int32)) % (38 : Int32))))), .second, .val (.int (p3 &&& (7 : Int32))), .val (.long w39), .second, .unset] [(.int ((1 : Int32) + ((p0 &&& (2147483647 : Int32)) % (38 : Int32))))]))
      refine own_stepW (fun _ k => XS.bipush Xj39.here hx rfl (hb hby at_159) k) ?_
      show own_FinW p e below s _ _ _ (Tj39.setTop (mkF m 161 #[.val (.int p0), .val (.int p1), .val (.long q2), .second, .val (.int p3), .val (.int ((1 : Int32) + ((p0 &&& (2147483647 : Int32)) % (38 : Int32)))), .val (.int ((p1 &&& (2147483647 : Int32)) % (((1 : Int32) + ((p0 &&& (2147483647 : Int32)) % (38 : Int32))) + (1 : Int32)))), .val (.ref b1), .val (.long (own_P0 ((1 : Int32) + ((p0 &&& (2147483647 : Int32)) % (38 : Int32))))), .second, .val (.int (p3 &&& (7 : Int32))), .val (.long w39), .second, .unset] [(.int (19 : Int32)), (.int ((1 : Int32) + ((p0 &&& (2147483647 : Int32)) % (38 : Int32))))]))
      have hf40 : ((1 : Int32) + ((p0 &&& (2147483647 : Int32)) % (38 : Int32))) < (19 : Int32) := (own_in p0 hc13).2
      refine own_stepW (fun _ k => XS.icmpYes Xj39.here hx rfl (pc0 := 161) (pc' := 170) rfl (hb hby at_161) rfl (tlt hf40).1 (by decide) (by decide) k) ?_
      show own_FinW p e below s _ _ _ (Tj39.setTop (mkF m 170 #[.val (.int p0), .val (.int p1), .val (.long q2), .second, .val (.int p3), .val (.int ((1 : Int32) + ((p0 &&& (2147483647 : Int32)) % (38 : Int32)))), .val (.int ((p1 &&& (2147483647 : Int32)) % (((1 : Int32) + ((p0 &&& (2147483647 : Int32)) % (38 : Int32))) + (1 : Int32)))), .val (.ref b1), .val (.long (own_P0 ((1 : Int32) + ((p0 &&& (2147483647 : Int32)) % (38 : Int32))))), .second, .val (.int (p3 &&& (7 : Int32))), .val (.long w39), .second, .unset] []))
      refine own_stepW (fun _ k => XS.lload Xj39.here hx rfl (hb hby at_170) rfl k) ?_
      show own_FinW p e below s _ _ _ (Tj39.setTop (mkF m 172 #[.val (.int p0), .val (.int p1), .val (.long q2), .second, .val (.int p3), .val (.int ((1 : Int32) + ((p0 &&& (2147483647 : Int32)) % (38 : Int32)))), .val (.int ((p1 &&& (2147483647 : Int32)) % (((1 : Int32) + ((p0 &&& (2147483647 : Int32)) % (38 : Int32))) + (1 : Int32)))), .val (.ref b1), .val (.long (own_P0 ((1 : Int32) + ((p0 &&& (2147483647 : Int32)) % (38 : Int32))))), .second, .val (.int (p3 &&& (7 : Int32))), .val (.long w39), .second, .unset] [(.long w39)]))
      refine own_stepW (fun _ k => XS.lconst Xj39.here hx rfl (hb hby at_172) k) ?_
      show own_FinW p e below s _ _ _ (Tj39.setTop (mkF m 173 #[.val (.int p0), .val (.int p1), .val (.long q2), .second, .val (.int p3), .val (.int ((1 : Int32) + ((p0 &&& (2147483647 : Int32)) % (38 : Int32)))), .val (.int ((p1 &&& (2147483647 : Int32)) % (((1 : Int32) + ((p0 &&& (2147483647 : Int32)) % (38 : Int32))) + (1 : Int32)))), .val (.ref b1), .val (.long (own_P0 ((1 : Int32) + ((p0 &&& (2147483647 : Int32)) % (38 : Int32))))), .second, .val (.int (p3 &&& (7 : Int32))), .val (.long w39), .second, .unset] [(.long (0 : Int64)), (.long w39)]))
      refine own_stepW (fun _ k => XS.lcmp Xj39.here hx rfl (hb hby at_173) rfl k) ?_
      show own_FinW p e below s _ _ _ (Tj39.setTop (mkF m 174 #[.val (.int p0), .val (.int p1), .val (.long q2), .second, .val (.int p3), .val (.int ((1 : Int32) + ((p0 &&& (2147483647 : Int32)) % (38 : Int32)))), .val (.int ((p1 &&& (2147483647 : Int32)) % (((1 : Int32) + ((p0 &&& (2147483647 : Int32)) % (38 : Int32))) + (1 : Int32)))), .val (.ref b1), .val (.long (own_P0 ((1 : Int32) + ((p0 &&& (2147483647 : Int32)) % (38 : Int32))))), .second, .val (.int (p3 &&& (7 : Int32))), .val (.long w39), .second, .unset] [(.int (lcmpW w39 (0 : Int64)))]))
      by_cases hc41 : (lcmpW w39 (0 : Int64)) < (0 : Int32)
      · refine own_stepW (fun _ k => XS.ifYes Xj39.here hx rfl (pc0 := 174) (pc' := 195) rfl (hb hby at_174) rfl ((if0 _ _).trans (tlt hc41).1) (by decide) (by decide) k) ?_
        show own_FinW p e below s _ _ _ (Tj39.setTop (mkF m 195 #[.val (.int p0), .val (.int p1), .val (.long q2), .second, .val (.int p3), .val (.int ((1 : Int32) + ((p0 &&& (2147483647 : Int32)) % (38 : Int32)))), .val (.int ((p1 &&& (2147483647 : Int32)) % (((1 : Int32) + ((p0 &&& (2147483647 : Int32)) % (38 : Int32))) + (1 : Int32)))), .val (.ref b1), .val (.long (own_P0 ((1 : Int32) + ((p0 &&& (2147483647 : Int32)) % (38 : Int32))))), .second, .val (.int (p3 &&& (7 : Int32))), .val (.long w39), .second, .unset] []))
        refine own_stepW (fun _ k => XS.lload Xj39.here hx rfl (hb hby at_195) rfl k) ?_
        show own_FinW p e below s _ _ _ (Tj39.setTop (mkF m 197 #[.val (.int p0), .val (.int p1), .val (.long q2), .second, .val (.int p3), .val (.int ((1 : Int32) + ((p0 &&& (2147483647 : Int32)) % (38 : Int32)))), .val (.int ((p1 &&& (2147483647 : Int32)) % (((1 : Int32) + ((p0 &&& (2147483647 : Int32)) % (38 : Int32))) + (1 : Int32)))), .val (.ref b1), .val (.long (own_P0 ((1 : Int32) + ((p0 &&& (2147483647 : Int32)) % (38 : Int32))))), .second, .val (.int (p3 &&& (7 : Int32))), .val (.long w39), .second, .unset] [(.long w39)]))
        refine own_stepW (fun _ k => XS.lload Xj39.here hx rfl (hb hby at_197) rfl k) ?_
        show own_FinW p e below s _ _ _ (Tj39.setTop (mkF m 199 #[.val (.int p0), .val (.int p1), .val (.long q2), .second, .val (.int p3), .val (.int ((1 : Int32) + ((p0 &&& (2147483647 : Int32)) % (38 : Int32)))), .val (.int ((p1 &&& (2147483647 : Int32)) % (((1 : Int32) + ((p0 &&& (2147483647 : Int32)) % (38 : Int32))) + (1 : Int32)))), .val (.ref b1), .val (.long (own_P0 ((1 : Int32) + ((p0 &&& (2147483647 : Int32)) % (38 : Int32))))), .second, .val (.int (p3 &&& (7 : Int32))), .val (.long w39), .second, .unset] [(.long (own_P0 ((1 : Int32) + ((p0 &&& (2147483647 : Int32)) % (38 : Int32))))), (.long w39)]))
        refine own_stepW (fun _ k => XS.lneg Xj39.here hx rfl (hb hby at_199) rfl k) ?_
        show own_FinW p e below s _ _ _ (Tj39.setTop (mkF m 200 #[.val (.int p0), .val (.int p1), .val (.long q2), .second, .val (.int p3), .val (.int ((1 : Int32) + ((p0 &&& (2147483647 : Int32)) % (38 : Int32)))), .val (.int ((p1 &&& (2147483647 : Int32)) % (((1 : Int32) + ((p0 &&& (2147483647 : Int32)) % (38 : Int32))) + (1 : Int32)))), .val (.ref b1), .val (.long (own_P0 ((1 : Int32) + ((p0 &&& (2147483647 : Int32)) % (38 : Int32))))), .second, .val (.int (p3 &&& (7 : Int32))), .val (.long w39), .second, .unset] [(.long (-(own_P0 ((1 : Int32) + ((p0 &&& (2147483647 : Int32)) % (38 : Int32)))))), (.long w39)]))
        refine own_stepW (fun _ k => XS.lcmp Xj39.here hx rfl (hb hby at_200) rfl k) ?_
        show own_FinW p e below s _ _ _ (Tj39.setTop (mkF m 201 #[.val (.int p0), .val (.int p1), .val (.long q2), .second, .val (.int p3), .val (.int ((1 : Int32) + ((p0 &&& (2147483647 : Int32)) % (38 : Int32)))), .val (.int ((p1 &&& (2147483647 : Int32)) % (((1 : Int32) + ((p0 &&& (2147483647 : Int32)) % (38 : Int32))) + (1 : Int32)))), .val (.ref b1), .val (.long (own_P0 ((1 : Int32) + ((p0 &&& (2147483647 : Int32)) % (38 : Int32))))), .second, .val (.int (p3 &&& (7 : Int32))), .val (.long w39), .second, .unset] [(.int (lcmpW w39 (-(own_P0 ((1 : Int32) + ((p0 &&& (2147483647 : Int32)) % (38 : Int32)))))))]))
        by_cases hc42 : (0 : Int32) < (lcmpW w39 (-(own_P0 ((1 : Int32) + ((p0 &&& (2147483647 : Int32)) % (38 : Int32))))))
        · refine own_stepW (fun _ k => XS.ifNo Xj39.here hx rfl (hb hby at_201) rfl ((if0 _ _).trans (tlt hc42).2.2.2) k) ?_
          show own_FinW p e below s _ _ _ (Tj39.setTop (mkF m 204 #[.val (.int p0), .val (.int p1), .val (.long q2), .second, .val (.int p3), .val (.int ((1 : Int32) + ((p0 &&& (2147483647 : Int32)) % (38 : Int32)))), .val (.int ((p1 &&& (2147483647 : Int32)) % (((1 : Int32) + ((p0 &&& (2147483647 : Int32)) % (38 : Int32))) + (1 : Int32)))), .val (.ref b1), .val (.long (own_P0 ((1 : Int32) + ((p0 &&& (2147483647 : Int32)) % (38 : Int32))))), .second, .val (.int (p3 &&& (7 : Int32))), .val (.long w39), .second, .unset] []))
          refine own_stepW (fun _ k => XS.iconst Xj39.here hx rfl (hb hby at_204) k) ?_
          show own_FinW p e below s _ _ _ (Tj39.setTop (mkF m 205 #[.val (.int p0), .val (.int p1), .val (.long q2), .second, .val (.int p3), .val (.int ((1 : Int32) + ((p0 &&& (2147483647 : Int32)) % (38 : Int32)))), .val (.int ((p1 &&& (2147483647 : Int32)) % (((1 : Int32) + ((p0 &&& (2147483647 : Int32)) % (38 : Int32))) + (1 : Int32)))), .val (.ref b1), .val (.long (own_P0 ((1 : Int32) + ((p0 &&& (2147483647 : Int32)) % (38 : Int32))))), .second, .val (.int (p3 &&& (7 : Int32))), .val (.long w39), .second, .unset] [(.int (1 : Int32))]))
          refine own_stepW (fun _ k => XS.goto Xj39.here hx rfl (pc0 := 205) (pc' := 209) rfl (hb hby at_205) (by decide) (by decide) k) ?_
          show own_FinW p e below s _ _ _ (Tj39.setTop (mkF m 209 #[.val (.int p0), .val (.int p1), .val (.long q2), .second, .val (.int p3), .val (.int ((1 : Int32) + ((p0 &&& (2147483647 : Int32)) % (38 : Int32)))), .val (.int ((p1 &&& (2147483647 : Int32)) % (((1 : Int32) + ((p0 &&& (2147483647 : Int32)) % (38 : Int32))) + (1 : Int32)))), .val (.ref b1), .val (.long (own_P0 ((1 : Int32) + ((p0 &&& (2147483647 : Int32)) % (38 : Int32))))), .second, .val (.int (p3 &&& (7 : Int32))), .val (.long w39), .second, .unset] [(.int (1 : Int32))]))
          refine own_stepW (fun _ k => XS.istore Xj39.here hx rfl (hb hby at_209) rfl (l' := #[.val (.int p0), .val (.int p1), .val (.long q2), .second, .val (.int p3), .val (.int ((1 : Int32) + ((p0 &&& (2147483647 : Int32)) % (38 : Int32)))), .val (.int ((p1 &&& (2147483647 : Int32)) % (((1 : Int32) + ((p0 &&& (2147483647 : Int32)) % (38 : Int32))) + (1 : Int32)))), .val (.ref b1), .val (.long (own_P0 ((1 : Int32) + ((p0 &&& (2147483647 : Int32)) % (38 : Int32))))), .second, .val (.int (p3 &&& (7 : Int32))), .val (.long w39), .second, .val (.int (1 : Int32))]) rfl k) ?_
          show own_FinW p e below s _ _ _ (Tj39.setTop (mkF m 211 #[.val (.int p0), .val (.int p1), .val (.long q2), .second, .val (.int p3), .val (.int ((1 : Int32) + ((p0 &&& (2147483647 : Int32)) % (38 : Int32)))), .val (.int ((p1 &&& (2147483647 : Int32)) % (((1 : Int32) + ((p0 &&& (2147483647 : Int32)) % (38 : Int32))) + (1 : Int32)))), .val (.ref b1), .val (.long (own_P0 ((1 : Int32) + ((p0 &&& (2147483647 : Int32)) % (38 : Int32))))), .second, .val (.int (p3 &&& (7 : Int32))), .val (.long w39), .second, .val (.int (1 : Int32))] []))
          refine own_stepW (fun _ k => XS.aload Xj39.here hx rfl (hb hby at_211) rfl rfl k) ?_
          show own_FinW p e below s _ _ _ (Tj39.setTop (mkF m 213 #[.val (.int p0), .val (.int p1), .val (.long q2), .second, .val (.int p3), .val (.int ((1 : Int32) + ((p0 &&& (2147483647 : Int32)) % (38 : Int32)))), .val (.int ((p1 &&& (2147483647 : Int32)) % (((1 : Int32) + ((p0 &&& (2147483647 : Int32)) % (38 : Int32))) + (1 : Int32)))), .val (.ref b1), .val (.long (own_P0 ((1 : Int32) + ((p0 &&& (2147483647 : Int32)) % (38 : Int32))))), .second, .val (.int (p3 &&& (7 : Int32))), .val (.long w39), .second, .val (.int (1 : Int32))] [(.ref b1)]))
          refine own_stepW (fun _ k => XS.lload Xj39.here hx rfl (hb hby at_213) rfl k) ?_
          show own_FinW p e below s _ _ _ (Tj39.setTop (mkF m 215 #[.val (.int p0), .val (.int p1), .val (.long q2), .second, .val (.int p3), .val (.int ((1 : Int32) + ((p0 &&& (2147483647 : Int32)) % (38 : Int32)))), .val (.int ((p1 &&& (2147483647 : Int32)) % (((1 : Int32) + ((p0 &&& (2147483647 : Int32)) % (38 : Int32))) + (1 : Int32)))), .val (.ref b1), .val (.long (own_P0 ((1 : Int32) + ((p0 &&& (2147483647 : Int32)) % (38 : Int32))))), .second, .val (.int (p3 &&& (7 : Int32))), .val (.long w39), .second, .val (.int (1 : Int32))] [(.long w39), (.ref b1)]))
          obtain ⟨cq43, kq43, q43a, q43b, q43c⟩ := isOf hZ6 ej39 G36
          obtain ⟨_, _, ⟨T43, L43, k43, n43⟩, -, X43, ⟨Lc43, hQ43, l43, y43, z43⟩, st43⟩ := Xj39.virtualBack hx (y := own_y5) (z := own_y5) hown6 (mvT hZ6 (own_w hw 59 rfl)) (mvT hZ6 (own_w hw 60 rfl)) (notFace_of_selects (args := #[]) (mvT hZ6 (own_w hw 62 rfl))) (mvT hZ6 (own_w hw 62 rfl)) (mvT hZ6 (own_w hw 61 rfl)) (by decide) (backOf (W := 0) (own_rm7 l Z a0 hw [] b1 w39 (((1 : Int32) + ((p0 &&& (2147483647 : Int32)) % (38 : Int32)))) s_LONG_POWERS_OF_TEN k_s_LONG_POWERS_OF_TEN T33.heap n0 Z33 G37 G34 G35 (show ¬ (((1 : Int32) + ((p0 &&& (2147483647 : Int32)) % (38 : Int32))) < (0 : Int32)) from own_neg p0)) hZ6 (own_w hw 63 rfl) (own_w hw 3 rfl) (by decide) (by decide)) q43a q43c (g := (mkF m 215 #[.val (.int p0), .val (.int p1), .val (.long q2), .second, .val (.int p3), .val (.int ((1 : Int32) + ((p0 &&& (2147483647 : Int32)) % (38 : Int32)))), .val (.int ((p1 &&& (2147483647 : Int32)) % (((1 : Int32) + ((p0 &&& (2147483647 : Int32)) % (38 : Int32))) + (1 : Int32)))), .val (.ref b1), .val (.long (own_P0 ((1 : Int32) + ((p0 &&& (2147483647 : Int32)) % (38 : Int32))))), .second, .val (.int (p3 &&& (7 : Int32))), .val (.long w39), .second, .val (.int (1 : Int32))] [(.long w39), (.ref b1)])) rfl (by rw [hml]; rfl) (Steps.refl _) (argsL := [(.long w39)]) (rest := []) (lenOf own_pd5 rfl) rfl (by show 2 * 0 + _ ≤ _; exact Nat.le_of_eq rfl) (hb hby at_215) (fun _ _ => ⟨rfl, ej39, (by decide : 4 + 0 ≤ _), (by decide : 69 + 0 ≤ _)⟩)
          dsimp only [Pt.U, Pt.locs, Pt.cells, Pt.slots] at X43 l43 y43 z43 st43 hQ43
          subst l43 y43 z43
          obtain ⟨rfl, N43q, e43⟩ := hQ43
          have N43 := Fr.app N33 N43q
          refine own_stepW (fun _ k => st43.trans k) ?_
          show own_FinW p e below s _ _ _ (T43.setTop (mkF m 218 #[.val (.int p0), .val (.int p1), .val (.long q2), .second, .val (.int p3), .val (.int ((1 : Int32) + ((p0 &&& (2147483647 : Int32)) % (38 : Int32)))), .val (.int ((p1 &&& (2147483647 : Int32)) % (((1 : Int32) + ((p0 &&& (2147483647 : Int32)) % (38 : Int32))) + (1 : Int32)))), .val (.ref b1), .val (.long (own_P0 ((1 : Int32) + ((p0 &&& (2147483647 : Int32)) % (38 : Int32))))), .second, .val (.int (p3 &&& (7 : Int32))), .val (.long w39), .second, .val (.int (1 : Int32))] [(.int (own_r7 w39 ((1 : Int32) + ((p0 &&& (2147483647 : Int32)) % (38 : Int32)))))]))
          refine own_stepW (fun _ k => XS.iload X43.here hx rfl (hb hby at_218) rfl k) ?_
          show own_FinW p e below s _ _ _ (T43.setTop (mkF m 220 #[.val (.int p0), .val (.int p1), .val (.long q2), .second, .val (.int p3), .val (.int ((1 : Int32) + ((p0 &&& (2147483647 : Int32)) % (38 : Int32)))), .val (.int ((p1 &&& (2147483647 : Int32)) % (((1 : Int32) + ((p0 &&& (2147483647 : Int32)) % (38 : Int32))) + (1 : Int32)))), .val (.ref b1), .val (.long (own_P0 ((1 : Int32) + ((p0 &&& (2147483647 : Int32)) % (38 : Int32))))), .second, .val (.int (p3 &&& (7 : Int32))), .val (.long w39), .second, .val (.int (1 : Int32))] [(.int (1 : Int32)), (.int (own_r7 w39 ((1 : Int32) + ((p0 &&& (2147483647 : Int32)) % (38 : Int32)))))]))
          have hf44 : (own_r7 w39 ((1 : Int32) + ((p0 &&& (2147483647 : Int32)) % (38 : Int32)))) = (1 : Int32) := (own_negv _ _ (own_in p0 hc13).2 (own_le p0 hc13).1 hc41).trans (if_pos hc42)
          refine own_stepW (fun _ k => XS.icmpNo X43.here hx rfl (hb hby at_220) rfl (teq hf44).2 k) ?_
          show own_FinW p e below s _ _ _ (T43.setTop (mkF m 223 #[.val (.int p0), .val (.int p1), .val (.long q2), .second, .val (.int p3), .val (.int ((1 : Int32) + ((p0 &&& (2147483647 : Int32)) % (38 : Int32)))), .val (.int ((p1 &&& (2147483647 : Int32)) % (((1 : Int32) + ((p0 &&& (2147483647 : Int32)) % (38 : Int32))) + (1 : Int32)))), .val (.ref b1), .val (.long (own_P0 ((1 : Int32) + ((p0 &&& (2147483647 : Int32)) % (38 : Int32))))), .second, .val (.int (p3 &&& (7 : Int32))), .val (.long w39), .second, .val (.int (1 : Int32))] []))
          refine own_stepW (fun _ k => XS.iconst X43.here hx rfl (hb hby at_223) k) ?_
          show own_FinW p e below s _ _ _ (T43.setTop (mkF m 224 #[.val (.int p0), .val (.int p1), .val (.long q2), .second, .val (.int p3), .val (.int ((1 : Int32) + ((p0 &&& (2147483647 : Int32)) % (38 : Int32)))), .val (.int ((p1 &&& (2147483647 : Int32)) % (((1 : Int32) + ((p0 &&& (2147483647 : Int32)) % (38 : Int32))) + (1 : Int32)))), .val (.ref b1), .val (.long (own_P0 ((1 : Int32) + ((p0 &&& (2147483647 : Int32)) % (38 : Int32))))), .second, .val (.int (p3 &&& (7 : Int32))), .val (.long w39), .second, .val (.int (1 : Int32))] [(.int (1 : Int32))]))
          refine own_stepW (fun _ k => XS.goto X43.here hx rfl (pc0 := 224) (pc' := 228) rfl (hb hby at_224) (by decide) (by decide) k) ?_
          show own_FinW p e below s _ _ _ (T43.setTop (mkF m 228 #[.val (.int p0), .val (.int p1), .val (.long q2), .second, .val (.int p3), .val (.int ((1 : Int32) + ((p0 &&& (2147483647 : Int32)) % (38 : Int32)))), .val (.int ((p1 &&& (2147483647 : Int32)) % (((1 : Int32) + ((p0 &&& (2147483647 : Int32)) % (38 : Int32))) + (1 : Int32)))), .val (.ref b1), .val (.long (own_P0 ((1 : Int32) + ((p0 &&& (2147483647 : Int32)) % (38 : Int32))))), .second, .val (.int (p3 &&& (7 : Int32))), .val (.long w39), .second, .val (.int (1 : Int32))] [(.int (1 : Int32))]))
          exact own_retW X43 hlk hS6 e43 hk33 (v := some (.int (1 : Int32))) (fun h => by rw [Bd.returns] at h; cases h) (by decide) (by decide) (by show own_Q8 Z p0 p1 q2 p3 s_LONG_POWERS_OF_TEN k_s_LONG_POWERS_OF_TEN h0 n0 _ T43.heap _; rw [e43]; exact ⟨rfl, N43⟩) (fun fs hr => retN X43 hx (t := .boolean) Bd.returns (by simp) (hb hby at_228) hr)
        · refine own_stepW (fun _ k => XS.ifYes Xj39.here hx rfl (pc0 := 201) (pc' := 208) rfl (hb hby at_201) rfl ((if0 _ _).trans (flt hc42).2.2.2) (by decide) (by decide) k) ?_
          show own_FinW p e below s _ _ _ (Tj39.setTop (mkF m 208 #[.val (.int p0), .val (.int p1), .val (.long q2), .second, .val (.int p3), .val (.int ((1 : Int32) + ((p0 &&& (2147483647 : Int32)) % (38 : Int32)))), .val (.int ((p1 &&& (2147483647 : Int32)) % (((1 : Int32) + ((p0 &&& (2147483647 : Int32)) % (38 : Int32))) + (1 : Int32)))), .val (.ref b1), .val (.long (own_P0 ((1 : Int32) + ((p0 &&& (2147483647 : Int32)) % (38 : Int32))))), .second, .val (.int (p3 &&& (7 : Int32))), .val (.long w39), .second, .unset] []))
          refine own_stepW (fun _ k => XS.iconst Xj39.here hx rfl (hb hby at_208) k) ?_
          show own_FinW p e below s _ _ _ (Tj39.setTop (mkF m 209 #[.val (.int p0), .val (.int p1), .val (.long q2), .second, .val (.int p3), .val (.int ((1 : Int32) + ((p0 &&& (2147483647 : Int32)) % (38 : Int32)))), .val (.int ((p1 &&& (2147483647 : Int32)) % (((1 : Int32) + ((p0 &&& (2147483647 : Int32)) % (38 : Int32))) + (1 : Int32)))), .val (.ref b1), .val (.long (own_P0 ((1 : Int32) + ((p0 &&& (2147483647 : Int32)) % (38 : Int32))))), .second, .val (.int (p3 &&& (7 : Int32))), .val (.long w39), .second, .unset] [(.int (0 : Int32))]))
          refine own_stepW (fun _ k => XS.istore Xj39.here hx rfl (hb hby at_209) rfl (l' := #[.val (.int p0), .val (.int p1), .val (.long q2), .second, .val (.int p3), .val (.int ((1 : Int32) + ((p0 &&& (2147483647 : Int32)) % (38 : Int32)))), .val (.int ((p1 &&& (2147483647 : Int32)) % (((1 : Int32) + ((p0 &&& (2147483647 : Int32)) % (38 : Int32))) + (1 : Int32)))), .val (.ref b1), .val (.long (own_P0 ((1 : Int32) + ((p0 &&& (2147483647 : Int32)) % (38 : Int32))))), .second, .val (.int (p3 &&& (7 : Int32))), .val (.long w39), .second, .val (.int (0 : Int32))]) rfl k) ?_
          show own_FinW p e below s _ _ _ (Tj39.setTop (mkF m 211 #[.val (.int p0), .val (.int p1), .val (.long q2), .second, .val (.int p3), .val (.int ((1 : Int32) + ((p0 &&& (2147483647 : Int32)) % (38 : Int32)))), .val (.int ((p1 &&& (2147483647 : Int32)) % (((1 : Int32) + ((p0 &&& (2147483647 : Int32)) % (38 : Int32))) + (1 : Int32)))), .val (.ref b1), .val (.long (own_P0 ((1 : Int32) + ((p0 &&& (2147483647 : Int32)) % (38 : Int32))))), .second, .val (.int (p3 &&& (7 : Int32))), .val (.long w39), .second, .val (.int (0 : Int32))] []))
          refine own_stepW (fun _ k => XS.aload Xj39.here hx rfl (hb hby at_211) rfl rfl k) ?_
          show own_FinW p e below s _ _ _ (Tj39.setTop (mkF m 213 #[.val (.int p0), .val (.int p1), .val (.long q2), .second, .val (.int p3), .val (.int ((1 : Int32) + ((p0 &&& (2147483647 : Int32)) % (38 : Int32)))), .val (.int ((p1 &&& (2147483647 : Int32)) % (((1 : Int32) + ((p0 &&& (2147483647 : Int32)) % (38 : Int32))) + (1 : Int32)))), .val (.ref b1), .val (.long (own_P0 ((1 : Int32) + ((p0 &&& (2147483647 : Int32)) % (38 : Int32))))), .second, .val (.int (p3 &&& (7 : Int32))), .val (.long w39), .second, .val (.int (0 : Int32))] [(.ref b1)]))
          refine own_stepW (fun _ k => XS.lload Xj39.here hx rfl (hb hby at_213) rfl k) ?_
          show own_FinW p e below s _ _ _ (Tj39.setTop (mkF m 215 #[.val (.int p0), .val (.int p1), .val (.long q2), .second, .val (.int p3), .val (.int ((1 : Int32) + ((p0 &&& (2147483647 : Int32)) % (38 : Int32)))), .val (.int ((p1 &&& (2147483647 : Int32)) % (((1 : Int32) + ((p0 &&& (2147483647 : Int32)) % (38 : Int32))) + (1 : Int32)))), .val (.ref b1), .val (.long (own_P0 ((1 : Int32) + ((p0 &&& (2147483647 : Int32)) % (38 : Int32))))), .second, .val (.int (p3 &&& (7 : Int32))), .val (.long w39), .second, .val (.int (0 : Int32))] [(.long w39), (.ref b1)]))
          obtain ⟨cq45, kq45, q45a, q45b, q45c⟩ := isOf hZ6 ej39 G36
          obtain ⟨_, _, ⟨T45, L45, k45, n45⟩, -, X45, ⟨Lc45, hQ45, l45, y45, z45⟩, st45⟩ := Xj39.virtualBack hx (y := own_y5) (z := own_y5) hown6 (mvT hZ6 (own_w hw 59 rfl)) (mvT hZ6 (own_w hw 60 rfl)) (notFace_of_selects (args := #[]) (mvT hZ6 (own_w hw 62 rfl))) (mvT hZ6 (own_w hw 62 rfl)) (mvT hZ6 (own_w hw 61 rfl)) (by decide) (backOf (W := 0) (own_rm7 l Z a0 hw [] b1 w39 (((1 : Int32) + ((p0 &&& (2147483647 : Int32)) % (38 : Int32)))) s_LONG_POWERS_OF_TEN k_s_LONG_POWERS_OF_TEN T33.heap n0 Z33 G37 G34 G35 (show ¬ (((1 : Int32) + ((p0 &&& (2147483647 : Int32)) % (38 : Int32))) < (0 : Int32)) from own_neg p0)) hZ6 (own_w hw 63 rfl) (own_w hw 3 rfl) (by decide) (by decide)) q45a q45c (g := (mkF m 215 #[.val (.int p0), .val (.int p1), .val (.long q2), .second, .val (.int p3), .val (.int ((1 : Int32) + ((p0 &&& (2147483647 : Int32)) % (38 : Int32)))), .val (.int ((p1 &&& (2147483647 : Int32)) % (((1 : Int32) + ((p0 &&& (2147483647 : Int32)) % (38 : Int32))) + (1 : Int32)))), .val (.ref b1), .val (.long (own_P0 ((1 : Int32) + ((p0 &&& (2147483647 : Int32)) % (38 : Int32))))), .second, .val (.int (p3 &&& (7 : Int32))), .val (.long w39), .second, .val (.int (0 : Int32))] [(.long w39), (.ref b1)])) rfl (by rw [hml]; rfl) (Steps.refl _) (argsL := [(.long w39)]) (rest := []) (lenOf own_pd5 rfl) rfl (by show 2 * 0 + _ ≤ _; exact Nat.le_of_eq rfl) (hb hby at_215) (fun _ _ => ⟨rfl, ej39, (by decide : 4 + 0 ≤ _), (by decide : 69 + 0 ≤ _)⟩)
          dsimp only [Pt.U, Pt.locs, Pt.cells, Pt.slots] at X45 l45 y45 z45 st45 hQ45
          subst l45 y45 z45
          obtain ⟨rfl, N45q, e45⟩ := hQ45
          have N45 := Fr.app N33 N45q
          refine own_stepW (fun _ k => st45.trans k) ?_
          show own_FinW p e below s _ _ _ (T45.setTop (mkF m 218 #[.val (.int p0), .val (.int p1), .val (.long q2), .second, .val (.int p3), .val (.int ((1 : Int32) + ((p0 &&& (2147483647 : Int32)) % (38 : Int32)))), .val (.int ((p1 &&& (2147483647 : Int32)) % (((1 : Int32) + ((p0 &&& (2147483647 : Int32)) % (38 : Int32))) + (1 : Int32)))), .val (.ref b1), .val (.long (own_P0 ((1 : Int32) + ((p0 &&& (2147483647 : Int32)) % (38 : Int32))))), .second, .val (.int (p3 &&& (7 : Int32))), .val (.long w39), .second, .val (.int (0 : Int32))] [(.int (own_r7 w39 ((1 : Int32) + ((p0 &&& (2147483647 : Int32)) % (38 : Int32)))))]))
          refine own_stepW (fun _ k => XS.iload X45.here hx rfl (hb hby at_218) rfl k) ?_
          show own_FinW p e below s _ _ _ (T45.setTop (mkF m 220 #[.val (.int p0), .val (.int p1), .val (.long q2), .second, .val (.int p3), .val (.int ((1 : Int32) + ((p0 &&& (2147483647 : Int32)) % (38 : Int32)))), .val (.int ((p1 &&& (2147483647 : Int32)) % (((1 : Int32) + ((p0 &&& (2147483647 : Int32)) % (38 : Int32))) + (1 : Int32)))), .val (.ref b1), .val (.long (own_P0 ((1 : Int32) + ((p0 &&& (2147483647 : Int32)) % (38 : Int32))))), .second, .val (.int (p3 &&& (7 : Int32))), .val (.long w39), .second, .val (.int (0 : Int32))] [(.int (0 : Int32)), (.int (own_r7 w39 ((1 : Int32) + ((p0 &&& (2147483647 : Int32)) % (38 : Int32)))))]))
          have hf46 : (own_r7 w39 ((1 : Int32) + ((p0 &&& (2147483647 : Int32)) % (38 : Int32)))) = (0 : Int32) := (own_negv _ _ (own_in p0 hc13).2 (own_le p0 hc13).1 hc41).trans (if_neg hc42)
          refine own_stepW (fun _ k => XS.icmpNo X45.here hx rfl (hb hby at_220) rfl (teq hf46).2 k) ?_
          show own_FinW p e below s _ _ _ (T45.setTop (mkF m 223 #[.val (.int p0), .val (.int p1), .val (.long q2), .second, .val (.int p3), .val (.int ((1 : Int32) + ((p0 &&& (2147483647 : Int32)) % (38 : Int32)))), .val (.int ((p1 &&& (2147483647 : Int32)) % (((1 : Int32) + ((p0 &&& (2147483647 : Int32)) % (38 : Int32))) + (1 : Int32)))), .val (.ref b1), .val (.long (own_P0 ((1 : Int32) + ((p0 &&& (2147483647 : Int32)) % (38 : Int32))))), .second, .val (.int (p3 &&& (7 : Int32))), .val (.long w39), .second, .val (.int (0 : Int32))] []))
          refine own_stepW (fun _ k => XS.iconst X45.here hx rfl (hb hby at_223) k) ?_
          show own_FinW p e below s _ _ _ (T45.setTop (mkF m 224 #[.val (.int p0), .val (.int p1), .val (.long q2), .second, .val (.int p3), .val (.int ((1 : Int32) + ((p0 &&& (2147483647 : Int32)) % (38 : Int32)))), .val (.int ((p1 &&& (2147483647 : Int32)) % (((1 : Int32) + ((p0 &&& (2147483647 : Int32)) % (38 : Int32))) + (1 : Int32)))), .val (.ref b1), .val (.long (own_P0 ((1 : Int32) + ((p0 &&& (2147483647 : Int32)) % (38 : Int32))))), .second, .val (.int (p3 &&& (7 : Int32))), .val (.long w39), .second, .val (.int (0 : Int32))] [(.int (1 : Int32))]))
          refine own_stepW (fun _ k => XS.goto X45.here hx rfl (pc0 := 224) (pc' := 228) rfl (hb hby at_224) (by decide) (by decide) k) ?_
          show own_FinW p e below s _ _ _ (T45.setTop (mkF m 228 #[.val (.int p0), .val (.int p1), .val (.long q2), .second, .val (.int p3), .val (.int ((1 : Int32) + ((p0 &&& (2147483647 : Int32)) % (38 : Int32)))), .val (.int ((p1 &&& (2147483647 : Int32)) % (((1 : Int32) + ((p0 &&& (2147483647 : Int32)) % (38 : Int32))) + (1 : Int32)))), .val (.ref b1), .val (.long (own_P0 ((1 : Int32) + ((p0 &&& (2147483647 : Int32)) % (38 : Int32))))), .second, .val (.int (p3 &&& (7 : Int32))), .val (.long w39), .second, .val (.int (0 : Int32))] [(.int (1 : Int32))]))
          exact own_retW X45 hlk hS6 e45 hk33 (v := some (.int (1 : Int32))) (fun h => by rw [Bd.returns] at h; cases h) (by decide) (by decide) (by show own_Q8 Z p0 p1 q2 p3 s_LONG_POWERS_OF_TEN k_s_LONG_POWERS_OF_TEN h0 n0 _ T45.heap _; rw [e45]; exact ⟨rfl, N45⟩) (fun fs hr => retN X45 hx (t := .boolean) Bd.returns (by simp) (hb hby at_228) hr)
      · refine own_stepW (fun _ k => XS.ifNo Xj39.here hx rfl (hb hby at_174) rfl ((if0 _ _).trans (flt hc41).1) k) ?_
        show own_FinW p e below s _ _ _ (Tj39.setTop (mkF m 177 #[.val (.int p0), .val (.int p1), .val (.long q2), .second, .val (.int p3), .val (.int ((1 : Int32) + ((p0 &&& (2147483647 : Int32)) % (38 : Int32)))), .val (.int ((p1 &&& (2147483647 : Int32)) % (((1 : Int32) + ((p0 &&& (2147483647 : Int32)) % (38 : Int32))) + (1 : Int32)))), .val (.ref b1), .val (.long (own_P0 ((1 : Int32) + ((p0 &&& (2147483647 : Int32)) % (38 : Int32))))), .second, .val (.int (p3 &&& (7 : Int32))), .val (.long w39), .second, .unset] []))
        refine own_stepW (fun _ k => XS.lload Xj39.here hx rfl (hb hby at_177) rfl k) ?_
        show own_FinW p e below s _ _ _ (Tj39.setTop (mkF m 179 #[.val (.int p0), .val (.int p1), .val (.long q2), .second, .val (.int p3), .val (.int ((1 : Int32) + ((p0 &&& (2147483647 : Int32)) % (38 : Int32)))), .val (.int ((p1 &&& (2147483647 : Int32)) % (((1 : Int32) + ((p0 &&& (2147483647 : Int32)) % (38 : Int32))) + (1 : Int32)))), .val (.ref b1), .val (.long (own_P0 ((1 : Int32) + ((p0 &&& (2147483647 : Int32)) % (38 : Int32))))), .second, .val (.int (p3 &&& (7 : Int32))), .val (.long w39), .second, .unset] [(.long w39)]))
        refine own_stepW (fun _ k => XS.lload Xj39.here hx rfl (hb hby at_179) rfl k) ?_
        show own_FinW p e below s _ _ _ (Tj39.setTop (mkF m 181 #[.val (.int p0), .val (.int p1), .val (.long q2), .second, .val (.int p3), .val (.int ((1 : Int32) + ((p0 &&& (2147483647 : Int32)) % (38 : Int32)))), .val (.int ((p1 &&& (2147483647 : Int32)) % (((1 : Int32) + ((p0 &&& (2147483647 : Int32)) % (38 : Int32))) + (1 : Int32)))), .val (.ref b1), .val (.long (own_P0 ((1 : Int32) + ((p0 &&& (2147483647 : Int32)) % (38 : Int32))))), .second, .val (.int (p3 &&& (7 : Int32))), .val (.long w39), .second, .unset] [(.long (own_P0 ((1 : Int32) + ((p0 &&& (2147483647 : Int32)) % (38 : Int32))))), (.long w39)]))
        refine own_stepW (fun _ k => XS.lcmp Xj39.here hx rfl (hb hby at_181) rfl k) ?_
        show own_FinW p e below s _ _ _ (Tj39.setTop (mkF m 182 #[.val (.int p0), .val (.int p1), .val (.long q2), .second, .val (.int p3), .val (.int ((1 : Int32) + ((p0 &&& (2147483647 : Int32)) % (38 : Int32)))), .val (.int ((p1 &&& (2147483647 : Int32)) % (((1 : Int32) + ((p0 &&& (2147483647 : Int32)) % (38 : Int32))) + (1 : Int32)))), .val (.ref b1), .val (.long (own_P0 ((1 : Int32) + ((p0 &&& (2147483647 : Int32)) % (38 : Int32))))), .second, .val (.int (p3 &&& (7 : Int32))), .val (.long w39), .second, .unset] [(.int (lcmpW w39 (own_P0 ((1 : Int32) + ((p0 &&& (2147483647 : Int32)) % (38 : Int32))))))]))
        by_cases hc47 : (lcmpW w39 (own_P0 ((1 : Int32) + ((p0 &&& (2147483647 : Int32)) % (38 : Int32))))) < (0 : Int32)
        · refine own_stepW (fun _ k => XS.ifNo Xj39.here hx rfl (hb hby at_182) rfl ((if0 _ _).trans (tlt hc47).2.1) k) ?_
          show own_FinW p e below s _ _ _ (Tj39.setTop (mkF m 185 #[.val (.int p0), .val (.int p1), .val (.long q2), .second, .val (.int p3), .val (.int ((1 : Int32) + ((p0 &&& (2147483647 : Int32)) % (38 : Int32)))), .val (.int ((p1 &&& (2147483647 : Int32)) % (((1 : Int32) + ((p0 &&& (2147483647 : Int32)) % (38 : Int32))) + (1 : Int32)))), .val (.ref b1), .val (.long (own_P0 ((1 : Int32) + ((p0 &&& (2147483647 : Int32)) % (38 : Int32))))), .second, .val (.int (p3 &&& (7 : Int32))), .val (.long w39), .second, .unset] []))
          refine own_stepW (fun _ k => XS.iconst Xj39.here hx rfl (hb hby at_185) k) ?_
          show own_FinW p e below s _ _ _ (Tj39.setTop (mkF m 186 #[.val (.int p0), .val (.int p1), .val (.long q2), .second, .val (.int p3), .val (.int ((1 : Int32) + ((p0 &&& (2147483647 : Int32)) % (38 : Int32)))), .val (.int ((p1 &&& (2147483647 : Int32)) % (((1 : Int32) + ((p0 &&& (2147483647 : Int32)) % (38 : Int32))) + (1 : Int32)))), .val (.ref b1), .val (.long (own_P0 ((1 : Int32) + ((p0 &&& (2147483647 : Int32)) % (38 : Int32))))), .second, .val (.int (p3 &&& (7 : Int32))), .val (.long w39), .second, .unset] [(.int (1 : Int32))]))
          refine own_stepW (fun _ k => XS.goto Xj39.here hx rfl (pc0 := 186) (pc' := 190) rfl (hb hby at_186) (by decide) (by decide) k) ?_
          show own_FinW p e below s _ _ _ (Tj39.setTop (mkF m 190 #[.val (.int p0), .val (.int p1), .val (.long q2), .second, .val (.int p3), .val (.int ((1 : Int32) + ((p0 &&& (2147483647 : Int32)) % (38 : Int32)))), .val (.int ((p1 &&& (2147483647 : Int32)) % (((1 : Int32) + ((p0 &&& (2147483647 : Int32)) % (38 : Int32))) + (1 : Int32)))), .val (.ref b1), .val (.long (own_P0 ((1 : Int32) + ((p0 &&& (2147483647 : Int32)) % (38 : Int32))))), .second, .val (.int (p3 &&& (7 : Int32))), .val (.long w39), .second, .unset] [(.int (1 : Int32))]))
          refine own_stepW (fun _ k => XS.istore Xj39.here hx rfl (hb hby at_190) rfl (l' := #[.val (.int p0), .val (.int p1), .val (.long q2), .second, .val (.int p3), .val (.int ((1 : Int32) + ((p0 &&& (2147483647 : Int32)) % (38 : Int32)))), .val (.int ((p1 &&& (2147483647 : Int32)) % (((1 : Int32) + ((p0 &&& (2147483647 : Int32)) % (38 : Int32))) + (1 : Int32)))), .val (.ref b1), .val (.long (own_P0 ((1 : Int32) + ((p0 &&& (2147483647 : Int32)) % (38 : Int32))))), .second, .val (.int (p3 &&& (7 : Int32))), .val (.long w39), .second, .val (.int (1 : Int32))]) rfl k) ?_
          show own_FinW p e below s _ _ _ (Tj39.setTop (mkF m 192 #[.val (.int p0), .val (.int p1), .val (.long q2), .second, .val (.int p3), .val (.int ((1 : Int32) + ((p0 &&& (2147483647 : Int32)) % (38 : Int32)))), .val (.int ((p1 &&& (2147483647 : Int32)) % (((1 : Int32) + ((p0 &&& (2147483647 : Int32)) % (38 : Int32))) + (1 : Int32)))), .val (.ref b1), .val (.long (own_P0 ((1 : Int32) + ((p0 &&& (2147483647 : Int32)) % (38 : Int32))))), .second, .val (.int (p3 &&& (7 : Int32))), .val (.long w39), .second, .val (.int (1 : Int32))] []))
          refine own_stepW (fun _ k => XS.goto Xj39.here hx rfl (pc0 := 192) (pc' := 211) rfl (hb hby at_192) (by decide) (by decide) k) ?_
          show own_FinW p e below s _ _ _ (Tj39.setTop (mkF m 211 #[.val (.int p0), .val (.int p1), .val (.long q2), .second, .val (.int p3), .val (.int ((1 : Int32) + ((p0 &&& (2147483647 : Int32)) % (38 : Int32)))), .val (.int ((p1 &&& (2147483647 : Int32)) % (((1 : Int32) + ((p0 &&& (2147483647 : Int32)) % (38 : Int32))) + (1 : Int32)))), .val (.ref b1), .val (.long (own_P0 ((1 : Int32) + ((p0 &&& (2147483647 : Int32)) % (38 : Int32))))), .second, .val (.int (p3 &&& (7 : Int32))), .val (.long w39), .second, .val (.int (1 : Int32))] []))
          refine own_stepW (fun _ k => XS.aload Xj39.here hx rfl (hb hby at_211) rfl rfl k) ?_
          show own_FinW p e below s _ _ _ (Tj39.setTop (mkF m 213 #[.val (.int p0), .val (.int p1), .val (.long q2), .second, .val (.int p3), .val (.int ((1 : Int32) + ((p0 &&& (2147483647 : Int32)) % (38 : Int32)))), .val (.int ((p1 &&& (2147483647 : Int32)) % (((1 : Int32) + ((p0 &&& (2147483647 : Int32)) % (38 : Int32))) + (1 : Int32)))), .val (.ref b1), .val (.long (own_P0 ((1 : Int32) + ((p0 &&& (2147483647 : Int32)) % (38 : Int32))))), .second, .val (.int (p3 &&& (7 : Int32))), .val (.long w39), .second, .val (.int (1 : Int32))] [(.ref b1)]))
          refine own_stepW (fun _ k => XS.lload Xj39.here hx rfl (hb hby at_213) rfl k) ?_
          show own_FinW p e below s _ _ _ (Tj39.setTop (mkF m 215 #[.val (.int p0), .val (.int p1), .val (.long q2), .second, .val (.int p3), .val (.int ((1 : Int32) + ((p0 &&& (2147483647 : Int32)) % (38 : Int32)))), .val (.int ((p1 &&& (2147483647 : Int32)) % (((1 : Int32) + ((p0 &&& (2147483647 : Int32)) % (38 : Int32))) + (1 : Int32)))), .val (.ref b1), .val (.long (own_P0 ((1 : Int32) + ((p0 &&& (2147483647 : Int32)) % (38 : Int32))))), .second, .val (.int (p3 &&& (7 : Int32))), .val (.long w39), .second, .val (.int (1 : Int32))] [(.long w39), (.ref b1)]))
          obtain ⟨cq48, kq48, q48a, q48b, q48c⟩ := isOf hZ6 ej39 G36
          obtain ⟨_, _, ⟨T48, L48, k48, n48⟩, -, X48, ⟨Lc48, hQ48, l48, y48, z48⟩, st48⟩ := Xj39.virtualBack hx (y := own_y5) (z := own_y5) hown6 (mvT hZ6 (own_w hw 59 rfl)) (mvT hZ6 (own_w hw 60 rfl)) (notFace_of_selects (args := #[]) (mvT hZ6 (own_w hw 62 rfl))) (mvT hZ6 (own_w hw 62 rfl)) (mvT hZ6 (own_w hw 61 rfl)) (by decide) (backOf (W := 0) (own_rm7 l Z a0 hw [] b1 w39 (((1 : Int32) + ((p0 &&& (2147483647 : Int32)) % (38 : Int32)))) s_LONG_POWERS_OF_TEN k_s_LONG_POWERS_OF_TEN T33.heap n0 Z33 G37 G34 G35 (show ¬ (((1 : Int32) + ((p0 &&& (2147483647 : Int32)) % (38 : Int32))) < (0 : Int32)) from own_neg p0)) hZ6 (own_w hw 63 rfl) (own_w hw 3 rfl) (by decide) (by decide)) q48a q48c (g := (mkF m 215 #[.val (.int p0), .val (.int p1), .val (.long q2), .second, .val (.int p3), .val (.int ((1 : Int32) + ((p0 &&& (2147483647 : Int32)) % (38 : Int32)))), .val (.int ((p1 &&& (2147483647 : Int32)) % (((1 : Int32) + ((p0 &&& (2147483647 : Int32)) % (38 : Int32))) + (1 : Int32)))), .val (.ref b1), .val (.long (own_P0 ((1 : Int32) + ((p0 &&& (2147483647 : Int32)) % (38 : Int32))))), .second, .val (.int (p3 &&& (7 : Int32))), .val (.long w39), .second, .val (.int (1 : Int32))] [(.long w39), (.ref b1)])) rfl (by rw [hml]; rfl) (Steps.refl _) (argsL := [(.long w39)]) (rest := []) (lenOf own_pd5 rfl) rfl (by show 2 * 0 + _ ≤ _; exact Nat.le_of_eq rfl) (hb hby at_215) (fun _ _ => ⟨rfl, ej39, (by decide : 4 + 0 ≤ _), (by decide : 69 + 0 ≤ _)⟩)
          dsimp only [Pt.U, Pt.locs, Pt.cells, Pt.slots] at X48 l48 y48 z48 st48 hQ48
          subst l48 y48 z48
          obtain ⟨rfl, N48q, e48⟩ := hQ48
          have N48 := Fr.app N33 N48q
          refine own_stepW (fun _ k => st48.trans k) ?_
          show own_FinW p e below s _ _ _ (T48.setTop (mkF m 218 #[.val (.int p0), .val (.int p1), .val (.long q2), .second, .val (.int p3), .val (.int ((1 : Int32) + ((p0 &&& (2147483647 : Int32)) % (38 : Int32)))), .val (.int ((p1 &&& (2147483647 : Int32)) % (((1 : Int32) + ((p0 &&& (2147483647 : Int32)) % (38 : Int32))) + (1 : Int32)))), .val (.ref b1), .val (.long (own_P0 ((1 : Int32) + ((p0 &&& (2147483647 : Int32)) % (38 : Int32))))), .second, .val (.int (p3 &&& (7 : Int32))), .val (.long w39), .second, .val (.int (1 : Int32))] [(.int (own_r7 w39 ((1 : Int32) + ((p0 &&& (2147483647 : Int32)) % (38 : Int32)))))]))
          refine own_stepW (fun _ k => XS.iload X48.here hx rfl (hb hby at_218) rfl k) ?_
          show own_FinW p e below s _ _ _ (T48.setTop (mkF m 220 #[.val (.int p0), .val (.int p1), .val (.long q2), .second, .val (.int p3), .val (.int ((1 : Int32) + ((p0 &&& (2147483647 : Int32)) % (38 : Int32)))), .val (.int ((p1 &&& (2147483647 : Int32)) % (((1 : Int32) + ((p0 &&& (2147483647 : Int32)) % (38 : Int32))) + (1 : Int32)))), .val (.ref b1), .val (.long (own_P0 ((1 : Int32) + ((p0 &&& (2147483647 : Int32)) % (38 : Int32))))), .second, .val (.int (p3 &&& (7 : Int32))), .val (.long w39), .second, .val (.int (1 : Int32))] [(.int (1 : Int32)), (.int (own_r7 w39 ((1 : Int32) + ((p0 &&& (2147483647 : Int32)) % (38 : Int32)))))]))
          have hf49 : (own_r7 w39 ((1 : Int32) + ((p0 &&& (2147483647 : Int32)) % (38 : Int32)))) = (1 : Int32) := (own_posv _ _ (own_in p0 hc13).2 (own_le p0 hc13).1 hc41).trans (if_pos hc47)
          refine own_stepW (fun _ k => XS.icmpNo X48.here hx rfl (hb hby at_220) rfl (teq hf49).2 k) ?_
          show own_FinW p e below s _ _ _ (T48.setTop (mkF m 223 #[.val (.int p0), .val (.int p1), .val (.long q2), .second, .val (.int p3), .val (.int ((1 : Int32) + ((p0 &&& (2147483647 : Int32)) % (38 : Int32)))), .val (.int ((p1 &&& (2147483647 : Int32)) % (((1 : Int32) + ((p0 &&& (2147483647 : Int32)) % (38 : Int32))) + (1 : Int32)))), .val (.ref b1), .val (.long (own_P0 ((1 : Int32) + ((p0 &&& (2147483647 : Int32)) % (38 : Int32))))), .second, .val (.int (p3 &&& (7 : Int32))), .val (.long w39), .second, .val (.int (1 : Int32))] []))
          refine own_stepW (fun _ k => XS.iconst X48.here hx rfl (hb hby at_223) k) ?_
          show own_FinW p e below s _ _ _ (T48.setTop (mkF m 224 #[.val (.int p0), .val (.int p1), .val (.long q2), .second, .val (.int p3), .val (.int ((1 : Int32) + ((p0 &&& (2147483647 : Int32)) % (38 : Int32)))), .val (.int ((p1 &&& (2147483647 : Int32)) % (((1 : Int32) + ((p0 &&& (2147483647 : Int32)) % (38 : Int32))) + (1 : Int32)))), .val (.ref b1), .val (.long (own_P0 ((1 : Int32) + ((p0 &&& (2147483647 : Int32)) % (38 : Int32))))), .second, .val (.int (p3 &&& (7 : Int32))), .val (.long w39), .second, .val (.int (1 : Int32))] [(.int (1 : Int32))]))
          refine own_stepW (fun _ k => XS.goto X48.here hx rfl (pc0 := 224) (pc' := 228) rfl (hb hby at_224) (by decide) (by decide) k) ?_
          show own_FinW p e below s _ _ _ (T48.setTop (mkF m 228 #[.val (.int p0), .val (.int p1), .val (.long q2), .second, .val (.int p3), .val (.int ((1 : Int32) + ((p0 &&& (2147483647 : Int32)) % (38 : Int32)))), .val (.int ((p1 &&& (2147483647 : Int32)) % (((1 : Int32) + ((p0 &&& (2147483647 : Int32)) % (38 : Int32))) + (1 : Int32)))), .val (.ref b1), .val (.long (own_P0 ((1 : Int32) + ((p0 &&& (2147483647 : Int32)) % (38 : Int32))))), .second, .val (.int (p3 &&& (7 : Int32))), .val (.long w39), .second, .val (.int (1 : Int32))] [(.int (1 : Int32))]))
          exact own_retW X48 hlk hS6 e48 hk33 (v := some (.int (1 : Int32))) (fun h => by rw [Bd.returns] at h; cases h) (by decide) (by decide) (by show own_Q8 Z p0 p1 q2 p3 s_LONG_POWERS_OF_TEN k_s_LONG_POWERS_OF_TEN h0 n0 _ T48.heap _; rw [e48]; exact ⟨rfl, N48⟩) (fun fs hr => retN X48 hx (t := .boolean) Bd.returns (by simp) (hb hby at_228) hr)
        · refine own_stepW (fun _ k => XS.ifYes Xj39.here hx rfl (pc0 := 182) (pc' := 189) rfl (hb hby at_182) rfl ((if0 _ _).trans (flt hc47).2.1) (by decide) (by decide) k) ?_
          show own_FinW p e below s _ _ _ (Tj39.setTop (mkF m 189 #[.val (.int p0), .val (.int p1), .val (.long q2), .second, .val (.int p3), .val (.int ((1 : Int32) + ((p0 &&& (2147483647 : Int32)) % (38 : Int32)))), .val (.int ((p1 &&& (2147483647 : Int32)) % (((1 : Int32) + ((p0 &&& (2147483647 : Int32)) % (38 : Int32))) + (1 : Int32)))), .val (.ref b1), .val (.long (own_P0 ((1 : Int32) + ((p0 &&& (2147483647 : Int32)) % (38 : Int32))))), .second, .val (.int (p3 &&& (7 : Int32))), .val (.long w39), .second, .unset] []))
          refine own_stepW (fun _ k => XS.iconst Xj39.here hx rfl (hb hby at_189) k) ?_
          show own_FinW p e below s _ _ _ (Tj39.setTop (mkF m 190 #[.val (.int p0), .val (.int p1), .val (.long q2), .second, .val (.int p3), .val (.int ((1 : Int32) + ((p0 &&& (2147483647 : Int32)) % (38 : Int32)))), .val (.int ((p1 &&& (2147483647 : Int32)) % (((1 : Int32) + ((p0 &&& (2147483647 : Int32)) % (38 : Int32))) + (1 : Int32)))), .val (.ref b1), .val (.long (own_P0 ((1 : Int32) + ((p0 &&& (2147483647 : Int32)) % (38 : Int32))))), .second, .val (.int (p3 &&& (7 : Int32))), .val (.long w39), .second, .unset] [(.int (0 : Int32))]))
          refine own_stepW (fun _ k => XS.istore Xj39.here hx rfl (hb hby at_190) rfl (l' := #[.val (.int p0), .val (.int p1), .val (.long q2), .second, .val (.int p3), .val (.int ((1 : Int32) + ((p0 &&& (2147483647 : Int32)) % (38 : Int32)))), .val (.int ((p1 &&& (2147483647 : Int32)) % (((1 : Int32) + ((p0 &&& (2147483647 : Int32)) % (38 : Int32))) + (1 : Int32)))), .val (.ref b1), .val (.long (own_P0 ((1 : Int32) + ((p0 &&& (2147483647 : Int32)) % (38 : Int32))))), .second, .val (.int (p3 &&& (7 : Int32))), .val (.long w39), .second, .val (.int (0 : Int32))]) rfl k) ?_
          show own_FinW p e below s _ _ _ (Tj39.setTop (mkF m 192 #[.val (.int p0), .val (.int p1), .val (.long q2), .second, .val (.int p3), .val (.int ((1 : Int32) + ((p0 &&& (2147483647 : Int32)) % (38 : Int32)))), .val (.int ((p1 &&& (2147483647 : Int32)) % (((1 : Int32) + ((p0 &&& (2147483647 : Int32)) % (38 : Int32))) + (1 : Int32)))), .val (.ref b1), .val (.long (own_P0 ((1 : Int32) + ((p0 &&& (2147483647 : Int32)) % (38 : Int32))))), .second, .val (.int (p3 &&& (7 : Int32))), .val (.long w39), .second, .val (.int (0 : Int32))] []))
          refine own_stepW (fun _ k => XS.goto Xj39.here hx rfl (pc0 := 192) (pc' := 211) rfl (hb hby at_192) (by decide) (by decide) k) ?_
          show own_FinW p e below s _ _ _ (Tj39.setTop (mkF m 211 #[.val (.int p0), .val (.int p1), .val (.long q2), .second, .val (.int p3), .val (.int ((1 : Int32) + ((p0 &&& (2147483647 : Int32)) % (38 : Int32)))), .val (.int ((p1 &&& (2147483647 : Int32)) % (((1 : Int32) + ((p0 &&& (2147483647 : Int32)) % (38 : Int32))) + (1 : Int32)))), .val (.ref b1), .val (.long (own_P0 ((1 : Int32) + ((p0 &&& (2147483647 : Int32)) % (38 : Int32))))), .second, .val (.int (p3 &&& (7 : Int32))), .val (.long w39), .second, .val (.int (0 : Int32))] []))
          refine own_stepW (fun _ k => XS.aload Xj39.here hx rfl (hb hby at_211) rfl rfl k) ?_
          show own_FinW p e below s _ _ _ (Tj39.setTop (mkF m 213 #[.val (.int p0), .val (.int p1), .val (.long q2), .second, .val (.int p3), .val (.int ((1 : Int32) + ((p0 &&& (2147483647 : Int32)) % (38 : Int32)))), .val (.int ((p1 &&& (2147483647 : Int32)) % (((1 : Int32) + ((p0 &&& (2147483647 : Int32)) % (38 : Int32))) + (1 : Int32)))), .val (.ref b1), .val (.long (own_P0 ((1 : Int32) + ((p0 &&& (2147483647 : Int32)) % (38 : Int32))))), .second, .val (.int (p3 &&& (7 : Int32))), .val (.long w39), .second, .val (.int (0 : Int32))] [(.ref b1)]))
          refine own_stepW (fun _ k => XS.lload Xj39.here hx rfl (hb hby at_213) rfl k) ?_
          show own_FinW p e below s _ _ _ (Tj39.setTop (mkF m 215 #[.val (.int p0), .val (.int p1), .val (.long q2), .second, .val (.int p3), .val (.int ((1 : Int32) + ((p0 &&& (2147483647 : Int32)) % (38 : Int32)))), .val (.int ((p1 &&& (2147483647 : Int32)) % (((1 : Int32) + ((p0 &&& (2147483647 : Int32)) % (38 : Int32))) + (1 : Int32)))), .val (.ref b1), .val (.long (own_P0 ((1 : Int32) + ((p0 &&& (2147483647 : Int32)) % (38 : Int32))))), .second, .val (.int (p3 &&& (7 : Int32))), .val (.long w39), .second, .val (.int (0 : Int32))] [(.long w39), (.ref b1)]))
          obtain ⟨cq50, kq50, q50a, q50b, q50c⟩ := isOf hZ6 ej39 G36
          obtain ⟨_, _, ⟨T50, L50, k50, n50⟩, -, X50, ⟨Lc50, hQ50, l50, y50, z50⟩, st50⟩ := Xj39.virtualBack hx (y := own_y5) (z := own_y5) hown6 (mvT hZ6 (own_w hw 59 rfl)) (mvT hZ6 (own_w hw 60 rfl)) (notFace_of_selects (args := #[]) (mvT hZ6 (own_w hw 62 rfl))) (mvT hZ6 (own_w hw 62 rfl)) (mvT hZ6 (own_w hw 61 rfl)) (by decide) (backOf (W := 0) (own_rm7 l Z a0 hw [] b1 w39 (((1 : Int32) + ((p0 &&& (2147483647 : Int32)) % (38 : Int32)))) s_LONG_POWERS_OF_TEN k_s_LONG_POWERS_OF_TEN T33.heap n0 Z33 G37 G34 G35 (show ¬ (((1 : Int32) + ((p0 &&& (2147483647 : Int32)) % (38 : Int32))) < (0 : Int32)) from own_neg p0)) hZ6 (own_w hw 63 rfl) (own_w hw 3 rfl) (by decide) (by decide)) q50a q50c (g := (mkF m 215 #[.val (.int p0), .val (.int p1), .val (.long q2), .second, .val (.int p3), .val (.int ((1 : Int32) + ((p0 &&& (2147483647 : Int32)) % (38 : Int32)))), .val (.int ((p1 &&& (2147483647 : Int32)) % (((1 : Int32) + ((p0 &&& (2147483647 : Int32)) % (38 : Int32))) + (1 : Int32)))), .val (.ref b1), .val (.long (own_P0 ((1 : Int32) + ((p0 &&& (2147483647 : Int32)) % (38 : Int32))))), .second, .val (.int (p3 &&& (7 : Int32))), .val (.long w39), .second, .val (.int (0 : Int32))] [(.long w39), (.ref b1)])) rfl (by rw [hml]; rfl) (Steps.refl _) (argsL := [(.long w39)]) (rest := []) (lenOf own_pd5 rfl) rfl (by show 2 * 0 + _ ≤ _; exact Nat.le_of_eq rfl) (hb hby at_215) (fun _ _ => ⟨rfl, ej39, (by decide : 4 + 0 ≤ _), (by decide : 69 + 0 ≤ _)⟩)
          dsimp only [Pt.U, Pt.locs, Pt.cells, Pt.slots] at X50 l50 y50 z50 st50 hQ50
          subst l50 y50 z50
          obtain ⟨rfl, N50q, e50⟩ := hQ50
          have N50 := Fr.app N33 N50q
          refine own_stepW (fun _ k => st50.trans k) ?_
          show own_FinW p e below s _ _ _ (T50.setTop (mkF m 218 #[.val (.int p0), .val (.int p1), .val (.long q2), .second, .val (.int p3), .val (.int ((1 : Int32) + ((p0 &&& (2147483647 : Int32)) % (38 : Int32)))), .val (.int ((p1 &&& (2147483647 : Int32)) % (((1 : Int32) + ((p0 &&& (2147483647 : Int32)) % (38 : Int32))) + (1 : Int32)))), .val (.ref b1), .val (.long (own_P0 ((1 : Int32) + ((p0 &&& (2147483647 : Int32)) % (38 : Int32))))), .second, .val (.int (p3 &&& (7 : Int32))), .val (.long w39), .second, .val (.int (0 : Int32))] [(.int (own_r7 w39 ((1 : Int32) + ((p0 &&& (2147483647 : Int32)) % (38 : Int32)))))]))
          refine own_stepW (fun _ k => XS.iload X50.here hx rfl (hb hby at_218) rfl k) ?_
          show own_FinW p e below s _ _ _ (T50.setTop (mkF m 220 #[.val (.int p0), .val (.int p1), .val (.long q2), .second, .val (.int p3), .val (.int ((1 : Int32) + ((p0 &&& (2147483647 : Int32)) % (38 : Int32)))), .val (.int ((p1 &&& (2147483647 : Int32)) % (((1 : Int32) + ((p0 &&& (2147483647 : Int32)) % (38 : Int32))) + (1 : Int32)))), .val (.ref b1), .val (.long (own_P0 ((1 : Int32) + ((p0 &&& (2147483647 : Int32)) % (38 : Int32))))), .second, .val (.int (p3 &&& (7 : Int32))), .val (.long w39), .second, .val (.int (0 : Int32))] [(.int (0 : Int32)), (.int (own_r7 w39 ((1 : Int32) + ((p0 &&& (2147483647 : Int32)) % (38 : Int32)))))]))
          have hf51 : (own_r7 w39 ((1 : Int32) + ((p0 &&& (2147483647 : Int32)) % (38 : Int32)))) = (0 : Int32) := (own_posv _ _ (own_in p0 hc13).2 (own_le p0 hc13).1 hc41).trans (if_neg hc47)
          refine own_stepW (fun _ k => XS.icmpNo X50.here hx rfl (hb hby at_220) rfl (teq hf51).2 k) ?_
          show own_FinW p e below s _ _ _ (T50.setTop (mkF m 223 #[.val (.int p0), .val (.int p1), .val (.long q2), .second, .val (.int p3), .val (.int ((1 : Int32) + ((p0 &&& (2147483647 : Int32)) % (38 : Int32)))), .val (.int ((p1 &&& (2147483647 : Int32)) % (((1 : Int32) + ((p0 &&& (2147483647 : Int32)) % (38 : Int32))) + (1 : Int32)))), .val (.ref b1), .val (.long (own_P0 ((1 : Int32) + ((p0 &&& (2147483647 : Int32)) % (38 : Int32))))), .second, .val (.int (p3 &&& (7 : Int32))), .val (.long w39), .second, .val (.int (0 : Int32))] []))
          refine own_stepW (fun _ k => XS.iconst X50.here hx rfl (hb hby at_223) k) ?_
          show own_FinW p e below s _ _ _ (T50.setTop (mkF m 224 #[.val (.int p0), .val (.int p1), .val (.long q2), .second, .val (.int p3), .val (.int ((1 : Int32) + ((p0 &&& (2147483647 : Int32)) % (38 : Int32)))), .val (.int ((p1 &&& (2147483647 : Int32)) % (((1 : Int32) + ((p0 &&& (2147483647 : Int32)) % (38 : Int32))) + (1 : Int32)))), .val (.ref b1), .val (.long (own_P0 ((1 : Int32) + ((p0 &&& (2147483647 : Int32)) % (38 : Int32))))), .second, .val (.int (p3 &&& (7 : Int32))), .val (.long w39), .second, .val (.int (0 : Int32))] [(.int (1 : Int32))]))
          refine own_stepW (fun _ k => XS.goto X50.here hx rfl (pc0 := 224) (pc' := 228) rfl (hb hby at_224) (by decide) (by decide) k) ?_
          show own_FinW p e below s _ _ _ (T50.setTop (mkF m 228 #[.val (.int p0), .val (.int p1), .val (.long q2), .second, .val (.int p3), .val (.int ((1 : Int32) + ((p0 &&& (2147483647 : Int32)) % (38 : Int32)))), .val (.int ((p1 &&& (2147483647 : Int32)) % (((1 : Int32) + ((p0 &&& (2147483647 : Int32)) % (38 : Int32))) + (1 : Int32)))), .val (.ref b1), .val (.long (own_P0 ((1 : Int32) + ((p0 &&& (2147483647 : Int32)) % (38 : Int32))))), .second, .val (.int (p3 &&& (7 : Int32))), .val (.long w39), .second, .val (.int (0 : Int32))] [(.int (1 : Int32))]))
          exact own_retW X50 hlk hS6 e50 hk33 (v := some (.int (1 : Int32))) (fun h => by rw [Bd.returns] at h; cases h) (by decide) (by decide) (by show own_Q8 Z p0 p1 q2 p3 s_LONG_POWERS_OF_TEN k_s_LONG_POWERS_OF_TEN h0 n0 _ T50.heap _; rw [e50]; exact ⟨rfl, N50⟩) (fun fs hr => retN X50 hx (t := .boolean) Bd.returns (by simp) (hb hby at_228) hr)
    · intro J39
      show own_FinW p e below s _ _ _ (T33.setTop (mkF m 54 #[.val (.int p0), .val (.int p1), .val (.long q2), .second, .val (.int p3), .val (.int ((1 : Int32) + ((p0 &&& (2147483647 : Int32)) % (38 : Int32)))), .val (.int ((p1 &&& (2147483647 : Int32)) % (((1 : Int32) + ((p0 &&& (2147483647 : Int32)) % (38 : Int32))) + (1 : Int32)))), .val (.ref b1), .val (.long (own_P0 ((1 : Int32) + ((p0 &&& (2147483647 : Int32)) % (38 : Int32))))), .second, .val (.int (p3 &&& (7 : Int32))), .unset, .unset, .unset] []))
      refine own_stepW (fun _ k => XS.iload X33.here hx rfl (hb hby at_54) rfl k) ?_
      show own_FinW p e below s _ _ _ (T33.setTop (mkF m 56 #[.val (.int p0), .val (.int p1), .val (.long q2), .second, .val (.int p3), .val (.int ((1 : Int32) + ((p0 &&& (2147483647 : Int32)) % (38 : Int32)))), .val (.int ((p1 &&& (2147483647 : Int32)) % (((1 : Int32) + ((p0 &&& (2147483647 : Int32)) % (38 : Int32))) + (1 : Int32)))), .val (.ref b1), .val (.long (own_P0 ((1 : Int32) + ((p0 &&& (2147483647 : Int32)) % (38 : Int32))))), .second, .val (.int (p3 &&& (7 : Int32))), .unset, .unset, .unset] [(.int (p3 &&& (7 : Int32)))]))
      by_cases hc52 : (p3 &&& (7 : Int32)) = (0 : Int32)
      · refine own_stepW (fun _ k => XS.ifNo X33.here hx rfl (hb hby at_56) rfl ((if0 _ _).trans (teq hc52).2) k) ?_
        show own_FinW p e below s _ _ _ (T33.setTop (mkF m 59 #[.val (.int p0), .val (.int p1), .val (.long q2), .second, .val (.int p3), .val (.int ((1 : Int32) + ((p0 &&& (2147483647 : Int32)) % (38 : Int32)))), .val (.int ((p1 &&& (2147483647 : Int32)) % (((1 : Int32) + ((p0 &&& (2147483647 : Int32)) % (38 : Int32))) + (1 : Int32)))), .val (.ref b1), .val (.long (own_P0 ((1 : Int32) + ((p0 &&& (2147483647 : Int32)) % (38 : Int32))))), .second, .val (.int (p3 &&& (7 : Int32))), .unset, .unset, .unset] []))
        refine own_stepW (fun _ k => XS.lloadN X33.here hx rfl (hb hby at_59) rfl k) ?_
        show own_FinW p e below s _ _ _ (T33.setTop (mkF m 60 #[.val (.int p0), .val (.int p1), .val (.long q2), .second, .val (.int p3), .val (.int ((1 : Int32) + ((p0 &&& (2147483647 : Int32)) % (38 : Int32)))), .val (.int ((p1 &&& (2147483647 : Int32)) % (((1 : Int32) + ((p0 &&& (2147483647 : Int32)) % (38 : Int32))) + (1 : Int32)))), .val (.ref b1), .val (.long (own_P0 ((1 : Int32) + ((p0 &&& (2147483647 : Int32)) % (38 : Int32))))), .second, .val (.int (p3 &&& (7 : Int32))), .unset, .unset, .unset] [(.long q2)]))
        refine own_stepW (fun _ k => XS.lstore X33.here hx rfl (hb hby at_60) rfl (l' := #[.val (.int p0), .val (.int p1), .val (.long q2), .second, .val (.int p3), .val (.int ((1 : Int32) + ((p0 &&& (2147483647 : Int32)) % (38 : Int32)))), .val (.int ((p1 &&& (2147483647 : Int32)) % (((1 : Int32) + ((p0 &&& (2147483647 : Int32)) % (38 : Int32))) + (1 : Int32)))), .val (.ref b1), .val (.long (own_P0 ((1 : Int32) + ((p0 &&& (2147483647 : Int32)) % (38 : Int32))))), .second, .val (.int (p3 &&& (7 : Int32))), .val (.long q2), .second, .unset]) rfl k) ?_
        show own_FinW p e below s _ _ _ (T33.setTop (mkF m 62 #[.val (.int p0), .val (.int p1), .val (.long q2), .second, .val (.int p3), .val (.int ((1 : Int32) + ((p0 &&& (2147483647 : Int32)) % (38 : Int32)))), .val (.int ((p1 &&& (2147483647 : Int32)) % (((1 : Int32) + ((p0 &&& (2147483647 : Int32)) % (38 : Int32))) + (1 : Int32)))), .val (.ref b1), .val (.long (own_P0 ((1 : Int32) + ((p0 &&& (2147483647 : Int32)) % (38 : Int32))))), .second, .val (.int (p3 &&& (7 : Int32))), .val (.long q2), .second, .unset] []))
        refine own_stepW (fun _ k => XS.goto X33.here hx rfl (pc0 := 62) (pc' := 157) rfl (hb hby at_62) (by decide) (by decide) k) ?_
        show own_FinW p e below s _ _ _ (T33.setTop (mkF m 157 #[.val (.int p0), .val (.int p1), .val (.long q2), .second, .val (.int p3), .val (.int ((1 : Int32) + ((p0 &&& (2147483647 : Int32)) % (38 : Int32)))), .val (.int ((p1 &&& (2147483647 : Int32)) % (((1 : Int32) + ((p0 &&& (2147483647 : Int32)) % (38 : Int32))) + (1 : Int32)))), .val (.ref b1), .val (.long (own_P0 ((1 : Int32) + ((p0 &&& (2147483647 : Int32)) % (38 : Int32))))), .second, .val (.int (p3 &&& (7 : Int32))), .val (.long q2), .second, .unset] []))
        exact J39 _ X33 rfl q2 trivial
      · refine own_stepW (fun _ k => XS.ifYes X33.here hx rfl (pc0 := 56) (pc' := 65) rfl (hb hby at_56) rfl ((if0 _ _).trans (feq hc52).2) (by decide) (by decide) k) ?_
        show own_FinW p e below s _ _ _ (T33.setTop (mkF m 65 #[.val (.int p0), .val (.int p1), .val (.long q2), .second, .val (.int p3), .val (.int ((1 : Int32) + ((p0 &&& (2147483647 : Int32)) % (38 : Int32)))), .val (.int ((p1 &&& (2147483647 : Int32)) % (((1 : Int32) + ((p0 &&& (2147483647 : Int32)) % (38 : Int32))) + (1 : Int32)))), .val (.ref b1), .val (.long (own_P0 ((1 : Int32) + ((p0 &&& (2147483647 : Int32)) % (38 : Int32))))), .second, .val (.int (p3 &&& (7 : Int32))), .unset, .unset, .unset] []))
        refine own_stepW (fun _ k => XS.iload X33.here hx rfl (hb hby at_65) rfl k) ?_
        show own_FinW p e below s _ _ _ (T33.setTop (mkF m 67 #[.val (.int p0), .val (.int p1), .val (.long q2), .second, .val (.int p3), .val (.int ((1 : Int32) + ((p0 &&& (2147483647 : Int32)) % (38 : Int32)))), .val (.int ((p1 &&& (2147483647 : Int32)) % (((1 : Int32) + ((p0 &&& (2147483647 : Int32)) % (38 : Int32))) + (1 : Int32)))), .val (.ref b1), .val (.long (own_P0 ((1 : Int32) + ((p0 &&& (2147483647 : Int32)) % (38 : Int32))))), .second, .val (.int (p3 &&& (7 : Int32))), .unset, .unset, .unset] [(.int (p3 &&& (7 : Int32)))]))
        refine own_stepW (fun _ k => XS.iconst X33.here hx rfl (hb hby at_67) k) ?_
        show own_FinW p e below s _ _ _ (T33.setTop (mkF m 68 #[.val (.int p0), .val (.int p1), .val (.long q2), .second, .val (.int p3), .val (.int ((1 : Int32) + ((p0 &&& (2147483647 : Int32)) % (38 : Int32)))), .val (.int ((p1 &&& (2147483647 : Int32)) % (((1 : Int32) + ((p0 &&& (2147483647 : Int32)) % (38 : Int32))) + (1 : Int32)))), .val (.ref b1), .val (.long (own_P0 ((1 : Int32) + ((p0 &&& (2147483647 : Int32)) % (38 : Int32))))), .second, .val (.int (p3 &&& (7 : Int32))), .unset, .unset, .unset] [(.int (1 : Int32)), (.int (p3 &&& (7 : Int32)))]))
        by_cases hc53 : (p3 &&& (7 : Int32)) = (1 : Int32)
        · refine own_stepW (fun _ k => XS.icmpNo X33.here hx rfl (hb hby at_68) rfl (teq hc53).2 k) ?_
          show own_FinW p e below s _ _ _ (T33.setTop (mkF m 71 #[.val (.int p0), .val (.int p1), .val (.long q2), .second, .val (.int p3), .val (.int ((1 : Int32) + ((p0 &&& (2147483647 : Int32)) % (38 : Int32)))), .val (.int ((p1 &&& (2147483647 : Int32)) % (((1 : Int32) + ((p0 &&& (2147483647 : Int32)) % (38 : Int32))) + (1 : Int32)))), .val (.ref b1), .val (.long (own_P0 ((1 : Int32) + ((p0 &&& (2147483647 : Int32)) % (38 : Int32))))), .second, .val (.int (p3 &&& (7 : Int32))), .unset, .unset, .unset] []))
          refine own_stepW (fun _ k => XS.lloadN X33.here hx rfl (hb hby at_71) rfl k) ?_
          show own_FinW p e below s _ _ _ (T33.setTop (mkF m 72 #[.val (.int p0), .val (.int p1), .val (.long q2), .second, .val (.int p3), .val (.int ((1 : Int32) + ((p0 &&& (2147483647 : Int32)) % (38 : Int32)))), .val (.int ((p1 &&& (2147483647 : Int32)) % (((1 : Int32) + ((p0 &&& (2147483647 : Int32)) % (38 : Int32))) + (1 : Int32)))), .val (.ref b1), .val (.long (own_P0 ((1 : Int32) + ((p0 &&& (2147483647 : Int32)) % (38 : Int32))))), .second, .val (.int (p3 &&& (7 : Int32))), .unset, .unset, .unset] [(.long q2)]))
          refine own_stepW (fun _ k => XS.lload X33.here hx rfl (hb hby at_72) rfl k) ?_
          show own_FinW p e below s _ _ _ (T33.setTop (mkF m 74 #[.val (.int p0), .val (.int p1), .val (.long q2), .second, .val (.int p3), .val (.int ((1 : Int32) + ((p0 &&& (2147483647 : Int32)) % (38 : Int32)))), .val (.int ((p1 &&& (2147483647 : Int32)) % (((1 : Int32) + ((p0 &&& (2147483647 : Int32)) % (38 : Int32))) + (1 : Int32)))), .val (.ref b1), .val (.long (own_P0 ((1 : Int32) + ((p0 &&& (2147483647 : Int32)) % (38 : Int32))))), .second, .val (.int (p3 &&& (7 : Int32))), .unset, .unset, .unset] [(.long (own_P0 ((1 : Int32) + ((p0 &&& (2147483647 : Int32)) % (38 : Int32))))), (.long q2)]))
          refine own_stepW (fun _ k => XS.lrem X33.here hx rfl (hb hby at_74) rfl (own_pz _ (own_le p0 hc13).1 (own_le p0 hc13).2) k) ?_
          show own_FinW p e below s _ _ _ (T33.setTop (mkF m 75 #[.val (.int p0), .val (.int p1), .val (.long q2), .second, .val (.int p3), .val (.int ((1 : Int32) + ((p0 &&& (2147483647 : Int32)) % (38 : Int32)))), .val (.int ((p1 &&& (2147483647 : Int32)) % (((1 : Int32) + ((p0 &&& (2147483647 : Int32)) % (38 : Int32))) + (1 : Int32)))), .val (.ref b1), .val (.long (own_P0 ((1 : Int32) + ((p0 &&& (2147483647 : Int32)) % (38 : Int32))))), .second, .val (.int (p3 &&& (7 : Int32))), .unset, .unset, .unset] [(.long (q2 - (q2 / (own_P0 ((1 : Int32) + ((p0 &&& (2147483647 : Int32)) % (38 : Int32))))) * (own_P0 ((1 : Int32) + ((p0 &&& (2147483647 : Int32)) % (38 : Int32))))))]))
          refine own_stepW (fun _ k => XS.lstore X33.here hx rfl (hb hby at_75) rfl (l' := #[.val (.int p0), .val (.int p1), .val (.long q2), .second, .val (.int p3), .val (.int ((1 : Int32) + ((p0 &&& (2147483647 : Int32)) % (38 : Int32)))), .val (.int ((p1 &&& (2147483647 : Int32)) % (((1 : Int32) + ((p0 &&& (2147483647 : Int32)) % (38 : Int32))) + (1 : Int32)))), .val (.ref b1), .val (.long (own_P0 ((1 : Int32) + ((p0 &&& (2147483647 : Int32)) % (38 : Int32))))), .second, .val (.int (p3 &&& (7 : Int32))), .val (.long (q2 - (q2 / (own_P0 ((1 : Int32) + ((p0 &&& (2147483647 : Int32)) % (38 : Int32))))) * (own_P0 ((1 : Int32) + ((p0 &&& (2147483647 : Int32)) % (38 : Int32)))))), .second, .unset]) rfl k) ?_
          show own_FinW p e below s _ _ _ (T33.setTop (mkF m 77 #[.val (.int p0), .val (.int p1), .val (.long q2), .second, .val (.int p3), .val (.int ((1 : Int32) + ((p0 &&& (2147483647 : Int32)) % (38 : Int32)))), .val (.int ((p1 &&& (2147483647 : Int32)) % (((1 : Int32) + ((p0 &&& (2147483647 : Int32)) % (38 : Int32))) + (1 : Int32)))), .val (.ref b1), .val (.long (own_P0 ((1 : Int32) + ((p0 &&& (2147483647 : Int32)) % (38 : Int32))))), .second, .val (.int (p3 &&& (7 : Int32))), .val (.long (q2 - (q2 / (own_P0 ((1 : Int32) + ((p0 &&& (2147483647 : Int32)) % (38 : Int32))))) * (own_P0 ((1 : Int32) + ((p0 &&& (2147483647 : Int32)) % (38 : Int32)))))), .second, .unset] []))
          refine own_stepW (fun _ k => XS.goto X33.here hx rfl (pc0 := 77) (pc' := 157) rfl (hb hby at_77) (by decide) (by decide) k) ?_
          show own_FinW p e below s _ _ _ (T33.setTop (mkF m 157 #[.val (.int p0), .val (.int p1), .val (.long q2), .second, .val (.int p3), .val (.int ((1 : Int32) + ((p0 &&& (2147483647 : Int32)) % (38 : Int32)))), .val (.int ((p1 &&& (2147483647 : Int32)) % (((1 : Int32) + ((p0 &&& (2147483647 : Int32)) % (38 : Int32))) + (1 : Int32)))), .val (.ref b1), .val (.long (own_P0 ((1 : Int32) + ((p0 &&& (2147483647 : Int32)) % (38 : Int32))))), .second, .val (.int (p3 &&& (7 : Int32))), .val (.long (q2 - (q2 / (own_P0 ((1 : Int32) + ((p0 &&& (2147483647 : Int32)) % (38 : Int32))))) * (own_P0 ((1 : Int32) + ((p0 &&& (2147483647 : Int32)) % (38 : Int32)))))), .second, .unset] []))
          exact J39 _ X33 rfl (q2 - (q2 / (own_P0 ((1 : Int32) + ((p0 &&& (2147483647 : Int32)) % (38 : Int32))))) * (own_P0 ((1 : Int32) + ((p0 &&& (2147483647 : Int32)) % (38 : Int32))))) trivial
        · refine own_stepW (fun _ k => XS.icmpYes X33.here hx rfl (pc0 := 68) (pc' := 80) rfl (hb hby at_68) rfl (feq hc53).2 (by decide) (by decide) k) ?_
          show own_FinW p e below s _ _ _ (T33.setTop (mkF m 80 #[.val (.int p0), .val (.int p1), .val (.long q2), .second, .val (.int p3), .val (.int ((1 : Int32) + ((p0 &&& (2147483647 : Int32)) % (38 : Int32)))), .val (.int ((p1 &&& (2147483647 : Int32)) % (((1 : Int32) + ((p0 &&& (2147483647 : Int32)) % (38 : Int32))) + (1 : Int32)))), .val (.ref b1), .val (.long (own_P0 ((1 : Int32) + ((p0 &&& (2147483647 : Int32)) % (38 : Int32))))), .second, .val (.int (p3 &&& (7 : Int32))), .unset, .unset, .unset] []))
          refine own_stepW (fun _ k => XS.iload X33.here hx rfl (hb hby at_80) rfl k) ?_
          show own_FinW p e below s _ _ _ (T33.setTop (mkF m 82 #[.val (.int p0), .val (.int p1), .val (.long q2), .second, .val (.int p3), .val (.int ((1 : Int32) + ((p0 &&& (2147483647 : Int32)) % (38 : Int32)))), .val (.int ((p1 &&& (2147483647 : Int32)) % (((1 : Int32) + ((p0 &&& (2147483647 : Int32)) % (38 : Int32))) + (1 : Int32)))), .val (.ref b1), .val (.long (own_P0 ((1 : Int32) + ((p0 &&& (2147483647 : Int32)) % (38 : Int32))))), .second, .val (.int (p3 &&& (7 : Int32))), .unset, .unset, .unset] [(.int (p3 &&& (7 : Int32)))]))
          refine own_stepW (fun _ k => XS.iconst X33.here hx rfl (hb hby at_82) k) ?_
          show own_FinW p e below s _ _ _ (T33.setTop (mkF m 83 #[.val (.int p0), .val (.int p1), .val (.long q2), .second, .val (.int p3), .val (.int ((1 : Int32) + ((p0 &&& (2147483647 : Int32)) % (38 : Int32)))), .val (.int ((p1 &&& (2147483647 : Int32)) % (((1 : Int32) + ((p0 &&& (2147483647 : Int32)) % (38 : Int32))) + (1 : Int32)))), .val (.ref b1), .val (.long (own_P0 ((1 : Int32) + ((p0 &&& (2147483647 : Int32)) % (38 : Int32))))), .second, .val (.int (p3 &&& (7 : Int32))), .unset, .unset, .unset] [(.int (2 : Int32)), (.int (p3 &&& (7 : Int32)))]))
          by_cases hc54 : (p3 &&& (7 : Int32)) = (2 : Int32)
          · refine own_stepW (fun _ k => XS.icmpNo X33.here hx rfl (hb hby at_83) rfl (teq hc54).2 k) ?_
            show own_FinW p e below s _ _ _ (T33.setTop (mkF m 86 #[.val (.int p0), .val (.int p1), .val (.long q2), .second, .val (.int p3), .val (.int ((1 : Int32) + ((p0 &&& (2147483647 : Int32)) % (38 : Int32)))), .val (.int ((p1 &&& (2147483647 : Int32)) % (((1 : Int32) + ((p0 &&& (2147483647 : Int32)) % (38 : Int32))) + (1 : Int32)))), .val (.ref b1), .val (.long (own_P0 ((1 : Int32) + ((p0 &&& (2147483647 : Int32)) % (38 : Int32))))), .second, .val (.int (p3 &&& (7 : Int32))), .unset, .unset, .unset] []))
            refine own_stepW (fun _ k => XS.lload X33.here hx rfl (hb hby at_86) rfl k) ?_
            show own_FinW p e below s _ _ _ (T33.setTop (mkF m 88 #[.val (.int p0), .val (.int p1), .val (.long q2), .second, .val (.int p3), .val (.int ((1 : Int32) + ((p0 &&& (2147483647 : Int32)) % (38 : Int32)))), .val (.int ((p1 &&& (2147483647 : Int32)) % (((1 : Int32) + ((p0 &&& (2147483647 : Int32)) % (38 : Int32))) + (1 : Int32)))), .val (.ref b1), .val (.long (own_P0 ((1 : Int32) + ((p0 &&& (2147483647 : Int32)) % (38 : Int32))))), .second, .val (.int (p3 &&& (7 : Int32))), .unset, .unset, .unset] [(.long (own_P0 ((1 : Int32) + ((p0 &&& (2147483647 : Int32)) % (38 : Int32)))))]))
            refine own_stepW (fun _ k => XS.lconst X33.here hx rfl (hb hby at_88) k) ?_
            show own_FinW p e below s _ _ _ (T33.setTop (mkF m 89 #[.val (.int p0), .val (.int p1), .val (.long q2), .second, .val (.int p3), .val (.int ((1 : Int32) + ((p0 &&& (2147483647 : Int32)) % (38 : Int32)))), .val (.int ((p1 &&& (2147483647 : Int32)) % (((1 : Int32) + ((p0 &&& (2147483647 : Int32)) % (38 : Int32))) + (1 : Int32)))), .val (.ref b1), .val (.long (own_P0 ((1 : Int32) + ((p0 &&& (2147483647 : Int32)) % (38 : Int32))))), .second, .val (.int (p3 &&& (7 : Int32))), .unset, .unset, .unset] [(.long (1 : Int64)), (.long (own_P0 ((1 : Int32) + ((p0 &&& (2147483647 : Int32)) % (38 : Int32)))))]))
            refine own_stepW (fun _ k => XS.lsub X33.here hx rfl (hb hby at_89) rfl k) ?_
            show own_FinW p e below s _ _ _ (T33.setTop (mkF m 90 #[.val (.int p0), .val (.int p1), .val (.long q2), .second, .val (.int p3), .val (.int ((1 : Int32) + ((p0 &&& (2147483647 : Int32)) % (38 : Int32)))), .val (.int ((p1 &&& (2147483647 : Int32)) % (((1 : Int32) + ((p0 &&& (2147483647 : Int32)) % (38 : Int32))) + (1 : Int32)))), .val (.ref b1), .val (.long (own_P0 ((1 : Int32) + ((p0 &&& (2147483647 : Int32)) % (38 : Int32))))), .second, .val (.int (p3 &&& (7 : Int32))), .unset, .unset, .unset] [(.long ((own_P0 ((1 : Int32) + ((p0 &&& (2147483647 : Int32)) % (38 : Int32)))) - (1 : Int64)))]))
            refine own_stepW (fun _ k => XS.lstore X33.here hx rfl (hb hby at_90) rfl (l' := #[.val (.int p0), .val (.int p1), .val (.long q2), .second, .val (.int p3), .val (.int ((1 : Int32) + ((p0 &&& (2147483647 : Int32)) % (38 : Int32)))), .val (.int ((p1 &&& (2147483647 : Int32)) % (((1 : Int32) + ((p0 &&& (2147483647 : Int32)) % (38 : Int32))) + (1 : Int32)))), .val (.ref b1), .val (.long (own_P0 ((1 : Int32) + ((p0 &&& (2147483647 : Int32)) % (38 : Int32))))), .second, .val (.int (p3 &&& (7 : Int32))), .val (.long ((own_P0 ((1 : Int32) + ((p0 &&& (2147483647 : Int32)) % (38 : Int32)))) - (1 : Int64))), .second, .unset]) rfl k) ?_
            show own_FinW p e below s _ _ _ (T33.setTop (mkF m 92 #[.val (.int p0), .val (.int p1), .val (.long q2), .second, .val (.int p3), .val (.int ((1 : Int32) + ((p0 &&& (2147483647 : Int32)) % (38 : Int32)))), .val (.int ((p1 &&& (2147483647 : Int32)) % (((1 : Int32) + ((p0 &&& (2147483647 : Int32)) % (38 : Int32))) + (1 : Int32)))), .val (.ref b1), .val (.long (own_P0 ((1 : Int32) + ((p0 &&& (2147483647 : Int32)) % (38 : Int32))))), .second, .val (.int (p3 &&& (7 : Int32))), .val (.long ((own_P0 ((1 : Int32) + ((p0 &&& (2147483647 : Int32)) % (38 : Int32)))) - (1 : Int64))), .second, .unset] []))
            refine own_stepW (fun _ k => XS.goto X33.here hx rfl (pc0 := 92) (pc' := 157) rfl (hb hby at_92) (by decide) (by decide) k) ?_
            show own_FinW p e below s _ _ _ (T33.setTop (mkF m 157 #[.val (.int p0), .val (.int p1), .val (.long q2), .second, .val (.int p3), .val (.int ((1 : Int32) + ((p0 &&& (2147483647 : Int32)) % (38 : Int32)))), .val (.int ((p1 &&& (2147483647 : Int32)) % (((1 : Int32) + ((p0 &&& (2147483647 : Int32)) % (38 : Int32))) + (1 : Int32)))), .val (.ref b1), .val (.long (own_P0 ((1 : Int32) + ((p0 &&& (2147483647 : Int32)) % (38 : Int32))))), .second, .val (.int (p3 &&& (7 : Int32))), .val (.long ((own_P0 ((1 : Int32) + ((p0 &&& (2147483647 : Int32)) % (38 : Int32)))) - (1 : Int64))), .second, .unset] []))
            exact J39 _ X33 rfl ((own_P0 ((1 : Int32) + ((p0 &&& (2147483647 : Int32)) % (38 : Int32)))) - (1 : Int64)) trivial
          · refine own_stepW (fun _ k => XS.icmpYes X33.here hx rfl (pc0 := 83) (pc' := 95) rfl (hb hby at_83) rfl (feq hc54).2 (by decide) (by decide) k) ?_
            show own_FinW p e below s _ _ _ (T33.setTop (mkF m 95 #[.val (.int p0), .val (.int p1), .val (.long q2), .second, .val (.int p3), .val (.int ((1 : Int32) + ((p0 &&& (2147483647 : Int32)) % (38 : Int32)))), .val (.int ((p1 &&& (2147483647 : Int32)) % (((1 : Int32) + ((p0 &&& (2147483647 : Int32)) % (38 : Int32))) + (1 : Int32)))), .val (.ref b1), .val (.long (own_P0 ((1 : Int32) + ((p0 &&& (2147483647 : Int32)) % (38 : Int32))))), .second, .val (.int (p3 &&& (7 : Int32))), .unset, .unset, .unset] []))
            refine own_stepW (fun _ k => XS.iload X33.here hx rfl (hb hby at_95) rfl k) ?_
            show own_FinW p e below s _ _ _ (T33.setTop (mkF m 97 #[.val (.int p0), .val (.int p1), .val (.long q2), .second, .val (.int p3), .val (.int ((1 : Int32) + ((p0 &&& (2147483647 : Int32)) % (38 : Int32)))), .val (.int ((p1 &&& (2147483647 : Int32)) % (((1 : Int32) + ((p0 &&& (2147483647 : Int32)) % (38 : Int32))) + (1 : Int32)))), .val (.ref b1), .val (.long (own_P0 ((1 : Int32) + ((p0 &&& (2147483647 : Int32)) % (38 : Int32))))), .second, .val (.int (p3 &&& (7 : Int32))), .unset, .unset, .unset] [(.int (p3 &&& (7 : Int32)))]))
            refine own_stepW (fun _ k => XS.iconst X33.here hx rfl (hb hby at_97) k) ?_
            show own_FinW p e below s _ _ _ (T33.setTop (mkF m 98 #[.val (.int p0), .val (.int p1), .val (.long q2), .second, .val (.int p3), .val (.int ((1 : Int32) + ((p0 &&& (2147483647 : Int32)) % (38 : Int32)))), .val (.int ((p1 &&& (2147483647 : Int32)) % (((1 : Int32) + ((p0 &&& (2147483647 : Int32)) % (38 : Int32))) + (1 : Int32)))), .val (.ref b1), .val (.long (own_P0 ((1 : Int32) + ((p0 &&& (2147483647 : Int32)) % (38 : Int32))))), .second, .val (.int (p3 &&& (7 : Int32))), .unset, .unset, .unset] [(.int (3 : Int32)), (.int (p3 &&& (7 : Int32)))]))
            by_cases hc55 : (p3 &&& (7 : Int32)) = (3 : Int32)
            · refine own_stepW (fun _ k => XS.icmpNo X33.here hx rfl (hb hby at_98) rfl (teq hc55).2 k) ?_
              show own_FinW p e below s _ _ _ (T33.setTop (mkF m 101 #[.val (.int p0), .val (.int p1), .val (.long q2), .second, .val (.int p3), .val (.int ((1 : Int32) + ((p0 &&& (2147483647 : Int32)) % (38 : Int32)))), .val (.int ((p1 &&& (2147483647 : Int32)) % (((1 : Int32) + ((p0 &&& (2147483647 : Int32)) % (38 : Int32))) + (1 : Int32)))), .val (.ref b1), .val (.long (own_P0 ((1 : Int32) + ((p0 &&& (2147483647 : Int32)) % (38 : Int32))))), .second, .val (.int (p3 &&& (7 : Int32))), .unset, .unset, .unset] []))
              refine own_stepW (fun _ k => XS.lload X33.here hx rfl (hb hby at_101) rfl k) ?_
              show own_FinW p e below s _ _ _ (T33.setTop (mkF m 103 #[.val (.int p0), .val (.int p1), .val (.long q2), .second, .val (.int p3), .val (.int ((1 : Int32) + ((p0 &&& (2147483647 : Int32)) % (38 : Int32)))), .val (.int ((p1 &&& (2147483647 : Int32)) % (((1 : Int32) + ((p0 &&& (2147483647 : Int32)) % (38 : Int32))) + (1 : Int32)))), .val (.ref b1), .val (.long (own_P0 ((1 : Int32) + ((p0 &&& (2147483647 : Int32)) % (38 : Int32))))), .second, .val (.int (p3 &&& (7 : Int32))), .unset, .unset, .unset] [(.long (own_P0 ((1 : Int32) + ((p0 &&& (2147483647 : Int32)) % (38 : Int32)))))]))
              refine own_stepW (fun _ k => XS.lstore X33.here hx rfl (hb hby at_103) rfl (l' := #[.val (.int p0), .val (.int p1), .val (.long q2), .second, .val (.int p3), .val (.int ((1 : Int32) + ((p0 &&& (2147483647 : Int32)) % (38 : Int32)))), .val (.int ((p1 &&& (2147483647 : Int32)) % (((1 : Int32) + ((p0 &&& (2147483647 : Int32)) % (38 : Int32))) + (1 : Int32)))), .val (.ref b1), .val (.long (own_P0 ((1 : Int32) + ((p0 &&& (2147483647 : Int32)) % (38 : Int32))))), .second, .val (.int (p3 &&& (7 : Int32))), .val (.long (own_P0 ((1 : Int32) + ((p0 &&& (2147483647 : Int32)) % (38 : Int32))))), .second, .unset]) rfl k) ?_
              show own_FinW p e below s _ _ _ (T33.setTop (mkF m 105 #[.val (.int p0), .val (.int p1), .val (.long q2), .second, .val (.int p3), .val (.int ((1 : Int32) + ((p0 &&& (2147483647 : Int32)) % (38 : Int32)))), .val (.int ((p1 &&& (2147483647 : Int32)) % (((1 : Int32) + ((p0 &&& (2147483647 : Int32)) % (38 : Int32))) + (1 : Int32)))), .val (.ref b1), .val (.long (own_P0 ((1 : Int32) + ((p0 &&& (2147483647 : Int32)) % (38 : Int32))))), .second, .val (.int (p3 &&& (7 : Int32))), .val (.long (own_P0 ((1 : Int32) + ((p0 &&& (2147483647 : Int32)) % (38 : Int32))))), .second, .unset] []))
              refine own_stepW (fun _ k => XS.goto X33.here hx rfl (pc0 := 105) (pc' := 157) rfl (hb hby at_105) (by decide) (by decide) k) ?_
              show own_FinW p e below s _ _ _ (T33.setTop (mkF m 157 #[.val (.int p0), .val (.int p1), .val (.long q2), .second, .val (.int p3), .val (.int ((1 : Int32) + ((p0 &&& (2147483647 : Int32)) % (38 : Int32)))), .val (.int ((p1 &&& (2147483647 : Int32)) % (((1 : Int32) + ((p0 &&& (2147483647 : Int32)) % (38 : Int32))) + (1 : Int32)))), .val (.ref b1), .val (.long (own_P0 ((1 : Int32) + ((p0 &&& (2147483647 : Int32)) % (38 : Int32))))), .second, .val (.int (p3 &&& (7 : Int32))), .val (.long (own_P0 ((1 : Int32) + ((p0 &&& (2147483647 : Int32)) % (38 : Int32))))), .second, .unset] []))
              exact J39 _ X33 rfl (own_P0 ((1 : Int32) + ((p0 &&& (2147483647 : Int32)) % (38 : Int32)))) trivial
            · refine own_stepW (fun _ k => XS.icmpYes X33.here hx rfl (pc0 := 98) (pc' := 108) rfl (hb hby at_98) rfl (feq hc55).2 (by decide) (by decide) k) ?_
              show own_FinW p e below s _ _ _ (T33.setTop (mkF m 108 #[.val (.int p0), .val (.int p1), .val (.long q2), .second, .val (.int p3), .val (.int ((1 : Int32) + ((p0 &&& (2147483647 : Int32)) % (38 : Int32)))), .val (.int ((p1 &&& (2147483647 : Int32)) % (((1 : Int32) + ((p0 &&& (2147483647 : Int32)) % (38 : Int32))) + (1 : Int32)))), .val (.ref b1), .val (.long (own_P0 ((1 : Int32) + ((p0 &&& (2147483647 : Int32)) % (38 : Int32))))), .second, .val (.int (p3 &&& (7 : Int32))), .unset, .unset, .unset] []))
              refine own_stepW (fun _ k => XS.iload X33.here hx rfl (hb hby at_108) rfl k) ?_
              show own_FinW p e below s _ _ _ (T33.setTop (mkF m 110 #[.val (.int p0), .val (.int p1), .val (.long q2), .second, .val (.int p3), .val (.int ((1 : Int32) + ((p0 &&& (2147483647 : Int32)) % (38 : Int32)))), .val (.int ((p1 &&& (2147483647 : Int32)) % (((1 : Int32) + ((p0 &&& (2147483647 : Int32)) % (38 : Int32))) + (1 : Int32)))), .val (.ref b1), .val (.long (own_P0 ((1 : Int32) + ((p0 &&& (2147483647 : Int32)) % (38 : Int32))))), .second, .val (.int (p3 &&& (7 : Int32))), .unset, .unset, .unset] [(.int (p3 &&& (7 : Int32)))]))
              refine own_stepW (fun _ k => XS.iconst X33.here hx rfl (hb hby at_110) k) ?_
              show own_FinW p e below s _ _ _ (T33.setTop (mkF m 111 #[.val (.int p0), .val (.int p1), .val (.long q2), .second, .val (.int p3), .val (.int ((1 : Int32) + ((p0 &&& (2147483647 : Int32)) % (38 : Int32)))), .val (.int ((p1 &&& (2147483647 : Int32)) % (((1 : Int32) + ((p0 &&& (2147483647 : Int32)) % (38 : Int32))) + (1 : Int32)))), .val (.ref b1), .val (.long (own_P0 ((1 : Int32) + ((p0 &&& (2147483647 : Int32)) % (38 : Int32))))), .second, .val (.int (p3 &&& (7 : Int32))), .unset, .unset, .unset] [(.int (4 : Int32)), (.int (p3 &&& (7 : Int32)))]))
              by_cases hc56 : (p3 &&& (7 : Int32)) = (4 : Int32)
              · refine own_stepW (fun _ k => XS.icmpNo X33.here hx rfl (hb hby at_111) rfl (teq hc56).2 k) ?_
                show own_FinW p e below s _ _ _ (T33.setTop (mkF m 114 #[.val (.int p0), .val (.int p1), .val (.long q2), .second, .val (.int p3), .val (.int ((1 : Int32) + ((p0 &&& (2147483647 : Int32)) % (38 : Int32)))), .val (.int ((p1 &&& (2147483647 : Int32)) % (((1 : Int32) + ((p0 &&& (2147483647 : Int32)) % (38 : Int32))) + (1 : Int32)))), .val (.ref b1), .val (.long (own_P0 ((1 : Int32) + ((p0 &&& (2147483647 : Int32)) % (38 : Int32))))), .second, .val (.int (p3 &&& (7 : Int32))), .unset, .unset, .unset] []))
                refine own_stepW (fun _ k => XS.lconst X33.here hx rfl (hb hby at_114) k) ?_
                show own_FinW p e below s _ _ _ (T33.setTop (mkF m 115 #[.val (.int p0), .val (.int p1), .val (.long q2), .second, .val (.int p3), .val (.int ((1 : Int32) + ((p0 &&& (2147483647 : Int32)) % (38 : Int32)))), .val (.int ((p1 &&& (2147483647 : Int32)) % (((1 : Int32) + ((p0 &&& (2147483647 : Int32)) % (38 : Int32))) + (1 : Int32)))), .val (.ref b1), .val (.long (own_P0 ((1 : Int32) + ((p0 &&& (2147483647 : Int32)) % (38 : Int32))))), .second, .val (.int (p3 &&& (7 : Int32))), .unset, .unset, .unset] [(.long (1 : Int64))]))
                refine own_stepW (fun _ k => XS.lload X33.here hx rfl (hb hby at_115) rfl k) ?_
                show own_FinW p e below s _ _ _ (T33.setTop (mkF m 117 #[.val (.int p0), .val (.int p1), .val (.long q2), .second, .val (.int p3), .val (.int ((1 : Int32) + ((p0 &&& (2147483647 : Int32)) % (38 : Int32)))), .val (.int ((p1 &&& (2147483647 : Int32)) % (((1 : Int32) + ((p0 &&& (2147483647 : Int32)) % (38 : Int32))) + (1 : Int32)))), .val (.ref b1), .val (.long (own_P0 ((1 : Int32) + ((p0 &&& (2147483647 : Int32)) % (38 : Int32))))), .second, .val (.int (p3 &&& (7 : Int32))), .unset, .unset, .unset] [(.long (own_P0 ((1 : Int32) + ((p0 &&& (2147483647 : Int32)) % (38 : Int32))))), (.long (1 : Int64))]))
                refine own_stepW (fun _ k => XS.lsub X33.here hx rfl (hb hby at_117) rfl k) ?_
                show own_FinW p e below s _ _ _ (T33.setTop (mkF m 118 #[.val (.int p0), .val (.int p1), .val (.long q2), .second, .val (.int p3), .val (.int ((1 : Int32) + ((p0 &&& (2147483647 : Int32)) % (38 : Int32)))), .val (.int ((p1 &&& (2147483647 : Int32)) % (((1 : Int32) + ((p0 &&& (2147483647 : Int32)) % (38 : Int32))) + (1 : Int32)))), .val (.ref b1), .val (.long (own_P0 ((1 : Int32) + ((p0 &&& (2147483647 : Int32)) % (38 : Int32))))), .second, .val (.int (p3 &&& (7 : Int32))), .unset, .unset, .unset] [(.long ((1 : Int64) - (own_P0 ((1 : Int32) + ((p0 &&& (2147483647 : Int32)) % (38 : Int32))))))]))
                refine own_stepW (fun _ k => XS.lstore X33.here hx rfl (hb hby at_118) rfl (l' := #[.val (.int p0), .val (.int p1), .val (.long q2), .second, .val (.int p3), .val (.int ((1 : Int32) + ((p0 &&& (2147483647 : Int32)) % (38 : Int32)))), .val (.int ((p1 &&& (2147483647 : Int32)) % (((1 : Int32) + ((p0 &&& (2147483647 : Int32)) % (38 : Int32))) + (1 : Int32)))), .val (.ref b1), .val (.long (own_P0 ((1 : Int32) + ((p0 &&& (2147483647 : Int32)) % (38 : Int32))))), .second, .val (.int (p3 &&& (7 : Int32))), .val (.long ((1 : Int64) - (own_P0 ((1 : Int32) + ((p0 &&& (2147483647 : Int32)) % (38 : Int32)))))), .second, .unset]) rfl k) ?_
                show own_FinW p e below s _ _ _ (T33.setTop (mkF m 120 #[.val (.int p0), .val (.int p1), .val (.long q2), .second, .val (.int p3), .val (.int ((1 : Int32) + ((p0 &&& (2147483647 : Int32)) % (38 : Int32)))), .val (.int ((p1 &&& (2147483647 : Int32)) % (((1 : Int32) + ((p0 &&& (2147483647 : Int32)) % (38 : Int32))) + (1 : Int32)))), .val (.ref b1), .val (.long (own_P0 ((1 : Int32) + ((p0 &&& (2147483647 : Int32)) % (38 : Int32))))), .second, .val (.int (p3 &&& (7 : Int32))), .val (.long ((1 : Int64) - (own_P0 ((1 : Int32) + ((p0 &&& (2147483647 : Int32)) % (38 : Int32)))))), .second, .unset] []))
                refine own_stepW (fun _ k => XS.goto X33.here hx rfl (pc0 := 120) (pc' := 157) rfl (hb hby at_120) (by decide) (by decide) k) ?_
                show own_FinW p e below s _ _ _ (T33.setTop (mkF m 157 #[.val (.int p0), .val (.int p1), .val (.long q2), .second, .val (.int p3), .val (.int ((1 : Int32) + ((p0 &&& (2147483647 : Int32)) % (38 : Int32)))), .val (.int ((p1 &&& (2147483647 : Int32)) % (((1 : Int32) + ((p0 &&& (2147483647 : Int32)) % (38 : Int32))) + (1 : Int32)))), .val (.ref b1), .val (.long (own_P0 ((1 : Int32) + ((p0 &&& (2147483647 : Int32)) % (38 : Int32))))), .second, .val (.int (p3 &&& (7 : Int32))), .val (.long ((1 : Int64) - (own_P0 ((1 : Int32) + ((p0 &&& (2147483647 : Int32)) % (38 : Int32)))))), .second, .unset] []))
                exact J39 _ X33 rfl ((1 : Int64) - (own_P0 ((1 : Int32) + ((p0 &&& (2147483647 : Int32)) % (38 : Int32))))) trivial
              · refine own_stepW (fun _ k => XS.icmpYes X33.here hx rfl (pc0 := 111) (pc' := 123) rfl (hb hby at_111) rfl (feq hc56).2 (by decide) (by decide) k) ?_
                show own_FinW p e below s _ _ _ (T33.setTop (mkF m 123 #[.val (.int p0), .val (.int p1), .val (.long q2), .second, .val (.int p3), .val (.int ((1 : Int32) + ((p0 &&& (2147483647 : Int32)) % (38 : Int32)))), .val (.int ((p1 &&& (2147483647 : Int32)) % (((1 : Int32) + ((p0 &&& (2147483647 : Int32)) % (38 : Int32))) + (1 : Int32)))), .val (.ref b1), .val (.long (own_P0 ((1 : Int32) + ((p0 &&& (2147483647 : Int32)) % (38 : Int32))))), .second, .val (.int (p3 &&& (7 : Int32))), .unset, .unset, .unset] []))
                refine own_stepW (fun _ k => XS.iload X33.here hx rfl (hb hby at_123) rfl k) ?_
                show own_FinW p e below s _ _ _ (T33.setTop (mkF m 125 #[.val (.int p0), .val (.int p1), .val (.long q2), .second, .val (.int p3), .val (.int ((1 : Int32) + ((p0 &&& (2147483647 : Int32)) % (38 : Int32)))), .val (.int ((p1 &&& (2147483647 : Int32)) % (((1 : Int32) + ((p0 &&& (2147483647 : Int32)) % (38 : Int32))) + (1 : Int32)))), .val (.ref b1), .val (.long (own_P0 ((1 : Int32) + ((p0 &&& (2147483647 : Int32)) % (38 : Int32))))), .second, .val (.int (p3 &&& (7 : Int32))), .unset, .unset, .unset] [(.int (p3 &&& (7 : Int32)))]))
                refine own_stepW (fun _ k => XS.iconst X33.here hx rfl (hb hby at_125) k) ?_
                show own_FinW p e below s _ _ _ (T33.setTop (mkF m 126 #[.val (.int p0), .val (.int p1), .val (.long q2), .second, .val (.int p3), .val (.int ((1 : Int32) + ((p0 &&& (2147483647 : Int32)) % (38 : Int32)))), .val (.int ((p1 &&& (2147483647 : Int32)) % (((1 : Int32) + ((p0 &&& (2147483647 : Int32)) % (38 : Int32))) + (1 : Int32)))), .val (.ref b1), .val (.long (own_P0 ((1 : Int32) + ((p0 &&& (2147483647 : Int32)) % (38 : Int32))))), .second, .val (.int (p3 &&& (7 : Int32))), .unset, .unset, .unset] [(.int (5 : Int32)), (.int (p3 &&& (7 : Int32)))]))
                by_cases hc57 : (p3 &&& (7 : Int32)) = (5 : Int32)
                · refine own_stepW (fun _ k => XS.icmpNo X33.here hx rfl (hb hby at_126) rfl (teq hc57).2 k) ?_
                  show own_FinW p e below s _ _ _ (T33.setTop (mkF m 129 #[.val (.int p0), .val (.int p1), .val (.long q2), .second, .val (.int p3), .val (.int ((1 : Int32) + ((p0 &&& (2147483647 : Int32)) % (38 : Int32)))), .val (.int ((p1 &&& (2147483647 : Int32)) % (((1 : Int32) + ((p0 &&& (2147483647 : Int32)) % (38 : Int32))) + (1 : Int32)))), .val (.ref b1), .val (.long (own_P0 ((1 : Int32) + ((p0 &&& (2147483647 : Int32)) % (38 : Int32))))), .second, .val (.int (p3 &&& (7 : Int32))), .unset, .unset, .unset] []))
                  refine own_stepW (fun _ k => XS.lload X33.here hx rfl (hb hby at_129) rfl k) ?_
                  show own_FinW p e below s _ _ _ (T33.setTop (mkF m 131 #[.val (.int p0), .val (.int p1), .val (.long q2), .second, .val (.int p3), .val (.int ((1 : Int32) + ((p0 &&& (2147483647 : Int32)) % (38 : Int32)))), .val (.int ((p1 &&& (2147483647 : Int32)) % (((1 : Int32) + ((p0 &&& (2147483647 : Int32)) % (38 : Int32))) + (1 : Int32)))), .val (.ref b1), .val (.long (own_P0 ((1 : Int32) + ((p0 &&& (2147483647 : Int32)) % (38 : Int32))))), .second, .val (.int (p3 &&& (7 : Int32))), .unset, .unset, .unset] [(.long (own_P0 ((1 : Int32) + ((p0 &&& (2147483647 : Int32)) % (38 : Int32)))))]))
                  refine own_stepW (fun _ k => XS.lneg X33.here hx rfl (hb hby at_131) rfl k) ?_
                  show own_FinW p e below s _ _ _ (T33.setTop (mkF m 132 #[.val (.int p0), .val (.int p1), .val (.long q2), .second, .val (.int p3), .val (.int ((1 : Int32) + ((p0 &&& (2147483647 : Int32)) % (38 : Int32)))), .val (.int ((p1 &&& (2147483647 : Int32)) % (((1 : Int32) + ((p0 &&& (2147483647 : Int32)) % (38 : Int32))) + (1 : Int32)))), .val (.ref b1), .val (.long (own_P0 ((1 : Int32) + ((p0 &&& (2147483647 : Int32)) % (38 : Int32))))), .second, .val (.int (p3 &&& (7 : Int32))), .unset, .unset, .unset] [(.long (-(own_P0 ((1 : Int32) + ((p0 &&& (2147483647 : Int32)) % (38 : Int32))))))]))
                  refine own_stepW (fun _ k => XS.lstore X33.here hx rfl (hb hby at_132) rfl (l' := #[.val (.int p0), .val (.int p1), .val (.long q2), .second, .val (.int p3), .val (.int ((1 : Int32) + ((p0 &&& (2147483647 : Int32)) % (38 : Int32)))), .val (.int ((p1 &&& (2147483647 : Int32)) % (((1 : Int32) + ((p0 &&& (2147483647 : Int32)) % (38 : Int32))) + (1 : Int32)))), .val (.ref b1), .val (.long (own_P0 ((1 : Int32) + ((p0 &&& (2147483647 : Int32)) % (38 : Int32))))), .second, .val (.int (p3 &&& (7 : Int32))), .val (.long (-(own_P0 ((1 : Int32) + ((p0 &&& (2147483647 : Int32)) % (38 : Int32)))))), .second, .unset]) rfl k) ?_
                  show own_FinW p e below s _ _ _ (T33.setTop (mkF m 134 #[.val (.int p0), .val (.int p1), .val (.long q2), .second, .val (.int p3), .val (.int ((1 : Int32) + ((p0 &&& (2147483647 : Int32)) % (38 : Int32)))), .val (.int ((p1 &&& (2147483647 : Int32)) % (((1 : Int32) + ((p0 &&& (2147483647 : Int32)) % (38 : Int32))) + (1 : Int32)))), .val (.ref b1), .val (.long (own_P0 ((1 : Int32) + ((p0 &&& (2147483647 : Int32)) % (38 : Int32))))), .second, .val (.int (p3 &&& (7 : Int32))), .val (.long (-(own_P0 ((1 : Int32) + ((p0 &&& (2147483647 : Int32)) % (38 : Int32)))))), .second, .unset] []))
                  refine own_stepW (fun _ k => XS.goto X33.here hx rfl (pc0 := 134) (pc' := 157) rfl (hb hby at_134) (by decide) (by decide) k) ?_
                  show own_FinW p e below s _ _ _ (T33.setTop (mkF m 157 #[.val (.int p0), .val (.int p1), .val (.long q2), .second, .val (.int p3), .val (.int ((1 : Int32) + ((p0 &&& (2147483647 : Int32)) % (38 : Int32)))), .val (.int ((p1 &&& (2147483647 : Int32)) % (((1 : Int32) + ((p0 &&& (2147483647 : Int32)) % (38 : Int32))) + (1 : Int32)))), .val (.ref b1), .val (.long (own_P0 ((1 : Int32) + ((p0 &&& (2147483647 : Int32)) % (38 : Int32))))), .second, .val (.int (p3 &&& (7 : Int32))), .val (.long (-(own_P0 ((1 : Int32) + ((p0 &&& (2147483647 : Int32)) % (38 : Int32)))))), .second, .unset] []))
                  exact J39 _ X33 rfl (-(own_P0 ((1 : Int32) + ((p0 &&& (2147483647 : Int32)) % (38 : Int32))))) trivial
                · refine own_stepW (fun _ k => XS.icmpYes X33.here hx rfl (pc0 := 126) (pc' := 137) rfl (hb hby at_126) rfl (feq hc57).2 (by decide) (by decide) k) ?_
                  show own_FinW p e below s _ _ _ (T33.setTop (mkF m 137 #[.val (.int p0), .val (.int p1), .val (.long q2), .second, .val (.int p3), .val (.int ((1 : Int32) + ((p0 &&& (2147483647 : Int32)) % (38 : Int32)))), .val (.int ((p1 &&& (2147483647 : Int32)) % (((1 : Int32) + ((p0 &&& (2147483647 : Int32)) % (38 : Int32))) + (1 : Int32)))), .val (.ref b1), .val (.long (own_P0 ((1 : Int32) + ((p0 &&& (2147483647 : Int32)) % (38 : Int32))))), .second, .val (.int (p3 &&& (7 : Int32))), .unset, .unset, .unset] []))
                  refine own_stepW (fun _ k => XS.iload X33.here hx rfl (hb hby at_137) rfl k) ?_
                  show own_FinW p e below s _ _ _ (T33.setTop (mkF m 139 #[.val (.int p0), .val (.int p1), .val (.long q2), .second, .val (.int p3), .val (.int ((1 : Int32) + ((p0 &&& (2147483647 : Int32)) % (38 : Int32)))), .val (.int ((p1 &&& (2147483647 : Int32)) % (((1 : Int32) + ((p0 &&& (2147483647 : Int32)) % (38 : Int32))) + (1 : Int32)))), .val (.ref b1), .val (.long (own_P0 ((1 : Int32) + ((p0 &&& (2147483647 : Int32)) % (38 : Int32))))), .second, .val (.int (p3 &&& (7 : Int32))), .unset, .unset, .unset] [(.int (p3 &&& (7 : Int32)))]))
                  refine own_stepW (fun _ k => XS.bipush X33.here hx rfl (hb hby at_139) k) ?_
                  show own_FinW p e below s _ _ _ (T33.setTop (mkF m 141 #[.val (.int p0), .val (.int p1), .val (.long q2), .second, .val (.int p3), .val (.int ((1 : Int32) + ((p0 &&& (2147483647 : Int32)) % (38 : Int32)))), .val (.int ((p1 &&& (2147483647 : Int32)) % (((1 : Int32) + ((p0 &&& (2147483647 : Int32)) % (38 : Int32))) + (1 : Int32)))), .val (.ref b1), .val (.long (own_P0 ((1 : Int32) + ((p0 &&& (2147483647 : Int32)) % (38 : Int32))))), .second, .val (.int (p3 &&& (7 : Int32))), .unset, .unset, .unset] [(.int (6 : Int32)), (.int (p3 &&& (7 : Int32)))]))
                  by_cases hc58 : (p3 &&& (7 : Int32)) = (6 : Int32)
                  · refine own_stepW (fun _ k => XS.icmpNo X33.here hx rfl (hb hby at_141) rfl (teq hc58).2 k) ?_
                    show own_FinW p e below s _ _ _ (T33.setTop (mkF m 144 #[.val (.int p0), .val (.int p1), .val (.long q2), .second, .val (.int p3), .val (.int ((1 : Int32) + ((p0 &&& (2147483647 : Int32)) % (38 : Int32)))), .val (.int ((p1 &&& (2147483647 : Int32)) % (((1 : Int32) + ((p0 &&& (2147483647 : Int32)) % (38 : Int32))) + (1 : Int32)))), .val (.ref b1), .val (.long (own_P0 ((1 : Int32) + ((p0 &&& (2147483647 : Int32)) % (38 : Int32))))), .second, .val (.int (p3 &&& (7 : Int32))), .unset, .unset, .unset] []))
                    refine own_stepW (fun _ k => X33.ldc2Long hx hown6 (mvT hZ6 (own_w hw 67 rfl)) (g := (mkF m 144 #[.val (.int p0), .val (.int p1), .val (.long q2), .second, .val (.int p3), .val (.int ((1 : Int32) + ((p0 &&& (2147483647 : Int32)) % (38 : Int32)))), .val (.int ((p1 &&& (2147483647 : Int32)) % (((1 : Int32) + ((p0 &&& (2147483647 : Int32)) % (38 : Int32))) + (1 : Int32)))), .val (.ref b1), .val (.long (own_P0 ((1 : Int32) + ((p0 &&& (2147483647 : Int32)) % (38 : Int32))))), .second, .val (.int (p3 &&& (7 : Int32))), .unset, .unset, .unset] [])) rfl (hb hby at_144) _ k) ?_
                    show own_FinW p e below s _ _ _ (T33.setTop (mkF m 147 #[.val (.int p0), .val (.int p1), .val (.long q2), .second, .val (.int p3), .val (.int ((1 : Int32) + ((p0 &&& (2147483647 : Int32)) % (38 : Int32)))), .val (.int ((p1 &&& (2147483647 : Int32)) % (((1 : Int32) + ((p0 &&& (2147483647 : Int32)) % (38 : Int32))) + (1 : Int32)))), .val (.ref b1), .val (.long (own_P0 ((1 : Int32) + ((p0 &&& (2147483647 : Int32)) % (38 : Int32))))), .second, .val (.int (p3 &&& (7 : Int32))), .unset, .unset, .unset] [(.long (-9223372036854775808 : Int64))]))
                    refine own_stepW (fun _ k => XS.lstore X33.here hx rfl (hb hby at_147) rfl (l' := #[.val (.int p0), .val (.int p1), .val (.long q2), .second, .val (.int p3), .val (.int ((1 : Int32) + ((p0 &&& (2147483647 : Int32)) % (38 : Int32)))), .val (.int ((p1 &&& (2147483647 : Int32)) % (((1 : Int32) + ((p0 &&& (2147483647 : Int32)) % (38 : Int32))) + (1 : Int32)))), .val (.ref b1), .val (.long (own_P0 ((1 : Int32) + ((p0 &&& (2147483647 : Int32)) % (38 : Int32))))), .second, .val (.int (p3 &&& (7 : Int32))), .val (.long (-9223372036854775808 : Int64)), .second, .unset]) rfl k) ?_
                    show own_FinW p e below s _ _ _ (T33.setTop (mkF m 149 #[.val (.int p0), .val (.int p1), .val (.long q2), .second, .val (.int p3), .val (.int ((1 : Int32) + ((p0 &&& (2147483647 : Int32)) % (38 : Int32)))), .val (.int ((p1 &&& (2147483647 : Int32)) % (((1 : Int32) + ((p0 &&& (2147483647 : Int32)) % (38 : Int32))) + (1 : Int32)))), .val (.ref b1), .val (.long (own_P0 ((1 : Int32) + ((p0 &&& (2147483647 : Int32)) % (38 : Int32))))), .second, .val (.int (p3 &&& (7 : Int32))), .val (.long (-9223372036854775808 : Int64)), .second, .unset] []))
                    refine own_stepW (fun _ k => XS.goto X33.here hx rfl (pc0 := 149) (pc' := 157) rfl (hb hby at_149) (by decide) (by decide) k) ?_
                    show own_FinW p e below s _ _ _ (T33.setTop (mkF m 157 #[.val (.int p0), .val (.int p1), .val (.long q2), .second, .val (.int p3), .val (.int ((1 : Int32) + ((p0 &&& (2147483647 : Int32)) % (38 : Int32)))), .val (.int ((p1 &&& (2147483647 : Int32)) % (((1 : Int32) + ((p0 &&& (2147483647 : Int32)) % (38 : Int32))) + (1 : Int32)))), .val (.ref b1), .val (.long (own_P0 ((1 : Int32) + ((p0 &&& (2147483647 : Int32)) % (38 : Int32))))), .second, .val (.int (p3 &&& (7 : Int32))), .val (.long (-9223372036854775808 : Int64)), .second, .unset] []))
                    exact J39 _ X33 rfl (-9223372036854775808 : Int64) trivial
                  · refine own_stepW (fun _ k => XS.icmpYes X33.here hx rfl (pc0 := 141) (pc' := 152) rfl (hb hby at_141) rfl (feq hc58).2 (by decide) (by decide) k) ?_
                    show own_FinW p e below s _ _ _ (T33.setTop (mkF m 152 #[.val (.int p0), .val (.int p1), .val (.long q2), .second, .val (.int p3), .val (.int ((1 : Int32) + ((p0 &&& (2147483647 : Int32)) % (38 : Int32)))), .val (.int ((p1 &&& (2147483647 : Int32)) % (((1 : Int32) + ((p0 &&& (2147483647 : Int32)) % (38 : Int32))) + (1 : Int32)))), .val (.ref b1), .val (.long (own_P0 ((1 : Int32) + ((p0 &&& (2147483647 : Int32)) % (38 : Int32))))), .second, .val (.int (p3 &&& (7 : Int32))), .unset, .unset, .unset] []))
                    refine own_stepW (fun _ k => X33.ldc2Long hx hown6 (mvT hZ6 (own_w hw 66 rfl)) (g := (mkF m 152 #[.val (.int p0), .val (.int p1), .val (.long q2), .second, .val (.int p3), .val (.int ((1 : Int32) + ((p0 &&& (2147483647 : Int32)) % (38 : Int32)))), .val (.int ((p1 &&& (2147483647 : Int32)) % (((1 : Int32) + ((p0 &&& (2147483647 : Int32)) % (38 : Int32))) + (1 : Int32)))), .val (.ref b1), .val (.long (own_P0 ((1 : Int32) + ((p0 &&& (2147483647 : Int32)) % (38 : Int32))))), .second, .val (.int (p3 &&& (7 : Int32))), .unset, .unset, .unset] [])) rfl (hb hby at_152) _ k) ?_
                    show own_FinW p e below s _ _ _ (T33.setTop (mkF m 155 #[.val (.int p0), .val (.int p1), .val (.long q2), .second, .val (.int p3), .val (.int ((1 : Int32) + ((p0 &&& (2147483647 : Int32)) % (38 : Int32)))), .val (.int ((p1 &&& (2147483647 : Int32)) % (((1 : Int32) + ((p0 &&& (2147483647 : Int32)) % (38 : Int32))) + (1 : Int32)))), .val (.ref b1), .val (.long (own_P0 ((1 : Int32) + ((p0 &&& (2147483647 : Int32)) % (38 : Int32))))), .second, .val (.int (p3 &&& (7 : Int32))), .unset, .unset, .unset] [(.long (9223372036854775807 : Int64))]))
                    refine own_stepW (fun _ k => XS.lstore X33.here hx rfl (hb hby at_155) rfl (l' := #[.val (.int p0), .val (.int p1), .val (.long q2), .second, .val (.int p3), .val (.int ((1 : Int32) + ((p0 &&& (2147483647 : Int32)) % (38 : Int32)))), .val (.int ((p1 &&& (2147483647 : Int32)) % (((1 : Int32) + ((p0 &&& (2147483647 : Int32)) % (38 : Int32))) + (1 : Int32)))), .val (.ref b1), .val (.long (own_P0 ((1 : Int32) + ((p0 &&& (2147483647 : Int32)) % (38 : Int32))))), .second, .val (.int (p3 &&& (7 : Int32))), .val (.long (9223372036854775807 : Int64)), .second, .unset]) rfl k) ?_
                    show own_FinW p e below s _ _ _ (T33.setTop (mkF m 157 #[.val (.int p0), .val (.int p1), .val (.long q2), .second, .val (.int p3), .val (.int ((1 : Int32) + ((p0 &&& (2147483647 : Int32)) % (38 : Int32)))), .val (.int ((p1 &&& (2147483647 : Int32)) % (((1 : Int32) + ((p0 &&& (2147483647 : Int32)) % (38 : Int32))) + (1 : Int32)))), .val (.ref b1), .val (.long (own_P0 ((1 : Int32) + ((p0 &&& (2147483647 : Int32)) % (38 : Int32))))), .second, .val (.int (p3 &&& (7 : Int32))), .val (.long (9223372036854775807 : Int64)), .second, .unset] []))
                    exact J39 _ X33 rfl (9223372036854775807 : Int64) trivial

set_option maxRecDepth 65536 in
set_option maxHeartbeats 40000000 in
theorem comes_1 {Post : Tables → Env → Array Value → State → Outcome → State → Prop} (hpost : ∀ tb e args s v u, (limb_1_1.after args s (.returned v) u = true ∧ limb_1_2.after args s (.returned v) u = true ∧ True) → ReturnedEndW s (.returned v) u (Jvm.fieldLocs frame_1_writes args s ++ Jvm.arrayLocs frame_1_arrays args s ++ Jvm.staticLocs frame_1_statics s) 16 1152 → Post tb e args s (.returned v) u) :
    ArmFor flags0 classFile x code maxLocals ret World_1 tables_1 room_1 Calls_1 rest_1 Pre_1 Post := by
  intro l hfl _ _ p e ha hc hk s m args below hf hA hF happ hP
  obtain ⟨hcalls, hrest, hpre⟩ := hP
  obtain ⟨-, -, -, hnamed, -, -, -, hat⟩ := (Spec.applies_iff hf).mp happ
  obtain ⟨hg, hn⟩ := and_e (Cond.before_iff.mp (show (Jvm.Cond.and given_1 narrow_1).before args s = true from hpre))
  obtain ⟨cj1a, cj1b⟩ := and_e hg
  obtain ⟨cj2a, cj2b⟩ := and_e cj1b
  obtain ⟨cj3a, cj3b⟩ := and_e cj2b
  obtain ⟨cj4a, cj4b⟩ := and_e cj3b
  obtain ⟨w0, w1, w2, w3, rfl⟩ : ∃ w0 w1 w2 w3 : Value, args = #[w0, w1, w2, w3] := by
    have hs : args.size = 4 := by simpa [Cond.value, given_1] using cj1a
    obtain ⟨L⟩ := args
    match L, hs with
    | [w0, w1, w2, w3], _ => exact ⟨w0, w1, w2, w3, rfl⟩
  have hw := fun d (hd : d ∈ tables_1) => atoms_spec (ws := Jvm.Cond.code x code maxLocals ret :: tables_1) hat d (List.mem_cons_of_mem _ hd)
  have hfit : Fit s := fun {y c} hc i hi => by
    obtain ⟨ha, rfl⟩ := Array.getElem?_eq_some_iff.mp hc
    have q := List.all_eq_true.mp ((Array.all_eq_true_iff_forall_mem.mp hF) _ (Array.getElem_mem ha)) i (List.mem_range.mpr hi)
    simpa [Array.getElem?_eq_getElem hi] using q
  obtain ⟨i0, ei0⟩ := is_v cj2a
  obtain rfl : w0 = (.int i0) := Option.some.inj ei0
  obtain ⟨i1, ei1⟩ := is_v cj3a
  obtain rfl : w1 = (.int i1) := Option.some.inj ei1
  obtain ⟨i2, ei2⟩ := isL_v cj4a
  obtain rfl : w2 = (.long i2) := Option.some.inj ei2
  obtain ⟨i3, ei3⟩ := is_v cj4b
  obtain rfl : w3 = (.int i3) := Option.some.inj ei3
  obtain ⟨cj5a, cj5b⟩ := and_e hn
  obtain ⟨cj6a, cj6b⟩ := and_e cj5b
  obtain ⟨cj7a, cj7b⟩ := and_e cj6b
  obtain ⟨cj8a, cj8b⟩ := and_e cj7b
  obtain ⟨cj9a, cj9b⟩ := and_e cj8b
  obtain ⟨cj10a, cj10b⟩ := and_e cj9b
  obtain ⟨cj11a, cj11b⟩ := and_e cj10b
  obtain ⟨cj12a, cj12b⟩ := and_e cj11b
  obtain ⟨cj13a, cj13b⟩ := and_e cj12b
  obtain ⟨cj14a, cj14b⟩ := and_e cj13b
  obtain ⟨cj15a, cj15b⟩ := and_e cj14b
  obtain ⟨cj16a, cj16b⟩ := and_e cj15b
  obtain ⟨cj17a, cj17b⟩ := and_e cj16b
  obtain ⟨cj18a, cj18b⟩ := and_e cj17b
  obtain ⟨cj19a, cj19b⟩ := and_e cj18b
  obtain ⟨cj20a, cj20b⟩ := and_e cj19b
  obtain ⟨cj21a, cj21b⟩ := and_e cj20b
  obtain ⟨cj22a, cj22b⟩ := and_e cj21b
  obtain ⟨cj23a, cj23b⟩ := and_e cj22b
  obtain ⟨cj24a, cj24b⟩ := and_e cj23b
  obtain ⟨s_LONG_POWERS_OF_TEN, ev_s_LONG_POWERS_OF_TEN⟩ := arr_v cj5a
  have S_LONG_POWERS_OF_TEN : Sta s s.heap "com/example/castwright/castwright/model/DecimalType" "LONG_POWERS_OF_TEN" "[J" (.ref s_LONG_POWERS_OF_TEN) := Sta.start ev_s_LONG_POWERS_OF_TEN (Or.inr ⟨(own_w hw 3 rfl), (own_w hw 65 rfl)⟩)
  obtain ⟨cl_s_LONG_POWERS_OF_TEN, Ar_s_LONG_POWERS_OF_TEN⟩ := Arr.start ev_s_LONG_POWERS_OF_TEN cj5a
  obtain ⟨lb_s_LONG_POWERS_OF_TEN, le_s_LONG_POWERS_OF_TEN⟩ := own_len ev_s_LONG_POWERS_OF_TEN Ar_s_LONG_POWERS_OF_TEN cj6a
  have A_s_LONG_POWERS_OF_TEN : Arv s s.heap s_LONG_POWERS_OF_TEN cl_s_LONG_POWERS_OF_TEN.cls .long (19 : Int32) [(.long (1 : Int64)), (.long (10 : Int64)), (.long (100 : Int64)), (.long (1000 : Int64)), (.long (10000 : Int64)), (.long (100000 : Int64)), (.long (1000000 : Int64)), (.long (10000000 : Int64)), (.long (100000000 : Int64)), (.long (1000000000 : Int64)), (.long (10000000000 : Int64)), (.long (100000000000 : Int64)), (.long (1000000000000 : Int64)), (.long (10000000000000 : Int64)), (.long (100000000000000 : Int64)), (.long (1000000000000000 : Int64)), (.long (10000000000000000 : Int64)), (.long (100000000000000000 : Int64)), (.long (1000000000000000000 : Int64))] (.long (0 : Int64)) := Arv.start hfit Ar_s_LONG_POWERS_OF_TEN lb_s_LONG_POWERS_OF_TEN le_s_LONG_POWERS_OF_TEN (by decide) (by decide) ⟨own_elJ ev_s_LONG_POWERS_OF_TEN Ar_s_LONG_POWERS_OF_TEN (by decide) cj7a, own_elJ ev_s_LONG_POWERS_OF_TEN Ar_s_LONG_POWERS_OF_TEN (by decide) cj8a, own_elJ ev_s_LONG_POWERS_OF_TEN Ar_s_LONG_POWERS_OF_TEN (by decide) cj9a, own_elJ ev_s_LONG_POWERS_OF_TEN Ar_s_LONG_POWERS_OF_TEN (by decide) cj10a, own_elJ ev_s_LONG_POWERS_OF_TEN Ar_s_LONG_POWERS_OF_TEN (by decide) cj11a, own_elJ ev_s_LONG_POWERS_OF_TEN Ar_s_LONG_POWERS_OF_TEN (by decide) cj12a, own_elJ ev_s_LONG_POWERS_OF_TEN Ar_s_LONG_POWERS_OF_TEN (by decide) cj13a, own_elJ ev_s_LONG_POWERS_OF_TEN Ar_s_LONG_POWERS_OF_TEN (by decide) cj14a, own_elJ ev_s_LONG_POWERS_OF_TEN Ar_s_LONG_POWERS_OF_TEN (by decide) cj15a, own_elJ ev_s_LONG_POWERS_OF_TEN Ar_s_LONG_POWERS_OF_TEN (by decide) cj16a, own_elJ ev_s_LONG_POWERS_OF_TEN Ar_s_LONG_POWERS_OF_TEN (by decide) cj17a, own_elJ ev_s_LONG_POWERS_OF_TEN Ar_s_LONG_POWERS_OF_TEN (by decide) cj18a, own_elJ ev_s_LONG_POWERS_OF_TEN Ar_s_LONG_POWERS_OF_TEN (by decide) cj19a, own_elJ ev_s_LONG_POWERS_OF_TEN Ar_s_LONG_POWERS_OF_TEN (by decide) cj20a, own_elJ ev_s_LONG_POWERS_OF_TEN Ar_s_LONG_POWERS_OF_TEN (by decide) cj21a, own_elJ ev_s_LONG_POWERS_OF_TEN Ar_s_LONG_POWERS_OF_TEN (by decide) cj22a, own_elJ ev_s_LONG_POWERS_OF_TEN Ar_s_LONG_POWERS_OF_TEN (by decide) cj23a, own_elJ ev_s_LONG_POWERS_OF_TEN Ar_s_LONG_POWERS_OF_TEN (by decide) cj24a, own_elJ ev_s_LONG_POWERS_OF_TEN Ar_s_LONG_POWERS_OF_TEN (by decide) cj24b, trivial⟩
  obtain ⟨n, o, h1, h2, h3, _, L, rfl, ⟨rfl, N⟩, hq⟩ := own_rm8 l s _ hw tables_1 i0 i1 i2 i3 s_LONG_POWERS_OF_TEN cl_s_LONG_POWERS_OF_TEN.cls s.heap s.heap.size (Nat.le_refl _) S_LONG_POWERS_OF_TEN A_s_LONG_POWERS_OF_TEN p e ha hc hk s m _ below hf ((Spec.applies_iff_loose hf).mp happ).1 ⟨rfl, State.Warmed39.refl s, rfl⟩ trivial
  refine ⟨n, _, h1, h2, h3, hpost _ _ _ _ _ _ ⟨Cond.after_iff.mpr rfl, Cond.after_iff.mpr (eq_i res_at (Term.int_eval (1)) rfl), trivial⟩ ⟨hq.1, hq.2.1, hq.2.2.1, (hq.2.2.2.sift fun y hy => Or.inr (N y hy)).mono (by decide) (by decide)⟩⟩
theorem main_1_1 : Claimed_1_1 := comes_1 fun _ _ _ _ _ _ h hF => ⟨h.1, hF⟩
theorem main_1_2 : Claimed_1_2 := comes_1 fun _ _ _ _ _ _ h hF => ⟨h.2.1, hF⟩
end Jvm.Pilot.@@N@@
namespace Jvm.Pilot.@@N@@
open Jvm Jvm.ClassFile Sem Op Lib Jvm.Free Jvm.Stand Jvm.Pilot.@@N@@.Jvm.D
/-! MADE BY PROGRAM (witnessworld.py) out of the Statement's table words and the real class files: 20 classes; the members and pool entries that the words name. The judged class is class 1, her method 2. -/
namespace start1
open Jvm.ClassFile
def u (s : String) : CpInfo := .utf8 (stringToUtf16 s)
/-- a pool by its gaps: so many unusable entries, then the entry; so many at the end -/
def gap : Nat → List CpInfo → List CpInfo
  | 0, r => r
  | n + 1, r => .unusable :: gap n r
def poolList (es : List (Nat × CpInfo)) (last : Nat) : List CpInfo := es.foldr (fun e r => gap e.1 (e.2 :: r)) (gap last [])
def pool (es : List (Nat × CpInfo)) (last : Nat) : Array CpInfo := ⟨poolList es last⟩
def fileOf (pool : Array CpInfo) (this : Nat) (attrs : Array Attribute := #[]) (ms : Array MethodInfo := #[]) (fl : Nat := 33) (sup : Nat := 0) (ifs : Array Nat := #[]) (fds : Array FieldInfo := #[]) : ClassFile where
  minorVersion := 0
  majorVersion := 65
  constantPool := pool
  accessFlags := fl
  thisClass := this
  superClass := sup
  interfaces := ifs
  fields := fds
  methods := ms
  attributes := attrs
def plain (name : String) (sup : Option ClassId) : Class where
  name := name
  kind := .ordinary
  loader := none
  accessFlags := 33
  super := sup
  interfaces := #[]
  cf := none
  fields := #[]
  methods := #[]
  instanceTypes := #[]
  staticTypes := #[]
  resolved := #[]
  callSites := []
  init := .initialized
  statics := none
  mirror := none

def pool0 : Array CpInfo := pool [(5, u "<init>"), (0, u "()V"), (1, .class_ 10), (1, u "java/lang/Object")] 113

def k0c0 : Code := { maxStack := 0, maxLocals := 1, code := object_method_1_code, exceptionTable := #[], attributes := #[] }
def k0m0 : Method := { name := "<init>", desc := "()V", sig := { parameters := [], returnType := none }, accessFlags := 1, code := some k0c0 }
/-- java/lang/Object -/
def k0 : Class := { plain "java/lang/Object" none with
  accessFlags := 33
  interfaces := #[]
  cf := some (fileOf pool0 8 #[] #[{ accessFlags := 1, nameIndex := 5, descriptorIndex := 6, attributes := #[] }] 33 0 #[] #[])
  fields := #[]
  methods := #[k0m0]
  instanceTypes := #[]
  staticTypes := #[]
  resolved := Array.replicate 124 none
  statics := none }

def pool1 : Array CpInfo := pool [(2, .class_ 4), (1, u "java/lang/Object"), (0, u "<init>"), (0, u "()V"), (0, .long 10), (1, .long 100), (1, .long 1000), (1, .long 10000), (1, .long 100000), (1, .long 1000000), (1, .long 10000000), (1, .long 100000000), (1, .long 1000000000), (1, .long 10000000000), (1, .long 100000000000), (1, .long 1000000000000), (1, .long 10000000000000), (1, .long 100000000000000), (1, .long 1000000000000000), (1, .long 10000000000000000), (1, .long 100000000000000000), (1, .long 1000000000000000000), (1, .integer 2147483647), (0, .class_ 45), (0, u "com/example/castwright/castwright/model/DecimalType"), (0, .methodref 44 47), (0, .nameAndType 5 48), (0, u "(II)V"), (0, .methodref 50 51), (0, .class_ 52), (0, .nameAndType 53 54), (0, u "java/lang/Math"), (0, u "min"), (0, u "(II)I"), (0, .methodref 56 57), (0, .class_ 58), (0, .nameAndType 59 60), (0, u "com/example/castwright/castwright/model/DecimalTypeHoldsPinLaw"), (0, u "pow10"), (0, u "(I)J"), (2, .long 9223372036854775808), (1, .long 9223372036854775807), (1, .methodref 44 68), (0, .nameAndType 69 70), (0, u "holds"), (0, u "(J)Z"), (2, u "law"), (0, u "(IIJI)Z")] 3

def k1m0 : Method := { name := "<init>", desc := "()V", sig := { parameters := [], returnType := none }, accessFlags := 1, code := none }
def k1c1 : Code := { maxStack := 5, maxLocals := 2, code := method_2_code, exceptionTable := #[], attributes := #[] }
def k1m1 : Method := { name := "pow10", desc := "(I)J", sig := { parameters := [.int], returnType := some .long }, accessFlags := 10, code := some k1c1 }
def k1c2 : Code := { maxStack := 4, maxLocals := 14, code := code, exceptionTable := #[], attributes := #[] }
def k1m2 : Method := { name := "law", desc := "(IIJI)Z", sig := { parameters := [.int, .int, .long, .int], returnType := some .boolean }, accessFlags := 9, code := some k1c2 }
/-- com/example/castwright/castwright/model/DecimalTypeHoldsPinLaw -/
def k1 : Class := { plain "com/example/castwright/castwright/model/DecimalTypeHoldsPinLaw" (some 0) with
  accessFlags := 49
  interfaces := #[]
  cf := some (fileOf pool1 56 #[] #[{ accessFlags := 1, nameIndex := 5, descriptorIndex := 6, attributes := #[] }, { accessFlags := 10, nameIndex := 59, descriptorIndex := 60, attributes := #[] }, { accessFlags := 9, nameIndex := 73, descriptorIndex := 74, attributes := #[] }] 49 2 #[] #[])
  fields := #[]
  methods := #[k1m0, k1m1, k1m2]
  instanceTypes := #[]
  staticTypes := #[]
  resolved := Array.replicate 78 none
  statics := none }

def pool2 : Array CpInfo := pool [(1, .methodref 2 3), (0, .class_ 4), (0, .nameAndType 5 6), (0, u "java/lang/Object"), (0, u "<init>"), (0, u "()V"), (0, .class_ 8), (0, u "java/lang/Record")] 13

def k2c0 : Code := { maxStack := 1, maxLocals := 1, code := jdk_30_method_1_code, exceptionTable := #[], attributes := #[] }
def k2m0 : Method := { name := "<init>", desc := "()V", sig := { parameters := [], returnType := none }, accessFlags := 4, code := some k2c0 }
/-- java/lang/Record -/
def k2 : Class := { plain "java/lang/Record" (some 0) with
  accessFlags := 1057
  interfaces := #[]
  cf := some (fileOf pool2 7 #[] #[{ accessFlags := 4, nameIndex := 5, descriptorIndex := 6, attributes := #[] }] 1057 2 #[] #[])
  fields := #[]
  methods := #[k2m0]
  instanceTypes := #[]
  staticTypes := #[]
  resolved := Array.replicate 22 none
  statics := none }

def pool3 : Array CpInfo := pool [(1, .class_ 2), (0, u "com/example/castwright/castwright/model/Type"), (0, .class_ 4), (0, u "java/lang/Object")] 31

/-- com/example/castwright/castwright/model/Type -/
def k3 : Class := { plain "com/example/castwright/castwright/model/Type" (some 0) with
  accessFlags := 1537
  interfaces := #[]
  cf := some (fileOf pool3 1 #[] #[] 1537 3 #[] #[])
  fields := #[]
  methods := #[]
  instanceTypes := #[]
  staticTypes := #[]
  resolved := Array.replicate 36 none
  statics := none }

def pool4 : Array CpInfo := pool [(13, .methodref 14 15), (0, .class_ 16), (0, .nameAndType 17 18), (0, u "java/lang/Record"), (0, u "<init>"), (0, u "()V"), (0, .string 20), (0, u "a precision"), (0, .class_ 22), (0, u "com/example/castwright/castwright/model/DecimalType"), (0, .long 38), (1, .methodref 26 27), (0, .class_ 28), (0, .nameAndType 29 30), (0, u "com/example/castwright/castwright/model/Bounds"), (0, u "require"), (0, u "(Ljava/lang/String;JJJ)V"), (9, .fieldref 21 41), (0, .nameAndType 42 43), (0, u "precision"), (0, u "I"), (0, .fieldref 21 45), (0, .nameAndType 46 43), (0, u "scale"), (4, u "POWERS_OF_TEN"), (0, u "[Ljava/math/BigInteger;"), (18, .fieldref 21 72), (0, .nameAndType 73 74), (0, u "LONG_POWERS_OF_TEN"), (0, u "[J"), (10, u "WIDE_POWERS_OF_TEN"), (0, u "[[J"), (2, u "WIDE_NEGATIVE_POWERS_OF_TEN"), (92, .class_ 183), (0, u "com/example/castwright/castwright/model/Type"), (0, u "MAX_PRECISION"), (2, u "DEFAULT_PRECISION"), (1, u "(II)V"), (6, u "holds"), (0, u "(J)Z")] 42

def k4c0 : Code := { maxStack := 7, maxLocals := 3, code := prog_40_method_1_code, exceptionTable := #[], attributes := #[] }
def k4m0 : Method := { name := "<init>", desc := "(II)V", sig := { parameters := [.int, .int], returnType := none }, accessFlags := 1, code := some k4c0 }
def k4c1 : Code := { maxStack := 4, maxLocals := 5, code := prog_40_method_7_code, exceptionTable := #[], attributes := #[] }
def k4m1 : Method := { name := "holds", desc := "(J)Z", sig := { parameters := [.long], returnType := some .boolean }, accessFlags := 1, code := some k4c1 }
/-- com/example/castwright/castwright/model/DecimalType -/
def k4 : Class := { plain "com/example/castwright/castwright/model/DecimalType" (some 2) with
  accessFlags := 49
  interfaces := #[3]
  cf := some (fileOf pool4 21 #[] #[{ accessFlags := 1, nameIndex := 17, descriptorIndex := 189, attributes := #[] }, { accessFlags := 1, nameIndex := 196, descriptorIndex := 197, attributes := #[] }] 49 14 #[182] #[{ accessFlags := 18, nameIndex := 42, descriptorIndex := 43, attributes := #[] }, { accessFlags := 18, nameIndex := 46, descriptorIndex := 43, attributes := #[] }, { accessFlags := 25, nameIndex := 184, descriptorIndex := 43, attributes := #[] }, { accessFlags := 25, nameIndex := 187, descriptorIndex := 43, attributes := #[] }, { accessFlags := 26, nameIndex := 51, descriptorIndex := 52, attributes := #[] }, { accessFlags := 26, nameIndex := 73, descriptorIndex := 74, attributes := #[] }, { accessFlags := 26, nameIndex := 85, descriptorIndex := 86, attributes := #[] }, { accessFlags := 26, nameIndex := 89, descriptorIndex := 86, attributes := #[] }])
  fields := #[{ name := "precision", type := .int, accessFlags := 18, slot := 0, constantValue := 0 }, { name := "scale", type := .int, accessFlags := 18, slot := 1, constantValue := 0 }, { name := "MAX_PRECISION", type := .int, accessFlags := 25, slot := 0, constantValue := 0 }, { name := "DEFAULT_PRECISION", type := .int, accessFlags := 25, slot := 1, constantValue := 0 }, { name := "POWERS_OF_TEN", type := (.array (.object "java/math/BigInteger")), accessFlags := 26, slot := 2, constantValue := 0 }, { name := "LONG_POWERS_OF_TEN", type := (.array .long), accessFlags := 26, slot := 3, constantValue := 0 }, { name := "WIDE_POWERS_OF_TEN", type := (.array (.array .long)), accessFlags := 26, slot := 4, constantValue := 0 }, { name := "WIDE_NEGATIVE_POWERS_OF_TEN", type := (.array (.array .long)), accessFlags := 26, slot := 5, constantValue := 0 }]
  methods := #[k4m0, k4m1]
  instanceTypes := #[.int, .int]
  staticTypes := #[.int, .int, (.array (.object "java/math/BigInteger")), (.array .long), (.array (.array .long)), (.array (.array .long))]
  resolved := Array.replicate 240 none
  statics := some 0 }

def pool5 : Array CpInfo := pool [(1, .class_ 2), (0, u "java/io/Serializable"), (0, .class_ 4), (0, u "java/lang/Object")] 2

/-- java/io/Serializable -/
def k5 : Class := { plain "java/io/Serializable" (some 0) with
  accessFlags := 1537
  interfaces := #[]
  cf := some (fileOf pool5 1 #[] #[] 1537 3 #[] #[])
  fields := #[]
  methods := #[]
  instanceTypes := #[]
  staticTypes := #[]
  resolved := Array.replicate 7 none
  statics := none }

def pool6 : Array CpInfo := pool [(1, .class_ 2), (0, u "java/lang/Comparable"), (0, .class_ 4), (0, u "java/lang/Object")] 7

/-- java/lang/Comparable -/
def k6 : Class := { plain "java/lang/Comparable" (some 0) with
  accessFlags := 1537
  interfaces := #[]
  cf := some (fileOf pool6 1 #[] #[] 1537 3 #[] #[])
  fields := #[]
  methods := #[]
  instanceTypes := #[]
  staticTypes := #[]
  resolved := Array.replicate 12 none
  statics := none }

def pool7 : Array CpInfo := pool [(2, .class_ 4), (1, u "java/lang/CharSequence"), (42, .class_ 48), (0, u "java/lang/CharSequence$1CodePointIterator"), (10, .class_ 60), (0, u "java/lang/CharSequence$1CharIterator"), (5, .class_ 67), (0, u "java/lang/Object")] 63

/-- java/lang/CharSequence -/
def k7 : Class := { plain "java/lang/CharSequence" (some 0) with
  accessFlags := 1537
  interfaces := #[]
  cf := some (fileOf pool7 2 #[.nestMembers #[47, 59]] #[] 1537 66 #[] #[])
  fields := #[]
  methods := #[]
  instanceTypes := #[]
  staticTypes := #[]
  resolved := Array.replicate 131 none
  statics := none }

def pool8 : Array CpInfo := pool [(1, .class_ 2), (0, u "java/lang/constant/Constable"), (0, .class_ 4), (0, u "java/lang/Object")] 6

/-- java/lang/constant/Constable -/
def k8 : Class := { plain "java/lang/constant/Constable" (some 0) with
  accessFlags := 1537
  interfaces := #[]
  cf := some (fileOf pool8 1 #[] #[] 1537 3 #[] #[])
  fields := #[]
  methods := #[]
  instanceTypes := #[]
  staticTypes := #[]
  resolved := Array.replicate 11 none
  statics := none }

def pool9 : Array CpInfo := pool [(1, .class_ 2), (0, u "java/lang/constant/ConstantDesc"), (0, .class_ 4), (0, u "java/lang/Object")] 32

/-- java/lang/constant/ConstantDesc -/
def k9 : Class := { plain "java/lang/constant/ConstantDesc" (some 0) with
  accessFlags := 1537
  interfaces := #[]
  cf := some (fileOf pool9 1 #[] #[] 1537 3 #[] #[])
  fields := #[]
  methods := #[]
  instanceTypes := #[]
  staticTypes := #[]
  resolved := Array.replicate 37 none
  statics := none }

def pool10 : Array CpInfo := pool [(2, .class_ 4), (1, u "java/lang/Object"), (0, u "<init>"), (0, u "()V"), (3, .class_ 12), (1, u "java/lang/String"), (0, u "value"), (0, u "[B"), (2, u "coder"), (0, u "B"), (2, u "hash"), (0, u "I"), (2, u "hashIsZero"), (0, u "Z"), (13, u "COMPACT_STRINGS"), (534, .class_ 576), (0, u "java/lang/CharSequence"), (22, u "CASE_INSENSITIVE_ORDER"), (0, u "Ljava/util/Comparator;"), (500, u "serialPersistentFields"), (0, u "[Ljava/io/ObjectStreamField;"), (0, .class_ 1104), (0, u "java/lang/String$CaseInsensitiveComparator"), (1, .class_ 1107), (0, u "java/io/Serializable"), (0, .class_ 1109), (0, u "java/lang/Comparable"), (0, .class_ 1111), (0, u "java/lang/constant/Constable"), (0, .class_ 1113), (0, u "java/lang/constant/ConstantDesc"), (2, u "serialVersionUID"), (0, u "J"), (3, u "REPL"), (0, u "C"), (2, u "LATIN1"), (1, u "UTF16")] 323

def k10m0 : Method := { name := "<init>", desc := "()V", sig := { parameters := [], returnType := none }, accessFlags := 1, code := none }
/-- java/lang/String -/
def k10 : Class := { plain "java/lang/String" (some 0) with
  accessFlags := 49
  interfaces := #[5, 6, 7, 8, 9]
  cf := some (fileOf pool10 10 #[.nestMembers #[1103]] #[{ accessFlags := 1, nameIndex := 5, descriptorIndex := 6, attributes := #[] }] 49 2 #[1106, 1108, 575, 1110, 1112] #[{ accessFlags := 18, nameIndex := 13, descriptorIndex := 14, attributes := #[] }, { accessFlags := 18, nameIndex := 17, descriptorIndex := 18, attributes := #[] }, { accessFlags := 2, nameIndex := 21, descriptorIndex := 22, attributes := #[] }, { accessFlags := 2, nameIndex := 25, descriptorIndex := 26, attributes := #[] }, { accessFlags := 26, nameIndex := 1116, descriptorIndex := 1117, attributes := #[] }, { accessFlags := 24, nameIndex := 40, descriptorIndex := 26, attributes := #[] }, { accessFlags := 26, nameIndex := 1101, descriptorIndex := 1102, attributes := #[] }, { accessFlags := 26, nameIndex := 1121, descriptorIndex := 1122, attributes := #[] }, { accessFlags := 25, nameIndex := 599, descriptorIndex := 600, attributes := #[] }, { accessFlags := 24, nameIndex := 1125, descriptorIndex := 18, attributes := #[] }, { accessFlags := 24, nameIndex := 1127, descriptorIndex := 18, attributes := #[] }])
  fields := #[{ name := "value", type := (.array .byte), accessFlags := 18, slot := 0, constantValue := 0 }, { name := "coder", type := .byte, accessFlags := 18, slot := 1, constantValue := 0 }, { name := "hash", type := .int, accessFlags := 2, slot := 2, constantValue := 0 }, { name := "hashIsZero", type := .boolean, accessFlags := 2, slot := 3, constantValue := 0 }, { name := "serialVersionUID", type := .long, accessFlags := 26, slot := 0, constantValue := 0 }, { name := "COMPACT_STRINGS", type := .boolean, accessFlags := 24, slot := 1, constantValue := 0 }, { name := "serialPersistentFields", type := (.array (.object "java/io/ObjectStreamField")), accessFlags := 26, slot := 2, constantValue := 0 }, { name := "REPL", type := .char, accessFlags := 26, slot := 3, constantValue := 0 }, { name := "CASE_INSENSITIVE_ORDER", type := (.object "java/util/Comparator"), accessFlags := 25, slot := 4, constantValue := 0 }, { name := "LATIN1", type := .byte, accessFlags := 24, slot := 5, constantValue := 0 }, { name := "UTF16", type := .byte, accessFlags := 24, slot := 6, constantValue := 0 }]
  methods := #[k10m0]
  instanceTypes := #[(.array .byte), .byte, .int, .boolean]
  staticTypes := #[.long, .boolean, (.array (.object "java/io/ObjectStreamField")), .char, (.object "java/util/Comparator"), .byte, .byte]
  resolved := Array.replicate 1451 none
  statics := none }

def pool11 : Array CpInfo := pool [(2, .class_ 4), (1, u "java/lang/Object"), (0, u "<init>"), (0, u "()V"), (9, .class_ 17), (0, u "com/example/castwright/castwright/model/Bounds"), (2, u "require"), (0, u "(Ljava/lang/String;JJJ)V")] 18

def k11m0 : Method := { name := "<init>", desc := "()V", sig := { parameters := [], returnType := none }, accessFlags := 2, code := none }
def k11c1 : Code := { maxStack := 9, maxLocals := 7, code := prog_33_method_2_code, exceptionTable := #[], attributes := #[] }
def k11m1 : Method := { name := "require", desc := "(Ljava/lang/String;JJJ)V", sig := { parameters := [(.object "java/lang/String"), .long, .long, .long], returnType := none }, accessFlags := 8, code := some k11c1 }
/-- com/example/castwright/castwright/model/Bounds -/
def k11 : Class := { plain "com/example/castwright/castwright/model/Bounds" (some 0) with
  accessFlags := 48
  interfaces := #[]
  cf := some (fileOf pool11 16 #[] #[{ accessFlags := 2, nameIndex := 5, descriptorIndex := 6, attributes := #[] }, { accessFlags := 8, nameIndex := 20, descriptorIndex := 21, attributes := #[] }] 48 2 #[] #[])
  fields := #[]
  methods := #[k11m0, k11m1]
  instanceTypes := #[]
  staticTypes := #[]
  resolved := Array.replicate 40 none
  statics := none }

def pool12 : Array CpInfo := pool [(1, .class_ 2), (0, u "java/lang/Math"), (1, .class_ 6), (1, u "java/lang/Object"), (0, u "<init>"), (0, u "()V"), (89, .class_ 100), (1, u "java/lang/Math$RandomNumberGeneratorHolder"), (71, u "negativeZeroFloatBits"), (0, u "J"), (2, u "negativeZeroDoubleBits"), (24, u "min"), (43, u "$assertionsDisabled"), (0, u "Z"), (88, u "(II)I"), (2, u "twoToTheDoubleScaleDown"), (0, u "D"), (4, u "twoToTheDoubleScaleUp"), (9, u "E"), (3, u "PI"), (2, u "TAU"), (2, u "DEGREES_TO_RADIANS"), (0, u "RADIANS_TO_DEGREES")] 94

def k12m0 : Method := { name := "<init>", desc := "()V", sig := { parameters := [], returnType := none }, accessFlags := 2, code := none }
def k12c1 : Code := { maxStack := 2, maxLocals := 2, code := jdk_29_method_69_code, exceptionTable := #[], attributes := #[] }
def k12m1 : Method := { name := "min", desc := "(II)I", sig := { parameters := [.int, .int], returnType := some .int }, accessFlags := 9, code := some k12c1 }
/-- java/lang/Math -/
def k12 : Class := { plain "java/lang/Math" (some 0) with
  accessFlags := 49
  interfaces := #[]
  cf := some (fileOf pool12 1 #[.nestMembers #[98]] #[{ accessFlags := 2, nameIndex := 7, descriptorIndex := 8, attributes := #[] }, { accessFlags := 9, nameIndex := 201, descriptorIndex := 335, attributes := #[] }] 49 4 #[] #[{ accessFlags := 25, nameIndex := 354, descriptorIndex := 339, attributes := #[] }, { accessFlags := 25, nameIndex := 358, descriptorIndex := 339, attributes := #[] }, { accessFlags := 25, nameIndex := 361, descriptorIndex := 339, attributes := #[] }, { accessFlags := 26, nameIndex := 364, descriptorIndex := 339, attributes := #[] }, { accessFlags := 26, nameIndex := 365, descriptorIndex := 339, attributes := #[] }, { accessFlags := 26, nameIndex := 172, descriptorIndex := 173, attributes := #[] }, { accessFlags := 26, nameIndex := 176, descriptorIndex := 173, attributes := #[] }, { accessFlags := 8, nameIndex := 344, descriptorIndex := 339, attributes := #[] }, { accessFlags := 8, nameIndex := 338, descriptorIndex := 339, attributes := #[] }, { accessFlags := 4120, nameIndex := 245, descriptorIndex := 246, attributes := #[] }])
  fields := #[{ name := "E", type := .double, accessFlags := 25, slot := 0, constantValue := 0 }, { name := "PI", type := .double, accessFlags := 25, slot := 1, constantValue := 0 }, { name := "TAU", type := .double, accessFlags := 25, slot := 2, constantValue := 0 }, { name := "DEGREES_TO_RADIANS", type := .double, accessFlags := 26, slot := 3, constantValue := 0 }, { name := "RADIANS_TO_DEGREES", type := .double, accessFlags := 26, slot := 4, constantValue := 0 }, { name := "negativeZeroFloatBits", type := .long, accessFlags := 26, slot := 5, constantValue := 0 }, { name := "negativeZeroDoubleBits", type := .long, accessFlags := 26, slot := 6, constantValue := 0 }, { name := "twoToTheDoubleScaleUp", type := .double, accessFlags := 8, slot := 7, constantValue := 0 }, { name := "twoToTheDoubleScaleDown", type := .double, accessFlags := 8, slot := 8, constantValue := 0 }, { name := "$assertionsDisabled", type := .boolean, accessFlags := 4120, slot := 9, constantValue := 0 }]
  methods := #[k12m0, k12m1]
  instanceTypes := #[]
  staticTypes := #[.double, .double, .double, .double, .double, .long, .long, .double, .double, .boolean]
  resolved := Array.replicate 460 none
  statics := none }

def pool13 : Array CpInfo := pool [(1, u "java/lang/Cloneable"), (0, .class_ 1), (0, u "java/lang/Object"), (0, .class_ 3)] 3

/-- java/lang/Cloneable -/
def k13 : Class := { plain "java/lang/Cloneable" (some 0) with
  accessFlags := 1537
  interfaces := #[]
  cf := some (fileOf pool13 2 #[] #[] 1537 4 #[] #[])
  fields := #[]
  methods := #[]
  instanceTypes := #[]
  staticTypes := #[]
  resolved := Array.replicate 8 none
  statics := none }

/-- the primitive byte -/
def k14 : Class := { plain "byte" none with kind := .primitive 'B', accessFlags := 0x411 }
/-- [B -/
def k15 : Class := { plain "[B" (some 0) with kind := .array 14 .byte, interfaces := #[13, 5], accessFlags := 1041 }

/-- the primitive int -/
def k16 : Class := { plain "int" none with kind := .primitive 'I', accessFlags := 0x411 }
/-- [I -/
def k17 : Class := { plain "[I" (some 0) with kind := .array 16 .int, interfaces := #[13, 5], accessFlags := 1041 }

/-- the primitive long -/
def k18 : Class := { plain "long" none with kind := .primitive 'J', accessFlags := 0x411 }
/-- [J -/
def k19 : Class := { plain "[J" (some 0) with kind := .array 18 .long, interfaces := #[13, 5], accessFlags := 1041 }

def heap : Heap := #[{ cls := 4, slots := #[.int 0, .int 0, .null, .ref 1, .null, .null], vm := .statics 4 },
  { cls := 19, slots := #[.long 1, .long 10, .long 100, .long 1000, .long 10000, .long 100000, .long 1000000, .long 10000000, .long 100000000, .long 1000000000, .long 10000000000, .long 100000000000, .long 1000000000000, .long 10000000000000, .long 100000000000000, .long 1000000000000000, .long 10000000000000000, .long 100000000000000000, .long 1000000000000000000], vm := .none }]
def classes : Array Class := #[k0, k1, k2, k3, k4, k5, k6, k7, k8, k9, k10, k11, k12, k13, k14, k15, k16, k17, k18, k19]
def interned : List (Array UInt16 × Addr) := []
def slotsUsed : Nat := 25
def theMethod : MethodId := ⟨1, 2⟩
def args0 : Array Value := #[.int 5, .int 3, .long 77, .int 1]
def aboutOver (below : List Frame) : State where
  vm := { classes := classes, interned := interned.toArray }
  heap := heap
  slotsUsed := slotsUsed
  threads := #[{ frames := .invoking theMethod args0 :: below }]
def below0 : List Frame := [.native { method := ⟨0, 0⟩, args := #[] }]
def about1 : State := aboutOver below0
def p0 : Program := .bare "" "" ""
def e0 : Env := launch0.env 0 0 0
theorem w_frames : about1.frames = Frame.invoking theMethod args0 :: below0 := rfl
set_option maxRecDepth 65536 in
theorem w_args : argsFit about1.vm theMethod args0 = true := by decide +kernel
set_option maxRecDepth 65536 in
theorem w_heap : heapFits about1 = true := by decide +kernel
set_option maxRecDepth 65536 in
theorem w_runnable : about1.curStatus? = some .runnable := by decide +kernel
set_option maxRecDepth 65536 in
theorem w_alone : about1.alone = true := by decide +kernel
set_option maxRecDepth 65536 in
theorem w_named : about1.methodNamed? x = some theMethod := by decide +kernel
set_option maxRecDepth 65536 in
theorem w_hears : about1.hears theMethod below0 = true := by decide +kernel
set_option maxRecDepth 65536 in
theorem w_ripe : about1.ripe theMethod args0 below0 = true := by decide +kernel
theorem w_running : about1.status = .running := rfl
set_option maxRecDepth 65536 in
theorem w_room : about1.hasRoom e0.platform room_1 = true :=
  launch0.hasRoom_least _ room_1 (by decide +kernel) (by decide +kernel) (by decide +kernel) (by decide +kernel) (by decide +kernel) (by decide +kernel)
theorem allAtoms_all (ts : List Jvm.Cond) (a : Array Jvm.Value) (st : Jvm.State) : (allAtoms ts).before a st = ts.all (fun c => c.before a st) := by
  induction ts with
  | nil => rfl
  | cons c t ih =>
    show (Jvm.Cond.and c (allAtoms t)).before a st = _
    rw [Jvm.Cond.before_and, ih, List.all_cons]
def words1 : List Jvm.Cond := Jvm.Cond.code x code maxLocals ret :: tables_1
/-- a 'code' word, met by the world's own term for the bytes: nothing is compared byte by byte -/
theorem code_word {y : MethodName} {bytes : ByteArray} {mx : Nat} {rt : Option FieldType} {a : Array Value} {s : State} {m : MethodId} {meth : Method} {c : Code} (h1 : s.methodNamed? y = some m) (h2 : s.vm.method? m = some meth) (h3 : meth.code = some c) (h4 : c.code = bytes)
    (h5 : (c.maxLocals == mx && c.exceptionTable.isEmpty && decide (c.maxStack ≤ mostOperands) && decide (meth.sig.returnType = rt) && !meth.locks && decide (parseMethodDescriptor y.desc = some meth.sig)) = true) : (Jvm.Cond.code y bytes mx rt).before a s = true := by
  simp only [Bool.and_eq_true, beq_iff_eq, Bool.not_eq_true', decide_eq_true_eq] at h5
  obtain ⟨⟨⟨⟨⟨g1, g2⟩, g3⟩, g4⟩, g5⟩, g6⟩ := h5
  simp [Cond.before, Cond.holds, Cond.value, h1, h2, h3, h4, g1, g2, g3, g4, g5, g6]
def isCode : Jvm.Cond → Bool
  | .code _ _ _ _ => true
  | _ => false
theorem all_split {L : List Jvm.Cond} {P : Jvm.Cond → Bool} (h1 : L.all (fun c => isCode c || P c) = true) (h2 : ∀ c ∈ L.filter isCode, P c = true) : L.all P = true := by
  refine List.all_eq_true.mpr fun c hc => ?_
  have h := List.all_eq_true.mp h1 c hc
  rcases Bool.eq_false_or_eq_true (isCode c) with hi | hi
  · exact h2 c (List.mem_filter.mpr ⟨hc, hi⟩)
  · simpa [hi] using h
set_option maxRecDepth 65536 in
theorem w_c0 : (Jvm.Cond.code x code maxLocals ret).before args0 about1 = true := code_word (m := ⟨1, 2⟩) (meth := k1m2) (c := k1c2) (by decide +kernel) rfl rfl rfl (by decide +kernel)
set_option maxRecDepth 65536 in
theorem w_c1 : (Jvm.Cond.code ({ cls := "com/example/castwright/castwright/model/DecimalType", name := "<init>", desc := "(II)V" } : Jvm.MethodName) prog_40_method_1_code (3 : Nat) (Option.none : Option Jvm.ClassFile.FieldType)).before args0 about1 = true := code_word (m := ⟨4, 0⟩) (meth := k4m0) (c := k4c0) (by decide +kernel) rfl rfl rfl (by decide +kernel)
set_option maxRecDepth 65536 in
theorem w_c2 : (Jvm.Cond.code ({ cls := "java/lang/Record", name := "<init>", desc := "()V" } : Jvm.MethodName) jdk_30_method_1_code (1 : Nat) (Option.none : Option Jvm.ClassFile.FieldType)).before args0 about1 = true := code_word (m := ⟨2, 0⟩) (meth := k2m0) (c := k2c0) (by decide +kernel) rfl rfl rfl (by decide +kernel)
set_option maxRecDepth 65536 in
theorem w_c3 : (Jvm.Cond.code ({ cls := "java/lang/Object", name := "<init>", desc := "()V" } : Jvm.MethodName) object_method_1_code (1 : Nat) (Option.none : Option Jvm.ClassFile.FieldType)).before args0 about1 = true := code_word (m := ⟨0, 0⟩) (meth := k0m0) (c := k0c0) (by decide +kernel) rfl rfl rfl (by decide +kernel)
set_option maxRecDepth 65536 in
theorem w_c4 : (Jvm.Cond.code ({ cls := "com/example/castwright/castwright/model/Bounds", name := "require", desc := "(Ljava/lang/String;JJJ)V" } : Jvm.MethodName) prog_33_method_2_code (7 : Nat) (Option.none : Option Jvm.ClassFile.FieldType)).before args0 about1 = true := code_word (m := ⟨11, 1⟩) (meth := k11m1) (c := k11c1) (by decide +kernel) rfl rfl rfl (by decide +kernel)
set_option maxRecDepth 65536 in
theorem w_c5 : (Jvm.Cond.code ({ cls := "java/lang/Math", name := "min", desc := "(II)I" } : Jvm.MethodName) jdk_29_method_69_code (2 : Nat) (Option.some Jvm.ClassFile.FieldType.int)).before args0 about1 = true := code_word (m := ⟨12, 1⟩) (meth := k12m1) (c := k12c1) (by decide +kernel) rfl rfl rfl (by decide +kernel)
set_option maxRecDepth 65536 in
theorem w_c6 : (Jvm.Cond.code ({ cls := "com/example/castwright/castwright/model/DecimalTypeHoldsPinLaw", name := "pow10", desc := "(I)J" } : Jvm.MethodName) method_2_code (2 : Nat) (Option.some Jvm.ClassFile.FieldType.long)).before args0 about1 = true := code_word (m := ⟨1, 1⟩) (meth := k1m1) (c := k1c1) (by decide +kernel) rfl rfl rfl (by decide +kernel)
set_option maxRecDepth 65536 in
theorem w_c7 : (Jvm.Cond.code ({ cls := "com/example/castwright/castwright/model/DecimalType", name := "holds", desc := "(J)Z" } : Jvm.MethodName) prog_40_method_7_code (5 : Nat) (Option.some Jvm.ClassFile.FieldType.boolean)).before args0 about1 = true := code_word (m := ⟨4, 1⟩) (meth := k4m1) (c := k4c1) (by decide +kernel) rfl rfl rfl (by decide +kernel)
def codes1 : List Jvm.Cond := [Jvm.Cond.code x code maxLocals ret, Jvm.Cond.code ({ cls := "com/example/castwright/castwright/model/DecimalType", name := "<init>", desc := "(II)V" } : Jvm.MethodName) prog_40_method_1_code (3 : Nat) (Option.none : Option Jvm.ClassFile.FieldType), Jvm.Cond.code ({ cls := "java/lang/Record", name := "<init>", desc := "()V" } : Jvm.MethodName) jdk_30_method_1_code (1 : Nat) (Option.none : Option Jvm.ClassFile.FieldType), Jvm.Cond.code ({ cls := "java/lang/Object", name := "<init>", desc := "()V" } : Jvm.MethodName) object_method_1_code (1 : Nat) (Option.none : Option Jvm.ClassFile.FieldType), Jvm.Cond.code ({ cls := "com/example/castwright/castwright/model/Bounds", name := "require", desc := "(Ljava/lang/String;JJJ)V" } : Jvm.MethodName) prog_33_method_2_code (7 : Nat) (Option.none : Option Jvm.ClassFile.FieldType), Jvm.Cond.code ({ cls := "java/lang/Math", name := "min", desc := "(II)I" } : Jvm.MethodName) jdk_29_method_69_code (2 : Nat) (Option.some Jvm.ClassFile.FieldType.int), Jvm.Cond.code ({ cls := "com/example/castwright/castwright/model/DecimalTypeHoldsPinLaw", name := "pow10", desc := "(I)J" } : Jvm.MethodName) method_2_code (2 : Nat) (Option.some Jvm.ClassFile.FieldType.long), Jvm.Cond.code ({ cls := "com/example/castwright/castwright/model/DecimalType", name := "holds", desc := "(J)Z" } : Jvm.MethodName) prog_40_method_7_code (5 : Nat) (Option.some Jvm.ClassFile.FieldType.boolean)]
set_option maxRecDepth 65536 in
theorem codes_eq : words1.filter isCode = codes1 := rfl
theorem w_codes : ∀ c ∈ words1.filter isCode, c.before args0 about1 = true := by
  rw [codes_eq]
  intro c hc
  simp only [codes1, List.mem_cons, List.not_mem_nil, or_false] at hc
  rcases hc with rfl | rfl | rfl | rfl | rfl | rfl | rfl | rfl
  · exact w_c0
  · exact w_c1
  · exact w_c2
  · exact w_c3
  · exact w_c4
  · exact w_c5
  · exact w_c6
  · exact w_c7
set_option maxRecDepth 65536 in
theorem w_t1 : (words1.take 24).all (fun c => isCode c || c.before args0 about1) = true := by decide +kernel
set_option maxRecDepth 65536 in
theorem w_t2 : ((words1.drop 24).take 24).all (fun c => isCode c || c.before args0 about1) = true := by decide +kernel
set_option maxRecDepth 65536 in
theorem w_t3 : ((words1.drop 24).drop 24).all (fun c => isCode c || c.before args0 about1) = true := by decide +kernel
theorem w_tables : (allAtoms (Jvm.Cond.code x code maxLocals ret :: tables_1)).before args0 about1 = true := by
  rw [allAtoms_all]
  show words1.all (fun c => c.before args0 about1) = true
  refine all_split ?_ w_codes
  rw [← List.take_append_drop 24 words1, List.all_append, w_t1, ← List.take_append_drop 24 (words1.drop 24), List.all_append, w_t2, w_t3]
  rfl
set_option maxRecDepth 65536 in
theorem w_case : (Jvm.Cond.and given_1 narrow_1).before args0 about1 = true := by decide +kernel
theorem w_applies : (headSpec (Jvm.Cond.code x code maxLocals ret :: tables_1) room_1).applies x e0.platform about1 = true :=
  (Spec.applies_iff w_frames).mpr ⟨w_running, w_runnable, w_alone, w_named, w_hears, w_ripe, w_room, w_tables⟩
theorem atStart : AtStart classFile x code maxLocals ret World_1 tables_1 room_1 Calls_1 rest_1 Pre_1 launch0 p0 e0 about1 theMethod args0 below0 :=
  ⟨lists_1, trivial, launch0.admits_env _ _ _, launch0.least_env, fairChoices_fair.cas, fairChoices_fair.clock, w_frames, w_args, w_heap, w_applies, trivial, trivial, w_case⟩
end start1
theorem witness_1 : WitnessClaimed_1 := ⟨start1.p0, start1.e0, start1.about1, start1.theMethod, start1.args0, start1.below0, start1.atStart⟩
end Jvm.Pilot.@@N@@
