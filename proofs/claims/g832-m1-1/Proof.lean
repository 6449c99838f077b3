import JvmDerived
import JvmDerived.Pilot.@@N@@Statement
import JvmDerived.Pilot.@@N@@Code
set_option linter.unusedVariables false
set_option linter.unusedSimpArgs false
namespace Jvm.RoadKit
open Sem ClassFile Op Lib Jvm.Stand Jvm.Free Jvm.LawKit
section Own
variable {p : Program} {l : Launch} {e : Env} {R : Room} {s : State} {m : MethodId} {args : Array Value} {below : List Frame} {meth : Method} {c : Code} {T : State} {locs : List Loc} {cells slots : Nat} {Q : Option Value → Heap → List Loc → Prop} {kc ks : Nat}
/-- the run from S comes to its end and leaves what Q says -/
def own_Fin (p : Program) (e : Env) (below : List Frame) (s : State) (kc ks : Nat) (Q : Option Value → Heap → List Loc → Prop) (S : State) : Prop :=
  ∃ U o, Steps p.tables e below S U ∧ U.status = .running ∧ Ended U below o ∧ ∃ v L, o = .returned v ∧ Q v U.heap L ∧ FrameEnd s o U L kc ks
theorem own_step {S S' : State} (h : ∀ t, Steps p.tables e below S' t → Steps p.tables e below S t) (k : own_Fin p e below s kc ks Q S') : own_Fin p e below s kc ks Q S := by
  obtain ⟨U, o, h1, r⟩ := k
  exact ⟨U, o, h _ h1, r⟩
theorem own_ret (X : Stand p l e R s m args below meth c T locs cells slots) (hlk : meth.locks = false) {v : Option Value} (hv : meth.sig.returnType = none → v = none) (hc : cells ≤ kc) (hs : slots ≤ ks) (hQ : Q v T.heap locs) {S : State}
    (hst : ∀ fs, (∀ (f : JFrame) (acts : List Action), f.method = m → f.locked = none → f.entered = [] → (doReturn e (T.setTop f) acts v).1 = T.setFrames fs) → Steps p.tables e below S (T.setFrames fs)) : own_Fin p e below s kc ks Q S := by
  obtain ⟨fs, hr, hrun, hended, hW, hsame⟩ := X.leave (v := v) hv hlk
  exact ⟨_, _, hst fs hr, hrun, hended, _, _, rfl, hQ, ⟨_, rfl⟩, hW, hsame.mono hc hs⟩
def own_FinW (p : Program) (e : Env) (below : List Frame) (s : State) (kc ks : Nat) (Q : Option Value → Heap → List Loc → Prop) (S : State) : Prop :=
  ∃ U o, Steps p.tables e below S U ∧ U.status = .running ∧ Ended U below o ∧ ∃ v L, o = .returned v ∧ Q v U.heap L ∧ ReturnedEndW s o U L kc ks
theorem own_stepW {S S' : State} (h : ∀ t, Steps p.tables e below S' t → Steps p.tables e below S t) (k : own_FinW p e below s kc ks Q S') : own_FinW p e below s kc ks Q S := by
  obtain ⟨U, o, h1, r⟩ := k
  exact ⟨U, o, h _ h1, r⟩
theorem own_retW {vm1 : Vm} (X : Stand p l e R (s.setVm vm1) m args below meth c T locs cells slots) (hlk : meth.locks = false) {n : Nat} (hS : s.Since vm1 n) {h : Heap} (eT : T.heap = h) (hn : n ≤ h.size) {v : Option Value} (hv : meth.sig.returnType = none → v = none) (hc : cells ≤ kc) (hs : slots ≤ ks) (hQ : Q v T.heap locs) {S : State}
    (hst : ∀ fs, (∀ (f : JFrame) (acts : List Action), f.method = m → f.locked = none → f.entered = [] → (doReturn e (T.setTop f) acts v).1 = T.setFrames fs) → Steps p.tables e below S (T.setFrames fs)) : own_FinW p e below s kc ks Q S := by
  obtain ⟨fs, hr, hrun, hended, hE⟩ := X.leaveW hS (by rw [eT]; exact hn) (v := v) hv hlk
  exact ⟨_, _, hst fs hr, hrun, hended, _, _, rfl, hQ, hE.1, hE.2.1, hE.2.2.1, hE.2.2.2.mono hc hs⟩
theorem own_castW {g g' : JFrame} (q : g = g') (k : own_FinW p e below s kc ks Q (T.setTop g')) : own_FinW p e below s kc ks Q (T.setTop g) := q ▸ k
theorem own_m0 : Jvm.Free.Fl.Mag64 1 FP.dconst0 := by unfold Jvm.Free.Fl.Mag64; decide
theorem own_mz : Jvm.Free.Fl.Mag64 1 (0 : UInt64) := by unfold Jvm.Free.Fl.Mag64; decide
theorem own_m1 : Jvm.Free.Fl.Mag64 1024 FP.dconst1 := by unfold Jvm.Free.Fl.Mag64; decide
/-- roads that meet again: what lies behind the meeting is walked once -/
theorem own_join {G : Prop} {F : State → Prop} (X : Stand p l e R s m args below meth c T locs cells slots) {h : Heap} (eT : T.heap = h) {β : Type} (g : β → JFrame) (hyp : β → Prop)
    (body : ∀ Tj : State, Stand p l e R s m args below meth c Tj locs cells slots → Tj.heap = h → ∀ b, hyp b → F (Tj.setTop (g b)))
    (cont : (∀ Tj : State, Stand p l e R s m args below meth c Tj locs cells slots → Tj.heap = h → ∀ b, hyp b → F (Tj.setTop (g b))) → G) : G := cont body
theorem own_ltn {n k j : Int32} (h : ¬ n < k) (q : j < k) : j < n := by
  rw [Int32.lt_iff_toInt_lt] at *
  omega
theorem own_cast {g g' : JFrame} (q : g = g') (k : own_Fin p e below s kc ks Q (T.setTop g')) : own_Fin p e below s kc ks Q (T.setTop g) := q ▸ k
theorem own_getJ {cl : Cell} {vs : List Int64} {j : Int32} (H : Has cl (vs.map Value.long) (.long 0)) (q : ¬ (j < 0 ∨ cl.slots.size ≤ j.toNatClampNeg)) : cl.slots[j.toNatClampNeg]? = some (.long (vs.getD j.toNatClampNeg 0)) := by
  refine Has.at H q ?_
  simp only [List.getD_eq_getElem?_getD, List.getElem?_map]
  cases vs[j.toNatClampNeg]? <;> rfl
def own_Nst (h : Heap) (x : Addr) : Prop := ∃ c : Cell, h[x]? = some c ∧ c.vm.isStatics = false
theorem own_nst_exa {Z : State} {h : Heap} {a : Addr} {C : String} (F : Exa Z h a C) : own_Nst h a := by
  obtain ⟨c, _, h1, _, _, h4, _⟩ := F
  exact ⟨c, h1, h4⟩
theorem own_nst_arv {Z : State} {h : Heap} {a : Addr} {k : ClassId} {ty : FieldType} {n : Int32} {vs : List Value} {d : Value} (F : Arv Z h a k ty n vs d) : own_Nst h a := by
  obtain ⟨c, A, _⟩ := F
  exact ⟨c, A.1, A.plain⟩
theorem own_sta_keep {Z : State} {h h' : Heap} {C n d : String} {v : Value} {ws : List Addr} (F : Sta Z h C n d v) (K : Keep h h' ws) (q : ∀ x ∈ ws, own_Nst h x) : Sta Z h' C n d v := by
  obtain ⟨cf, i, k, f, st, cell, h1, h2, h3, h4, h5, h6, h7⟩ := F
  refine ⟨cf, i, k, f, st, cell, h1, h2, h3, h4, K.2.1 _ _ h5 (fun z => ?_), h6, h7⟩
  obtain ⟨c, e1, e2⟩ := q _ z
  cases h5.symm.trans e1
  rw [h6] at e2
  cases e2
theorem own_sta_keep0 {Z : State} {h h' : Heap} {C n d : String} {v : Value} (F : Sta Z h C n d v) (K : Keep h h' []) : Sta Z h' C n d v := own_sta_keep F K (fun _ z => nomatch z)
end Own
section OwnStart
variable {args : Array Value} {Z : State} {t : Term} {a : Addr} {O n d : String}
theorem own_fldV {v : Value} (ev : t.eval args Z none [] Z = some (.ref a)) (h : (Term.field t O n d).eval args Z none [] Z = some v) : Fld Z Z.heap a O n d v := Fld.start ((fld_at ev).symm.trans h)
theorem own_len {cl : Cell} {ty : FieldType} {k : Int32} (ev : t.eval args Z none [] Z = some (.ref a)) (A : Arr Z Z.heap a cl ty) (h : (Cond.eq (.length t) (.int k)).value args Z none Z [] = some true) : cl.slots.size < 2 ^ 31 ∧ cl.slots.size.toInt32 = k := by
  have e := eqv_i (y := k) rfl h
  have ha := A.fin (Vm.Alike.refl _)
  by_cases q : cl.slots.size < 2 ^ 31
  · exact ⟨q, Value.int.inj (Option.some.inj ((len_f ev ha q).symm.trans e))⟩
  · simp [Term.eval, ev, ha, q] at e
theorem own_elI {cl : Cell} {ty : FieldType} {i k : Int32} (ev : t.eval args Z none [] Z = some (.ref a)) (A : Arr Z Z.heap a cl ty) (hi : ¬ i < 0) (h : (Cond.eq (.elem t (.int i)) (.int k)).value args Z none Z [] = some true) : cl.slots[i.toNatClampNeg]? = some (.int k) :=
  (elem_f ev rfl (A.fin (Vm.Alike.refl _)) hi).symm.trans (eqv_i (y := k) rfl h)
theorem own_elJ {cl : Cell} {ty : FieldType} {i : Int32} {k : Int64} (ev : t.eval args Z none [] Z = some (.ref a)) (A : Arr Z Z.heap a cl ty) (hi : ¬ i < 0) (h : (Cond.eq (.elem t (.int i)) (.long k)).value args Z none Z [] = some true) : cl.slots[i.toNatClampNeg]? = some (.long k) :=
  (elem_f ev rfl (A.fin (Vm.Alike.refl _)) hi).symm.trans (eqv_l (y := k) rfl h)
end OwnStart
end Jvm.RoadKit
namespace Jvm.Pilot.@@N@@
open Jvm Jvm.ClassFile Sem Op Lib Jvm.Free Jvm.Stand Jvm.LawKit Jvm.RoadKit Bundle Jvm.Pilot.@@N@@.Jvm.D
theorem own_w {ts : List Jvm.Cond} {Z : State} {a0 : Array Value} (hw : ∀ d ∈ ts, d.before a0 Z = true) (i : Nat) {d : Jvm.Cond} (h : ts[i]? = some d) : d.before a0 Z = true := hw d (List.mem_of_getElem? h)
open Jvm.FP.Core (DInt l2d_int i2d_int dadd_int dmul_int dcmp_int)
theorem own_nn {i : Int} {a : UInt64} (h : DInt i a) : Jvm.Free.Fl.NoNaN64 a := Jvm.Free.Fl.val64_no.mpr fun q => by
  unfold DInt at h
  rw [q] at h
  exact h
/-- the whole number that a component is -/
def own_c (p : Int32) : Int := ((p % (1048576 : Int32)).toInt64).toInt
theorem own_cb (p : Int32) : -1048576 < own_c p ∧ own_c p < 1048576 := by
  have h1 := c_irem p (1048576 : Int32) 1048576 (by decide)
  have h2 := rng32 p
  unfold own_c
  rw [c_i2l]
  by_cases q : 0 ≤ p.toInt
  · have := h1.1 q; omega
  · have := h1.2 (by omega); omega
theorem own_pb (p q : Int32) : -1099511627776 < own_c p * own_c q ∧ own_c p * own_c q < 1099511627776 := by
  have h1 := own_cb p
  have h2 := own_cb q
  have h3 : (own_c p * own_c q).natAbs < 1099511627776 := by
    rw [Int.natAbs_mul]
    have a1 : (own_c p).natAbs ≤ 1048575 := by omega
    have a2 : (own_c q).natAbs ≤ 1048575 := by omega
    exact Nat.lt_of_le_of_lt (Nat.mul_le_mul a1 a2) (by decide)
  omega
abbrev own_e (p : Int32) : UInt64 := FP.l2d ((p % (1048576 : Int32)).toInt64)
theorem own_ei (p : Int32) : Jvm.FP.Core.DInt (own_c p) (own_e p) := l2d_int (by have := own_cb p; unfold own_c at this; omega)
theorem own_mi (p q : Int32) : Jvm.FP.Core.DInt (own_c p * own_c q) (FP.dmul (own_e p) (own_e q)) := dmul_int (own_ei p) (own_ei q) (by have := own_pb p q; omega)
theorem own_s2 (a b c d : Int32) : Jvm.FP.Core.DInt (own_c a * own_c b + own_c c * own_c d) (FP.dadd (FP.dmul (own_e a) (own_e b)) (FP.dmul (own_e c) (own_e d))) := dadd_int (own_mi a b) (own_mi c d) (by have := own_pb a b; have := own_pb c d; omega)
theorem own_s3 (a b c d e f : Int32) : Jvm.FP.Core.DInt (own_c a * own_c b + own_c c * own_c d + own_c e * own_c f) (FP.dadd (FP.dadd (FP.dmul (own_e a) (own_e b)) (FP.dmul (own_e c) (own_e d))) (FP.dmul (own_e e) (own_e f))) := dadd_int (own_s2 a b c d) (own_mi e f) (by have := own_pb a b; have := own_pb c d; have := own_pb e f; omega)
abbrev own_ref (a b c d e f : Int32) : Int64 := (((((a % (1048576 : Int32)).toInt64) * ((b % (1048576 : Int32)).toInt64)) + (((c % (1048576 : Int32)).toInt64) * ((d % (1048576 : Int32)).toInt64))) + (((e % (1048576 : Int32)).toInt64) * ((f % (1048576 : Int32)).toInt64)))
theorem own_mul (p q : Int32) : (((p % (1048576 : Int32)).toInt64) * ((q % (1048576 : Int32)).toInt64)).toInt = own_c p * own_c q := by
  have h1 := c_lmul ((p % (1048576 : Int32)).toInt64) ((q % (1048576 : Int32)).toInt64)
  have h2 := rng64 (((p % (1048576 : Int32)).toInt64) * ((q % (1048576 : Int32)).toInt64))
  have h3 := own_pb p q
  unfold own_c at *
  omega
theorem own_refi (a b c d e f : Int32) : (own_ref a b c d e f).toInt = own_c a * own_c b + own_c c * own_c d + own_c e * own_c f := by
  have h1 := own_mul a b
  have h2 := own_mul c d
  have h3 := own_mul e f
  have b1 := own_pb a b
  have b2 := own_pb c d
  have b3 := own_pb e f
  unfold own_ref
  generalize ((a % (1048576 : Int32)).toInt64) * ((b % (1048576 : Int32)).toInt64) = x at *
  generalize ((c % (1048576 : Int32)).toInt64) * ((d % (1048576 : Int32)).toInt64) = y at *
  generalize ((e % (1048576 : Int32)).toInt64) * ((f % (1048576 : Int32)).toInt64) = z at *
  have a1 := c_ladd x y
  have a2 := c_ladd (x + y) z
  have r1 := rng64 (x + y)
  have r2 := rng64 (x + y + z)
  omega
theorem own_refd (a b c d e f : Int32) : Jvm.FP.Core.DInt (own_c a * own_c b + own_c c * own_c d + own_c e * own_c f) (FP.l2d (own_ref a b c d e f)) := by
  have h := own_refi a b c d e f
  rw [← h]
  have b1 := own_pb a b
  have b2 := own_pb c d
  have b3 := own_pb e f
  exact l2d_int (by omega)
theorem own_cmp {i j : Int} {x y : UInt64} (hx : Jvm.FP.Core.DInt i x) (hy : Jvm.FP.Core.DInt j y) (h : i = j) : cmpValue (FP.dcmp x y) .l = (0 : Int32) := by
  subst h
  rw [show FP.dcmp x y = some (compare i i) from dcmp_int hx hy, Jvm.FP.Core.compare_self_int]
  rfl
theorem own_d1_0 : decode method_2_code 0 = .ok (.iload_n 0, 1) := by decide +kernel
theorem own_d1_1 : decode method_2_code 1 = .ok (.ldc 7, 2) := by decide +kernel
theorem own_d1_3 : decode method_2_code 3 = .ok (.irem, 1) := by decide +kernel
theorem own_d1_4 : decode method_2_code 4 = .ok (.i2l, 1) := by decide +kernel
theorem own_d1_5 : decode method_2_code 5 = .ok (.lreturn, 1) := by decide +kernel
theorem own_pn0 : plainName "com/example/taproom/taproom/geometry/VectorDotPinLaw" = true := by first | (simp [plainName, overriddenIn]; done) | decide +kernel
theorem own_ef1 (m : MethodId) (p0 : Int32) : entryFrame m #[(.int p0)] 1 = mkF m 0 #[.val (.int p0)] [] := by first | (simp [entryFrame, mkF, argsToLocals, Value.category]; done) | rfl
def own_Q1 (Z : State) (p0 : Int32) (h0 : Heap) (n0 : Nat) (v : Option Value) (h : Heap) (L : List Loc) : Prop := v = some (.long ((p0 % (1048576 : Int32)).toInt64)) ∧ Fr n0 L ∧ h = h0
set_option maxRecDepth 65536 in
set_option maxHeartbeats 40000000 in
theorem own_rm1 (l : Launch) (Z : State) (a0 : Array Value) (hw : ∀ d ∈ tables_1, d.before a0 Z = true) (ws : List Jvm.Cond) (p0 : Int32) (h0 : Heap) (n0 : Nat) (Z0 : n0 ≤ h0.size) :
    MetFree l (⟨"com/example/taproom/taproom/geometry/VectorDotPinLaw", "comp", "(I)J"⟩ : MethodName) (head1 (Jvm.Cond.code (⟨"com/example/taproom/taproom/geometry/VectorDotPinLaw", "comp", "(I)J"⟩ : MethodName) method_2_code 1 (some .long) :: ws) ({ frames := 0, cells := 0, slots := 0, locals := 0 } : Room)) (fun a U => a = #[(.int p0)] ∧ Z.Warmed39 U.vm ∧ U.heap = h0) (fun _ _ _ _ _ => True) (fun _ U o U' => ∃ v L, o = .returned v ∧ own_Q1 Z p0 h0 n0 v U'.heap L ∧ FrameEnd U o U' L ({ frames := 0, cells := 0, slots := 0, locals := 0 } : Room).cells ({ frames := 0, cells := 0, slots := 0, locals := 0 } : Room).slots) := by
  refine MetFree.of_bodySF (plainFor_of_name own_pn0) hisR ?_
  intro p e s m args below meth c s₁ Bd hml0 hP hK
  obtain ⟨rfl, hZ, hh⟩ := hP
  have hx := Bd.exec
  have hby := Bd.bytes
  have hlk := Bd.notSynchronized
  have hml : c.maxLocals = 1 := hml0
  have hown : s.vm.findClass "com/example/taproom/taproom/geometry/VectorDotPinLaw" = some m.cls := findClass_of_methodNamed Bd.named
  have hnm := (name_of_methodNamed Bd.named Bd.method).1
  have X0 : Stand p l e ({ frames := 0, cells := 0, slots := 0, locals := 0 } : Room) s m #[(.int p0)] below meth c s₁ [] 0 0 := Stand.of_body Bd
  have e0 : s₁.heap = h0 := by rw [← hh, Bd.state]; rfl
  have N0 := Fr.nil n0
  have KR : Keep h0 h0 [] := Keep.refl _ _
  show own_Fin p e below s ({ frames := 0, cells := 0, slots := 0, locals := 0 } : Room).cells ({ frames := 0, cells := 0, slots := 0, locals := 0 } : Room).slots (own_Q1 Z p0 h0 n0) (s₁.setTop (entryFrame m #[(.int p0)] 1))
  refine own_cast (own_ef1 m p0) ?_
  refine own_step (fun _ k => XS.iloadN X0.here hx rfl (hb hby own_d1_0) rfl k) ?_
  show own_Fin p e below s _ _ _ (s₁.setTop (mkF m 1 #[.val (.int p0)] [(.int p0)]))
  refine own_step (fun _ k => X0.ldcInt hx hown (mvT hZ (own_w hw 4 rfl)) (g := (mkF m 1 #[.val (.int p0)] [(.int p0)])) rfl (hb hby own_d1_1) _ k) ?_
  show own_Fin p e below s _ _ _ (s₁.setTop (mkF m 3 #[.val (.int p0)] [(.int (1048576 : Int32)), (.int p0)]))
  refine own_step (fun _ k => iremM (g := (mkF m 3 #[.val (.int p0)] [(.int (1048576 : Int32)), (.int p0)])) X0 hx rfl (hb hby own_d1_3) rfl (by decide) k) ?_
  show own_Fin p e below s _ _ _ (s₁.setTop (mkF m 4 #[.val (.int p0)] [(.int (p0 % (1048576 : Int32)))]))
  refine own_step (fun _ k => XS.i2l X0.here hx rfl (hb hby own_d1_4) rfl k) ?_
  show own_Fin p e below s _ _ _ (s₁.setTop (mkF m 5 #[.val (.int p0)] [(.long ((p0 % (1048576 : Int32)).toInt64))]))
  exact own_ret X0 hlk (v := some (.long ((p0 % (1048576 : Int32)).toInt64))) (fun h => by rw [Bd.returns] at h; cases h) (by decide) (by decide) (by show own_Q1 Z p0 h0 n0 _ s₁.heap _; rw [e0]; exact ⟨rfl, N0, rfl⟩) (fun fs hr => retOut X0 hx Bd.returns rfl (Or.inr (Or.inl ⟨rfl, rfl, _, rfl⟩)) (hb hby own_d1_5) hr)

theorem own_d2_0 : decode jdk_30_method_1_code 0 = .ok (.aload_n 0, 1) := by decide +kernel
theorem own_d2_1 : decode jdk_30_method_1_code 1 = .ok (.invokespecial 1, 3) := by decide +kernel
theorem own_d2_4 : decode jdk_30_method_1_code 4 = .ok (.return_, 1) := by decide +kernel
theorem own_pn1 : plainName "java/lang/Record" = true := by first | (simp [plainName, overriddenIn]; done) | decide +kernel
theorem own_ef2 (m : MethodId) (ad0 : Addr) : entryFrame m #[(.ref ad0)] 1 = mkF m 0 #[.val (.ref ad0)] [] := by first | (simp [entryFrame, mkF, argsToLocals, Value.category]; done) | rfl
def own_Q2 (Z : State) (ad0 : Addr) (h0 : Heap) (n0 : Nat) (v : Option Value) (h : Heap) (L : List Loc) : Prop := v = none ∧ Fr n0 L ∧ h = h0
set_option maxRecDepth 65536 in
set_option maxHeartbeats 40000000 in
theorem own_rm2 (l : Launch) (Z : State) (a0 : Array Value) (hw : ∀ d ∈ tables_1, d.before a0 Z = true) (ws : List Jvm.Cond) (ad0 : Addr) (h0 : Heap) (n0 : Nat) (Z0 : n0 ≤ h0.size) :
    MetFree l (⟨"java/lang/Record", "<init>", "()V"⟩ : MethodName) (head1 (Jvm.Cond.code (⟨"java/lang/Record", "<init>", "()V"⟩ : MethodName) jdk_30_method_1_code 1 none :: ws) ({ frames := 1, cells := 0, slots := 0, locals := 12 } : Room)) (fun a U => a = #[(.ref ad0)] ∧ Z.Warmed39 U.vm ∧ U.heap = h0) (fun _ _ _ _ _ => True) (fun _ U o U' => ∃ v L, o = .returned v ∧ own_Q2 Z ad0 h0 n0 v U'.heap L ∧ FrameEnd U o U' L ({ frames := 1, cells := 0, slots := 0, locals := 12 } : Room).cells ({ frames := 1, cells := 0, slots := 0, locals := 12 } : Room).slots) := by
  refine MetFree.of_bodySF (plainFor_of_name own_pn1) hisR ?_
  intro p e s m args below meth c s₁ Bd hml0 hP hK
  obtain ⟨rfl, hZ, hh⟩ := hP
  have hx := Bd.exec
  have hby := Bd.bytes
  have hlk := Bd.notSynchronized
  have hml : c.maxLocals = 1 := hml0
  have hown : s.vm.findClass "java/lang/Record" = some m.cls := findClass_of_methodNamed Bd.named
  have hnm := (name_of_methodNamed Bd.named Bd.method).1
  have X0 : Stand p l e ({ frames := 1, cells := 0, slots := 0, locals := 12 } : Room) s m #[(.ref ad0)] below meth c s₁ [] 0 0 := Stand.of_body Bd
  have e0 : s₁.heap = h0 := by rw [← hh, Bd.state]; rfl
  have N0 := Fr.nil n0
  have KR : Keep h0 h0 [] := Keep.refl _ _
  show own_Fin p e below s ({ frames := 1, cells := 0, slots := 0, locals := 12 } : Room).cells ({ frames := 1, cells := 0, slots := 0, locals := 12 } : Room).slots (own_Q2 Z ad0 h0 n0) (s₁.setTop (entryFrame m #[(.ref ad0)] 1))
  refine own_cast (own_ef2 m ad0) ?_
  refine own_step (fun _ k => XS.aloadN X0.here hx rfl (hb hby own_d2_0) rfl rfl k) ?_
  show own_Fin p e below s _ _ _ (s₁.setTop (mkF m 1 #[.val (.ref ad0)] [(.ref ad0)]))
  obtain ⟨T1, X1, e1, st1⟩ := initO X0 hx hZ hown (own_w hw 16 rfl) (own_w hw 17 rfl) (own_w hw 18 rfl) e0 (g := (mkF m 1 #[.val (.ref ad0)] [(.ref ad0)])) rfl (by rw [hml]; rfl) rfl (hb hby own_d2_1) (by decide) (W := 0) (by show 2 * 0 + _ ≤ _; exact Nat.le_of_eq rfl) (by decide)
  refine own_step st1 ?_
  show own_Fin p e below s _ _ _ (T1.setTop (mkF m 4 #[.val (.ref ad0)] []))
  exact own_ret X1 hlk (v := none) (fun _ => rfl) (by decide) (by decide) (by show own_Q2 Z ad0 h0 n0 _ T1.heap _; rw [e1]; exact ⟨rfl, N0, rfl⟩) (fun fs hr => X1.returnOut hx Bd.returns (hb hby own_d2_4) hr)

theorem own_pd0 : parseMethodDescriptor "()V" = some ⟨[], none⟩ := by decide +kernel
abbrev own_y0 : MethodName := (⟨"java/lang/Record", "<init>", "()V"⟩ : MethodName)
theorem own_d3_0 : decode prog_28_method_1_code 0 = .ok (.aload_n 0, 1) := by decide +kernel
theorem own_d3_1 : decode prog_28_method_1_code 1 = .ok (.invokespecial 1, 3) := by decide +kernel
theorem own_d3_4 : decode prog_28_method_1_code 4 = .ok (.aload_n 0, 1) := by decide +kernel
theorem own_d3_5 : decode prog_28_method_1_code 5 = .ok (.dload_n 1, 1) := by decide +kernel
theorem own_d3_6 : decode prog_28_method_1_code 6 = .ok (.putfield 7, 3) := by decide +kernel
theorem own_d3_9 : decode prog_28_method_1_code 9 = .ok (.aload_n 0, 1) := by decide +kernel
theorem own_d3_10 : decode prog_28_method_1_code 10 = .ok (.dload_n 3, 1) := by decide +kernel
theorem own_d3_11 : decode prog_28_method_1_code 11 = .ok (.putfield 13, 3) := by decide +kernel
theorem own_d3_14 : decode prog_28_method_1_code 14 = .ok (.aload_n 0, 1) := by decide +kernel
theorem own_d3_15 : decode prog_28_method_1_code 15 = .ok (.dload 5, 2) := by decide +kernel
theorem own_d3_17 : decode prog_28_method_1_code 17 = .ok (.putfield 16, 3) := by decide +kernel
theorem own_d3_20 : decode prog_28_method_1_code 20 = .ok (.return_, 1) := by decide +kernel
theorem own_pn2 : plainName "com/example/taproom/taproom/geometry/Vector" = true := by first | (simp [plainName, overriddenIn]; done) | decide +kernel
theorem own_ef3 (m : MethodId) (ad0 : Addr) (z1 : UInt64) (z2 : UInt64) (z3 : UInt64) : entryFrame m #[(.ref ad0), (.double z1), (.double z2), (.double z3)] 7 = mkF m 0 #[.val (.ref ad0), .val (.double z1), .second, .val (.double z2), .second, .val (.double z3), .second] [] := by first | (simp [entryFrame, mkF, argsToLocals, Value.category]; done) | rfl
def own_Q3 (Z : State) (ad0 : Addr) (z1 : UInt64) (z2 : UInt64) (z3 : UInt64) (ux_ad0 : Value) (uy_ad0 : Value) (uz_ad0 : Value) (h0 : Heap) (n0 : Nat) (v : Option Value) (h : Heap) (L : List Loc) : Prop := Fr n0 L ∧ Keep h0 h [ad0] ∧ v = none ∧ Exa Z h ad0 "com/example/taproom/taproom/geometry/Vector" ∧ Fld Z h ad0 "com/example/taproom/taproom/geometry/Vector" "x" "D" (.double z1) ∧ Fld Z h ad0 "com/example/taproom/taproom/geometry/Vector" "y" "D" (.double z2) ∧ Fld Z h ad0 "com/example/taproom/taproom/geometry/Vector" "z" "D" (.double z3)
set_option maxRecDepth 65536 in
set_option maxHeartbeats 40000000 in
theorem own_rm3 (l : Launch) (Z : State) (a0 : Array Value) (hw : ∀ d ∈ tables_1, d.before a0 Z = true) (ws : List Jvm.Cond) (ad0 : Addr) (z1 : UInt64) (z2 : UInt64) (z3 : UInt64) (ux_ad0 : Value) (uy_ad0 : Value) (uz_ad0 : Value) (h0 : Heap) (n0 : Nat) (Z0 : n0 ≤ h0.size) (E_ad0 : Exa Z h0 ad0 "com/example/taproom/taproom/geometry/Vector") (F_x_ad0 : Fld Z h0 ad0 "com/example/taproom/taproom/geometry/Vector" "x" "D" ux_ad0) (F_y_ad0 : Fld Z h0 ad0 "com/example/taproom/taproom/geometry/Vector" "y" "D" uy_ad0) (F_z_ad0 : Fld Z h0 ad0 "com/example/taproom/taproom/geometry/Vector" "z" "D" uz_ad0) (g_ad0 : n0 ≤ ad0) :
    MetFree l (⟨"com/example/taproom/taproom/geometry/Vector", "<init>", "(DDD)V"⟩ : MethodName) (head1 (Jvm.Cond.code (⟨"com/example/taproom/taproom/geometry/Vector", "<init>", "(DDD)V"⟩ : MethodName) prog_28_method_1_code 7 none :: ws) ({ frames := 2, cells := 0, slots := 0, locals := 24 } : Room)) (fun a U => a = #[(.ref ad0), (.double z1), (.double z2), (.double z3)] ∧ Z.Warmed39 U.vm ∧ U.heap = h0) (fun _ _ _ _ _ => True) (fun _ U o U' => ∃ v L, o = .returned v ∧ own_Q3 Z ad0 z1 z2 z3 ux_ad0 uy_ad0 uz_ad0 h0 n0 v U'.heap L ∧ FrameEnd U o U' L ({ frames := 2, cells := 0, slots := 0, locals := 24 } : Room).cells ({ frames := 2, cells := 0, slots := 0, locals := 24 } : Room).slots) := by
  refine MetFree.of_bodySF (plainFor_of_name own_pn2) hisR ?_
  intro p e s m args below meth c s₁ Bd hml0 hP hK
  obtain ⟨rfl, hZ, hh⟩ := hP
  have hx := Bd.exec
  have hby := Bd.bytes
  have hlk := Bd.notSynchronized
  have hml : c.maxLocals = 7 := hml0
  have hown : s.vm.findClass "com/example/taproom/taproom/geometry/Vector" = some m.cls := findClass_of_methodNamed Bd.named
  have hnm := (name_of_methodNamed Bd.named Bd.method).1
  have X0 : Stand p l e ({ frames := 2, cells := 0, slots := 0, locals := 24 } : Room) s m #[(.ref ad0), (.double z1), (.double z2), (.double z3)] below meth c s₁ [] 0 0 := Stand.of_body Bd
  have e0 : s₁.heap = h0 := by rw [← hh, Bd.state]; rfl
  have N0 := Fr.nil n0
  have KR : Keep h0 h0 [ad0] := Keep.refl _ _
  show own_Fin p e below s ({ frames := 2, cells := 0, slots := 0, locals := 24 } : Room).cells ({ frames := 2, cells := 0, slots := 0, locals := 24 } : Room).slots (own_Q3 Z ad0 z1 z2 z3 ux_ad0 uy_ad0 uz_ad0 h0 n0) (s₁.setTop (entryFrame m #[(.ref ad0), (.double z1), (.double z2), (.double z3)] 7))
  refine own_cast (own_ef3 m ad0 z1 z2 z3) ?_
  refine own_step (fun _ k => XS.aloadN X0.here hx rfl (hb hby own_d3_0) rfl rfl k) ?_
  show own_Fin p e below s _ _ _ (s₁.setTop (mkF m 1 #[.val (.ref ad0), .val (.double z1), .second, .val (.double z2), .second, .val (.double z3), .second] [(.ref ad0)]))
  obtain ⟨_, _, ⟨T1, L1, k1, n1⟩, -, X1, ⟨Lc1, hQ1, l1, y1, z1⟩, st1⟩ := X0.specialBack hx (y := own_y0) rfl hown (mvT hZ (own_w hw 11 rfl)) (mvT hZ (own_w hw 12 rfl)) (mvT hZ (own_w hw 15 rfl)) (by decide) (backOf (W := 0) (own_rm2 l Z a0 hw [] ad0 h0 n0 Z0 ) hZ (own_w hw 15 rfl) (own_w hw 14 rfl) (by decide) (by decide)) (g := (mkF m 1 #[.val (.ref ad0), .val (.double z1), .second, .val (.double z2), .second, .val (.double z3), .second] [(.ref ad0)])) rfl (by rw [hml]; rfl) (Steps.refl _) (a := ad0) (argsL := []) (rest := []) (lenOf own_pd0 rfl) rfl (by show 2 * 0 + _ ≤ _; exact Nat.le_of_eq rfl) (hb hby own_d3_1) (fun _ _ => ⟨rfl, e0, (by decide : 0 + 0 ≤ _), (by decide : 0 + 0 ≤ _)⟩)
  dsimp only [Pt.U, Pt.locs, Pt.cells, Pt.slots] at X1 l1 y1 z1 st1 hQ1
  subst l1 y1 z1
  obtain ⟨rfl, N1q, e1⟩ := hQ1
  have N1 := Fr.app N0 N1q
  refine own_step (fun _ k => st1.trans k) ?_
  show own_Fin p e below s _ _ _ (T1.setTop (mkF m 4 #[.val (.ref ad0), .val (.double z1), .second, .val (.double z2), .second, .val (.double z3), .second] []))
  refine own_step (fun _ k => XS.aloadN X1.here hx rfl (hb hby own_d3_4) rfl rfl k) ?_
  show own_Fin p e below s _ _ _ (T1.setTop (mkF m 5 #[.val (.ref ad0), .val (.double z1), .second, .val (.double z2), .second, .val (.double z3), .second] [(.ref ad0)]))
  refine own_step (fun _ k => XS.dloadN X1.here hx rfl (hb hby own_d3_5) rfl k) ?_
  show own_Fin p e below s _ _ _ (T1.setTop (mkF m 6 #[.val (.ref ad0), .val (.double z1), .second, .val (.double z2), .second, .val (.double z3), .second] [(.double z1), (.ref ad0)]))
  obtain ⟨T2, h2, X2, e2, W2, st2⟩ := putF X1 hx hZ hown (host := "") (Or.inl (own_w hw 19 rfl)) Via.refl e1 F_x_ad0 E_ad0 (Or.inr ⟨(own_w hw 20 rfl), rfl, hnm⟩) (own_w hw 6 rfl) (ty := .double) (by decide) rfl rfl (g := (mkF m 6 #[.val (.ref ad0), .val (.double z1), .second, .val (.double z2), .second, .val (.double z3), .second] [(.double z1), (.ref ad0)])) rfl rfl (hb hby own_d3_6)
  have N2 := Fr.snoc X2 N1 g_ad0
  have K2 : Keep h0 h2 [ad0] := KR.wr W2 (Or.inl (List.mem_of_getElem? (i := 0) rfl))
  have Z2 : n0 ≤ h2.size := Nat.le_trans Z0 (Keep.of_wr W2).1
  have G3 := (E_ad0.wr W2)
  have G4 := (F_y_ad0.other W2 (Or.inr (slot_ne (Or.inr (own_w hw 22 rfl)) (Or.inr (own_w hw 20 rfl)) (by decide) (t := .double) (t' := .double) (by decide) (by decide))))
  have G5 := (F_z_ad0.other W2 (Or.inr (slot_ne (Or.inr (own_w hw 24 rfl)) (Or.inr (own_w hw 20 rfl)) (by decide) (t := .double) (t' := .double) (by decide) (by decide))))
  have G6 := F_x_ad0.same W2
  refine own_step st2 ?_
  show own_Fin p e below s _ _ _ (T2.setTop (mkF m 9 #[.val (.ref ad0), .val (.double z1), .second, .val (.double z2), .second, .val (.double z3), .second] []))
  refine own_step (fun _ k => XS.aloadN X2.here hx rfl (hb hby own_d3_9) rfl rfl k) ?_
  show own_Fin p e below s _ _ _ (T2.setTop (mkF m 10 #[.val (.ref ad0), .val (.double z1), .second, .val (.double z2), .second, .val (.double z3), .second] [(.ref ad0)]))
  refine own_step (fun _ k => XS.dloadN X2.here hx rfl (hb hby own_d3_10) rfl k) ?_
  show own_Fin p e below s _ _ _ (T2.setTop (mkF m 11 #[.val (.ref ad0), .val (.double z1), .second, .val (.double z2), .second, .val (.double z3), .second] [(.double z2), (.ref ad0)]))
  obtain ⟨T7, h7, X7, e7, W7, st7⟩ := putF X2 hx hZ hown (host := "") (Or.inl (own_w hw 21 rfl)) Via.refl e2 G4 G3 (Or.inr ⟨(own_w hw 22 rfl), rfl, hnm⟩) (own_w hw 6 rfl) (ty := .double) (by decide) rfl rfl (g := (mkF m 11 #[.val (.ref ad0), .val (.double z1), .second, .val (.double z2), .second, .val (.double z3), .second] [(.double z2), (.ref ad0)])) rfl rfl (hb hby own_d3_11)
  have N7 := Fr.snoc X7 N2 g_ad0
  have K7 : Keep h0 h7 [ad0] := K2.wr W7 (Or.inl (List.mem_of_getElem? (i := 0) rfl))
  have Z7 : n0 ≤ h7.size := Nat.le_trans Z2 (Keep.of_wr W7).1
  have G8 := (G3.wr W7)
  have G9 := (G5.other W7 (Or.inr (slot_ne (Or.inr (own_w hw 24 rfl)) (Or.inr (own_w hw 22 rfl)) (by decide) (t := .double) (t' := .double) (by decide) (by decide))))
  have G10 := (G6.other W7 (Or.inr (slot_ne (Or.inr (own_w hw 20 rfl)) (Or.inr (own_w hw 22 rfl)) (by decide) (t := .double) (t' := .double) (by decide) (by decide))))
  have G11 := G4.same W7
  refine own_step st7 ?_
  show own_Fin p e below s _ _ _ (T7.setTop (mkF m 14 #[.val (.ref ad0), .val (.double z1), .second, .val (.double z2), .second, .val (.double z3), .second] []))
  refine own_step (fun _ k => XS.aloadN X7.here hx rfl (hb hby own_d3_14) rfl rfl k) ?_
  show own_Fin p e below s _ _ _ (T7.setTop (mkF m 15 #[.val (.ref ad0), .val (.double z1), .second, .val (.double z2), .second, .val (.double z3), .second] [(.ref ad0)]))
  refine own_step (fun _ k => XS.dload X7.here hx rfl (hb hby own_d3_15) rfl k) ?_
  show own_Fin p e below s _ _ _ (T7.setTop (mkF m 17 #[.val (.ref ad0), .val (.double z1), .second, .val (.double z2), .second, .val (.double z3), .second] [(.double z3), (.ref ad0)]))
  obtain ⟨T12, h12, X12, e12, W12, st12⟩ := putF X7 hx hZ hown (host := "") (Or.inl (own_w hw 23 rfl)) Via.refl e7 G9 G8 (Or.inr ⟨(own_w hw 24 rfl), rfl, hnm⟩) (own_w hw 6 rfl) (ty := .double) (by decide) rfl rfl (g := (mkF m 17 #[.val (.ref ad0), .val (.double z1), .second, .val (.double z2), .second, .val (.double z3), .second] [(.double z3), (.ref ad0)])) rfl rfl (hb hby own_d3_17)
  have N12 := Fr.snoc X12 N7 g_ad0
  have K12 : Keep h0 h12 [ad0] := K7.wr W12 (Or.inl (List.mem_of_getElem? (i := 0) rfl))
  have Z12 : n0 ≤ h12.size := Nat.le_trans Z7 (Keep.of_wr W12).1
  have G13 := (G8.wr W12)
  have G14 := (G10.other W12 (Or.inr (slot_ne (Or.inr (own_w hw 20 rfl)) (Or.inr (own_w hw 24 rfl)) (by decide) (t := .double) (t' := .double) (by decide) (by decide))))
  have G15 := (G11.other W12 (Or.inr (slot_ne (Or.inr (own_w hw 22 rfl)) (Or.inr (own_w hw 24 rfl)) (by decide) (t := .double) (t' := .double) (by decide) (by decide))))
  have G16 := G9.same W12
  refine own_step st12 ?_
  show own_Fin p e below s _ _ _ (T12.setTop (mkF m 20 #[.val (.ref ad0), .val (.double z1), .second, .val (.double z2), .second, .val (.double z3), .second] []))
  exact own_ret X12 hlk (v := none) (fun _ => rfl) (by decide) (by decide) (by show own_Q3 Z ad0 z1 z2 z3 ux_ad0 uy_ad0 uz_ad0 h0 n0 _ T12.heap _; rw [e12]; exact ⟨N12, K12, rfl, G13, G14, G15, G16⟩) (fun fs hr => X12.returnOut hx Bd.returns (hb hby own_d3_20) hr)

theorem own_d4_0 : decode prog_28_method_5_code 0 = .ok (.aload_n 0, 1) := by decide +kernel
theorem own_d4_1 : decode prog_28_method_5_code 1 = .ok (.getfield 7, 3) := by decide +kernel
theorem own_d4_4 : decode prog_28_method_5_code 4 = .ok (.aload_n 1, 1) := by decide +kernel
theorem own_d4_5 : decode prog_28_method_5_code 5 = .ok (.getfield 7, 3) := by decide +kernel
theorem own_d4_8 : decode prog_28_method_5_code 8 = .ok (.dmul, 1) := by decide +kernel
theorem own_d4_9 : decode prog_28_method_5_code 9 = .ok (.aload_n 0, 1) := by decide +kernel
theorem own_d4_10 : decode prog_28_method_5_code 10 = .ok (.getfield 13, 3) := by decide +kernel
theorem own_d4_13 : decode prog_28_method_5_code 13 = .ok (.aload_n 1, 1) := by decide +kernel
theorem own_d4_14 : decode prog_28_method_5_code 14 = .ok (.getfield 13, 3) := by decide +kernel
theorem own_d4_17 : decode prog_28_method_5_code 17 = .ok (.dmul, 1) := by decide +kernel
theorem own_d4_18 : decode prog_28_method_5_code 18 = .ok (.dadd, 1) := by decide +kernel
theorem own_d4_19 : decode prog_28_method_5_code 19 = .ok (.aload_n 0, 1) := by decide +kernel
theorem own_d4_20 : decode prog_28_method_5_code 20 = .ok (.getfield 16, 3) := by decide +kernel
theorem own_d4_23 : decode prog_28_method_5_code 23 = .ok (.aload_n 1, 1) := by decide +kernel
theorem own_d4_24 : decode prog_28_method_5_code 24 = .ok (.getfield 16, 3) := by decide +kernel
theorem own_d4_27 : decode prog_28_method_5_code 27 = .ok (.dmul, 1) := by decide +kernel
theorem own_d4_28 : decode prog_28_method_5_code 28 = .ok (.dadd, 1) := by decide +kernel
theorem own_d4_29 : decode prog_28_method_5_code 29 = .ok (.dreturn, 1) := by decide +kernel
theorem own_ef4 (m : MethodId) (ad0 : Addr) (ad1 : Addr) : entryFrame m #[(.ref ad0), (.ref ad1)] 2 = mkF m 0 #[.val (.ref ad0), .val (.ref ad1)] [] := by first | (simp [entryFrame, mkF, argsToLocals, Value.category]; done) | rfl
def own_Q4 (Z : State) (ad0 : Addr) (ad1 : Addr) (wx_ad0 : UInt64) (wx_ad1 : UInt64) (wy_ad0 : UInt64) (wy_ad1 : UInt64) (wz_ad0 : UInt64) (wz_ad1 : UInt64) (h0 : Heap) (n0 : Nat) (v : Option Value) (h : Heap) (L : List Loc) : Prop := v = some (.double (FP.dadd (FP.dadd (FP.dmul wx_ad0 wx_ad1) (FP.dmul wy_ad0 wy_ad1)) (FP.dmul wz_ad0 wz_ad1))) ∧ Fr n0 L ∧ h = h0
set_option maxRecDepth 65536 in
set_option maxHeartbeats 40000000 in
theorem own_rm4 (l : Launch) (Z : State) (a0 : Array Value) (hw : ∀ d ∈ tables_1, d.before a0 Z = true) (ws : List Jvm.Cond) (ad0 : Addr) (ad1 : Addr) (wx_ad0 : UInt64) (wx_ad1 : UInt64) (wy_ad0 : UInt64) (wy_ad1 : UInt64) (wz_ad0 : UInt64) (wz_ad1 : UInt64) (h0 : Heap) (n0 : Nat) (Z0 : n0 ≤ h0.size) (F_x_ad0 : Fld Z h0 ad0 "com/example/taproom/taproom/geometry/Vector" "x" "D" (.double wx_ad0)) (F_x_ad1 : Fld Z h0 ad1 "com/example/taproom/taproom/geometry/Vector" "x" "D" (.double wx_ad1)) (nn8_2 : Jvm.Free.Fl.NoNaN64 (FP.dmul wx_ad0 wx_ad1)) (F_y_ad0 : Fld Z h0 ad0 "com/example/taproom/taproom/geometry/Vector" "y" "D" (.double wy_ad0)) (F_y_ad1 : Fld Z h0 ad1 "com/example/taproom/taproom/geometry/Vector" "y" "D" (.double wy_ad1)) (nn17_5 : Jvm.Free.Fl.NoNaN64 (FP.dmul wy_ad0 wy_ad1)) (nn18_6 : Jvm.Free.Fl.NoNaN64 (FP.dadd (FP.dmul wx_ad0 wx_ad1) (FP.dmul wy_ad0 wy_ad1))) (F_z_ad0 : Fld Z h0 ad0 "com/example/taproom/taproom/geometry/Vector" "z" "D" (.double wz_ad0)) (F_z_ad1 : Fld Z h0 ad1 "com/example/taproom/taproom/geometry/Vector" "z" "D" (.double wz_ad1)) (nn27_9 : Jvm.Free.Fl.NoNaN64 (FP.dmul wz_ad0 wz_ad1)) (nn28_10 : Jvm.Free.Fl.NoNaN64 (FP.dadd (FP.dadd (FP.dmul wx_ad0 wx_ad1) (FP.dmul wy_ad0 wy_ad1)) (FP.dmul wz_ad0 wz_ad1))) :
    MetFree l (⟨"com/example/taproom/taproom/geometry/Vector", "dot", "(Lcom/example/taproom/taproom/geometry/Vector;)D"⟩ : MethodName) (head1 (Jvm.Cond.code (⟨"com/example/taproom/taproom/geometry/Vector", "dot", "(Lcom/example/taproom/taproom/geometry/Vector;)D"⟩ : MethodName) prog_28_method_5_code 2 (some .double) :: ws) ({ frames := 0, cells := 0, slots := 0, locals := 0 } : Room)) (fun a U => a = #[(.ref ad0), (.ref ad1)] ∧ Z.Warmed39 U.vm ∧ U.heap = h0) (fun _ _ _ _ _ => True) (fun _ U o U' => ∃ v L, o = .returned v ∧ own_Q4 Z ad0 ad1 wx_ad0 wx_ad1 wy_ad0 wy_ad1 wz_ad0 wz_ad1 h0 n0 v U'.heap L ∧ FrameEnd U o U' L ({ frames := 0, cells := 0, slots := 0, locals := 0 } : Room).cells ({ frames := 0, cells := 0, slots := 0, locals := 0 } : Room).slots) := by
  refine MetFree.of_bodySF (plainFor_of_name own_pn2) hisR ?_
  intro p e s m args below meth c s₁ Bd hml0 hP hK
  obtain ⟨rfl, hZ, hh⟩ := hP
  have hx := Bd.exec
  have hby := Bd.bytes
  have hlk := Bd.notSynchronized
  have hml : c.maxLocals = 2 := hml0
  have hown : s.vm.findClass "com/example/taproom/taproom/geometry/Vector" = some m.cls := findClass_of_methodNamed Bd.named
  have hnm := (name_of_methodNamed Bd.named Bd.method).1
  have X0 : Stand p l e ({ frames := 0, cells := 0, slots := 0, locals := 0 } : Room) s m #[(.ref ad0), (.ref ad1)] below meth c s₁ [] 0 0 := Stand.of_body Bd
  have e0 : s₁.heap = h0 := by rw [← hh, Bd.state]; rfl
  have N0 := Fr.nil n0
  have KR : Keep h0 h0 [] := Keep.refl _ _
  show own_Fin p e below s ({ frames := 0, cells := 0, slots := 0, locals := 0 } : Room).cells ({ frames := 0, cells := 0, slots := 0, locals := 0 } : Room).slots (own_Q4 Z ad0 ad1 wx_ad0 wx_ad1 wy_ad0 wy_ad1 wz_ad0 wz_ad1 h0 n0) (s₁.setTop (entryFrame m #[(.ref ad0), (.ref ad1)] 2))
  refine own_cast (own_ef4 m ad0 ad1) ?_
  refine own_step (fun _ k => XS.aloadN X0.here hx rfl (hb hby own_d4_0) rfl rfl k) ?_
  show own_Fin p e below s _ _ _ (s₁.setTop (mkF m 1 #[.val (.ref ad0), .val (.ref ad1)] [(.ref ad0)]))
  obtain ⟨T1, X1, e1, st1⟩ := getF X0 hx hZ hown (host := "") (Or.inl (own_w hw 19 rfl)) Via.refl e0 F_x_ad0 (g := (mkF m 1 #[.val (.ref ad0), .val (.ref ad1)] [(.ref ad0)])) rfl rfl (hb hby own_d4_1)
  refine own_step st1 ?_
  show own_Fin p e below s _ _ _ (T1.setTop (mkF m 4 #[.val (.ref ad0), .val (.ref ad1)] [(.double wx_ad0)]))
  refine own_step (fun _ k => XS.aloadN X1.here hx rfl (hb hby own_d4_4) rfl rfl k) ?_
  show own_Fin p e below s _ _ _ (T1.setTop (mkF m 5 #[.val (.ref ad0), .val (.ref ad1)] [(.ref ad1), (.double wx_ad0)]))
  obtain ⟨T2, X2, e2, st2⟩ := getF X1 hx hZ hown (host := "") (Or.inl (own_w hw 19 rfl)) Via.refl e1 F_x_ad1 (g := (mkF m 5 #[.val (.ref ad0), .val (.ref ad1)] [(.ref ad1), (.double wx_ad0)])) rfl rfl (hb hby own_d4_5)
  refine own_step st2 ?_
  show own_Fin p e below s _ _ _ (T2.setTop (mkF m 8 #[.val (.ref ad0), .val (.ref ad1)] [(.double wx_ad1), (.double wx_ad0)]))
  refine own_step (fun _ k => XS.dmulS X2.here hx rfl (hb hby own_d4_8) rfl (show Jvm.Free.Fl.NoNaN64 (FP.dmul wx_ad0 wx_ad1) from nn8_2) rfl k) ?_
  show own_Fin p e below s _ _ _ (T2.setTop (mkF m 9 #[.val (.ref ad0), .val (.ref ad1)] [(.double (FP.dmul wx_ad0 wx_ad1))]))
  refine own_step (fun _ k => XS.aloadN X2.here hx rfl (hb hby own_d4_9) rfl rfl k) ?_
  show own_Fin p e below s _ _ _ (T2.setTop (mkF m 10 #[.val (.ref ad0), .val (.ref ad1)] [(.ref ad0), (.double (FP.dmul wx_ad0 wx_ad1))]))
  obtain ⟨T3, X3, e3, st3⟩ := getF X2 hx hZ hown (host := "") (Or.inl (own_w hw 21 rfl)) Via.refl e2 F_y_ad0 (g := (mkF m 10 #[.val (.ref ad0), .val (.ref ad1)] [(.ref ad0), (.double (FP.dmul wx_ad0 wx_ad1))])) rfl rfl (hb hby own_d4_10)
  refine own_step st3 ?_
  show own_Fin p e below s _ _ _ (T3.setTop (mkF m 13 #[.val (.ref ad0), .val (.ref ad1)] [(.double wy_ad0), (.double (FP.dmul wx_ad0 wx_ad1))]))
  refine own_step (fun _ k => XS.aloadN X3.here hx rfl (hb hby own_d4_13) rfl rfl k) ?_
  show own_Fin p e below s _ _ _ (T3.setTop (mkF m 14 #[.val (.ref ad0), .val (.ref ad1)] [(.ref ad1), (.double wy_ad0), (.double (FP.dmul wx_ad0 wx_ad1))]))
  obtain ⟨T4, X4, e4, st4⟩ := getF X3 hx hZ hown (host := "") (Or.inl (own_w hw 21 rfl)) Via.refl e3 F_y_ad1 (g := (mkF m 14 #[.val (.ref ad0), .val (.ref ad1)] [(.ref ad1), (.double wy_ad0), (.double (FP.dmul wx_ad0 wx_ad1))])) rfl rfl (hb hby own_d4_14)
  refine own_step st4 ?_
  show own_Fin p e below s _ _ _ (T4.setTop (mkF m 17 #[.val (.ref ad0), .val (.ref ad1)] [(.double wy_ad1), (.double wy_ad0), (.double (FP.dmul wx_ad0 wx_ad1))]))
  refine own_step (fun _ k => XS.dmulS X4.here hx rfl (hb hby own_d4_17) rfl (show Jvm.Free.Fl.NoNaN64 (FP.dmul wy_ad0 wy_ad1) from nn17_5) rfl k) ?_
  show own_Fin p e below s _ _ _ (T4.setTop (mkF m 18 #[.val (.ref ad0), .val (.ref ad1)] [(.double (FP.dmul wy_ad0 wy_ad1)), (.double (FP.dmul wx_ad0 wx_ad1))]))
  refine own_step (fun _ k => XS.daddS X4.here hx rfl (hb hby own_d4_18) rfl (show Jvm.Free.Fl.NoNaN64 (FP.dadd (FP.dmul wx_ad0 wx_ad1) (FP.dmul wy_ad0 wy_ad1)) from nn18_6) rfl k) ?_
  show own_Fin p e below s _ _ _ (T4.setTop (mkF m 19 #[.val (.ref ad0), .val (.ref ad1)] [(.double (FP.dadd (FP.dmul wx_ad0 wx_ad1) (FP.dmul wy_ad0 wy_ad1)))]))
  refine own_step (fun _ k => XS.aloadN X4.here hx rfl (hb hby own_d4_19) rfl rfl k) ?_
  show own_Fin p e below s _ _ _ (T4.setTop (mkF m 20 #[.val (.ref ad0), .val (.ref ad1)] [(.ref ad0), (.double (FP.dadd (FP.dmul wx_ad0 wx_ad1) (FP.dmul wy_ad0 wy_ad1)))]))
  obtain ⟨T5, X5, e5, st5⟩ := getF X4 hx hZ hown (host := "") (Or.inl (own_w hw 23 rfl)) Via.refl e4 F_z_ad0 (g := (mkF m 20 #[.val (.ref ad0), .val (.ref ad1)] [(.ref ad0), (.double (FP.dadd (FP.dmul wx_ad0 wx_ad1) (FP.dmul wy_ad0 wy_ad1)))])) rfl rfl (hb hby own_d4_20)
  refine own_step st5 ?_
  show own_Fin p e below s _ _ _ (T5.setTop (mkF m 23 #[.val (.ref ad0), .val (.ref ad1)] [(.double wz_ad0), (.double (FP.dadd (FP.dmul wx_ad0 wx_ad1) (FP.dmul wy_ad0 wy_ad1)))]))
  refine own_step (fun _ k => XS.aloadN X5.here hx rfl (hb hby own_d4_23) rfl rfl k) ?_
  show own_Fin p e below s _ _ _ (T5.setTop (mkF m 24 #[.val (.ref ad0), .val (.ref ad1)] [(.ref ad1), (.double wz_ad0), (.double (FP.dadd (FP.dmul wx_ad0 wx_ad1) (FP.dmul wy_ad0 wy_ad1)))]))
  obtain ⟨T6, X6, e6, st6⟩ := getF X5 hx hZ hown (host := "") (Or.inl (own_w hw 23 rfl)) Via.refl e5 F_z_ad1 (g := (mkF m 24 #[.val (.ref ad0), .val (.ref ad1)] [(.ref ad1), (.double wz_ad0), (.double (FP.dadd (FP.dmul wx_ad0 wx_ad1) (FP.dmul wy_ad0 wy_ad1)))])) rfl rfl (hb hby own_d4_24)
  refine own_step st6 ?_
  show own_Fin p e below s _ _ _ (T6.setTop (mkF m 27 #[.val (.ref ad0), .val (.ref ad1)] [(.double wz_ad1), (.double wz_ad0), (.double (FP.dadd (FP.dmul wx_ad0 wx_ad1) (FP.dmul wy_ad0 wy_ad1)))]))
  refine own_step (fun _ k => XS.dmulS X6.here hx rfl (hb hby own_d4_27) rfl (show Jvm.Free.Fl.NoNaN64 (FP.dmul wz_ad0 wz_ad1) from nn27_9) rfl k) ?_
  show own_Fin p e below s _ _ _ (T6.setTop (mkF m 28 #[.val (.ref ad0), .val (.ref ad1)] [(.double (FP.dmul wz_ad0 wz_ad1)), (.double (FP.dadd (FP.dmul wx_ad0 wx_ad1) (FP.dmul wy_ad0 wy_ad1)))]))
  refine own_step (fun _ k => XS.daddS X6.here hx rfl (hb hby own_d4_28) rfl (show Jvm.Free.Fl.NoNaN64 (FP.dadd (FP.dadd (FP.dmul wx_ad0 wx_ad1) (FP.dmul wy_ad0 wy_ad1)) (FP.dmul wz_ad0 wz_ad1)) from nn28_10) rfl k) ?_
  show own_Fin p e below s _ _ _ (T6.setTop (mkF m 29 #[.val (.ref ad0), .val (.ref ad1)] [(.double (FP.dadd (FP.dadd (FP.dmul wx_ad0 wx_ad1) (FP.dmul wy_ad0 wy_ad1)) (FP.dmul wz_ad0 wz_ad1)))]))
  exact own_ret X6 hlk (v := some (.double (FP.dadd (FP.dadd (FP.dmul wx_ad0 wx_ad1) (FP.dmul wy_ad0 wy_ad1)) (FP.dmul wz_ad0 wz_ad1)))) (fun h => by rw [Bd.returns] at h; cases h) (by decide) (by decide) (by show own_Q4 Z ad0 ad1 wx_ad0 wx_ad1 wy_ad0 wy_ad1 wz_ad0 wz_ad1 h0 n0 _ T6.heap _; rw [e6]; exact ⟨rfl, N0, rfl⟩) (fun fs hr => retOut X6 hx Bd.returns rfl (Or.inr (Or.inr (Or.inl ⟨rfl, rfl, _, rfl⟩))) (hb hby own_d4_29) hr)

theorem own_pd1 : parseMethodDescriptor "(I)J" = some ⟨[.int], some .long⟩ := by decide +kernel
abbrev own_y1 : MethodName := (⟨"com/example/taproom/taproom/geometry/VectorDotPinLaw", "comp", "(I)J"⟩ : MethodName)
theorem own_pd2 : parseMethodDescriptor "(DDD)V" = some ⟨[.double, .double, .double], none⟩ := by decide +kernel
abbrev own_y2 : MethodName := (⟨"com/example/taproom/taproom/geometry/Vector", "<init>", "(DDD)V"⟩ : MethodName)
theorem own_pd3 : parseMethodDescriptor "(Lcom/example/taproom/taproom/geometry/Vector;)D" = some ⟨[(.object "com/example/taproom/taproom/geometry/Vector")], some .double⟩ := by decide +kernel
abbrev own_y3 : MethodName := (⟨"com/example/taproom/taproom/geometry/Vector", "dot", "(Lcom/example/taproom/taproom/geometry/Vector;)D"⟩ : MethodName)
theorem own_ef5 (m : MethodId) (p0 : Int32) (p1 : Int32) (p2 : Int32) (p3 : Int32) (p4 : Int32) (p5 : Int32) : entryFrame m #[(.int p0), (.int p1), (.int p2), (.int p3), (.int p4), (.int p5)] maxLocals = mkF m 0 #[.val (.int p0), .val (.int p1), .val (.int p2), .val (.int p3), .val (.int p4), .val (.int p5), .unset, .unset, .unset, .unset, .unset, .unset, .unset, .unset, .unset, .unset, .unset, .unset, .unset, .unset, .unset, .unset, .unset, .unset, .unset, .unset, .unset, .unset] [] := by first | (simp [entryFrame, mkF, argsToLocals, Value.category, maxLocals]; done) | rfl
def own_Q5 (Z : State) (p0 : Int32) (p1 : Int32) (p2 : Int32) (p3 : Int32) (p4 : Int32) (p5 : Int32) (h0 : Heap) (n0 : Nat) (v : Option Value) (h : Heap) (L : List Loc) : Prop := v = some (.int 1) ∧ Fr n0 L
set_option maxRecDepth 65536 in
set_option maxHeartbeats 40000000 in
theorem own_rm5 (l : Launch) (Z : State) (a0 : Array Value) (hw : ∀ d ∈ tables_1, d.before a0 Z = true) (ws : List Jvm.Cond) (p0 : Int32) (p1 : Int32) (p2 : Int32) (p3 : Int32) (p4 : Int32) (p5 : Int32) (h0 : Heap) (n0 : Nat) (Z0 : n0 ≤ h0.size) :
    MetFree l x (head1 (Jvm.Cond.code x code maxLocals ret :: ws) room_1) (fun a U => a = #[(.int p0), (.int p1), (.int p2), (.int p3), (.int p4), (.int p5)] ∧ Z.Warmed39 U.vm ∧ U.heap = h0) (fun _ _ _ _ _ => True) (fun _ U o U' => ∃ v L, o = .returned v ∧ own_Q5 Z p0 p1 p2 p3 p4 p5 h0 n0 v U'.heap L ∧ FrameEnd U o U' L room_1.cells room_1.slots) := by
  refine MetFree.of_bodySF (plainFor_of_name own_pn0) hisR ?_
  intro p e s m args below meth c s₁ Bd hml0 hP hK
  obtain ⟨rfl, hZ, hh⟩ := hP
  have hx := Bd.exec
  have hby := Bd.bytes
  have hlk := Bd.notSynchronized
  have hml : c.maxLocals = 28 := hml0
  have hown : s.vm.findClass "com/example/taproom/taproom/geometry/VectorDotPinLaw" = some m.cls := findClass_of_methodNamed Bd.named
  have hnm := (name_of_methodNamed Bd.named Bd.method).1
  have X0 : Stand p l e room_1 s m #[(.int p0), (.int p1), (.int p2), (.int p3), (.int p4), (.int p5)] below meth c s₁ [] 0 0 := Stand.of_body Bd
  have e0 : s₁.heap = h0 := by rw [← hh, Bd.state]; rfl
  have N0 := Fr.nil n0
  have KR : Keep h0 h0 [] := Keep.refl _ _
  show own_Fin p e below s room_1.cells room_1.slots (own_Q5 Z p0 p1 p2 p3 p4 p5 h0 n0) (s₁.setTop (entryFrame m #[(.int p0), (.int p1), (.int p2), (.int p3), (.int p4), (.int p5)] maxLocals))
  refine own_cast (own_ef5 m p0 p1 p2 p3 p4 p5) ?_
  refine own_step (fun _ k => XS.iloadN X0.here hx rfl (hb hby at_0) rfl k) ?_
  show own_Fin p e below s _ _ _ (s₁.setTop (mkF m 1 #[.val (.int p0), .val (.int p1), .val (.int p2), .val (.int p3), .val (.int p4), .val (.int p5), .unset, .unset, .unset, .unset, .unset, .unset, .unset, .unset, .unset, .unset, .unset, .unset, .unset, .unset, .unset, .unset, .unset, .unset, .unset, .unset, .unset, .unset] [(.int p0)]))
  obtain ⟨_, _, ⟨T1, L1, k1, n1⟩, -, X1, ⟨Lc1, hQ1, l1, y1, z1⟩, st1⟩ := Jvm.LawKit.callS X0 hx (y := own_y1) hown (mvT hZ (own_w hw 0 rfl)) (mvT hZ (own_w hw 1 rfl)) (mvT hZ (own_w hw 2 rfl)) (mvT hZ (own_w hw 3 rfl)) (by decide) (backOf (W := 0) (own_rm1 l Z a0 hw [] p0 h0 n0 Z0 ) hZ (own_w hw 3 rfl) (own_w hw 2 rfl) (by decide) (by decide)) (g := (mkF m 1 #[.val (.int p0), .val (.int p1), .val (.int p2), .val (.int p3), .val (.int p4), .val (.int p5), .unset, .unset, .unset, .unset, .unset, .unset, .unset, .unset, .unset, .unset, .unset, .unset, .unset, .unset, .unset, .unset, .unset, .unset, .unset, .unset, .unset, .unset] [(.int p0)])) rfl (by rw [hml]; rfl) (argsL := [(.int p0)]) (rest := []) (lenOf own_pd1 rfl) rfl (by show 2 * 0 + _ ≤ _; exact Nat.le_of_eq rfl) (hb hby at_1) (fun _ _ => ⟨rfl, e0, (by decide : 0 + 0 ≤ _), (by decide : 0 + 0 ≤ _)⟩)
  dsimp only [Pt.U, Pt.locs, Pt.cells, Pt.slots] at X1 l1 y1 z1 st1 hQ1
  subst l1 y1 z1
  obtain ⟨rfl, N1q, e1⟩ := hQ1
  have N1 := Fr.app N0 N1q
  refine own_step (fun _ k => st1 _ k) ?_
  show own_Fin p e below s _ _ _ (T1.setTop (mkF m 4 #[.val (.int p0), .val (.int p1), .val (.int p2), .val (.int p3), .val (.int p4), .val (.int p5), .unset, .unset, .unset, .unset, .unset, .unset, .unset, .unset, .unset, .unset, .unset, .unset, .unset, .unset, .unset, .unset, .unset, .unset, .unset, .unset, .unset, .unset] [(.long ((p0 % (1048576 : Int32)).toInt64))]))
  refine own_step (fun _ k => XS.lstore X1.here hx rfl (hb hby at_4) rfl (l' := #[.val (.int p0), .val (.int p1), .val (.int p2), .val (.int p3), .val (.int p4), .val (.int p5), .val (.long ((p0 % (1048576 : Int32)).toInt64)), .second, .unset, .unset, .unset, .unset, .unset, .unset, .unset, .unset, .unset, .unset, .unset, .unset, .unset, .unset, .unset, .unset, .unset, .unset, .unset, .unset]) rfl k) ?_
  show own_Fin p e below s _ _ _ (T1.setTop (mkF m 6 #[.val (.int p0), .val (.int p1), .val (.int p2), .val (.int p3), .val (.int p4), .val (.int p5), .val (.long ((p0 % (1048576 : Int32)).toInt64)), .second, .unset, .unset, .unset, .unset, .unset, .unset, .unset, .unset, .unset, .unset, .unset, .unset, .unset, .unset, .unset, .unset, .unset, .unset, .unset, .unset] []))
  refine own_step (fun _ k => XS.iloadN X1.here hx rfl (hb hby at_6) rfl k) ?_
  show own_Fin p e below s _ _ _ (T1.setTop (mkF m 7 #[.val (.int p0), .val (.int p1), .val (.int p2), .val (.int p3), .val (.int p4), .val (.int p5), .val (.long ((p0 % (1048576 : Int32)).toInt64)), .second, .unset, .unset, .unset, .unset, .unset, .unset, .unset, .unset, .unset, .unset, .unset, .unset, .unset, .unset, .unset, .unset, .unset, .unset, .unset, .unset] [(.int p1)]))
  obtain ⟨_, _, ⟨T2, L2, k2, n2⟩, -, X2, ⟨Lc2, hQ2, l2, y2, z2⟩, st2⟩ := Jvm.LawKit.callS X1 hx (y := own_y1) hown (mvT hZ (own_w hw 0 rfl)) (mvT hZ (own_w hw 1 rfl)) (mvT hZ (own_w hw 2 rfl)) (mvT hZ (own_w hw 3 rfl)) (by decide) (backOf (W := 0) (own_rm1 l Z a0 hw [] p1 h0 n0 Z0 ) hZ (own_w hw 3 rfl) (own_w hw 2 rfl) (by decide) (by decide)) (g := (mkF m 7 #[.val (.int p0), .val (.int p1), .val (.int p2), .val (.int p3), .val (.int p4), .val (.int p5), .val (.long ((p0 % (1048576 : Int32)).toInt64)), .second, .unset, .unset, .unset, .unset, .unset, .unset, .unset, .unset, .unset, .unset, .unset, .unset, .unset, .unset, .unset, .unset, .unset, .unset, .unset, .unset] [(.int p1)])) rfl (by rw [hml]; rfl) (argsL := [(.int p1)]) (rest := []) (lenOf own_pd1 rfl) rfl (by show 2 * 0 + _ ≤ _; exact Nat.le_of_eq rfl) (hb hby at_7) (fun _ _ => ⟨rfl, e1, (by decide : 0 + 0 ≤ _), (by decide : 0 + 0 ≤ _)⟩)
  dsimp only [Pt.U, Pt.locs, Pt.cells, Pt.slots] at X2 l2 y2 z2 st2 hQ2
  subst l2 y2 z2
  obtain ⟨rfl, N2q, e2⟩ := hQ2
  have N2 := Fr.app N1 N2q
  refine own_step (fun _ k => st2 _ k) ?_
  show own_Fin p e below s _ _ _ (T2.setTop (mkF m 10 #[.val (.int p0), .val (.int p1), .val (.int p2), .val (.int p3), .val (.int p4), .val (.int p5), .val (.long ((p0 % (1048576 : Int32)).toInt64)), .second, .unset, .unset, .unset, .unset, .unset, .unset, .unset, .unset, .unset, .unset, .unset, .unset, .unset, .unset, .unset, .unset, .unset, .unset, .unset, .unset] [(.long ((p1 % (1048576 : Int32)).toInt64))]))
  refine own_step (fun _ k => XS.lstore X2.here hx rfl (hb hby at_10) rfl (l' := #[.val (.int p0), .val (.int p1), .val (.int p2), .val (.int p3), .val (.int p4), .val (.int p5), .val (.long ((p0 % (1048576 : Int32)).toInt64)), .second, .val (.long ((p1 % (1048576 : Int32)).toInt64)), .second, .unset, .unset, .unset, .unset, .unset, .unset, .unset, .unset, .unset, .unset, .unset, .unset, .unset, .unset, .unset, .unset, .unset, .unset]) rfl k) ?_
  show own_Fin p e below s _ _ _ (T2.setTop (mkF m 12 #[.val (.int p0), .val (.int p1), .val (.int p2), .val (.int p3), .val (.int p4), .val (.int p5), .val (.long ((p0 % (1048576 : Int32)).toInt64)), .second, .val (.long ((p1 % (1048576 : Int32)).toInt64)), .second, .unset, .unset, .unset, .unset, .unset, .unset, .unset, .unset, .unset, .unset, .unset, .unset, .unset, .unset, .unset, .unset, .unset, .unset] []))
  refine own_step (fun _ k => XS.iloadN X2.here hx rfl (hb hby at_12) rfl k) ?_
  show own_Fin p e below s _ _ _ (T2.setTop (mkF m 13 #[.val (.int p0), .val (.int p1), .val (.int p2), .val (.int p3), .val (.int p4), .val (.int p5), .val (.long ((p0 % (1048576 : Int32)).toInt64)), .second, .val (.long ((p1 % (1048576 : Int32)).toInt64)), .second, .unset, .unset, .unset, .unset, .unset, .unset, .unset, .unset, .unset, .unset, .unset, .unset, .unset, .unset, .unset, .unset, .unset, .unset] [(.int p2)]))
  obtain ⟨_, _, ⟨T3, L3, k3, n3⟩, -, X3, ⟨Lc3, hQ3, l3, y3, z3⟩, st3⟩ := Jvm.LawKit.callS X2 hx (y := own_y1) hown (mvT hZ (own_w hw 0 rfl)) (mvT hZ (own_w hw 1 rfl)) (mvT hZ (own_w hw 2 rfl)) (mvT hZ (own_w hw 3 rfl)) (by decide) (backOf (W := 0) (own_rm1 l Z a0 hw [] p2 h0 n0 Z0 ) hZ (own_w hw 3 rfl) (own_w hw 2 rfl) (by decide) (by decide)) (g := (mkF m 13 #[.val (.int p0), .val (.int p1), .val (.int p2), .val (.int p3), .val (.int p4), .val (.int p5), .val (.long ((p0 % (1048576 : Int32)).toInt64)), .second, .val (.long ((p1 % (1048576 : Int32)).toInt64)), .second, .unset, .unset, .unset, .unset, .unset, .unset, .unset, .unset, .unset, .unset, .unset, .unset, .unset, .unset, .unset, .unset, .unset, .unset] [(.int p2)])) rfl (by rw [hml]; rfl) (argsL := [(.int p2)]) (rest := []) (lenOf own_pd1 rfl) rfl (by show 2 * 0 + _ ≤ _; exact Nat.le_of_eq rfl) (hb hby at_13) (fun _ _ => ⟨rfl, e2, (by decide : 0 + 0 ≤ _), (by decide : 0 + 0 ≤ _)⟩)
  dsimp only [Pt.U, Pt.locs, Pt.cells, Pt.slots] at X3 l3 y3 z3 st3 hQ3
  subst l3 y3 z3
  obtain ⟨rfl, N3q, e3⟩ := hQ3
  have N3 := Fr.app N2 N3q
  refine own_step (fun _ k => st3 _ k) ?_
  show own_Fin p e below s _ _ _ (T3.setTop (mkF m 16 #[.val (.int p0), .val (.int p1), .val (.int p2), .val (.int p3), .val (.int p4), .val (.int p5), .val (.long ((p0 % (1048576 : Int32)).toInt64)), .second, .val (.long ((p1 % (1048576 : Int32)).toInt64)), .second, .unset, .unset, .unset, .unset, .unset, .unset, .unset, .unset, .unset, .unset, .unset, .unset, .unset, .unset, .unset, .unset, .unset, .unset] [(.long ((p2 % (1048576 : Int32)).toInt64))]))
  refine own_step (fun _ k => XS.lstore X3.here hx rfl (hb hby at_16) rfl (l' := #[.val (.int p0), .val (.int p1), .val (.int p2), .val (.int p3), .val (.int p4), .val (.int p5), .val (.long ((p0 % (1048576 : Int32)).toInt64)), .second, .val (.long ((p1 % (1048576 : Int32)).toInt64)), .second, .val (.long ((p2 % (1048576 : Int32)).toInt64)), .second, .unset, .unset, .unset, .unset, .unset, .unset, .unset, .unset, .unset, .unset, .unset, .unset, .unset, .unset, .unset, .unset]) rfl k) ?_
  show own_Fin p e below s _ _ _ (T3.setTop (mkF m 18 #[.val (.int p0), .val (.int p1), .val (.int p2), .val (.int p3), .val (.int p4), .val (.int p5), .val (.long ((p0 % (1048576 : Int32)).toInt64)), .second, .val (.long ((p1 % (1048576 : Int32)).toInt64)), .second, .val (.long ((p2 % (1048576 : Int32)).toInt64)), .second, .unset, .unset, .unset, .unset, .unset, .unset, .unset, .unset, .unset, .unset, .unset, .unset, .unset, .unset, .unset, .unset] []))
  refine own_step (fun _ k => XS.iloadN X3.here hx rfl (hb hby at_18) rfl k) ?_
  show own_Fin p e below s _ _ _ (T3.setTop (mkF m 19 #[.val (.int p0), .val (.int p1), .val (.int p2), .val (.int p3), .val (.int p4), .val (.int p5), .val (.long ((p0 % (1048576 : Int32)).toInt64)), .second, .val (.long ((p1 % (1048576 : Int32)).toInt64)), .second, .val (.long ((p2 % (1048576 : Int32)).toInt64)), .second, .unset, .unset, .unset, .unset, .unset, .unset, .unset, .unset, .unset, .unset, .unset, .unset, .unset, .unset, .unset, .unset] [(.int p3)]))
  obtain ⟨_, _, ⟨T4, L4, k4, n4⟩, -, X4, ⟨Lc4, hQ4, l4, y4, z4⟩, st4⟩ := Jvm.LawKit.callS X3 hx (y := own_y1) hown (mvT hZ (own_w hw 0 rfl)) (mvT hZ (own_w hw 1 rfl)) (mvT hZ (own_w hw 2 rfl)) (mvT hZ (own_w hw 3 rfl)) (by decide) (backOf (W := 0) (own_rm1 l Z a0 hw [] p3 h0 n0 Z0 ) hZ (own_w hw 3 rfl) (own_w hw 2 rfl) (by decide) (by decide)) (g := (mkF m 19 #[.val (.int p0), .val (.int p1), .val (.int p2), .val (.int p3), .val (.int p4), .val (.int p5), .val (.long ((p0 % (1048576 : Int32)).toInt64)), .second, .val (.long ((p1 % (1048576 : Int32)).toInt64)), .second, .val (.long ((p2 % (1048576 : Int32)).toInt64)), .second, .unset, .unset, .unset, .unset, .unset, .unset, .unset, .unset, .unset, .unset, .unset, .unset, .unset, .unset, .unset, .unset] [(.int p3)])) rfl (by rw [hml]; rfl) (argsL := [(.int p3)]) (rest := []) (lenOf own_pd1 rfl) rfl (by show 2 * 0 + _ ≤ _; exact Nat.le_of_eq rfl) (hb hby at_19) (fun _ _ => ⟨rfl, e3, (by decide : 0 + 0 ≤ _), (by decide : 0 + 0 ≤ _)⟩)
  dsimp only [Pt.U, Pt.locs, Pt.cells, Pt.slots] at X4 l4 y4 z4 st4 hQ4
  subst l4 y4 z4
  obtain ⟨rfl, N4q, e4⟩ := hQ4
  have N4 := Fr.app N3 N4q
  refine own_step (fun _ k => st4 _ k) ?_
  show own_Fin p e below s _ _ _ (T4.setTop (mkF m 22 #[.val (.int p0), .val (.int p1), .val (.int p2), .val (.int p3), .val (.int p4), .val (.int p5), .val (.long ((p0 % (1048576 : Int32)).toInt64)), .second, .val (.long ((p1 % (1048576 : Int32)).toInt64)), .second, .val (.long ((p2 % (1048576 : Int32)).toInt64)), .second, .unset, .unset, .unset, .unset, .unset, .unset, .unset, .unset, .unset, .unset, .unset, .unset, .unset, .unset, .unset, .unset] [(.long ((p3 % (1048576 : Int32)).toInt64))]))
  refine own_step (fun _ k => XS.lstore X4.here hx rfl (hb hby at_22) rfl (l' := #[.val (.int p0), .val (.int p1), .val (.int p2), .val (.int p3), .val (.int p4), .val (.int p5), .val (.long ((p0 % (1048576 : Int32)).toInt64)), .second, .val (.long ((p1 % (1048576 : Int32)).toInt64)), .second, .val (.long ((p2 % (1048576 : Int32)).toInt64)), .second, .val (.long ((p3 % (1048576 : Int32)).toInt64)), .second, .unset, .unset, .unset, .unset, .unset, .unset, .unset, .unset, .unset, .unset, .unset, .unset, .unset, .unset]) rfl k) ?_
  show own_Fin p e below s _ _ _ (T4.setTop (mkF m 24 #[.val (.int p0), .val (.int p1), .val (.int p2), .val (.int p3), .val (.int p4), .val (.int p5), .val (.long ((p0 % (1048576 : Int32)).toInt64)), .second, .val (.long ((p1 % (1048576 : Int32)).toInt64)), .second, .val (.long ((p2 % (1048576 : Int32)).toInt64)), .second, .val (.long ((p3 % (1048576 : Int32)).toInt64)), .second, .unset, .unset, .unset, .unset, .unset, .unset, .unset, .unset, .unset, .unset, .unset, .unset, .unset, .unset] []))
  refine own_step (fun _ k => XS.iload X4.here hx rfl (hb hby at_24) rfl k) ?_
  show own_Fin p e below s _ _ _ (T4.setTop (mkF m 26 #[.val (.int p0), .val (.int p1), .val (.int p2), .val (.int p3), .val (.int p4), .val (.int p5), .val (.long ((p0 % (1048576 : Int32)).toInt64)), .second, .val (.long ((p1 % (1048576 : Int32)).toInt64)), .second, .val (.long ((p2 % (1048576 : Int32)).toInt64)), .second, .val (.long ((p3 % (1048576 : Int32)).toInt64)), .second, .unset, .unset, .unset, .unset, .unset, .unset, .unset, .unset, .unset, .unset, .unset, .unset, .unset, .unset] [(.int p4)]))
  obtain ⟨_, _, ⟨T5, L5, k5, n5⟩, -, X5, ⟨Lc5, hQ5, l5, y5, z5⟩, st5⟩ := Jvm.LawKit.callS X4 hx (y := own_y1) hown (mvT hZ (own_w hw 0 rfl)) (mvT hZ (own_w hw 1 rfl)) (mvT hZ (own_w hw 2 rfl)) (mvT hZ (own_w hw 3 rfl)) (by decide) (backOf (W := 0) (own_rm1 l Z a0 hw [] p4 h0 n0 Z0 ) hZ (own_w hw 3 rfl) (own_w hw 2 rfl) (by decide) (by decide)) (g := (mkF m 26 #[.val (.int p0), .val (.int p1), .val (.int p2), .val (.int p3), .val (.int p4), .val (.int p5), .val (.long ((p0 % (1048576 : Int32)).toInt64)), .second, .val (.long ((p1 % (1048576 : Int32)).toInt64)), .second, .val (.long ((p2 % (1048576 : Int32)).toInt64)), .second, .val (.long ((p3 % (1048576 : Int32)).toInt64)), .second, .unset, .unset, .unset, .unset, .unset, .unset, .unset, .unset, .unset, .unset, .unset, .unset, .unset, .unset] [(.int p4)])) rfl (by rw [hml]; rfl) (argsL := [(.int p4)]) (rest := []) (lenOf own_pd1 rfl) rfl (by show 2 * 0 + _ ≤ _; exact Nat.le_of_eq rfl) (hb hby at_26) (fun _ _ => ⟨rfl, e4, (by decide : 0 + 0 ≤ _), (by decide : 0 + 0 ≤ _)⟩)
  dsimp only [Pt.U, Pt.locs, Pt.cells, Pt.slots] at X5 l5 y5 z5 st5 hQ5
  subst l5 y5 z5
  obtain ⟨rfl, N5q, e5⟩ := hQ5
  have N5 := Fr.app N4 N5q
  refine own_step (fun _ k => st5 _ k) ?_
  show own_Fin p e below s _ _ _ (T5.setTop (mkF m 29 #[.val (.int p0), .val (.int p1), .val (.int p2), .val (.int p3), .val (.int p4), .val (.int p5), .val (.long ((p0 % (1048576 : Int32)).toInt64)), .second, .val (.long ((p1 % (1048576 : Int32)).toInt64)), .second, .val (.long ((p2 % (1048576 : Int32)).toInt64)), .second, .val (.long ((p3 % (1048576 : Int32)).toInt64)), .second, .unset, .unset, .unset, .unset, .unset, .unset, .unset, .unset, .unset, .unset, .unset, .unset, .unset, .unset] [(.long ((p4 % (1048576 : Int32)).toInt64))]))
  refine own_step (fun _ k => XS.lstore X5.here hx rfl (hb hby at_29) rfl (l' := #[.val (.int p0), .val (.int p1), .val (.int p2), .val (.int p3), .val (.int p4), .val (.int p5), .val (.long ((p0 % (1048576 : Int32)).toInt64)), .second, .val (.long ((p1 % (1048576 : Int32)).toInt64)), .second, .val (.long ((p2 % (1048576 : Int32)).toInt64)), .second, .val (.long ((p3 % (1048576 : Int32)).toInt64)), .second, .val (.long ((p4 % (1048576 : Int32)).toInt64)), .second, .unset, .unset, .unset, .unset, .unset, .unset, .unset, .unset, .unset, .unset, .unset, .unset]) rfl k) ?_
  show own_Fin p e below s _ _ _ (T5.setTop (mkF m 31 #[.val (.int p0), .val (.int p1), .val (.int p2), .val (.int p3), .val (.int p4), .val (.int p5), .val (.long ((p0 % (1048576 : Int32)).toInt64)), .second, .val (.long ((p1 % (1048576 : Int32)).toInt64)), .second, .val (.long ((p2 % (1048576 : Int32)).toInt64)), .second, .val (.long ((p3 % (1048576 : Int32)).toInt64)), .second, .val (.long ((p4 % (1048576 : Int32)).toInt64)), .second, .unset, .unset, .unset, .unset, .unset, .unset, .unset, .unset, .unset, .unset, .unset, .unset] []))
  refine own_step (fun _ k => XS.iload X5.here hx rfl (hb hby at_31) rfl k) ?_
  show own_Fin p e below s _ _ _ (T5.setTop (mkF m 33 #[.val (.int p0), .val (.int p1), .val (.int p2), .val (.int p3), .val (.int p4), .val (.int p5), .val (.long ((p0 % (1048576 : Int32)).toInt64)), .second, .val (.long ((p1 % (1048576 : Int32)).toInt64)), .second, .val (.long ((p2 % (1048576 : Int32)).toInt64)), .second, .val (.long ((p3 % (1048576 : Int32)).toInt64)), .second, .val (.long ((p4 % (1048576 : Int32)).toInt64)), .second, .unset, .unset, .unset, .unset, .unset, .unset, .unset, .unset, .unset, .unset, .unset, .unset] [(.int p5)]))
  obtain ⟨_, _, ⟨T6, L6, k6, n6⟩, -, X6, ⟨Lc6, hQ6, l6, y6, z6⟩, st6⟩ := Jvm.LawKit.callS X5 hx (y := own_y1) hown (mvT hZ (own_w hw 0 rfl)) (mvT hZ (own_w hw 1 rfl)) (mvT hZ (own_w hw 2 rfl)) (mvT hZ (own_w hw 3 rfl)) (by decide) (backOf (W := 0) (own_rm1 l Z a0 hw [] p5 h0 n0 Z0 ) hZ (own_w hw 3 rfl) (own_w hw 2 rfl) (by decide) (by decide)) (g := (mkF m 33 #[.val (.int p0), .val (.int p1), .val (.int p2), .val (.int p3), .val (.int p4), .val (.int p5), .val (.long ((p0 % (1048576 : Int32)).toInt64)), .second, .val (.long ((p1 % (1048576 : Int32)).toInt64)), .second, .val (.long ((p2 % (1048576 : Int32)).toInt64)), .second, .val (.long ((p3 % (1048576 : Int32)).toInt64)), .second, .val (.long ((p4 % (1048576 : Int32)).toInt64)), .second, .unset, .unset, .unset, .unset, .unset, .unset, .unset, .unset, .unset, .unset, .unset, .unset] [(.int p5)])) rfl (by rw [hml]; rfl) (argsL := [(.int p5)]) (rest := []) (lenOf own_pd1 rfl) rfl (by show 2 * 0 + _ ≤ _; exact Nat.le_of_eq rfl) (hb hby at_33) (fun _ _ => ⟨rfl, e5, (by decide : 0 + 0 ≤ _), (by decide : 0 + 0 ≤ _)⟩)
  dsimp only [Pt.U, Pt.locs, Pt.cells, Pt.slots] at X6 l6 y6 z6 st6 hQ6
  subst l6 y6 z6
  obtain ⟨rfl, N6q, e6⟩ := hQ6
  have N6 := Fr.app N5 N6q
  refine own_step (fun _ k => st6 _ k) ?_
  show own_Fin p e below s _ _ _ (T6.setTop (mkF m 36 #[.val (.int p0), .val (.int p1), .val (.int p2), .val (.int p3), .val (.int p4), .val (.int p5), .val (.long ((p0 % (1048576 : Int32)).toInt64)), .second, .val (.long ((p1 % (1048576 : Int32)).toInt64)), .second, .val (.long ((p2 % (1048576 : Int32)).toInt64)), .second, .val (.long ((p3 % (1048576 : Int32)).toInt64)), .second, .val (.long ((p4 % (1048576 : Int32)).toInt64)), .second, .unset, .unset, .unset, .unset, .unset, .unset, .unset, .unset, .unset, .unset, .unset, .unset] [(.long ((p5 % (1048576 : Int32)).toInt64))]))
  refine own_step (fun _ k => XS.lstore X6.here hx rfl (hb hby at_36) rfl (l' := #[.val (.int p0), .val (.int p1), .val (.int p2), .val (.int p3), .val (.int p4), .val (.int p5), .val (.long ((p0 % (1048576 : Int32)).toInt64)), .second, .val (.long ((p1 % (1048576 : Int32)).toInt64)), .second, .val (.long ((p2 % (1048576 : Int32)).toInt64)), .second, .val (.long ((p3 % (1048576 : Int32)).toInt64)), .second, .val (.long ((p4 % (1048576 : Int32)).toInt64)), .second, .val (.long ((p5 % (1048576 : Int32)).toInt64)), .second, .unset, .unset, .unset, .unset, .unset, .unset, .unset, .unset, .unset, .unset]) rfl k) ?_
  show own_Fin p e below s _ _ _ (T6.setTop (mkF m 38 #[.val (.int p0), .val (.int p1), .val (.int p2), .val (.int p3), .val (.int p4), .val (.int p5), .val (.long ((p0 % (1048576 : Int32)).toInt64)), .second, .val (.long ((p1 % (1048576 : Int32)).toInt64)), .second, .val (.long ((p2 % (1048576 : Int32)).toInt64)), .second, .val (.long ((p3 % (1048576 : Int32)).toInt64)), .second, .val (.long ((p4 % (1048576 : Int32)).toInt64)), .second, .val (.long ((p5 % (1048576 : Int32)).toInt64)), .second, .unset, .unset, .unset, .unset, .unset, .unset, .unset, .unset, .unset, .unset] []))
  obtain ⟨T7, h7, X7, e7, E7, A7, D7, -, st7⟩ := newO X6 hx hZ hown (own_w hw 5 rfl) (own_w hw 6 rfl) (own_w hw 7 rfl) e6 (g := (mkF m 38 #[.val (.int p0), .val (.int p1), .val (.int p2), .val (.int p3), .val (.int p4), .val (.int p5), .val (.long ((p0 % (1048576 : Int32)).toInt64)), .second, .val (.long ((p1 % (1048576 : Int32)).toInt64)), .second, .val (.long ((p2 % (1048576 : Int32)).toInt64)), .second, .val (.long ((p3 % (1048576 : Int32)).toInt64)), .second, .val (.long ((p4 % (1048576 : Int32)).toInt64)), .second, .val (.long ((p5 % (1048576 : Int32)).toInt64)), .second, .unset, .unset, .unset, .unset, .unset, .unset, .unset, .unset, .unset, .unset] [])) rfl (hb hby at_38) (by decide) (by decide)
  obtain ⟨b7, g7⟩ : ∃ z, z = h0.size := ⟨_, rfl⟩
  rw [← g7] at A7 D7 st7
  have gg7 : n0 ≤ b7 := Nat.le_trans Z0 (Nat.le_of_eq g7.symm)
  have sz7 : h0.size ≤ b7 := Nat.le_trans KR.1 (Nat.le_of_eq g7.symm)
  have K7 : Keep h0 h7 [] := KR.ext E7
  have Z7 : n0 ≤ h7.size := Nat.le_trans Z0 E7.1
  have G8 : Fld Z h7 b7 "com/example/taproom/taproom/geometry/Vector" "x" "D" (.double (0 : UInt64)) := D7 (Or.inr (own_w hw 20 rfl)) (ty := .double) (by decide)
  have G9 : Fld Z h7 b7 "com/example/taproom/taproom/geometry/Vector" "y" "D" (.double (0 : UInt64)) := D7 (Or.inr (own_w hw 22 rfl)) (ty := .double) (by decide)
  have G10 : Fld Z h7 b7 "com/example/taproom/taproom/geometry/Vector" "z" "D" (.double (0 : UInt64)) := D7 (Or.inr (own_w hw 24 rfl)) (ty := .double) (by decide)
  refine own_step st7 ?_
  show own_Fin p e below s _ _ _ (T7.setTop (mkF m 41 #[.val (.int p0), .val (.int p1), .val (.int p2), .val (.int p3), .val (.int p4), .val (.int p5), .val (.long ((p0 % (1048576 : Int32)).toInt64)), .second, .val (.long ((p1 % (1048576 : Int32)).toInt64)), .second, .val (.long ((p2 % (1048576 : Int32)).toInt64)), .second, .val (.long ((p3 % (1048576 : Int32)).toInt64)), .second, .val (.long ((p4 % (1048576 : Int32)).toInt64)), .second, .val (.long ((p5 % (1048576 : Int32)).toInt64)), .second, .unset, .unset, .unset, .unset, .unset, .unset, .unset, .unset, .unset, .unset] [(.ref b7)]))
  refine own_step (fun _ k => XS.dup X7.here hx rfl (hb hby at_41) rfl rfl k) ?_
  show own_Fin p e below s _ _ _ (T7.setTop (mkF m 42 #[.val (.int p0), .val (.int p1), .val (.int p2), .val (.int p3), .val (.int p4), .val (.int p5), .val (.long ((p0 % (1048576 : Int32)).toInt64)), .second, .val (.long ((p1 % (1048576 : Int32)).toInt64)), .second, .val (.long ((p2 % (1048576 : Int32)).toInt64)), .second, .val (.long ((p3 % (1048576 : Int32)).toInt64)), .second, .val (.long ((p4 % (1048576 : Int32)).toInt64)), .second, .val (.long ((p5 % (1048576 : Int32)).toInt64)), .second, .unset, .unset, .unset, .unset, .unset, .unset, .unset, .unset, .unset, .unset] [(.ref b7), (.ref b7)]))
  refine own_step (fun _ k => XS.lload X7.here hx rfl (hb hby at_42) rfl k) ?_
  show own_Fin p e below s _ _ _ (T7.setTop (mkF m 44 #[.val (.int p0), .val (.int p1), .val (.int p2), .val (.int p3), .val (.int p4), .val (.int p5), .val (.long ((p0 % (1048576 : Int32)).toInt64)), .second, .val (.long ((p1 % (1048576 : Int32)).toInt64)), .second, .val (.long ((p2 % (1048576 : Int32)).toInt64)), .second, .val (.long ((p3 % (1048576 : Int32)).toInt64)), .second, .val (.long ((p4 % (1048576 : Int32)).toInt64)), .second, .val (.long ((p5 % (1048576 : Int32)).toInt64)), .second, .unset, .unset, .unset, .unset, .unset, .unset, .unset, .unset, .unset, .unset] [(.long ((p0 % (1048576 : Int32)).toInt64)), (.ref b7), (.ref b7)]))
  refine own_step (fun _ k => XS.l2dS X7.here hx rfl (hb hby at_44) rfl rfl k) ?_
  show own_Fin p e below s _ _ _ (T7.setTop (mkF m 45 #[.val (.int p0), .val (.int p1), .val (.int p2), .val (.int p3), .val (.int p4), .val (.int p5), .val (.long ((p0 % (1048576 : Int32)).toInt64)), .second, .val (.long ((p1 % (1048576 : Int32)).toInt64)), .second, .val (.long ((p2 % (1048576 : Int32)).toInt64)), .second, .val (.long ((p3 % (1048576 : Int32)).toInt64)), .second, .val (.long ((p4 % (1048576 : Int32)).toInt64)), .second, .val (.long ((p5 % (1048576 : Int32)).toInt64)), .second, .unset, .unset, .unset, .unset, .unset, .unset, .unset, .unset, .unset, .unset] [(.double (FP.l2d ((p0 % (1048576 : Int32)).toInt64))), (.ref b7), (.ref b7)]))
  refine own_step (fun _ k => XS.lload X7.here hx rfl (hb hby at_45) rfl k) ?_
  show own_Fin p e below s _ _ _ (T7.setTop (mkF m 47 #[.val (.int p0), .val (.int p1), .val (.int p2), .val (.int p3), .val (.int p4), .val (.int p5), .val (.long ((p0 % (1048576 : Int32)).toInt64)), .second, .val (.long ((p1 % (1048576 : Int32)).toInt64)), .second, .val (.long ((p2 % (1048576 : Int32)).toInt64)), .second, .val (.long ((p3 % (1048576 : Int32)).toInt64)), .second, .val (.long ((p4 % (1048576 : Int32)).toInt64)), .second, .val (.long ((p5 % (1048576 : Int32)).toInt64)), .second, .unset, .unset, .unset, .unset, .unset, .unset, .unset, .unset, .unset, .unset] [(.long ((p1 % (1048576 : Int32)).toInt64)), (.double (FP.l2d ((p0 % (1048576 : Int32)).toInt64))), (.ref b7), (.ref b7)]))
  refine own_step (fun _ k => XS.l2dS X7.here hx rfl (hb hby at_47) rfl rfl k) ?_
  show own_Fin p e below s _ _ _ (T7.setTop (mkF m 48 #[.val (.int p0), .val (.int p1), .val (.int p2), .val (.int p3), .val (.int p4), .val (.int p5), .val (.long ((p0 % (1048576 : Int32)).toInt64)), .second, .val (.long ((p1 % (1048576 : Int32)).toInt64)), .second, .val (.long ((p2 % (1048576 : Int32)).toInt64)), .second, .val (.long ((p3 % (1048576 : Int32)).toInt64)), .second, .val (.long ((p4 % (1048576 : Int32)).toInt64)), .second, .val (.long ((p5 % (1048576 : Int32)).toInt64)), .second, .unset, .unset, .unset, .unset, .unset, .unset, .unset, .unset, .unset, .unset] [(.double (FP.l2d ((p1 % (1048576 : Int32)).toInt64))), (.double (FP.l2d ((p0 % (1048576 : Int32)).toInt64))), (.ref b7), (.ref b7)]))
  refine own_step (fun _ k => XS.lload X7.here hx rfl (hb hby at_48) rfl k) ?_
  show own_Fin p e below s _ _ _ (T7.setTop (mkF m 50 #[.val (.int p0), .val (.int p1), .val (.int p2), .val (.int p3), .val (.int p4), .val (.int p5), .val (.long ((p0 % (1048576 : Int32)).toInt64)), .second, .val (.long ((p1 % (1048576 : Int32)).toInt64)), .second, .val (.long ((p2 % (1048576 : Int32)).toInt64)), .second, .val (.long ((p3 % (1048576 : Int32)).toInt64)), .second, .val (.long ((p4 % (1048576 : Int32)).toInt64)), .second, .val (.long ((p5 % (1048576 : Int32)).toInt64)), .second, .unset, .unset, .unset, .unset, .unset, .unset, .unset, .unset, .unset, .unset] [(.long ((p2 % (1048576 : Int32)).toInt64)), (.double (FP.l2d ((p1 % (1048576 : Int32)).toInt64))), (.double (FP.l2d ((p0 % (1048576 : Int32)).toInt64))), (.ref b7), (.ref b7)]))
  refine own_step (fun _ k => XS.l2dS X7.here hx rfl (hb hby at_50) rfl rfl k) ?_
  show own_Fin p e below s _ _ _ (T7.setTop (mkF m 51 #[.val (.int p0), .val (.int p1), .val (.int p2), .val (.int p3), .val (.int p4), .val (.int p5), .val (.long ((p0 % (1048576 : Int32)).toInt64)), .second, .val (.long ((p1 % (1048576 : Int32)).toInt64)), .second, .val (.long ((p2 % (1048576 : Int32)).toInt64)), .second, .val (.long ((p3 % (1048576 : Int32)).toInt64)), .second, .val (.long ((p4 % (1048576 : Int32)).toInt64)), .second, .val (.long ((p5 % (1048576 : Int32)).toInt64)), .second, .unset, .unset, .unset, .unset, .unset, .unset, .unset, .unset, .unset, .unset] [(.double (FP.l2d ((p2 % (1048576 : Int32)).toInt64))), (.double (FP.l2d ((p1 % (1048576 : Int32)).toInt64))), (.double (FP.l2d ((p0 % (1048576 : Int32)).toInt64))), (.ref b7), (.ref b7)]))
  obtain ⟨_, _, ⟨T11, L11, k11, n11⟩, -, X11, ⟨Lc11, hQ11, l11, y11, z11⟩, st11⟩ := X7.specialBack hx (y := own_y2) rfl hown (mvT hZ (own_w hw 8 rfl)) (mvT hZ (own_w hw 9 rfl)) (mvT hZ (own_w hw 10 rfl)) (by decide) (backOf (W := 1) (own_rm3 l Z a0 hw [] b7 ((FP.l2d ((p0 % (1048576 : Int32)).toInt64))) ((FP.l2d ((p1 % (1048576 : Int32)).toInt64))) ((FP.l2d ((p2 % (1048576 : Int32)).toInt64))) ((.double (0 : UInt64))) ((.double (0 : UInt64))) ((.double (0 : UInt64))) h7 n0 Z7 A7 G8 G9 G10 gg7) hZ (own_w hw 10 rfl) (own_w hw 7 rfl) (by decide) (by decide)) (g := (mkF m 51 #[.val (.int p0), .val (.int p1), .val (.int p2), .val (.int p3), .val (.int p4), .val (.int p5), .val (.long ((p0 % (1048576 : Int32)).toInt64)), .second, .val (.long ((p1 % (1048576 : Int32)).toInt64)), .second, .val (.long ((p2 % (1048576 : Int32)).toInt64)), .second, .val (.long ((p3 % (1048576 : Int32)).toInt64)), .second, .val (.long ((p4 % (1048576 : Int32)).toInt64)), .second, .val (.long ((p5 % (1048576 : Int32)).toInt64)), .second, .unset, .unset, .unset, .unset, .unset, .unset, .unset, .unset, .unset, .unset] [(.double (FP.l2d ((p2 % (1048576 : Int32)).toInt64))), (.double (FP.l2d ((p1 % (1048576 : Int32)).toInt64))), (.double (FP.l2d ((p0 % (1048576 : Int32)).toInt64))), (.ref b7), (.ref b7)])) rfl (by rw [hml]; rfl) (Steps.refl _) (a := b7) (argsL := [(.double (FP.l2d ((p0 % (1048576 : Int32)).toInt64))), (.double (FP.l2d ((p1 % (1048576 : Int32)).toInt64))), (.double (FP.l2d ((p2 % (1048576 : Int32)).toInt64)))]) (rest := [(.ref b7)]) (lenOf own_pd2 rfl) rfl (by show 2 * 0 + _ ≤ _; exact Nat.le_of_eq rfl) (hb hby at_51) (fun _ _ => ⟨rfl, e7, (by decide : 1 + 0 ≤ _), (by decide : 3 + 0 ≤ _)⟩)
  dsimp only [Pt.U, Pt.locs, Pt.cells, Pt.slots] at X11 l11 y11 z11 st11 hQ11
  subst l11 y11 z11
  obtain ⟨N11q, K11q, rfl, G12, G13, G14, G15⟩ := hQ11
  have N11 := Fr.app N6 N11q
  have K11 : Keep h0 T11.heap [] := K7.trans K11q (allS (P := fun x => x ∈ [] ∨ h0.size ≤ x) (Or.inr sz7) all0)
  have Z11 : n0 ≤ T11.heap.size := Nat.le_trans Z7 K11q.1
  have G16 := (A7.keep K11q)
  refine own_step (fun _ k => st11.trans k) ?_
  show own_Fin p e below s _ _ _ (T11.setTop (mkF m 54 #[.val (.int p0), .val (.int p1), .val (.int p2), .val (.int p3), .val (.int p4), .val (.int p5), .val (.long ((p0 % (1048576 : Int32)).toInt64)), .second, .val (.long ((p1 % (1048576 : Int32)).toInt64)), .second, .val (.long ((p2 % (1048576 : Int32)).toInt64)), .second, .val (.long ((p3 % (1048576 : Int32)).toInt64)), .second, .val (.long ((p4 % (1048576 : Int32)).toInt64)), .second, .val (.long ((p5 % (1048576 : Int32)).toInt64)), .second, .unset, .unset, .unset, .unset, .unset, .unset, .unset, .unset, .unset, .unset] [(.ref b7)]))
  refine own_step (fun _ k => XS.astore X11.here hx rfl (hb hby at_54) rfl rfl (l' := #[.val (.int p0), .val (.int p1), .val (.int p2), .val (.int p3), .val (.int p4), .val (.int p5), .val (.long ((p0 % (1048576 : Int32)).toInt64)), .second, .val (.long ((p1 % (1048576 : Int32)).toInt64)), .second, .val (.long ((p2 % (1048576 : Int32)).toInt64)), .second, .val (.long ((p3 % (1048576 : Int32)).toInt64)), .second, .val (.long ((p4 % (1048576 : Int32)).toInt64)), .second, .val (.long ((p5 % (1048576 : Int32)).toInt64)), .second, .val (.ref b7), .unset, .unset, .unset, .unset, .unset, .unset, .unset, .unset, .unset]) rfl k) ?_
  show own_Fin p e below s _ _ _ (T11.setTop (mkF m 56 #[.val (.int p0), .val (.int p1), .val (.int p2), .val (.int p3), .val (.int p4), .val (.int p5), .val (.long ((p0 % (1048576 : Int32)).toInt64)), .second, .val (.long ((p1 % (1048576 : Int32)).toInt64)), .second, .val (.long ((p2 % (1048576 : Int32)).toInt64)), .second, .val (.long ((p3 % (1048576 : Int32)).toInt64)), .second, .val (.long ((p4 % (1048576 : Int32)).toInt64)), .second, .val (.long ((p5 % (1048576 : Int32)).toInt64)), .second, .val (.ref b7), .unset, .unset, .unset, .unset, .unset, .unset, .unset, .unset, .unset] []))
  obtain ⟨T17, h17, X17, e17, E17, A17, D17, -, st17⟩ := newO X11 hx hZ hown (own_w hw 5 rfl) (own_w hw 6 rfl) (own_w hw 7 rfl) rfl (g := (mkF m 56 #[.val (.int p0), .val (.int p1), .val (.int p2), .val (.int p3), .val (.int p4), .val (.int p5), .val (.long ((p0 % (1048576 : Int32)).toInt64)), .second, .val (.long ((p1 % (1048576 : Int32)).toInt64)), .second, .val (.long ((p2 % (1048576 : Int32)).toInt64)), .second, .val (.long ((p3 % (1048576 : Int32)).toInt64)), .second, .val (.long ((p4 % (1048576 : Int32)).toInt64)), .second, .val (.long ((p5 % (1048576 : Int32)).toInt64)), .second, .val (.ref b7), .unset, .unset, .unset, .unset, .unset, .unset, .unset, .unset, .unset] [])) rfl (hb hby at_56) (by decide) (by decide)
  obtain ⟨b17, g17⟩ : ∃ z, z = T11.heap.size := ⟨_, rfl⟩
  rw [← g17] at A17 D17 st17
  have ne17_b7 : b7 ≠ b17 := Nat.ne_of_lt (Nat.lt_of_lt_of_le G12.lt (Nat.le_of_eq g17.symm))
  have gg17 : n0 ≤ b17 := Nat.le_trans Z11 (Nat.le_of_eq g17.symm)
  have sz17 : h0.size ≤ b17 := Nat.le_trans K11.1 (Nat.le_of_eq g17.symm)
  have K17 : Keep h0 h17 [] := K11.ext E17
  have Z17 : n0 ≤ h17.size := Nat.le_trans Z11 E17.1
  have G18 := (G12.ext E17)
  have G19 := (G13.ext E17)
  have G20 := (G14.ext E17)
  have G21 := (G15.ext E17)
  have G22 : Fld Z h17 b17 "com/example/taproom/taproom/geometry/Vector" "x" "D" (.double (0 : UInt64)) := D17 (Or.inr (own_w hw 20 rfl)) (ty := .double) (by decide)
  have G23 : Fld Z h17 b17 "com/example/taproom/taproom/geometry/Vector" "y" "D" (.double (0 : UInt64)) := D17 (Or.inr (own_w hw 22 rfl)) (ty := .double) (by decide)
  have G24 : Fld Z h17 b17 "com/example/taproom/taproom/geometry/Vector" "z" "D" (.double (0 : UInt64)) := D17 (Or.inr (own_w hw 24 rfl)) (ty := .double) (by decide)
  refine own_step st17 ?_
  show own_Fin p e below s _ _ _ (T17.setTop (mkF m 59 #[.val (.int p0), .val (.int p1), .val (.int p2), .val (.int p3), .val (.int p4), .val (.int p5), .val (.long ((p0 % (1048576 : Int32)).toInt64)), .second, .val (.long ((p1 % (1048576 : Int32)).toInt64)), .second, .val (.long ((p2 % (1048576 : Int32)).toInt64)), .second, .val (.long ((p3 % (1048576 : Int32)).toInt64)), .second, .val (.long ((p4 % (1048576 : Int32)).toInt64)), .second, .val (.long ((p5 % (1048576 : Int32)).toInt64)), .second, .val (.ref b7), .unset, .unset, .unset, .unset, .unset, .unset, .unset, .unset, .unset] [(.ref b17)]))
  refine own_step (fun _ k => XS.dup X17.here hx rfl (hb hby at_59) rfl rfl k) ?_
  show own_Fin p e below s _ _ _ (T17.setTop (mkF m 60 #[.val (.int p0), .val (.int p1), .val (.int p2), .val (.int p3), .val (.int p4), .val (.int p5), .val (.long ((p0 % (1048576 : Int32)).toInt64)), .second, .val (.long ((p1 % (1048576 : Int32)).toInt64)), .second, .val (.long ((p2 % (1048576 : Int32)).toInt64)), .second, .val (.long ((p3 % (1048576 : Int32)).toInt64)), .second, .val (.long ((p4 % (1048576 : Int32)).toInt64)), .second, .val (.long ((p5 % (1048576 : Int32)).toInt64)), .second, .val (.ref b7), .unset, .unset, .unset, .unset, .unset, .unset, .unset, .unset, .unset] [(.ref b17), (.ref b17)]))
  refine own_step (fun _ k => XS.lload X17.here hx rfl (hb hby at_60) rfl k) ?_
  show own_Fin p e below s _ _ _ (T17.setTop (mkF m 62 #[.val (.int p0), .val (.int p1), .val (.int p2), .val (.int p3), .val (.int p4), .val (.int p5), .val (.long ((p0 % (1048576 : Int32)).toInt64)), .second, .val (.long ((p1 % (1048576 : Int32)).toInt64)), .second, .val (.long ((p2 % (1048576 : Int32)).toInt64)), .second, .val (.long ((p3 % (1048576 : Int32)).toInt64)), .second, .val (.long ((p4 % (1048576 : Int32)).toInt64)), .second, .val (.long ((p5 % (1048576 : Int32)).toInt64)), .second, .val (.ref b7), .unset, .unset, .unset, .unset, .unset, .unset, .unset, .unset, .unset] [(.long ((p3 % (1048576 : Int32)).toInt64)), (.ref b17), (.ref b17)]))
  refine own_step (fun _ k => XS.l2dS X17.here hx rfl (hb hby at_62) rfl rfl k) ?_
  show own_Fin p e below s _ _ _ (T17.setTop (mkF m 63 #[.val (.int p0), .val (.int p1), .val (.int p2), .val (.int p3), .val (.int p4), .val (.int p5), .val (.long ((p0 % (1048576 : Int32)).toInt64)), .second, .val (.long ((p1 % (1048576 : Int32)).toInt64)), .second, .val (.long ((p2 % (1048576 : Int32)).toInt64)), .second, .val (.long ((p3 % (1048576 : Int32)).toInt64)), .second, .val (.long ((p4 % (1048576 : Int32)).toInt64)), .second, .val (.long ((p5 % (1048576 : Int32)).toInt64)), .second, .val (.ref b7), .unset, .unset, .unset, .unset, .unset, .unset, .unset, .unset, .unset] [(.double (FP.l2d ((p3 % (1048576 : Int32)).toInt64))), (.ref b17), (.ref b17)]))
  refine own_step (fun _ k => XS.lload X17.here hx rfl (hb hby at_63) rfl k) ?_
  show own_Fin p e below s _ _ _ (T17.setTop (mkF m 65 #[.val (.int p0), .val (.int p1), .val (.int p2), .val (.int p3), .val (.int p4), .val (.int p5), .val (.long ((p0 % (1048576 : Int32)).toInt64)), .second, .val (.long ((p1 % (1048576 : Int32)).toInt64)), .second, .val (.long ((p2 % (1048576 : Int32)).toInt64)), .second, .val (.long ((p3 % (1048576 : Int32)).toInt64)), .second, .val (.long ((p4 % (1048576 : Int32)).toInt64)), .second, .val (.long ((p5 % (1048576 : Int32)).toInt64)), .second, .val (.ref b7), .unset, .unset, .unset, .unset, .unset, .unset, .unset, .unset, .unset] [(.long ((p4 % (1048576 : Int32)).toInt64)), (.double (FP.l2d ((p3 % (1048576 : Int32)).toInt64))), (.ref b17), (.ref b17)]))
  refine own_step (fun _ k => XS.l2dS X17.here hx rfl (hb hby at_65) rfl rfl k) ?_
  show own_Fin p e below s _ _ _ (T17.setTop (mkF m 66 #[.val (.int p0), .val (.int p1), .val (.int p2), .val (.int p3), .val (.int p4), .val (.int p5), .val (.long ((p0 % (1048576 : Int32)).toInt64)), .second, .val (.long ((p1 % (1048576 : Int32)).toInt64)), .second, .val (.long ((p2 % (1048576 : Int32)).toInt64)), .second, .val (.long ((p3 % (1048576 : Int32)).toInt64)), .second, .val (.long ((p4 % (1048576 : Int32)).toInt64)), .second, .val (.long ((p5 % (1048576 : Int32)).toInt64)), .second, .val (.ref b7), .unset, .unset, .unset, .unset, .unset, .unset, .unset, .unset, .unset] [(.double (FP.l2d ((p4 % (1048576 : Int32)).toInt64))), (.double (FP.l2d ((p3 % (1048576 : Int32)).toInt64))), (.ref b17), (.ref b17)]))
  refine own_step (fun _ k => XS.lload X17.here hx rfl (hb hby at_66) rfl k) ?_
  show own_Fin p e below s _ _ _ (T17.setTop (mkF m 68 #[.val (.int p0), .val (.int p1), .val (.int p2), .val (.int p3), .val (.int p4), .val (.int p5), .val (.long ((p0 % (1048576 : Int32)).toInt64)), .second, .val (.long ((p1 % (1048576 : Int32)).toInt64)), .second, .val (.long ((p2 % (1048576 : Int32)).toInt64)), .second, .val (.long ((p3 % (1048576 : Int32)).toInt64)), .second, .val (.long ((p4 % (1048576 : Int32)).toInt64)), .second, .val (.long ((p5 % (1048576 : Int32)).toInt64)), .second, .val (.ref b7), .unset, .unset, .unset, .unset, .unset, .unset, .unset, .unset, .unset] [(.long ((p5 % (1048576 : Int32)).toInt64)), (.double (FP.l2d ((p4 % (1048576 : Int32)).toInt64))), (.double (FP.l2d ((p3 % (1048576 : Int32)).toInt64))), (.ref b17), (.ref b17)]))
  refine own_step (fun _ k => XS.l2dS X17.here hx rfl (hb hby at_68) rfl rfl k) ?_
  show own_Fin p e below s _ _ _ (T17.setTop (mkF m 69 #[.val (.int p0), .val (.int p1), .val (.int p2), .val (.int p3), .val (.int p4), .val (.int p5), .val (.long ((p0 % (1048576 : Int32)).toInt64)), .second, .val (.long ((p1 % (1048576 : Int32)).toInt64)), .second, .val (.long ((p2 % (1048576 : Int32)).toInt64)), .second, .val (.long ((p3 % (1048576 : Int32)).toInt64)), .second, .val (.long ((p4 % (1048576 : Int32)).toInt64)), .second, .val (.long ((p5 % (1048576 : Int32)).toInt64)), .second, .val (.ref b7), .unset, .unset, .unset, .unset, .unset, .unset, .unset, .unset, .unset] [(.double (FP.l2d ((p5 % (1048576 : Int32)).toInt64))), (.double (FP.l2d ((p4 % (1048576 : Int32)).toInt64))), (.double (FP.l2d ((p3 % (1048576 : Int32)).toInt64))), (.ref b17), (.ref b17)]))
  obtain ⟨_, _, ⟨T25, L25, k25, n25⟩, -, X25, ⟨Lc25, hQ25, l25, y25, z25⟩, st25⟩ := X17.specialBack hx (y := own_y2) rfl hown (mvT hZ (own_w hw 8 rfl)) (mvT hZ (own_w hw 9 rfl)) (mvT hZ (own_w hw 10 rfl)) (by decide) (backOf (W := 1) (own_rm3 l Z a0 hw [] b17 ((FP.l2d ((p3 % (1048576 : Int32)).toInt64))) ((FP.l2d ((p4 % (1048576 : Int32)).toInt64))) ((FP.l2d ((p5 % (1048576 : Int32)).toInt64))) ((.double (0 : UInt64))) ((.double (0 : UInt64))) ((.double (0 : UInt64))) h17 n0 Z17 A17 G22 G23 G24 gg17) hZ (own_w hw 10 rfl) (own_w hw 7 rfl) (by decide) (by decide)) (g := (mkF m 69 #[.val (.int p0), .val (.int p1), .val (.int p2), .val (.int p3), .val (.int p4), .val (.int p5), .val (.long ((p0 % (1048576 : Int32)).toInt64)), .second, .val (.long ((p1 % (1048576 : Int32)).toInt64)), .second, .val (.long ((p2 % (1048576 : Int32)).toInt64)), .second, .val (.long ((p3 % (1048576 : Int32)).toInt64)), .second, .val (.long ((p4 % (1048576 : Int32)).toInt64)), .second, .val (.long ((p5 % (1048576 : Int32)).toInt64)), .second, .val (.ref b7), .unset, .unset, .unset, .unset, .unset, .unset, .unset, .unset, .unset] [(.double (FP.l2d ((p5 % (1048576 : Int32)).toInt64))), (.double (FP.l2d ((p4 % (1048576 : Int32)).toInt64))), (.double (FP.l2d ((p3 % (1048576 : Int32)).toInt64))), (.ref b17), (.ref b17)])) rfl (by rw [hml]; rfl) (Steps.refl _) (a := b17) (argsL := [(.double (FP.l2d ((p3 % (1048576 : Int32)).toInt64))), (.double (FP.l2d ((p4 % (1048576 : Int32)).toInt64))), (.double (FP.l2d ((p5 % (1048576 : Int32)).toInt64)))]) (rest := [(.ref b17)]) (lenOf own_pd2 rfl) rfl (by show 2 * 0 + _ ≤ _; exact Nat.le_of_eq rfl) (hb hby at_69) (fun _ _ => ⟨rfl, e17, (by decide : 2 + 0 ≤ _), (by decide : 6 + 0 ≤ _)⟩)
  dsimp only [Pt.U, Pt.locs, Pt.cells, Pt.slots] at X25 l25 y25 z25 st25 hQ25
  subst l25 y25 z25
  obtain ⟨N25q, K25q, rfl, G26, G27, G28, G29⟩ := hQ25
  have N25 := Fr.app N11 N25q
  have K25 : Keep h0 T25.heap [] := K17.trans K25q (allS (P := fun x => x ∈ [] ∨ h0.size ≤ x) (Or.inr sz17) all0)
  have Z25 : n0 ≤ T25.heap.size := Nat.le_trans Z17 K25q.1
  have G30 := (G18.keep K25q)
  have G31 := (G19.keep K25q (ninS ne17_b7 nin0))
  have G32 := (G20.keep K25q (ninS ne17_b7 nin0))
  have G33 := (G21.keep K25q (ninS ne17_b7 nin0))
  have G34 := (A17.keep K25q)
  refine own_step (fun _ k => st25.trans k) ?_
  show own_Fin p e below s _ _ _ (T25.setTop (mkF m 72 #[.val (.int p0), .val (.int p1), .val (.int p2), .val (.int p3), .val (.int p4), .val (.int p5), .val (.long ((p0 % (1048576 : Int32)).toInt64)), .second, .val (.long ((p1 % (1048576 : Int32)).toInt64)), .second, .val (.long ((p2 % (1048576 : Int32)).toInt64)), .second, .val (.long ((p3 % (1048576 : Int32)).toInt64)), .second, .val (.long ((p4 % (1048576 : Int32)).toInt64)), .second, .val (.long ((p5 % (1048576 : Int32)).toInt64)), .second, .val (.ref b7), .unset, .unset, .unset, .unset, .unset, .unset, .unset, .unset, .unset] [(.ref b17)]))
  refine own_step (fun _ k => XS.astore X25.here hx rfl (hb hby at_72) rfl rfl (l' := #[.val (.int p0), .val (.int p1), .val (.int p2), .val (.int p3), .val (.int p4), .val (.int p5), .val (.long ((p0 % (1048576 : Int32)).toInt64)), .second, .val (.long ((p1 % (1048576 : Int32)).toInt64)), .second, .val (.long ((p2 % (1048576 : Int32)).toInt64)), .second, .val (.long ((p3 % (1048576 : Int32)).toInt64)), .second, .val (.long ((p4 % (1048576 : Int32)).toInt64)), .second, .val (.long ((p5 % (1048576 : Int32)).toInt64)), .second, .val (.ref b7), .val (.ref b17), .unset, .unset, .unset, .unset, .unset, .unset, .unset, .unset]) rfl k) ?_
  show own_Fin p e below s _ _ _ (T25.setTop (mkF m 74 #[.val (.int p0), .val (.int p1), .val (.int p2), .val (.int p3), .val (.int p4), .val (.int p5), .val (.long ((p0 % (1048576 : Int32)).toInt64)), .second, .val (.long ((p1 % (1048576 : Int32)).toInt64)), .second, .val (.long ((p2 % (1048576 : Int32)).toInt64)), .second, .val (.long ((p3 % (1048576 : Int32)).toInt64)), .second, .val (.long ((p4 % (1048576 : Int32)).toInt64)), .second, .val (.long ((p5 % (1048576 : Int32)).toInt64)), .second, .val (.ref b7), .val (.ref b17), .unset, .unset, .unset, .unset, .unset, .unset, .unset, .unset] []))
  refine own_step (fun _ k => XS.lload X25.here hx rfl (hb hby at_74) rfl k) ?_
  show own_Fin p e below s _ _ _ (T25.setTop (mkF m 76 #[.val (.int p0), .val (.int p1), .val (.int p2), .val (.int p3), .val (.int p4), .val (.int p5), .val (.long ((p0 % (1048576 : Int32)).toInt64)), .second, .val (.long ((p1 % (1048576 : Int32)).toInt64)), .second, .val (.long ((p2 % (1048576 : Int32)).toInt64)), .second, .val (.long ((p3 % (1048576 : Int32)).toInt64)), .second, .val (.long ((p4 % (1048576 : Int32)).toInt64)), .second, .val (.long ((p5 % (1048576 : Int32)).toInt64)), .second, .val (.ref b7), .val (.ref b17), .unset, .unset, .unset, .unset, .unset, .unset, .unset, .unset] [(.long ((p0 % (1048576 : Int32)).toInt64))]))
  refine own_step (fun _ k => XS.lload X25.here hx rfl (hb hby at_76) rfl k) ?_
  show own_Fin p e below s _ _ _ (T25.setTop (mkF m 78 #[.val (.int p0), .val (.int p1), .val (.int p2), .val (.int p3), .val (.int p4), .val (.int p5), .val (.long ((p0 % (1048576 : Int32)).toInt64)), .second, .val (.long ((p1 % (1048576 : Int32)).toInt64)), .second, .val (.long ((p2 % (1048576 : Int32)).toInt64)), .second, .val (.long ((p3 % (1048576 : Int32)).toInt64)), .second, .val (.long ((p4 % (1048576 : Int32)).toInt64)), .second, .val (.long ((p5 % (1048576 : Int32)).toInt64)), .second, .val (.ref b7), .val (.ref b17), .unset, .unset, .unset, .unset, .unset, .unset, .unset, .unset] [(.long ((p3 % (1048576 : Int32)).toInt64)), (.long ((p0 % (1048576 : Int32)).toInt64))]))
  refine own_step (fun _ k => XS.lmul X25.here hx rfl (hb hby at_78) rfl k) ?_
  show own_Fin p e below s _ _ _ (T25.setTop (mkF m 79 #[.val (.int p0), .val (.int p1), .val (.int p2), .val (.int p3), .val (.int p4), .val (.int p5), .val (.long ((p0 % (1048576 : Int32)).toInt64)), .second, .val (.long ((p1 % (1048576 : Int32)).toInt64)), .second, .val (.long ((p2 % (1048576 : Int32)).toInt64)), .second, .val (.long ((p3 % (1048576 : Int32)).toInt64)), .second, .val (.long ((p4 % (1048576 : Int32)).toInt64)), .second, .val (.long ((p5 % (1048576 : Int32)).toInt64)), .second, .val (.ref b7), .val (.ref b17), .unset, .unset, .unset, .unset, .unset, .unset, .unset, .unset] [(.long (((p0 % (1048576 : Int32)).toInt64) * ((p3 % (1048576 : Int32)).toInt64)))]))
  refine own_step (fun _ k => XS.lload X25.here hx rfl (hb hby at_79) rfl k) ?_
  show own_Fin p e below s _ _ _ (T25.setTop (mkF m 81 #[.val (.int p0), .val (.int p1), .val (.int p2), .val (.int p3), .val (.int p4), .val (.int p5), .val (.long ((p0 % (1048576 : Int32)).toInt64)), .second, .val (.long ((p1 % (1048576 : Int32)).toInt64)), .second, .val (.long ((p2 % (1048576 : Int32)).toInt64)), .second, .val (.long ((p3 % (1048576 : Int32)).toInt64)), .second, .val (.long ((p4 % (1048576 : Int32)).toInt64)), .second, .val (.long ((p5 % (1048576 : Int32)).toInt64)), .second, .val (.ref b7), .val (.ref b17), .unset, .unset, .unset, .unset, .unset, .unset, .unset, .unset] [(.long ((p1 % (1048576 : Int32)).toInt64)), (.long (((p0 % (1048576 : Int32)).toInt64) * ((p3 % (1048576 : Int32)).toInt64)))]))
  refine own_step (fun _ k => XS.lload X25.here hx rfl (hb hby at_81) rfl k) ?_
  show own_Fin p e below s _ _ _ (T25.setTop (mkF m 83 #[.val (.int p0), .val (.int p1), .val (.int p2), .val (.int p3), .val (.int p4), .val (.int p5), .val (.long ((p0 % (1048576 : Int32)).toInt64)), .second, .val (.long ((p1 % (1048576 : Int32)).toInt64)), .second, .val (.long ((p2 % (1048576 : Int32)).toInt64)), .second, .val (.long ((p3 % (1048576 : Int32)).toInt64)), .second, .val (.long ((p4 % (1048576 : Int32)).toInt64)), .second, .val (.long ((p5 % (1048576 : Int32)).toInt64)), .second, .val (.ref b7), .val (.ref b17), .unset, .unset, .unset, .unset, .unset, .unset, .unset, .unset] [(.long ((p4 % (1048576 : Int32)).toInt64)), (.long ((p1 % (1048576 : Int32)).toInt64)), (.long (((p0 % (1048576 : Int32)).toInt64) * ((p3 % (1048576 : Int32)).toInt64)))]))
  refine own_step (fun _ k => XS.lmul X25.here hx rfl (hb hby at_83) rfl k) ?_
  show own_Fin p e below s _ _ _ (T25.setTop (mkF m 84 #[.val (.int p0), .val (.int p1), .val (.int p2), .val (.int p3), .val (.int p4), .val (.int p5), .val (.long ((p0 % (1048576 : Int32)).toInt64)), .second, .val (.long ((p1 % (1048576 : Int32)).toInt64)), .second, .val (.long ((p2 % (1048576 : Int32)).toInt64)), .second, .val (.long ((p3 % (1048576 : Int32)).toInt64)), .second, .val (.long ((p4 % (1048576 : Int32)).toInt64)), .second, .val (.long ((p5 % (1048576 : Int32)).toInt64)), .second, .val (.ref b7), .val (.ref b17), .unset, .unset, .unset, .unset, .unset, .unset, .unset, .unset] [(.long (((p1 % (1048576 : Int32)).toInt64) * ((p4 % (1048576 : Int32)).toInt64))), (.long (((p0 % (1048576 : Int32)).toInt64) * ((p3 % (1048576 : Int32)).toInt64)))]))
  refine own_step (fun _ k => XS.ladd X25.here hx rfl (hb hby at_84) rfl k) ?_
  show own_Fin p e below s _ _ _ (T25.setTop (mkF m 85 #[.val (.int p0), .val (.int p1), .val (.int p2), .val (.int p3), .val (.int p4), .val (.int p5), .val (.long ((p0 % (1048576 : Int32)).toInt64)), .second, .val (.long ((p1 % (1048576 : Int32)).toInt64)), .second, .val (.long ((p2 % (1048576 : Int32)).toInt64)), .second, .val (.long ((p3 % (1048576 : Int32)).toInt64)), .second, .val (.long ((p4 % (1048576 : Int32)).toInt64)), .second, .val (.long ((p5 % (1048576 : Int32)).toInt64)), .second, .val (.ref b7), .val (.ref b17), .unset, .unset, .unset, .unset, .unset, .unset, .unset, .unset] [(.long ((((p0 % (1048576 : Int32)).toInt64) * ((p3 % (1048576 : Int32)).toInt64)) + (((p1 % (1048576 : Int32)).toInt64) * ((p4 % (1048576 : Int32)).toInt64))))]))
  refine own_step (fun _ k => XS.lload X25.here hx rfl (hb hby at_85) rfl k) ?_
  show own_Fin p e below s _ _ _ (T25.setTop (mkF m 87 #[.val (.int p0), .val (.int p1), .val (.int p2), .val (.int p3), .val (.int p4), .val (.int p5), .val (.long ((p0 % (1048576 : Int32)).toInt64)), .second, .val (.long ((p1 % (1048576 : Int32)).toInt64)), .second, .val (.long ((p2 % (1048576 : Int32)).toInt64)), .second, .val (.long ((p3 % (1048576 : Int32)).toInt64)), .second, .val (.long ((p4 % (1048576 : Int32)).toInt64)), .second, .val (.long ((p5 % (1048576 : Int32)).toInt64)), .second, .val (.ref b7), .val (.ref b17), .unset, .unset, .unset, .unset, .unset, .unset, .unset, .unset] [(.long ((p2 % (1048576 : Int32)).toInt64)), (.long ((((p0 % (1048576 : Int32)).toInt64) * ((p3 % (1048576 : Int32)).toInt64)) + (((p1 % (1048576 : Int32)).toInt64) * ((p4 % (1048576 : Int32)).toInt64))))]))
  refine own_step (fun _ k => XS.lload X25.here hx rfl (hb hby at_87) rfl k) ?_
  show own_Fin p e below s _ _ _ (T25.setTop (mkF m 89 #[.val (.int p0), .val (.int p1), .val (.int p2), .val (.int p3), .val (.int p4), .val (.int p5), .val (.long ((p0 % (1048576 : Int32)).toInt64)), .second, .val (.long ((p1 % (1048576 : Int32)).toInt64)), .second, .val (.long ((p2 % (1048576 : Int32)).toInt64)), .second, .val (.long ((p3 % (1048576 : Int32)).toInt64)), .second, .val (.long ((p4 % (1048576 : Int32)).toInt64)), .second, .val (.long ((p5 % (1048576 : Int32)).toInt64)), .second, .val (.ref b7), .val (.ref b17), .unset, .unset, .unset, .unset, .unset, .unset, .unset, .unset] [(.long ((p5 % (1048576 : Int32)).toInt64)), (.long ((p2 % (1048576 : Int32)).toInt64)), (.long ((((p0 % (1048576 : Int32)).toInt64) * ((p3 % (1048576 : Int32)).toInt64)) + (((p1 % (1048576 : Int32)).toInt64) * ((p4 % (1048576 : Int32)).toInt64))))]))
  refine own_step (fun _ k => XS.lmul X25.here hx rfl (hb hby at_89) rfl k) ?_
  show own_Fin p e below s _ _ _ (T25.setTop (mkF m 90 #[.val (.int p0), .val (.int p1), .val (.int p2), .val (.int p3), .val (.int p4), .val (.int p5), .val (.long ((p0 % (1048576 : Int32)).toInt64)), .second, .val (.long ((p1 % (1048576 : Int32)).toInt64)), .second, .val (.long ((p2 % (1048576 : Int32)).toInt64)), .second, .val (.long ((p3 % (1048576 : Int32)).toInt64)), .second, .val (.long ((p4 % (1048576 : Int32)).toInt64)), .second, .val (.long ((p5 % (1048576 : Int32)).toInt64)), .second, .val (.ref b7), .val (.ref b17), .unset, .unset, .unset, .unset, .unset, .unset, .unset, .unset] [(.long (((p2 % (1048576 : Int32)).toInt64) * ((p5 % (1048576 : Int32)).toInt64))), (.long ((((p0 % (1048576 : Int32)).toInt64) * ((p3 % (1048576 : Int32)).toInt64)) + (((p1 % (1048576 : Int32)).toInt64) * ((p4 % (1048576 : Int32)).toInt64))))]))
  refine own_step (fun _ k => XS.ladd X25.here hx rfl (hb hby at_90) rfl k) ?_
  show own_Fin p e below s _ _ _ (T25.setTop (mkF m 91 #[.val (.int p0), .val (.int p1), .val (.int p2), .val (.int p3), .val (.int p4), .val (.int p5), .val (.long ((p0 % (1048576 : Int32)).toInt64)), .second, .val (.long ((p1 % (1048576 : Int32)).toInt64)), .second, .val (.long ((p2 % (1048576 : Int32)).toInt64)), .second, .val (.long ((p3 % (1048576 : Int32)).toInt64)), .second, .val (.long ((p4 % (1048576 : Int32)).toInt64)), .second, .val (.long ((p5 % (1048576 : Int32)).toInt64)), .second, .val (.ref b7), .val (.ref b17), .unset, .unset, .unset, .unset, .unset, .unset, .unset, .unset] [(.long (((((p0 % (1048576 : Int32)).toInt64) * ((p3 % (1048576 : Int32)).toInt64)) + (((p1 % (1048576 : Int32)).toInt64) * ((p4 % (1048576 : Int32)).toInt64))) + (((p2 % (1048576 : Int32)).toInt64) * ((p5 % (1048576 : Int32)).toInt64))))]))
  refine own_step (fun _ k => XS.lstore X25.here hx rfl (hb hby at_91) rfl (l' := #[.val (.int p0), .val (.int p1), .val (.int p2), .val (.int p3), .val (.int p4), .val (.int p5), .val (.long ((p0 % (1048576 : Int32)).toInt64)), .second, .val (.long ((p1 % (1048576 : Int32)).toInt64)), .second, .val (.long ((p2 % (1048576 : Int32)).toInt64)), .second, .val (.long ((p3 % (1048576 : Int32)).toInt64)), .second, .val (.long ((p4 % (1048576 : Int32)).toInt64)), .second, .val (.long ((p5 % (1048576 : Int32)).toInt64)), .second, .val (.ref b7), .val (.ref b17), .val (.long (((((p0 % (1048576 : Int32)).toInt64) * ((p3 % (1048576 : Int32)).toInt64)) + (((p1 % (1048576 : Int32)).toInt64) * ((p4 % (1048576 : Int32)).toInt64))) + (((p2 % (1048576 : Int32)).toInt64) * ((p5 % (1048576 : Int32)).toInt64)))), .second, .unset, .unset, .unset, .unset, .unset, .unset]) rfl k) ?_
  show own_Fin p e below s _ _ _ (T25.setTop (mkF m 93 #[.val (.int p0), .val (.int p1), .val (.int p2), .val (.int p3), .val (.int p4), .val (.int p5), .val (.long ((p0 % (1048576 : Int32)).toInt64)), .second, .val (.long ((p1 % (1048576 : Int32)).toInt64)), .second, .val (.long ((p2 % (1048576 : Int32)).toInt64)), .second, .val (.long ((p3 % (1048576 : Int32)).toInt64)), .second, .val (.long ((p4 % (1048576 : Int32)).toInt64)), .second, .val (.long ((p5 % (1048576 : Int32)).toInt64)), .second, .val (.ref b7), .val (.ref b17), .val (.long (((((p0 % (1048576 : Int32)).toInt64) * ((p3 % (1048576 : Int32)).toInt64)) + (((p1 % (1048576 : Int32)).toInt64) * ((p4 % (1048576 : Int32)).toInt64))) + (((p2 % (1048576 : Int32)).toInt64) * ((p5 % (1048576 : Int32)).toInt64)))), .second, .unset, .unset, .unset, .unset, .unset, .unset] []))
  refine own_step (fun _ k => XS.lload X25.here hx rfl (hb hby at_93) rfl k) ?_
  show own_Fin p e below s _ _ _ (T25.setTop (mkF m 95 #[.val (.int p0), .val (.int p1), .val (.int p2), .val (.int p3), .val (.int p4), .val (.int p5), .val (.long ((p0 % (1048576 : Int32)).toInt64)), .second, .val (.long ((p1 % (1048576 : Int32)).toInt64)), .second, .val (.long ((p2 % (1048576 : Int32)).toInt64)), .second, .val (.long ((p3 % (1048576 : Int32)).toInt64)), .second, .val (.long ((p4 % (1048576 : Int32)).toInt64)), .second, .val (.long ((p5 % (1048576 : Int32)).toInt64)), .second, .val (.ref b7), .val (.ref b17), .val (.long (((((p0 % (1048576 : Int32)).toInt64) * ((p3 % (1048576 : Int32)).toInt64)) + (((p1 % (1048576 : Int32)).toInt64) * ((p4 % (1048576 : Int32)).toInt64))) + (((p2 % (1048576 : Int32)).toInt64) * ((p5 % (1048576 : Int32)).toInt64)))), .second, .unset, .unset, .unset, .unset, .unset, .unset] [(.long (((((p0 % (1048576 : Int32)).toInt64) * ((p3 % (1048576 : Int32)).toInt64)) + (((p1 % (1048576 : Int32)).toInt64) * ((p4 % (1048576 : Int32)).toInt64))) + (((p2 % (1048576 : Int32)).toInt64) * ((p5 % (1048576 : Int32)).toInt64))))]))
  refine own_step (fun _ k => XS.l2dS X25.here hx rfl (hb hby at_95) rfl rfl k) ?_
  show own_Fin p e below s _ _ _ (T25.setTop (mkF m 96 #[.val (.int p0), .val (.int p1), .val (.int p2), .val (.int p3), .val (.int p4), .val (.int p5), .val (.long ((p0 % (1048576 : Int32)).toInt64)), .second, .val (.long ((p1 % (1048576 : Int32)).toInt64)), .second, .val (.long ((p2 % (1048576 : Int32)).toInt64)), .second, .val (.long ((p3 % (1048576 : Int32)).toInt64)), .second, .val (.long ((p4 % (1048576 : Int32)).toInt64)), .second, .val (.long ((p5 % (1048576 : Int32)).toInt64)), .second, .val (.ref b7), .val (.ref b17), .val (.long (((((p0 % (1048576 : Int32)).toInt64) * ((p3 % (1048576 : Int32)).toInt64)) + (((p1 % (1048576 : Int32)).toInt64) * ((p4 % (1048576 : Int32)).toInt64))) + (((p2 % (1048576 : Int32)).toInt64) * ((p5 % (1048576 : Int32)).toInt64)))), .second, .unset, .unset, .unset, .unset, .unset, .unset] [(.double (FP.l2d (((((p0 % (1048576 : Int32)).toInt64) * ((p3 % (1048576 : Int32)).toInt64)) + (((p1 % (1048576 : Int32)).toInt64) * ((p4 % (1048576 : Int32)).toInt64))) + (((p2 % (1048576 : Int32)).toInt64) * ((p5 % (1048576 : Int32)).toInt64)))))]))
  refine own_step (fun _ k => XS.dstore X25.here hx rfl (hb hby at_96) rfl (l' := #[.val (.int p0), .val (.int p1), .val (.int p2), .val (.int p3), .val (.int p4), .val (.int p5), .val (.long ((p0 % (1048576 : Int32)).toInt64)), .second, .val (.long ((p1 % (1048576 : Int32)).toInt64)), .second, .val (.long ((p2 % (1048576 : Int32)).toInt64)), .second, .val (.long ((p3 % (1048576 : Int32)).toInt64)), .second, .val (.long ((p4 % (1048576 : Int32)).toInt64)), .second, .val (.long ((p5 % (1048576 : Int32)).toInt64)), .second, .val (.ref b7), .val (.ref b17), .val (.long (((((p0 % (1048576 : Int32)).toInt64) * ((p3 % (1048576 : Int32)).toInt64)) + (((p1 % (1048576 : Int32)).toInt64) * ((p4 % (1048576 : Int32)).toInt64))) + (((p2 % (1048576 : Int32)).toInt64) * ((p5 % (1048576 : Int32)).toInt64)))), .second, .val (.double (FP.l2d (((((p0 % (1048576 : Int32)).toInt64) * ((p3 % (1048576 : Int32)).toInt64)) + (((p1 % (1048576 : Int32)).toInt64) * ((p4 % (1048576 : Int32)).toInt64))) + (((p2 % (1048576 : Int32)).toInt64) * ((p5 % (1048576 : Int32)).toInt64))))), .second, .unset, .unset, .unset, .unset]) rfl k) ?_
  show own_Fin p e below s _ _ _ (T25.setTop (mkF m 98 #[.val (.int p0), .val (.int p1), .val (.int p2), .val (.int p3), .val (.int p4), .val (.int p5), .val (.long ((p0 % (1048576 : Int32)).toInt64)), .second, .val (.long ((p1 % (1048576 : Int32)).toInt64)), .second, .val (.long ((p2 % (1048576 : Int32)).toInt64)), .second, .val (.long ((p3 % (1048576 : Int32)).toInt64)), .second, .val (.long ((p4 % (1048576 : Int32)).toInt64)), .second, .val (.long ((p5 % (1048576 : Int32)).toInt64)), .second, .val (.ref b7), .val (.ref b17), .val (.long (((((p0 % (1048576 : Int32)).toInt64) * ((p3 % (1048576 : Int32)).toInt64)) + (((p1 % (1048576 : Int32)).toInt64) * ((p4 % (1048576 : Int32)).toInt64))) + (((p2 % (1048576 : Int32)).toInt64) * ((p5 % (1048576 : Int32)).toInt64)))), .second, .val (.double (FP.l2d (((((p0 % (1048576 : Int32)).toInt64) * ((p3 % (1048576 : Int32)).toInt64)) + (((p1 % (1048576 : Int32)).toInt64) * ((p4 % (1048576 : Int32)).toInt64))) + (((p2 % (1048576 : Int32)).toInt64) * ((p5 % (1048576 : Int32)).toInt64))))), .second, .unset, .unset, .unset, .unset] []))
  refine own_step (fun _ k => XS.aload X25.here hx rfl (hb hby at_98) rfl rfl k) ?_
  show own_Fin p e below s _ _ _ (T25.setTop (mkF m 100 #[.val (.int p0), .val (.int p1), .val (.int p2), .val (.int p3), .val (.int p4), .val (.int p5), .val (.long ((p0 % (1048576 : Int32)).toInt64)), .second, .val (.long ((p1 % (1048576 : Int32)).toInt64)), .second, .val (.long ((p2 % (1048576 : Int32)).toInt64)), .second, .val (.long ((p3 % (1048576 : Int32)).toInt64)), .second, .val (.long ((p4 % (1048576 : Int32)).toInt64)), .second, .val (.long ((p5 % (1048576 : Int32)).toInt64)), .second, .val (.ref b7), .val (.ref b17), .val (.long (((((p0 % (1048576 : Int32)).toInt64) * ((p3 % (1048576 : Int32)).toInt64)) + (((p1 % (1048576 : Int32)).toInt64) * ((p4 % (1048576 : Int32)).toInt64))) + (((p2 % (1048576 : Int32)).toInt64) * ((p5 % (1048576 : Int32)).toInt64)))), .second, .val (.double (FP.l2d (((((p0 % (1048576 : Int32)).toInt64) * ((p3 % (1048576 : Int32)).toInt64)) + (((p1 % (1048576 : Int32)).toInt64) * ((p4 % (1048576 : Int32)).toInt64))) + (((p2 % (1048576 : Int32)).toInt64) * ((p5 % (1048576 : Int32)).toInt64))))), .second, .unset, .unset, .unset, .unset] [(.ref b7)]))
  refine own_step (fun _ k => XS.aload X25.here hx rfl (hb hby at_100) rfl rfl k) ?_
  show own_Fin p e below s _ _ _ (T25.setTop (mkF m 102 #[.val (.int p0), .val (.int p1), .val (.int p2), .val (.int p3), .val (.int p4), .val (.int p5), .val (.long ((p0 % (1048576 : Int32)).toInt64)), .second, .val (.long ((p1 % (1048576 : Int32)).toInt64)), .second, .val (.long ((p2 % (1048576 : Int32)).toInt64)), .second, .val (.long ((p3 % (1048576 : Int32)).toInt64)), .second, .val (.long ((p4 % (1048576 : Int32)).toInt64)), .second, .val (.long ((p5 % (1048576 : Int32)).toInt64)), .second, .val (.ref b7), .val (.ref b17), .val (.long (((((p0 % (1048576 : Int32)).toInt64) * ((p3 % (1048576 : Int32)).toInt64)) + (((p1 % (1048576 : Int32)).toInt64) * ((p4 % (1048576 : Int32)).toInt64))) + (((p2 % (1048576 : Int32)).toInt64) * ((p5 % (1048576 : Int32)).toInt64)))), .second, .val (.double (FP.l2d (((((p0 % (1048576 : Int32)).toInt64) * ((p3 % (1048576 : Int32)).toInt64)) + (((p1 % (1048576 : Int32)).toInt64) * ((p4 % (1048576 : Int32)).toInt64))) + (((p2 % (1048576 : Int32)).toInt64) * ((p5 % (1048576 : Int32)).toInt64))))), .second, .unset, .unset, .unset, .unset] [(.ref b17), (.ref b7)]))
  obtain ⟨cq35, kq35, q35a, q35b, q35c⟩ := isOf hZ rfl G30
  obtain ⟨_, _, ⟨T35, L35, k35, n35⟩, -, X35, ⟨Lc35, hQ35, l35, y35, z35⟩, st35⟩ := X25.virtualBack hx (y := own_y3) (z := own_y3) hown (mvT hZ (own_w hw 25 rfl)) (mvT hZ (own_w hw 26 rfl)) (notFace_of_selects (args := #[]) (mvT hZ (own_w hw 28 rfl))) (mvT hZ (own_w hw 28 rfl)) (mvT hZ (own_w hw 27 rfl)) (by decide) (backOf (W := 0) (own_rm4 l Z a0 hw [] b7 b17 ((FP.l2d ((p0 % (1048576 : Int32)).toInt64))) ((FP.l2d ((p3 % (1048576 : Int32)).toInt64))) ((FP.l2d ((p1 % (1048576 : Int32)).toInt64))) ((FP.l2d ((p4 % (1048576 : Int32)).toInt64))) ((FP.l2d ((p2 % (1048576 : Int32)).toInt64))) ((FP.l2d ((p5 % (1048576 : Int32)).toInt64))) T25.heap n0 Z25 G31 G27 (show Jvm.Free.Fl.NoNaN64 (FP.dmul (FP.l2d ((p0 % (1048576 : Int32)).toInt64)) (FP.l2d ((p3 % (1048576 : Int32)).toInt64))) from own_nn (own_mi _ _)) G32 G28 (show Jvm.Free.Fl.NoNaN64 (FP.dmul (FP.l2d ((p1 % (1048576 : Int32)).toInt64)) (FP.l2d ((p4 % (1048576 : Int32)).toInt64))) from own_nn (own_mi _ _)) (show Jvm.Free.Fl.NoNaN64 (FP.dadd (FP.dmul (FP.l2d ((p0 % (1048576 : Int32)).toInt64)) (FP.l2d ((p3 % (1048576 : Int32)).toInt64))) (FP.dmul (FP.l2d ((p1 % (1048576 : Int32)).toInt64)) (FP.l2d ((p4 % (1048576 : Int32)).toInt64)))) from own_nn (own_s2 _ _ _ _)) G33 G29 (show Jvm.Free.Fl.NoNaN64 (FP.dmul (FP.l2d ((p2 % (1048576 : Int32)).toInt64)) (FP.l2d ((p5 % (1048576 : Int32)).toInt64))) from own_nn (own_mi _ _)) (show Jvm.Free.Fl.NoNaN64 (FP.dadd (FP.dadd (FP.dmul (FP.l2d ((p0 % (1048576 : Int32)).toInt64)) (FP.l2d ((p3 % (1048576 : Int32)).toInt64))) (FP.dmul (FP.l2d ((p1 % (1048576 : Int32)).toInt64)) (FP.l2d ((p4 % (1048576 : Int32)).toInt64)))) (FP.dmul (FP.l2d ((p2 % (1048576 : Int32)).toInt64)) (FP.l2d ((p5 % (1048576 : Int32)).toInt64)))) from own_nn (own_s3 _ _ _ _ _ _))) hZ (own_w hw 29 rfl) (own_w hw 7 rfl) (by decide) (by decide)) q35a q35c (g := (mkF m 102 #[.val (.int p0), .val (.int p1), .val (.int p2), .val (.int p3), .val (.int p4), .val (.int p5), .val (.long ((p0 % (1048576 : Int32)).toInt64)), .second, .val (.long ((p1 % (1048576 : Int32)).toInt64)), .second, .val (.long ((p2 % (1048576 : Int32)).toInt64)), .second, .val (.long ((p3 % (1048576 : Int32)).toInt64)), .second, .val (.long ((p4 % (1048576 : Int32)).toInt64)), .second, .val (.long ((p5 % (1048576 : Int32)).toInt64)), .second, .val (.ref b7), .val (.ref b17), .val (.long (((((p0 % (1048576 : Int32)).toInt64) * ((p3 % (1048576 : Int32)).toInt64)) + (((p1 % (1048576 : Int32)).toInt64) * ((p4 % (1048576 : Int32)).toInt64))) + (((p2 % (1048576 : Int32)).toInt64) * ((p5 % (1048576 : Int32)).toInt64)))), .second, .val (.double (FP.l2d (((((p0 % (1048576 : Int32)).toInt64) * ((p3 % (1048576 : Int32)).toInt64)) + (((p1 % (1048576 : Int32)).toInt64) * ((p4 % (1048576 : Int32)).toInt64))) + (((p2 % (1048576 : Int32)).toInt64) * ((p5 % (1048576 : Int32)).toInt64))))), .second, .unset, .unset, .unset, .unset] [(.ref b17), (.ref b7)])) rfl (by rw [hml]; rfl) (Steps.refl _) (argsL := [(.ref b17)]) (rest := []) (lenOf own_pd3 rfl) rfl (by show 2 * 0 + _ ≤ _; exact Nat.le_of_eq rfl) (hb hby at_102) (fun _ _ => ⟨rfl, rfl, (by decide : 2 + 0 ≤ _), (by decide : 6 + 0 ≤ _)⟩)
  dsimp only [Pt.U, Pt.locs, Pt.cells, Pt.slots] at X35 l35 y35 z35 st35 hQ35
  subst l35 y35 z35
  obtain ⟨rfl, N35q, e35⟩ := hQ35
  have N35 := Fr.app N25 N35q
  refine own_step (fun _ k => st35.trans k) ?_
  show own_Fin p e below s _ _ _ (T35.setTop (mkF m 105 #[.val (.int p0), .val (.int p1), .val (.int p2), .val (.int p3), .val (.int p4), .val (.int p5), .val (.long ((p0 % (1048576 : Int32)).toInt64)), .second, .val (.long ((p1 % (1048576 : Int32)).toInt64)), .second, .val (.long ((p2 % (1048576 : Int32)).toInt64)), .second, .val (.long ((p3 % (1048576 : Int32)).toInt64)), .second, .val (.long ((p4 % (1048576 : Int32)).toInt64)), .second, .val (.long ((p5 % (1048576 : Int32)).toInt64)), .second, .val (.ref b7), .val (.ref b17), .val (.long (((((p0 % (1048576 : Int32)).toInt64) * ((p3 % (1048576 : Int32)).toInt64)) + (((p1 % (1048576 : Int32)).toInt64) * ((p4 % (1048576 : Int32)).toInt64))) + (((p2 % (1048576 : Int32)).toInt64) * ((p5 % (1048576 : Int32)).toInt64)))), .second, .val (.double (FP.l2d (((((p0 % (1048576 : Int32)).toInt64) * ((p3 % (1048576 : Int32)).toInt64)) + (((p1 % (1048576 : Int32)).toInt64) * ((p4 % (1048576 : Int32)).toInt64))) + (((p2 % (1048576 : Int32)).toInt64) * ((p5 % (1048576 : Int32)).toInt64))))), .second, .unset, .unset, .unset, .unset] [(.double (FP.dadd (FP.dadd (FP.dmul (FP.l2d ((p0 % (1048576 : Int32)).toInt64)) (FP.l2d ((p3 % (1048576 : Int32)).toInt64))) (FP.dmul (FP.l2d ((p1 % (1048576 : Int32)).toInt64)) (FP.l2d ((p4 % (1048576 : Int32)).toInt64)))) (FP.dmul (FP.l2d ((p2 % (1048576 : Int32)).toInt64)) (FP.l2d ((p5 % (1048576 : Int32)).toInt64)))))]))
  refine own_step (fun _ k => XS.dstore X35.here hx rfl (hb hby at_105) rfl (l' := #[.val (.int p0), .val (.int p1), .val (.int p2), .val (.int p3), .val (.int p4), .val (.int p5), .val (.long ((p0 % (1048576 : Int32)).toInt64)), .second, .val (.long ((p1 % (1048576 : Int32)).toInt64)), .second, .val (.long ((p2 % (1048576 : Int32)).toInt64)), .second, .val (.long ((p3 % (1048576 : Int32)).toInt64)), .second, .val (.long ((p4 % (1048576 : Int32)).toInt64)), .second, .val (.long ((p5 % (1048576 : Int32)).toInt64)), .second, .val (.ref b7), .val (.ref b17), .val (.long (((((p0 % (1048576 : Int32)).toInt64) * ((p3 % (1048576 : Int32)).toInt64)) + (((p1 % (1048576 : Int32)).toInt64) * ((p4 % (1048576 : Int32)).toInt64))) + (((p2 % (1048576 : Int32)).toInt64) * ((p5 % (1048576 : Int32)).toInt64)))), .second, .val (.double (FP.l2d (((((p0 % (1048576 : Int32)).toInt64) * ((p3 % (1048576 : Int32)).toInt64)) + (((p1 % (1048576 : Int32)).toInt64) * ((p4 % (1048576 : Int32)).toInt64))) + (((p2 % (1048576 : Int32)).toInt64) * ((p5 % (1048576 : Int32)).toInt64))))), .second, .val (.double (FP.dadd (FP.dadd (FP.dmul (FP.l2d ((p0 % (1048576 : Int32)).toInt64)) (FP.l2d ((p3 % (1048576 : Int32)).toInt64))) (FP.dmul (FP.l2d ((p1 % (1048576 : Int32)).toInt64)) (FP.l2d ((p4 % (1048576 : Int32)).toInt64)))) (FP.dmul (FP.l2d ((p2 % (1048576 : Int32)).toInt64)) (FP.l2d ((p5 % (1048576 : Int32)).toInt64))))), .second, .unset, .unset]) rfl k) ?_
  show own_Fin p e below s _ _ _ (T35.setTop (mkF m 107 #[.val (.int p0), .val (.int p1), .val (.int p2), .val (.int p3), .val (.int p4), .val (.int p5), .val (.long ((p0 % (1048576 : Int32)).toInt64)), .second, .val (.long ((p1 % (1048576 : Int32)).toInt64)), .second, .val (.long ((p2 % (1048576 : Int32)).toInt64)), .second, .val (.long ((p3 % (1048576 : Int32)).toInt64)), .second, .val (.long ((p4 % (1048576 : Int32)).toInt64)), .second, .val (.long ((p5 % (1048576 : Int32)).toInt64)), .second, .val (.ref b7), .val (.ref b17), .val (.long (((((p0 % (1048576 : Int32)).toInt64) * ((p3 % (1048576 : Int32)).toInt64)) + (((p1 % (1048576 : Int32)).toInt64) * ((p4 % (1048576 : Int32)).toInt64))) + (((p2 % (1048576 : Int32)).toInt64) * ((p5 % (1048576 : Int32)).toInt64)))), .second, .val (.double (FP.l2d (((((p0 % (1048576 : Int32)).toInt64) * ((p3 % (1048576 : Int32)).toInt64)) + (((p1 % (1048576 : Int32)).toInt64) * ((p4 % (1048576 : Int32)).toInt64))) + (((p2 % (1048576 : Int32)).toInt64) * ((p5 % (1048576 : Int32)).toInt64))))), .second, .val (.double (FP.dadd (FP.dadd (FP.dmul (FP.l2d ((p0 % (1048576 : Int32)).toInt64)) (FP.l2d ((p3 % (1048576 : Int32)).toInt64))) (FP.dmul (FP.l2d ((p1 % (1048576 : Int32)).toInt64)) (FP.l2d ((p4 % (1048576 : Int32)).toInt64)))) (FP.dmul (FP.l2d ((p2 % (1048576 : Int32)).toInt64)) (FP.l2d ((p5 % (1048576 : Int32)).toInt64))))), .second, .unset, .unset] []))
  refine own_step (fun _ k => XS.aload X35.here hx rfl (hb hby at_107) rfl rfl k) ?_
  show own_Fin p e below s _ _ _ (T35.setTop (mkF m 109 #[.val (.int p0), .val (.int p1), .val (.int p2), .val (.int p3), .val (.int p4), .val (.int p5), .val (.long ((p0 % (1048576 : Int32)).toInt64)), .second, .val (.long ((p1 % (1048576 : Int32)).toInt64)), .second, .val (.long ((p2 % (1048576 : Int32)).toInt64)), .second, .val (.long ((p3 % (1048576 : Int32)).toInt64)), .second, .val (.long ((p4 % (1048576 : Int32)).toInt64)), .second, .val (.long ((p5 % (1048576 : Int32)).toInt64)), .second, .val (.ref b7), .val (.ref b17), .val (.long (((((p0 % (1048576 : Int32)).toInt64) * ((p3 % (1048576 : Int32)).toInt64)) + (((p1 % (1048576 : Int32)).toInt64) * ((p4 % (1048576 : Int32)).toInt64))) + (((p2 % (1048576 : Int32)).toInt64) * ((p5 % (1048576 : Int32)).toInt64)))), .second, .val (.double (FP.l2d (((((p0 % (1048576 : Int32)).toInt64) * ((p3 % (1048576 : Int32)).toInt64)) + (((p1 % (1048576 : Int32)).toInt64) * ((p4 % (1048576 : Int32)).toInt64))) + (((p2 % (1048576 : Int32)).toInt64) * ((p5 % (1048576 : Int32)).toInt64))))), .second, .val (.double (FP.dadd (FP.dadd (FP.dmul (FP.l2d ((p0 % (1048576 : Int32)).toInt64)) (FP.l2d ((p3 % (1048576 : Int32)).toInt64))) (FP.dmul (FP.l2d ((p1 % (1048576 : Int32)).toInt64)) (FP.l2d ((p4 % (1048576 : Int32)).toInt64)))) (FP.dmul (FP.l2d ((p2 % (1048576 : Int32)).toInt64)) (FP.l2d ((p5 % (1048576 : Int32)).toInt64))))), .second, .unset, .unset] [(.ref b17)]))
  refine own_step (fun _ k => XS.aload X35.here hx rfl (hb hby at_109) rfl rfl k) ?_
  show own_Fin p e below s _ _ _ (T35.setTop (mkF m 111 #[.val (.int p0), .val (.int p1), .val (.int p2), .val (.int p3), .val (.int p4), .val (.int p5), .val (.long ((p0 % (1048576 : Int32)).toInt64)), .second, .val (.long ((p1 % (1048576 : Int32)).toInt64)), .second, .val (.long ((p2 % (1048576 : Int32)).toInt64)), .second, .val (.long ((p3 % (1048576 : Int32)).toInt64)), .second, .val (.long ((p4 % (1048576 : Int32)).toInt64)), .second, .val (.long ((p5 % (1048576 : Int32)).toInt64)), .second, .val (.ref b7), .val (.ref b17), .val (.long (((((p0 % (1048576 : Int32)).toInt64) * ((p3 % (1048576 : Int32)).toInt64)) + (((p1 % (1048576 : Int32)).toInt64) * ((p4 % (1048576 : Int32)).toInt64))) + (((p2 % (1048576 : Int32)).toInt64) * ((p5 % (1048576 : Int32)).toInt64)))), .second, .val (.double (FP.l2d (((((p0 % (1048576 : Int32)).toInt64) * ((p3 % (1048576 : Int32)).toInt64)) + (((p1 % (1048576 : Int32)).toInt64) * ((p4 % (1048576 : Int32)).toInt64))) + (((p2 % (1048576 : Int32)).toInt64) * ((p5 % (1048576 : Int32)).toInt64))))), .second, .val (.double (FP.dadd (FP.dadd (FP.dmul (FP.l2d ((p0 % (1048576 : Int32)).toInt64)) (FP.l2d ((p3 % (1048576 : Int32)).toInt64))) (FP.dmul (FP.l2d ((p1 % (1048576 : Int32)).toInt64)) (FP.l2d ((p4 % (1048576 : Int32)).toInt64)))) (FP.dmul (FP.l2d ((p2 % (1048576 : Int32)).toInt64)) (FP.l2d ((p5 % (1048576 : Int32)).toInt64))))), .second, .unset, .unset] [(.ref b7), (.ref b17)]))
  obtain ⟨cq36, kq36, q36a, q36b, q36c⟩ := isOf hZ e35 G26
  obtain ⟨_, _, ⟨T36, L36, k36, n36⟩, -, X36, ⟨Lc36, hQ36, l36, y36, z36⟩, st36⟩ := X35.virtualBack hx (y := own_y3) (z := own_y3) hown (mvT hZ (own_w hw 25 rfl)) (mvT hZ (own_w hw 26 rfl)) (notFace_of_selects (args := #[]) (mvT hZ (own_w hw 28 rfl))) (mvT hZ (own_w hw 28 rfl)) (mvT hZ (own_w hw 27 rfl)) (by decide) (backOf (W := 0) (own_rm4 l Z a0 hw [] b17 b7 ((FP.l2d ((p3 % (1048576 : Int32)).toInt64))) ((FP.l2d ((p0 % (1048576 : Int32)).toInt64))) ((FP.l2d ((p4 % (1048576 : Int32)).toInt64))) ((FP.l2d ((p1 % (1048576 : Int32)).toInt64))) ((FP.l2d ((p5 % (1048576 : Int32)).toInt64))) ((FP.l2d ((p2 % (1048576 : Int32)).toInt64))) T25.heap n0 Z25 G27 G31 (show Jvm.Free.Fl.NoNaN64 (FP.dmul (FP.l2d ((p3 % (1048576 : Int32)).toInt64)) (FP.l2d ((p0 % (1048576 : Int32)).toInt64))) from own_nn (own_mi _ _)) G28 G32 (show Jvm.Free.Fl.NoNaN64 (FP.dmul (FP.l2d ((p4 % (1048576 : Int32)).toInt64)) (FP.l2d ((p1 % (1048576 : Int32)).toInt64))) from own_nn (own_mi _ _)) (show Jvm.Free.Fl.NoNaN64 (FP.dadd (FP.dmul (FP.l2d ((p3 % (1048576 : Int32)).toInt64)) (FP.l2d ((p0 % (1048576 : Int32)).toInt64))) (FP.dmul (FP.l2d ((p4 % (1048576 : Int32)).toInt64)) (FP.l2d ((p1 % (1048576 : Int32)).toInt64)))) from own_nn (own_s2 _ _ _ _)) G29 G33 (show Jvm.Free.Fl.NoNaN64 (FP.dmul (FP.l2d ((p5 % (1048576 : Int32)).toInt64)) (FP.l2d ((p2 % (1048576 : Int32)).toInt64))) from own_nn (own_mi _ _)) (show Jvm.Free.Fl.NoNaN64 (FP.dadd (FP.dadd (FP.dmul (FP.l2d ((p3 % (1048576 : Int32)).toInt64)) (FP.l2d ((p0 % (1048576 : Int32)).toInt64))) (FP.dmul (FP.l2d ((p4 % (1048576 : Int32)).toInt64)) (FP.l2d ((p1 % (1048576 : Int32)).toInt64)))) (FP.dmul (FP.l2d ((p5 % (1048576 : Int32)).toInt64)) (FP.l2d ((p2 % (1048576 : Int32)).toInt64)))) from own_nn (own_s3 _ _ _ _ _ _))) hZ (own_w hw 29 rfl) (own_w hw 7 rfl) (by decide) (by decide)) q36a q36c (g := (mkF m 111 #[.val (.int p0), .val (.int p1), .val (.int p2), .val (.int p3), .val (.int p4), .val (.int p5), .val (.long ((p0 % (1048576 : Int32)).toInt64)), .second, .val (.long ((p1 % (1048576 : Int32)).toInt64)), .second, .val (.long ((p2 % (1048576 : Int32)).toInt64)), .second, .val (.long ((p3 % (1048576 : Int32)).toInt64)), .second, .val (.long ((p4 % (1048576 : Int32)).toInt64)), .second, .val (.long ((p5 % (1048576 : Int32)).toInt64)), .second, .val (.ref b7), .val (.ref b17), .val (.long (((((p0 % (1048576 : Int32)).toInt64) * ((p3 % (1048576 : Int32)).toInt64)) + (((p1 % (1048576 : Int32)).toInt64) * ((p4 % (1048576 : Int32)).toInt64))) + (((p2 % (1048576 : Int32)).toInt64) * ((p5 % (1048576 : Int32)).toInt64)))), .second, .val (.double (FP.l2d (((((p0 % (1048576 : Int32)).toInt64) * ((p3 % (1048576 : Int32)).toInt64)) + (((p1 % (1048576 : Int32)).toInt64) * ((p4 % (1048576 : Int32)).toInt64))) + (((p2 % (1048576 : Int32)).toInt64) * ((p5 % (1048576 : Int32)).toInt64))))), .second, .val (.double (FP.dadd (FP.dadd (FP.dmul (FP.l2d ((p0 % (1048576 : Int32)).toInt64)) (FP.l2d ((p3 % (1048576 : Int32)).toInt64))) (FP.dmul (FP.l2d ((p1 % (1048576 : Int32)).toInt64)) (FP.l2d ((p4 % (1048576 : Int32)).toInt64)))) (FP.dmul (FP.l2d ((p2 % (1048576 : Int32)).toInt64)) (FP.l2d ((p5 % (1048576 : Int32)).toInt64))))), .second, .unset, .unset] [(.ref b7), (.ref b17)])) rfl (by rw [hml]; rfl) (Steps.refl _) (argsL := [(.ref b7)]) (rest := []) (lenOf own_pd3 rfl) rfl (by show 2 * 0 + _ ≤ _; exact Nat.le_of_eq rfl) (hb hby at_111) (fun _ _ => ⟨rfl, e35, (by decide : 2 + 0 ≤ _), (by decide : 6 + 0 ≤ _)⟩)
  dsimp only [Pt.U, Pt.locs, Pt.cells, Pt.slots] at X36 l36 y36 z36 st36 hQ36
  subst l36 y36 z36
  obtain ⟨rfl, N36q, e36⟩ := hQ36
  have N36 := Fr.app N35 N36q
  refine own_step (fun _ k => st36.trans k) ?_
  show own_Fin p e below s _ _ _ (T36.setTop (mkF m 114 #[.val (.int p0), .val (.int p1), .val (.int p2), .val (.int p3), .val (.int p4), .val (.int p5), .val (.long ((p0 % (1048576 : Int32)).toInt64)), .second, .val (.long ((p1 % (1048576 : Int32)).toInt64)), .second, .val (.long ((p2 % (1048576 : Int32)).toInt64)), .second, .val (.long ((p3 % (1048576 : Int32)).toInt64)), .second, .val (.long ((p4 % (1048576 : Int32)).toInt64)), .second, .val (.long ((p5 % (1048576 : Int32)).toInt64)), .second, .val (.ref b7), .val (.ref b17), .val (.long (((((p0 % (1048576 : Int32)).toInt64) * ((p3 % (1048576 : Int32)).toInt64)) + (((p1 % (1048576 : Int32)).toInt64) * ((p4 % (1048576 : Int32)).toInt64))) + (((p2 % (1048576 : Int32)).toInt64) * ((p5 % (1048576 : Int32)).toInt64)))), .second, .val (.double (FP.l2d (((((p0 % (1048576 : Int32)).toInt64) * ((p3 % (1048576 : Int32)).toInt64)) + (((p1 % (1048576 : Int32)).toInt64) * ((p4 % (1048576 : Int32)).toInt64))) + (((p2 % (1048576 : Int32)).toInt64) * ((p5 % (1048576 : Int32)).toInt64))))), .second, .val (.double (FP.dadd (FP.dadd (FP.dmul (FP.l2d ((p0 % (1048576 : Int32)).toInt64)) (FP.l2d ((p3 % (1048576 : Int32)).toInt64))) (FP.dmul (FP.l2d ((p1 % (1048576 : Int32)).toInt64)) (FP.l2d ((p4 % (1048576 : Int32)).toInt64)))) (FP.dmul (FP.l2d ((p2 % (1048576 : Int32)).toInt64)) (FP.l2d ((p5 % (1048576 : Int32)).toInt64))))), .second, .unset, .unset] [(.double (FP.dadd (FP.dadd (FP.dmul (FP.l2d ((p3 % (1048576 : Int32)).toInt64)) (FP.l2d ((p0 % (1048576 : Int32)).toInt64))) (FP.dmul (FP.l2d ((p4 % (1048576 : Int32)).toInt64)) (FP.l2d ((p1 % (1048576 : Int32)).toInt64)))) (FP.dmul (FP.l2d ((p5 % (1048576 : Int32)).toInt64)) (FP.l2d ((p2 % (1048576 : Int32)).toInt64)))))]))
  refine own_step (fun _ k => XS.dstore X36.here hx rfl (hb hby at_114) rfl (l' := #[.val (.int p0), .val (.int p1), .val (.int p2), .val (.int p3), .val (.int p4), .val (.int p5), .val (.long ((p0 % (1048576 : Int32)).toInt64)), .second, .val (.long ((p1 % (1048576 : Int32)).toInt64)), .second, .val (.long ((p2 % (1048576 : Int32)).toInt64)), .second, .val (.long ((p3 % (1048576 : Int32)).toInt64)), .second, .val (.long ((p4 % (1048576 : Int32)).toInt64)), .second, .val (.long ((p5 % (1048576 : Int32)).toInt64)), .second, .val (.ref b7), .val (.ref b17), .val (.long (((((p0 % (1048576 : Int32)).toInt64) * ((p3 % (1048576 : Int32)).toInt64)) + (((p1 % (1048576 : Int32)).toInt64) * ((p4 % (1048576 : Int32)).toInt64))) + (((p2 % (1048576 : Int32)).toInt64) * ((p5 % (1048576 : Int32)).toInt64)))), .second, .val (.double (FP.l2d (((((p0 % (1048576 : Int32)).toInt64) * ((p3 % (1048576 : Int32)).toInt64)) + (((p1 % (1048576 : Int32)).toInt64) * ((p4 % (1048576 : Int32)).toInt64))) + (((p2 % (1048576 : Int32)).toInt64) * ((p5 % (1048576 : Int32)).toInt64))))), .second, .val (.double (FP.dadd (FP.dadd (FP.dmul (FP.l2d ((p0 % (1048576 : Int32)).toInt64)) (FP.l2d ((p3 % (1048576 : Int32)).toInt64))) (FP.dmul (FP.l2d ((p1 % (1048576 : Int32)).toInt64)) (FP.l2d ((p4 % (1048576 : Int32)).toInt64)))) (FP.dmul (FP.l2d ((p2 % (1048576 : Int32)).toInt64)) (FP.l2d ((p5 % (1048576 : Int32)).toInt64))))), .second, .val (.double (FP.dadd (FP.dadd (FP.dmul (FP.l2d ((p3 % (1048576 : Int32)).toInt64)) (FP.l2d ((p0 % (1048576 : Int32)).toInt64))) (FP.dmul (FP.l2d ((p4 % (1048576 : Int32)).toInt64)) (FP.l2d ((p1 % (1048576 : Int32)).toInt64)))) (FP.dmul (FP.l2d ((p5 % (1048576 : Int32)).toInt64)) (FP.l2d ((p2 % (1048576 : Int32)).toInt64))))), .second]) rfl k) ?_
  show own_Fin p e below s _ _ _ (T36.setTop (mkF m 116 #[.val (.int p0), .val (.int p1), .val (.int p2), .val (.int p3), .val (.int p4), .val (.int p5), .val (.long ((p0 % (1048576 : Int32)).toInt64)), .second, .val (.long ((p1 % (1048576 : Int32)).toInt64)), .second, .val (.long ((p2 % (1048576 : Int32)).toInt64)), .second, .val (.long ((p3 % (1048576 : Int32)).toInt64)), .second, .val (.long ((p4 % (1048576 : Int32)).toInt64)), .second, .val (.long ((p5 % (1048576 : Int32)).toInt64)), .second, .val (.ref b7), .val (.ref b17), .val (.long (((((p0 % (1048576 : Int32)).toInt64) * ((p3 % (1048576 : Int32)).toInt64)) + (((p1 % (1048576 : Int32)).toInt64) * ((p4 % (1048576 : Int32)).toInt64))) + (((p2 % (1048576 : Int32)).toInt64) * ((p5 % (1048576 : Int32)).toInt64)))), .second, .val (.double (FP.l2d (((((p0 % (1048576 : Int32)).toInt64) * ((p3 % (1048576 : Int32)).toInt64)) + (((p1 % (1048576 : Int32)).toInt64) * ((p4 % (1048576 : Int32)).toInt64))) + (((p2 % (1048576 : Int32)).toInt64) * ((p5 % (1048576 : Int32)).toInt64))))), .second, .val (.double (FP.dadd (FP.dadd (FP.dmul (FP.l2d ((p0 % (1048576 : Int32)).toInt64)) (FP.l2d ((p3 % (1048576 : Int32)).toInt64))) (FP.dmul (FP.l2d ((p1 % (1048576 : Int32)).toInt64)) (FP.l2d ((p4 % (1048576 : Int32)).toInt64)))) (FP.dmul (FP.l2d ((p2 % (1048576 : Int32)).toInt64)) (FP.l2d ((p5 % (1048576 : Int32)).toInt64))))), .second, .val (.double (FP.dadd (FP.dadd (FP.dmul (FP.l2d ((p3 % (1048576 : Int32)).toInt64)) (FP.l2d ((p0 % (1048576 : Int32)).toInt64))) (FP.dmul (FP.l2d ((p4 % (1048576 : Int32)).toInt64)) (FP.l2d ((p1 % (1048576 : Int32)).toInt64)))) (FP.dmul (FP.l2d ((p5 % (1048576 : Int32)).toInt64)) (FP.l2d ((p2 % (1048576 : Int32)).toInt64))))), .second] []))
  refine own_step (fun _ k => XS.dload X36.here hx rfl (hb hby at_116) rfl k) ?_
  show own_Fin p e below s _ _ _ (T36.setTop (mkF m 118 #[.val (.int p0), .val (.int p1), .val (.int p2), .val (.int p3), .val (.int p4), .val (.int p5), .val (.long ((p0 % (1048576 : Int32)).toInt64)), .second, .val (.long ((p1 % (1048576 : Int32)).toInt64)), .second, .val (.long ((p2 % (1048576 : Int32)).toInt64)), .second, .val (.long ((p3 % (1048576 : Int32)).toInt64)), .second, .val (.long ((p4 % (1048576 : Int32)).toInt64)), .second, .val (.long ((p5 % (1048576 : Int32)).toInt64)), .second, .val (.ref b7), .val (.ref b17), .val (.long (((((p0 % (1048576 : Int32)).toInt64) * ((p3 % (1048576 : Int32)).toInt64)) + (((p1 % (1048576 : Int32)).toInt64) * ((p4 % (1048576 : Int32)).toInt64))) + (((p2 % (1048576 : Int32)).toInt64) * ((p5 % (1048576 : Int32)).toInt64)))), .second, .val (.double (FP.l2d (((((p0 % (1048576 : Int32)).toInt64) * ((p3 % (1048576 : Int32)).toInt64)) + (((p1 % (1048576 : Int32)).toInt64) * ((p4 % (1048576 : Int32)).toInt64))) + (((p2 % (1048576 : Int32)).toInt64) * ((p5 % (1048576 : Int32)).toInt64))))), .second, .val (.double (FP.dadd (FP.dadd (FP.dmul (FP.l2d ((p0 % (1048576 : Int32)).toInt64)) (FP.l2d ((p3 % (1048576 : Int32)).toInt64))) (FP.dmul (FP.l2d ((p1 % (1048576 : Int32)).toInt64)) (FP.l2d ((p4 % (1048576 : Int32)).toInt64)))) (FP.dmul (FP.l2d ((p2 % (1048576 : Int32)).toInt64)) (FP.l2d ((p5 % (1048576 : Int32)).toInt64))))), .second, .val (.double (FP.dadd (FP.dadd (FP.dmul (FP.l2d ((p3 % (1048576 : Int32)).toInt64)) (FP.l2d ((p0 % (1048576 : Int32)).toInt64))) (FP.dmul (FP.l2d ((p4 % (1048576 : Int32)).toInt64)) (FP.l2d ((p1 % (1048576 : Int32)).toInt64)))) (FP.dmul (FP.l2d ((p5 % (1048576 : Int32)).toInt64)) (FP.l2d ((p2 % (1048576 : Int32)).toInt64))))), .second] [(.double (FP.dadd (FP.dadd (FP.dmul (FP.l2d ((p0 % (1048576 : Int32)).toInt64)) (FP.l2d ((p3 % (1048576 : Int32)).toInt64))) (FP.dmul (FP.l2d ((p1 % (1048576 : Int32)).toInt64)) (FP.l2d ((p4 % (1048576 : Int32)).toInt64)))) (FP.dmul (FP.l2d ((p2 % (1048576 : Int32)).toInt64)) (FP.l2d ((p5 % (1048576 : Int32)).toInt64)))))]))
  refine own_step (fun _ k => XS.dload X36.here hx rfl (hb hby at_118) rfl k) ?_
  show own_Fin p e below s _ _ _ (T36.setTop (mkF m 120 #[.val (.int p0), .val (.int p1), .val (.int p2), .val (.int p3), .val (.int p4), .val (.int p5), .val (.long ((p0 % (1048576 : Int32)).toInt64)), .second, .val (.long ((p1 % (1048576 : Int32)).toInt64)), .second, .val (.long ((p2 % (1048576 : Int32)).toInt64)), .second, .val (.long ((p3 % (1048576 : Int32)).toInt64)), .second, .val (.long ((p4 % (1048576 : Int32)).toInt64)), .second, .val (.long ((p5 % (1048576 : Int32)).toInt64)), .second, .val (.ref b7), .val (.ref b17), .val (.long (((((p0 % (1048576 : Int32)).toInt64) * ((p3 % (1048576 : Int32)).toInt64)) + (((p1 % (1048576 : Int32)).toInt64) * ((p4 % (1048576 : Int32)).toInt64))) + (((p2 % (1048576 : Int32)).toInt64) * ((p5 % (1048576 : Int32)).toInt64)))), .second, .val (.double (FP.l2d (((((p0 % (1048576 : Int32)).toInt64) * ((p3 % (1048576 : Int32)).toInt64)) + (((p1 % (1048576 : Int32)).toInt64) * ((p4 % (1048576 : Int32)).toInt64))) + (((p2 % (1048576 : Int32)).toInt64) * ((p5 % (1048576 : Int32)).toInt64))))), .second, .val (.double (FP.dadd (FP.dadd (FP.dmul (FP.l2d ((p0 % (1048576 : Int32)).toInt64)) (FP.l2d ((p3 % (1048576 : Int32)).toInt64))) (FP.dmul (FP.l2d ((p1 % (1048576 : Int32)).toInt64)) (FP.l2d ((p4 % (1048576 : Int32)).toInt64)))) (FP.dmul (FP.l2d ((p2 % (1048576 : Int32)).toInt64)) (FP.l2d ((p5 % (1048576 : Int32)).toInt64))))), .second, .val (.double (FP.dadd (FP.dadd (FP.dmul (FP.l2d ((p3 % (1048576 : Int32)).toInt64)) (FP.l2d ((p0 % (1048576 : Int32)).toInt64))) (FP.dmul (FP.l2d ((p4 % (1048576 : Int32)).toInt64)) (FP.l2d ((p1 % (1048576 : Int32)).toInt64)))) (FP.dmul (FP.l2d ((p5 % (1048576 : Int32)).toInt64)) (FP.l2d ((p2 % (1048576 : Int32)).toInt64))))), .second] [(.double (FP.l2d (((((p0 % (1048576 : Int32)).toInt64) * ((p3 % (1048576 : Int32)).toInt64)) + (((p1 % (1048576 : Int32)).toInt64) * ((p4 % (1048576 : Int32)).toInt64))) + (((p2 % (1048576 : Int32)).toInt64) * ((p5 % (1048576 : Int32)).toInt64))))), (.double (FP.dadd (FP.dadd (FP.dmul (FP.l2d ((p0 % (1048576 : Int32)).toInt64)) (FP.l2d ((p3 % (1048576 : Int32)).toInt64))) (FP.dmul (FP.l2d ((p1 % (1048576 : Int32)).toInt64)) (FP.l2d ((p4 % (1048576 : Int32)).toInt64)))) (FP.dmul (FP.l2d ((p2 % (1048576 : Int32)).toInt64)) (FP.l2d ((p5 % (1048576 : Int32)).toInt64)))))]))
  refine own_step (fun _ k => XS.dcmpS X36.here hx rfl (hb hby at_120) rfl rfl k) ?_
  show own_Fin p e below s _ _ _ (T36.setTop (mkF m 121 #[.val (.int p0), .val (.int p1), .val (.int p2), .val (.int p3), .val (.int p4), .val (.int p5), .val (.long ((p0 % (1048576 : Int32)).toInt64)), .second, .val (.long ((p1 % (1048576 : Int32)).toInt64)), .second, .val (.long ((p2 % (1048576 : Int32)).toInt64)), .second, .val (.long ((p3 % (1048576 : Int32)).toInt64)), .second, .val (.long ((p4 % (1048576 : Int32)).toInt64)), .second, .val (.long ((p5 % (1048576 : Int32)).toInt64)), .second, .val (.ref b7), .val (.ref b17), .val (.long (((((p0 % (1048576 : Int32)).toInt64) * ((p3 % (1048576 : Int32)).toInt64)) + (((p1 % (1048576 : Int32)).toInt64) * ((p4 % (1048576 : Int32)).toInt64))) + (((p2 % (1048576 : Int32)).toInt64) * ((p5 % (1048576 : Int32)).toInt64)))), .second, .val (.double (FP.l2d (((((p0 % (1048576 : Int32)).toInt64) * ((p3 % (1048576 : Int32)).toInt64)) + (((p1 % (1048576 : Int32)).toInt64) * ((p4 % (1048576 : Int32)).toInt64))) + (((p2 % (1048576 : Int32)).toInt64) * ((p5 % (1048576 : Int32)).toInt64))))), .second, .val (.double (FP.dadd (FP.dadd (FP.dmul (FP.l2d ((p0 % (1048576 : Int32)).toInt64)) (FP.l2d ((p3 % (1048576 : Int32)).toInt64))) (FP.dmul (FP.l2d ((p1 % (1048576 : Int32)).toInt64)) (FP.l2d ((p4 % (1048576 : Int32)).toInt64)))) (FP.dmul (FP.l2d ((p2 % (1048576 : Int32)).toInt64)) (FP.l2d ((p5 % (1048576 : Int32)).toInt64))))), .second, .val (.double (FP.dadd (FP.dadd (FP.dmul (FP.l2d ((p3 % (1048576 : Int32)).toInt64)) (FP.l2d ((p0 % (1048576 : Int32)).toInt64))) (FP.dmul (FP.l2d ((p4 % (1048576 : Int32)).toInt64)) (FP.l2d ((p1 % (1048576 : Int32)).toInt64)))) (FP.dmul (FP.l2d ((p5 % (1048576 : Int32)).toInt64)) (FP.l2d ((p2 % (1048576 : Int32)).toInt64))))), .second] [(.int (cmpValue (FP.dcmp (FP.dadd (FP.dadd (FP.dmul (FP.l2d ((p0 % (1048576 : Int32)).toInt64)) (FP.l2d ((p3 % (1048576 : Int32)).toInt64))) (FP.dmul (FP.l2d ((p1 % (1048576 : Int32)).toInt64)) (FP.l2d ((p4 % (1048576 : Int32)).toInt64)))) (FP.dmul (FP.l2d ((p2 % (1048576 : Int32)).toInt64)) (FP.l2d ((p5 % (1048576 : Int32)).toInt64)))) (FP.l2d (((((p0 % (1048576 : Int32)).toInt64) * ((p3 % (1048576 : Int32)).toInt64)) + (((p1 % (1048576 : Int32)).toInt64) * ((p4 % (1048576 : Int32)).toInt64))) + (((p2 % (1048576 : Int32)).toInt64) * ((p5 % (1048576 : Int32)).toInt64))))) .l))]))
  have hf37 : (cmpValue (FP.dcmp (FP.dadd (FP.dadd (FP.dmul (FP.l2d ((p0 % (1048576 : Int32)).toInt64)) (FP.l2d ((p3 % (1048576 : Int32)).toInt64))) (FP.dmul (FP.l2d ((p1 % (1048576 : Int32)).toInt64)) (FP.l2d ((p4 % (1048576 : Int32)).toInt64)))) (FP.dmul (FP.l2d ((p2 % (1048576 : Int32)).toInt64)) (FP.l2d ((p5 % (1048576 : Int32)).toInt64)))) (FP.l2d (((((p0 % (1048576 : Int32)).toInt64) * ((p3 % (1048576 : Int32)).toInt64)) + (((p1 % (1048576 : Int32)).toInt64) * ((p4 % (1048576 : Int32)).toInt64))) + (((p2 % (1048576 : Int32)).toInt64) * ((p5 % (1048576 : Int32)).toInt64))))) .l) = (0 : Int32) := own_cmp (own_s3 p0 p3 p1 p4 p2 p5) (own_refd p0 p3 p1 p4 p2 p5) rfl
  refine own_step (fun _ k => XS.ifNo X36.here hx rfl (hb hby at_121) rfl ((if0 _ _).trans (teq hf37).2) k) ?_
  show own_Fin p e below s _ _ _ (T36.setTop (mkF m 124 #[.val (.int p0), .val (.int p1), .val (.int p2), .val (.int p3), .val (.int p4), .val (.int p5), .val (.long ((p0 % (1048576 : Int32)).toInt64)), .second, .val (.long ((p1 % (1048576 : Int32)).toInt64)), .second, .val (.long ((p2 % (1048576 : Int32)).toInt64)), .second, .val (.long ((p3 % (1048576 : Int32)).toInt64)), .second, .val (.long ((p4 % (1048576 : Int32)).toInt64)), .second, .val (.long ((p5 % (1048576 : Int32)).toInt64)), .second, .val (.ref b7), .val (.ref b17), .val (.long (((((p0 % (1048576 : Int32)).toInt64) * ((p3 % (1048576 : Int32)).toInt64)) + (((p1 % (1048576 : Int32)).toInt64) * ((p4 % (1048576 : Int32)).toInt64))) + (((p2 % (1048576 : Int32)).toInt64) * ((p5 % (1048576 : Int32)).toInt64)))), .second, .val (.double (FP.l2d (((((p0 % (1048576 : Int32)).toInt64) * ((p3 % (1048576 : Int32)).toInt64)) + (((p1 % (1048576 : Int32)).toInt64) * ((p4 % (1048576 : Int32)).toInt64))) + (((p2 % (1048576 : Int32)).toInt64) * ((p5 % (1048576 : Int32)).toInt64))))), .second, .val (.double (FP.dadd (FP.dadd (FP.dmul (FP.l2d ((p0 % (1048576 : Int32)).toInt64)) (FP.l2d ((p3 % (1048576 : Int32)).toInt64))) (FP.dmul (FP.l2d ((p1 % (1048576 : Int32)).toInt64)) (FP.l2d ((p4 % (1048576 : Int32)).toInt64)))) (FP.dmul (FP.l2d ((p2 % (1048576 : Int32)).toInt64)) (FP.l2d ((p5 % (1048576 : Int32)).toInt64))))), .second, .val (.double (FP.dadd (FP.dadd (FP.dmul (FP.l2d ((p3 % (1048576 : Int32)).toInt64)) (FP.l2d ((p0 % (1048576 : Int32)).toInt64))) (FP.dmul (FP.l2d ((p4 % (1048576 : Int32)).toInt64)) (FP.l2d ((p1 % (1048576 : Int32)).toInt64)))) (FP.dmul (FP.l2d ((p5 % (1048576 : Int32)).toInt64)) (FP.l2d ((p2 % (1048576 : Int32)).toInt64))))), .second] []))
  refine own_step (fun _ k => XS.dload X36.here hx rfl (hb hby at_124) rfl k) ?_
  show own_Fin p e below s _ _ _ (T36.setTop (mkF m 126 #[.val (.int p0), .val (.int p1), .val (.int p2), .val (.int p3), .val (.int p4), .val (.int p5), .val (.long ((p0 % (1048576 : Int32)).toInt64)), .second, .val (.long ((p1 % (1048576 : Int32)).toInt64)), .second, .val (.long ((p2 % (1048576 : Int32)).toInt64)), .second, .val (.long ((p3 % (1048576 : Int32)).toInt64)), .second, .val (.long ((p4 % (1048576 : Int32)).toInt64)), .second, .val (.long ((p5 % (1048576 : Int32)).toInt64)), .second, .val (.ref b7), .val (.ref b17), .val (.long (((((p0 % (1048576 : Int32)).toInt64) * ((p3 % (1048576 : Int32)).toInt64)) + (((p1 % (1048576 : Int32)).toInt64) * ((p4 % (1048576 : Int32)).toInt64))) + (((p2 % (1048576 : Int32)).toInt64) * ((p5 % (1048576 : Int32)).toInt64)))), .second, .val (.double (FP.l2d (((((p0 % (1048576 : Int32)).toInt64) * ((p3 % (1048576 : Int32)).toInt64)) + (((p1 % (1048576 : Int32)).toInt64) * ((p4 % (1048576 : Int32)).toInt64))) + (((p2 % (1048576 : Int32)).toInt64) * ((p5 % (1048576 : Int32)).toInt64))))), .second, .val (.double (FP.dadd (FP.dadd (FP.dmul (FP.l2d ((p0 % (1048576 : Int32)).toInt64)) (FP.l2d ((p3 % (1048576 : Int32)).toInt64))) (FP.dmul (FP.l2d ((p1 % (1048576 : Int32)).toInt64)) (FP.l2d ((p4 % (1048576 : Int32)).toInt64)))) (FP.dmul (FP.l2d ((p2 % (1048576 : Int32)).toInt64)) (FP.l2d ((p5 % (1048576 : Int32)).toInt64))))), .second, .val (.double (FP.dadd (FP.dadd (FP.dmul (FP.l2d ((p3 % (1048576 : Int32)).toInt64)) (FP.l2d ((p0 % (1048576 : Int32)).toInt64))) (FP.dmul (FP.l2d ((p4 % (1048576 : Int32)).toInt64)) (FP.l2d ((p1 % (1048576 : Int32)).toInt64)))) (FP.dmul (FP.l2d ((p5 % (1048576 : Int32)).toInt64)) (FP.l2d ((p2 % (1048576 : Int32)).toInt64))))), .second] [(.double (FP.dadd (FP.dadd (FP.dmul (FP.l2d ((p3 % (1048576 : Int32)).toInt64)) (FP.l2d ((p0 % (1048576 : Int32)).toInt64))) (FP.dmul (FP.l2d ((p4 % (1048576 : Int32)).toInt64)) (FP.l2d ((p1 % (1048576 : Int32)).toInt64)))) (FP.dmul (FP.l2d ((p5 % (1048576 : Int32)).toInt64)) (FP.l2d ((p2 % (1048576 : Int32)).toInt64)))))]))
  refine own_step (fun _ k => XS.dload X36.here hx rfl (hb hby at_126) rfl k) ?_
  show own_Fin p e below s _ _ _ (T36.setTop (mkF m 128 #[.val (.int p0), .val (.int p1), .val (.int p2), .val (.int p3), .val (.int p4), .val (.int p5), .val (.long ((p0 % (1048576 : Int32)).toInt64)), .second, .val (.long ((p1 % (1048576 : Int32)).toInt64)), .second, .val (.long ((p2 % (1048576 : Int32)).toInt64)), .second, .val (.long ((p3 % (1048576 : Int32)).toInt64)), .second, .val (.long ((p4 % (1048576 : Int32)).toInt64)), .second, .val (.long ((p5 % (1048576 : Int32)).toInt64)), .second, .val (.ref b7), .val (.ref b17), .val (.long (((((p0 % (1048576 : Int32)).toInt64) * ((p3 % (1048576 : Int32)).toInt64)) + (((p1 % (1048576 : Int32)).toInt64) * ((p4 % (1048576 : Int32)).toInt64))) + (((p2 % (1048576 : Int32)).toInt64) * ((p5 % (1048576 : Int32)).toInt64)))), .second, .val (.double (FP.l2d (((((p0 % (1048576 : Int32)).toInt64) * ((p3 % (1048576 : Int32)).toInt64)) + (((p1 % (1048576 : Int32)).toInt64) * ((p4 % (1048576 : Int32)).toInt64))) + (((p2 % (1048576 : Int32)).toInt64) * ((p5 % (1048576 : Int32)).toInt64))))), .second, .val (.double (FP.dadd (FP.dadd (FP.dmul (FP.l2d ((p0 % (1048576 : Int32)).toInt64)) (FP.l2d ((p3 % (1048576 : Int32)).toInt64))) (FP.dmul (FP.l2d ((p1 % (1048576 : Int32)).toInt64)) (FP.l2d ((p4 % (1048576 : Int32)).toInt64)))) (FP.dmul (FP.l2d ((p2 % (1048576 : Int32)).toInt64)) (FP.l2d ((p5 % (1048576 : Int32)).toInt64))))), .second, .val (.double (FP.dadd (FP.dadd (FP.dmul (FP.l2d ((p3 % (1048576 : Int32)).toInt64)) (FP.l2d ((p0 % (1048576 : Int32)).toInt64))) (FP.dmul (FP.l2d ((p4 % (1048576 : Int32)).toInt64)) (FP.l2d ((p1 % (1048576 : Int32)).toInt64)))) (FP.dmul (FP.l2d ((p5 % (1048576 : Int32)).toInt64)) (FP.l2d ((p2 % (1048576 : Int32)).toInt64))))), .second] [(.double (FP.l2d (((((p0 % (1048576 : Int32)).toInt64) * ((p3 % (1048576 : Int32)).toInt64)) + (((p1 % (1048576 : Int32)).toInt64) * ((p4 % (1048576 : Int32)).toInt64))) + (((p2 % (1048576 : Int32)).toInt64) * ((p5 % (1048576 : Int32)).toInt64))))), (.double (FP.dadd (FP.dadd (FP.dmul (FP.l2d ((p3 % (1048576 : Int32)).toInt64)) (FP.l2d ((p0 % (1048576 : Int32)).toInt64))) (FP.dmul (FP.l2d ((p4 % (1048576 : Int32)).toInt64)) (FP.l2d ((p1 % (1048576 : Int32)).toInt64)))) (FP.dmul (FP.l2d ((p5 % (1048576 : Int32)).toInt64)) (FP.l2d ((p2 % (1048576 : Int32)).toInt64)))))]))
  refine own_step (fun _ k => XS.dcmpS X36.here hx rfl (hb hby at_128) rfl rfl k) ?_
  show own_Fin p e below s _ _ _ (T36.setTop (mkF m 129 #[.val (.int p0), .val (.int p1), .val (.int p2), .val (.int p3), .val (.int p4), .val (.int p5), .val (.long ((p0 % (1048576 : Int32)).toInt64)), .second, .val (.long ((p1 % (1048576 : Int32)).toInt64)), .second, .val (.long ((p2 % (1048576 : Int32)).toInt64)), .second, .val (.long ((p3 % (1048576 : Int32)).toInt64)), .second, .val (.long ((p4 % (1048576 : Int32)).toInt64)), .second, .val (.long ((p5 % (1048576 : Int32)).toInt64)), .second, .val (.ref b7), .val (.ref b17), .val (.long (((((p0 % (1048576 : Int32)).toInt64) * ((p3 % (1048576 : Int32)).toInt64)) + (((p1 % (1048576 : Int32)).toInt64) * ((p4 % (1048576 : Int32)).toInt64))) + (((p2 % (1048576 : Int32)).toInt64) * ((p5 % (1048576 : Int32)).toInt64)))), .second, .val (.double (FP.l2d (((((p0 % (1048576 : Int32)).toInt64) * ((p3 % (1048576 : Int32)).toInt64)) + (((p1 % (1048576 : Int32)).toInt64) * ((p4 % (1048576 : Int32)).toInt64))) + (((p2 % (1048576 : Int32)).toInt64) * ((p5 % (1048576 : Int32)).toInt64))))), .second, .val (.double (FP.dadd (FP.dadd (FP.dmul (FP.l2d ((p0 % (1048576 : Int32)).toInt64)) (FP.l2d ((p3 % (1048576 : Int32)).toInt64))) (FP.dmul (FP.l2d ((p1 % (1048576 : Int32)).toInt64)) (FP.l2d ((p4 % (1048576 : Int32)).toInt64)))) (FP.dmul (FP.l2d ((p2 % (1048576 : Int32)).toInt64)) (FP.l2d ((p5 % (1048576 : Int32)).toInt64))))), .second, .val (.double (FP.dadd (FP.dadd (FP.dmul (FP.l2d ((p3 % (1048576 : Int32)).toInt64)) (FP.l2d ((p0 % (1048576 : Int32)).toInt64))) (FP.dmul (FP.l2d ((p4 % (1048576 : Int32)).toInt64)) (FP.l2d ((p1 % (1048576 : Int32)).toInt64)))) (FP.dmul (FP.l2d ((p5 % (1048576 : Int32)).toInt64)) (FP.l2d ((p2 % (1048576 : Int32)).toInt64))))), .second] [(.int (cmpValue (FP.dcmp (FP.dadd (FP.dadd (FP.dmul (FP.l2d ((p3 % (1048576 : Int32)).toInt64)) (FP.l2d ((p0 % (1048576 : Int32)).toInt64))) (FP.dmul (FP.l2d ((p4 % (1048576 : Int32)).toInt64)) (FP.l2d ((p1 % (1048576 : Int32)).toInt64)))) (FP.dmul (FP.l2d ((p5 % (1048576 : Int32)).toInt64)) (FP.l2d ((p2 % (1048576 : Int32)).toInt64)))) (FP.l2d (((((p0 % (1048576 : Int32)).toInt64) * ((p3 % (1048576 : Int32)).toInt64)) + (((p1 % (1048576 : Int32)).toInt64) * ((p4 % (1048576 : Int32)).toInt64))) + (((p2 % (1048576 : Int32)).toInt64) * ((p5 % (1048576 : Int32)).toInt64))))) .l))]))
  have hf38 : (cmpValue (FP.dcmp (FP.dadd (FP.dadd (FP.dmul (FP.l2d ((p3 % (1048576 : Int32)).toInt64)) (FP.l2d ((p0 % (1048576 : Int32)).toInt64))) (FP.dmul (FP.l2d ((p4 % (1048576 : Int32)).toInt64)) (FP.l2d ((p1 % (1048576 : Int32)).toInt64)))) (FP.dmul (FP.l2d ((p5 % (1048576 : Int32)).toInt64)) (FP.l2d ((p2 % (1048576 : Int32)).toInt64)))) (FP.l2d (((((p0 % (1048576 : Int32)).toInt64) * ((p3 % (1048576 : Int32)).toInt64)) + (((p1 % (1048576 : Int32)).toInt64) * ((p4 % (1048576 : Int32)).toInt64))) + (((p2 % (1048576 : Int32)).toInt64) * ((p5 % (1048576 : Int32)).toInt64))))) .l) = (0 : Int32) := own_cmp (own_s3 p3 p0 p4 p1 p5 p2) (own_refd p0 p3 p1 p4 p2 p5) (by rw [Int.mul_comm (own_c p3), Int.mul_comm (own_c p4), Int.mul_comm (own_c p5)])
  refine own_step (fun _ k => XS.ifNo X36.here hx rfl (hb hby at_129) rfl ((if0 _ _).trans (teq hf38).2) k) ?_
  show own_Fin p e below s _ _ _ (T36.setTop (mkF m 132 #[.val (.int p0), .val (.int p1), .val (.int p2), .val (.int p3), .val (.int p4), .val (.int p5), .val (.long ((p0 % (1048576 : Int32)).toInt64)), .second, .val (.long ((p1 % (1048576 : Int32)).toInt64)), .second, .val (.long ((p2 % (1048576 : Int32)).toInt64)), .second, .val (.long ((p3 % (1048576 : Int32)).toInt64)), .second, .val (.long ((p4 % (1048576 : Int32)).toInt64)), .second, .val (.long ((p5 % (1048576 : Int32)).toInt64)), .second, .val (.ref b7), .val (.ref b17), .val (.long (((((p0 % (1048576 : Int32)).toInt64) * ((p3 % (1048576 : Int32)).toInt64)) + (((p1 % (1048576 : Int32)).toInt64) * ((p4 % (1048576 : Int32)).toInt64))) + (((p2 % (1048576 : Int32)).toInt64) * ((p5 % (1048576 : Int32)).toInt64)))), .second, .val (.double (FP.l2d (((((p0 % (1048576 : Int32)).toInt64) * ((p3 % (1048576 : Int32)).toInt64)) + (((p1 % (1048576 : Int32)).toInt64) * ((p4 % (1048576 : Int32)).toInt64))) + (((p2 % (1048576 : Int32)).toInt64) * ((p5 % (1048576 : Int32)).toInt64))))), .second, .val (.double (FP.dadd (FP.dadd (FP.dmul (FP.l2d ((p0 % (1048576 : Int32)).toInt64)) (FP.l2d ((p3 % (1048576 : Int32)).toInt64))) (FP.dmul (FP.l2d ((p1 % (1048576 : Int32)).toInt64)) (FP.l2d ((p4 % (1048576 : Int32)).toInt64)))) (FP.dmul (FP.l2d ((p2 % (1048576 : Int32)).toInt64)) (FP.l2d ((p5 % (1048576 : Int32)).toInt64))))), .second, .val (.double (FP.dadd (FP.dadd (FP.dmul (FP.l2d ((p3 % (1048576 : Int32)).toInt64)) (FP.l2d ((p0 % (1048576 : Int32)).toInt64))) (FP.dmul (FP.l2d ((p4 % (1048576 : Int32)).toInt64)) (FP.l2d ((p1 % (1048576 : Int32)).toInt64)))) (FP.dmul (FP.l2d ((p5 % (1048576 : Int32)).toInt64)) (FP.l2d ((p2 % (1048576 : Int32)).toInt64))))), .second] []))
  refine own_step (fun _ k => XS.iconst X36.here hx rfl (hb hby at_132) k) ?_
  show own_Fin p e below s _ _ _ (T36.setTop (mkF m 133 #[.val (.int p0), .val (.int p1), .val (.int p2), .val (.int p3), .val (.int p4), .val (.int p5), .val (.long ((p0 % (1048576 : Int32)).toInt64)), .second, .val (.long ((p1 % (1048576 : Int32)).toInt64)), .second, .val (.long ((p2 % (1048576 : Int32)).toInt64)), .second, .val (.long ((p3 % (1048576 : Int32)).toInt64)), .second, .val (.long ((p4 % (1048576 : Int32)).toInt64)), .second, .val (.long ((p5 % (1048576 : Int32)).toInt64)), .second, .val (.ref b7), .val (.ref b17), .val (.long (((((p0 % (1048576 : Int32)).toInt64) * ((p3 % (1048576 : Int32)).toInt64)) + (((p1 % (1048576 : Int32)).toInt64) * ((p4 % (1048576 : Int32)).toInt64))) + (((p2 % (1048576 : Int32)).toInt64) * ((p5 % (1048576 : Int32)).toInt64)))), .second, .val (.double (FP.l2d (((((p0 % (1048576 : Int32)).toInt64) * ((p3 % (1048576 : Int32)).toInt64)) + (((p1 % (1048576 : Int32)).toInt64) * ((p4 % (1048576 : Int32)).toInt64))) + (((p2 % (1048576 : Int32)).toInt64) * ((p5 % (1048576 : Int32)).toInt64))))), .second, .val (.double (FP.dadd (FP.dadd (FP.dmul (FP.l2d ((p0 % (1048576 : Int32)).toInt64)) (FP.l2d ((p3 % (1048576 : Int32)).toInt64))) (FP.dmul (FP.l2d ((p1 % (1048576 : Int32)).toInt64)) (FP.l2d ((p4 % (1048576 : Int32)).toInt64)))) (FP.dmul (FP.l2d ((p2 % (1048576 : Int32)).toInt64)) (FP.l2d ((p5 % (1048576 : Int32)).toInt64))))), .second, .val (.double (FP.dadd (FP.dadd (FP.dmul (FP.l2d ((p3 % (1048576 : Int32)).toInt64)) (FP.l2d ((p0 % (1048576 : Int32)).toInt64))) (FP.dmul (FP.l2d ((p4 % (1048576 : Int32)).toInt64)) (FP.l2d ((p1 % (1048576 : Int32)).toInt64)))) (FP.dmul (FP.l2d ((p5 % (1048576 : Int32)).toInt64)) (FP.l2d ((p2 % (1048576 : Int32)).toInt64))))), .second] [(.int (1 : Int32))]))
  refine own_step (fun _ k => XS.goto X36.here hx rfl (pc0 := 133) (pc' := 137) rfl (hb hby at_133) (by decide) (by decide) k) ?_
  show own_Fin p e below s _ _ _ (T36.setTop (mkF m 137 #[.val (.int p0), .val (.int p1), .val (.int p2), .val (.int p3), .val (.int p4), .val (.int p5), .val (.long ((p0 % (1048576 : Int32)).toInt64)), .second, .val (.long ((p1 % (1048576 : Int32)).toInt64)), .second, .val (.long ((p2 % (1048576 : Int32)).toInt64)), .second, .val (.long ((p3 % (1048576 : Int32)).toInt64)), .second, .val (.long ((p4 % (1048576 : Int32)).toInt64)), .second, .val (.long ((p5 % (1048576 : Int32)).toInt64)), .second, .val (.ref b7), .val (.ref b17), .val (.long (((((p0 % (1048576 : Int32)).toInt64) * ((p3 % (1048576 : Int32)).toInt64)) + (((p1 % (1048576 : Int32)).toInt64) * ((p4 % (1048576 : Int32)).toInt64))) + (((p2 % (1048576 : Int32)).toInt64) * ((p5 % (1048576 : Int32)).toInt64)))), .second, .val (.double (FP.l2d (((((p0 % (1048576 : Int32)).toInt64) * ((p3 % (1048576 : Int32)).toInt64)) + (((p1 % (1048576 : Int32)).toInt64) * ((p4 % (1048576 : Int32)).toInt64))) + (((p2 % (1048576 : Int32)).toInt64) * ((p5 % (1048576 : Int32)).toInt64))))), .second, .val (.double (FP.dadd (FP.dadd (FP.dmul (FP.l2d ((p0 % (1048576 : Int32)).toInt64)) (FP.l2d ((p3 % (1048576 : Int32)).toInt64))) (FP.dmul (FP.l2d ((p1 % (1048576 : Int32)).toInt64)) (FP.l2d ((p4 % (1048576 : Int32)).toInt64)))) (FP.dmul (FP.l2d ((p2 % (1048576 : Int32)).toInt64)) (FP.l2d ((p5 % (1048576 : Int32)).toInt64))))), .second, .val (.double (FP.dadd (FP.dadd (FP.dmul (FP.l2d ((p3 % (1048576 : Int32)).toInt64)) (FP.l2d ((p0 % (1048576 : Int32)).toInt64))) (FP.dmul (FP.l2d ((p4 % (1048576 : Int32)).toInt64)) (FP.l2d ((p1 % (1048576 : Int32)).toInt64)))) (FP.dmul (FP.l2d ((p5 % (1048576 : Int32)).toInt64)) (FP.l2d ((p2 % (1048576 : Int32)).toInt64))))), .second] [(.int (1 : Int32))]))
  exact own_ret X36 hlk (v := some (.int (1 : Int32))) (fun h => by rw [Bd.returns] at h; cases h) (by decide) (by decide) (by show own_Q5 Z p0 p1 p2 p3 p4 p5 h0 n0 _ T36.heap _; rw [e36]; exact ⟨rfl, N36⟩) (fun fs hr => retN X36 hx (t := .boolean) Bd.returns (by simp) (hb hby at_137) hr)

set_option maxRecDepth 65536 in
set_option maxHeartbeats 40000000 in
theorem comes_1 {Post : Tables → Env → Array Value → State → Outcome → State → Prop} (hpost : ∀ tb e args s v u, (limb_1_1.after args s (.returned v) u = true ∧ limb_1_2.after args s (.returned v) u = true ∧ True) → FrameEnd s (.returned v) u (Jvm.fieldLocs frame_1_writes args s ++ Jvm.arrayLocs frame_1_arrays args s ++ Jvm.staticLocs frame_1_statics s) 16 128 → Post tb e args s (.returned v) u) :
    ArmFor flags0 classFile x code maxLocals ret World_1 tables_1 room_1 Calls_1 rest_1 Pre_1 Post := by
  intro l hfl _ _ p e ha hc hk s m args below hf hA hF happ hP
  obtain ⟨hcalls, hrest, hpre⟩ := hP
  obtain ⟨-, -, -, hnamed, -, -, -, hat⟩ := (Spec.applies_iff hf).mp happ
  obtain ⟨hg, hn⟩ := and_e (Cond.before_iff.mp (show (Jvm.Cond.and given_1 narrow_1).before args s = true from hpre))
  obtain ⟨cj1a, cj1b⟩ := and_e hg
  obtain ⟨cj2a, cj2b⟩ := and_e cj1b
  obtain ⟨cj3a, cj3b⟩ := and_e cj2b
  obtain ⟨cj4a, cj4b⟩ := and_e cj3b
  obtain ⟨cj5a, cj5b⟩ := and_e cj4b
  obtain ⟨cj6a, cj6b⟩ := and_e cj5b
  obtain ⟨w0, w1, w2, w3, w4, w5, rfl⟩ : ∃ w0 w1 w2 w3 w4 w5 : Value, args = #[w0, w1, w2, w3, w4, w5] := by
    have hs : args.size = 6 := by simpa [Cond.value, given_1] using cj1a
    obtain ⟨L⟩ := args
    match L, hs with
    | [w0, w1, w2, w3, w4, w5], _ => exact ⟨w0, w1, w2, w3, w4, w5, rfl⟩
  have hw := fun d (hd : d ∈ tables_1) => atoms_spec (ws := Jvm.Cond.code x code maxLocals ret :: tables_1) hat d (List.mem_cons_of_mem _ hd)
  have hfit : Fit s := fun {y c} hc i hi => by
    obtain ⟨ha, rfl⟩ := Array.getElem?_eq_some_iff.mp hc
    have q := List.all_eq_true.mp ((Array.all_eq_true_iff_forall_mem.mp hF) _ (Array.getElem_mem ha)) i (List.mem_range.mpr hi)
    simpa [Array.getElem?_eq_getElem hi] using q
  obtain ⟨i0, ei0⟩ := is_v cj2a
  obtain rfl : w0 = (.int i0) := Option.some.inj ei0
  obtain ⟨i1, ei1⟩ := is_v cj3a
  obtain rfl : w1 = (.int i1) := Option.some.inj ei1
  obtain ⟨i2, ei2⟩ := is_v cj4a
  obtain rfl : w2 = (.int i2) := Option.some.inj ei2
  obtain ⟨i3, ei3⟩ := is_v cj5a
  obtain rfl : w3 = (.int i3) := Option.some.inj ei3
  obtain ⟨i4, ei4⟩ := is_v cj6a
  obtain rfl : w4 = (.int i4) := Option.some.inj ei4
  obtain ⟨i5, ei5⟩ := is_v cj6b
  obtain rfl : w5 = (.int i5) := Option.some.inj ei5
  obtain ⟨n, o, h1, h2, h3, _, L, rfl, ⟨rfl, N⟩, hq⟩ := own_rm5 l s _ hw tables_1 i0 i1 i2 i3 i4 i5 s.heap s.heap.size (Nat.le_refl _)  p e ha hc hk s m _ below hf ((Spec.applies_iff_loose hf).mp happ).1 ⟨rfl, State.Warmed39.refl s, rfl⟩ trivial
  refine ⟨n, _, h1, h2, h3, hpost _ _ _ _ _ _ ⟨Cond.after_iff.mpr rfl, Cond.after_iff.mpr (eq_i res_at (Term.int_eval (1)) rfl), trivial⟩ ⟨hq.1, hq.2.1, (hq.2.2.sift fun y hy => Or.inr (N y hy)).mono (by decide) (by decide)⟩⟩
theorem main_1_1 : Claimed_1_1 := comes_1 fun _ _ _ _ _ _ h hF => ⟨h.1, hF⟩
theorem main_1_2 : Claimed_1_2 := comes_1 fun _ _ _ _ _ _ h hF => ⟨h.2.1, hF⟩
end Jvm.Pilot.@@N@@
namespace Jvm.Pilot.@@N@@
open Jvm Jvm.ClassFile Sem Op Lib Jvm.Free Jvm.Stand Jvm.Pilot.@@N@@.Jvm.D
/-! MADE BY PROGRAM (witnessworld.py) out of the Statement's table words and the real class files: 10 classes; the members and pool entries that the words name. The judged class is class 1, her method 2. -/
namespace start1
open Jvm.ClassFile
def u (s : String) : CpInfo := .utf8 (stringToUtf16 s)
/-- a pool by its gaps: so many unusable entries, then the entry; so many at the end -/
def gap : Nat → List CpInfo → List CpInfo
  | 0, r => r
  | n + 1, r => .unusable :: gap n r
def poolList (es : List (Nat × CpInfo)) (last : Nat) : List CpInfo := es.foldr (fun e r => gap e.1 (e.2 :: r)) (gap last [])
def pool (es : List (Nat × CpInfo)) (last : Nat) : Array CpInfo := ⟨poolList es last⟩
def fileOf (pool : Array CpInfo) (this : Nat) (attrs : Array Attribute := #[]) (ms : Array MethodInfo := #[]) (fl : Nat := 33) (sup : Nat := 0) (ifs : Array Nat := #[]) (fds : Array FieldInfo := #[]) : ClassFile where
  minorVersion := 0
  majorVersion := 65
  constantPool := pool
  accessFlags := fl
  thisClass := this
  superClass := sup
  interfaces := ifs
  fields := fds
  methods := ms
  attributes := attrs
def plain (name : String) (sup : Option ClassId) : Class where
  name := name
  kind := .ordinary
  loader := none
  accessFlags := 33
  super := sup
  interfaces := #[]
  cf := none
  fields := #[]
  methods := #[]
  instanceTypes := #[]
  staticTypes := #[]
  resolved := #[]
  callSites := []
  init := .initialized
  statics := none
  mirror := none

def pool0 : Array CpInfo := pool [(5, u "<init>"), (0, u "()V"), (1, .class_ 10), (1, u "java/lang/Object")] 113

def k0c0 : Code := { maxStack := 0, maxLocals := 1, code := object_method_1_code, exceptionTable := #[], attributes := #[] }
def k0m0 : Method := { name := "<init>", desc := "()V", sig := { parameters := [], returnType := none }, accessFlags := 1, code := some k0c0 }
/-- java/lang/Object -/
def k0 : Class := { plain "java/lang/Object" none with
  accessFlags := 33
  interfaces := #[]
  cf := some (fileOf pool0 8 #[] #[{ accessFlags := 1, nameIndex := 5, descriptorIndex := 6, attributes := #[] }] 33 0 #[] #[])
  fields := #[]
  methods := #[k0m0]
  instanceTypes := #[]
  staticTypes := #[]
  resolved := Array.replicate 124 none
  statics := none }

def pool1 : Array CpInfo := pool [(2, .class_ 4), (1, u "java/lang/Object"), (0, u "<init>"), (0, u "()V"), (0, .integer 1048576), (0, .methodref 9 10), (0, .class_ 11), (0, .nameAndType 12 13), (0, u "com/example/taproom/taproom/geometry/VectorDotPinLaw"), (0, u "comp"), (0, u "(I)J"), (0, .class_ 15), (0, u "com/example/taproom/taproom/geometry/Vector"), (0, .methodref 14 17), (0, .nameAndType 5 18), (0, u "(DDD)V"), (0, .methodref 14 20), (0, .nameAndType 21 22), (0, u "dot"), (0, u "(Lcom/example/taproom/taproom/geometry/Vector;)D"), (2, u "law"), (0, u "(IIIIII)Z")] 3

def k1m0 : Method := { name := "<init>", desc := "()V", sig := { parameters := [], returnType := none }, accessFlags := 1, code := none }
def k1c1 : Code := { maxStack := 2, maxLocals := 1, code := method_2_code, exceptionTable := #[], attributes := #[] }
def k1m1 : Method := { name := "comp", desc := "(I)J", sig := { parameters := [.int], returnType := some .long }, accessFlags := 10, code := some k1c1 }
def k1c2 : Code := { maxStack := 8, maxLocals := 28, code := code, exceptionTable := #[], attributes := #[] }
def k1m2 : Method := { name := "law", desc := "(IIIIII)Z", sig := { parameters := [.int, .int, .int, .int, .int, .int], returnType := some .boolean }, accessFlags := 9, code := some k1c2 }
/-- com/example/taproom/taproom/geometry/VectorDotPinLaw -/
def k1 : Class := { plain "com/example/taproom/taproom/geometry/VectorDotPinLaw" (some 0) with
  accessFlags := 49
  interfaces := #[]
  cf := some (fileOf pool1 9 #[] #[{ accessFlags := 1, nameIndex := 5, descriptorIndex := 6, attributes := #[] }, { accessFlags := 10, nameIndex := 12, descriptorIndex := 13, attributes := #[] }, { accessFlags := 9, nameIndex := 25, descriptorIndex := 26, attributes := #[] }] 49 2 #[] #[])
  fields := #[]
  methods := #[k1m0, k1m1, k1m2]
  instanceTypes := #[]
  staticTypes := #[]
  resolved := Array.replicate 30 none
  statics := none }

def pool2 : Array CpInfo := pool [(1, .methodref 2 3), (0, .class_ 4), (0, .nameAndType 5 6), (0, u "java/lang/Object"), (0, u "<init>"), (0, u "()V"), (0, .class_ 8), (0, u "java/lang/Record")] 13

def k2c0 : Code := { maxStack := 1, maxLocals := 1, code := jdk_30_method_1_code, exceptionTable := #[], attributes := #[] }
def k2m0 : Method := { name := "<init>", desc := "()V", sig := { parameters := [], returnType := none }, accessFlags := 4, code := some k2c0 }
/-- java/lang/Record -/
def k2 : Class := { plain "java/lang/Record" (some 0) with
  accessFlags := 1057
  interfaces := #[]
  cf := some (fileOf pool2 7 #[] #[{ accessFlags := 4, nameIndex := 5, descriptorIndex := 6, attributes := #[] }] 1057 2 #[] #[])
  fields := #[]
  methods := #[k2m0]
  instanceTypes := #[]
  staticTypes := #[]
  resolved := Array.replicate 22 none
  statics := none }

def pool3 : Array CpInfo := pool [(1, .methodref 2 3), (0, .class_ 4), (0, .nameAndType 5 6), (0, u "java/lang/Record"), (0, u "<init>"), (0, u "()V"), (0, .fieldref 8 9), (0, .class_ 10), (0, .nameAndType 11 12), (0, u "com/example/taproom/taproom/geometry/Vector"), (0, u "x"), (0, u "D"), (0, .fieldref 8 14), (0, .nameAndType 15 12), (0, u "y"), (0, .fieldref 8 17), (0, .nameAndType 18 12), (0, u "z"), (14, u "(DDD)V"), (29, u "dot"), (0, u "(Lcom/example/taproom/taproom/geometry/Vector;)D")] 67

def k3c0 : Code := { maxStack := 3, maxLocals := 7, code := prog_28_method_1_code, exceptionTable := #[], attributes := #[] }
def k3m0 : Method := { name := "<init>", desc := "(DDD)V", sig := { parameters := [.double, .double, .double], returnType := none }, accessFlags := 1, code := some k3c0 }
def k3c1 : Code := { maxStack := 6, maxLocals := 2, code := prog_28_method_5_code, exceptionTable := #[], attributes := #[] }
def k3m1 : Method := { name := "dot", desc := "(Lcom/example/taproom/taproom/geometry/Vector;)D", sig := { parameters := [(.object "com/example/taproom/taproom/geometry/Vector")], returnType := some .double }, accessFlags := 0, code := some k3c1 }
/-- com/example/taproom/taproom/geometry/Vector -/
def k3 : Class := { plain "com/example/taproom/taproom/geometry/Vector" (some 2) with
  accessFlags := 49
  interfaces := #[]
  cf := some (fileOf pool3 8 #[] #[{ accessFlags := 1, nameIndex := 5, descriptorIndex := 33, attributes := #[] }, { accessFlags := 0, nameIndex := 63, descriptorIndex := 64, attributes := #[] }] 49 2 #[] #[{ accessFlags := 18, nameIndex := 11, descriptorIndex := 12, attributes := #[] }, { accessFlags := 18, nameIndex := 15, descriptorIndex := 12, attributes := #[] }, { accessFlags := 18, nameIndex := 18, descriptorIndex := 12, attributes := #[] }])
  fields := #[{ name := "x", type := .double, accessFlags := 18, slot := 0, constantValue := 0 }, { name := "y", type := .double, accessFlags := 18, slot := 1, constantValue := 0 }, { name := "z", type := .double, accessFlags := 18, slot := 2, constantValue := 0 }]
  methods := #[k3m0, k3m1]
  instanceTypes := #[.double, .double, .double]
  staticTypes := #[]
  resolved := Array.replicate 132 none
  statics := none }

def pool4 : Array CpInfo := pool [(1, u "java/lang/Cloneable"), (0, .class_ 1), (0, u "java/lang/Object"), (0, .class_ 3)] 3

/-- java/lang/Cloneable -/
def k4 : Class := { plain "java/lang/Cloneable" (some 0) with
  accessFlags := 1537
  interfaces := #[]
  cf := some (fileOf pool4 2 #[] #[] 1537 4 #[] #[])
  fields := #[]
  methods := #[]
  instanceTypes := #[]
  staticTypes := #[]
  resolved := Array.replicate 8 none
  statics := none }

def pool5 : Array CpInfo := pool [(1, u "java/io/Serializable"), (0, .class_ 1), (0, u "java/lang/Object"), (0, .class_ 3)] 3

/-- java/io/Serializable -/
def k5 : Class := { plain "java/io/Serializable" (some 0) with
  accessFlags := 1537
  interfaces := #[]
  cf := some (fileOf pool5 2 #[] #[] 1537 4 #[] #[])
  fields := #[]
  methods := #[]
  instanceTypes := #[]
  staticTypes := #[]
  resolved := Array.replicate 8 none
  statics := none }

/-- the primitive byte -/
def k6 : Class := { plain "byte" none with kind := .primitive 'B', accessFlags := 0x411 }
/-- [B -/
def k7 : Class := { plain "[B" (some 0) with kind := .array 6 .byte, interfaces := #[4, 5], accessFlags := 1041 }

/-- the primitive int -/
def k8 : Class := { plain "int" none with kind := .primitive 'I', accessFlags := 0x411 }
/-- [I -/
def k9 : Class := { plain "[I" (some 0) with kind := .array 8 .int, interfaces := #[4, 5], accessFlags := 1041 }

def heap : Heap := #[]
def classes : Array Class := #[k0, k1, k2, k3, k4, k5, k6, k7, k8, k9]
def interned : List (Array UInt16 × Addr) := []
def slotsUsed : Nat := 0
def theMethod : MethodId := ⟨1, 2⟩
def args0 : Array Value := #[.int 5, .int 7, .int 1, .int 2, .int 1, .int 9]
def aboutOver (below : List Frame) : State where
  vm := { classes := classes, interned := interned.toArray }
  heap := heap
  slotsUsed := slotsUsed
  threads := #[{ frames := .invoking theMethod args0 :: below }]
def below0 : List Frame := [.native { method := ⟨0, 0⟩, args := #[] }]
def about1 : State := aboutOver below0
def p0 : Program := .bare "" "" ""
def e0 : Env := launch0.env 0 0 0
theorem w_frames : about1.frames = Frame.invoking theMethod args0 :: below0 := rfl
set_option maxRecDepth 65536 in
theorem w_args : argsFit about1.vm theMethod args0 = true := by decide +kernel
set_option maxRecDepth 65536 in
theorem w_heap : heapFits about1 = true := by decide +kernel
set_option maxRecDepth 65536 in
theorem w_runnable : about1.curStatus? = some .runnable := by decide +kernel
set_option maxRecDepth 65536 in
theorem w_alone : about1.alone = true := by decide +kernel
set_option maxRecDepth 65536 in
theorem w_named : about1.methodNamed? x = some theMethod := by decide +kernel
set_option maxRecDepth 65536 in
theorem w_hears : about1.hears theMethod below0 = true := by decide +kernel
set_option maxRecDepth 65536 in
theorem w_ripe : about1.ripe theMethod args0 below0 = true := by decide +kernel
theorem w_running : about1.status = .running := rfl
set_option maxRecDepth 65536 in
theorem w_room : about1.hasRoom e0.platform room_1 = true :=
  launch0.hasRoom_least _ room_1 (by decide +kernel) (by decide +kernel) (by decide +kernel) (by decide +kernel) (by decide +kernel) (by decide +kernel)
theorem allAtoms_all (ts : List Jvm.Cond) (a : Array Jvm.Value) (st : Jvm.State) : (allAtoms ts).before a st = ts.all (fun c => c.before a st) := by
  induction ts with
  | nil => rfl
  | cons c t ih =>
    show (Jvm.Cond.and c (allAtoms t)).before a st = _
    rw [Jvm.Cond.before_and, ih, List.all_cons]
def words1 : List Jvm.Cond := Jvm.Cond.code x code maxLocals ret :: tables_1
/-- a 'code' word, met by the world's own term for the bytes: nothing is compared byte by byte -/
theorem code_word {y : MethodName} {bytes : ByteArray} {mx : Nat} {rt : Option FieldType} {a : Array Value} {s : State} {m : MethodId} {meth : Method} {c : Code} (h1 : s.methodNamed? y = some m) (h2 : s.vm.method? m = some meth) (h3 : meth.code = some c) (h4 : c.code = bytes)
    (h5 : (c.maxLocals == mx && c.exceptionTable.isEmpty && decide (c.maxStack ≤ mostOperands) && decide (meth.sig.returnType = rt) && !meth.locks && decide (parseMethodDescriptor y.desc = some meth.sig)) = true) : (Jvm.Cond.code y bytes mx rt).before a s = true := by
  simp only [Bool.and_eq_true, beq_iff_eq, Bool.not_eq_true', decide_eq_true_eq] at h5
  obtain ⟨⟨⟨⟨⟨g1, g2⟩, g3⟩, g4⟩, g5⟩, g6⟩ := h5
  simp [Cond.before, Cond.holds, Cond.value, h1, h2, h3, h4, g1, g2, g3, g4, g5, g6]
def isCode : Jvm.Cond → Bool
  | .code _ _ _ _ => true
  | _ => false
theorem all_split {L : List Jvm.Cond} {P : Jvm.Cond → Bool} (h1 : L.all (fun c => isCode c || P c) = true) (h2 : ∀ c ∈ L.filter isCode, P c = true) : L.all P = true := by
  refine List.all_eq_true.mpr fun c hc => ?_
  have h := List.all_eq_true.mp h1 c hc
  rcases Bool.eq_false_or_eq_true (isCode c) with hi | hi
  · exact h2 c (List.mem_filter.mpr ⟨hc, hi⟩)
  · simpa [hi] using h
set_option maxRecDepth 65536 in
theorem w_c0 : (Jvm.Cond.code x code maxLocals ret).before args0 about1 = true := code_word (m := ⟨1, 2⟩) (meth := k1m2) (c := k1c2) (by decide +kernel) rfl rfl rfl (by decide +kernel)
set_option maxRecDepth 65536 in
theorem w_c1 : (Jvm.Cond.code ({ cls := "com/example/taproom/taproom/geometry/VectorDotPinLaw", name := "comp", desc := "(I)J" } : Jvm.MethodName) method_2_code (1 : Nat) (Option.some Jvm.ClassFile.FieldType.long)).before args0 about1 = true := code_word (m := ⟨1, 1⟩) (meth := k1m1) (c := k1c1) (by decide +kernel) rfl rfl rfl (by decide +kernel)
set_option maxRecDepth 65536 in
theorem w_c2 : (Jvm.Cond.code ({ cls := "com/example/taproom/taproom/geometry/Vector", name := "<init>", desc := "(DDD)V" } : Jvm.MethodName) prog_28_method_1_code (7 : Nat) (Option.none : Option Jvm.ClassFile.FieldType)).before args0 about1 = true := code_word (m := ⟨3, 0⟩) (meth := k3m0) (c := k3c0) (by decide +kernel) rfl rfl rfl (by decide +kernel)
set_option maxRecDepth 65536 in
theorem w_c3 : (Jvm.Cond.code ({ cls := "java/lang/Record", name := "<init>", desc := "()V" } : Jvm.MethodName) jdk_30_method_1_code (1 : Nat) (Option.none : Option Jvm.ClassFile.FieldType)).before args0 about1 = true := code_word (m := ⟨2, 0⟩) (meth := k2m0) (c := k2c0) (by decide +kernel) rfl rfl rfl (by decide +kernel)
set_option maxRecDepth 65536 in
theorem w_c4 : (Jvm.Cond.code ({ cls := "java/lang/Object", name := "<init>", desc := "()V" } : Jvm.MethodName) object_method_1_code (1 : Nat) (Option.none : Option Jvm.ClassFile.FieldType)).before args0 about1 = true := code_word (m := ⟨0, 0⟩) (meth := k0m0) (c := k0c0) (by decide +kernel) rfl rfl rfl (by decide +kernel)
set_option maxRecDepth 65536 in
theorem w_c5 : (Jvm.Cond.code ({ cls := "com/example/taproom/taproom/geometry/Vector", name := "dot", desc := "(Lcom/example/taproom/taproom/geometry/Vector;)D" } : Jvm.MethodName) prog_28_method_5_code (2 : Nat) (Option.some Jvm.ClassFile.FieldType.double)).before args0 about1 = true := code_word (m := ⟨3, 1⟩) (meth := k3m1) (c := k3c1) (by decide +kernel) rfl rfl rfl (by decide +kernel)
def codes1 : List Jvm.Cond := [Jvm.Cond.code x code maxLocals ret, Jvm.Cond.code ({ cls := "com/example/taproom/taproom/geometry/VectorDotPinLaw", name := "comp", desc := "(I)J" } : Jvm.MethodName) method_2_code (1 : Nat) (Option.some Jvm.ClassFile.FieldType.long), Jvm.Cond.code ({ cls := "com/example/taproom/taproom/geometry/Vector", name := "<init>", desc := "(DDD)V" } : Jvm.MethodName) prog_28_method_1_code (7 : Nat) (Option.none : Option Jvm.ClassFile.FieldType), Jvm.Cond.code ({ cls := "java/lang/Record", name := "<init>", desc := "()V" } : Jvm.MethodName) jdk_30_method_1_code (1 : Nat) (Option.none : Option Jvm.ClassFile.FieldType), Jvm.Cond.code ({ cls := "java/lang/Object", name := "<init>", desc := "()V" } : Jvm.MethodName) object_method_1_code (1 : Nat) (Option.none : Option Jvm.ClassFile.FieldType), Jvm.Cond.code ({ cls := "com/example/taproom/taproom/geometry/Vector", name := "dot", desc := "(Lcom/example/taproom/taproom/geometry/Vector;)D" } : Jvm.MethodName) prog_28_method_5_code (2 : Nat) (Option.some Jvm.ClassFile.FieldType.double)]
set_option maxRecDepth 65536 in
theorem codes_eq : words1.filter isCode = codes1 := rfl
theorem w_codes : ∀ c ∈ words1.filter isCode, c.before args0 about1 = true := by
  rw [codes_eq]
  intro c hc
  simp only [codes1, List.mem_cons, List.not_mem_nil, or_false] at hc
  rcases hc with rfl | rfl | rfl | rfl | rfl | rfl
  · exact w_c0
  · exact w_c1
  · exact w_c2
  · exact w_c3
  · exact w_c4
  · exact w_c5
set_option maxRecDepth 65536 in
theorem w_t1 : (words1.take 24).all (fun c => isCode c || c.before args0 about1) = true := by decide +kernel
set_option maxRecDepth 65536 in
theorem w_t2 : (words1.drop 24).all (fun c => isCode c || c.before args0 about1) = true := by decide +kernel
theorem w_tables : (allAtoms (Jvm.Cond.code x code maxLocals ret :: tables_1)).before args0 about1 = true := by
  rw [allAtoms_all]
  show words1.all (fun c => c.before args0 about1) = true
  refine all_split ?_ w_codes
  rw [← List.take_append_drop 24 words1, List.all_append, w_t1, w_t2]
  rfl
set_option maxRecDepth 65536 in
theorem w_case : (Jvm.Cond.and given_1 narrow_1).before args0 about1 = true := by decide +kernel
theorem w_applies : (headSpec (Jvm.Cond.code x code maxLocals ret :: tables_1) room_1).applies x e0.platform about1 = true :=
  (Spec.applies_iff w_frames).mpr ⟨w_running, w_runnable, w_alone, w_named, w_hears, w_ripe, w_room, w_tables⟩
theorem atStart : AtStart classFile x code maxLocals ret World_1 tables_1 room_1 Calls_1 rest_1 Pre_1 launch0 p0 e0 about1 theMethod args0 below0 :=
  ⟨lists_1, trivial, launch0.admits_env _ _ _, launch0.least_env, fairChoices_fair.cas, fairChoices_fair.clock, w_frames, w_args, w_heap, w_applies, trivial, trivial, w_case⟩
end start1
theorem witness_1 : WitnessClaimed_1 := ⟨start1.p0, start1.e0, start1.about1, start1.theMethod, start1.args0, start1.below0, start1.atStart⟩
end Jvm.Pilot.@@N@@
